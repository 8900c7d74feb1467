import JvmDerived
import JvmDerived.Pilot.@@N@@Statement
import JvmDerived.Pilot.@@N@@Code
set_option linter.unusedVariables false
set_option linter.unusedSimpArgs false
namespace Jvm.Pilot.@@N@@
open Jvm Jvm.ClassFile Sem Op Lib Jvm.Free Jvm.Stand Jvm.LawKit Jvm.RoadKit Bundle Jvm.Pilot.@@N@@.Jvm.D
/-! a run from here comes to the end of the invocation, and Q holds there -/
section OwnWp
variable {p : Program} {l : Launch} {e : Env} {R : Room} {s : State} {m : MethodId} {args : Array Value} {below : List Frame} {meth : Method} {c : Code} {T : State} {locs : List Loc} {cells slots : Nat}
def Wp (p : Program) (e : Env) (below : List Frame) (Q : Outcome → State → Prop) (A : State) : Prop := ∃ s₂ o, Steps p.tables e below A s₂ ∧ s₂.status = .running ∧ Ended s₂ below o ∧ Q o s₂
def Out (s : State) (Q : Option Value → Heap → List Loc → Prop) (k n : Nat) (o : Outcome) (t : State) : Prop := ∃ v L, o = .returned v ∧ Q v t.heap L ∧ FrameEnd s o t L k n
theorem Wp.step {Q : Outcome → State → Prop} {A B : State} (h : ∀ t, Steps p.tables e below B t → Steps p.tables e below A t) (k : Wp p e below Q B) : Wp p e below Q A := by
  obtain ⟨s₂, o, h1, h2⟩ := k; exact ⟨s₂, o, h _ h1, h2⟩
theorem Wp.go {Q : Outcome → State → Prop} {A B : State} (h : Steps p.tables e below A B) (k : Wp p e below Q B) : Wp p e below Q A := Wp.step (fun _ q => h.trans q) k
theorem Wp.out (X : Stand p l e R s m args below meth c T locs cells slots) {A : State} {v : Option Value} {Q : Option Value → Heap → List Loc → Prop} {k n : Nat} (hv : meth.sig.returnType = none → v = none) (hlk : meth.locks = false)
    (hs : ∀ fs, (∀ (f : JFrame) (acts : List Action), f.method = m → f.locked = none → f.entered = [] → (doReturn e (T.setTop f) acts v).1 = T.setFrames fs) → Steps p.tables e below A (T.setFrames fs)) (hQ : Q v T.heap locs) (hk : cells ≤ k) (hn : slots ≤ n) : Wp p e below (Out s Q k n) A := by
  obtain ⟨fs, hr, hrun, hended, hW, hsame⟩ := X.leave (v := v) hv hlk
  exact ⟨_, _, hs fs hr, hrun, hended, _, _, rfl, hQ, ⟨_, rfl⟩, hW, hsame.mono hk hn⟩
theorem Wp.retV (X : Stand p l e R s m args below meth c T locs cells slots) (hx : p.tables.exec = Jvm.exec) {pc : Nat} {Ls : Array Slot} {Q : Option Value → Heap → List Loc → Prop} {k n : Nat} (hret : meth.sig.returnType = none) (hd : decode c.code pc = .ok (.return_, 1)) (hlk : meth.locks = false)
    (hQ : Q none T.heap locs) (hk : cells ≤ k) (hn : slots ≤ n) : Wp p e below (Out s Q k n) (T.setTop (mkF m pc Ls [])) := Wp.out X (fun _ => rfl) hlk (fun fs hr => X.returnOut hx hret hd hr) hQ hk hn
theorem Wp.retN (X : Stand p l e R s m args below meth c T locs cells slots) (hx : p.tables.exec = Jvm.exec) {pc : Nat} {Ls : Array Slot} {z : Int32} {rest : List Value} {t : FieldType} {Q : Option Value → Heap → List Loc → Prop} {k n : Nat} (hret : meth.sig.returnType = some t) (ht : t = .boolean ∨ t = .byte ∨ t = .char ∨ t = .short) (hd : decode c.code pc = .ok (.ireturn, 1)) (hlk : meth.locks = false)
    (hQ : Q (some (.int (nar t z))) T.heap locs) (hk : cells ≤ k) (hn : slots ≤ n) : Wp p e below (Out s Q k n) (T.setTop (mkF m pc Ls (.int z :: rest))) := Wp.out X (fun h => by rw [hret] at h; cases h) hlk (fun fs hr => Jvm.RoadKit.retN X hx hret ht hd hr) hQ hk hn
theorem Wp.retI (X : Stand p l e R s m args below meth c T locs cells slots) (hx : p.tables.exec = Jvm.exec) {pc : Nat} {Ls : Array Slot} {z : Int32} {rest : List Value} {Q : Option Value → Heap → List Loc → Prop} {k n : Nat} (hret : meth.sig.returnType = some .int) (hd : decode c.code pc = .ok (.ireturn, 1)) (hlk : meth.locks = false)
    (hQ : Q (some (.int z)) T.heap locs) (hk : cells ≤ k) (hn : slots ≤ n) : Wp p e below (Out s Q k n) (T.setTop (mkF m pc Ls (.int z :: rest))) := Wp.out X (fun h => by rw [hret] at h; cases h) hlk (fun fs hr => Jvm.RoadKit.retOut X hx hret rfl (Or.inl ⟨rfl, Or.inl rfl, z, rfl⟩) hd hr) hQ hk hn
theorem Wp.retJ (X : Stand p l e R s m args below meth c T locs cells slots) (hx : p.tables.exec = Jvm.exec) {pc : Nat} {Ls : Array Slot} {z : Int64} {rest : List Value} {Q : Option Value → Heap → List Loc → Prop} {k n : Nat} (hret : meth.sig.returnType = some .long) (hd : decode c.code pc = .ok (.lreturn, 1)) (hlk : meth.locks = false)
    (hQ : Q (some (.long z)) T.heap locs) (hk : cells ≤ k) (hn : slots ≤ n) : Wp p e below (Out s Q k n) (T.setTop (mkF m pc Ls (.long z :: rest))) := Wp.out X (fun h => by rw [hret] at h; cases h) hlk (fun fs hr => Jvm.RoadKit.retOut X hx hret rfl (Or.inr (Or.inl ⟨rfl, rfl, z, rfl⟩)) hd hr) hQ hk hn
theorem Wp.retA (X : Stand p l e R s m args below meth c T locs cells slots) (hx : p.tables.exec = Jvm.exec) {pc : Nat} {Ls : Array Slot} {w : Value} {rest : List Value} {t : FieldType} {Q : Option Value → Heap → List Loc → Prop} {k n : Nat} (hret : meth.sig.returnType = some t) (hw : w.isRef = true) (hd : decode c.code pc = .ok (.areturn, 1)) (hlk : meth.locks = false)
    (hQ : Q (some w) T.heap locs) (hk : cells ≤ k) (hn : slots ≤ n) (ht : t.isReference = true := by rfl) : Wp p e below (Out s Q k n) (T.setTop (mkF m pc Ls (w :: rest))) := Wp.out X (fun h => by rw [hret] at h; cases h) hlk (fun fs hr => Jvm.RoadKit.retOut X hx hret (by cases t <;> first | (cases ht; done) | (cases w <;> first | (cases hw; done) | rfl)) (Or.inr (Or.inr (Or.inr (Or.inr ⟨rfl, ht, hw⟩)))) hd hr) hQ hk hn
def OutW (s : State) (Q : Option Value → Heap → List Loc → Prop) (k n : Nat) (o : Outcome) (t : State) : Prop := ∃ v L, o = .returned v ∧ Q v t.heap L ∧ ReturnedEndW s o t L k n
theorem Wp.outW {vm0 : Vm} {k0 : Nat} (X : Stand p l e R (s.setVm vm0) m args below meth c T locs cells slots) (hS : s.Since vm0 k0) (hk0 : k0 ≤ T.heap.size) {A : State} {v : Option Value} {Q : Option Value → Heap → List Loc → Prop} {k n : Nat} (hv : meth.sig.returnType = none → v = none) (hlk : meth.locks = false)
    (hs : ∀ fs, (∀ (f : JFrame) (acts : List Action), f.method = m → f.locked = none → f.entered = [] → (doReturn e (T.setTop f) acts v).1 = T.setFrames fs) → Steps p.tables e below A (T.setFrames fs)) (hQ : Q v T.heap locs) (hk : cells ≤ k) (hn : slots ≤ n) : Wp p e below (OutW s Q k n) A := by
  obtain ⟨fs, hr, hrun, hended, h1, h2, h3, h4⟩ := X.leaveW hS hk0 (v := v) hv hlk
  exact ⟨_, _, hs fs hr, hrun, hended, _, _, rfl, hQ, h1, h2, h3, h4.mono hk hn⟩
theorem Wp.retVW {vm0 : Vm} {k0 : Nat} (X : Stand p l e R (s.setVm vm0) m args below meth c T locs cells slots) (hS : s.Since vm0 k0) (hk0 : k0 ≤ T.heap.size) (hx : p.tables.exec = Jvm.exec) {pc : Nat} {Ls : Array Slot} {Q : Option Value → Heap → List Loc → Prop} {k n : Nat} (hret : meth.sig.returnType = none) (hd : decode c.code pc = .ok (.return_, 1)) (hlk : meth.locks = false)
    (hQ : Q none T.heap locs) (hk : cells ≤ k) (hn : slots ≤ n) : Wp p e below (OutW s Q k n) (T.setTop (mkF m pc Ls [])) := Wp.outW X hS hk0 (fun _ => rfl) hlk (fun fs hr => X.returnOut hx hret hd hr) hQ hk hn
theorem Wp.retNW {vm0 : Vm} {k0 : Nat} (X : Stand p l e R (s.setVm vm0) m args below meth c T locs cells slots) (hS : s.Since vm0 k0) (hk0 : k0 ≤ T.heap.size) (hx : p.tables.exec = Jvm.exec) {pc : Nat} {Ls : Array Slot} {z : Int32} {rest : List Value} {t : FieldType} {Q : Option Value → Heap → List Loc → Prop} {k n : Nat} (hret : meth.sig.returnType = some t) (ht : t = .boolean ∨ t = .byte ∨ t = .char ∨ t = .short) (hd : decode c.code pc = .ok (.ireturn, 1)) (hlk : meth.locks = false)
    (hQ : Q (some (.int (nar t z))) T.heap locs) (hk : cells ≤ k) (hn : slots ≤ n) : Wp p e below (OutW s Q k n) (T.setTop (mkF m pc Ls (.int z :: rest))) := Wp.outW X hS hk0 (fun h => by rw [hret] at h; cases h) hlk (fun fs hr => Jvm.RoadKit.retN X hx hret ht hd hr) hQ hk hn
theorem Wp.retIW {vm0 : Vm} {k0 : Nat} (X : Stand p l e R (s.setVm vm0) m args below meth c T locs cells slots) (hS : s.Since vm0 k0) (hk0 : k0 ≤ T.heap.size) (hx : p.tables.exec = Jvm.exec) {pc : Nat} {Ls : Array Slot} {z : Int32} {rest : List Value} {Q : Option Value → Heap → List Loc → Prop} {k n : Nat} (hret : meth.sig.returnType = some .int) (hd : decode c.code pc = .ok (.ireturn, 1)) (hlk : meth.locks = false)
    (hQ : Q (some (.int z)) T.heap locs) (hk : cells ≤ k) (hn : slots ≤ n) : Wp p e below (OutW s Q k n) (T.setTop (mkF m pc Ls (.int z :: rest))) := Wp.outW X hS hk0 (fun h => by rw [hret] at h; cases h) hlk (fun fs hr => Jvm.RoadKit.retOut X hx hret rfl (Or.inl ⟨rfl, Or.inl rfl, z, rfl⟩) hd hr) hQ hk hn
theorem Wp.retAW {vm0 : Vm} {k0 : Nat} (X : Stand p l e R (s.setVm vm0) m args below meth c T locs cells slots) (hS : s.Since vm0 k0) (hk0 : k0 ≤ T.heap.size) (hx : p.tables.exec = Jvm.exec) {pc : Nat} {Ls : Array Slot} {w : Value} {rest : List Value} {t : FieldType} {Q : Option Value → Heap → List Loc → Prop} {k n : Nat} (hret : meth.sig.returnType = some t) (hw : w.isRef = true) (hd : decode c.code pc = .ok (.areturn, 1)) (hlk : meth.locks = false)
    (hQ : Q (some w) T.heap locs) (hk : cells ≤ k) (hn : slots ≤ n) (ht : t.isReference = true := by rfl) : Wp p e below (OutW s Q k n) (T.setTop (mkF m pc Ls (w :: rest))) := Wp.outW X hS hk0 (fun h => by rw [hret] at h; cases h) hlk (fun fs hr => Jvm.RoadKit.retOut X hx hret (by cases t <;> first | (cases ht; done) | (cases w <;> first | (cases hw; done) | rfl)) (Or.inr (Or.inr (Or.inr (Or.inr ⟨rfl, ht, hw⟩)))) hd hr) hQ hk hn
end OwnWp
theorem own_selP {Z s : State} {a0 args : Array Value} {y : MethodName} {n : Nat} (hZ : Z.Warmed39 s.vm) (wi : (Jvm.Cond.instantiable y.cls n).before a0 Z = true) (wp : (Jvm.Cond.privateMethod y).before a0 Z = true) (wm : (Jvm.Cond.instanceMethod y).before a0 Z = true) (hy : y.cls ≠ "java/lang/invoke/MethodHandle" ∧ y.cls ≠ "java/lang/invoke/VarHandle") : (Jvm.Cond.selects y.cls y y).before args s = true := by
  obtain ⟨c, k, h1, h2, -, h4, -⟩ := Cond.instantiable_spec (show (Jvm.Cond.instantiable y.cls n).before args s = true from mvT hZ wi)
  exact selects_self_of_private h1 h2 (by cases hq : k.isInterface <;> simp [hq] at h4 ⊢) (Cond.privateMethod_at (mvP hZ wp (args := #[]))) (mvT hZ wm) hy
theorem own_hk {k : Nat} {T : State} {h : Heap} (e : T.heap = h) (q : k ≤ h.size) : k ≤ T.heap.size := by rw [e]; exact q
theorem own_ns {Z : State} {h : Heap} {a : Addr} {C : String} (E : Exa Z h a C) : ∃ c : Cell, h[a]? = some c ∧ c.vm.isStatics = false := by obtain ⟨c, k, h1, h2, h3, h4, h5⟩ := E; exact ⟨c, h1, h4⟩
theorem own_sta_keep {Z : State} {h h' : Heap} {ws : List Addr} {C n d : String} {v : Value} (F : Sta Z h C n d v) (K : Keep h h' ws) (q : ∀ x ∈ ws, ∃ c : Cell, h[x]? = some c ∧ c.vm.isStatics = false) : Sta Z h' C n d v := by
  obtain ⟨cf, i, k, f, st, cell, h1, h2, h3, h4, h5, h6, h7⟩ := F
  refine ⟨cf, i, k, f, st, cell, h1, h2, h3, h4, K.2.1 st cell h5 fun hm => ?_, h6, h7⟩
  obtain ⟨c, q1, q2⟩ := q st hm
  rw [h5] at q1; cases q1; rw [h6] at q2; cases q2
theorem own_ne_cls {Z : State} {h : Heap} {a b : Addr} {C D : String} (E : Exa Z h a C) (F : Exa Z h b D) (q : C ≠ D) : a ≠ b := fun e => by
  subst e
  obtain ⟨c, k, h1, h2, -⟩ := E; obtain ⟨c', k', g1, g2, -⟩ := F
  rw [h1] at g1; cases g1
  obtain ⟨z, z1, z2⟩ := Vm.findClass_spec h2; obtain ⟨w, w1, w2⟩ := Vm.findClass_spec g2
  rw [z1] at w1; cases w1; exact q (z2.symm.trans w2)
theorem own_nfc {args : Array Value} {s : State} {C : String} {x z y : MethodName} (hsel : (Jvm.Cond.selects C x z).before args s = true) (hc : z.cls = y.cls) : NotFace s y := fun r0 h0 => by
  obtain ⟨c2, r2, m2, q1, q2, q3, q4, kP, hkP, hkPi⟩ := Cond.selects_spec hsel
  have e1 := findClass_of_methodNamed h0
  have e2 := findClass_of_methodNamed q3
  rw [hc, e1] at e2
  exact ⟨kP, by rw [Option.some.inj e2]; exact hkP, hkPi⟩
theorem own_wS {Z : State} {a0 : Array Value} (hw : ∀ d ∈ tables_1, d.before a0 Z = true) : ∀ a ∈ Bundle.stringAtoms, a.before a0 Z = true := fun d hd => by
  simp only [Bundle.stringAtoms, List.mem_cons, List.not_mem_nil, or_false] at hd
  rcases hd with rfl | rfl | rfl | rfl | rfl | rfl | rfl
  · exact (hw _ (List.mem_of_getElem? (i := 34) rfl))
  · exact (hw _ (List.mem_of_getElem? (i := 35) rfl))
  · exact (hw _ (List.mem_of_getElem? (i := 36) rfl))
  · exact (hw _ (List.mem_of_getElem? (i := 37) rfl))
  · exact (hw _ (List.mem_of_getElem? (i := 38) rfl))
  · exact (hw _ (List.mem_of_getElem? (i := 39) rfl))
  · exact (hw _ (List.mem_of_getElem? (i := 40) rfl))
/-! the plain part: 64-bit and 128-bit whole numbers, read as natural numbers -/
def own_u (x : Int64) : Nat := x.toBitVec.toNat
def own_U (a b : Int64) : Nat := own_u a * 2 ^ 64 + own_u b
theorem own_u_lt (x : Int64) : own_u x < 2 ^ 64 := x.toBitVec.isLt
theorem own_u_mul (a b : Int64) : own_u (a * b) = own_u a * own_u b % 2 ^ 64 := by unfold own_u; rw [Int64.toBitVec_mul, BitVec.toNat_mul]
theorem own_u_add (a b : Int64) : own_u (a + b) = (own_u a + own_u b) % 2 ^ 64 := by unfold own_u; rw [Int64.toBitVec_add, BitVec.toNat_add]
theorem own_u_sub (a b : Int64) : own_u (a - b) = (2 ^ 64 - own_u b + own_u a) % 2 ^ 64 := by unfold own_u; rw [Int64.toBitVec_sub, BitVec.toNat_sub]
theorem own_u_inj {a b : Int64} (h : own_u a = own_u b) : a = b := Int64.toBitVec_inj.mp (BitVec.eq_of_toNat_eq h)
theorem own_u_toInt (x : Int64) : x.toInt = if own_u x < 2 ^ 63 then (own_u x : Int) else (own_u x : Int) - 2 ^ 64 := by
  have := own_u_lt x
  unfold own_u at *
  rw [← Int64.toInt_toBitVec, BitVec.toInt_eq_toNat_cond]
  split <;> split <;> omega
theorem own_u_nn {x : Int64} (h : ¬ x < 0) : own_u x < 2 ^ 63 := by
  rw [Int64.lt_iff_toInt_lt, own_u_toInt x] at h
  have := own_u_lt x
  simp only [Int64.reduceToInt] at h
  split at h <;> omega
theorem own_u_pos {x : Int64} (h : ¬ x < 1) : own_u x < 2 ^ 63 ∧ 1 ≤ own_u x := by
  rw [Int64.lt_iff_toInt_lt, own_u_toInt x] at h
  have := own_u_lt x
  simp only [Int64.reduceToInt] at h
  split at h <;> omega
theorem own_u_lt_iff {a b : Int64} (ha : own_u a < 2 ^ 63) (hb : own_u b < 2 ^ 63) : a < b ↔ own_u a < own_u b := by
  rw [Int64.lt_iff_toInt_lt, own_u_toInt a, own_u_toInt b, if_pos ha, if_pos hb]; omega
theorem own_u_msb {x : Int64} (h : own_u x < 2 ^ 63) : x.toBitVec.msb = false := by
  rw [BitVec.msb_eq_decide]; unfold own_u at h; simpa using h
theorem own_u_shr32 {x : Int64} (h : own_u x < 2 ^ 63) : own_u (x >>> ((32 : Int32) &&& 0x3f).toInt64) = own_u x / 2 ^ 32 := by
  unfold own_u
  rw [Int64.toBitVec_shiftRight, BitVec.sshiftRight', show ((((32 : Int32) &&& 0x3f).toInt64).toBitVec.smod 64).toNat = 32 by decide, BitVec.sshiftRight_eq_of_msb_false (own_u_msb h), BitVec.toNat_ushiftRight, Nat.shiftRight_eq_div_pow]
theorem own_u_shr63 {x : Int64} (h : own_u x < 2 ^ 63) : (x >>> ((63 : Int32) &&& 0x3f).toInt64) = 0 := by
  apply own_u_inj
  have h' := h
  unfold own_u at h ⊢
  rw [Int64.toBitVec_shiftRight, BitVec.sshiftRight', show ((((63 : Int32) &&& 0x3f).toInt64).toBitVec.smod 64).toNat = 63 by decide, BitVec.sshiftRight_eq_of_msb_false (own_u_msb h'), BitVec.toNat_ushiftRight, Nat.shiftRight_eq_div_pow, Nat.div_eq_of_lt h]; rfl
theorem own_u_ushr (x : Int64) {n : Int32} (hn : ¬ n < 0) (h2 : n.toInt < 64) : own_u ((x.toUInt64 >>> (n &&& 0x3f).toInt64.toUInt64).toInt64) = own_u x / 2 ^ n.toInt.toNat := by
  rw [Int32.lt_iff_toInt_lt] at hn
  simp only [Int32.reduceToInt] at hn
  obtain ⟨k, hk⟩ : ∃ k : Nat, n.toInt = k := ⟨n.toInt.toNat, by omega⟩
  have hk64 : k < 64 := by omega
  obtain rfl : n = Int32.ofNat k := Int32.toInt_inj.mp (by rw [hk, Int32.toInt_ofNat_of_lt (by omega)])
  rw [hk]
  unfold own_u
  have e : ((x.toUInt64 >>> ((Int32.ofNat k &&& 0x3f).toInt64.toUInt64)).toInt64).toBitVec = x.toBitVec >>> k := by
    have q : ∀ k : Fin 64, ((Int32.ofNat k.val &&& 0x3f).toInt64.toUInt64 % 64).toBitVec.toNat = k.val := by decide
    have := q ⟨k, hk64⟩
    show (x.toUInt64 >>> ((Int32.ofNat k &&& 0x3f).toInt64.toUInt64)).toBitVec = _
    rw [UInt64.toBitVec_shiftRight, BitVec.ushiftRight_eq']
    show x.toBitVec >>> ((Int32.ofNat k &&& 0x3f).toInt64.toUInt64 % 64).toBitVec.toNat = _
    rw [this]
  rw [e, BitVec.toNat_ushiftRight, Nat.shiftRight_eq_div_pow]; simp
theorem own_u_shl1 (x : Int64) : own_u (x <<< ((1 : Int32) &&& 0x3f).toInt64) = own_u x * 2 % 2 ^ 64 := by
  unfold own_u
  rw [Int64.toBitVec_shiftLeft, BitVec.shiftLeft_eq', show ((((1 : Int32) &&& 0x3f).toInt64).toBitVec.smod 64).toNat = 1 by decide, BitVec.toNat_shiftLeft, Nat.shiftLeft_eq]
theorem own_u_mask (x : Int64) : own_u (x &&& 4294967295) = own_u x % 2 ^ 32 := by
  unfold own_u
  rw [Int64.toBitVec_and, BitVec.toNat_and, show (4294967295 : Int64).toBitVec.toNat = 2 ^ 32 - 1 by decide, Nat.and_two_pow_sub_one_eq_mod]
theorem own_u_low (x : Int64) : own_u (x &&& 1) = own_u x % 2 := by
  unfold own_u
  rw [Int64.toBitVec_and, BitVec.toNat_and, show (1 : Int64).toBitVec.toNat = 2 ^ 1 - 1 by decide, Nat.and_two_pow_sub_one_eq_mod]
theorem own_u_or {x y : Int64} {k : Nat} (hx : own_u x = 2 * k) (hy : own_u y < 2) : own_u (x ||| y) = own_u x + own_u y := by
  unfold own_u at *
  rw [Int64.toBitVec_or, BitVec.toNat_or, hx]
  have := @Nat.two_pow_add_eq_or_of_lt 1 y.toBitVec.toNat (by simpa using hy) k
  simp at this; exact this.symm
theorem own_u_div {a b : Int64} (ha : own_u a < 2 ^ 63) (hb : own_u b < 2 ^ 63) : own_u (a / b) = own_u a / own_u b := by
  have h1 := own_u_msb ha; have h2 := own_u_msb hb
  unfold own_u
  rw [Int64.toBitVec_div, BitVec.sdiv_eq, h1, h2]; simp
/-! the product -/
def own_mh2 (x1 x2 y1 y2 t : Int64) : Int64 := (((x1 * y1) + (t >>> ((32 : Int32) &&& 0x3f).toInt64)) + (((t &&& (4294967295 : Int64)) + (x2 * y1)) >>> ((32 : Int32) &&& 0x3f).toInt64))
def own_mh1 (x1 x2 y1 y2 : Int64) : Int64 := own_mh2 x1 x2 y1 y2 ((x1 * y2) + (((x2 * y2).toUInt64 >>> ((32 : Int32) &&& 0x3f).toInt64.toUInt64).toInt64))
def own_mh (x y : Int64) : Int64 := own_mh1 (x >>> ((32 : Int32) &&& 0x3f).toInt64) (x &&& (4294967295 : Int64)) (y >>> ((32 : Int32) &&& 0x3f).toInt64) (y &&& (4294967295 : Int64))
theorem own_mul_lt {a b p q : Nat} (ha : a < p) (hb : b < q) : a * b ≤ (p - 1) * (q - 1) := Nat.mul_le_mul (by omega) (by omega)
theorem own_mh_spec {x y : Int64} (hx : own_u x < 2 ^ 63) (hy : own_u y < 2 ^ 63) : own_u (own_mh x y) = own_u x * own_u y / 2 ^ 64 := by
  unfold own_mh
  have a1 := own_u_shr32 hx; have a2 := own_u_mask x; have a3 := own_u_shr32 hy; have a4 := own_u_mask y
  generalize (x >>> ((32 : Int32) &&& 0x3f).toInt64) = x1 at *
  generalize (x &&& (4294967295 : Int64)) = x2 at *
  generalize (y >>> ((32 : Int32) &&& 0x3f).toInt64) = y1 at *
  generalize (y &&& (4294967295 : Int64)) = y2 at *
  have e1 : own_u x = own_u x1 * 2 ^ 32 + own_u x2 := by omega
  have e2 : own_u y = own_u y1 * 2 ^ 32 + own_u y2 := by omega
  have b1 : own_u x1 < 2 ^ 31 := by omega
  have b2 : own_u x2 < 2 ^ 32 := by omega
  have b3 : own_u y1 < 2 ^ 31 := by omega
  have b4 : own_u y2 < 2 ^ 32 := by omega
  have e3 : own_u x * own_u y = own_u x1 * own_u y1 * 2 ^ 64 + (own_u x1 * own_u y2 + own_u x2 * own_u y1) * 2 ^ 32 + own_u x2 * own_u y2 := by
    rw [e1, e2]; simp only [Nat.add_mul, Nat.mul_add]
    have i1 : own_u x1 * 2 ^ 32 * (own_u y1 * 2 ^ 32) = own_u x1 * own_u y1 * 2 ^ 64 := by rw [Nat.mul_mul_mul_comm]
    have i2 : own_u x1 * 2 ^ 32 * own_u y2 = own_u x1 * own_u y2 * 2 ^ 32 := Nat.mul_right_comm _ _ _
    have i3 : own_u x2 * (own_u y1 * 2 ^ 32) = own_u x2 * own_u y1 * 2 ^ 32 := (Nat.mul_assoc _ _ _).symm
    rw [i1, i2, i3]; omega
  have cA := own_mul_lt b1 b3; have cB := own_mul_lt b1 b4; have cC := own_mul_lt b2 b3; have cD := own_mul_lt b2 b4
  have f1 := own_u_mul x2 y2; have f2 := own_u_mul x1 y2; have f3 := own_u_mul x2 y1; have f4 := own_u_mul x1 y1
  generalize hA : own_u x1 * own_u y1 = A at *; generalize hB : own_u x1 * own_u y2 = B at *; generalize hC : own_u x2 * own_u y1 = C at *; generalize hD : own_u x2 * own_u y2 = D at *
  have f5 := own_u_ushr (x2 * y2) (n := 32) (by decide) (by decide)
  rw [show (32 : Int32).toInt.toNat = 32 by decide] at f5
  unfold own_mh1
  have f6 := own_u_add (x1 * y2) (((x2 * y2).toUInt64 >>> ((32 : Int32) &&& 0x3f).toInt64.toUInt64).toInt64)
  rw [f5, f2, f1] at f6
  generalize ((x1 * y2) + (((x2 * y2).toUInt64 >>> ((32 : Int32) &&& 0x3f).toInt64.toUInt64).toInt64)) = t at *
  have t1 : own_u t = B + D / 2 ^ 32 := by omega
  have t2 : own_u t < 2 ^ 63 := by omega
  unfold own_mh2
  have g1 := own_u_mask t
  have g2 := own_u_add (t &&& (4294967295 : Int64)) (x2 * y1)
  have g3 : own_u ((t &&& (4294967295 : Int64)) + (x2 * y1)) < 2 ^ 63 := by omega
  rw [own_u_add, own_u_add, own_u_shr32 t2, own_u_shr32 g3, g2, g1, f3, f4, t1, e3]
  omega
def own_ph (x y : Int64) : Int64 := ((own_mh x y + ((x >>> ((63 : Int32) &&& 0x3f).toInt64) &&& y)) + ((y >>> ((63 : Int32) &&& 0x3f).toInt64) &&& x))
theorem own_prod {x y : Int64} (hx : own_u x < 2 ^ 63) (hy : own_u y < 2 ^ 63) : own_U (own_ph x y) (x * y) = own_u x * own_u y := by
  have := own_mh_spec hx hy
  unfold own_U own_ph
  rw [own_u_shr63 hx, own_u_shr63 hy, Int64.zero_and, Int64.zero_and, Int64.add_zero, Int64.add_zero, this, own_u_mul]
  omega
/-! the quotient -/
def own_dq2 (q r d : Int64) : Int64 := (q + (((r ||| ((r - d) ^^^ (-1 : Int64))).toUInt64 >>> ((63 : Int32) &&& 0x3f).toInt64.toUInt64).toInt64))
def own_dq1 (n d q : Int64) : Int64 := own_dq2 q (n - (q * d)) d
def own_dq (n d : Int64) : Int64 := own_dq1 n d ((((n.toUInt64 >>> ((1 : Int32) &&& 0x3f).toInt64.toUInt64).toInt64) / d) <<< ((1 : Int32) &&& 0x3f).toInt64)
theorem own_u_top (x y : Int64) : own_u (x ||| y) / 2 ^ 63 = if own_u x < 2 ^ 63 ∧ own_u y < 2 ^ 63 then 0 else 1 := by
  have h := own_u_lt (x ||| y)
  have q : (x ||| y).toBitVec.msb = (x.toBitVec.msb || y.toBitVec.msb) := by rw [Int64.toBitVec_or, BitVec.msb_or]
  rw [BitVec.msb_eq_decide, BitVec.msb_eq_decide, BitVec.msb_eq_decide] at q
  change decide (2 ^ (64 - 1) ≤ own_u (x ||| y)) = (decide (2 ^ (64 - 1) ≤ own_u x) || decide (2 ^ (64 - 1) ≤ own_u y)) at q
  by_cases c1 : own_u x < 2 ^ 63 <;> by_cases c2 : own_u y < 2 ^ 63
  · rw [if_pos ⟨c1, c2⟩]; have : ¬ 2 ^ (64 - 1) ≤ own_u (x ||| y) := by
      intro z; rw [decide_eq_true z, decide_eq_false (by omega), decide_eq_false (by omega)] at q; cases q
    omega
  all_goals
    rw [if_neg (by omega)]
    have : 2 ^ (64 - 1) ≤ own_u (x ||| y) := by
      apply of_decide_eq_true; rw [q, Bool.or_eq_true]
      first | exact Or.inr (decide_eq_true (by omega)) | exact Or.inl (decide_eq_true (by omega))
    omega
theorem own_u_not (x : Int64) : own_u (x ^^^ (-1 : Int64)) = 2 ^ 64 - 1 - own_u x := by
  have e : x ^^^ (-1 : Int64) = ~~~ x := by
    apply Int64.toBitVec_inj.mp
    rw [Int64.toBitVec_xor, Int64.toBitVec_not, show (-1 : Int64).toBitVec = BitVec.allOnes 64 by decide, BitVec.xor_allOnes]
  rw [e]; unfold own_u; rw [Int64.toBitVec_not, BitVec.toNat_not]
theorem own_dq_spec (n : Int64) {d : Int64} (hd : own_u d < 2 ^ 63) (h1 : 1 ≤ own_u d) : own_u (own_dq n d) = own_u n / own_u d := by
  unfold own_dq
  have a1 := own_u_ushr n (n := 1) (by decide) (by decide)
  rw [show (1 : Int32).toInt.toNat = 1 by decide] at a1
  have hn := own_u_lt n
  have a2 := own_u_div (a := ((n.toUInt64 >>> ((1 : Int32) &&& 0x3f).toInt64.toUInt64).toInt64)) (b := d) (by omega) hd
  have a3 := own_u_shl1 (((n.toUInt64 >>> ((1 : Int32) &&& 0x3f).toInt64.toUInt64).toInt64) / d)
  rw [a2, a1] at a3
  generalize ((((n.toUInt64 >>> ((1 : Int32) &&& 0x3f).toInt64.toUInt64).toInt64) / d) <<< ((1 : Int32) &&& 0x3f).toInt64) = q at *
  obtain ⟨D, hD⟩ : ∃ z, own_u d = z := ⟨_, rfl⟩
  obtain ⟨N, hN⟩ : ∃ z, own_u n = z := ⟨_, rfl⟩
  rw [hD, hN] at a3
  rw [hD] at hd h1 ⊢; rw [hN] at hn ⊢
  have k1 : N / 2 ^ 1 / D * D + N / 2 ^ 1 % D = N / 2 ^ 1 := Nat.div_add_mod' _ _
  have k2 : N / 2 ^ 1 % D < D := Nat.mod_lt _ h1
  have k3 : N / 2 ^ 1 / D ≤ N / 2 ^ 1 := Nat.div_le_self _ _
  obtain ⟨a, ha⟩ : ∃ z, N / 2 ^ 1 / D = z := ⟨_, rfl⟩
  obtain ⟨b, hb⟩ : ∃ z, N / 2 ^ 1 % D = z := ⟨_, rfl⟩
  rw [ha, hb] at k1; rw [ha] at k3 a3; rw [hb] at k2
  have q1 : own_u q = 2 * a := by omega
  have r0 := own_u_sub n (q * d)
  rw [own_u_mul, q1, hD, hN, Nat.mul_assoc] at r0
  obtain ⟨w, hw⟩ : ∃ z, a * D = z := ⟨_, rfl⟩
  rw [hw] at r0 k1
  have r1 : own_u (n - q * d) = 2 * b + N % 2 := by omega
  unfold own_dq1
  generalize n - q * d = r at *
  unfold own_dq2
  have s0 := own_u_sub r d
  rw [hD] at s0
  have s1 := own_u_not (r - d)
  have s2 := own_u_top r ((r - d) ^^^ (-1 : Int64))
  have s3 := own_u_ushr (r ||| ((r - d) ^^^ (-1 : Int64))) (n := 63) (by decide) (by decide)
  rw [show (63 : Int32).toInt.toNat = 63 by decide, s2] at s3
  rw [own_u_add, s3, q1]
  have rl := own_u_lt r
  have NN : N = 2 * w + own_u r := by omega
  by_cases c1 : own_u r < D
  · have : N / D = 2 * a := by
      rw [show N = own_u r + D * (2 * a) by rw [Nat.mul_comm D, Nat.mul_assoc, hw]; omega, Nat.add_mul_div_left _ _ h1, Nat.div_eq_of_lt c1, Nat.zero_add]
    rw [this, if_pos (by omega)]; omega
  · have : N / D = 2 * a + 1 := by
      rw [show N = (own_u r - D) + D * (2 * a + 1) by rw [Nat.mul_add, Nat.mul_comm D (2 * a), Nat.mul_assoc, hw]; omega, Nat.add_mul_div_left _ _ h1, Nat.div_eq_of_lt (by omega), Nat.zero_add]
    have hq : 2 * a + 1 ≤ N := by rw [← this]; exact Nat.div_le_self _ _
    rw [this, if_neg (by omega)]; omega
/-! comparing -/
def own_cmp (a b : Int64) : Int32 := if a < b then -1 else if a = b then 0 else 1
def own_cu (a b : Int64) : Int32 := own_cmp (a + (-9223372036854775808 : Int64)) (b + (-9223372036854775808 : Int64))
theorem own_u_flip (a : Int64) : (a + (-9223372036854775808 : Int64)).toInt = (own_u a : Int) - 2 ^ 63 := by
  have := own_u_lt a
  rw [own_u_toInt, own_u_add, show own_u (-9223372036854775808 : Int64) = 2 ^ 63 by decide]
  split <;> omega
theorem own_cu_spec (a b : Int64) : own_cu a b = if own_u a < own_u b then -1 else if own_u a = own_u b then 0 else 1 := by
  unfold own_cu own_cmp
  have e1 : (a + (-9223372036854775808 : Int64) < b + (-9223372036854775808 : Int64)) ↔ own_u a < own_u b := by rw [Int64.lt_iff_toInt_lt, own_u_flip, own_u_flip]; omega
  have e2 : (a + (-9223372036854775808 : Int64) = b + (-9223372036854775808 : Int64)) ↔ own_u a = own_u b := by rw [← Int64.toInt_inj, own_u_flip, own_u_flip]; omega
  simp only [e1, e2]
theorem own_cu_lt {a b : Int64} : own_cu a b < 0 ↔ own_u a < own_u b := by
  rw [own_cu_spec]; split
  · simp_all
  · split <;> simp_all
def own_ct (a b x y : Int64) : Int32 := if own_cu a x = 0 then own_cu b y else own_cu a x
theorem own_ct_le {a b x y : Int64} (h : own_U a b ≤ own_U x y) : ¬ 0 < own_ct a b x y := by
  have h1 := own_u_lt b; have h2 := own_u_lt y
  unfold own_U at h
  unfold own_ct
  rw [own_cu_spec, own_cu_spec]
  by_cases c1 : own_u a < own_u x
  · rw [if_pos c1, if_neg (by decide)]; decide
  · have : own_u a = own_u x := by omega
    rw [if_neg c1, if_pos this, if_pos rfl]
    split
    · decide
    · rw [if_pos (by omega)]; decide
theorem own_ct_zero (a b : Int64) : ¬ own_ct a b 0 0 < 0 := by
  unfold own_ct
  rw [own_cu_spec, own_cu_spec, show own_u 0 = 0 from rfl, if_neg (Nat.not_lt_zero _), if_neg (Nat.not_lt_zero _)]
  by_cases c1 : own_u a = 0
  · rw [if_pos c1, if_pos rfl]; by_cases c2 : own_u b = 0
    · rw [if_pos c2]; decide
    · rw [if_neg c2]; decide
  · rw [if_neg c1, if_neg (by decide)]; decide
/-! the long division, one bit at a time -/
def own_invN (H L D i r q : Nat) : Prop := r < D ∧ q < 2 ^ (64 - i) ∧ H * 2 ^ (64 - i) + L / 2 ^ i = q * D + r
theorem own_invN_step {H L D k r q : Nat} (hk : k ≤ 63) (hD : D < 2 ^ 63) (I : own_invN H L D (k + 1) r q) :
    2 * r + L / 2 ^ k % 2 < 2 ^ 64 ∧ 2 * q + 1 < 2 ^ 64 ∧ (2 * r + L / 2 ^ k % 2 < D → own_invN H L D k (2 * r + L / 2 ^ k % 2) (2 * q)) ∧ (¬ 2 * r + L / 2 ^ k % 2 < D → own_invN H L D k (2 * r + L / 2 ^ k % 2 - D) (2 * q + 1)) := by
  obtain ⟨i3, i4, i5⟩ := I
  have p1 : 2 ^ (64 - k) = 2 * 2 ^ (64 - (k + 1)) := by rw [show 64 - k = (64 - (k + 1)) + 1 from by clear i3 i4 i5; omega, Nat.pow_succ, Nat.mul_comm]
  have p2 : 2 ^ (64 - (k + 1)) ≤ 2 ^ 63 := Nat.pow_le_pow_right (by decide) (by clear i3 i4 i5 p1; omega)
  have b1 : L / 2 ^ k = 2 * (L / 2 ^ (k + 1)) + L / 2 ^ k % 2 := by
    rw [Nat.pow_succ, ← Nat.div_div_eq_div_mul]; exact (Nat.div_add_mod _ 2).symm
  unfold own_invN
  rw [p1]
  have m1 : H * (2 * 2 ^ (64 - (k + 1))) = 2 * (H * 2 ^ (64 - (k + 1))) := Nat.mul_left_comm _ _ _
  rw [m1]
  have m2 : 2 * q * D = 2 * (q * D) := Nat.mul_assoc _ _ _
  have m3 : (2 * q + 1) * D = 2 * (q * D) + D := by rw [Nat.add_mul, m2, Nat.one_mul]
  rw [m2, m3]
  generalize 2 ^ (64 - (k + 1)) = P at *
  generalize H * P = HP at *
  generalize q * D = QD at *
  generalize L / 2 ^ (k + 1) = L1 at *
  generalize L / 2 ^ k = L0 at *
  refine ⟨by omega, by omega, fun h => ⟨h, by omega, by omega⟩, fun h => ⟨by omega, by omega, by omega⟩⟩
def own_inv (hi lo d : Int64) (j : Int32) (r q : Int64) : Prop := -1 ≤ j.toInt ∧ j.toInt ≤ 63 ∧ own_invN (own_u hi) (own_u lo) (own_u d) (j.toInt + 1).toNat (own_u r) (own_u q)
theorem own_inv_start {hi lo d : Int64} (h : own_u hi < own_u d) : own_inv hi lo d 63 hi 0 := by
  have := own_u_lt lo
  refine ⟨by decide, by decide, h, ?_, ?_⟩
  · show own_u 0 < 2 ^ (64 - 64); decide
  · show own_u hi * 2 ^ (64 - 64) + own_u lo / 2 ^ 64 = own_u 0 * own_u d + own_u hi
    rw [Nat.div_eq_of_lt this, show own_u 0 = 0 from rfl]; simp
theorem own_inv_step {hi lo d : Int64} {j : Int32} {r q : Int64} (hd : own_u d < 2 ^ 63) (I : own_inv hi lo d j r q) (hj : ¬ j < 0) :
    (own_cu ((r <<< ((1 : Int32) &&& 0x3f).toInt64) ||| (((lo.toUInt64 >>> (j &&& 0x3f).toInt64.toUInt64).toInt64) &&& (1 : Int64))) d < 0 → own_inv hi lo d (j + (-1 : Int32)) ((r <<< ((1 : Int32) &&& 0x3f).toInt64) ||| (((lo.toUInt64 >>> (j &&& 0x3f).toInt64.toUInt64).toInt64) &&& (1 : Int64))) (q <<< ((1 : Int32) &&& 0x3f).toInt64)) ∧
    (¬ own_cu ((r <<< ((1 : Int32) &&& 0x3f).toInt64) ||| (((lo.toUInt64 >>> (j &&& 0x3f).toInt64.toUInt64).toInt64) &&& (1 : Int64))) d < 0 → own_inv hi lo d (j + (-1 : Int32)) (((r <<< ((1 : Int32) &&& 0x3f).toInt64) ||| (((lo.toUInt64 >>> (j &&& 0x3f).toInt64.toUInt64).toInt64) &&& (1 : Int64))) - d) ((q <<< ((1 : Int32) &&& 0x3f).toInt64) ||| (1 : Int64))) := by
  obtain ⟨i1, i2, I⟩ := I
  have hj' := hj
  rw [Int32.lt_iff_toInt_lt] at hj
  simp only [Int32.reduceToInt] at hj
  obtain ⟨k, hk⟩ : ∃ k : Nat, j.toInt = k := ⟨j.toInt.toNat, by omega⟩
  have ej : (j + (-1 : Int32)).toInt = k - 1 := by
    rw [Int32.toInt_add, hk, show (-1 : Int32).toInt = -1 by decide]
    exact Int.bmod_eq_of_le (by omega) (by omega)
  have f1 : -1 ≤ (j + (-1 : Int32)).toInt := by rw [ej]; omega
  have f2 : (j + (-1 : Int32)).toInt ≤ 63 := by rw [ej]; omega
  have f3 : ((j + (-1 : Int32)).toInt + 1).toNat = k := by rw [ej, Int.sub_add_cancel]; rfl
  have e1 : (j.toInt + 1).toNat = k + 1 := by rw [hk]; rfl
  rw [e1] at I
  have hk63 : k ≤ 63 := by omega
  obtain ⟨n1, n2, n3, n4⟩ := own_invN_step hk63 hd I
  have b0 : own_u (((lo.toUInt64 >>> (j &&& 0x3f).toInt64.toUInt64).toInt64) &&& (1 : Int64)) = own_u lo / 2 ^ k % 2 := by
    rw [own_u_low, own_u_ushr lo hj' (by omega), hk]; simp
  have b2 : own_u (((lo.toUInt64 >>> (j &&& 0x3f).toInt64.toUInt64).toInt64) &&& (1 : Int64)) < 2 := by rw [b0]; exact Nat.mod_lt _ (by decide)
  generalize (((lo.toUInt64 >>> (j &&& 0x3f).toInt64.toUInt64).toInt64) &&& (1 : Int64)) = bt at *
  rw [← b0] at n1 n3 n4
  clear b0
  have s1 := own_u_shl1 r
  have s2 : own_u (r <<< ((1 : Int32) &&& 0x3f).toInt64) = 2 * own_u r := by clear n3 n4 I; omega
  have r1e : own_u ((r <<< ((1 : Int32) &&& 0x3f).toInt64) ||| bt) = 2 * own_u r + own_u bt := by
    rw [own_u_or s2 b2, s2]
  have t1 := own_u_shl1 q
  have q1e : own_u (q <<< ((1 : Int32) &&& 0x3f).toInt64) = 2 * own_u q := by clear n3 n4 I; omega
  generalize ((r <<< ((1 : Int32) &&& 0x3f).toInt64) ||| bt) = r1 at *
  generalize (q <<< ((1 : Int32) &&& 0x3f).toInt64) = q1 at *
  rw [← r1e] at n1 n3 n4
  constructor
  · intro h; rw [own_cu_lt] at h
    refine ⟨f1, f2, ?_⟩
    rw [f3, q1e]; exact n3 h
  · intro h; rw [own_cu_lt] at h
    have z1 := own_u_sub r1 d
    have z2 : own_u (r1 - d) = own_u r1 - own_u d := by clear n3 n4 I; omega
    have z3 : own_u (q1 ||| (1 : Int64)) = 2 * own_u q + 1 := by rw [own_u_or q1e (by decide), q1e, show own_u 1 = 1 by decide]
    refine ⟨f1, f2, ?_⟩
    rw [f3, z2, z3]; exact n4 h
theorem own_inv_end {hi lo d : Int64} {j : Int32} {r q : Int64} (I : own_inv hi lo d j r q) (hj : j < 0) : own_u q = own_U hi lo / own_u d := by
  obtain ⟨i1, i2, I⟩ := I
  rw [Int32.lt_iff_toInt_lt] at hj
  simp only [Int32.reduceToInt] at hj
  have e1 : (j.toInt + 1).toNat = 0 := by clear I; omega
  rw [e1] at I
  obtain ⟨i3, i4, i5⟩ := I
  unfold own_U
  rw [show 64 - 0 = 64 from rfl, Nat.pow_zero, Nat.div_one] at i5
  rw [i5, Nat.add_comm, Nat.mul_comm, Nat.add_mul_div_left _ _ (Nat.lt_of_le_of_lt (Nat.zero_le _) i3), Nat.div_eq_of_lt i3, Nat.zero_add]
theorem own_fin {hi lo d b w : Int64} (h : own_U hi lo = own_u b * own_u d) (h1 : 1 ≤ own_u d) (e : own_u w = own_U hi lo / own_u d) : w = b := own_u_inj (by rw [e, h, Nat.mul_div_cancel _ h1])
theorem own_hi_lt {hi lo d b : Int64} (h : own_U hi lo = own_u b * own_u d) (hb : own_u b < 2 ^ 63) (h1 : 1 ≤ own_u d) : own_u hi < own_u d := by
  unfold own_U at h
  have : own_u b * own_u d < 2 ^ 63 * own_u d := Nat.mul_lt_mul_of_pos_right hb h1
  omega
theorem own_U_zero {a b : Int64} (h : own_U a b = 0) : a = 0 ∧ b = 0 := by
  unfold own_U at h
  exact ⟨own_u_inj (by show own_u a = 0; omega), own_u_inj (by show own_u b = 0; omega)⟩

def own_max (a b : Int64) : Int64 := if a < b then b else a
theorem own_max1 (a : Int64) : ¬ own_max 1 a < 1 := by
  unfold own_max; split
  · rename_i h; exact fun q => Int64.lt_irrefl (Int64.lt_trans h q)
  · exact Int64.lt_irrefl
def own_nf (a b : Int64) : Int32 := if b < a then 1 else 0
def own_cf (a : Int64) : Int32 := if a = 0 then 1 else 0
theorem own_ln (now : Int64) (h : ¬ (-9223372036854775808 : Int64) < now) : (-9223372036854775808 : Int64) = now := by
  rw [Int64.lt_iff_toInt_lt] at h
  have := Int64.le_toInt now
  refine Int64.toInt_inj.mp ?_
  simp only [Int64.reduceToInt] at h ⊢
  omega
theorem own_low {q : Int64} (hi lo d b : Int64) (hb : ¬ b < 1) (hd : ¬ d < 1) (hU : own_U hi lo = own_u b * own_u d) (e : own_u q = own_U hi lo / own_u d) : q = b := own_fin hU (own_u_pos hd).2 e
theorem own_divhi {hi lo d b : Int64} (hb : ¬ b < 1) (hd : ¬ d < 1) (hU : own_U hi lo = own_u b * own_u d) : own_dq hi d = 0 := own_u_inj (by rw [own_dq_spec hi (own_u_pos hd).1 (own_u_pos hd).2, Nat.div_eq_of_lt (own_hi_lt hU (own_u_pos hb).1 (own_u_pos hd).2)]; rfl)
theorem own_divlo {hi lo d b : Int64} (hb : ¬ b < 1) (hd : ¬ d < 1) (hU : own_U hi lo = own_u b * own_u d) (h0 : hi = 0) : own_dq lo d = b := by
  refine own_low hi lo d b hb hd hU ?_
  rw [own_dq_spec lo (own_u_pos hd).1 (own_u_pos hd).2, h0]
  show _ = (0 * 2 ^ 64 + own_u lo) / own_u d
  rw [Nat.zero_mul, Nat.zero_add]
theorem own_fit {c p b hi lo : Int64} (hc : ¬ c < 1) (hp : ¬ p < 1) (hb : ¬ b < 1) (h : ¬ b < c) (hU : own_U hi lo = own_u b * own_u p) : own_U (own_ph c p) (c * p) ≤ own_U hi lo := by
  rw [own_prod (own_u_pos hc).1 (own_u_pos hp).1, hU]
  rw [own_u_lt_iff (own_u_pos hb).1 (own_u_pos hc).1] at h
  exact Nat.mul_le_mul_right _ (Nat.le_of_not_lt h)
theorem own_ph1 (now : Int64) : own_ph 1 (now - now) = 0 := by rw [Int64.sub_self]; decide
theorem own_lo1 (now : Int64) : (1 : Int64) * (now - now) = 0 := by rw [Int64.sub_self]; decide
theorem own_depth {b p : Int64} (hb : ¬ b < 1) (hp : ¬ p < 1) : own_U (own_ph b p) (b * p) = own_u b * own_u p := own_prod (own_u_pos hb).1 (own_u_pos hp).1
theorem own_z (a : Int64) : (0 : Int64) + (a + 0) = a := by rw [Int64.add_zero, Int64.zero_add]
theorem d1_0 : decode jdk_29_method_66_code 0 = .ok (.lload_n 0, 1) := by decide +kernel
theorem d1_1 : decode jdk_29_method_66_code 1 = .ok (.lload_n 2, 1) := by decide +kernel
theorem d1_2 : decode jdk_29_method_66_code 2 = .ok (.lcmp, 1) := by decide +kernel
theorem d1_3 : decode jdk_29_method_66_code 3 = .ok (.ifCond .lt 7, 3) := by decide +kernel
theorem d1_6 : decode jdk_29_method_66_code 6 = .ok (.lload_n 0, 1) := by decide +kernel
theorem d1_7 : decode jdk_29_method_66_code 7 = .ok (.goto 4, 3) := by decide +kernel
theorem d1_10 : decode jdk_29_method_66_code 10 = .ok (.lload_n 2, 1) := by decide +kernel
theorem d1_11 : decode jdk_29_method_66_code 11 = .ok (.lreturn, 1) := by decide +kernel
theorem ef_1_00 (m : MethodId) (x0 : Int64) (x1 : Int64) : entryFrame m #[(.long x0), (.long x1)] 4 = mkF m 0 #[.val (.long x0), .second, .val (.long x1), .second] [] := by first | (simp [entryFrame, mkF, argsToLocals, Value.category]; done) | rfl
def Q1 (Z : State) (u0 : Int64) (u1 : Int64) (h0 : Heap) (n0 : Nat) (v : Option Value) (h : Heap) (L : List Loc) : Prop := v = some (.long (own_max u0 u1)) ∧ Fr n0 L ∧ h = h0
set_option maxRecDepth 65536 in
set_option maxHeartbeats 40000000 in
theorem rm1 (l : Launch) (Z : State) (a0 : Array Value) (hw : ∀ d ∈ tables_1, d.before a0 Z = true) (ws : List Jvm.Cond) (u0 : Int64) (u1 : Int64) (h0 : Heap) (n0 : Nat) (Z0 : n0 ≤ h0.size) :
    MetFree l (⟨"java/lang/Math", "max", "(JJ)J"⟩ : MethodName) (head1 (Jvm.Cond.code (⟨"java/lang/Math", "max", "(JJ)J"⟩ : MethodName) jdk_29_method_66_code 4 (some .long) :: ws) ({ frames := 0, cells := 0, slots := 0, locals := 0 } : Room)) (fun a U => a = #[(.long u0), (.long u1)] ∧ Z.Warmed39 U.vm ∧ U.heap = h0) (fun _ _ _ _ _ => True) (fun _ U o U' => ∃ v L, o = .returned v ∧ Q1 Z u0 u1 h0 n0 v U'.heap L ∧ FrameEnd U o U' L ({ frames := 0, cells := 0, slots := 0, locals := 0 } : Room).cells ({ frames := 0, cells := 0, slots := 0, locals := 0 } : Room).slots) := by
  refine MetFree.of_bodySF (Jvm.Free.JP.mathPlain rfl (by decide +kernel)) hisR ?_
  intro p e s m args below meth c s₁ Bd hml0 hP hK
  obtain ⟨rfl, hZ, hh⟩ := hP
  have hx := Bd.exec
  have hby := Bd.bytes
  have hlk : meth.locks = false := Bd.notSynchronized
  have hml : c.maxLocals = 4 := hml0
  have hown : s.vm.findClass "java/lang/Math" = some m.cls := findClass_of_methodNamed Bd.named
  have hnm := (name_of_methodNamed Bd.named Bd.method).1
  have X0 : Stand p l e ({ frames := 0, cells := 0, slots := 0, locals := 0 } : Room) s m #[(.long u0), (.long u1)] below meth c s₁ [] 0 0 := Stand.of_body Bd
  have e0 : s₁.heap = h0 := by rw [← hh, Bd.state]; rfl
  have N0 := Fr.nil n0
  have K0 : Keep h0 h0 [] := Keep.refl h0 _
  show Wp p e below (Out s (Q1 Z u0 u1 h0 n0) ({ frames := 0, cells := 0, slots := 0, locals := 0 } : Room).cells ({ frames := 0, cells := 0, slots := 0, locals := 0 } : Room).slots) (s₁.setTop (entryFrame m #[(.long u0), (.long u1)] 4))
  rw [ef_1_00]
  show Wp p e below _ (s₁.setTop (mkF m 0 #[.val (.long u0), .second, .val (.long u1), .second] []))
  refine Wp.step (fun t k => XS.lloadN X0.here hx rfl (hb hby d1_0) rfl k) ?_
  show Wp p e below _ (s₁.setTop (mkF m 1 #[.val (.long u0), .second, .val (.long u1), .second] [(.long u0)]))
  refine Wp.step (fun t k => XS.lloadN X0.here hx rfl (hb hby d1_1) rfl k) ?_
  show Wp p e below _ (s₁.setTop (mkF m 2 #[.val (.long u0), .second, .val (.long u1), .second] [(.long u1), (.long u0)]))
  refine Wp.step (fun t k => XS.lcmp X0.here hx rfl (hb hby d1_2) rfl k) ?_
  show Wp p e below _ (s₁.setTop (mkF m 3 #[.val (.long u0), .second, .val (.long u1), .second] [(.int (lcmpW u0 u1))]))
  by_cases hc1 : (lcmpW u0 u1) < (0 : Int32)
  · refine Wp.step (fun t k => XS.ifYes X0.here hx rfl (pc0 := 3) (pc' := 10) rfl (hb hby d1_3) rfl ((if0 _ _).trans (tlt hc1).1) (by decide) (by decide) k) ?_
    show Wp p e below _ (s₁.setTop (mkF m 10 #[.val (.long u0), .second, .val (.long u1), .second] []))
    refine Wp.step (fun t k => XS.lloadN X0.here hx rfl (hb hby d1_10) rfl k) ?_
    show Wp p e below _ (s₁.setTop (mkF m 11 #[.val (.long u0), .second, .val (.long u1), .second] [(.long u1)]))
    refine Wp.retJ X0 hx Bd.returns (hb hby d1_11) hlk ?_ (by decide) (by decide)
    show Q1 Z u0 u1 h0 n0 (some (.long u1)) s₁.heap _
    rw [e0]
    exact ⟨(by rw [own_max, if_pos ((lw_lt _ _).mp hc1)]), N0, rfl⟩
  · refine Wp.step (fun t k => XS.ifNo X0.here hx rfl (hb hby d1_3) rfl ((if0 _ _).trans (flt hc1).1) k) ?_
    show Wp p e below _ (s₁.setTop (mkF m 6 #[.val (.long u0), .second, .val (.long u1), .second] []))
    refine Wp.step (fun t k => XS.lloadN X0.here hx rfl (hb hby d1_6) rfl k) ?_
    show Wp p e below _ (s₁.setTop (mkF m 7 #[.val (.long u0), .second, .val (.long u1), .second] [(.long u0)]))
    refine Wp.step (fun t k => XS.goto X0.here hx rfl (pc0 := 7) (pc' := 11) rfl (hb hby d1_7) (by decide) (by decide) k) ?_
    show Wp p e below _ (s₁.setTop (mkF m 11 #[.val (.long u0), .second, .val (.long u1), .second] [(.long u0)]))
    refine Wp.retJ X0 hx Bd.returns (hb hby d1_11) hlk ?_ (by decide) (by decide)
    show Q1 Z u0 u1 h0 n0 (some (.long u0)) s₁.heap _
    rw [e0]
    exact ⟨(by rw [own_max, if_neg (fun q => hc1 ((lw_lt _ _).mpr q))]), N0, rfl⟩
theorem d10_0 : decode jdk_29_method_45_code 0 = .ok (.lload_n 0, 1) := by decide +kernel
theorem d10_1 : decode jdk_29_method_45_code 1 = .ok (.bipush 32, 2) := by decide +kernel
theorem d10_3 : decode jdk_29_method_45_code 3 = .ok (.lshr, 1) := by decide +kernel
theorem d10_4 : decode jdk_29_method_45_code 4 = .ok (.lstore 4, 2) := by decide +kernel
theorem d10_6 : decode jdk_29_method_45_code 6 = .ok (.lload_n 0, 1) := by decide +kernel
theorem d10_7 : decode jdk_29_method_45_code 7 = .ok (.ldc2_w 138, 3) := by decide +kernel
theorem d10_10 : decode jdk_29_method_45_code 10 = .ok (.land, 1) := by decide +kernel
theorem d10_11 : decode jdk_29_method_45_code 11 = .ok (.lstore 6, 2) := by decide +kernel
theorem d10_13 : decode jdk_29_method_45_code 13 = .ok (.lload_n 2, 1) := by decide +kernel
theorem d10_14 : decode jdk_29_method_45_code 14 = .ok (.bipush 32, 2) := by decide +kernel
theorem d10_16 : decode jdk_29_method_45_code 16 = .ok (.lshr, 1) := by decide +kernel
theorem d10_17 : decode jdk_29_method_45_code 17 = .ok (.lstore 8, 2) := by decide +kernel
theorem d10_19 : decode jdk_29_method_45_code 19 = .ok (.lload_n 2, 1) := by decide +kernel
theorem d10_20 : decode jdk_29_method_45_code 20 = .ok (.ldc2_w 138, 3) := by decide +kernel
theorem d10_23 : decode jdk_29_method_45_code 23 = .ok (.land, 1) := by decide +kernel
theorem d10_24 : decode jdk_29_method_45_code 24 = .ok (.lstore 10, 2) := by decide +kernel
theorem d10_26 : decode jdk_29_method_45_code 26 = .ok (.lload 6, 2) := by decide +kernel
theorem d10_28 : decode jdk_29_method_45_code 28 = .ok (.lload 10, 2) := by decide +kernel
theorem d10_30 : decode jdk_29_method_45_code 30 = .ok (.lmul, 1) := by decide +kernel
theorem d10_31 : decode jdk_29_method_45_code 31 = .ok (.lstore 12, 2) := by decide +kernel
theorem d10_33 : decode jdk_29_method_45_code 33 = .ok (.lload 4, 2) := by decide +kernel
theorem d10_35 : decode jdk_29_method_45_code 35 = .ok (.lload 10, 2) := by decide +kernel
theorem d10_37 : decode jdk_29_method_45_code 37 = .ok (.lmul, 1) := by decide +kernel
theorem d10_38 : decode jdk_29_method_45_code 38 = .ok (.lload 12, 2) := by decide +kernel
theorem d10_40 : decode jdk_29_method_45_code 40 = .ok (.bipush 32, 2) := by decide +kernel
theorem d10_42 : decode jdk_29_method_45_code 42 = .ok (.lushr, 1) := by decide +kernel
theorem d10_43 : decode jdk_29_method_45_code 43 = .ok (.ladd, 1) := by decide +kernel
theorem d10_44 : decode jdk_29_method_45_code 44 = .ok (.lstore 14, 2) := by decide +kernel
theorem d10_46 : decode jdk_29_method_45_code 46 = .ok (.lload 14, 2) := by decide +kernel
theorem d10_48 : decode jdk_29_method_45_code 48 = .ok (.ldc2_w 138, 3) := by decide +kernel
theorem d10_51 : decode jdk_29_method_45_code 51 = .ok (.land, 1) := by decide +kernel
theorem d10_52 : decode jdk_29_method_45_code 52 = .ok (.lstore 16, 2) := by decide +kernel
theorem d10_54 : decode jdk_29_method_45_code 54 = .ok (.lload 14, 2) := by decide +kernel
theorem d10_56 : decode jdk_29_method_45_code 56 = .ok (.bipush 32, 2) := by decide +kernel
theorem d10_58 : decode jdk_29_method_45_code 58 = .ok (.lshr, 1) := by decide +kernel
theorem d10_59 : decode jdk_29_method_45_code 59 = .ok (.lstore 18, 2) := by decide +kernel
theorem d10_61 : decode jdk_29_method_45_code 61 = .ok (.lload 16, 2) := by decide +kernel
theorem d10_63 : decode jdk_29_method_45_code 63 = .ok (.lload 6, 2) := by decide +kernel
theorem d10_65 : decode jdk_29_method_45_code 65 = .ok (.lload 8, 2) := by decide +kernel
theorem d10_67 : decode jdk_29_method_45_code 67 = .ok (.lmul, 1) := by decide +kernel
theorem d10_68 : decode jdk_29_method_45_code 68 = .ok (.ladd, 1) := by decide +kernel
theorem d10_69 : decode jdk_29_method_45_code 69 = .ok (.lstore 16, 2) := by decide +kernel
theorem d10_71 : decode jdk_29_method_45_code 71 = .ok (.lload 4, 2) := by decide +kernel
theorem d10_73 : decode jdk_29_method_45_code 73 = .ok (.lload 8, 2) := by decide +kernel
theorem d10_75 : decode jdk_29_method_45_code 75 = .ok (.lmul, 1) := by decide +kernel
theorem d10_76 : decode jdk_29_method_45_code 76 = .ok (.lload 18, 2) := by decide +kernel
theorem d10_78 : decode jdk_29_method_45_code 78 = .ok (.ladd, 1) := by decide +kernel
theorem d10_79 : decode jdk_29_method_45_code 79 = .ok (.lload 16, 2) := by decide +kernel
theorem d10_81 : decode jdk_29_method_45_code 81 = .ok (.bipush 32, 2) := by decide +kernel
theorem d10_83 : decode jdk_29_method_45_code 83 = .ok (.lshr, 1) := by decide +kernel
theorem d10_84 : decode jdk_29_method_45_code 84 = .ok (.ladd, 1) := by decide +kernel
theorem d10_85 : decode jdk_29_method_45_code 85 = .ok (.lreturn, 1) := by decide +kernel
theorem ef_10_00 (m : MethodId) (x0 : Int64) (x1 : Int64) : entryFrame m #[(.long x0), (.long x1)] 20 = mkF m 0 #[.val (.long x0), .second, .val (.long x1), .second, .unset, .unset, .unset, .unset, .unset, .unset, .unset, .unset, .unset, .unset, .unset, .unset, .unset, .unset, .unset, .unset] [] := by first | (simp [entryFrame, mkF, argsToLocals, Value.category]; done) | rfl
def Q10 (Z : State) (u0 : Int64) (u1 : Int64) (h0 : Heap) (n0 : Nat) (v : Option Value) (h : Heap) (L : List Loc) : Prop := v = some (.long (own_mh u0 u1)) ∧ Fr n0 L ∧ h = h0
set_option maxRecDepth 65536 in
set_option maxHeartbeats 40000000 in
theorem rm10 (l : Launch) (Z : State) (a0 : Array Value) (hw : ∀ d ∈ tables_1, d.before a0 Z = true) (ws : List Jvm.Cond) (u0 : Int64) (u1 : Int64) (h0 : Heap) (n0 : Nat) (Z0 : n0 ≤ h0.size) :
    MetFree l (⟨"java/lang/Math", "multiplyHigh", "(JJ)J"⟩ : MethodName) (head1 (Jvm.Cond.code (⟨"java/lang/Math", "multiplyHigh", "(JJ)J"⟩ : MethodName) jdk_29_method_45_code 20 (some .long) :: ws) ({ frames := 0, cells := 0, slots := 0, locals := 0 } : Room)) (fun a U => a = #[(.long u0), (.long u1)] ∧ Z.Warmed39 U.vm ∧ U.heap = h0) (fun _ _ _ _ _ => True) (fun _ U o U' => ∃ v L, o = .returned v ∧ Q10 Z u0 u1 h0 n0 v U'.heap L ∧ FrameEnd U o U' L ({ frames := 0, cells := 0, slots := 0, locals := 0 } : Room).cells ({ frames := 0, cells := 0, slots := 0, locals := 0 } : Room).slots) := by
  refine MetFree.of_bodySF (Jvm.Free.JP.mathPlain rfl (by decide +kernel)) hisR ?_
  intro p e s m args below meth c s₁ Bd hml0 hP hK
  obtain ⟨rfl, hZ, hh⟩ := hP
  have hx := Bd.exec
  have hby := Bd.bytes
  have hlk : meth.locks = false := Bd.notSynchronized
  have hml : c.maxLocals = 20 := hml0
  have hown : s.vm.findClass "java/lang/Math" = some m.cls := findClass_of_methodNamed Bd.named
  have hnm := (name_of_methodNamed Bd.named Bd.method).1
  have X0 : Stand p l e ({ frames := 0, cells := 0, slots := 0, locals := 0 } : Room) s m #[(.long u0), (.long u1)] below meth c s₁ [] 0 0 := Stand.of_body Bd
  have e0 : s₁.heap = h0 := by rw [← hh, Bd.state]; rfl
  have N0 := Fr.nil n0
  have K0 : Keep h0 h0 [] := Keep.refl h0 _
  show Wp p e below (Out s (Q10 Z u0 u1 h0 n0) ({ frames := 0, cells := 0, slots := 0, locals := 0 } : Room).cells ({ frames := 0, cells := 0, slots := 0, locals := 0 } : Room).slots) (s₁.setTop (entryFrame m #[(.long u0), (.long u1)] 20))
  rw [ef_10_00]
  show Wp p e below _ (s₁.setTop (mkF m 0 #[.val (.long u0), .second, .val (.long u1), .second, .unset, .unset, .unset, .unset, .unset, .unset, .unset, .unset, .unset, .unset, .unset, .unset, .unset, .unset, .unset, .unset] []))
  refine Wp.step (fun t k => XS.lloadN X0.here hx rfl (hb hby d10_0) rfl k) ?_
  show Wp p e below _ (s₁.setTop (mkF m 1 #[.val (.long u0), .second, .val (.long u1), .second, .unset, .unset, .unset, .unset, .unset, .unset, .unset, .unset, .unset, .unset, .unset, .unset, .unset, .unset, .unset, .unset] [(.long u0)]))
  refine Wp.step (fun t k => XS.bipush X0.here hx rfl (hb hby d10_1) k) ?_
  show Wp p e below _ (s₁.setTop (mkF m 3 #[.val (.long u0), .second, .val (.long u1), .second, .unset, .unset, .unset, .unset, .unset, .unset, .unset, .unset, .unset, .unset, .unset, .unset, .unset, .unset, .unset, .unset] [(.int (32 : Int32)), (.long u0)]))
  refine Wp.step (fun t k => XS.lshr X0.here hx rfl (hb hby d10_3) rfl k) ?_
  show Wp p e below _ (s₁.setTop (mkF m 4 #[.val (.long u0), .second, .val (.long u1), .second, .unset, .unset, .unset, .unset, .unset, .unset, .unset, .unset, .unset, .unset, .unset, .unset, .unset, .unset, .unset, .unset] [(.long (u0 >>> ((32 : Int32) &&& 0x3f).toInt64))]))
  refine Wp.step (fun t k => XS.lstore X0.here hx rfl (hb hby d10_4) rfl (l' := #[.val (.long u0), .second, .val (.long u1), .second, .val (.long (u0 >>> ((32 : Int32) &&& 0x3f).toInt64)), .second, .unset, .unset, .unset, .unset, .unset, .unset, .unset, .unset, .unset, .unset, .unset, .unset, .unset, .unset]) rfl k) ?_
  show Wp p e below _ (s₁.setTop (mkF m 6 #[.val (.long u0), .second, .val (.long u1), .second, .val (.long (u0 >>> ((32 : Int32) &&& 0x3f).toInt64)), .second, .unset, .unset, .unset, .unset, .unset, .unset, .unset, .unset, .unset, .unset, .unset, .unset, .unset, .unset] []))
  refine Wp.step (fun t k => XS.lloadN X0.here hx rfl (hb hby d10_6) rfl k) ?_
  show Wp p e below _ (s₁.setTop (mkF m 7 #[.val (.long u0), .second, .val (.long u1), .second, .val (.long (u0 >>> ((32 : Int32) &&& 0x3f).toInt64)), .second, .unset, .unset, .unset, .unset, .unset, .unset, .unset, .unset, .unset, .unset, .unset, .unset, .unset, .unset] [(.long u0)]))
  refine Wp.step (X0.ldc2Long hx hown (mvT hZ (hw _ (List.mem_of_getElem? (i := 59) rfl))) (g := (mkF m 7 #[.val (.long u0), .second, .val (.long u1), .second, .val (.long (u0 >>> ((32 : Int32) &&& 0x3f).toInt64)), .second, .unset, .unset, .unset, .unset, .unset, .unset, .unset, .unset, .unset, .unset, .unset, .unset, .unset, .unset] [(.long u0)])) rfl (hb hby d10_7)) ?_
  show Wp p e below _ (s₁.setTop (mkF m 10 #[.val (.long u0), .second, .val (.long u1), .second, .val (.long (u0 >>> ((32 : Int32) &&& 0x3f).toInt64)), .second, .unset, .unset, .unset, .unset, .unset, .unset, .unset, .unset, .unset, .unset, .unset, .unset, .unset, .unset] [(.long (4294967295 : Int64)), (.long u0)]))
  refine Wp.step (fun t k => XS.land X0.here hx rfl (hb hby d10_10) rfl k) ?_
  show Wp p e below _ (s₁.setTop (mkF m 11 #[.val (.long u0), .second, .val (.long u1), .second, .val (.long (u0 >>> ((32 : Int32) &&& 0x3f).toInt64)), .second, .unset, .unset, .unset, .unset, .unset, .unset, .unset, .unset, .unset, .unset, .unset, .unset, .unset, .unset] [(.long (u0 &&& (4294967295 : Int64)))]))
  refine Wp.step (fun t k => XS.lstore X0.here hx rfl (hb hby d10_11) rfl (l' := #[.val (.long u0), .second, .val (.long u1), .second, .val (.long (u0 >>> ((32 : Int32) &&& 0x3f).toInt64)), .second, .val (.long (u0 &&& (4294967295 : Int64))), .second, .unset, .unset, .unset, .unset, .unset, .unset, .unset, .unset, .unset, .unset, .unset, .unset]) rfl k) ?_
  show Wp p e below _ (s₁.setTop (mkF m 13 #[.val (.long u0), .second, .val (.long u1), .second, .val (.long (u0 >>> ((32 : Int32) &&& 0x3f).toInt64)), .second, .val (.long (u0 &&& (4294967295 : Int64))), .second, .unset, .unset, .unset, .unset, .unset, .unset, .unset, .unset, .unset, .unset, .unset, .unset] []))
  refine Wp.step (fun t k => XS.lloadN X0.here hx rfl (hb hby d10_13) rfl k) ?_
  show Wp p e below _ (s₁.setTop (mkF m 14 #[.val (.long u0), .second, .val (.long u1), .second, .val (.long (u0 >>> ((32 : Int32) &&& 0x3f).toInt64)), .second, .val (.long (u0 &&& (4294967295 : Int64))), .second, .unset, .unset, .unset, .unset, .unset, .unset, .unset, .unset, .unset, .unset, .unset, .unset] [(.long u1)]))
  refine Wp.step (fun t k => XS.bipush X0.here hx rfl (hb hby d10_14) k) ?_
  show Wp p e below _ (s₁.setTop (mkF m 16 #[.val (.long u0), .second, .val (.long u1), .second, .val (.long (u0 >>> ((32 : Int32) &&& 0x3f).toInt64)), .second, .val (.long (u0 &&& (4294967295 : Int64))), .second, .unset, .unset, .unset, .unset, .unset, .unset, .unset, .unset, .unset, .unset, .unset, .unset] [(.int (32 : Int32)), (.long u1)]))
  refine Wp.step (fun t k => XS.lshr X0.here hx rfl (hb hby d10_16) rfl k) ?_
  show Wp p e below _ (s₁.setTop (mkF m 17 #[.val (.long u0), .second, .val (.long u1), .second, .val (.long (u0 >>> ((32 : Int32) &&& 0x3f).toInt64)), .second, .val (.long (u0 &&& (4294967295 : Int64))), .second, .unset, .unset, .unset, .unset, .unset, .unset, .unset, .unset, .unset, .unset, .unset, .unset] [(.long (u1 >>> ((32 : Int32) &&& 0x3f).toInt64))]))
  refine Wp.step (fun t k => XS.lstore X0.here hx rfl (hb hby d10_17) rfl (l' := #[.val (.long u0), .second, .val (.long u1), .second, .val (.long (u0 >>> ((32 : Int32) &&& 0x3f).toInt64)), .second, .val (.long (u0 &&& (4294967295 : Int64))), .second, .val (.long (u1 >>> ((32 : Int32) &&& 0x3f).toInt64)), .second, .unset, .unset, .unset, .unset, .unset, .unset, .unset, .unset, .unset, .unset]) rfl k) ?_
  show Wp p e below _ (s₁.setTop (mkF m 19 #[.val (.long u0), .second, .val (.long u1), .second, .val (.long (u0 >>> ((32 : Int32) &&& 0x3f).toInt64)), .second, .val (.long (u0 &&& (4294967295 : Int64))), .second, .val (.long (u1 >>> ((32 : Int32) &&& 0x3f).toInt64)), .second, .unset, .unset, .unset, .unset, .unset, .unset, .unset, .unset, .unset, .unset] []))
  refine Wp.step (fun t k => XS.lloadN X0.here hx rfl (hb hby d10_19) rfl k) ?_
  show Wp p e below _ (s₁.setTop (mkF m 20 #[.val (.long u0), .second, .val (.long u1), .second, .val (.long (u0 >>> ((32 : Int32) &&& 0x3f).toInt64)), .second, .val (.long (u0 &&& (4294967295 : Int64))), .second, .val (.long (u1 >>> ((32 : Int32) &&& 0x3f).toInt64)), .second, .unset, .unset, .unset, .unset, .unset, .unset, .unset, .unset, .unset, .unset] [(.long u1)]))
  refine Wp.step (X0.ldc2Long hx hown (mvT hZ (hw _ (List.mem_of_getElem? (i := 59) rfl))) (g := (mkF m 20 #[.val (.long u0), .second, .val (.long u1), .second, .val (.long (u0 >>> ((32 : Int32) &&& 0x3f).toInt64)), .second, .val (.long (u0 &&& (4294967295 : Int64))), .second, .val (.long (u1 >>> ((32 : Int32) &&& 0x3f).toInt64)), .second, .unset, .unset, .unset, .unset, .unset, .unset, .unset, .unset, .unset, .unset] [(.long u1)])) rfl (hb hby d10_20)) ?_
  show Wp p e below _ (s₁.setTop (mkF m 23 #[.val (.long u0), .second, .val (.long u1), .second, .val (.long (u0 >>> ((32 : Int32) &&& 0x3f).toInt64)), .second, .val (.long (u0 &&& (4294967295 : Int64))), .second, .val (.long (u1 >>> ((32 : Int32) &&& 0x3f).toInt64)), .second, .unset, .unset, .unset, .unset, .unset, .unset, .unset, .unset, .unset, .unset] [(.long (4294967295 : Int64)), (.long u1)]))
  refine Wp.step (fun t k => XS.land X0.here hx rfl (hb hby d10_23) rfl k) ?_
  show Wp p e below _ (s₁.setTop (mkF m 24 #[.val (.long u0), .second, .val (.long u1), .second, .val (.long (u0 >>> ((32 : Int32) &&& 0x3f).toInt64)), .second, .val (.long (u0 &&& (4294967295 : Int64))), .second, .val (.long (u1 >>> ((32 : Int32) &&& 0x3f).toInt64)), .second, .unset, .unset, .unset, .unset, .unset, .unset, .unset, .unset, .unset, .unset] [(.long (u1 &&& (4294967295 : Int64)))]))
  refine Wp.step (fun t k => XS.lstore X0.here hx rfl (hb hby d10_24) rfl (l' := #[.val (.long u0), .second, .val (.long u1), .second, .val (.long (u0 >>> ((32 : Int32) &&& 0x3f).toInt64)), .second, .val (.long (u0 &&& (4294967295 : Int64))), .second, .val (.long (u1 >>> ((32 : Int32) &&& 0x3f).toInt64)), .second, .val (.long (u1 &&& (4294967295 : Int64))), .second, .unset, .unset, .unset, .unset, .unset, .unset, .unset, .unset]) rfl k) ?_
  show Wp p e below _ (s₁.setTop (mkF m 26 #[.val (.long u0), .second, .val (.long u1), .second, .val (.long (u0 >>> ((32 : Int32) &&& 0x3f).toInt64)), .second, .val (.long (u0 &&& (4294967295 : Int64))), .second, .val (.long (u1 >>> ((32 : Int32) &&& 0x3f).toInt64)), .second, .val (.long (u1 &&& (4294967295 : Int64))), .second, .unset, .unset, .unset, .unset, .unset, .unset, .unset, .unset] []))
  refine Wp.step (fun t k => XS.lload X0.here hx rfl (hb hby d10_26) rfl k) ?_
  show Wp p e below _ (s₁.setTop (mkF m 28 #[.val (.long u0), .second, .val (.long u1), .second, .val (.long (u0 >>> ((32 : Int32) &&& 0x3f).toInt64)), .second, .val (.long (u0 &&& (4294967295 : Int64))), .second, .val (.long (u1 >>> ((32 : Int32) &&& 0x3f).toInt64)), .second, .val (.long (u1 &&& (4294967295 : Int64))), .second, .unset, .unset, .unset, .unset, .unset, .unset, .unset, .unset] [(.long (u0 &&& (4294967295 : Int64)))]))
  refine Wp.step (fun t k => XS.lload X0.here hx rfl (hb hby d10_28) rfl k) ?_
  show Wp p e below _ (s₁.setTop (mkF m 30 #[.val (.long u0), .second, .val (.long u1), .second, .val (.long (u0 >>> ((32 : Int32) &&& 0x3f).toInt64)), .second, .val (.long (u0 &&& (4294967295 : Int64))), .second, .val (.long (u1 >>> ((32 : Int32) &&& 0x3f).toInt64)), .second, .val (.long (u1 &&& (4294967295 : Int64))), .second, .unset, .unset, .unset, .unset, .unset, .unset, .unset, .unset] [(.long (u1 &&& (4294967295 : Int64))), (.long (u0 &&& (4294967295 : Int64)))]))
  refine Wp.step (fun t k => XS.lmul X0.here hx rfl (hb hby d10_30) rfl k) ?_
  show Wp p e below _ (s₁.setTop (mkF m 31 #[.val (.long u0), .second, .val (.long u1), .second, .val (.long (u0 >>> ((32 : Int32) &&& 0x3f).toInt64)), .second, .val (.long (u0 &&& (4294967295 : Int64))), .second, .val (.long (u1 >>> ((32 : Int32) &&& 0x3f).toInt64)), .second, .val (.long (u1 &&& (4294967295 : Int64))), .second, .unset, .unset, .unset, .unset, .unset, .unset, .unset, .unset] [(.long ((u0 &&& (4294967295 : Int64)) * (u1 &&& (4294967295 : Int64))))]))
  refine Wp.step (fun t k => XS.lstore X0.here hx rfl (hb hby d10_31) rfl (l' := #[.val (.long u0), .second, .val (.long u1), .second, .val (.long (u0 >>> ((32 : Int32) &&& 0x3f).toInt64)), .second, .val (.long (u0 &&& (4294967295 : Int64))), .second, .val (.long (u1 >>> ((32 : Int32) &&& 0x3f).toInt64)), .second, .val (.long (u1 &&& (4294967295 : Int64))), .second, .val (.long ((u0 &&& (4294967295 : Int64)) * (u1 &&& (4294967295 : Int64)))), .second, .unset, .unset, .unset, .unset, .unset, .unset]) rfl k) ?_
  show Wp p e below _ (s₁.setTop (mkF m 33 #[.val (.long u0), .second, .val (.long u1), .second, .val (.long (u0 >>> ((32 : Int32) &&& 0x3f).toInt64)), .second, .val (.long (u0 &&& (4294967295 : Int64))), .second, .val (.long (u1 >>> ((32 : Int32) &&& 0x3f).toInt64)), .second, .val (.long (u1 &&& (4294967295 : Int64))), .second, .val (.long ((u0 &&& (4294967295 : Int64)) * (u1 &&& (4294967295 : Int64)))), .second, .unset, .unset, .unset, .unset, .unset, .unset] []))
  refine Wp.step (fun t k => XS.lload X0.here hx rfl (hb hby d10_33) rfl k) ?_
  show Wp p e below _ (s₁.setTop (mkF m 35 #[.val (.long u0), .second, .val (.long u1), .second, .val (.long (u0 >>> ((32 : Int32) &&& 0x3f).toInt64)), .second, .val (.long (u0 &&& (4294967295 : Int64))), .second, .val (.long (u1 >>> ((32 : Int32) &&& 0x3f).toInt64)), .second, .val (.long (u1 &&& (4294967295 : Int64))), .second, .val (.long ((u0 &&& (4294967295 : Int64)) * (u1 &&& (4294967295 : Int64)))), .second, .unset, .unset, .unset, .unset, .unset, .unset] [(.long (u0 >>> ((32 : Int32) &&& 0x3f).toInt64))]))
  refine Wp.step (fun t k => XS.lload X0.here hx rfl (hb hby d10_35) rfl k) ?_
  show Wp p e below _ (s₁.setTop (mkF m 37 #[.val (.long u0), .second, .val (.long u1), .second, .val (.long (u0 >>> ((32 : Int32) &&& 0x3f).toInt64)), .second, .val (.long (u0 &&& (4294967295 : Int64))), .second, .val (.long (u1 >>> ((32 : Int32) &&& 0x3f).toInt64)), .second, .val (.long (u1 &&& (4294967295 : Int64))), .second, .val (.long ((u0 &&& (4294967295 : Int64)) * (u1 &&& (4294967295 : Int64)))), .second, .unset, .unset, .unset, .unset, .unset, .unset] [(.long (u1 &&& (4294967295 : Int64))), (.long (u0 >>> ((32 : Int32) &&& 0x3f).toInt64))]))
  refine Wp.step (fun t k => XS.lmul X0.here hx rfl (hb hby d10_37) rfl k) ?_
  show Wp p e below _ (s₁.setTop (mkF m 38 #[.val (.long u0), .second, .val (.long u1), .second, .val (.long (u0 >>> ((32 : Int32) &&& 0x3f).toInt64)), .second, .val (.long (u0 &&& (4294967295 : Int64))), .second, .val (.long (u1 >>> ((32 : Int32) &&& 0x3f).toInt64)), .second, .val (.long (u1 &&& (4294967295 : Int64))), .second, .val (.long ((u0 &&& (4294967295 : Int64)) * (u1 &&& (4294967295 : Int64)))), .second, .unset, .unset, .unset, .unset, .unset, .unset] [(.long ((u0 >>> ((32 : Int32) &&& 0x3f).toInt64) * (u1 &&& (4294967295 : Int64))))]))
  refine Wp.step (fun t k => XS.lload X0.here hx rfl (hb hby d10_38) rfl k) ?_
  show Wp p e below _ (s₁.setTop (mkF m 40 #[.val (.long u0), .second, .val (.long u1), .second, .val (.long (u0 >>> ((32 : Int32) &&& 0x3f).toInt64)), .second, .val (.long (u0 &&& (4294967295 : Int64))), .second, .val (.long (u1 >>> ((32 : Int32) &&& 0x3f).toInt64)), .second, .val (.long (u1 &&& (4294967295 : Int64))), .second, .val (.long ((u0 &&& (4294967295 : Int64)) * (u1 &&& (4294967295 : Int64)))), .second, .unset, .unset, .unset, .unset, .unset, .unset] [(.long ((u0 &&& (4294967295 : Int64)) * (u1 &&& (4294967295 : Int64)))), (.long ((u0 >>> ((32 : Int32) &&& 0x3f).toInt64) * (u1 &&& (4294967295 : Int64))))]))
  refine Wp.step (fun t k => XS.bipush X0.here hx rfl (hb hby d10_40) k) ?_
  show Wp p e below _ (s₁.setTop (mkF m 42 #[.val (.long u0), .second, .val (.long u1), .second, .val (.long (u0 >>> ((32 : Int32) &&& 0x3f).toInt64)), .second, .val (.long (u0 &&& (4294967295 : Int64))), .second, .val (.long (u1 >>> ((32 : Int32) &&& 0x3f).toInt64)), .second, .val (.long (u1 &&& (4294967295 : Int64))), .second, .val (.long ((u0 &&& (4294967295 : Int64)) * (u1 &&& (4294967295 : Int64)))), .second, .unset, .unset, .unset, .unset, .unset, .unset] [(.int (32 : Int32)), (.long ((u0 &&& (4294967295 : Int64)) * (u1 &&& (4294967295 : Int64)))), (.long ((u0 >>> ((32 : Int32) &&& 0x3f).toInt64) * (u1 &&& (4294967295 : Int64))))]))
  refine Wp.step (fun t k => XS.lushr X0.here hx rfl (hb hby d10_42) rfl k) ?_
  show Wp p e below _ (s₁.setTop (mkF m 43 #[.val (.long u0), .second, .val (.long u1), .second, .val (.long (u0 >>> ((32 : Int32) &&& 0x3f).toInt64)), .second, .val (.long (u0 &&& (4294967295 : Int64))), .second, .val (.long (u1 >>> ((32 : Int32) &&& 0x3f).toInt64)), .second, .val (.long (u1 &&& (4294967295 : Int64))), .second, .val (.long ((u0 &&& (4294967295 : Int64)) * (u1 &&& (4294967295 : Int64)))), .second, .unset, .unset, .unset, .unset, .unset, .unset] [(.long ((((u0 &&& (4294967295 : Int64)) * (u1 &&& (4294967295 : Int64))).toUInt64 >>> ((32 : Int32) &&& 0x3f).toInt64.toUInt64).toInt64)), (.long ((u0 >>> ((32 : Int32) &&& 0x3f).toInt64) * (u1 &&& (4294967295 : Int64))))]))
  refine Wp.step (fun t k => XS.ladd X0.here hx rfl (hb hby d10_43) rfl k) ?_
  show Wp p e below _ (s₁.setTop (mkF m 44 #[.val (.long u0), .second, .val (.long u1), .second, .val (.long (u0 >>> ((32 : Int32) &&& 0x3f).toInt64)), .second, .val (.long (u0 &&& (4294967295 : Int64))), .second, .val (.long (u1 >>> ((32 : Int32) &&& 0x3f).toInt64)), .second, .val (.long (u1 &&& (4294967295 : Int64))), .second, .val (.long ((u0 &&& (4294967295 : Int64)) * (u1 &&& (4294967295 : Int64)))), .second, .unset, .unset, .unset, .unset, .unset, .unset] [(.long (((u0 >>> ((32 : Int32) &&& 0x3f).toInt64) * (u1 &&& (4294967295 : Int64))) + ((((u0 &&& (4294967295 : Int64)) * (u1 &&& (4294967295 : Int64))).toUInt64 >>> ((32 : Int32) &&& 0x3f).toInt64.toUInt64).toInt64)))]))
  refine Wp.step (fun t k => XS.lstore X0.here hx rfl (hb hby d10_44) rfl (l' := #[.val (.long u0), .second, .val (.long u1), .second, .val (.long (u0 >>> ((32 : Int32) &&& 0x3f).toInt64)), .second, .val (.long (u0 &&& (4294967295 : Int64))), .second, .val (.long (u1 >>> ((32 : Int32) &&& 0x3f).toInt64)), .second, .val (.long (u1 &&& (4294967295 : Int64))), .second, .val (.long ((u0 &&& (4294967295 : Int64)) * (u1 &&& (4294967295 : Int64)))), .second, .val (.long (((u0 >>> ((32 : Int32) &&& 0x3f).toInt64) * (u1 &&& (4294967295 : Int64))) + ((((u0 &&& (4294967295 : Int64)) * (u1 &&& (4294967295 : Int64))).toUInt64 >>> ((32 : Int32) &&& 0x3f).toInt64.toUInt64).toInt64))), .second, .unset, .unset, .unset, .unset]) rfl k) ?_
  show Wp p e below _ (s₁.setTop (mkF m 46 #[.val (.long u0), .second, .val (.long u1), .second, .val (.long (u0 >>> ((32 : Int32) &&& 0x3f).toInt64)), .second, .val (.long (u0 &&& (4294967295 : Int64))), .second, .val (.long (u1 >>> ((32 : Int32) &&& 0x3f).toInt64)), .second, .val (.long (u1 &&& (4294967295 : Int64))), .second, .val (.long ((u0 &&& (4294967295 : Int64)) * (u1 &&& (4294967295 : Int64)))), .second, .val (.long (((u0 >>> ((32 : Int32) &&& 0x3f).toInt64) * (u1 &&& (4294967295 : Int64))) + ((((u0 &&& (4294967295 : Int64)) * (u1 &&& (4294967295 : Int64))).toUInt64 >>> ((32 : Int32) &&& 0x3f).toInt64.toUInt64).toInt64))), .second, .unset, .unset, .unset, .unset] []))
  refine Wp.step (fun t k => XS.lload X0.here hx rfl (hb hby d10_46) rfl k) ?_
  show Wp p e below _ (s₁.setTop (mkF m 48 #[.val (.long u0), .second, .val (.long u1), .second, .val (.long (u0 >>> ((32 : Int32) &&& 0x3f).toInt64)), .second, .val (.long (u0 &&& (4294967295 : Int64))), .second, .val (.long (u1 >>> ((32 : Int32) &&& 0x3f).toInt64)), .second, .val (.long (u1 &&& (4294967295 : Int64))), .second, .val (.long ((u0 &&& (4294967295 : Int64)) * (u1 &&& (4294967295 : Int64)))), .second, .val (.long (((u0 >>> ((32 : Int32) &&& 0x3f).toInt64) * (u1 &&& (4294967295 : Int64))) + ((((u0 &&& (4294967295 : Int64)) * (u1 &&& (4294967295 : Int64))).toUInt64 >>> ((32 : Int32) &&& 0x3f).toInt64.toUInt64).toInt64))), .second, .unset, .unset, .unset, .unset] [(.long (((u0 >>> ((32 : Int32) &&& 0x3f).toInt64) * (u1 &&& (4294967295 : Int64))) + ((((u0 &&& (4294967295 : Int64)) * (u1 &&& (4294967295 : Int64))).toUInt64 >>> ((32 : Int32) &&& 0x3f).toInt64.toUInt64).toInt64)))]))
  refine Wp.step (X0.ldc2Long hx hown (mvT hZ (hw _ (List.mem_of_getElem? (i := 59) rfl))) (g := (mkF m 48 #[.val (.long u0), .second, .val (.long u1), .second, .val (.long (u0 >>> ((32 : Int32) &&& 0x3f).toInt64)), .second, .val (.long (u0 &&& (4294967295 : Int64))), .second, .val (.long (u1 >>> ((32 : Int32) &&& 0x3f).toInt64)), .second, .val (.long (u1 &&& (4294967295 : Int64))), .second, .val (.long ((u0 &&& (4294967295 : Int64)) * (u1 &&& (4294967295 : Int64)))), .second, .val (.long (((u0 >>> ((32 : Int32) &&& 0x3f).toInt64) * (u1 &&& (4294967295 : Int64))) + ((((u0 &&& (4294967295 : Int64)) * (u1 &&& (4294967295 : Int64))).toUInt64 >>> ((32 : Int32) &&& 0x3f).toInt64.toUInt64).toInt64))), .second, .unset, .unset, .unset, .unset] [(.long (((u0 >>> ((32 : Int32) &&& 0x3f).toInt64) * (u1 &&& (4294967295 : Int64))) + ((((u0 &&& (4294967295 : Int64)) * (u1 &&& (4294967295 : Int64))).toUInt64 >>> ((32 : Int32) &&& 0x3f).toInt64.toUInt64).toInt64)))])) rfl (hb hby d10_48)) ?_
  show Wp p e below _ (s₁.setTop (mkF m 51 #[.val (.long u0), .second, .val (.long u1), .second, .val (.long (u0 >>> ((32 : Int32) &&& 0x3f).toInt64)), .second, .val (.long (u0 &&& (4294967295 : Int64))), .second, .val (.long (u1 >>> ((32 : Int32) &&& 0x3f).toInt64)), .second, .val (.long (u1 &&& (4294967295 : Int64))), .second, .val (.long ((u0 &&& (4294967295 : Int64)) * (u1 &&& (4294967295 : Int64)))), .second, .val (.long (((u0 >>> ((32 : Int32) &&& 0x3f).toInt64) * (u1 &&& (4294967295 : Int64))) + ((((u0 &&& (4294967295 : Int64)) * (u1 &&& (4294967295 : Int64))).toUInt64 >>> ((32 : Int32) &&& 0x3f).toInt64.toUInt64).toInt64))), .second, .unset, .unset, .unset, .unset] [(.long (4294967295 : Int64)), (.long (((u0 >>> ((32 : Int32) &&& 0x3f).toInt64) * (u1 &&& (4294967295 : Int64))) + ((((u0 &&& (4294967295 : Int64)) * (u1 &&& (4294967295 : Int64))).toUInt64 >>> ((32 : Int32) &&& 0x3f).toInt64.toUInt64).toInt64)))]))
  refine Wp.step (fun t k => XS.land X0.here hx rfl (hb hby d10_51) rfl k) ?_
  show Wp p e below _ (s₁.setTop (mkF m 52 #[.val (.long u0), .second, .val (.long u1), .second, .val (.long (u0 >>> ((32 : Int32) &&& 0x3f).toInt64)), .second, .val (.long (u0 &&& (4294967295 : Int64))), .second, .val (.long (u1 >>> ((32 : Int32) &&& 0x3f).toInt64)), .second, .val (.long (u1 &&& (4294967295 : Int64))), .second, .val (.long ((u0 &&& (4294967295 : Int64)) * (u1 &&& (4294967295 : Int64)))), .second, .val (.long (((u0 >>> ((32 : Int32) &&& 0x3f).toInt64) * (u1 &&& (4294967295 : Int64))) + ((((u0 &&& (4294967295 : Int64)) * (u1 &&& (4294967295 : Int64))).toUInt64 >>> ((32 : Int32) &&& 0x3f).toInt64.toUInt64).toInt64))), .second, .unset, .unset, .unset, .unset] [(.long ((((u0 >>> ((32 : Int32) &&& 0x3f).toInt64) * (u1 &&& (4294967295 : Int64))) + ((((u0 &&& (4294967295 : Int64)) * (u1 &&& (4294967295 : Int64))).toUInt64 >>> ((32 : Int32) &&& 0x3f).toInt64.toUInt64).toInt64)) &&& (4294967295 : Int64)))]))
  refine Wp.step (fun t k => XS.lstore X0.here hx rfl (hb hby d10_52) rfl (l' := #[.val (.long u0), .second, .val (.long u1), .second, .val (.long (u0 >>> ((32 : Int32) &&& 0x3f).toInt64)), .second, .val (.long (u0 &&& (4294967295 : Int64))), .second, .val (.long (u1 >>> ((32 : Int32) &&& 0x3f).toInt64)), .second, .val (.long (u1 &&& (4294967295 : Int64))), .second, .val (.long ((u0 &&& (4294967295 : Int64)) * (u1 &&& (4294967295 : Int64)))), .second, .val (.long (((u0 >>> ((32 : Int32) &&& 0x3f).toInt64) * (u1 &&& (4294967295 : Int64))) + ((((u0 &&& (4294967295 : Int64)) * (u1 &&& (4294967295 : Int64))).toUInt64 >>> ((32 : Int32) &&& 0x3f).toInt64.toUInt64).toInt64))), .second, .val (.long ((((u0 >>> ((32 : Int32) &&& 0x3f).toInt64) * (u1 &&& (4294967295 : Int64))) + ((((u0 &&& (4294967295 : Int64)) * (u1 &&& (4294967295 : Int64))).toUInt64 >>> ((32 : Int32) &&& 0x3f).toInt64.toUInt64).toInt64)) &&& (4294967295 : Int64))), .second, .unset, .unset]) rfl k) ?_
  show Wp p e below _ (s₁.setTop (mkF m 54 #[.val (.long u0), .second, .val (.long u1), .second, .val (.long (u0 >>> ((32 : Int32) &&& 0x3f).toInt64)), .second, .val (.long (u0 &&& (4294967295 : Int64))), .second, .val (.long (u1 >>> ((32 : Int32) &&& 0x3f).toInt64)), .second, .val (.long (u1 &&& (4294967295 : Int64))), .second, .val (.long ((u0 &&& (4294967295 : Int64)) * (u1 &&& (4294967295 : Int64)))), .second, .val (.long (((u0 >>> ((32 : Int32) &&& 0x3f).toInt64) * (u1 &&& (4294967295 : Int64))) + ((((u0 &&& (4294967295 : Int64)) * (u1 &&& (4294967295 : Int64))).toUInt64 >>> ((32 : Int32) &&& 0x3f).toInt64.toUInt64).toInt64))), .second, .val (.long ((((u0 >>> ((32 : Int32) &&& 0x3f).toInt64) * (u1 &&& (4294967295 : Int64))) + ((((u0 &&& (4294967295 : Int64)) * (u1 &&& (4294967295 : Int64))).toUInt64 >>> ((32 : Int32) &&& 0x3f).toInt64.toUInt64).toInt64)) &&& (4294967295 : Int64))), .second, .unset, .unset] []))
  refine Wp.step (fun t k => XS.lload X0.here hx rfl (hb hby d10_54) rfl k) ?_
  show Wp p e below _ (s₁.setTop (mkF m 56 #[.val (.long u0), .second, .val (.long u1), .second, .val (.long (u0 >>> ((32 : Int32) &&& 0x3f).toInt64)), .second, .val (.long (u0 &&& (4294967295 : Int64))), .second, .val (.long (u1 >>> ((32 : Int32) &&& 0x3f).toInt64)), .second, .val (.long (u1 &&& (4294967295 : Int64))), .second, .val (.long ((u0 &&& (4294967295 : Int64)) * (u1 &&& (4294967295 : Int64)))), .second, .val (.long (((u0 >>> ((32 : Int32) &&& 0x3f).toInt64) * (u1 &&& (4294967295 : Int64))) + ((((u0 &&& (4294967295 : Int64)) * (u1 &&& (4294967295 : Int64))).toUInt64 >>> ((32 : Int32) &&& 0x3f).toInt64.toUInt64).toInt64))), .second, .val (.long ((((u0 >>> ((32 : Int32) &&& 0x3f).toInt64) * (u1 &&& (4294967295 : Int64))) + ((((u0 &&& (4294967295 : Int64)) * (u1 &&& (4294967295 : Int64))).toUInt64 >>> ((32 : Int32) &&& 0x3f).toInt64.toUInt64).toInt64)) &&& (4294967295 : Int64))), .second, .unset, .unset] [(.long (((u0 >>> ((32 : Int32) &&& 0x3f).toInt64) * (u1 &&& (4294967295 : Int64))) + ((((u0 &&& (4294967295 : Int64)) * (u1 &&& (4294967295 : Int64))).toUInt64 >>> ((32 : Int32) &&& 0x3f).toInt64.toUInt64).toInt64)))]))
  refine Wp.step (fun t k => XS.bipush X0.here hx rfl (hb hby d10_56) k) ?_
  show Wp p e below _ (s₁.setTop (mkF m 58 #[.val (.long u0), .second, .val (.long u1), .second, .val (.long (u0 >>> ((32 : Int32) &&& 0x3f).toInt64)), .second, .val (.long (u0 &&& (4294967295 : Int64))), .second, .val (.long (u1 >>> ((32 : Int32) &&& 0x3f).toInt64)), .second, .val (.long (u1 &&& (4294967295 : Int64))), .second, .val (.long ((u0 &&& (4294967295 : Int64)) * (u1 &&& (4294967295 : Int64)))), .second, .val (.long (((u0 >>> ((32 : Int32) &&& 0x3f).toInt64) * (u1 &&& (4294967295 : Int64))) + ((((u0 &&& (4294967295 : Int64)) * (u1 &&& (4294967295 : Int64))).toUInt64 >>> ((32 : Int32) &&& 0x3f).toInt64.toUInt64).toInt64))), .second, .val (.long ((((u0 >>> ((32 : Int32) &&& 0x3f).toInt64) * (u1 &&& (4294967295 : Int64))) + ((((u0 &&& (4294967295 : Int64)) * (u1 &&& (4294967295 : Int64))).toUInt64 >>> ((32 : Int32) &&& 0x3f).toInt64.toUInt64).toInt64)) &&& (4294967295 : Int64))), .second, .unset, .unset] [(.int (32 : Int32)), (.long (((u0 >>> ((32 : Int32) &&& 0x3f).toInt64) * (u1 &&& (4294967295 : Int64))) + ((((u0 &&& (4294967295 : Int64)) * (u1 &&& (4294967295 : Int64))).toUInt64 >>> ((32 : Int32) &&& 0x3f).toInt64.toUInt64).toInt64)))]))
  refine Wp.step (fun t k => XS.lshr X0.here hx rfl (hb hby d10_58) rfl k) ?_
  show Wp p e below _ (s₁.setTop (mkF m 59 #[.val (.long u0), .second, .val (.long u1), .second, .val (.long (u0 >>> ((32 : Int32) &&& 0x3f).toInt64)), .second, .val (.long (u0 &&& (4294967295 : Int64))), .second, .val (.long (u1 >>> ((32 : Int32) &&& 0x3f).toInt64)), .second, .val (.long (u1 &&& (4294967295 : Int64))), .second, .val (.long ((u0 &&& (4294967295 : Int64)) * (u1 &&& (4294967295 : Int64)))), .second, .val (.long (((u0 >>> ((32 : Int32) &&& 0x3f).toInt64) * (u1 &&& (4294967295 : Int64))) + ((((u0 &&& (4294967295 : Int64)) * (u1 &&& (4294967295 : Int64))).toUInt64 >>> ((32 : Int32) &&& 0x3f).toInt64.toUInt64).toInt64))), .second, .val (.long ((((u0 >>> ((32 : Int32) &&& 0x3f).toInt64) * (u1 &&& (4294967295 : Int64))) + ((((u0 &&& (4294967295 : Int64)) * (u1 &&& (4294967295 : Int64))).toUInt64 >>> ((32 : Int32) &&& 0x3f).toInt64.toUInt64).toInt64)) &&& (4294967295 : Int64))), .second, .unset, .unset] [(.long ((((u0 >>> ((32 : Int32) &&& 0x3f).toInt64) * (u1 &&& (4294967295 : Int64))) + ((((u0 &&& (4294967295 : Int64)) * (u1 &&& (4294967295 : Int64))).toUInt64 >>> ((32 : Int32) &&& 0x3f).toInt64.toUInt64).toInt64)) >>> ((32 : Int32) &&& 0x3f).toInt64))]))
  refine Wp.step (fun t k => XS.lstore X0.here hx rfl (hb hby d10_59) rfl (l' := #[.val (.long u0), .second, .val (.long u1), .second, .val (.long (u0 >>> ((32 : Int32) &&& 0x3f).toInt64)), .second, .val (.long (u0 &&& (4294967295 : Int64))), .second, .val (.long (u1 >>> ((32 : Int32) &&& 0x3f).toInt64)), .second, .val (.long (u1 &&& (4294967295 : Int64))), .second, .val (.long ((u0 &&& (4294967295 : Int64)) * (u1 &&& (4294967295 : Int64)))), .second, .val (.long (((u0 >>> ((32 : Int32) &&& 0x3f).toInt64) * (u1 &&& (4294967295 : Int64))) + ((((u0 &&& (4294967295 : Int64)) * (u1 &&& (4294967295 : Int64))).toUInt64 >>> ((32 : Int32) &&& 0x3f).toInt64.toUInt64).toInt64))), .second, .val (.long ((((u0 >>> ((32 : Int32) &&& 0x3f).toInt64) * (u1 &&& (4294967295 : Int64))) + ((((u0 &&& (4294967295 : Int64)) * (u1 &&& (4294967295 : Int64))).toUInt64 >>> ((32 : Int32) &&& 0x3f).toInt64.toUInt64).toInt64)) &&& (4294967295 : Int64))), .second, .val (.long ((((u0 >>> ((32 : Int32) &&& 0x3f).toInt64) * (u1 &&& (4294967295 : Int64))) + ((((u0 &&& (4294967295 : Int64)) * (u1 &&& (4294967295 : Int64))).toUInt64 >>> ((32 : Int32) &&& 0x3f).toInt64.toUInt64).toInt64)) >>> ((32 : Int32) &&& 0x3f).toInt64)), .second]) rfl k) ?_
  show Wp p e below _ (s₁.setTop (mkF m 61 #[.val (.long u0), .second, .val (.long u1), .second, .val (.long (u0 >>> ((32 : Int32) &&& 0x3f).toInt64)), .second, .val (.long (u0 &&& (4294967295 : Int64))), .second, .val (.long (u1 >>> ((32 : Int32) &&& 0x3f).toInt64)), .second, .val (.long (u1 &&& (4294967295 : Int64))), .second, .val (.long ((u0 &&& (4294967295 : Int64)) * (u1 &&& (4294967295 : Int64)))), .second, .val (.long (((u0 >>> ((32 : Int32) &&& 0x3f).toInt64) * (u1 &&& (4294967295 : Int64))) + ((((u0 &&& (4294967295 : Int64)) * (u1 &&& (4294967295 : Int64))).toUInt64 >>> ((32 : Int32) &&& 0x3f).toInt64.toUInt64).toInt64))), .second, .val (.long ((((u0 >>> ((32 : Int32) &&& 0x3f).toInt64) * (u1 &&& (4294967295 : Int64))) + ((((u0 &&& (4294967295 : Int64)) * (u1 &&& (4294967295 : Int64))).toUInt64 >>> ((32 : Int32) &&& 0x3f).toInt64.toUInt64).toInt64)) &&& (4294967295 : Int64))), .second, .val (.long ((((u0 >>> ((32 : Int32) &&& 0x3f).toInt64) * (u1 &&& (4294967295 : Int64))) + ((((u0 &&& (4294967295 : Int64)) * (u1 &&& (4294967295 : Int64))).toUInt64 >>> ((32 : Int32) &&& 0x3f).toInt64.toUInt64).toInt64)) >>> ((32 : Int32) &&& 0x3f).toInt64)), .second] []))
  refine Wp.step (fun t k => XS.lload X0.here hx rfl (hb hby d10_61) rfl k) ?_
  show Wp p e below _ (s₁.setTop (mkF m 63 #[.val (.long u0), .second, .val (.long u1), .second, .val (.long (u0 >>> ((32 : Int32) &&& 0x3f).toInt64)), .second, .val (.long (u0 &&& (4294967295 : Int64))), .second, .val (.long (u1 >>> ((32 : Int32) &&& 0x3f).toInt64)), .second, .val (.long (u1 &&& (4294967295 : Int64))), .second, .val (.long ((u0 &&& (4294967295 : Int64)) * (u1 &&& (4294967295 : Int64)))), .second, .val (.long (((u0 >>> ((32 : Int32) &&& 0x3f).toInt64) * (u1 &&& (4294967295 : Int64))) + ((((u0 &&& (4294967295 : Int64)) * (u1 &&& (4294967295 : Int64))).toUInt64 >>> ((32 : Int32) &&& 0x3f).toInt64.toUInt64).toInt64))), .second, .val (.long ((((u0 >>> ((32 : Int32) &&& 0x3f).toInt64) * (u1 &&& (4294967295 : Int64))) + ((((u0 &&& (4294967295 : Int64)) * (u1 &&& (4294967295 : Int64))).toUInt64 >>> ((32 : Int32) &&& 0x3f).toInt64.toUInt64).toInt64)) &&& (4294967295 : Int64))), .second, .val (.long ((((u0 >>> ((32 : Int32) &&& 0x3f).toInt64) * (u1 &&& (4294967295 : Int64))) + ((((u0 &&& (4294967295 : Int64)) * (u1 &&& (4294967295 : Int64))).toUInt64 >>> ((32 : Int32) &&& 0x3f).toInt64.toUInt64).toInt64)) >>> ((32 : Int32) &&& 0x3f).toInt64)), .second] [(.long ((((u0 >>> ((32 : Int32) &&& 0x3f).toInt64) * (u1 &&& (4294967295 : Int64))) + ((((u0 &&& (4294967295 : Int64)) * (u1 &&& (4294967295 : Int64))).toUInt64 >>> ((32 : Int32) &&& 0x3f).toInt64.toUInt64).toInt64)) &&& (4294967295 : Int64)))]))
  refine Wp.step (fun t k => XS.lload X0.here hx rfl (hb hby d10_63) rfl k) ?_
  show Wp p e below _ (s₁.setTop (mkF m 65 #[.val (.long u0), .second, .val (.long u1), .second, .val (.long (u0 >>> ((32 : Int32) &&& 0x3f).toInt64)), .second, .val (.long (u0 &&& (4294967295 : Int64))), .second, .val (.long (u1 >>> ((32 : Int32) &&& 0x3f).toInt64)), .second, .val (.long (u1 &&& (4294967295 : Int64))), .second, .val (.long ((u0 &&& (4294967295 : Int64)) * (u1 &&& (4294967295 : Int64)))), .second, .val (.long (((u0 >>> ((32 : Int32) &&& 0x3f).toInt64) * (u1 &&& (4294967295 : Int64))) + ((((u0 &&& (4294967295 : Int64)) * (u1 &&& (4294967295 : Int64))).toUInt64 >>> ((32 : Int32) &&& 0x3f).toInt64.toUInt64).toInt64))), .second, .val (.long ((((u0 >>> ((32 : Int32) &&& 0x3f).toInt64) * (u1 &&& (4294967295 : Int64))) + ((((u0 &&& (4294967295 : Int64)) * (u1 &&& (4294967295 : Int64))).toUInt64 >>> ((32 : Int32) &&& 0x3f).toInt64.toUInt64).toInt64)) &&& (4294967295 : Int64))), .second, .val (.long ((((u0 >>> ((32 : Int32) &&& 0x3f).toInt64) * (u1 &&& (4294967295 : Int64))) + ((((u0 &&& (4294967295 : Int64)) * (u1 &&& (4294967295 : Int64))).toUInt64 >>> ((32 : Int32) &&& 0x3f).toInt64.toUInt64).toInt64)) >>> ((32 : Int32) &&& 0x3f).toInt64)), .second] [(.long (u0 &&& (4294967295 : Int64))), (.long ((((u0 >>> ((32 : Int32) &&& 0x3f).toInt64) * (u1 &&& (4294967295 : Int64))) + ((((u0 &&& (4294967295 : Int64)) * (u1 &&& (4294967295 : Int64))).toUInt64 >>> ((32 : Int32) &&& 0x3f).toInt64.toUInt64).toInt64)) &&& (4294967295 : Int64)))]))
  refine Wp.step (fun t k => XS.lload X0.here hx rfl (hb hby d10_65) rfl k) ?_
  show Wp p e below _ (s₁.setTop (mkF m 67 #[.val (.long u0), .second, .val (.long u1), .second, .val (.long (u0 >>> ((32 : Int32) &&& 0x3f).toInt64)), .second, .val (.long (u0 &&& (4294967295 : Int64))), .second, .val (.long (u1 >>> ((32 : Int32) &&& 0x3f).toInt64)), .second, .val (.long (u1 &&& (4294967295 : Int64))), .second, .val (.long ((u0 &&& (4294967295 : Int64)) * (u1 &&& (4294967295 : Int64)))), .second, .val (.long (((u0 >>> ((32 : Int32) &&& 0x3f).toInt64) * (u1 &&& (4294967295 : Int64))) + ((((u0 &&& (4294967295 : Int64)) * (u1 &&& (4294967295 : Int64))).toUInt64 >>> ((32 : Int32) &&& 0x3f).toInt64.toUInt64).toInt64))), .second, .val (.long ((((u0 >>> ((32 : Int32) &&& 0x3f).toInt64) * (u1 &&& (4294967295 : Int64))) + ((((u0 &&& (4294967295 : Int64)) * (u1 &&& (4294967295 : Int64))).toUInt64 >>> ((32 : Int32) &&& 0x3f).toInt64.toUInt64).toInt64)) &&& (4294967295 : Int64))), .second, .val (.long ((((u0 >>> ((32 : Int32) &&& 0x3f).toInt64) * (u1 &&& (4294967295 : Int64))) + ((((u0 &&& (4294967295 : Int64)) * (u1 &&& (4294967295 : Int64))).toUInt64 >>> ((32 : Int32) &&& 0x3f).toInt64.toUInt64).toInt64)) >>> ((32 : Int32) &&& 0x3f).toInt64)), .second] [(.long (u1 >>> ((32 : Int32) &&& 0x3f).toInt64)), (.long (u0 &&& (4294967295 : Int64))), (.long ((((u0 >>> ((32 : Int32) &&& 0x3f).toInt64) * (u1 &&& (4294967295 : Int64))) + ((((u0 &&& (4294967295 : Int64)) * (u1 &&& (4294967295 : Int64))).toUInt64 >>> ((32 : Int32) &&& 0x3f).toInt64.toUInt64).toInt64)) &&& (4294967295 : Int64)))]))
  refine Wp.step (fun t k => XS.lmul X0.here hx rfl (hb hby d10_67) rfl k) ?_
  show Wp p e below _ (s₁.setTop (mkF m 68 #[.val (.long u0), .second, .val (.long u1), .second, .val (.long (u0 >>> ((32 : Int32) &&& 0x3f).toInt64)), .second, .val (.long (u0 &&& (4294967295 : Int64))), .second, .val (.long (u1 >>> ((32 : Int32) &&& 0x3f).toInt64)), .second, .val (.long (u1 &&& (4294967295 : Int64))), .second, .val (.long ((u0 &&& (4294967295 : Int64)) * (u1 &&& (4294967295 : Int64)))), .second, .val (.long (((u0 >>> ((32 : Int32) &&& 0x3f).toInt64) * (u1 &&& (4294967295 : Int64))) + ((((u0 &&& (4294967295 : Int64)) * (u1 &&& (4294967295 : Int64))).toUInt64 >>> ((32 : Int32) &&& 0x3f).toInt64.toUInt64).toInt64))), .second, .val (.long ((((u0 >>> ((32 : Int32) &&& 0x3f).toInt64) * (u1 &&& (4294967295 : Int64))) + ((((u0 &&& (4294967295 : Int64)) * (u1 &&& (4294967295 : Int64))).toUInt64 >>> ((32 : Int32) &&& 0x3f).toInt64.toUInt64).toInt64)) &&& (4294967295 : Int64))), .second, .val (.long ((((u0 >>> ((32 : Int32) &&& 0x3f).toInt64) * (u1 &&& (4294967295 : Int64))) + ((((u0 &&& (4294967295 : Int64)) * (u1 &&& (4294967295 : Int64))).toUInt64 >>> ((32 : Int32) &&& 0x3f).toInt64.toUInt64).toInt64)) >>> ((32 : Int32) &&& 0x3f).toInt64)), .second] [(.long ((u0 &&& (4294967295 : Int64)) * (u1 >>> ((32 : Int32) &&& 0x3f).toInt64))), (.long ((((u0 >>> ((32 : Int32) &&& 0x3f).toInt64) * (u1 &&& (4294967295 : Int64))) + ((((u0 &&& (4294967295 : Int64)) * (u1 &&& (4294967295 : Int64))).toUInt64 >>> ((32 : Int32) &&& 0x3f).toInt64.toUInt64).toInt64)) &&& (4294967295 : Int64)))]))
  refine Wp.step (fun t k => XS.ladd X0.here hx rfl (hb hby d10_68) rfl k) ?_
  show Wp p e below _ (s₁.setTop (mkF m 69 #[.val (.long u0), .second, .val (.long u1), .second, .val (.long (u0 >>> ((32 : Int32) &&& 0x3f).toInt64)), .second, .val (.long (u0 &&& (4294967295 : Int64))), .second, .val (.long (u1 >>> ((32 : Int32) &&& 0x3f).toInt64)), .second, .val (.long (u1 &&& (4294967295 : Int64))), .second, .val (.long ((u0 &&& (4294967295 : Int64)) * (u1 &&& (4294967295 : Int64)))), .second, .val (.long (((u0 >>> ((32 : Int32) &&& 0x3f).toInt64) * (u1 &&& (4294967295 : Int64))) + ((((u0 &&& (4294967295 : Int64)) * (u1 &&& (4294967295 : Int64))).toUInt64 >>> ((32 : Int32) &&& 0x3f).toInt64.toUInt64).toInt64))), .second, .val (.long ((((u0 >>> ((32 : Int32) &&& 0x3f).toInt64) * (u1 &&& (4294967295 : Int64))) + ((((u0 &&& (4294967295 : Int64)) * (u1 &&& (4294967295 : Int64))).toUInt64 >>> ((32 : Int32) &&& 0x3f).toInt64.toUInt64).toInt64)) &&& (4294967295 : Int64))), .second, .val (.long ((((u0 >>> ((32 : Int32) &&& 0x3f).toInt64) * (u1 &&& (4294967295 : Int64))) + ((((u0 &&& (4294967295 : Int64)) * (u1 &&& (4294967295 : Int64))).toUInt64 >>> ((32 : Int32) &&& 0x3f).toInt64.toUInt64).toInt64)) >>> ((32 : Int32) &&& 0x3f).toInt64)), .second] [(.long (((((u0 >>> ((32 : Int32) &&& 0x3f).toInt64) * (u1 &&& (4294967295 : Int64))) + ((((u0 &&& (4294967295 : Int64)) * (u1 &&& (4294967295 : Int64))).toUInt64 >>> ((32 : Int32) &&& 0x3f).toInt64.toUInt64).toInt64)) &&& (4294967295 : Int64)) + ((u0 &&& (4294967295 : Int64)) * (u1 >>> ((32 : Int32) &&& 0x3f).toInt64))))]))
  refine Wp.step (fun t k => XS.lstore X0.here hx rfl (hb hby d10_69) rfl (l' := #[.val (.long u0), .second, .val (.long u1), .second, .val (.long (u0 >>> ((32 : Int32) &&& 0x3f).toInt64)), .second, .val (.long (u0 &&& (4294967295 : Int64))), .second, .val (.long (u1 >>> ((32 : Int32) &&& 0x3f).toInt64)), .second, .val (.long (u1 &&& (4294967295 : Int64))), .second, .val (.long ((u0 &&& (4294967295 : Int64)) * (u1 &&& (4294967295 : Int64)))), .second, .val (.long (((u0 >>> ((32 : Int32) &&& 0x3f).toInt64) * (u1 &&& (4294967295 : Int64))) + ((((u0 &&& (4294967295 : Int64)) * (u1 &&& (4294967295 : Int64))).toUInt64 >>> ((32 : Int32) &&& 0x3f).toInt64.toUInt64).toInt64))), .second, .val (.long (((((u0 >>> ((32 : Int32) &&& 0x3f).toInt64) * (u1 &&& (4294967295 : Int64))) + ((((u0 &&& (4294967295 : Int64)) * (u1 &&& (4294967295 : Int64))).toUInt64 >>> ((32 : Int32) &&& 0x3f).toInt64.toUInt64).toInt64)) &&& (4294967295 : Int64)) + ((u0 &&& (4294967295 : Int64)) * (u1 >>> ((32 : Int32) &&& 0x3f).toInt64)))), .second, .val (.long ((((u0 >>> ((32 : Int32) &&& 0x3f).toInt64) * (u1 &&& (4294967295 : Int64))) + ((((u0 &&& (4294967295 : Int64)) * (u1 &&& (4294967295 : Int64))).toUInt64 >>> ((32 : Int32) &&& 0x3f).toInt64.toUInt64).toInt64)) >>> ((32 : Int32) &&& 0x3f).toInt64)), .second]) rfl k) ?_
  show Wp p e below _ (s₁.setTop (mkF m 71 #[.val (.long u0), .second, .val (.long u1), .second, .val (.long (u0 >>> ((32 : Int32) &&& 0x3f).toInt64)), .second, .val (.long (u0 &&& (4294967295 : Int64))), .second, .val (.long (u1 >>> ((32 : Int32) &&& 0x3f).toInt64)), .second, .val (.long (u1 &&& (4294967295 : Int64))), .second, .val (.long ((u0 &&& (4294967295 : Int64)) * (u1 &&& (4294967295 : Int64)))), .second, .val (.long (((u0 >>> ((32 : Int32) &&& 0x3f).toInt64) * (u1 &&& (4294967295 : Int64))) + ((((u0 &&& (4294967295 : Int64)) * (u1 &&& (4294967295 : Int64))).toUInt64 >>> ((32 : Int32) &&& 0x3f).toInt64.toUInt64).toInt64))), .second, .val (.long (((((u0 >>> ((32 : Int32) &&& 0x3f).toInt64) * (u1 &&& (4294967295 : Int64))) + ((((u0 &&& (4294967295 : Int64)) * (u1 &&& (4294967295 : Int64))).toUInt64 >>> ((32 : Int32) &&& 0x3f).toInt64.toUInt64).toInt64)) &&& (4294967295 : Int64)) + ((u0 &&& (4294967295 : Int64)) * (u1 >>> ((32 : Int32) &&& 0x3f).toInt64)))), .second, .val (.long ((((u0 >>> ((32 : Int32) &&& 0x3f).toInt64) * (u1 &&& (4294967295 : Int64))) + ((((u0 &&& (4294967295 : Int64)) * (u1 &&& (4294967295 : Int64))).toUInt64 >>> ((32 : Int32) &&& 0x3f).toInt64.toUInt64).toInt64)) >>> ((32 : Int32) &&& 0x3f).toInt64)), .second] []))
  refine Wp.step (fun t k => XS.lload X0.here hx rfl (hb hby d10_71) rfl k) ?_
  show Wp p e below _ (s₁.setTop (mkF m 73 #[.val (.long u0), .second, .val (.long u1), .second, .val (.long (u0 >>> ((32 : Int32) &&& 0x3f).toInt64)), .second, .val (.long (u0 &&& (4294967295 : Int64))), .second, .val (.long (u1 >>> ((32 : Int32) &&& 0x3f).toInt64)), .second, .val (.long (u1 &&& (4294967295 : Int64))), .second, .val (.long ((u0 &&& (4294967295 : Int64)) * (u1 &&& (4294967295 : Int64)))), .second, .val (.long (((u0 >>> ((32 : Int32) &&& 0x3f).toInt64) * (u1 &&& (4294967295 : Int64))) + ((((u0 &&& (4294967295 : Int64)) * (u1 &&& (4294967295 : Int64))).toUInt64 >>> ((32 : Int32) &&& 0x3f).toInt64.toUInt64).toInt64))), .second, .val (.long (((((u0 >>> ((32 : Int32) &&& 0x3f).toInt64) * (u1 &&& (4294967295 : Int64))) + ((((u0 &&& (4294967295 : Int64)) * (u1 &&& (4294967295 : Int64))).toUInt64 >>> ((32 : Int32) &&& 0x3f).toInt64.toUInt64).toInt64)) &&& (4294967295 : Int64)) + ((u0 &&& (4294967295 : Int64)) * (u1 >>> ((32 : Int32) &&& 0x3f).toInt64)))), .second, .val (.long ((((u0 >>> ((32 : Int32) &&& 0x3f).toInt64) * (u1 &&& (4294967295 : Int64))) + ((((u0 &&& (4294967295 : Int64)) * (u1 &&& (4294967295 : Int64))).toUInt64 >>> ((32 : Int32) &&& 0x3f).toInt64.toUInt64).toInt64)) >>> ((32 : Int32) &&& 0x3f).toInt64)), .second] [(.long (u0 >>> ((32 : Int32) &&& 0x3f).toInt64))]))
  refine Wp.step (fun t k => XS.lload X0.here hx rfl (hb hby d10_73) rfl k) ?_
  show Wp p e below _ (s₁.setTop (mkF m 75 #[.val (.long u0), .second, .val (.long u1), .second, .val (.long (u0 >>> ((32 : Int32) &&& 0x3f).toInt64)), .second, .val (.long (u0 &&& (4294967295 : Int64))), .second, .val (.long (u1 >>> ((32 : Int32) &&& 0x3f).toInt64)), .second, .val (.long (u1 &&& (4294967295 : Int64))), .second, .val (.long ((u0 &&& (4294967295 : Int64)) * (u1 &&& (4294967295 : Int64)))), .second, .val (.long (((u0 >>> ((32 : Int32) &&& 0x3f).toInt64) * (u1 &&& (4294967295 : Int64))) + ((((u0 &&& (4294967295 : Int64)) * (u1 &&& (4294967295 : Int64))).toUInt64 >>> ((32 : Int32) &&& 0x3f).toInt64.toUInt64).toInt64))), .second, .val (.long (((((u0 >>> ((32 : Int32) &&& 0x3f).toInt64) * (u1 &&& (4294967295 : Int64))) + ((((u0 &&& (4294967295 : Int64)) * (u1 &&& (4294967295 : Int64))).toUInt64 >>> ((32 : Int32) &&& 0x3f).toInt64.toUInt64).toInt64)) &&& (4294967295 : Int64)) + ((u0 &&& (4294967295 : Int64)) * (u1 >>> ((32 : Int32) &&& 0x3f).toInt64)))), .second, .val (.long ((((u0 >>> ((32 : Int32) &&& 0x3f).toInt64) * (u1 &&& (4294967295 : Int64))) + ((((u0 &&& (4294967295 : Int64)) * (u1 &&& (4294967295 : Int64))).toUInt64 >>> ((32 : Int32) &&& 0x3f).toInt64.toUInt64).toInt64)) >>> ((32 : Int32) &&& 0x3f).toInt64)), .second] [(.long (u1 >>> ((32 : Int32) &&& 0x3f).toInt64)), (.long (u0 >>> ((32 : Int32) &&& 0x3f).toInt64))]))
  refine Wp.step (fun t k => XS.lmul X0.here hx rfl (hb hby d10_75) rfl k) ?_
  show Wp p e below _ (s₁.setTop (mkF m 76 #[.val (.long u0), .second, .val (.long u1), .second, .val (.long (u0 >>> ((32 : Int32) &&& 0x3f).toInt64)), .second, .val (.long (u0 &&& (4294967295 : Int64))), .second, .val (.long (u1 >>> ((32 : Int32) &&& 0x3f).toInt64)), .second, .val (.long (u1 &&& (4294967295 : Int64))), .second, .val (.long ((u0 &&& (4294967295 : Int64)) * (u1 &&& (4294967295 : Int64)))), .second, .val (.long (((u0 >>> ((32 : Int32) &&& 0x3f).toInt64) * (u1 &&& (4294967295 : Int64))) + ((((u0 &&& (4294967295 : Int64)) * (u1 &&& (4294967295 : Int64))).toUInt64 >>> ((32 : Int32) &&& 0x3f).toInt64.toUInt64).toInt64))), .second, .val (.long (((((u0 >>> ((32 : Int32) &&& 0x3f).toInt64) * (u1 &&& (4294967295 : Int64))) + ((((u0 &&& (4294967295 : Int64)) * (u1 &&& (4294967295 : Int64))).toUInt64 >>> ((32 : Int32) &&& 0x3f).toInt64.toUInt64).toInt64)) &&& (4294967295 : Int64)) + ((u0 &&& (4294967295 : Int64)) * (u1 >>> ((32 : Int32) &&& 0x3f).toInt64)))), .second, .val (.long ((((u0 >>> ((32 : Int32) &&& 0x3f).toInt64) * (u1 &&& (4294967295 : Int64))) + ((((u0 &&& (4294967295 : Int64)) * (u1 &&& (4294967295 : Int64))).toUInt64 >>> ((32 : Int32) &&& 0x3f).toInt64.toUInt64).toInt64)) >>> ((32 : Int32) &&& 0x3f).toInt64)), .second] [(.long ((u0 >>> ((32 : Int32) &&& 0x3f).toInt64) * (u1 >>> ((32 : Int32) &&& 0x3f).toInt64)))]))
  refine Wp.step (fun t k => XS.lload X0.here hx rfl (hb hby d10_76) rfl k) ?_
  show Wp p e below _ (s₁.setTop (mkF m 78 #[.val (.long u0), .second, .val (.long u1), .second, .val (.long (u0 >>> ((32 : Int32) &&& 0x3f).toInt64)), .second, .val (.long (u0 &&& (4294967295 : Int64))), .second, .val (.long (u1 >>> ((32 : Int32) &&& 0x3f).toInt64)), .second, .val (.long (u1 &&& (4294967295 : Int64))), .second, .val (.long ((u0 &&& (4294967295 : Int64)) * (u1 &&& (4294967295 : Int64)))), .second, .val (.long (((u0 >>> ((32 : Int32) &&& 0x3f).toInt64) * (u1 &&& (4294967295 : Int64))) + ((((u0 &&& (4294967295 : Int64)) * (u1 &&& (4294967295 : Int64))).toUInt64 >>> ((32 : Int32) &&& 0x3f).toInt64.toUInt64).toInt64))), .second, .val (.long (((((u0 >>> ((32 : Int32) &&& 0x3f).toInt64) * (u1 &&& (4294967295 : Int64))) + ((((u0 &&& (4294967295 : Int64)) * (u1 &&& (4294967295 : Int64))).toUInt64 >>> ((32 : Int32) &&& 0x3f).toInt64.toUInt64).toInt64)) &&& (4294967295 : Int64)) + ((u0 &&& (4294967295 : Int64)) * (u1 >>> ((32 : Int32) &&& 0x3f).toInt64)))), .second, .val (.long ((((u0 >>> ((32 : Int32) &&& 0x3f).toInt64) * (u1 &&& (4294967295 : Int64))) + ((((u0 &&& (4294967295 : Int64)) * (u1 &&& (4294967295 : Int64))).toUInt64 >>> ((32 : Int32) &&& 0x3f).toInt64.toUInt64).toInt64)) >>> ((32 : Int32) &&& 0x3f).toInt64)), .second] [(.long ((((u0 >>> ((32 : Int32) &&& 0x3f).toInt64) * (u1 &&& (4294967295 : Int64))) + ((((u0 &&& (4294967295 : Int64)) * (u1 &&& (4294967295 : Int64))).toUInt64 >>> ((32 : Int32) &&& 0x3f).toInt64.toUInt64).toInt64)) >>> ((32 : Int32) &&& 0x3f).toInt64)), (.long ((u0 >>> ((32 : Int32) &&& 0x3f).toInt64) * (u1 >>> ((32 : Int32) &&& 0x3f).toInt64)))]))
  refine Wp.step (fun t k => XS.ladd X0.here hx rfl (hb hby d10_78) rfl k) ?_
  show Wp p e below _ (s₁.setTop (mkF m 79 #[.val (.long u0), .second, .val (.long u1), .second, .val (.long (u0 >>> ((32 : Int32) &&& 0x3f).toInt64)), .second, .val (.long (u0 &&& (4294967295 : Int64))), .second, .val (.long (u1 >>> ((32 : Int32) &&& 0x3f).toInt64)), .second, .val (.long (u1 &&& (4294967295 : Int64))), .second, .val (.long ((u0 &&& (4294967295 : Int64)) * (u1 &&& (4294967295 : Int64)))), .second, .val (.long (((u0 >>> ((32 : Int32) &&& 0x3f).toInt64) * (u1 &&& (4294967295 : Int64))) + ((((u0 &&& (4294967295 : Int64)) * (u1 &&& (4294967295 : Int64))).toUInt64 >>> ((32 : Int32) &&& 0x3f).toInt64.toUInt64).toInt64))), .second, .val (.long (((((u0 >>> ((32 : Int32) &&& 0x3f).toInt64) * (u1 &&& (4294967295 : Int64))) + ((((u0 &&& (4294967295 : Int64)) * (u1 &&& (4294967295 : Int64))).toUInt64 >>> ((32 : Int32) &&& 0x3f).toInt64.toUInt64).toInt64)) &&& (4294967295 : Int64)) + ((u0 &&& (4294967295 : Int64)) * (u1 >>> ((32 : Int32) &&& 0x3f).toInt64)))), .second, .val (.long ((((u0 >>> ((32 : Int32) &&& 0x3f).toInt64) * (u1 &&& (4294967295 : Int64))) + ((((u0 &&& (4294967295 : Int64)) * (u1 &&& (4294967295 : Int64))).toUInt64 >>> ((32 : Int32) &&& 0x3f).toInt64.toUInt64).toInt64)) >>> ((32 : Int32) &&& 0x3f).toInt64)), .second] [(.long (((u0 >>> ((32 : Int32) &&& 0x3f).toInt64) * (u1 >>> ((32 : Int32) &&& 0x3f).toInt64)) + ((((u0 >>> ((32 : Int32) &&& 0x3f).toInt64) * (u1 &&& (4294967295 : Int64))) + ((((u0 &&& (4294967295 : Int64)) * (u1 &&& (4294967295 : Int64))).toUInt64 >>> ((32 : Int32) &&& 0x3f).toInt64.toUInt64).toInt64)) >>> ((32 : Int32) &&& 0x3f).toInt64)))]))
  refine Wp.step (fun t k => XS.lload X0.here hx rfl (hb hby d10_79) rfl k) ?_
  show Wp p e below _ (s₁.setTop (mkF m 81 #[.val (.long u0), .second, .val (.long u1), .second, .val (.long (u0 >>> ((32 : Int32) &&& 0x3f).toInt64)), .second, .val (.long (u0 &&& (4294967295 : Int64))), .second, .val (.long (u1 >>> ((32 : Int32) &&& 0x3f).toInt64)), .second, .val (.long (u1 &&& (4294967295 : Int64))), .second, .val (.long ((u0 &&& (4294967295 : Int64)) * (u1 &&& (4294967295 : Int64)))), .second, .val (.long (((u0 >>> ((32 : Int32) &&& 0x3f).toInt64) * (u1 &&& (4294967295 : Int64))) + ((((u0 &&& (4294967295 : Int64)) * (u1 &&& (4294967295 : Int64))).toUInt64 >>> ((32 : Int32) &&& 0x3f).toInt64.toUInt64).toInt64))), .second, .val (.long (((((u0 >>> ((32 : Int32) &&& 0x3f).toInt64) * (u1 &&& (4294967295 : Int64))) + ((((u0 &&& (4294967295 : Int64)) * (u1 &&& (4294967295 : Int64))).toUInt64 >>> ((32 : Int32) &&& 0x3f).toInt64.toUInt64).toInt64)) &&& (4294967295 : Int64)) + ((u0 &&& (4294967295 : Int64)) * (u1 >>> ((32 : Int32) &&& 0x3f).toInt64)))), .second, .val (.long ((((u0 >>> ((32 : Int32) &&& 0x3f).toInt64) * (u1 &&& (4294967295 : Int64))) + ((((u0 &&& (4294967295 : Int64)) * (u1 &&& (4294967295 : Int64))).toUInt64 >>> ((32 : Int32) &&& 0x3f).toInt64.toUInt64).toInt64)) >>> ((32 : Int32) &&& 0x3f).toInt64)), .second] [(.long (((((u0 >>> ((32 : Int32) &&& 0x3f).toInt64) * (u1 &&& (4294967295 : Int64))) + ((((u0 &&& (4294967295 : Int64)) * (u1 &&& (4294967295 : Int64))).toUInt64 >>> ((32 : Int32) &&& 0x3f).toInt64.toUInt64).toInt64)) &&& (4294967295 : Int64)) + ((u0 &&& (4294967295 : Int64)) * (u1 >>> ((32 : Int32) &&& 0x3f).toInt64)))), (.long (((u0 >>> ((32 : Int32) &&& 0x3f).toInt64) * (u1 >>> ((32 : Int32) &&& 0x3f).toInt64)) + ((((u0 >>> ((32 : Int32) &&& 0x3f).toInt64) * (u1 &&& (4294967295 : Int64))) + ((((u0 &&& (4294967295 : Int64)) * (u1 &&& (4294967295 : Int64))).toUInt64 >>> ((32 : Int32) &&& 0x3f).toInt64.toUInt64).toInt64)) >>> ((32 : Int32) &&& 0x3f).toInt64)))]))
  refine Wp.step (fun t k => XS.bipush X0.here hx rfl (hb hby d10_81) k) ?_
  show Wp p e below _ (s₁.setTop (mkF m 83 #[.val (.long u0), .second, .val (.long u1), .second, .val (.long (u0 >>> ((32 : Int32) &&& 0x3f).toInt64)), .second, .val (.long (u0 &&& (4294967295 : Int64))), .second, .val (.long (u1 >>> ((32 : Int32) &&& 0x3f).toInt64)), .second, .val (.long (u1 &&& (4294967295 : Int64))), .second, .val (.long ((u0 &&& (4294967295 : Int64)) * (u1 &&& (4294967295 : Int64)))), .second, .val (.long (((u0 >>> ((32 : Int32) &&& 0x3f).toInt64) * (u1 &&& (4294967295 : Int64))) + ((((u0 &&& (4294967295 : Int64)) * (u1 &&& (4294967295 : Int64))).toUInt64 >>> ((32 : Int32) &&& 0x3f).toInt64.toUInt64).toInt64))), .second, .val (.long (((((u0 >>> ((32 : Int32) &&& 0x3f).toInt64) * (u1 &&& (4294967295 : Int64))) + ((((u0 &&& (4294967295 : Int64)) * (u1 &&& (4294967295 : Int64))).toUInt64 >>> ((32 : Int32) &&& 0x3f).toInt64.toUInt64).toInt64)) &&& (4294967295 : Int64)) + ((u0 &&& (4294967295 : Int64)) * (u1 >>> ((32 : Int32) &&& 0x3f).toInt64)))), .second, .val (.long ((((u0 >>> ((32 : Int32) &&& 0x3f).toInt64) * (u1 &&& (4294967295 : Int64))) + ((((u0 &&& (4294967295 : Int64)) * (u1 &&& (4294967295 : Int64))).toUInt64 >>> ((32 : Int32) &&& 0x3f).toInt64.toUInt64).toInt64)) >>> ((32 : Int32) &&& 0x3f).toInt64)), .second] [(.int (32 : Int32)), (.long (((((u0 >>> ((32 : Int32) &&& 0x3f).toInt64) * (u1 &&& (4294967295 : Int64))) + ((((u0 &&& (4294967295 : Int64)) * (u1 &&& (4294967295 : Int64))).toUInt64 >>> ((32 : Int32) &&& 0x3f).toInt64.toUInt64).toInt64)) &&& (4294967295 : Int64)) + ((u0 &&& (4294967295 : Int64)) * (u1 >>> ((32 : Int32) &&& 0x3f).toInt64)))), (.long (((u0 >>> ((32 : Int32) &&& 0x3f).toInt64) * (u1 >>> ((32 : Int32) &&& 0x3f).toInt64)) + ((((u0 >>> ((32 : Int32) &&& 0x3f).toInt64) * (u1 &&& (4294967295 : Int64))) + ((((u0 &&& (4294967295 : Int64)) * (u1 &&& (4294967295 : Int64))).toUInt64 >>> ((32 : Int32) &&& 0x3f).toInt64.toUInt64).toInt64)) >>> ((32 : Int32) &&& 0x3f).toInt64)))]))
  refine Wp.step (fun t k => XS.lshr X0.here hx rfl (hb hby d10_83) rfl k) ?_
  show Wp p e below _ (s₁.setTop (mkF m 84 #[.val (.long u0), .second, .val (.long u1), .second, .val (.long (u0 >>> ((32 : Int32) &&& 0x3f).toInt64)), .second, .val (.long (u0 &&& (4294967295 : Int64))), .second, .val (.long (u1 >>> ((32 : Int32) &&& 0x3f).toInt64)), .second, .val (.long (u1 &&& (4294967295 : Int64))), .second, .val (.long ((u0 &&& (4294967295 : Int64)) * (u1 &&& (4294967295 : Int64)))), .second, .val (.long (((u0 >>> ((32 : Int32) &&& 0x3f).toInt64) * (u1 &&& (4294967295 : Int64))) + ((((u0 &&& (4294967295 : Int64)) * (u1 &&& (4294967295 : Int64))).toUInt64 >>> ((32 : Int32) &&& 0x3f).toInt64.toUInt64).toInt64))), .second, .val (.long (((((u0 >>> ((32 : Int32) &&& 0x3f).toInt64) * (u1 &&& (4294967295 : Int64))) + ((((u0 &&& (4294967295 : Int64)) * (u1 &&& (4294967295 : Int64))).toUInt64 >>> ((32 : Int32) &&& 0x3f).toInt64.toUInt64).toInt64)) &&& (4294967295 : Int64)) + ((u0 &&& (4294967295 : Int64)) * (u1 >>> ((32 : Int32) &&& 0x3f).toInt64)))), .second, .val (.long ((((u0 >>> ((32 : Int32) &&& 0x3f).toInt64) * (u1 &&& (4294967295 : Int64))) + ((((u0 &&& (4294967295 : Int64)) * (u1 &&& (4294967295 : Int64))).toUInt64 >>> ((32 : Int32) &&& 0x3f).toInt64.toUInt64).toInt64)) >>> ((32 : Int32) &&& 0x3f).toInt64)), .second] [(.long ((((((u0 >>> ((32 : Int32) &&& 0x3f).toInt64) * (u1 &&& (4294967295 : Int64))) + ((((u0 &&& (4294967295 : Int64)) * (u1 &&& (4294967295 : Int64))).toUInt64 >>> ((32 : Int32) &&& 0x3f).toInt64.toUInt64).toInt64)) &&& (4294967295 : Int64)) + ((u0 &&& (4294967295 : Int64)) * (u1 >>> ((32 : Int32) &&& 0x3f).toInt64))) >>> ((32 : Int32) &&& 0x3f).toInt64)), (.long (((u0 >>> ((32 : Int32) &&& 0x3f).toInt64) * (u1 >>> ((32 : Int32) &&& 0x3f).toInt64)) + ((((u0 >>> ((32 : Int32) &&& 0x3f).toInt64) * (u1 &&& (4294967295 : Int64))) + ((((u0 &&& (4294967295 : Int64)) * (u1 &&& (4294967295 : Int64))).toUInt64 >>> ((32 : Int32) &&& 0x3f).toInt64.toUInt64).toInt64)) >>> ((32 : Int32) &&& 0x3f).toInt64)))]))
  refine Wp.step (fun t k => XS.ladd X0.here hx rfl (hb hby d10_84) rfl k) ?_
  show Wp p e below _ (s₁.setTop (mkF m 85 #[.val (.long u0), .second, .val (.long u1), .second, .val (.long (u0 >>> ((32 : Int32) &&& 0x3f).toInt64)), .second, .val (.long (u0 &&& (4294967295 : Int64))), .second, .val (.long (u1 >>> ((32 : Int32) &&& 0x3f).toInt64)), .second, .val (.long (u1 &&& (4294967295 : Int64))), .second, .val (.long ((u0 &&& (4294967295 : Int64)) * (u1 &&& (4294967295 : Int64)))), .second, .val (.long (((u0 >>> ((32 : Int32) &&& 0x3f).toInt64) * (u1 &&& (4294967295 : Int64))) + ((((u0 &&& (4294967295 : Int64)) * (u1 &&& (4294967295 : Int64))).toUInt64 >>> ((32 : Int32) &&& 0x3f).toInt64.toUInt64).toInt64))), .second, .val (.long (((((u0 >>> ((32 : Int32) &&& 0x3f).toInt64) * (u1 &&& (4294967295 : Int64))) + ((((u0 &&& (4294967295 : Int64)) * (u1 &&& (4294967295 : Int64))).toUInt64 >>> ((32 : Int32) &&& 0x3f).toInt64.toUInt64).toInt64)) &&& (4294967295 : Int64)) + ((u0 &&& (4294967295 : Int64)) * (u1 >>> ((32 : Int32) &&& 0x3f).toInt64)))), .second, .val (.long ((((u0 >>> ((32 : Int32) &&& 0x3f).toInt64) * (u1 &&& (4294967295 : Int64))) + ((((u0 &&& (4294967295 : Int64)) * (u1 &&& (4294967295 : Int64))).toUInt64 >>> ((32 : Int32) &&& 0x3f).toInt64.toUInt64).toInt64)) >>> ((32 : Int32) &&& 0x3f).toInt64)), .second] [(.long ((((u0 >>> ((32 : Int32) &&& 0x3f).toInt64) * (u1 >>> ((32 : Int32) &&& 0x3f).toInt64)) + ((((u0 >>> ((32 : Int32) &&& 0x3f).toInt64) * (u1 &&& (4294967295 : Int64))) + ((((u0 &&& (4294967295 : Int64)) * (u1 &&& (4294967295 : Int64))).toUInt64 >>> ((32 : Int32) &&& 0x3f).toInt64.toUInt64).toInt64)) >>> ((32 : Int32) &&& 0x3f).toInt64)) + ((((((u0 >>> ((32 : Int32) &&& 0x3f).toInt64) * (u1 &&& (4294967295 : Int64))) + ((((u0 &&& (4294967295 : Int64)) * (u1 &&& (4294967295 : Int64))).toUInt64 >>> ((32 : Int32) &&& 0x3f).toInt64.toUInt64).toInt64)) &&& (4294967295 : Int64)) + ((u0 &&& (4294967295 : Int64)) * (u1 >>> ((32 : Int32) &&& 0x3f).toInt64))) >>> ((32 : Int32) &&& 0x3f).toInt64)))]))
  refine Wp.retJ X0 hx Bd.returns (hb hby d10_85) hlk ?_ (by decide) (by decide)
  show Q10 Z u0 u1 h0 n0 (some (.long ((((u0 >>> ((32 : Int32) &&& 0x3f).toInt64) * (u1 >>> ((32 : Int32) &&& 0x3f).toInt64)) + ((((u0 >>> ((32 : Int32) &&& 0x3f).toInt64) * (u1 &&& (4294967295 : Int64))) + ((((u0 &&& (4294967295 : Int64)) * (u1 &&& (4294967295 : Int64))).toUInt64 >>> ((32 : Int32) &&& 0x3f).toInt64.toUInt64).toInt64)) >>> ((32 : Int32) &&& 0x3f).toInt64)) + ((((((u0 >>> ((32 : Int32) &&& 0x3f).toInt64) * (u1 &&& (4294967295 : Int64))) + ((((u0 &&& (4294967295 : Int64)) * (u1 &&& (4294967295 : Int64))).toUInt64 >>> ((32 : Int32) &&& 0x3f).toInt64.toUInt64).toInt64)) &&& (4294967295 : Int64)) + ((u0 &&& (4294967295 : Int64)) * (u1 >>> ((32 : Int32) &&& 0x3f).toInt64))) >>> ((32 : Int32) &&& 0x3f).toInt64)))) s₁.heap _
  rw [e0]
  exact ⟨rfl, N0, rfl⟩
theorem d33_0 : decode jdk_35_method_42_code 0 = .ok (.lload_n 0, 1) := by decide +kernel
theorem d33_1 : decode jdk_35_method_42_code 1 = .ok (.lload_n 2, 1) := by decide +kernel
theorem d33_2 : decode jdk_35_method_42_code 2 = .ok (.lcmp, 1) := by decide +kernel
theorem d33_3 : decode jdk_35_method_42_code 3 = .ok (.ifCond .ge 7, 3) := by decide +kernel
theorem d33_6 : decode jdk_35_method_42_code 6 = .ok (.iconst (-1), 1) := by decide +kernel
theorem d33_7 : decode jdk_35_method_42_code 7 = .ok (.goto 14, 3) := by decide +kernel
theorem d33_10 : decode jdk_35_method_42_code 10 = .ok (.lload_n 0, 1) := by decide +kernel
theorem d33_11 : decode jdk_35_method_42_code 11 = .ok (.lload_n 2, 1) := by decide +kernel
theorem d33_12 : decode jdk_35_method_42_code 12 = .ok (.lcmp, 1) := by decide +kernel
theorem d33_13 : decode jdk_35_method_42_code 13 = .ok (.ifCond .ne 7, 3) := by decide +kernel
theorem d33_16 : decode jdk_35_method_42_code 16 = .ok (.iconst 0, 1) := by decide +kernel
theorem d33_17 : decode jdk_35_method_42_code 17 = .ok (.goto 4, 3) := by decide +kernel
theorem d33_20 : decode jdk_35_method_42_code 20 = .ok (.iconst 1, 1) := by decide +kernel
theorem d33_21 : decode jdk_35_method_42_code 21 = .ok (.ireturn, 1) := by decide +kernel
theorem pn_java_lang_Long : plainName "java/lang/Long" = true := by first | (simp [plainName, overriddenIn]; done) | decide +kernel
theorem ef_33_00 (m : MethodId) (x0 : Int64) (x1 : Int64) : entryFrame m #[(.long x0), (.long x1)] 4 = mkF m 0 #[.val (.long x0), .second, .val (.long x1), .second] [] := by first | (simp [entryFrame, mkF, argsToLocals, Value.category]; done) | rfl
def Q33 (Z : State) (u0 : Int64) (u1 : Int64) (h0 : Heap) (n0 : Nat) (v : Option Value) (h : Heap) (L : List Loc) : Prop := v = some (.int (own_cmp u0 u1)) ∧ Fr n0 L ∧ h = h0
set_option maxRecDepth 65536 in
set_option maxHeartbeats 40000000 in
theorem rm33 (l : Launch) (Z : State) (a0 : Array Value) (hw : ∀ d ∈ tables_1, d.before a0 Z = true) (ws : List Jvm.Cond) (u0 : Int64) (u1 : Int64) (h0 : Heap) (n0 : Nat) (Z0 : n0 ≤ h0.size) :
    MetFree l (⟨"java/lang/Long", "compare", "(JJ)I"⟩ : MethodName) (head1 (Jvm.Cond.code (⟨"java/lang/Long", "compare", "(JJ)I"⟩ : MethodName) jdk_35_method_42_code 4 (some .int) :: ws) ({ frames := 0, cells := 0, slots := 0, locals := 0 } : Room)) (fun a U => a = #[(.long u0), (.long u1)] ∧ Z.Warmed39 U.vm ∧ U.heap = h0) (fun _ _ _ _ _ => True) (fun _ U o U' => ∃ v L, o = .returned v ∧ Q33 Z u0 u1 h0 n0 v U'.heap L ∧ FrameEnd U o U' L ({ frames := 0, cells := 0, slots := 0, locals := 0 } : Room).cells ({ frames := 0, cells := 0, slots := 0, locals := 0 } : Room).slots) := by
  refine MetFree.of_bodySF (plainFor_of_name pn_java_lang_Long) hisR ?_
  intro p e s m args below meth c s₁ Bd hml0 hP hK
  obtain ⟨rfl, hZ, hh⟩ := hP
  have hx := Bd.exec
  have hby := Bd.bytes
  have hlk : meth.locks = false := Bd.notSynchronized
  have hml : c.maxLocals = 4 := hml0
  have hown : s.vm.findClass "java/lang/Long" = some m.cls := findClass_of_methodNamed Bd.named
  have hnm := (name_of_methodNamed Bd.named Bd.method).1
  have X0 : Stand p l e ({ frames := 0, cells := 0, slots := 0, locals := 0 } : Room) s m #[(.long u0), (.long u1)] below meth c s₁ [] 0 0 := Stand.of_body Bd
  have e0 : s₁.heap = h0 := by rw [← hh, Bd.state]; rfl
  have N0 := Fr.nil n0
  have K0 : Keep h0 h0 [] := Keep.refl h0 _
  show Wp p e below (Out s (Q33 Z u0 u1 h0 n0) ({ frames := 0, cells := 0, slots := 0, locals := 0 } : Room).cells ({ frames := 0, cells := 0, slots := 0, locals := 0 } : Room).slots) (s₁.setTop (entryFrame m #[(.long u0), (.long u1)] 4))
  rw [ef_33_00]
  show Wp p e below _ (s₁.setTop (mkF m 0 #[.val (.long u0), .second, .val (.long u1), .second] []))
  refine Wp.step (fun t k => XS.lloadN X0.here hx rfl (hb hby d33_0) rfl k) ?_
  show Wp p e below _ (s₁.setTop (mkF m 1 #[.val (.long u0), .second, .val (.long u1), .second] [(.long u0)]))
  refine Wp.step (fun t k => XS.lloadN X0.here hx rfl (hb hby d33_1) rfl k) ?_
  show Wp p e below _ (s₁.setTop (mkF m 2 #[.val (.long u0), .second, .val (.long u1), .second] [(.long u1), (.long u0)]))
  refine Wp.step (fun t k => XS.lcmp X0.here hx rfl (hb hby d33_2) rfl k) ?_
  show Wp p e below _ (s₁.setTop (mkF m 3 #[.val (.long u0), .second, .val (.long u1), .second] [(.int (lcmpW u0 u1))]))
  by_cases hc1 : (lcmpW u0 u1) < (0 : Int32)
  · refine Wp.step (fun t k => XS.ifNo X0.here hx rfl (hb hby d33_3) rfl ((if0 _ _).trans (tlt hc1).2.1) k) ?_
    show Wp p e below _ (s₁.setTop (mkF m 6 #[.val (.long u0), .second, .val (.long u1), .second] []))
    refine Wp.step (fun t k => XS.iconst X0.here hx rfl (hb hby d33_6) k) ?_
    show Wp p e below _ (s₁.setTop (mkF m 7 #[.val (.long u0), .second, .val (.long u1), .second] [(.int (-1 : Int32))]))
    refine Wp.step (fun t k => XS.goto X0.here hx rfl (pc0 := 7) (pc' := 21) rfl (hb hby d33_7) (by decide) (by decide) k) ?_
    show Wp p e below _ (s₁.setTop (mkF m 21 #[.val (.long u0), .second, .val (.long u1), .second] [(.int (-1 : Int32))]))
    refine Wp.retI X0 hx Bd.returns (hb hby d33_21) hlk ?_ (by decide) (by decide)
    show Q33 Z u0 u1 h0 n0 (some (.int (-1 : Int32))) s₁.heap _
    rw [e0]
    exact ⟨(by rw [own_cmp, if_pos ((lw_lt _ _).mp hc1)]), N0, rfl⟩
  · refine Wp.step (fun t k => XS.ifYes X0.here hx rfl (pc0 := 3) (pc' := 10) rfl (hb hby d33_3) rfl ((if0 _ _).trans (flt hc1).2.1) (by decide) (by decide) k) ?_
    show Wp p e below _ (s₁.setTop (mkF m 10 #[.val (.long u0), .second, .val (.long u1), .second] []))
    refine Wp.step (fun t k => XS.lloadN X0.here hx rfl (hb hby d33_10) rfl k) ?_
    show Wp p e below _ (s₁.setTop (mkF m 11 #[.val (.long u0), .second, .val (.long u1), .second] [(.long u0)]))
    refine Wp.step (fun t k => XS.lloadN X0.here hx rfl (hb hby d33_11) rfl k) ?_
    show Wp p e below _ (s₁.setTop (mkF m 12 #[.val (.long u0), .second, .val (.long u1), .second] [(.long u1), (.long u0)]))
    refine Wp.step (fun t k => XS.lcmp X0.here hx rfl (hb hby d33_12) rfl k) ?_
    show Wp p e below _ (s₁.setTop (mkF m 13 #[.val (.long u0), .second, .val (.long u1), .second] [(.int (lcmpW u0 u1))]))
    by_cases hc2 : (lcmpW u0 u1) = (0 : Int32)
    · refine Wp.step (fun t k => XS.ifNo X0.here hx rfl (hb hby d33_13) rfl ((if0 _ _).trans (teq hc2).2) k) ?_
      show Wp p e below _ (s₁.setTop (mkF m 16 #[.val (.long u0), .second, .val (.long u1), .second] []))
      refine Wp.step (fun t k => XS.iconst X0.here hx rfl (hb hby d33_16) k) ?_
      show Wp p e below _ (s₁.setTop (mkF m 17 #[.val (.long u0), .second, .val (.long u1), .second] [(.int (0 : Int32))]))
      refine Wp.step (fun t k => XS.goto X0.here hx rfl (pc0 := 17) (pc' := 21) rfl (hb hby d33_17) (by decide) (by decide) k) ?_
      show Wp p e below _ (s₁.setTop (mkF m 21 #[.val (.long u0), .second, .val (.long u1), .second] [(.int (0 : Int32))]))
      refine Wp.retI X0 hx Bd.returns (hb hby d33_21) hlk ?_ (by decide) (by decide)
      show Q33 Z u0 u1 h0 n0 (some (.int (0 : Int32))) s₁.heap _
      rw [e0]
      exact ⟨(by rw [own_cmp, if_neg (fun q => hc1 ((lw_lt _ _).mpr q)), if_pos ((lw_eq _ _).mp hc2)]), N0, rfl⟩
    · refine Wp.step (fun t k => XS.ifYes X0.here hx rfl (pc0 := 13) (pc' := 20) rfl (hb hby d33_13) rfl ((if0 _ _).trans (feq hc2).2) (by decide) (by decide) k) ?_
      show Wp p e below _ (s₁.setTop (mkF m 20 #[.val (.long u0), .second, .val (.long u1), .second] []))
      refine Wp.step (fun t k => XS.iconst X0.here hx rfl (hb hby d33_20) k) ?_
      show Wp p e below _ (s₁.setTop (mkF m 21 #[.val (.long u0), .second, .val (.long u1), .second] [(.int (1 : Int32))]))
      refine Wp.retI X0 hx Bd.returns (hb hby d33_21) hlk ?_ (by decide) (by decide)
      show Q33 Z u0 u1 h0 n0 (some (.int (1 : Int32))) s₁.heap _
      rw [e0]
      exact ⟨(by rw [own_cmp, if_neg (fun q => hc1 ((lw_lt _ _).mpr q)), if_neg (fun q => hc2 ((lw_eq _ _).mpr q))]), N0, rfl⟩
theorem pd_28JJ29I : parseMethodDescriptor "(JJ)I" = some ⟨[.long, .long], some .int⟩ := by decide +kernel
theorem d32_0 : decode jdk_35_method_43_code 0 = .ok (.lload_n 0, 1) := by decide +kernel
theorem d32_1 : decode jdk_35_method_43_code 1 = .ok (.ldc2_w 168, 3) := by decide +kernel
theorem d32_4 : decode jdk_35_method_43_code 4 = .ok (.ladd, 1) := by decide +kernel
theorem d32_5 : decode jdk_35_method_43_code 5 = .ok (.lload_n 2, 1) := by decide +kernel
theorem d32_6 : decode jdk_35_method_43_code 6 = .ok (.ldc2_w 168, 3) := by decide +kernel
theorem d32_9 : decode jdk_35_method_43_code 9 = .ok (.ladd, 1) := by decide +kernel
theorem d32_10 : decode jdk_35_method_43_code 10 = .ok (.invokestatic 302, 3) := by decide +kernel
theorem d32_13 : decode jdk_35_method_43_code 13 = .ok (.ireturn, 1) := by decide +kernel
theorem ef_32_00 (m : MethodId) (x0 : Int64) (x1 : Int64) : entryFrame m #[(.long x0), (.long x1)] 4 = mkF m 0 #[.val (.long x0), .second, .val (.long x1), .second] [] := by first | (simp [entryFrame, mkF, argsToLocals, Value.category]; done) | rfl
def Q32 (Z : State) (u0 : Int64) (u1 : Int64) (h0 : Heap) (n0 : Nat) (v : Option Value) (h : Heap) (L : List Loc) : Prop := v = some (.int (own_cu u0 u1)) ∧ Fr n0 L ∧ h = h0
set_option maxRecDepth 65536 in
set_option maxHeartbeats 40000000 in
theorem rm32 (l : Launch) (Z : State) (a0 : Array Value) (hw : ∀ d ∈ tables_1, d.before a0 Z = true) (ws : List Jvm.Cond) (u0 : Int64) (u1 : Int64) (h0 : Heap) (n0 : Nat) (Z0 : n0 ≤ h0.size) :
    MetFree l (⟨"java/lang/Long", "compareUnsigned", "(JJ)I"⟩ : MethodName) (head1 (Jvm.Cond.code (⟨"java/lang/Long", "compareUnsigned", "(JJ)I"⟩ : MethodName) jdk_35_method_43_code 4 (some .int) :: ws) ({ frames := 1, cells := 0, slots := 0, locals := 15 } : Room)) (fun a U => a = #[(.long u0), (.long u1)] ∧ Z.Warmed39 U.vm ∧ U.heap = h0) (fun _ _ _ _ _ => True) (fun _ U o U' => ∃ v L, o = .returned v ∧ Q32 Z u0 u1 h0 n0 v U'.heap L ∧ FrameEnd U o U' L ({ frames := 1, cells := 0, slots := 0, locals := 15 } : Room).cells ({ frames := 1, cells := 0, slots := 0, locals := 15 } : Room).slots) := by
  refine MetFree.of_bodySF (plainFor_of_name pn_java_lang_Long) hisR ?_
  intro p e s m args below meth c s₁ Bd hml0 hP hK
  obtain ⟨rfl, hZ, hh⟩ := hP
  have hx := Bd.exec
  have hby := Bd.bytes
  have hlk : meth.locks = false := Bd.notSynchronized
  have hml : c.maxLocals = 4 := hml0
  have hown : s.vm.findClass "java/lang/Long" = some m.cls := findClass_of_methodNamed Bd.named
  have hnm := (name_of_methodNamed Bd.named Bd.method).1
  have X0 : Stand p l e ({ frames := 1, cells := 0, slots := 0, locals := 15 } : Room) s m #[(.long u0), (.long u1)] below meth c s₁ [] 0 0 := Stand.of_body Bd
  have e0 : s₁.heap = h0 := by rw [← hh, Bd.state]; rfl
  have N0 := Fr.nil n0
  have K0 : Keep h0 h0 [] := Keep.refl h0 _
  show Wp p e below (Out s (Q32 Z u0 u1 h0 n0) ({ frames := 1, cells := 0, slots := 0, locals := 15 } : Room).cells ({ frames := 1, cells := 0, slots := 0, locals := 15 } : Room).slots) (s₁.setTop (entryFrame m #[(.long u0), (.long u1)] 4))
  rw [ef_32_00]
  show Wp p e below _ (s₁.setTop (mkF m 0 #[.val (.long u0), .second, .val (.long u1), .second] []))
  refine Wp.step (fun t k => XS.lloadN X0.here hx rfl (hb hby d32_0) rfl k) ?_
  show Wp p e below _ (s₁.setTop (mkF m 1 #[.val (.long u0), .second, .val (.long u1), .second] [(.long u0)]))
  refine Wp.step (X0.ldc2Long hx hown (mvT hZ (hw _ (List.mem_of_getElem? (i := 185) rfl))) (g := (mkF m 1 #[.val (.long u0), .second, .val (.long u1), .second] [(.long u0)])) rfl (hb hby d32_1)) ?_
  show Wp p e below _ (s₁.setTop (mkF m 4 #[.val (.long u0), .second, .val (.long u1), .second] [(.long (-9223372036854775808 : Int64)), (.long u0)]))
  refine Wp.step (fun t k => XS.ladd X0.here hx rfl (hb hby d32_4) rfl k) ?_
  show Wp p e below _ (s₁.setTop (mkF m 5 #[.val (.long u0), .second, .val (.long u1), .second] [(.long (u0 + (-9223372036854775808 : Int64)))]))
  refine Wp.step (fun t k => XS.lloadN X0.here hx rfl (hb hby d32_5) rfl k) ?_
  show Wp p e below _ (s₁.setTop (mkF m 6 #[.val (.long u0), .second, .val (.long u1), .second] [(.long u1), (.long (u0 + (-9223372036854775808 : Int64)))]))
  refine Wp.step (X0.ldc2Long hx hown (mvT hZ (hw _ (List.mem_of_getElem? (i := 185) rfl))) (g := (mkF m 6 #[.val (.long u0), .second, .val (.long u1), .second] [(.long u1), (.long (u0 + (-9223372036854775808 : Int64)))])) rfl (hb hby d32_6)) ?_
  show Wp p e below _ (s₁.setTop (mkF m 9 #[.val (.long u0), .second, .val (.long u1), .second] [(.long (-9223372036854775808 : Int64)), (.long u1), (.long (u0 + (-9223372036854775808 : Int64)))]))
  refine Wp.step (fun t k => XS.ladd X0.here hx rfl (hb hby d32_9) rfl k) ?_
  show Wp p e below _ (s₁.setTop (mkF m 10 #[.val (.long u0), .second, .val (.long u1), .second] [(.long (u1 + (-9223372036854775808 : Int64))), (.long (u0 + (-9223372036854775808 : Int64)))]))
  obtain ⟨_, _, ⟨T1, L1, k1, n1⟩, -, X1, ⟨Lc1, hQ1, l1, y1, z1⟩, st1⟩ := Jvm.LawKit.callS X0 hx (y := (⟨"java/lang/Long", "compare", "(JJ)I"⟩ : MethodName)) hown (mvT hZ (hw _ (List.mem_of_getElem? (i := 186) rfl))) (mvT hZ (hw _ (List.mem_of_getElem? (i := 187) rfl))) (mvT hZ (hw _ (List.mem_of_getElem? (i := 89) rfl))) (mvT hZ (hw _ (List.mem_of_getElem? (i := 188) rfl))) (by decide) (backOf (W := 0) (rm33 l Z a0 hw [] (u0 + (-9223372036854775808 : Int64)) (u1 + (-9223372036854775808 : Int64))  h0 n0 (Nat.le_trans Z0 K0.1)  ) hZ (hw _ (List.mem_of_getElem? (i := 188) rfl)) (hw _ (List.mem_of_getElem? (i := 89) rfl)) (by decide) (by decide)) (g := (mkF m 10 #[.val (.long u0), .second, .val (.long u1), .second] [(.long (u1 + (-9223372036854775808 : Int64))), (.long (u0 + (-9223372036854775808 : Int64)))])) rfl (by rw [hml]; rfl) (argsL := [(.long (u0 + (-9223372036854775808 : Int64))), (.long (u1 + (-9223372036854775808 : Int64)))]) (rest := []) (lenOf pd_28JJ29I rfl) rfl (by show 2 * 0 + _ ≤ _; exact Nat.le_of_eq rfl) (hb hby d32_10) (fun _ _ => ⟨rfl, e0, (by decide : 0 + 0 ≤ _), (by decide : 0 + 0 ≤ _)⟩)
  dsimp only [Pt.U, Pt.locs, Pt.cells, Pt.slots] at X1 l1 y1 z1 st1 hQ1
  subst l1 y1 z1
  obtain ⟨rfl, N1q, e1⟩ := hQ1
  have N1 := Fr.app N0 N1q
  refine Wp.step st1 ?_
  show Wp p e below _ (T1.setTop (mkF m 13 #[.val (.long u0), .second, .val (.long u1), .second] [(.int (own_cmp (u0 + (-9223372036854775808 : Int64)) (u1 + (-9223372036854775808 : Int64))))]))
  refine Wp.retI X1 hx Bd.returns (hb hby d32_13) hlk ?_ (by decide) (by decide)
  show Q32 Z u0 u1 h0 n0 (some (.int (own_cmp (u0 + (-9223372036854775808 : Int64)) (u1 + (-9223372036854775808 : Int64))))) T1.heap _
  rw [e1]
  exact ⟨rfl, N1, rfl⟩
theorem d15_0 : decode jdk_35_method_44_code 0 = .ok (.lload_n 2, 1) := by decide +kernel
theorem d15_1 : decode jdk_35_method_44_code 1 = .ok (.lconst 0, 1) := by decide +kernel
theorem d15_2 : decode jdk_35_method_44_code 2 = .ok (.lcmp, 1) := by decide +kernel
theorem d15_3 : decode jdk_35_method_44_code 3 = .ok (.ifCond .lt 38, 3) := by decide +kernel
theorem d15_6 : decode jdk_35_method_44_code 6 = .ok (.lload_n 0, 1) := by decide +kernel
theorem d15_7 : decode jdk_35_method_44_code 7 = .ok (.iconst 1, 1) := by decide +kernel
theorem d15_8 : decode jdk_35_method_44_code 8 = .ok (.lushr, 1) := by decide +kernel
theorem d15_9 : decode jdk_35_method_44_code 9 = .ok (.lload_n 2, 1) := by decide +kernel
theorem d15_10 : decode jdk_35_method_44_code 10 = .ok (.ldiv, 1) := by decide +kernel
theorem d15_11 : decode jdk_35_method_44_code 11 = .ok (.iconst 1, 1) := by decide +kernel
theorem d15_12 : decode jdk_35_method_44_code 12 = .ok (.lshl, 1) := by decide +kernel
theorem d15_13 : decode jdk_35_method_44_code 13 = .ok (.lstore 4, 2) := by decide +kernel
theorem d15_15 : decode jdk_35_method_44_code 15 = .ok (.lload_n 0, 1) := by decide +kernel
theorem d15_16 : decode jdk_35_method_44_code 16 = .ok (.lload 4, 2) := by decide +kernel
theorem d15_18 : decode jdk_35_method_44_code 18 = .ok (.lload_n 2, 1) := by decide +kernel
theorem d15_19 : decode jdk_35_method_44_code 19 = .ok (.lmul, 1) := by decide +kernel
theorem d15_20 : decode jdk_35_method_44_code 20 = .ok (.lsub, 1) := by decide +kernel
theorem d15_21 : decode jdk_35_method_44_code 21 = .ok (.lstore 6, 2) := by decide +kernel
theorem d15_23 : decode jdk_35_method_44_code 23 = .ok (.lload 4, 2) := by decide +kernel
theorem d15_25 : decode jdk_35_method_44_code 25 = .ok (.lload 6, 2) := by decide +kernel
theorem d15_27 : decode jdk_35_method_44_code 27 = .ok (.lload 6, 2) := by decide +kernel
theorem d15_29 : decode jdk_35_method_44_code 29 = .ok (.lload_n 2, 1) := by decide +kernel
theorem d15_30 : decode jdk_35_method_44_code 30 = .ok (.lsub, 1) := by decide +kernel
theorem d15_31 : decode jdk_35_method_44_code 31 = .ok (.ldc2_w 306, 3) := by decide +kernel
theorem d15_34 : decode jdk_35_method_44_code 34 = .ok (.lxor, 1) := by decide +kernel
theorem d15_35 : decode jdk_35_method_44_code 35 = .ok (.lor, 1) := by decide +kernel
theorem d15_36 : decode jdk_35_method_44_code 36 = .ok (.bipush 63, 2) := by decide +kernel
theorem d15_38 : decode jdk_35_method_44_code 38 = .ok (.lushr, 1) := by decide +kernel
theorem d15_39 : decode jdk_35_method_44_code 39 = .ok (.ladd, 1) := by decide +kernel
theorem d15_40 : decode jdk_35_method_44_code 40 = .ok (.lreturn, 1) := by decide +kernel
theorem ef_15_00 (m : MethodId) (x0 : Int64) (x1 : Int64) : entryFrame m #[(.long x0), (.long x1)] 8 = mkF m 0 #[.val (.long x0), .second, .val (.long x1), .second, .unset, .unset, .unset, .unset] [] := by first | (simp [entryFrame, mkF, argsToLocals, Value.category]; done) | rfl
def Q15 (Z : State) (u0 : Int64) (u1 : Int64) (h0 : Heap) (n0 : Nat) (v : Option Value) (h : Heap) (L : List Loc) : Prop := v = some (.long (own_dq u0 u1)) ∧ Fr n0 L ∧ h = h0
set_option maxRecDepth 65536 in
set_option maxHeartbeats 40000000 in
theorem rm15 (l : Launch) (Z : State) (a0 : Array Value) (hw : ∀ d ∈ tables_1, d.before a0 Z = true) (ws : List Jvm.Cond) (u0 : Int64) (u1 : Int64) (h0 : Heap) (n0 : Nat) (Z0 : n0 ≤ h0.size) (hd : ¬ u1 < 1) :
    MetFree l (⟨"java/lang/Long", "divideUnsigned", "(JJ)J"⟩ : MethodName) (head1 (Jvm.Cond.code (⟨"java/lang/Long", "divideUnsigned", "(JJ)J"⟩ : MethodName) jdk_35_method_44_code 8 (some .long) :: ws) ({ frames := 0, cells := 0, slots := 0, locals := 0 } : Room)) (fun a U => a = #[(.long u0), (.long u1)] ∧ Z.Warmed39 U.vm ∧ U.heap = h0) (fun _ _ _ _ _ => True) (fun _ U o U' => ∃ v L, o = .returned v ∧ Q15 Z u0 u1 h0 n0 v U'.heap L ∧ FrameEnd U o U' L ({ frames := 0, cells := 0, slots := 0, locals := 0 } : Room).cells ({ frames := 0, cells := 0, slots := 0, locals := 0 } : Room).slots) := by
  refine MetFree.of_bodySF (plainFor_of_name pn_java_lang_Long) hisR ?_
  intro p e s m args below meth c s₁ Bd hml0 hP hK
  obtain ⟨rfl, hZ, hh⟩ := hP
  have hx := Bd.exec
  have hby := Bd.bytes
  have hlk : meth.locks = false := Bd.notSynchronized
  have hml : c.maxLocals = 8 := hml0
  have hown : s.vm.findClass "java/lang/Long" = some m.cls := findClass_of_methodNamed Bd.named
  have hnm := (name_of_methodNamed Bd.named Bd.method).1
  have X0 : Stand p l e ({ frames := 0, cells := 0, slots := 0, locals := 0 } : Room) s m #[(.long u0), (.long u1)] below meth c s₁ [] 0 0 := Stand.of_body Bd
  have e0 : s₁.heap = h0 := by rw [← hh, Bd.state]; rfl
  have N0 := Fr.nil n0
  have K0 : Keep h0 h0 [] := Keep.refl h0 _
  show Wp p e below (Out s (Q15 Z u0 u1 h0 n0) ({ frames := 0, cells := 0, slots := 0, locals := 0 } : Room).cells ({ frames := 0, cells := 0, slots := 0, locals := 0 } : Room).slots) (s₁.setTop (entryFrame m #[(.long u0), (.long u1)] 8))
  rw [ef_15_00]
  show Wp p e below _ (s₁.setTop (mkF m 0 #[.val (.long u0), .second, .val (.long u1), .second, .unset, .unset, .unset, .unset] []))
  refine Wp.step (fun t k => XS.lloadN X0.here hx rfl (hb hby d15_0) rfl k) ?_
  show Wp p e below _ (s₁.setTop (mkF m 1 #[.val (.long u0), .second, .val (.long u1), .second, .unset, .unset, .unset, .unset] [(.long u1)]))
  refine Wp.step (fun t k => XS.lconst X0.here hx rfl (hb hby d15_1) k) ?_
  show Wp p e below _ (s₁.setTop (mkF m 2 #[.val (.long u0), .second, .val (.long u1), .second, .unset, .unset, .unset, .unset] [(.long (0 : Int64)), (.long u1)]))
  refine Wp.step (fun t k => XS.lcmp X0.here hx rfl (hb hby d15_2) rfl k) ?_
  show Wp p e below _ (s₁.setTop (mkF m 3 #[.val (.long u0), .second, .val (.long u1), .second, .unset, .unset, .unset, .unset] [(.int (lcmpW u1 (0 : Int64)))]))
  refine Wp.step (fun t k => XS.ifNo X0.here hx rfl (hb hby d15_3) rfl ((if0 _ _).trans (flt (show ¬ ((lcmpW u1 (0 : Int64)) < (0 : Int32)) from fun q => hd (Int64.lt_trans ((lw_lt _ _).mp q) (by decide)))).1) k) ?_
  show Wp p e below _ (s₁.setTop (mkF m 6 #[.val (.long u0), .second, .val (.long u1), .second, .unset, .unset, .unset, .unset] []))
  refine Wp.step (fun t k => XS.lloadN X0.here hx rfl (hb hby d15_6) rfl k) ?_
  show Wp p e below _ (s₁.setTop (mkF m 7 #[.val (.long u0), .second, .val (.long u1), .second, .unset, .unset, .unset, .unset] [(.long u0)]))
  refine Wp.step (fun t k => XS.iconst X0.here hx rfl (hb hby d15_7) k) ?_
  show Wp p e below _ (s₁.setTop (mkF m 8 #[.val (.long u0), .second, .val (.long u1), .second, .unset, .unset, .unset, .unset] [(.int (1 : Int32)), (.long u0)]))
  refine Wp.step (fun t k => XS.lushr X0.here hx rfl (hb hby d15_8) rfl k) ?_
  show Wp p e below _ (s₁.setTop (mkF m 9 #[.val (.long u0), .second, .val (.long u1), .second, .unset, .unset, .unset, .unset] [(.long ((u0.toUInt64 >>> ((1 : Int32) &&& 0x3f).toInt64.toUInt64).toInt64))]))
  refine Wp.step (fun t k => XS.lloadN X0.here hx rfl (hb hby d15_9) rfl k) ?_
  show Wp p e below _ (s₁.setTop (mkF m 10 #[.val (.long u0), .second, .val (.long u1), .second, .unset, .unset, .unset, .unset] [(.long u1), (.long ((u0.toUInt64 >>> ((1 : Int32) &&& 0x3f).toInt64.toUInt64).toInt64))]))
  refine Wp.step (fun t k => XS.ldiv X0.here hx rfl (hb hby d15_10) rfl (fun q => hd (by rw [q]; decide)) k) ?_
  show Wp p e below _ (s₁.setTop (mkF m 11 #[.val (.long u0), .second, .val (.long u1), .second, .unset, .unset, .unset, .unset] [(.long (((u0.toUInt64 >>> ((1 : Int32) &&& 0x3f).toInt64.toUInt64).toInt64) / u1))]))
  refine Wp.step (fun t k => XS.iconst X0.here hx rfl (hb hby d15_11) k) ?_
  show Wp p e below _ (s₁.setTop (mkF m 12 #[.val (.long u0), .second, .val (.long u1), .second, .unset, .unset, .unset, .unset] [(.int (1 : Int32)), (.long (((u0.toUInt64 >>> ((1 : Int32) &&& 0x3f).toInt64.toUInt64).toInt64) / u1))]))
  refine Wp.step (fun t k => XS.lshl X0.here hx rfl (hb hby d15_12) rfl k) ?_
  show Wp p e below _ (s₁.setTop (mkF m 13 #[.val (.long u0), .second, .val (.long u1), .second, .unset, .unset, .unset, .unset] [(.long ((((u0.toUInt64 >>> ((1 : Int32) &&& 0x3f).toInt64.toUInt64).toInt64) / u1) <<< ((1 : Int32) &&& 0x3f).toInt64))]))
  refine Wp.step (fun t k => XS.lstore X0.here hx rfl (hb hby d15_13) rfl (l' := #[.val (.long u0), .second, .val (.long u1), .second, .val (.long ((((u0.toUInt64 >>> ((1 : Int32) &&& 0x3f).toInt64.toUInt64).toInt64) / u1) <<< ((1 : Int32) &&& 0x3f).toInt64)), .second, .unset, .unset]) rfl k) ?_
  show Wp p e below _ (s₁.setTop (mkF m 15 #[.val (.long u0), .second, .val (.long u1), .second, .val (.long ((((u0.toUInt64 >>> ((1 : Int32) &&& 0x3f).toInt64.toUInt64).toInt64) / u1) <<< ((1 : Int32) &&& 0x3f).toInt64)), .second, .unset, .unset] []))
  refine Wp.step (fun t k => XS.lloadN X0.here hx rfl (hb hby d15_15) rfl k) ?_
  show Wp p e below _ (s₁.setTop (mkF m 16 #[.val (.long u0), .second, .val (.long u1), .second, .val (.long ((((u0.toUInt64 >>> ((1 : Int32) &&& 0x3f).toInt64.toUInt64).toInt64) / u1) <<< ((1 : Int32) &&& 0x3f).toInt64)), .second, .unset, .unset] [(.long u0)]))
  refine Wp.step (fun t k => XS.lload X0.here hx rfl (hb hby d15_16) rfl k) ?_
  show Wp p e below _ (s₁.setTop (mkF m 18 #[.val (.long u0), .second, .val (.long u1), .second, .val (.long ((((u0.toUInt64 >>> ((1 : Int32) &&& 0x3f).toInt64.toUInt64).toInt64) / u1) <<< ((1 : Int32) &&& 0x3f).toInt64)), .second, .unset, .unset] [(.long ((((u0.toUInt64 >>> ((1 : Int32) &&& 0x3f).toInt64.toUInt64).toInt64) / u1) <<< ((1 : Int32) &&& 0x3f).toInt64)), (.long u0)]))
  refine Wp.step (fun t k => XS.lloadN X0.here hx rfl (hb hby d15_18) rfl k) ?_
  show Wp p e below _ (s₁.setTop (mkF m 19 #[.val (.long u0), .second, .val (.long u1), .second, .val (.long ((((u0.toUInt64 >>> ((1 : Int32) &&& 0x3f).toInt64.toUInt64).toInt64) / u1) <<< ((1 : Int32) &&& 0x3f).toInt64)), .second, .unset, .unset] [(.long u1), (.long ((((u0.toUInt64 >>> ((1 : Int32) &&& 0x3f).toInt64.toUInt64).toInt64) / u1) <<< ((1 : Int32) &&& 0x3f).toInt64)), (.long u0)]))
  refine Wp.step (fun t k => XS.lmul X0.here hx rfl (hb hby d15_19) rfl k) ?_
  show Wp p e below _ (s₁.setTop (mkF m 20 #[.val (.long u0), .second, .val (.long u1), .second, .val (.long ((((u0.toUInt64 >>> ((1 : Int32) &&& 0x3f).toInt64.toUInt64).toInt64) / u1) <<< ((1 : Int32) &&& 0x3f).toInt64)), .second, .unset, .unset] [(.long (((((u0.toUInt64 >>> ((1 : Int32) &&& 0x3f).toInt64.toUInt64).toInt64) / u1) <<< ((1 : Int32) &&& 0x3f).toInt64) * u1)), (.long u0)]))
  refine Wp.step (fun t k => XS.lsub X0.here hx rfl (hb hby d15_20) rfl k) ?_
  show Wp p e below _ (s₁.setTop (mkF m 21 #[.val (.long u0), .second, .val (.long u1), .second, .val (.long ((((u0.toUInt64 >>> ((1 : Int32) &&& 0x3f).toInt64.toUInt64).toInt64) / u1) <<< ((1 : Int32) &&& 0x3f).toInt64)), .second, .unset, .unset] [(.long (u0 - (((((u0.toUInt64 >>> ((1 : Int32) &&& 0x3f).toInt64.toUInt64).toInt64) / u1) <<< ((1 : Int32) &&& 0x3f).toInt64) * u1)))]))
  refine Wp.step (fun t k => XS.lstore X0.here hx rfl (hb hby d15_21) rfl (l' := #[.val (.long u0), .second, .val (.long u1), .second, .val (.long ((((u0.toUInt64 >>> ((1 : Int32) &&& 0x3f).toInt64.toUInt64).toInt64) / u1) <<< ((1 : Int32) &&& 0x3f).toInt64)), .second, .val (.long (u0 - (((((u0.toUInt64 >>> ((1 : Int32) &&& 0x3f).toInt64.toUInt64).toInt64) / u1) <<< ((1 : Int32) &&& 0x3f).toInt64) * u1))), .second]) rfl k) ?_
  show Wp p e below _ (s₁.setTop (mkF m 23 #[.val (.long u0), .second, .val (.long u1), .second, .val (.long ((((u0.toUInt64 >>> ((1 : Int32) &&& 0x3f).toInt64.toUInt64).toInt64) / u1) <<< ((1 : Int32) &&& 0x3f).toInt64)), .second, .val (.long (u0 - (((((u0.toUInt64 >>> ((1 : Int32) &&& 0x3f).toInt64.toUInt64).toInt64) / u1) <<< ((1 : Int32) &&& 0x3f).toInt64) * u1))), .second] []))
  refine Wp.step (fun t k => XS.lload X0.here hx rfl (hb hby d15_23) rfl k) ?_
  show Wp p e below _ (s₁.setTop (mkF m 25 #[.val (.long u0), .second, .val (.long u1), .second, .val (.long ((((u0.toUInt64 >>> ((1 : Int32) &&& 0x3f).toInt64.toUInt64).toInt64) / u1) <<< ((1 : Int32) &&& 0x3f).toInt64)), .second, .val (.long (u0 - (((((u0.toUInt64 >>> ((1 : Int32) &&& 0x3f).toInt64.toUInt64).toInt64) / u1) <<< ((1 : Int32) &&& 0x3f).toInt64) * u1))), .second] [(.long ((((u0.toUInt64 >>> ((1 : Int32) &&& 0x3f).toInt64.toUInt64).toInt64) / u1) <<< ((1 : Int32) &&& 0x3f).toInt64))]))
  refine Wp.step (fun t k => XS.lload X0.here hx rfl (hb hby d15_25) rfl k) ?_
  show Wp p e below _ (s₁.setTop (mkF m 27 #[.val (.long u0), .second, .val (.long u1), .second, .val (.long ((((u0.toUInt64 >>> ((1 : Int32) &&& 0x3f).toInt64.toUInt64).toInt64) / u1) <<< ((1 : Int32) &&& 0x3f).toInt64)), .second, .val (.long (u0 - (((((u0.toUInt64 >>> ((1 : Int32) &&& 0x3f).toInt64.toUInt64).toInt64) / u1) <<< ((1 : Int32) &&& 0x3f).toInt64) * u1))), .second] [(.long (u0 - (((((u0.toUInt64 >>> ((1 : Int32) &&& 0x3f).toInt64.toUInt64).toInt64) / u1) <<< ((1 : Int32) &&& 0x3f).toInt64) * u1))), (.long ((((u0.toUInt64 >>> ((1 : Int32) &&& 0x3f).toInt64.toUInt64).toInt64) / u1) <<< ((1 : Int32) &&& 0x3f).toInt64))]))
  refine Wp.step (fun t k => XS.lload X0.here hx rfl (hb hby d15_27) rfl k) ?_
  show Wp p e below _ (s₁.setTop (mkF m 29 #[.val (.long u0), .second, .val (.long u1), .second, .val (.long ((((u0.toUInt64 >>> ((1 : Int32) &&& 0x3f).toInt64.toUInt64).toInt64) / u1) <<< ((1 : Int32) &&& 0x3f).toInt64)), .second, .val (.long (u0 - (((((u0.toUInt64 >>> ((1 : Int32) &&& 0x3f).toInt64.toUInt64).toInt64) / u1) <<< ((1 : Int32) &&& 0x3f).toInt64) * u1))), .second] [(.long (u0 - (((((u0.toUInt64 >>> ((1 : Int32) &&& 0x3f).toInt64.toUInt64).toInt64) / u1) <<< ((1 : Int32) &&& 0x3f).toInt64) * u1))), (.long (u0 - (((((u0.toUInt64 >>> ((1 : Int32) &&& 0x3f).toInt64.toUInt64).toInt64) / u1) <<< ((1 : Int32) &&& 0x3f).toInt64) * u1))), (.long ((((u0.toUInt64 >>> ((1 : Int32) &&& 0x3f).toInt64.toUInt64).toInt64) / u1) <<< ((1 : Int32) &&& 0x3f).toInt64))]))
  refine Wp.step (fun t k => XS.lloadN X0.here hx rfl (hb hby d15_29) rfl k) ?_
  show Wp p e below _ (s₁.setTop (mkF m 30 #[.val (.long u0), .second, .val (.long u1), .second, .val (.long ((((u0.toUInt64 >>> ((1 : Int32) &&& 0x3f).toInt64.toUInt64).toInt64) / u1) <<< ((1 : Int32) &&& 0x3f).toInt64)), .second, .val (.long (u0 - (((((u0.toUInt64 >>> ((1 : Int32) &&& 0x3f).toInt64.toUInt64).toInt64) / u1) <<< ((1 : Int32) &&& 0x3f).toInt64) * u1))), .second] [(.long u1), (.long (u0 - (((((u0.toUInt64 >>> ((1 : Int32) &&& 0x3f).toInt64.toUInt64).toInt64) / u1) <<< ((1 : Int32) &&& 0x3f).toInt64) * u1))), (.long (u0 - (((((u0.toUInt64 >>> ((1 : Int32) &&& 0x3f).toInt64.toUInt64).toInt64) / u1) <<< ((1 : Int32) &&& 0x3f).toInt64) * u1))), (.long ((((u0.toUInt64 >>> ((1 : Int32) &&& 0x3f).toInt64.toUInt64).toInt64) / u1) <<< ((1 : Int32) &&& 0x3f).toInt64))]))
  refine Wp.step (fun t k => XS.lsub X0.here hx rfl (hb hby d15_30) rfl k) ?_
  show Wp p e below _ (s₁.setTop (mkF m 31 #[.val (.long u0), .second, .val (.long u1), .second, .val (.long ((((u0.toUInt64 >>> ((1 : Int32) &&& 0x3f).toInt64.toUInt64).toInt64) / u1) <<< ((1 : Int32) &&& 0x3f).toInt64)), .second, .val (.long (u0 - (((((u0.toUInt64 >>> ((1 : Int32) &&& 0x3f).toInt64.toUInt64).toInt64) / u1) <<< ((1 : Int32) &&& 0x3f).toInt64) * u1))), .second] [(.long ((u0 - (((((u0.toUInt64 >>> ((1 : Int32) &&& 0x3f).toInt64.toUInt64).toInt64) / u1) <<< ((1 : Int32) &&& 0x3f).toInt64) * u1)) - u1)), (.long (u0 - (((((u0.toUInt64 >>> ((1 : Int32) &&& 0x3f).toInt64.toUInt64).toInt64) / u1) <<< ((1 : Int32) &&& 0x3f).toInt64) * u1))), (.long ((((u0.toUInt64 >>> ((1 : Int32) &&& 0x3f).toInt64.toUInt64).toInt64) / u1) <<< ((1 : Int32) &&& 0x3f).toInt64))]))
  refine Wp.step (X0.ldc2Long hx hown (mvT hZ (hw _ (List.mem_of_getElem? (i := 91) rfl))) (g := (mkF m 31 #[.val (.long u0), .second, .val (.long u1), .second, .val (.long ((((u0.toUInt64 >>> ((1 : Int32) &&& 0x3f).toInt64.toUInt64).toInt64) / u1) <<< ((1 : Int32) &&& 0x3f).toInt64)), .second, .val (.long (u0 - (((((u0.toUInt64 >>> ((1 : Int32) &&& 0x3f).toInt64.toUInt64).toInt64) / u1) <<< ((1 : Int32) &&& 0x3f).toInt64) * u1))), .second] [(.long ((u0 - (((((u0.toUInt64 >>> ((1 : Int32) &&& 0x3f).toInt64.toUInt64).toInt64) / u1) <<< ((1 : Int32) &&& 0x3f).toInt64) * u1)) - u1)), (.long (u0 - (((((u0.toUInt64 >>> ((1 : Int32) &&& 0x3f).toInt64.toUInt64).toInt64) / u1) <<< ((1 : Int32) &&& 0x3f).toInt64) * u1))), (.long ((((u0.toUInt64 >>> ((1 : Int32) &&& 0x3f).toInt64.toUInt64).toInt64) / u1) <<< ((1 : Int32) &&& 0x3f).toInt64))])) rfl (hb hby d15_31)) ?_
  show Wp p e below _ (s₁.setTop (mkF m 34 #[.val (.long u0), .second, .val (.long u1), .second, .val (.long ((((u0.toUInt64 >>> ((1 : Int32) &&& 0x3f).toInt64.toUInt64).toInt64) / u1) <<< ((1 : Int32) &&& 0x3f).toInt64)), .second, .val (.long (u0 - (((((u0.toUInt64 >>> ((1 : Int32) &&& 0x3f).toInt64.toUInt64).toInt64) / u1) <<< ((1 : Int32) &&& 0x3f).toInt64) * u1))), .second] [(.long (-1 : Int64)), (.long ((u0 - (((((u0.toUInt64 >>> ((1 : Int32) &&& 0x3f).toInt64.toUInt64).toInt64) / u1) <<< ((1 : Int32) &&& 0x3f).toInt64) * u1)) - u1)), (.long (u0 - (((((u0.toUInt64 >>> ((1 : Int32) &&& 0x3f).toInt64.toUInt64).toInt64) / u1) <<< ((1 : Int32) &&& 0x3f).toInt64) * u1))), (.long ((((u0.toUInt64 >>> ((1 : Int32) &&& 0x3f).toInt64.toUInt64).toInt64) / u1) <<< ((1 : Int32) &&& 0x3f).toInt64))]))
  refine Wp.step (fun t k => XS.lxor X0.here hx rfl (hb hby d15_34) rfl k) ?_
  show Wp p e below _ (s₁.setTop (mkF m 35 #[.val (.long u0), .second, .val (.long u1), .second, .val (.long ((((u0.toUInt64 >>> ((1 : Int32) &&& 0x3f).toInt64.toUInt64).toInt64) / u1) <<< ((1 : Int32) &&& 0x3f).toInt64)), .second, .val (.long (u0 - (((((u0.toUInt64 >>> ((1 : Int32) &&& 0x3f).toInt64.toUInt64).toInt64) / u1) <<< ((1 : Int32) &&& 0x3f).toInt64) * u1))), .second] [(.long (((u0 - (((((u0.toUInt64 >>> ((1 : Int32) &&& 0x3f).toInt64.toUInt64).toInt64) / u1) <<< ((1 : Int32) &&& 0x3f).toInt64) * u1)) - u1) ^^^ (-1 : Int64))), (.long (u0 - (((((u0.toUInt64 >>> ((1 : Int32) &&& 0x3f).toInt64.toUInt64).toInt64) / u1) <<< ((1 : Int32) &&& 0x3f).toInt64) * u1))), (.long ((((u0.toUInt64 >>> ((1 : Int32) &&& 0x3f).toInt64.toUInt64).toInt64) / u1) <<< ((1 : Int32) &&& 0x3f).toInt64))]))
  refine Wp.step (fun t k => XS.lor X0.here hx rfl (hb hby d15_35) rfl k) ?_
  show Wp p e below _ (s₁.setTop (mkF m 36 #[.val (.long u0), .second, .val (.long u1), .second, .val (.long ((((u0.toUInt64 >>> ((1 : Int32) &&& 0x3f).toInt64.toUInt64).toInt64) / u1) <<< ((1 : Int32) &&& 0x3f).toInt64)), .second, .val (.long (u0 - (((((u0.toUInt64 >>> ((1 : Int32) &&& 0x3f).toInt64.toUInt64).toInt64) / u1) <<< ((1 : Int32) &&& 0x3f).toInt64) * u1))), .second] [(.long ((u0 - (((((u0.toUInt64 >>> ((1 : Int32) &&& 0x3f).toInt64.toUInt64).toInt64) / u1) <<< ((1 : Int32) &&& 0x3f).toInt64) * u1)) ||| (((u0 - (((((u0.toUInt64 >>> ((1 : Int32) &&& 0x3f).toInt64.toUInt64).toInt64) / u1) <<< ((1 : Int32) &&& 0x3f).toInt64) * u1)) - u1) ^^^ (-1 : Int64)))), (.long ((((u0.toUInt64 >>> ((1 : Int32) &&& 0x3f).toInt64.toUInt64).toInt64) / u1) <<< ((1 : Int32) &&& 0x3f).toInt64))]))
  refine Wp.step (fun t k => XS.bipush X0.here hx rfl (hb hby d15_36) k) ?_
  show Wp p e below _ (s₁.setTop (mkF m 38 #[.val (.long u0), .second, .val (.long u1), .second, .val (.long ((((u0.toUInt64 >>> ((1 : Int32) &&& 0x3f).toInt64.toUInt64).toInt64) / u1) <<< ((1 : Int32) &&& 0x3f).toInt64)), .second, .val (.long (u0 - (((((u0.toUInt64 >>> ((1 : Int32) &&& 0x3f).toInt64.toUInt64).toInt64) / u1) <<< ((1 : Int32) &&& 0x3f).toInt64) * u1))), .second] [(.int (63 : Int32)), (.long ((u0 - (((((u0.toUInt64 >>> ((1 : Int32) &&& 0x3f).toInt64.toUInt64).toInt64) / u1) <<< ((1 : Int32) &&& 0x3f).toInt64) * u1)) ||| (((u0 - (((((u0.toUInt64 >>> ((1 : Int32) &&& 0x3f).toInt64.toUInt64).toInt64) / u1) <<< ((1 : Int32) &&& 0x3f).toInt64) * u1)) - u1) ^^^ (-1 : Int64)))), (.long ((((u0.toUInt64 >>> ((1 : Int32) &&& 0x3f).toInt64.toUInt64).toInt64) / u1) <<< ((1 : Int32) &&& 0x3f).toInt64))]))
  refine Wp.step (fun t k => XS.lushr X0.here hx rfl (hb hby d15_38) rfl k) ?_
  show Wp p e below _ (s₁.setTop (mkF m 39 #[.val (.long u0), .second, .val (.long u1), .second, .val (.long ((((u0.toUInt64 >>> ((1 : Int32) &&& 0x3f).toInt64.toUInt64).toInt64) / u1) <<< ((1 : Int32) &&& 0x3f).toInt64)), .second, .val (.long (u0 - (((((u0.toUInt64 >>> ((1 : Int32) &&& 0x3f).toInt64.toUInt64).toInt64) / u1) <<< ((1 : Int32) &&& 0x3f).toInt64) * u1))), .second] [(.long ((((u0 - (((((u0.toUInt64 >>> ((1 : Int32) &&& 0x3f).toInt64.toUInt64).toInt64) / u1) <<< ((1 : Int32) &&& 0x3f).toInt64) * u1)) ||| (((u0 - (((((u0.toUInt64 >>> ((1 : Int32) &&& 0x3f).toInt64.toUInt64).toInt64) / u1) <<< ((1 : Int32) &&& 0x3f).toInt64) * u1)) - u1) ^^^ (-1 : Int64))).toUInt64 >>> ((63 : Int32) &&& 0x3f).toInt64.toUInt64).toInt64)), (.long ((((u0.toUInt64 >>> ((1 : Int32) &&& 0x3f).toInt64.toUInt64).toInt64) / u1) <<< ((1 : Int32) &&& 0x3f).toInt64))]))
  refine Wp.step (fun t k => XS.ladd X0.here hx rfl (hb hby d15_39) rfl k) ?_
  show Wp p e below _ (s₁.setTop (mkF m 40 #[.val (.long u0), .second, .val (.long u1), .second, .val (.long ((((u0.toUInt64 >>> ((1 : Int32) &&& 0x3f).toInt64.toUInt64).toInt64) / u1) <<< ((1 : Int32) &&& 0x3f).toInt64)), .second, .val (.long (u0 - (((((u0.toUInt64 >>> ((1 : Int32) &&& 0x3f).toInt64.toUInt64).toInt64) / u1) <<< ((1 : Int32) &&& 0x3f).toInt64) * u1))), .second] [(.long (((((u0.toUInt64 >>> ((1 : Int32) &&& 0x3f).toInt64.toUInt64).toInt64) / u1) <<< ((1 : Int32) &&& 0x3f).toInt64) + ((((u0 - (((((u0.toUInt64 >>> ((1 : Int32) &&& 0x3f).toInt64.toUInt64).toInt64) / u1) <<< ((1 : Int32) &&& 0x3f).toInt64) * u1)) ||| (((u0 - (((((u0.toUInt64 >>> ((1 : Int32) &&& 0x3f).toInt64.toUInt64).toInt64) / u1) <<< ((1 : Int32) &&& 0x3f).toInt64) * u1)) - u1) ^^^ (-1 : Int64))).toUInt64 >>> ((63 : Int32) &&& 0x3f).toInt64.toUInt64).toInt64)))]))
  refine Wp.retJ X0 hx Bd.returns (hb hby d15_40) hlk ?_ (by decide) (by decide)
  show Q15 Z u0 u1 h0 n0 (some (.long (((((u0.toUInt64 >>> ((1 : Int32) &&& 0x3f).toInt64.toUInt64).toInt64) / u1) <<< ((1 : Int32) &&& 0x3f).toInt64) + ((((u0 - (((((u0.toUInt64 >>> ((1 : Int32) &&& 0x3f).toInt64.toUInt64).toInt64) / u1) <<< ((1 : Int32) &&& 0x3f).toInt64) * u1)) ||| (((u0 - (((((u0.toUInt64 >>> ((1 : Int32) &&& 0x3f).toInt64.toUInt64).toInt64) / u1) <<< ((1 : Int32) &&& 0x3f).toInt64) * u1)) - u1) ^^^ (-1 : Int64))).toUInt64 >>> ((63 : Int32) &&& 0x3f).toInt64.toUInt64).toInt64)))) s₁.heap _
  rw [e0]
  exact ⟨rfl, N0, rfl⟩
theorem d11_0 : decode prog_17_method_1_code 0 = .ok (.aload_n 0, 1) := by decide +kernel
theorem d11_1 : decode prog_17_method_1_code 1 = .ok (.invokespecial 1, 3) := by decide +kernel
theorem d11_4 : decode prog_17_method_1_code 4 = .ok (.aload_n 0, 1) := by decide +kernel
theorem d11_5 : decode prog_17_method_1_code 5 = .ok (.lload_n 1, 1) := by decide +kernel
theorem d11_6 : decode prog_17_method_1_code 6 = .ok (.putfield 7, 3) := by decide +kernel
theorem d11_9 : decode prog_17_method_1_code 9 = .ok (.aload_n 0, 1) := by decide +kernel
theorem d11_10 : decode prog_17_method_1_code 10 = .ok (.lload_n 3, 1) := by decide +kernel
theorem d11_11 : decode prog_17_method_1_code 11 = .ok (.putfield 13, 3) := by decide +kernel
theorem d11_14 : decode prog_17_method_1_code 14 = .ok (.return_, 1) := by decide +kernel
theorem pn_com_example_gentle_bucket_gentlebucket_Uint128 : plainName "com/example/gentle_bucket/gentlebucket/Uint128" = true := by first | (simp [plainName, overriddenIn]; done) | decide +kernel
theorem ef_11_000 (m : MethodId) (x0 : Addr) (x1 : Int64) (x2 : Int64) : entryFrame m #[(.ref x0), (.long x1), (.long x2)] 5 = mkF m 0 #[.val (.ref x0), .val (.long x1), .second, .val (.long x2), .second] [] := by first | (simp [entryFrame, mkF, argsToLocals, Value.category]; done) | rfl
def Q11 (Z : State) (d0 : Addr) (u0 : Int64) (u1 : Int64) (x0 : Int64) (x1 : Int64) (h0 : Heap) (n0 : Nat) (v : Option Value) (h : Heap) (L : List Loc) : Prop := v = none ∧ Fr n0 L ∧ Keep h0 h [d0] ∧ Exa Z h d0 "com/example/gentle_bucket/gentlebucket/Uint128" ∧ Fld Z h d0 "com/example/gentle_bucket/gentlebucket/Uint128" "high" "J" (.long u0) ∧ Fld Z h d0 "com/example/gentle_bucket/gentlebucket/Uint128" "low" "J" (.long u1)
set_option maxRecDepth 65536 in
set_option maxHeartbeats 40000000 in
theorem rm11 (l : Launch) (Z : State) (a0 : Array Value) (hw : ∀ d ∈ tables_1, d.before a0 Z = true) (ws : List Jvm.Cond) (d0 : Addr) (u0 : Int64) (u1 : Int64) (x0 : Int64) (x1 : Int64) (h0 : Heap) (n0 : Nat) (Z0 : n0 ≤ h0.size) (g_d0 : n0 ≤ d0) (E_d0 : Exa Z h0 d0 "com/example/gentle_bucket/gentlebucket/Uint128") (F_high_d0 : Fld Z h0 d0 "com/example/gentle_bucket/gentlebucket/Uint128" "high" "J" (.long x0)) (F_low_d0 : Fld Z h0 d0 "com/example/gentle_bucket/gentlebucket/Uint128" "low" "J" (.long x1)) :
    MetFree l (⟨"com/example/gentle_bucket/gentlebucket/Uint128", "<init>", "(JJ)V"⟩ : MethodName) (head1 (Jvm.Cond.code (⟨"com/example/gentle_bucket/gentlebucket/Uint128", "<init>", "(JJ)V"⟩ : MethodName) prog_17_method_1_code 5 none :: ws) ({ frames := 1, cells := 0, slots := 0, locals := 12 } : Room)) (fun a U => a = #[(.ref d0), (.long u0), (.long u1)] ∧ Z.Warmed39 U.vm ∧ U.heap = h0) (fun _ _ _ _ _ => True) (fun _ U o U' => ∃ v L, o = .returned v ∧ Q11 Z d0 u0 u1 x0 x1 h0 n0 v U'.heap L ∧ FrameEnd U o U' L ({ frames := 1, cells := 0, slots := 0, locals := 12 } : Room).cells ({ frames := 1, cells := 0, slots := 0, locals := 12 } : Room).slots) := by
  refine MetFree.of_bodySF (plainFor_of_name pn_com_example_gentle_bucket_gentlebucket_Uint128) hisR ?_
  intro p e s m args below meth c s₁ Bd hml0 hP hK
  obtain ⟨rfl, hZ, hh⟩ := hP
  have hx := Bd.exec
  have hby := Bd.bytes
  have hlk : meth.locks = false := Bd.notSynchronized
  have hml : c.maxLocals = 5 := hml0
  have hown : s.vm.findClass "com/example/gentle_bucket/gentlebucket/Uint128" = some m.cls := findClass_of_methodNamed Bd.named
  have hnm := (name_of_methodNamed Bd.named Bd.method).1
  have X0 : Stand p l e ({ frames := 1, cells := 0, slots := 0, locals := 12 } : Room) s m #[(.ref d0), (.long u0), (.long u1)] below meth c s₁ [] 0 0 := Stand.of_body Bd
  have e0 : s₁.heap = h0 := by rw [← hh, Bd.state]; rfl
  have N0 := Fr.nil n0
  have K0 : Keep h0 h0 [d0] := Keep.refl h0 _
  show Wp p e below (Out s (Q11 Z d0 u0 u1 x0 x1 h0 n0) ({ frames := 1, cells := 0, slots := 0, locals := 12 } : Room).cells ({ frames := 1, cells := 0, slots := 0, locals := 12 } : Room).slots) (s₁.setTop (entryFrame m #[(.ref d0), (.long u0), (.long u1)] 5))
  rw [ef_11_000]
  show Wp p e below _ (s₁.setTop (mkF m 0 #[.val (.ref d0), .val (.long u0), .second, .val (.long u1), .second] []))
  refine Wp.step (fun t k => XS.aloadN X0.here hx rfl (hb hby d11_0) rfl rfl k) ?_
  show Wp p e below _ (s₁.setTop (mkF m 1 #[.val (.ref d0), .val (.long u0), .second, .val (.long u1), .second] [(.ref d0)]))
  obtain ⟨T1, X1, e1, st1⟩ := initO X0 hx hZ hown (hw _ (List.mem_of_getElem? (i := 65) rfl)) (hw _ (List.mem_of_getElem? (i := 18) rfl)) (hw _ (List.mem_of_getElem? (i := 19) rfl)) e0 (g := (mkF m 1 #[.val (.ref d0), .val (.long u0), .second, .val (.long u1), .second] [(.ref d0)])) rfl (by rw [hml]; rfl) rfl (hb hby d11_1) (by decide) (W := 0) (by show 2 * 0 + _ ≤ _; exact Nat.le_of_eq rfl) (by decide)
  refine Wp.step st1 ?_
  show Wp p e below _ (T1.setTop (mkF m 4 #[.val (.ref d0), .val (.long u0), .second, .val (.long u1), .second] []))
  refine Wp.step (fun t k => XS.aloadN X1.here hx rfl (hb hby d11_4) rfl rfl k) ?_
  show Wp p e below _ (T1.setTop (mkF m 5 #[.val (.ref d0), .val (.long u0), .second, .val (.long u1), .second] [(.ref d0)]))
  refine Wp.step (fun t k => XS.lloadN X1.here hx rfl (hb hby d11_5) rfl k) ?_
  show Wp p e below _ (T1.setTop (mkF m 6 #[.val (.ref d0), .val (.long u0), .second, .val (.long u1), .second] [(.long u0), (.ref d0)]))
  obtain ⟨T2, h2, X2, e2, W2, st2⟩ := putF X1 hx hZ hown (host := "") (Or.inl (hw _ (List.mem_of_getElem? (i := 66) rfl))) Via.refl e1 F_high_d0 E_d0 (Or.inr ⟨(hw _ (List.mem_of_getElem? (i := 67) rfl)), rfl, hnm⟩) (hw _ (List.mem_of_getElem? (i := 61) rfl)) (ty := .long) (by decide) rfl rfl (g := (mkF m 6 #[.val (.ref d0), .val (.long u0), .second, .val (.long u1), .second] [(.long u0), (.ref d0)])) rfl rfl (hb hby d11_6)
  have c3 := E_d0.wr W2
  have c4 := F_low_d0.other W2 (Or.inr (slot_ne (Or.inr (hw _ (List.mem_of_getElem? (i := 69) rfl))) (Or.inr (hw _ (List.mem_of_getElem? (i := 67) rfl))) (by decide) (t := .long) (t' := .long) (by decide) (by decide)))
  have c5 := F_high_d0.same W2
  have K6 := K0.wr W2 (Or.inl (List.mem_of_getElem? (i := 0) rfl))
  have N2 := Fr.snoc X2 N0 g_d0
  refine Wp.step st2 ?_
  show Wp p e below _ (T2.setTop (mkF m 9 #[.val (.ref d0), .val (.long u0), .second, .val (.long u1), .second] []))
  refine Wp.step (fun t k => XS.aloadN X2.here hx rfl (hb hby d11_9) rfl rfl k) ?_
  show Wp p e below _ (T2.setTop (mkF m 10 #[.val (.ref d0), .val (.long u0), .second, .val (.long u1), .second] [(.ref d0)]))
  refine Wp.step (fun t k => XS.lloadN X2.here hx rfl (hb hby d11_10) rfl k) ?_
  show Wp p e below _ (T2.setTop (mkF m 11 #[.val (.ref d0), .val (.long u0), .second, .val (.long u1), .second] [(.long u1), (.ref d0)]))
  obtain ⟨T7, h7, X7, e7, W7, st7⟩ := putF X2 hx hZ hown (host := "") (Or.inl (hw _ (List.mem_of_getElem? (i := 68) rfl))) Via.refl e2 c4 c3 (Or.inr ⟨(hw _ (List.mem_of_getElem? (i := 69) rfl)), rfl, hnm⟩) (hw _ (List.mem_of_getElem? (i := 61) rfl)) (ty := .long) (by decide) rfl rfl (g := (mkF m 11 #[.val (.ref d0), .val (.long u0), .second, .val (.long u1), .second] [(.long u1), (.ref d0)])) rfl rfl (hb hby d11_11)
  have c8 := c3.wr W7
  have c9 := c5.other W7 (Or.inr (slot_ne (Or.inr (hw _ (List.mem_of_getElem? (i := 67) rfl))) (Or.inr (hw _ (List.mem_of_getElem? (i := 69) rfl))) (by decide) (t := .long) (t' := .long) (by decide) (by decide)))
  have c10 := c4.same W7
  have K11 := K6.wr W7 (Or.inl (List.mem_of_getElem? (i := 0) rfl))
  have N7 := Fr.snoc X7 N2 g_d0
  refine Wp.step st7 ?_
  show Wp p e below _ (T7.setTop (mkF m 14 #[.val (.ref d0), .val (.long u0), .second, .val (.long u1), .second] []))
  refine Wp.retV X7 hx Bd.returns (hb hby d11_14) hlk ?_ (by decide) (by decide)
  show Q11 Z d0 u0 u1 x0 x1 h0 n0 none T7.heap _
  rw [e7]
  exact ⟨rfl, N7, K11, c8, c9, c10⟩
theorem pd_28JJ29J : parseMethodDescriptor "(JJ)J" = some ⟨[.long, .long], some .long⟩ := by decide +kernel
theorem pd_28JJ29V : parseMethodDescriptor "(JJ)V" = some ⟨[.long, .long], none⟩ := by decide +kernel
theorem d9_0 : decode prog_17_method_5_code 0 = .ok (.lload_n 0, 1) := by decide +kernel
theorem d9_1 : decode prog_17_method_5_code 1 = .ok (.lload_n 2, 1) := by decide +kernel
theorem d9_2 : decode prog_17_method_5_code 2 = .ok (.invokestatic 19, 3) := by decide +kernel
theorem d9_5 : decode prog_17_method_5_code 5 = .ok (.lload_n 0, 1) := by decide +kernel
theorem d9_6 : decode prog_17_method_5_code 6 = .ok (.bipush 63, 2) := by decide +kernel
theorem d9_8 : decode prog_17_method_5_code 8 = .ok (.lshr, 1) := by decide +kernel
theorem d9_9 : decode prog_17_method_5_code 9 = .ok (.lload_n 2, 1) := by decide +kernel
theorem d9_10 : decode prog_17_method_5_code 10 = .ok (.land, 1) := by decide +kernel
theorem d9_11 : decode prog_17_method_5_code 11 = .ok (.ladd, 1) := by decide +kernel
theorem d9_12 : decode prog_17_method_5_code 12 = .ok (.lload_n 2, 1) := by decide +kernel
theorem d9_13 : decode prog_17_method_5_code 13 = .ok (.bipush 63, 2) := by decide +kernel
theorem d9_15 : decode prog_17_method_5_code 15 = .ok (.lshr, 1) := by decide +kernel
theorem d9_16 : decode prog_17_method_5_code 16 = .ok (.lload_n 0, 1) := by decide +kernel
theorem d9_17 : decode prog_17_method_5_code 17 = .ok (.land, 1) := by decide +kernel
theorem d9_18 : decode prog_17_method_5_code 18 = .ok (.ladd, 1) := by decide +kernel
theorem d9_19 : decode prog_17_method_5_code 19 = .ok (.lstore 4, 2) := by decide +kernel
theorem d9_21 : decode prog_17_method_5_code 21 = .ok (.new 8, 3) := by decide +kernel
theorem d9_24 : decode prog_17_method_5_code 24 = .ok (.dup, 1) := by decide +kernel
theorem d9_25 : decode prog_17_method_5_code 25 = .ok (.lload 4, 2) := by decide +kernel
theorem d9_27 : decode prog_17_method_5_code 27 = .ok (.lload_n 0, 1) := by decide +kernel
theorem d9_28 : decode prog_17_method_5_code 28 = .ok (.lload_n 2, 1) := by decide +kernel
theorem d9_29 : decode prog_17_method_5_code 29 = .ok (.lmul, 1) := by decide +kernel
theorem d9_30 : decode prog_17_method_5_code 30 = .ok (.invokespecial 16, 3) := by decide +kernel
theorem d9_33 : decode prog_17_method_5_code 33 = .ok (.areturn, 1) := by decide +kernel
theorem ef_9_00 (m : MethodId) (x0 : Int64) (x1 : Int64) : entryFrame m #[(.long x0), (.long x1)] 6 = mkF m 0 #[.val (.long x0), .second, .val (.long x1), .second, .unset, .unset] [] := by first | (simp [entryFrame, mkF, argsToLocals, Value.category]; done) | rfl
def Q9 (Z : State) (u0 : Int64) (u1 : Int64) (h0 : Heap) (n0 : Nat) (v : Option Value) (h : Heap) (L : List Loc) : Prop := ∃ (r0 : Addr), v = some (.ref r0) ∧ Fr n0 L ∧ Keep h0 h [] ∧ h0.size ≤ r0 ∧ Exa Z h r0 "com/example/gentle_bucket/gentlebucket/Uint128" ∧ Fld Z h r0 "com/example/gentle_bucket/gentlebucket/Uint128" "high" "J" (.long (own_ph u0 u1)) ∧ Fld Z h r0 "com/example/gentle_bucket/gentlebucket/Uint128" "low" "J" (.long (u0 * u1))
set_option maxRecDepth 65536 in
set_option maxHeartbeats 40000000 in
theorem rm9 (l : Launch) (Z : State) (a0 : Array Value) (hw : ∀ d ∈ tables_1, d.before a0 Z = true) (ws : List Jvm.Cond) (u0 : Int64) (u1 : Int64) (h0 : Heap) (n0 : Nat) (Z0 : n0 ≤ h0.size) :
    MetFree l (⟨"com/example/gentle_bucket/gentlebucket/Uint128", "product", "(JJ)Lcom/example/gentle_bucket/gentlebucket/Uint128;"⟩ : MethodName) (head1 (Jvm.Cond.code (⟨"com/example/gentle_bucket/gentlebucket/Uint128", "product", "(JJ)Lcom/example/gentle_bucket/gentlebucket/Uint128;"⟩ : MethodName) prog_17_method_5_code 6 (some (.object "com/example/gentle_bucket/gentlebucket/Uint128")) :: ws) ({ frames := 2, cells := 1, slots := 2, locals := 31 } : Room)) (fun a U => a = #[(.long u0), (.long u1)] ∧ Z.Warmed39 U.vm ∧ U.heap = h0) (fun _ _ _ _ _ => True) (fun _ U o U' => ∃ v L, o = .returned v ∧ Q9 Z u0 u1 h0 n0 v U'.heap L ∧ FrameEnd U o U' L ({ frames := 2, cells := 1, slots := 2, locals := 31 } : Room).cells ({ frames := 2, cells := 1, slots := 2, locals := 31 } : Room).slots) := by
  refine MetFree.of_bodySF (plainFor_of_name pn_com_example_gentle_bucket_gentlebucket_Uint128) hisR ?_
  intro p e s m args below meth c s₁ Bd hml0 hP hK
  obtain ⟨rfl, hZ, hh⟩ := hP
  have hx := Bd.exec
  have hby := Bd.bytes
  have hlk : meth.locks = false := Bd.notSynchronized
  have hml : c.maxLocals = 6 := hml0
  have hown : s.vm.findClass "com/example/gentle_bucket/gentlebucket/Uint128" = some m.cls := findClass_of_methodNamed Bd.named
  have hnm := (name_of_methodNamed Bd.named Bd.method).1
  have X0 : Stand p l e ({ frames := 2, cells := 1, slots := 2, locals := 31 } : Room) s m #[(.long u0), (.long u1)] below meth c s₁ [] 0 0 := Stand.of_body Bd
  have e0 : s₁.heap = h0 := by rw [← hh, Bd.state]; rfl
  have N0 := Fr.nil n0
  have K0 : Keep h0 h0 [] := Keep.refl h0 _
  show Wp p e below (Out s (Q9 Z u0 u1 h0 n0) ({ frames := 2, cells := 1, slots := 2, locals := 31 } : Room).cells ({ frames := 2, cells := 1, slots := 2, locals := 31 } : Room).slots) (s₁.setTop (entryFrame m #[(.long u0), (.long u1)] 6))
  rw [ef_9_00]
  show Wp p e below _ (s₁.setTop (mkF m 0 #[.val (.long u0), .second, .val (.long u1), .second, .unset, .unset] []))
  refine Wp.step (fun t k => XS.lloadN X0.here hx rfl (hb hby d9_0) rfl k) ?_
  show Wp p e below _ (s₁.setTop (mkF m 1 #[.val (.long u0), .second, .val (.long u1), .second, .unset, .unset] [(.long u0)]))
  refine Wp.step (fun t k => XS.lloadN X0.here hx rfl (hb hby d9_1) rfl k) ?_
  show Wp p e below _ (s₁.setTop (mkF m 2 #[.val (.long u0), .second, .val (.long u1), .second, .unset, .unset] [(.long u1), (.long u0)]))
  obtain ⟨_, _, ⟨T1, L1, k1, n1⟩, -, X1, ⟨Lc1, hQ1, l1, y1, z1⟩, st1⟩ := Jvm.LawKit.callS X0 hx (y := (⟨"java/lang/Math", "multiplyHigh", "(JJ)J"⟩ : MethodName)) hown (mvT hZ (hw _ (List.mem_of_getElem? (i := 56) rfl))) (mvT hZ (hw _ (List.mem_of_getElem? (i := 57) rfl))) (mvT hZ (hw _ (List.mem_of_getElem? (i := 3) rfl))) (mvT hZ (hw _ (List.mem_of_getElem? (i := 58) rfl))) (by decide) (backOf (W := 0) (rm10 l Z a0 hw [] u0 u1  h0 n0 (Nat.le_trans Z0 K0.1)  ) hZ (hw _ (List.mem_of_getElem? (i := 58) rfl)) (hw _ (List.mem_of_getElem? (i := 3) rfl)) (by decide) (by decide)) (g := (mkF m 2 #[.val (.long u0), .second, .val (.long u1), .second, .unset, .unset] [(.long u1), (.long u0)])) rfl (by rw [hml]; rfl) (argsL := [(.long u0), (.long u1)]) (rest := []) (lenOf pd_28JJ29J rfl) rfl (by show 2 * 0 + _ ≤ _; exact Nat.le_of_eq rfl) (hb hby d9_2) (fun _ _ => ⟨rfl, e0, (by decide : 0 + 0 ≤ _), (by decide : 0 + 0 ≤ _)⟩)
  dsimp only [Pt.U, Pt.locs, Pt.cells, Pt.slots] at X1 l1 y1 z1 st1 hQ1
  subst l1 y1 z1
  obtain ⟨rfl, N1q, e1⟩ := hQ1
  have N1 := Fr.app N0 N1q
  refine Wp.step st1 ?_
  show Wp p e below _ (T1.setTop (mkF m 5 #[.val (.long u0), .second, .val (.long u1), .second, .unset, .unset] [(.long (own_mh u0 u1))]))
  refine Wp.step (fun t k => XS.lloadN X1.here hx rfl (hb hby d9_5) rfl k) ?_
  show Wp p e below _ (T1.setTop (mkF m 6 #[.val (.long u0), .second, .val (.long u1), .second, .unset, .unset] [(.long u0), (.long (own_mh u0 u1))]))
  refine Wp.step (fun t k => XS.bipush X1.here hx rfl (hb hby d9_6) k) ?_
  show Wp p e below _ (T1.setTop (mkF m 8 #[.val (.long u0), .second, .val (.long u1), .second, .unset, .unset] [(.int (63 : Int32)), (.long u0), (.long (own_mh u0 u1))]))
  refine Wp.step (fun t k => XS.lshr X1.here hx rfl (hb hby d9_8) rfl k) ?_
  show Wp p e below _ (T1.setTop (mkF m 9 #[.val (.long u0), .second, .val (.long u1), .second, .unset, .unset] [(.long (u0 >>> ((63 : Int32) &&& 0x3f).toInt64)), (.long (own_mh u0 u1))]))
  refine Wp.step (fun t k => XS.lloadN X1.here hx rfl (hb hby d9_9) rfl k) ?_
  show Wp p e below _ (T1.setTop (mkF m 10 #[.val (.long u0), .second, .val (.long u1), .second, .unset, .unset] [(.long u1), (.long (u0 >>> ((63 : Int32) &&& 0x3f).toInt64)), (.long (own_mh u0 u1))]))
  refine Wp.step (fun t k => XS.land X1.here hx rfl (hb hby d9_10) rfl k) ?_
  show Wp p e below _ (T1.setTop (mkF m 11 #[.val (.long u0), .second, .val (.long u1), .second, .unset, .unset] [(.long ((u0 >>> ((63 : Int32) &&& 0x3f).toInt64) &&& u1)), (.long (own_mh u0 u1))]))
  refine Wp.step (fun t k => XS.ladd X1.here hx rfl (hb hby d9_11) rfl k) ?_
  show Wp p e below _ (T1.setTop (mkF m 12 #[.val (.long u0), .second, .val (.long u1), .second, .unset, .unset] [(.long ((own_mh u0 u1) + ((u0 >>> ((63 : Int32) &&& 0x3f).toInt64) &&& u1)))]))
  refine Wp.step (fun t k => XS.lloadN X1.here hx rfl (hb hby d9_12) rfl k) ?_
  show Wp p e below _ (T1.setTop (mkF m 13 #[.val (.long u0), .second, .val (.long u1), .second, .unset, .unset] [(.long u1), (.long ((own_mh u0 u1) + ((u0 >>> ((63 : Int32) &&& 0x3f).toInt64) &&& u1)))]))
  refine Wp.step (fun t k => XS.bipush X1.here hx rfl (hb hby d9_13) k) ?_
  show Wp p e below _ (T1.setTop (mkF m 15 #[.val (.long u0), .second, .val (.long u1), .second, .unset, .unset] [(.int (63 : Int32)), (.long u1), (.long ((own_mh u0 u1) + ((u0 >>> ((63 : Int32) &&& 0x3f).toInt64) &&& u1)))]))
  refine Wp.step (fun t k => XS.lshr X1.here hx rfl (hb hby d9_15) rfl k) ?_
  show Wp p e below _ (T1.setTop (mkF m 16 #[.val (.long u0), .second, .val (.long u1), .second, .unset, .unset] [(.long (u1 >>> ((63 : Int32) &&& 0x3f).toInt64)), (.long ((own_mh u0 u1) + ((u0 >>> ((63 : Int32) &&& 0x3f).toInt64) &&& u1)))]))
  refine Wp.step (fun t k => XS.lloadN X1.here hx rfl (hb hby d9_16) rfl k) ?_
  show Wp p e below _ (T1.setTop (mkF m 17 #[.val (.long u0), .second, .val (.long u1), .second, .unset, .unset] [(.long u0), (.long (u1 >>> ((63 : Int32) &&& 0x3f).toInt64)), (.long ((own_mh u0 u1) + ((u0 >>> ((63 : Int32) &&& 0x3f).toInt64) &&& u1)))]))
  refine Wp.step (fun t k => XS.land X1.here hx rfl (hb hby d9_17) rfl k) ?_
  show Wp p e below _ (T1.setTop (mkF m 18 #[.val (.long u0), .second, .val (.long u1), .second, .unset, .unset] [(.long ((u1 >>> ((63 : Int32) &&& 0x3f).toInt64) &&& u0)), (.long ((own_mh u0 u1) + ((u0 >>> ((63 : Int32) &&& 0x3f).toInt64) &&& u1)))]))
  refine Wp.step (fun t k => XS.ladd X1.here hx rfl (hb hby d9_18) rfl k) ?_
  show Wp p e below _ (T1.setTop (mkF m 19 #[.val (.long u0), .second, .val (.long u1), .second, .unset, .unset] [(.long (((own_mh u0 u1) + ((u0 >>> ((63 : Int32) &&& 0x3f).toInt64) &&& u1)) + ((u1 >>> ((63 : Int32) &&& 0x3f).toInt64) &&& u0)))]))
  refine Wp.step (fun t k => XS.lstore X1.here hx rfl (hb hby d9_19) rfl (l' := #[.val (.long u0), .second, .val (.long u1), .second, .val (.long (((own_mh u0 u1) + ((u0 >>> ((63 : Int32) &&& 0x3f).toInt64) &&& u1)) + ((u1 >>> ((63 : Int32) &&& 0x3f).toInt64) &&& u0))), .second]) rfl k) ?_
  show Wp p e below _ (T1.setTop (mkF m 21 #[.val (.long u0), .second, .val (.long u1), .second, .val (.long (((own_mh u0 u1) + ((u0 >>> ((63 : Int32) &&& 0x3f).toInt64) &&& u1)) + ((u1 >>> ((63 : Int32) &&& 0x3f).toInt64) &&& u0))), .second] []))
  obtain ⟨T2, h2, X2, e2, E2, A2, D2, -, st2⟩ := newO X1 hx hZ hown (hw _ (List.mem_of_getElem? (i := 60) rfl)) (hw _ (List.mem_of_getElem? (i := 61) rfl)) (hw _ (List.mem_of_getElem? (i := 54) rfl)) e1 (g := (mkF m 21 #[.val (.long u0), .second, .val (.long u1), .second, .val (.long (((own_mh u0 u1) + ((u0 >>> ((63 : Int32) &&& 0x3f).toInt64) &&& u1)) + ((u1 >>> ((63 : Int32) &&& 0x3f).toInt64) &&& u0))), .second] [])) rfl (hb hby d9_21) (by decide) (by decide)
  obtain ⟨b2, g2⟩ : ∃ z, z = h0.size := ⟨_, rfl⟩
  rw [← g2] at A2 D2 st2
  have g_b2 : n0 ≤ b2 := Nat.le_trans (Nat.le_trans Z0 K0.1) (Nat.le_of_eq g2.symm)
  have sz_b2 : h0.size ≤ b2 := Nat.le_trans K0.1 (Nat.le_of_eq g2.symm)
  have K3 := K0.ext E2
  have c4 : Fld Z h2 b2 "com/example/gentle_bucket/gentlebucket/Uint128" "high" "J" (.long (0 : Int64)) := D2 (Or.inr (hw _ (List.mem_of_getElem? (i := 67) rfl))) (ty := .long) (by decide)
  have c5 : Fld Z h2 b2 "com/example/gentle_bucket/gentlebucket/Uint128" "low" "J" (.long (0 : Int64)) := D2 (Or.inr (hw _ (List.mem_of_getElem? (i := 69) rfl))) (ty := .long) (by decide)
  refine Wp.step st2 ?_
  show Wp p e below _ (T2.setTop (mkF m 24 #[.val (.long u0), .second, .val (.long u1), .second, .val (.long (((own_mh u0 u1) + ((u0 >>> ((63 : Int32) &&& 0x3f).toInt64) &&& u1)) + ((u1 >>> ((63 : Int32) &&& 0x3f).toInt64) &&& u0))), .second] [(.ref b2)]))
  refine Wp.step (fun t k => XS.dup X2.here hx rfl (hb hby d9_24) rfl rfl k) ?_
  show Wp p e below _ (T2.setTop (mkF m 25 #[.val (.long u0), .second, .val (.long u1), .second, .val (.long (((own_mh u0 u1) + ((u0 >>> ((63 : Int32) &&& 0x3f).toInt64) &&& u1)) + ((u1 >>> ((63 : Int32) &&& 0x3f).toInt64) &&& u0))), .second] [(.ref b2), (.ref b2)]))
  refine Wp.step (fun t k => XS.lload X2.here hx rfl (hb hby d9_25) rfl k) ?_
  show Wp p e below _ (T2.setTop (mkF m 27 #[.val (.long u0), .second, .val (.long u1), .second, .val (.long (((own_mh u0 u1) + ((u0 >>> ((63 : Int32) &&& 0x3f).toInt64) &&& u1)) + ((u1 >>> ((63 : Int32) &&& 0x3f).toInt64) &&& u0))), .second] [(.long (((own_mh u0 u1) + ((u0 >>> ((63 : Int32) &&& 0x3f).toInt64) &&& u1)) + ((u1 >>> ((63 : Int32) &&& 0x3f).toInt64) &&& u0))), (.ref b2), (.ref b2)]))
  refine Wp.step (fun t k => XS.lloadN X2.here hx rfl (hb hby d9_27) rfl k) ?_
  show Wp p e below _ (T2.setTop (mkF m 28 #[.val (.long u0), .second, .val (.long u1), .second, .val (.long (((own_mh u0 u1) + ((u0 >>> ((63 : Int32) &&& 0x3f).toInt64) &&& u1)) + ((u1 >>> ((63 : Int32) &&& 0x3f).toInt64) &&& u0))), .second] [(.long u0), (.long (((own_mh u0 u1) + ((u0 >>> ((63 : Int32) &&& 0x3f).toInt64) &&& u1)) + ((u1 >>> ((63 : Int32) &&& 0x3f).toInt64) &&& u0))), (.ref b2), (.ref b2)]))
  refine Wp.step (fun t k => XS.lloadN X2.here hx rfl (hb hby d9_28) rfl k) ?_
  show Wp p e below _ (T2.setTop (mkF m 29 #[.val (.long u0), .second, .val (.long u1), .second, .val (.long (((own_mh u0 u1) + ((u0 >>> ((63 : Int32) &&& 0x3f).toInt64) &&& u1)) + ((u1 >>> ((63 : Int32) &&& 0x3f).toInt64) &&& u0))), .second] [(.long u1), (.long u0), (.long (((own_mh u0 u1) + ((u0 >>> ((63 : Int32) &&& 0x3f).toInt64) &&& u1)) + ((u1 >>> ((63 : Int32) &&& 0x3f).toInt64) &&& u0))), (.ref b2), (.ref b2)]))
  refine Wp.step (fun t k => XS.lmul X2.here hx rfl (hb hby d9_29) rfl k) ?_
  show Wp p e below _ (T2.setTop (mkF m 30 #[.val (.long u0), .second, .val (.long u1), .second, .val (.long (((own_mh u0 u1) + ((u0 >>> ((63 : Int32) &&& 0x3f).toInt64) &&& u1)) + ((u1 >>> ((63 : Int32) &&& 0x3f).toInt64) &&& u0))), .second] [(.long (u0 * u1)), (.long (((own_mh u0 u1) + ((u0 >>> ((63 : Int32) &&& 0x3f).toInt64) &&& u1)) + ((u1 >>> ((63 : Int32) &&& 0x3f).toInt64) &&& u0))), (.ref b2), (.ref b2)]))
  obtain ⟨_, _, ⟨T6, L6, k6, n6⟩, -, X6, ⟨Lc6, hQ6, l6, y6, z6⟩, st6⟩ := X2.specialBack hx (y := (⟨"com/example/gentle_bucket/gentlebucket/Uint128", "<init>", "(JJ)V"⟩ : MethodName)) rfl hown (mvT hZ (hw _ (List.mem_of_getElem? (i := 62) rfl))) (mvT hZ (hw _ (List.mem_of_getElem? (i := 63) rfl))) (mvT hZ (hw _ (List.mem_of_getElem? (i := 64) rfl))) (by decide) (backOf (W := 1) (rm11 l Z a0 hw [] b2 (((own_mh u0 u1) + ((u0 >>> ((63 : Int32) &&& 0x3f).toInt64) &&& u1)) + ((u1 >>> ((63 : Int32) &&& 0x3f).toInt64) &&& u0)) (u0 * u1) (0 : Int64) (0 : Int64) h2 n0 (Nat.le_trans Z0 K3.1) g_b2 A2 c4 c5 ) hZ (hw _ (List.mem_of_getElem? (i := 64) rfl)) (hw _ (List.mem_of_getElem? (i := 54) rfl)) (by decide) (by decide)) (g := (mkF m 30 #[.val (.long u0), .second, .val (.long u1), .second, .val (.long (((own_mh u0 u1) + ((u0 >>> ((63 : Int32) &&& 0x3f).toInt64) &&& u1)) + ((u1 >>> ((63 : Int32) &&& 0x3f).toInt64) &&& u0))), .second] [(.long (u0 * u1)), (.long (((own_mh u0 u1) + ((u0 >>> ((63 : Int32) &&& 0x3f).toInt64) &&& u1)) + ((u1 >>> ((63 : Int32) &&& 0x3f).toInt64) &&& u0))), (.ref b2), (.ref b2)])) rfl (by rw [hml]; rfl) (Steps.refl _) (a := b2) (argsL := [(.long (((own_mh u0 u1) + ((u0 >>> ((63 : Int32) &&& 0x3f).toInt64) &&& u1)) + ((u1 >>> ((63 : Int32) &&& 0x3f).toInt64) &&& u0))), (.long (u0 * u1))]) (rest := [(.ref b2)]) (lenOf pd_28JJ29V rfl) rfl (by show 2 * 0 + _ ≤ _; exact Nat.le_of_eq rfl) (hb hby d9_30) (fun _ _ => ⟨rfl, e2, (by decide : 1 + 0 ≤ _), (by decide : 2 + 0 ≤ _)⟩)
  dsimp only [Pt.U, Pt.locs, Pt.cells, Pt.slots] at X6 l6 y6 z6 st6 hQ6
  subst l6 y6 z6
  obtain ⟨h6, e6⟩ : ∃ z, T6.heap = z := ⟨_, rfl⟩
  rw [e6] at hQ6
  obtain ⟨rfl, N6q, Kc6, o6_0, o6_1, o6_2⟩ := hQ6
  have N6 := Fr.app N1 N6q
  have c7 := A2.keep Kc6
  have K6 := K3.trans Kc6 (allS (Or.inr sz_b2) all0)
  refine Wp.go st6 ?_
  show Wp p e below _ (T6.setTop (mkF m 33 #[.val (.long u0), .second, .val (.long u1), .second, .val (.long (((own_mh u0 u1) + ((u0 >>> ((63 : Int32) &&& 0x3f).toInt64) &&& u1)) + ((u1 >>> ((63 : Int32) &&& 0x3f).toInt64) &&& u0))), .second] [(.ref b2)]))
  refine Wp.retA X6 hx Bd.returns rfl (hb hby d9_33) hlk ?_ (by decide) (by decide)
  show Q9 Z u0 u1 h0 n0 (some (.ref b2)) T6.heap _
  rw [e6]
  exact ⟨b2, rfl, N6, K6, sz_b2, o6_0, o6_1, o6_2⟩
theorem d30_0 : decode prog_17_method_2_code 0 = .ok (.new 8, 3) := by decide +kernel
theorem d30_3 : decode prog_17_method_2_code 3 = .ok (.dup, 1) := by decide +kernel
theorem d30_4 : decode prog_17_method_2_code 4 = .ok (.lload_n 0, 1) := by decide +kernel
theorem d30_5 : decode prog_17_method_2_code 5 = .ok (.lload_n 2, 1) := by decide +kernel
theorem d30_6 : decode prog_17_method_2_code 6 = .ok (.invokespecial 16, 3) := by decide +kernel
theorem d30_9 : decode prog_17_method_2_code 9 = .ok (.areturn, 1) := by decide +kernel
theorem ef_30_00 (m : MethodId) (x0 : Int64) (x1 : Int64) : entryFrame m #[(.long x0), (.long x1)] 4 = mkF m 0 #[.val (.long x0), .second, .val (.long x1), .second] [] := by first | (simp [entryFrame, mkF, argsToLocals, Value.category]; done) | rfl
def Q30 (Z : State) (u0 : Int64) (u1 : Int64) (h0 : Heap) (n0 : Nat) (v : Option Value) (h : Heap) (L : List Loc) : Prop := ∃ (r0 : Addr), v = some (.ref r0) ∧ Fr n0 L ∧ Keep h0 h [] ∧ h0.size ≤ r0 ∧ Exa Z h r0 "com/example/gentle_bucket/gentlebucket/Uint128" ∧ Fld Z h r0 "com/example/gentle_bucket/gentlebucket/Uint128" "high" "J" (.long u0) ∧ Fld Z h r0 "com/example/gentle_bucket/gentlebucket/Uint128" "low" "J" (.long u1)
set_option maxRecDepth 65536 in
set_option maxHeartbeats 40000000 in
theorem rm30 (l : Launch) (Z : State) (a0 : Array Value) (hw : ∀ d ∈ tables_1, d.before a0 Z = true) (ws : List Jvm.Cond) (u0 : Int64) (u1 : Int64) (h0 : Heap) (n0 : Nat) (Z0 : n0 ≤ h0.size) :
    MetFree l (⟨"com/example/gentle_bucket/gentlebucket/Uint128", "of", "(JJ)Lcom/example/gentle_bucket/gentlebucket/Uint128;"⟩ : MethodName) (head1 (Jvm.Cond.code (⟨"com/example/gentle_bucket/gentlebucket/Uint128", "of", "(JJ)Lcom/example/gentle_bucket/gentlebucket/Uint128;"⟩ : MethodName) prog_17_method_2_code 4 (some (.object "com/example/gentle_bucket/gentlebucket/Uint128")) :: ws) ({ frames := 2, cells := 1, slots := 2, locals := 29 } : Room)) (fun a U => a = #[(.long u0), (.long u1)] ∧ Z.Warmed39 U.vm ∧ U.heap = h0) (fun _ _ _ _ _ => True) (fun _ U o U' => ∃ v L, o = .returned v ∧ Q30 Z u0 u1 h0 n0 v U'.heap L ∧ FrameEnd U o U' L ({ frames := 2, cells := 1, slots := 2, locals := 29 } : Room).cells ({ frames := 2, cells := 1, slots := 2, locals := 29 } : Room).slots) := by
  refine MetFree.of_bodySF (plainFor_of_name pn_com_example_gentle_bucket_gentlebucket_Uint128) hisR ?_
  intro p e s m args below meth c s₁ Bd hml0 hP hK
  obtain ⟨rfl, hZ, hh⟩ := hP
  have hx := Bd.exec
  have hby := Bd.bytes
  have hlk : meth.locks = false := Bd.notSynchronized
  have hml : c.maxLocals = 4 := hml0
  have hown : s.vm.findClass "com/example/gentle_bucket/gentlebucket/Uint128" = some m.cls := findClass_of_methodNamed Bd.named
  have hnm := (name_of_methodNamed Bd.named Bd.method).1
  have X0 : Stand p l e ({ frames := 2, cells := 1, slots := 2, locals := 29 } : Room) s m #[(.long u0), (.long u1)] below meth c s₁ [] 0 0 := Stand.of_body Bd
  have e0 : s₁.heap = h0 := by rw [← hh, Bd.state]; rfl
  have N0 := Fr.nil n0
  have K0 : Keep h0 h0 [] := Keep.refl h0 _
  show Wp p e below (Out s (Q30 Z u0 u1 h0 n0) ({ frames := 2, cells := 1, slots := 2, locals := 29 } : Room).cells ({ frames := 2, cells := 1, slots := 2, locals := 29 } : Room).slots) (s₁.setTop (entryFrame m #[(.long u0), (.long u1)] 4))
  rw [ef_30_00]
  show Wp p e below _ (s₁.setTop (mkF m 0 #[.val (.long u0), .second, .val (.long u1), .second] []))
  obtain ⟨T1, h1, X1, e1, E1, A1, D1, -, st1⟩ := newO X0 hx hZ hown (hw _ (List.mem_of_getElem? (i := 60) rfl)) (hw _ (List.mem_of_getElem? (i := 61) rfl)) (hw _ (List.mem_of_getElem? (i := 54) rfl)) e0 (g := (mkF m 0 #[.val (.long u0), .second, .val (.long u1), .second] [])) rfl (hb hby d30_0) (by decide) (by decide)
  obtain ⟨b1, g1⟩ : ∃ z, z = h0.size := ⟨_, rfl⟩
  rw [← g1] at A1 D1 st1
  have g_b1 : n0 ≤ b1 := Nat.le_trans (Nat.le_trans Z0 K0.1) (Nat.le_of_eq g1.symm)
  have sz_b1 : h0.size ≤ b1 := Nat.le_trans K0.1 (Nat.le_of_eq g1.symm)
  have K2 := K0.ext E1
  have c3 : Fld Z h1 b1 "com/example/gentle_bucket/gentlebucket/Uint128" "high" "J" (.long (0 : Int64)) := D1 (Or.inr (hw _ (List.mem_of_getElem? (i := 67) rfl))) (ty := .long) (by decide)
  have c4 : Fld Z h1 b1 "com/example/gentle_bucket/gentlebucket/Uint128" "low" "J" (.long (0 : Int64)) := D1 (Or.inr (hw _ (List.mem_of_getElem? (i := 69) rfl))) (ty := .long) (by decide)
  refine Wp.step st1 ?_
  show Wp p e below _ (T1.setTop (mkF m 3 #[.val (.long u0), .second, .val (.long u1), .second] [(.ref b1)]))
  refine Wp.step (fun t k => XS.dup X1.here hx rfl (hb hby d30_3) rfl rfl k) ?_
  show Wp p e below _ (T1.setTop (mkF m 4 #[.val (.long u0), .second, .val (.long u1), .second] [(.ref b1), (.ref b1)]))
  refine Wp.step (fun t k => XS.lloadN X1.here hx rfl (hb hby d30_4) rfl k) ?_
  show Wp p e below _ (T1.setTop (mkF m 5 #[.val (.long u0), .second, .val (.long u1), .second] [(.long u0), (.ref b1), (.ref b1)]))
  refine Wp.step (fun t k => XS.lloadN X1.here hx rfl (hb hby d30_5) rfl k) ?_
  show Wp p e below _ (T1.setTop (mkF m 6 #[.val (.long u0), .second, .val (.long u1), .second] [(.long u1), (.long u0), (.ref b1), (.ref b1)]))
  obtain ⟨_, _, ⟨T5, L5, k5, n5⟩, -, X5, ⟨Lc5, hQ5, l5, y5, z5⟩, st5⟩ := X1.specialBack hx (y := (⟨"com/example/gentle_bucket/gentlebucket/Uint128", "<init>", "(JJ)V"⟩ : MethodName)) rfl hown (mvT hZ (hw _ (List.mem_of_getElem? (i := 62) rfl))) (mvT hZ (hw _ (List.mem_of_getElem? (i := 63) rfl))) (mvT hZ (hw _ (List.mem_of_getElem? (i := 64) rfl))) (by decide) (backOf (W := 1) (rm11 l Z a0 hw [] b1 u0 u1 (0 : Int64) (0 : Int64) h1 n0 (Nat.le_trans Z0 K2.1) g_b1 A1 c3 c4 ) hZ (hw _ (List.mem_of_getElem? (i := 64) rfl)) (hw _ (List.mem_of_getElem? (i := 54) rfl)) (by decide) (by decide)) (g := (mkF m 6 #[.val (.long u0), .second, .val (.long u1), .second] [(.long u1), (.long u0), (.ref b1), (.ref b1)])) rfl (by rw [hml]; rfl) (Steps.refl _) (a := b1) (argsL := [(.long u0), (.long u1)]) (rest := [(.ref b1)]) (lenOf pd_28JJ29V rfl) rfl (by show 2 * 0 + _ ≤ _; exact Nat.le_of_eq rfl) (hb hby d30_6) (fun _ _ => ⟨rfl, e1, (by decide : 1 + 0 ≤ _), (by decide : 2 + 0 ≤ _)⟩)
  dsimp only [Pt.U, Pt.locs, Pt.cells, Pt.slots] at X5 l5 y5 z5 st5 hQ5
  subst l5 y5 z5
  obtain ⟨h5, e5⟩ : ∃ z, T5.heap = z := ⟨_, rfl⟩
  rw [e5] at hQ5
  obtain ⟨rfl, N5q, Kc5, o5_0, o5_1, o5_2⟩ := hQ5
  have N5 := Fr.app N0 N5q
  have c6 := A1.keep Kc5
  have K5 := K2.trans Kc5 (allS (Or.inr sz_b1) all0)
  refine Wp.go st5 ?_
  show Wp p e below _ (T5.setTop (mkF m 9 #[.val (.long u0), .second, .val (.long u1), .second] [(.ref b1)]))
  refine Wp.retA X5 hx Bd.returns rfl (hb hby d30_9) hlk ?_ (by decide) (by decide)
  show Q30 Z u0 u1 h0 n0 (some (.ref b1)) T5.heap _
  rw [e5]
  exact ⟨b1, rfl, N5, K5, sz_b1, o5_0, o5_1, o5_2⟩
theorem d35_0 : decode prog_17_method_3_code 0 = .ok (.aload_n 0, 1) := by decide +kernel
theorem d35_1 : decode prog_17_method_3_code 1 = .ok (.getfield 7, 3) := by decide +kernel
theorem d35_4 : decode prog_17_method_3_code 4 = .ok (.lreturn, 1) := by decide +kernel
theorem ef_35_0 (m : MethodId) (x0 : Addr) : entryFrame m #[(.ref x0)] 1 = mkF m 0 #[.val (.ref x0)] [] := by first | (simp [entryFrame, mkF, argsToLocals, Value.category]; done) | rfl
def Q35 (Z : State) (d0 : Addr) (f0 : Int64) (h0 : Heap) (n0 : Nat) (v : Option Value) (h : Heap) (L : List Loc) : Prop := v = some (.long f0) ∧ Fr n0 L ∧ h = h0
set_option maxRecDepth 65536 in
set_option maxHeartbeats 40000000 in
theorem rm35 (l : Launch) (Z : State) (a0 : Array Value) (hw : ∀ d ∈ tables_1, d.before a0 Z = true) (ws : List Jvm.Cond) (d0 : Addr) (f0 : Int64) (h0 : Heap) (n0 : Nat) (Z0 : n0 ≤ h0.size) (F_high_d0 : Fld Z h0 d0 "com/example/gentle_bucket/gentlebucket/Uint128" "high" "J" (.long f0)) :
    MetFree l (⟨"com/example/gentle_bucket/gentlebucket/Uint128", "high", "()J"⟩ : MethodName) (head1 (Jvm.Cond.code (⟨"com/example/gentle_bucket/gentlebucket/Uint128", "high", "()J"⟩ : MethodName) prog_17_method_3_code 1 (some .long) :: ws) ({ frames := 0, cells := 0, slots := 0, locals := 0 } : Room)) (fun a U => a = #[(.ref d0)] ∧ Z.Warmed39 U.vm ∧ U.heap = h0) (fun _ _ _ _ _ => True) (fun _ U o U' => ∃ v L, o = .returned v ∧ Q35 Z d0 f0 h0 n0 v U'.heap L ∧ FrameEnd U o U' L ({ frames := 0, cells := 0, slots := 0, locals := 0 } : Room).cells ({ frames := 0, cells := 0, slots := 0, locals := 0 } : Room).slots) := by
  refine MetFree.of_bodySF (plainFor_of_name pn_com_example_gentle_bucket_gentlebucket_Uint128) hisR ?_
  intro p e s m args below meth c s₁ Bd hml0 hP hK
  obtain ⟨rfl, hZ, hh⟩ := hP
  have hx := Bd.exec
  have hby := Bd.bytes
  have hlk : meth.locks = false := Bd.notSynchronized
  have hml : c.maxLocals = 1 := hml0
  have hown : s.vm.findClass "com/example/gentle_bucket/gentlebucket/Uint128" = some m.cls := findClass_of_methodNamed Bd.named
  have hnm := (name_of_methodNamed Bd.named Bd.method).1
  have X0 : Stand p l e ({ frames := 0, cells := 0, slots := 0, locals := 0 } : Room) s m #[(.ref d0)] below meth c s₁ [] 0 0 := Stand.of_body Bd
  have e0 : s₁.heap = h0 := by rw [← hh, Bd.state]; rfl
  have N0 := Fr.nil n0
  have K0 : Keep h0 h0 [] := Keep.refl h0 _
  show Wp p e below (Out s (Q35 Z d0 f0 h0 n0) ({ frames := 0, cells := 0, slots := 0, locals := 0 } : Room).cells ({ frames := 0, cells := 0, slots := 0, locals := 0 } : Room).slots) (s₁.setTop (entryFrame m #[(.ref d0)] 1))
  rw [ef_35_0]
  show Wp p e below _ (s₁.setTop (mkF m 0 #[.val (.ref d0)] []))
  refine Wp.step (fun t k => XS.aloadN X0.here hx rfl (hb hby d35_0) rfl rfl k) ?_
  show Wp p e below _ (s₁.setTop (mkF m 1 #[.val (.ref d0)] [(.ref d0)]))
  obtain ⟨T1, X1, e1, st1⟩ := getF X0 hx hZ hown (host := "") (Or.inl (hw _ (List.mem_of_getElem? (i := 66) rfl))) Via.refl e0 F_high_d0 (g := (mkF m 1 #[.val (.ref d0)] [(.ref d0)])) rfl rfl (hb hby d35_1)
  refine Wp.step st1 ?_
  show Wp p e below _ (T1.setTop (mkF m 4 #[.val (.ref d0)] [(.long f0)]))
  refine Wp.retJ X1 hx Bd.returns (hb hby d35_4) hlk ?_ (by decide) (by decide)
  show Q35 Z d0 f0 h0 n0 (some (.long f0)) T1.heap _
  rw [e1]
  exact ⟨rfl, N0, rfl⟩
theorem d36_0 : decode prog_17_method_4_code 0 = .ok (.aload_n 0, 1) := by decide +kernel
theorem d36_1 : decode prog_17_method_4_code 1 = .ok (.getfield 13, 3) := by decide +kernel
theorem d36_4 : decode prog_17_method_4_code 4 = .ok (.lreturn, 1) := by decide +kernel
theorem ef_36_0 (m : MethodId) (x0 : Addr) : entryFrame m #[(.ref x0)] 1 = mkF m 0 #[.val (.ref x0)] [] := by first | (simp [entryFrame, mkF, argsToLocals, Value.category]; done) | rfl
def Q36 (Z : State) (d0 : Addr) (f0 : Int64) (h0 : Heap) (n0 : Nat) (v : Option Value) (h : Heap) (L : List Loc) : Prop := v = some (.long f0) ∧ Fr n0 L ∧ h = h0
set_option maxRecDepth 65536 in
set_option maxHeartbeats 40000000 in
theorem rm36 (l : Launch) (Z : State) (a0 : Array Value) (hw : ∀ d ∈ tables_1, d.before a0 Z = true) (ws : List Jvm.Cond) (d0 : Addr) (f0 : Int64) (h0 : Heap) (n0 : Nat) (Z0 : n0 ≤ h0.size) (F_low_d0 : Fld Z h0 d0 "com/example/gentle_bucket/gentlebucket/Uint128" "low" "J" (.long f0)) :
    MetFree l (⟨"com/example/gentle_bucket/gentlebucket/Uint128", "low", "()J"⟩ : MethodName) (head1 (Jvm.Cond.code (⟨"com/example/gentle_bucket/gentlebucket/Uint128", "low", "()J"⟩ : MethodName) prog_17_method_4_code 1 (some .long) :: ws) ({ frames := 0, cells := 0, slots := 0, locals := 0 } : Room)) (fun a U => a = #[(.ref d0)] ∧ Z.Warmed39 U.vm ∧ U.heap = h0) (fun _ _ _ _ _ => True) (fun _ U o U' => ∃ v L, o = .returned v ∧ Q36 Z d0 f0 h0 n0 v U'.heap L ∧ FrameEnd U o U' L ({ frames := 0, cells := 0, slots := 0, locals := 0 } : Room).cells ({ frames := 0, cells := 0, slots := 0, locals := 0 } : Room).slots) := by
  refine MetFree.of_bodySF (plainFor_of_name pn_com_example_gentle_bucket_gentlebucket_Uint128) hisR ?_
  intro p e s m args below meth c s₁ Bd hml0 hP hK
  obtain ⟨rfl, hZ, hh⟩ := hP
  have hx := Bd.exec
  have hby := Bd.bytes
  have hlk : meth.locks = false := Bd.notSynchronized
  have hml : c.maxLocals = 1 := hml0
  have hown : s.vm.findClass "com/example/gentle_bucket/gentlebucket/Uint128" = some m.cls := findClass_of_methodNamed Bd.named
  have hnm := (name_of_methodNamed Bd.named Bd.method).1
  have X0 : Stand p l e ({ frames := 0, cells := 0, slots := 0, locals := 0 } : Room) s m #[(.ref d0)] below meth c s₁ [] 0 0 := Stand.of_body Bd
  have e0 : s₁.heap = h0 := by rw [← hh, Bd.state]; rfl
  have N0 := Fr.nil n0
  have K0 : Keep h0 h0 [] := Keep.refl h0 _
  show Wp p e below (Out s (Q36 Z d0 f0 h0 n0) ({ frames := 0, cells := 0, slots := 0, locals := 0 } : Room).cells ({ frames := 0, cells := 0, slots := 0, locals := 0 } : Room).slots) (s₁.setTop (entryFrame m #[(.ref d0)] 1))
  rw [ef_36_0]
  show Wp p e below _ (s₁.setTop (mkF m 0 #[.val (.ref d0)] []))
  refine Wp.step (fun t k => XS.aloadN X0.here hx rfl (hb hby d36_0) rfl rfl k) ?_
  show Wp p e below _ (s₁.setTop (mkF m 1 #[.val (.ref d0)] [(.ref d0)]))
  obtain ⟨T1, X1, e1, st1⟩ := getF X0 hx hZ hown (host := "") (Or.inl (hw _ (List.mem_of_getElem? (i := 68) rfl))) Via.refl e0 F_low_d0 (g := (mkF m 1 #[.val (.ref d0)] [(.ref d0)])) rfl rfl (hb hby d36_1)
  refine Wp.step st1 ?_
  show Wp p e below _ (T1.setTop (mkF m 4 #[.val (.ref d0)] [(.long f0)]))
  refine Wp.retJ X1 hx Bd.returns (hb hby d36_4) hlk ?_ (by decide) (by decide)
  show Q36 Z d0 f0 h0 n0 (some (.long f0)) T1.heap _
  rw [e1]
  exact ⟨rfl, N0, rfl⟩
theorem d8_0 : decode prog_15_method_4_code 0 = .ok (.aload_n 0, 1) := by decide +kernel
theorem d8_1 : decode prog_15_method_4_code 1 = .ok (.getfield 26, 3) := by decide +kernel
theorem d8_4 : decode prog_15_method_4_code 4 = .ok (.lreturn, 1) := by decide +kernel
theorem pn_com_example_gentle_bucket_gentlebucket_Rate : plainName "com/example/gentle_bucket/gentlebucket/Rate" = true := by first | (simp [plainName, overriddenIn]; done) | decide +kernel
theorem ef_8_0 (m : MethodId) (x0 : Addr) : entryFrame m #[(.ref x0)] 1 = mkF m 0 #[.val (.ref x0)] [] := by first | (simp [entryFrame, mkF, argsToLocals, Value.category]; done) | rfl
def Q8 (Z : State) (d0 : Addr) (f0 : Int64) (h0 : Heap) (n0 : Nat) (v : Option Value) (h : Heap) (L : List Loc) : Prop := v = some (.long f0) ∧ Fr n0 L ∧ h = h0
set_option maxRecDepth 65536 in
set_option maxHeartbeats 40000000 in
theorem rm8 (l : Launch) (Z : State) (a0 : Array Value) (hw : ∀ d ∈ tables_1, d.before a0 Z = true) (ws : List Jvm.Cond) (d0 : Addr) (f0 : Int64) (h0 : Heap) (n0 : Nat) (Z0 : n0 ≤ h0.size) (F_periodNanos_d0 : Fld Z h0 d0 "com/example/gentle_bucket/gentlebucket/Rate" "periodNanos" "J" (.long f0)) :
    MetFree l (⟨"com/example/gentle_bucket/gentlebucket/Rate", "periodNanos", "()J"⟩ : MethodName) (head1 (Jvm.Cond.code (⟨"com/example/gentle_bucket/gentlebucket/Rate", "periodNanos", "()J"⟩ : MethodName) prog_15_method_4_code 1 (some .long) :: ws) ({ frames := 0, cells := 0, slots := 0, locals := 0 } : Room)) (fun a U => a = #[(.ref d0)] ∧ Z.Warmed39 U.vm ∧ U.heap = h0) (fun _ _ _ _ _ => True) (fun _ U o U' => ∃ v L, o = .returned v ∧ Q8 Z d0 f0 h0 n0 v U'.heap L ∧ FrameEnd U o U' L ({ frames := 0, cells := 0, slots := 0, locals := 0 } : Room).cells ({ frames := 0, cells := 0, slots := 0, locals := 0 } : Room).slots) := by
  refine MetFree.of_bodySF (plainFor_of_name pn_com_example_gentle_bucket_gentlebucket_Rate) hisR ?_
  intro p e s m args below meth c s₁ Bd hml0 hP hK
  obtain ⟨rfl, hZ, hh⟩ := hP
  have hx := Bd.exec
  have hby := Bd.bytes
  have hlk : meth.locks = false := Bd.notSynchronized
  have hml : c.maxLocals = 1 := hml0
  have hown : s.vm.findClass "com/example/gentle_bucket/gentlebucket/Rate" = some m.cls := findClass_of_methodNamed Bd.named
  have hnm := (name_of_methodNamed Bd.named Bd.method).1
  have X0 : Stand p l e ({ frames := 0, cells := 0, slots := 0, locals := 0 } : Room) s m #[(.ref d0)] below meth c s₁ [] 0 0 := Stand.of_body Bd
  have e0 : s₁.heap = h0 := by rw [← hh, Bd.state]; rfl
  have N0 := Fr.nil n0
  have K0 : Keep h0 h0 [] := Keep.refl h0 _
  show Wp p e below (Out s (Q8 Z d0 f0 h0 n0) ({ frames := 0, cells := 0, slots := 0, locals := 0 } : Room).cells ({ frames := 0, cells := 0, slots := 0, locals := 0 } : Room).slots) (s₁.setTop (entryFrame m #[(.ref d0)] 1))
  rw [ef_8_0]
  show Wp p e below _ (s₁.setTop (mkF m 0 #[.val (.ref d0)] []))
  refine Wp.step (fun t k => XS.aloadN X0.here hx rfl (hb hby d8_0) rfl rfl k) ?_
  show Wp p e below _ (s₁.setTop (mkF m 1 #[.val (.ref d0)] [(.ref d0)]))
  obtain ⟨T1, X1, e1, st1⟩ := getF X0 hx hZ hown (host := "") (Or.inl (hw _ (List.mem_of_getElem? (i := 25) rfl))) Via.refl e0 F_periodNanos_d0 (g := (mkF m 1 #[.val (.ref d0)] [(.ref d0)])) rfl rfl (hb hby d8_1)
  refine Wp.step st1 ?_
  show Wp p e below _ (T1.setTop (mkF m 4 #[.val (.ref d0)] [(.long f0)]))
  refine Wp.retJ X1 hx Bd.returns (hb hby d8_4) hlk ?_ (by decide) (by decide)
  show Q8 Z d0 f0 h0 n0 (some (.long f0)) T1.heap _
  rw [e1]
  exact ⟨rfl, N0, rfl⟩
theorem d28_0 : decode prog_15_method_3_code 0 = .ok (.aload_n 0, 1) := by decide +kernel
theorem d28_1 : decode prog_15_method_3_code 1 = .ok (.getfield 22, 3) := by decide +kernel
theorem d28_4 : decode prog_15_method_3_code 4 = .ok (.lreturn, 1) := by decide +kernel
theorem ef_28_0 (m : MethodId) (x0 : Addr) : entryFrame m #[(.ref x0)] 1 = mkF m 0 #[.val (.ref x0)] [] := by first | (simp [entryFrame, mkF, argsToLocals, Value.category]; done) | rfl
def Q28 (Z : State) (d0 : Addr) (f0 : Int64) (h0 : Heap) (n0 : Nat) (v : Option Value) (h : Heap) (L : List Loc) : Prop := v = some (.long f0) ∧ Fr n0 L ∧ h = h0
set_option maxRecDepth 65536 in
set_option maxHeartbeats 40000000 in
theorem rm28 (l : Launch) (Z : State) (a0 : Array Value) (hw : ∀ d ∈ tables_1, d.before a0 Z = true) (ws : List Jvm.Cond) (d0 : Addr) (f0 : Int64) (h0 : Heap) (n0 : Nat) (Z0 : n0 ≤ h0.size) (F_amount_d0 : Fld Z h0 d0 "com/example/gentle_bucket/gentlebucket/Rate" "amount" "J" (.long f0)) :
    MetFree l (⟨"com/example/gentle_bucket/gentlebucket/Rate", "amount", "()J"⟩ : MethodName) (head1 (Jvm.Cond.code (⟨"com/example/gentle_bucket/gentlebucket/Rate", "amount", "()J"⟩ : MethodName) prog_15_method_3_code 1 (some .long) :: ws) ({ frames := 0, cells := 0, slots := 0, locals := 0 } : Room)) (fun a U => a = #[(.ref d0)] ∧ Z.Warmed39 U.vm ∧ U.heap = h0) (fun _ _ _ _ _ => True) (fun _ U o U' => ∃ v L, o = .returned v ∧ Q28 Z d0 f0 h0 n0 v U'.heap L ∧ FrameEnd U o U' L ({ frames := 0, cells := 0, slots := 0, locals := 0 } : Room).cells ({ frames := 0, cells := 0, slots := 0, locals := 0 } : Room).slots) := by
  refine MetFree.of_bodySF (plainFor_of_name pn_com_example_gentle_bucket_gentlebucket_Rate) hisR ?_
  intro p e s m args below meth c s₁ Bd hml0 hP hK
  obtain ⟨rfl, hZ, hh⟩ := hP
  have hx := Bd.exec
  have hby := Bd.bytes
  have hlk : meth.locks = false := Bd.notSynchronized
  have hml : c.maxLocals = 1 := hml0
  have hown : s.vm.findClass "com/example/gentle_bucket/gentlebucket/Rate" = some m.cls := findClass_of_methodNamed Bd.named
  have hnm := (name_of_methodNamed Bd.named Bd.method).1
  have X0 : Stand p l e ({ frames := 0, cells := 0, slots := 0, locals := 0 } : Room) s m #[(.ref d0)] below meth c s₁ [] 0 0 := Stand.of_body Bd
  have e0 : s₁.heap = h0 := by rw [← hh, Bd.state]; rfl
  have N0 := Fr.nil n0
  have K0 : Keep h0 h0 [] := Keep.refl h0 _
  show Wp p e below (Out s (Q28 Z d0 f0 h0 n0) ({ frames := 0, cells := 0, slots := 0, locals := 0 } : Room).cells ({ frames := 0, cells := 0, slots := 0, locals := 0 } : Room).slots) (s₁.setTop (entryFrame m #[(.ref d0)] 1))
  rw [ef_28_0]
  show Wp p e below _ (s₁.setTop (mkF m 0 #[.val (.ref d0)] []))
  refine Wp.step (fun t k => XS.aloadN X0.here hx rfl (hb hby d28_0) rfl rfl k) ?_
  show Wp p e below _ (s₁.setTop (mkF m 1 #[.val (.ref d0)] [(.ref d0)]))
  obtain ⟨T1, X1, e1, st1⟩ := getF X0 hx hZ hown (host := "") (Or.inl (hw _ (List.mem_of_getElem? (i := 23) rfl))) Via.refl e0 F_amount_d0 (g := (mkF m 1 #[.val (.ref d0)] [(.ref d0)])) rfl rfl (hb hby d28_1)
  refine Wp.step st1 ?_
  show Wp p e below _ (T1.setTop (mkF m 4 #[.val (.ref d0)] [(.long f0)]))
  refine Wp.retJ X1 hx Bd.returns (hb hby d28_4) hlk ?_ (by decide) (by decide)
  show Q28 Z d0 f0 h0 n0 (some (.long f0)) T1.heap _
  rw [e1]
  exact ⟨rfl, N0, rfl⟩
theorem d20_0 : decode prog_3_method_5_code 0 = .ok (.aload_n 0, 1) := by decide +kernel
theorem d20_1 : decode prog_3_method_5_code 1 = .ok (.getfield 50, 3) := by decide +kernel
theorem d20_4 : decode prog_3_method_5_code 4 = .ok (.lreturn, 1) := by decide +kernel
theorem pn_com_example_gentle_bucket_gentlebucket_Contract : plainName "com/example/gentle_bucket/gentlebucket/Contract" = true := by first | (simp [plainName, overriddenIn]; done) | decide +kernel
theorem ef_20_0 (m : MethodId) (x0 : Addr) : entryFrame m #[(.ref x0)] 1 = mkF m 0 #[.val (.ref x0)] [] := by first | (simp [entryFrame, mkF, argsToLocals, Value.category]; done) | rfl
def Q20 (Z : State) (d0 : Addr) (f0 : Int64) (h0 : Heap) (n0 : Nat) (v : Option Value) (h : Heap) (L : List Loc) : Prop := v = some (.long f0) ∧ Fr n0 L ∧ h = h0
set_option maxRecDepth 65536 in
set_option maxHeartbeats 40000000 in
theorem rm20 (l : Launch) (Z : State) (a0 : Array Value) (hw : ∀ d ∈ tables_1, d.before a0 Z = true) (ws : List Jvm.Cond) (d0 : Addr) (f0 : Int64) (h0 : Heap) (n0 : Nat) (Z0 : n0 ≤ h0.size) (F_burst_d0 : Fld Z h0 d0 "com/example/gentle_bucket/gentlebucket/Contract" "burst" "J" (.long f0)) :
    MetFree l (⟨"com/example/gentle_bucket/gentlebucket/Contract", "burst", "()J"⟩ : MethodName) (head1 (Jvm.Cond.code (⟨"com/example/gentle_bucket/gentlebucket/Contract", "burst", "()J"⟩ : MethodName) prog_3_method_5_code 1 (some .long) :: ws) ({ frames := 0, cells := 0, slots := 0, locals := 0 } : Room)) (fun a U => a = #[(.ref d0)] ∧ Z.Warmed39 U.vm ∧ U.heap = h0) (fun _ _ _ _ _ => True) (fun _ U o U' => ∃ v L, o = .returned v ∧ Q20 Z d0 f0 h0 n0 v U'.heap L ∧ FrameEnd U o U' L ({ frames := 0, cells := 0, slots := 0, locals := 0 } : Room).cells ({ frames := 0, cells := 0, slots := 0, locals := 0 } : Room).slots) := by
  refine MetFree.of_bodySF (plainFor_of_name pn_com_example_gentle_bucket_gentlebucket_Contract) hisR ?_
  intro p e s m args below meth c s₁ Bd hml0 hP hK
  obtain ⟨rfl, hZ, hh⟩ := hP
  have hx := Bd.exec
  have hby := Bd.bytes
  have hlk : meth.locks = false := Bd.notSynchronized
  have hml : c.maxLocals = 1 := hml0
  have hown : s.vm.findClass "com/example/gentle_bucket/gentlebucket/Contract" = some m.cls := findClass_of_methodNamed Bd.named
  have hnm := (name_of_methodNamed Bd.named Bd.method).1
  have X0 : Stand p l e ({ frames := 0, cells := 0, slots := 0, locals := 0 } : Room) s m #[(.ref d0)] below meth c s₁ [] 0 0 := Stand.of_body Bd
  have e0 : s₁.heap = h0 := by rw [← hh, Bd.state]; rfl
  have N0 := Fr.nil n0
  have K0 : Keep h0 h0 [] := Keep.refl h0 _
  show Wp p e below (Out s (Q20 Z d0 f0 h0 n0) ({ frames := 0, cells := 0, slots := 0, locals := 0 } : Room).cells ({ frames := 0, cells := 0, slots := 0, locals := 0 } : Room).slots) (s₁.setTop (entryFrame m #[(.ref d0)] 1))
  rw [ef_20_0]
  show Wp p e below _ (s₁.setTop (mkF m 0 #[.val (.ref d0)] []))
  refine Wp.step (fun t k => XS.aloadN X0.here hx rfl (hb hby d20_0) rfl rfl k) ?_
  show Wp p e below _ (s₁.setTop (mkF m 1 #[.val (.ref d0)] [(.ref d0)]))
  obtain ⟨T1, X1, e1, st1⟩ := getF X0 hx hZ hown (host := "") (Or.inl (hw _ (List.mem_of_getElem? (i := 97) rfl))) Via.refl e0 F_burst_d0 (g := (mkF m 1 #[.val (.ref d0)] [(.ref d0)])) rfl rfl (hb hby d20_1)
  refine Wp.step st1 ?_
  show Wp p e below _ (T1.setTop (mkF m 4 #[.val (.ref d0)] [(.long f0)]))
  refine Wp.retJ X1 hx Bd.returns (hb hby d20_4) hlk ?_ (by decide) (by decide)
  show Q20 Z d0 f0 h0 n0 (some (.long f0)) T1.heap _
  rw [e1]
  exact ⟨rfl, N0, rfl⟩
theorem d27_0 : decode prog_3_method_4_code 0 = .ok (.aload_n 0, 1) := by decide +kernel
theorem d27_1 : decode prog_3_method_4_code 1 = .ok (.getfield 36, 3) := by decide +kernel
theorem d27_4 : decode prog_3_method_4_code 4 = .ok (.areturn, 1) := by decide +kernel
theorem ef_27_0 (m : MethodId) (x0 : Addr) : entryFrame m #[(.ref x0)] 1 = mkF m 0 #[.val (.ref x0)] [] := by first | (simp [entryFrame, mkF, argsToLocals, Value.category]; done) | rfl
def Q27 (Z : State) (d0 : Addr) (f0 : Addr) (h0 : Heap) (n0 : Nat) (v : Option Value) (h : Heap) (L : List Loc) : Prop := v = some (.ref f0) ∧ Fr n0 L ∧ h = h0
set_option maxRecDepth 65536 in
set_option maxHeartbeats 40000000 in
theorem rm27 (l : Launch) (Z : State) (a0 : Array Value) (hw : ∀ d ∈ tables_1, d.before a0 Z = true) (ws : List Jvm.Cond) (d0 : Addr) (f0 : Addr) (h0 : Heap) (n0 : Nat) (Z0 : n0 ≤ h0.size) (F_rate_d0 : Fld Z h0 d0 "com/example/gentle_bucket/gentlebucket/Contract" "rate" "Lcom/example/gentle_bucket/gentlebucket/Rate;" (.ref f0)) :
    MetFree l (⟨"com/example/gentle_bucket/gentlebucket/Contract", "rate", "()Lcom/example/gentle_bucket/gentlebucket/Rate;"⟩ : MethodName) (head1 (Jvm.Cond.code (⟨"com/example/gentle_bucket/gentlebucket/Contract", "rate", "()Lcom/example/gentle_bucket/gentlebucket/Rate;"⟩ : MethodName) prog_3_method_4_code 1 (some (.object "com/example/gentle_bucket/gentlebucket/Rate")) :: ws) ({ frames := 0, cells := 0, slots := 0, locals := 0 } : Room)) (fun a U => a = #[(.ref d0)] ∧ Z.Warmed39 U.vm ∧ U.heap = h0) (fun _ _ _ _ _ => True) (fun _ U o U' => ∃ v L, o = .returned v ∧ Q27 Z d0 f0 h0 n0 v U'.heap L ∧ FrameEnd U o U' L ({ frames := 0, cells := 0, slots := 0, locals := 0 } : Room).cells ({ frames := 0, cells := 0, slots := 0, locals := 0 } : Room).slots) := by
  refine MetFree.of_bodySF (plainFor_of_name pn_com_example_gentle_bucket_gentlebucket_Contract) hisR ?_
  intro p e s m args below meth c s₁ Bd hml0 hP hK
  obtain ⟨rfl, hZ, hh⟩ := hP
  have hx := Bd.exec
  have hby := Bd.bytes
  have hlk : meth.locks = false := Bd.notSynchronized
  have hml : c.maxLocals = 1 := hml0
  have hown : s.vm.findClass "com/example/gentle_bucket/gentlebucket/Contract" = some m.cls := findClass_of_methodNamed Bd.named
  have hnm := (name_of_methodNamed Bd.named Bd.method).1
  have X0 : Stand p l e ({ frames := 0, cells := 0, slots := 0, locals := 0 } : Room) s m #[(.ref d0)] below meth c s₁ [] 0 0 := Stand.of_body Bd
  have e0 : s₁.heap = h0 := by rw [← hh, Bd.state]; rfl
  have N0 := Fr.nil n0
  have K0 : Keep h0 h0 [] := Keep.refl h0 _
  show Wp p e below (Out s (Q27 Z d0 f0 h0 n0) ({ frames := 0, cells := 0, slots := 0, locals := 0 } : Room).cells ({ frames := 0, cells := 0, slots := 0, locals := 0 } : Room).slots) (s₁.setTop (entryFrame m #[(.ref d0)] 1))
  rw [ef_27_0]
  show Wp p e below _ (s₁.setTop (mkF m 0 #[.val (.ref d0)] []))
  refine Wp.step (fun t k => XS.aloadN X0.here hx rfl (hb hby d27_0) rfl rfl k) ?_
  show Wp p e below _ (s₁.setTop (mkF m 1 #[.val (.ref d0)] [(.ref d0)]))
  obtain ⟨T1, X1, e1, st1⟩ := getF X0 hx hZ hown (host := "") (Or.inl (hw _ (List.mem_of_getElem? (i := 74) rfl))) Via.refl e0 F_rate_d0 (g := (mkF m 1 #[.val (.ref d0)] [(.ref d0)])) rfl rfl (hb hby d27_1)
  refine Wp.step st1 ?_
  show Wp p e below _ (T1.setTop (mkF m 4 #[.val (.ref d0)] [(.ref f0)]))
  refine Wp.retA X1 hx Bd.returns rfl (hb hby d27_4) hlk ?_ (by decide) (by decide)
  show Q27 Z d0 f0 h0 n0 (some (.ref f0)) T1.heap _
  rw [e1]
  exact ⟨rfl, N0, rfl⟩
theorem d38_0 : decode prog_3_method_9_code 0 = .ok (.aload_n 0, 1) := by decide +kernel
theorem d38_1 : decode prog_3_method_9_code 1 = .ok (.getfield 39, 3) := by decide +kernel
theorem d38_4 : decode prog_3_method_9_code 4 = .ok (.areturn, 1) := by decide +kernel
theorem ef_38_0 (m : MethodId) (x0 : Addr) : entryFrame m #[(.ref x0)] 1 = mkF m 0 #[.val (.ref x0)] [] := by first | (simp [entryFrame, mkF, argsToLocals, Value.category]; done) | rfl
def Q38 (Z : State) (d0 : Addr) (f0 : Addr) (h0 : Heap) (n0 : Nat) (v : Option Value) (h : Heap) (L : List Loc) : Prop := v = some (.ref f0) ∧ Fr n0 L ∧ h = h0
set_option maxRecDepth 65536 in
set_option maxHeartbeats 40000000 in
theorem rm38 (l : Launch) (Z : State) (a0 : Array Value) (hw : ∀ d ∈ tables_1, d.before a0 Z = true) (ws : List Jvm.Cond) (d0 : Addr) (f0 : Addr) (h0 : Heap) (n0 : Nat) (Z0 : n0 ≤ h0.size) (F_depth_d0 : Fld Z h0 d0 "com/example/gentle_bucket/gentlebucket/Contract" "depth" "Lcom/example/gentle_bucket/gentlebucket/Uint128;" (.ref f0)) :
    MetFree l (⟨"com/example/gentle_bucket/gentlebucket/Contract", "depth", "()Lcom/example/gentle_bucket/gentlebucket/Uint128;"⟩ : MethodName) (head1 (Jvm.Cond.code (⟨"com/example/gentle_bucket/gentlebucket/Contract", "depth", "()Lcom/example/gentle_bucket/gentlebucket/Uint128;"⟩ : MethodName) prog_3_method_9_code 1 (some (.object "com/example/gentle_bucket/gentlebucket/Uint128")) :: ws) ({ frames := 0, cells := 0, slots := 0, locals := 0 } : Room)) (fun a U => a = #[(.ref d0)] ∧ Z.Warmed39 U.vm ∧ U.heap = h0) (fun _ _ _ _ _ => True) (fun _ U o U' => ∃ v L, o = .returned v ∧ Q38 Z d0 f0 h0 n0 v U'.heap L ∧ FrameEnd U o U' L ({ frames := 0, cells := 0, slots := 0, locals := 0 } : Room).cells ({ frames := 0, cells := 0, slots := 0, locals := 0 } : Room).slots) := by
  refine MetFree.of_bodySF (plainFor_of_name pn_com_example_gentle_bucket_gentlebucket_Contract) hisR ?_
  intro p e s m args below meth c s₁ Bd hml0 hP hK
  obtain ⟨rfl, hZ, hh⟩ := hP
  have hx := Bd.exec
  have hby := Bd.bytes
  have hlk : meth.locks = false := Bd.notSynchronized
  have hml : c.maxLocals = 1 := hml0
  have hown : s.vm.findClass "com/example/gentle_bucket/gentlebucket/Contract" = some m.cls := findClass_of_methodNamed Bd.named
  have hnm := (name_of_methodNamed Bd.named Bd.method).1
  have X0 : Stand p l e ({ frames := 0, cells := 0, slots := 0, locals := 0 } : Room) s m #[(.ref d0)] below meth c s₁ [] 0 0 := Stand.of_body Bd
  have e0 : s₁.heap = h0 := by rw [← hh, Bd.state]; rfl
  have N0 := Fr.nil n0
  have K0 : Keep h0 h0 [] := Keep.refl h0 _
  show Wp p e below (Out s (Q38 Z d0 f0 h0 n0) ({ frames := 0, cells := 0, slots := 0, locals := 0 } : Room).cells ({ frames := 0, cells := 0, slots := 0, locals := 0 } : Room).slots) (s₁.setTop (entryFrame m #[(.ref d0)] 1))
  rw [ef_38_0]
  show Wp p e below _ (s₁.setTop (mkF m 0 #[.val (.ref d0)] []))
  refine Wp.step (fun t k => XS.aloadN X0.here hx rfl (hb hby d38_0) rfl rfl k) ?_
  show Wp p e below _ (s₁.setTop (mkF m 1 #[.val (.ref d0)] [(.ref d0)]))
  obtain ⟨T1, X1, e1, st1⟩ := getF X0 hx hZ hown (host := "") (Or.inl (hw _ (List.mem_of_getElem? (i := 76) rfl))) Via.refl e0 F_depth_d0 (g := (mkF m 1 #[.val (.ref d0)] [(.ref d0)])) rfl rfl (hb hby d38_1)
  refine Wp.step st1 ?_
  show Wp p e below _ (T1.setTop (mkF m 4 #[.val (.ref d0)] [(.ref f0)]))
  refine Wp.retA X1 hx Bd.returns rfl (hb hby d38_4) hlk ?_ (by decide) (by decide)
  show Q38 Z d0 f0 h0 n0 (some (.ref f0)) T1.heap _
  rw [e1]
  exact ⟨rfl, N0, rfl⟩
theorem d31_0 : decode prog_17_method_13_code 0 = .ok (.aload_n 0, 1) := by decide +kernel
theorem d31_1 : decode prog_17_method_13_code 1 = .ok (.getfield 7, 3) := by decide +kernel
theorem d31_4 : decode prog_17_method_13_code 4 = .ok (.aload_n 1, 1) := by decide +kernel
theorem d31_5 : decode prog_17_method_13_code 5 = .ok (.getfield 7, 3) := by decide +kernel
theorem d31_8 : decode prog_17_method_13_code 8 = .ok (.invokestatic 25, 3) := by decide +kernel
theorem d31_11 : decode prog_17_method_13_code 11 = .ok (.istore_n 2, 1) := by decide +kernel
theorem d31_12 : decode prog_17_method_13_code 12 = .ok (.iload_n 2, 1) := by decide +kernel
theorem d31_13 : decode prog_17_method_13_code 13 = .ok (.ifCond .eq 7, 3) := by decide +kernel
theorem d31_16 : decode prog_17_method_13_code 16 = .ok (.iload_n 2, 1) := by decide +kernel
theorem d31_17 : decode prog_17_method_13_code 17 = .ok (.goto 14, 3) := by decide +kernel
theorem d31_20 : decode prog_17_method_13_code 20 = .ok (.aload_n 0, 1) := by decide +kernel
theorem d31_21 : decode prog_17_method_13_code 21 = .ok (.getfield 13, 3) := by decide +kernel
theorem d31_24 : decode prog_17_method_13_code 24 = .ok (.aload_n 1, 1) := by decide +kernel
theorem d31_25 : decode prog_17_method_13_code 25 = .ok (.getfield 13, 3) := by decide +kernel
theorem d31_28 : decode prog_17_method_13_code 28 = .ok (.invokestatic 25, 3) := by decide +kernel
theorem d31_31 : decode prog_17_method_13_code 31 = .ok (.ireturn, 1) := by decide +kernel
theorem ef_31_00 (m : MethodId) (x0 : Addr) (x1 : Addr) : entryFrame m #[(.ref x0), (.ref x1)] 3 = mkF m 0 #[.val (.ref x0), .val (.ref x1), .unset] [] := by first | (simp [entryFrame, mkF, argsToLocals, Value.category]; done) | rfl
def Q31 (Z : State) (d0 : Addr) (d1 : Addr) (x0 : Int64) (x1 : Int64) (y0 : Int64) (y1 : Int64) (h0 : Heap) (n0 : Nat) (v : Option Value) (h : Heap) (L : List Loc) : Prop := v = some (.int (own_ct x0 x1 y0 y1)) ∧ Fr n0 L ∧ h = h0
set_option maxRecDepth 65536 in
set_option maxHeartbeats 40000000 in
theorem rm31 (l : Launch) (Z : State) (a0 : Array Value) (hw : ∀ d ∈ tables_1, d.before a0 Z = true) (ws : List Jvm.Cond) (d0 : Addr) (d1 : Addr) (x0 : Int64) (x1 : Int64) (y0 : Int64) (y1 : Int64) (h0 : Heap) (n0 : Nat) (Z0 : n0 ≤ h0.size) (E_d0 : Exa Z h0 d0 "com/example/gentle_bucket/gentlebucket/Uint128") (F_high_d0 : Fld Z h0 d0 "com/example/gentle_bucket/gentlebucket/Uint128" "high" "J" (.long x0)) (F_low_d0 : Fld Z h0 d0 "com/example/gentle_bucket/gentlebucket/Uint128" "low" "J" (.long x1)) (E_d1 : Exa Z h0 d1 "com/example/gentle_bucket/gentlebucket/Uint128") (F_high_d1 : Fld Z h0 d1 "com/example/gentle_bucket/gentlebucket/Uint128" "high" "J" (.long y0)) (F_low_d1 : Fld Z h0 d1 "com/example/gentle_bucket/gentlebucket/Uint128" "low" "J" (.long y1)) :
    MetFree l (⟨"com/example/gentle_bucket/gentlebucket/Uint128", "compareTo", "(Lcom/example/gentle_bucket/gentlebucket/Uint128;)I"⟩ : MethodName) (head1 (Jvm.Cond.code (⟨"com/example/gentle_bucket/gentlebucket/Uint128", "compareTo", "(Lcom/example/gentle_bucket/gentlebucket/Uint128;)I"⟩ : MethodName) prog_17_method_13_code 3 (some .int) :: ws) ({ frames := 2, cells := 0, slots := 0, locals := 30 } : Room)) (fun a U => a = #[(.ref d0), (.ref d1)] ∧ Z.Warmed39 U.vm ∧ U.heap = h0) (fun _ _ _ _ _ => True) (fun _ U o U' => ∃ v L, o = .returned v ∧ Q31 Z d0 d1 x0 x1 y0 y1 h0 n0 v U'.heap L ∧ FrameEnd U o U' L ({ frames := 2, cells := 0, slots := 0, locals := 30 } : Room).cells ({ frames := 2, cells := 0, slots := 0, locals := 30 } : Room).slots) := by
  refine MetFree.of_bodySF (plainFor_of_name pn_com_example_gentle_bucket_gentlebucket_Uint128) hisR ?_
  intro p e s m args below meth c s₁ Bd hml0 hP hK
  obtain ⟨rfl, hZ, hh⟩ := hP
  have hx := Bd.exec
  have hby := Bd.bytes
  have hlk : meth.locks = false := Bd.notSynchronized
  have hml : c.maxLocals = 3 := hml0
  have hown : s.vm.findClass "com/example/gentle_bucket/gentlebucket/Uint128" = some m.cls := findClass_of_methodNamed Bd.named
  have hnm := (name_of_methodNamed Bd.named Bd.method).1
  have X0 : Stand p l e ({ frames := 2, cells := 0, slots := 0, locals := 30 } : Room) s m #[(.ref d0), (.ref d1)] below meth c s₁ [] 0 0 := Stand.of_body Bd
  have e0 : s₁.heap = h0 := by rw [← hh, Bd.state]; rfl
  have N0 := Fr.nil n0
  have K0 : Keep h0 h0 [] := Keep.refl h0 _
  show Wp p e below (Out s (Q31 Z d0 d1 x0 x1 y0 y1 h0 n0) ({ frames := 2, cells := 0, slots := 0, locals := 30 } : Room).cells ({ frames := 2, cells := 0, slots := 0, locals := 30 } : Room).slots) (s₁.setTop (entryFrame m #[(.ref d0), (.ref d1)] 3))
  rw [ef_31_00]
  show Wp p e below _ (s₁.setTop (mkF m 0 #[.val (.ref d0), .val (.ref d1), .unset] []))
  refine Wp.step (fun t k => XS.aloadN X0.here hx rfl (hb hby d31_0) rfl rfl k) ?_
  show Wp p e below _ (s₁.setTop (mkF m 1 #[.val (.ref d0), .val (.ref d1), .unset] [(.ref d0)]))
  obtain ⟨T1, X1, e1, st1⟩ := getF X0 hx hZ hown (host := "") (Or.inl (hw _ (List.mem_of_getElem? (i := 66) rfl))) Via.refl e0 F_high_d0 (g := (mkF m 1 #[.val (.ref d0), .val (.ref d1), .unset] [(.ref d0)])) rfl rfl (hb hby d31_1)
  refine Wp.step st1 ?_
  show Wp p e below _ (T1.setTop (mkF m 4 #[.val (.ref d0), .val (.ref d1), .unset] [(.long x0)]))
  refine Wp.step (fun t k => XS.aloadN X1.here hx rfl (hb hby d31_4) rfl rfl k) ?_
  show Wp p e below _ (T1.setTop (mkF m 5 #[.val (.ref d0), .val (.ref d1), .unset] [(.ref d1), (.long x0)]))
  obtain ⟨T2, X2, e2, st2⟩ := getF X1 hx hZ hown (host := "") (Or.inl (hw _ (List.mem_of_getElem? (i := 66) rfl))) Via.refl e1 F_high_d1 (g := (mkF m 5 #[.val (.ref d0), .val (.ref d1), .unset] [(.ref d1), (.long x0)])) rfl rfl (hb hby d31_5)
  refine Wp.step st2 ?_
  show Wp p e below _ (T2.setTop (mkF m 8 #[.val (.ref d0), .val (.ref d1), .unset] [(.long y0), (.long x0)]))
  obtain ⟨_, _, ⟨T3, L3, k3, n3⟩, -, X3, ⟨Lc3, hQ3, l3, y3, z3⟩, st3⟩ := Jvm.LawKit.callS X2 hx (y := (⟨"java/lang/Long", "compareUnsigned", "(JJ)I"⟩ : MethodName)) hown (mvT hZ (hw _ (List.mem_of_getElem? (i := 182) rfl))) (mvT hZ (hw _ (List.mem_of_getElem? (i := 183) rfl))) (mvT hZ (hw _ (List.mem_of_getElem? (i := 89) rfl))) (mvT hZ (hw _ (List.mem_of_getElem? (i := 184) rfl))) (by decide) (backOf (W := 0) (rm32 l Z a0 hw [] x0 y0  h0 n0 (Nat.le_trans Z0 K0.1)  ) hZ (hw _ (List.mem_of_getElem? (i := 184) rfl)) (hw _ (List.mem_of_getElem? (i := 89) rfl)) (by decide) (by decide)) (g := (mkF m 8 #[.val (.ref d0), .val (.ref d1), .unset] [(.long y0), (.long x0)])) rfl (by rw [hml]; rfl) (argsL := [(.long x0), (.long y0)]) (rest := []) (lenOf pd_28JJ29I rfl) rfl (by show 2 * 0 + _ ≤ _; exact Nat.le_of_eq rfl) (hb hby d31_8) (fun _ _ => ⟨rfl, e2, (by decide : 0 + 0 ≤ _), (by decide : 0 + 0 ≤ _)⟩)
  dsimp only [Pt.U, Pt.locs, Pt.cells, Pt.slots] at X3 l3 y3 z3 st3 hQ3
  subst l3 y3 z3
  obtain ⟨rfl, N3q, e3⟩ := hQ3
  have N3 := Fr.app N0 N3q
  refine Wp.step st3 ?_
  show Wp p e below _ (T3.setTop (mkF m 11 #[.val (.ref d0), .val (.ref d1), .unset] [(.int (own_cu x0 y0))]))
  refine Wp.step (fun t k => XS.istoreN X3.here hx rfl (hb hby d31_11) rfl (l' := #[.val (.ref d0), .val (.ref d1), .val (.int (own_cu x0 y0))]) rfl k) ?_
  show Wp p e below _ (T3.setTop (mkF m 12 #[.val (.ref d0), .val (.ref d1), .val (.int (own_cu x0 y0))] []))
  refine Wp.step (fun t k => XS.iloadN X3.here hx rfl (hb hby d31_12) rfl k) ?_
  show Wp p e below _ (T3.setTop (mkF m 13 #[.val (.ref d0), .val (.ref d1), .val (.int (own_cu x0 y0))] [(.int (own_cu x0 y0))]))
  by_cases hc4 : (own_cu x0 y0) = (0 : Int32)
  · refine Wp.step (fun t k => XS.ifYes X3.here hx rfl (pc0 := 13) (pc' := 20) rfl (hb hby d31_13) rfl ((if0 _ _).trans (teq hc4).1) (by decide) (by decide) k) ?_
    show Wp p e below _ (T3.setTop (mkF m 20 #[.val (.ref d0), .val (.ref d1), .val (.int (own_cu x0 y0))] []))
    refine Wp.step (fun t k => XS.aloadN X3.here hx rfl (hb hby d31_20) rfl rfl k) ?_
    show Wp p e below _ (T3.setTop (mkF m 21 #[.val (.ref d0), .val (.ref d1), .val (.int (own_cu x0 y0))] [(.ref d0)]))
    obtain ⟨T5, X5, e5, st5⟩ := getF X3 hx hZ hown (host := "") (Or.inl (hw _ (List.mem_of_getElem? (i := 68) rfl))) Via.refl e3 F_low_d0 (g := (mkF m 21 #[.val (.ref d0), .val (.ref d1), .val (.int (own_cu x0 y0))] [(.ref d0)])) rfl rfl (hb hby d31_21)
    refine Wp.step st5 ?_
    show Wp p e below _ (T5.setTop (mkF m 24 #[.val (.ref d0), .val (.ref d1), .val (.int (own_cu x0 y0))] [(.long x1)]))
    refine Wp.step (fun t k => XS.aloadN X5.here hx rfl (hb hby d31_24) rfl rfl k) ?_
    show Wp p e below _ (T5.setTop (mkF m 25 #[.val (.ref d0), .val (.ref d1), .val (.int (own_cu x0 y0))] [(.ref d1), (.long x1)]))
    obtain ⟨T6, X6, e6, st6⟩ := getF X5 hx hZ hown (host := "") (Or.inl (hw _ (List.mem_of_getElem? (i := 68) rfl))) Via.refl e5 F_low_d1 (g := (mkF m 25 #[.val (.ref d0), .val (.ref d1), .val (.int (own_cu x0 y0))] [(.ref d1), (.long x1)])) rfl rfl (hb hby d31_25)
    refine Wp.step st6 ?_
    show Wp p e below _ (T6.setTop (mkF m 28 #[.val (.ref d0), .val (.ref d1), .val (.int (own_cu x0 y0))] [(.long y1), (.long x1)]))
    obtain ⟨_, _, ⟨T7, L7, k7, n7⟩, -, X7, ⟨Lc7, hQ7, l7, y7, z7⟩, st7⟩ := Jvm.LawKit.callS X6 hx (y := (⟨"java/lang/Long", "compareUnsigned", "(JJ)I"⟩ : MethodName)) hown (mvT hZ (hw _ (List.mem_of_getElem? (i := 182) rfl))) (mvT hZ (hw _ (List.mem_of_getElem? (i := 183) rfl))) (mvT hZ (hw _ (List.mem_of_getElem? (i := 89) rfl))) (mvT hZ (hw _ (List.mem_of_getElem? (i := 184) rfl))) (by decide) (backOf (W := 0) (rm32 l Z a0 hw [] x1 y1  h0 n0 (Nat.le_trans Z0 K0.1)  ) hZ (hw _ (List.mem_of_getElem? (i := 184) rfl)) (hw _ (List.mem_of_getElem? (i := 89) rfl)) (by decide) (by decide)) (g := (mkF m 28 #[.val (.ref d0), .val (.ref d1), .val (.int (own_cu x0 y0))] [(.long y1), (.long x1)])) rfl (by rw [hml]; rfl) (argsL := [(.long x1), (.long y1)]) (rest := []) (lenOf pd_28JJ29I rfl) rfl (by show 2 * 0 + _ ≤ _; exact Nat.le_of_eq rfl) (hb hby d31_28) (fun _ _ => ⟨rfl, e6, (by decide : 0 + 0 ≤ _), (by decide : 0 + 0 ≤ _)⟩)
    dsimp only [Pt.U, Pt.locs, Pt.cells, Pt.slots] at X7 l7 y7 z7 st7 hQ7
    subst l7 y7 z7
    obtain ⟨rfl, N7q, e7⟩ := hQ7
    have N7 := Fr.app N3 N7q
    refine Wp.step st7 ?_
    show Wp p e below _ (T7.setTop (mkF m 31 #[.val (.ref d0), .val (.ref d1), .val (.int (own_cu x0 y0))] [(.int (own_cu x1 y1))]))
    refine Wp.retI X7 hx Bd.returns (hb hby d31_31) hlk ?_ (by decide) (by decide)
    show Q31 Z d0 d1 x0 x1 y0 y1 h0 n0 (some (.int (own_cu x1 y1))) T7.heap _
    rw [e7]
    exact ⟨(by rw [own_ct, if_pos hc4]), N7, rfl⟩
  · refine Wp.step (fun t k => XS.ifNo X3.here hx rfl (hb hby d31_13) rfl ((if0 _ _).trans (feq hc4).1) k) ?_
    show Wp p e below _ (T3.setTop (mkF m 16 #[.val (.ref d0), .val (.ref d1), .val (.int (own_cu x0 y0))] []))
    refine Wp.step (fun t k => XS.iloadN X3.here hx rfl (hb hby d31_16) rfl k) ?_
    show Wp p e below _ (T3.setTop (mkF m 17 #[.val (.ref d0), .val (.ref d1), .val (.int (own_cu x0 y0))] [(.int (own_cu x0 y0))]))
    refine Wp.step (fun t k => XS.goto X3.here hx rfl (pc0 := 17) (pc' := 31) rfl (hb hby d31_17) (by decide) (by decide) k) ?_
    show Wp p e below _ (T3.setTop (mkF m 31 #[.val (.ref d0), .val (.ref d1), .val (.int (own_cu x0 y0))] [(.int (own_cu x0 y0))]))
    refine Wp.retI X3 hx Bd.returns (hb hby d31_31) hlk ?_ (by decide) (by decide)
    show Q31 Z d0 d1 x0 x1 y0 y1 h0 n0 (some (.int (own_cu x0 y0))) T3.heap _
    rw [e3]
    exact ⟨(by rw [own_ct, if_neg hc4]), N3, rfl⟩
theorem d37_0 : decode prog_17_method_6_code 0 = .ok (.aload_n 0, 1) := by decide +kernel
theorem d37_1 : decode prog_17_method_6_code 1 = .ok (.getfield 13, 3) := by decide +kernel
theorem d37_4 : decode prog_17_method_6_code 4 = .ok (.aload_n 1, 1) := by decide +kernel
theorem d37_5 : decode prog_17_method_6_code 5 = .ok (.getfield 13, 3) := by decide +kernel
theorem d37_8 : decode prog_17_method_6_code 8 = .ok (.ladd, 1) := by decide +kernel
theorem d37_9 : decode prog_17_method_6_code 9 = .ok (.lstore_n 2, 1) := by decide +kernel
theorem d37_10 : decode prog_17_method_6_code 10 = .ok (.lload_n 2, 1) := by decide +kernel
theorem d37_11 : decode prog_17_method_6_code 11 = .ok (.aload_n 0, 1) := by decide +kernel
theorem d37_12 : decode prog_17_method_6_code 12 = .ok (.getfield 13, 3) := by decide +kernel
theorem d37_15 : decode prog_17_method_6_code 15 = .ok (.invokestatic 25, 3) := by decide +kernel
theorem d37_18 : decode prog_17_method_6_code 18 = .ok (.ifCond .ge 7, 3) := by decide +kernel
theorem d37_25 : decode prog_17_method_6_code 25 = .ok (.lconst 0, 1) := by decide +kernel
theorem d37_26 : decode prog_17_method_6_code 26 = .ok (.lstore 4, 2) := by decide +kernel
theorem d37_28 : decode prog_17_method_6_code 28 = .ok (.aload_n 1, 1) := by decide +kernel
theorem d37_29 : decode prog_17_method_6_code 29 = .ok (.getfield 7, 3) := by decide +kernel
theorem d37_32 : decode prog_17_method_6_code 32 = .ok (.lload 4, 2) := by decide +kernel
theorem d37_34 : decode prog_17_method_6_code 34 = .ok (.ladd, 1) := by decide +kernel
theorem d37_35 : decode prog_17_method_6_code 35 = .ok (.lstore 6, 2) := by decide +kernel
theorem d37_37 : decode prog_17_method_6_code 37 = .ok (.aload_n 0, 1) := by decide +kernel
theorem d37_38 : decode prog_17_method_6_code 38 = .ok (.getfield 7, 3) := by decide +kernel
theorem d37_41 : decode prog_17_method_6_code 41 = .ok (.lload 6, 2) := by decide +kernel
theorem d37_43 : decode prog_17_method_6_code 43 = .ok (.ladd, 1) := by decide +kernel
theorem d37_44 : decode prog_17_method_6_code 44 = .ok (.lstore 8, 2) := by decide +kernel
theorem d37_46 : decode prog_17_method_6_code 46 = .ok (.lload 4, 2) := by decide +kernel
theorem d37_48 : decode prog_17_method_6_code 48 = .ok (.lconst 1, 1) := by decide +kernel
theorem d37_49 : decode prog_17_method_6_code 49 = .ok (.lcmp, 1) := by decide +kernel
theorem d37_50 : decode prog_17_method_6_code 50 = .ok (.ifCond .ne 10, 3) := by decide +kernel
theorem d37_60 : decode prog_17_method_6_code 60 = .ok (.lload 8, 2) := by decide +kernel
theorem d37_62 : decode prog_17_method_6_code 62 = .ok (.aload_n 0, 1) := by decide +kernel
theorem d37_63 : decode prog_17_method_6_code 63 = .ok (.getfield 7, 3) := by decide +kernel
theorem d37_66 : decode prog_17_method_6_code 66 = .ok (.invokestatic 25, 3) := by decide +kernel
theorem d37_69 : decode prog_17_method_6_code 69 = .ok (.ifCond .ge 13, 3) := by decide +kernel
theorem d37_82 : decode prog_17_method_6_code 82 = .ok (.new 8, 3) := by decide +kernel
theorem d37_85 : decode prog_17_method_6_code 85 = .ok (.dup, 1) := by decide +kernel
theorem d37_86 : decode prog_17_method_6_code 86 = .ok (.lload 8, 2) := by decide +kernel
theorem d37_88 : decode prog_17_method_6_code 88 = .ok (.lload_n 2, 1) := by decide +kernel
theorem d37_89 : decode prog_17_method_6_code 89 = .ok (.invokespecial 16, 3) := by decide +kernel
theorem d37_92 : decode prog_17_method_6_code 92 = .ok (.areturn, 1) := by decide +kernel
theorem ef_37_00 (m : MethodId) (x0 : Addr) (x1 : Addr) : entryFrame m #[(.ref x0), (.ref x1)] 10 = mkF m 0 #[.val (.ref x0), .val (.ref x1), .unset, .unset, .unset, .unset, .unset, .unset, .unset, .unset] [] := by first | (simp [entryFrame, mkF, argsToLocals, Value.category]; done) | rfl
def Q37 (Z : State) (d0 : Addr) (d1 : Addr) (y0 : Int64) (y1 : Int64) (h0 : Heap) (n0 : Nat) (v : Option Value) (h : Heap) (L : List Loc) : Prop := ∃ (r0 : Addr), v = some (.ref r0) ∧ Fr n0 L ∧ Keep h0 h [] ∧ h0.size ≤ r0 ∧ Exa Z h r0 "com/example/gentle_bucket/gentlebucket/Uint128" ∧ Fld Z h r0 "com/example/gentle_bucket/gentlebucket/Uint128" "high" "J" (.long y0) ∧ Fld Z h r0 "com/example/gentle_bucket/gentlebucket/Uint128" "low" "J" (.long y1)
set_option maxRecDepth 65536 in
set_option maxHeartbeats 40000000 in
theorem rm37 (l : Launch) (Z : State) (a0 : Array Value) (hw : ∀ d ∈ tables_1, d.before a0 Z = true) (ws : List Jvm.Cond) (d0 : Addr) (d1 : Addr) (y0 : Int64) (y1 : Int64) (h0 : Heap) (n0 : Nat) (Z0 : n0 ≤ h0.size) (E_d0 : Exa Z h0 d0 "com/example/gentle_bucket/gentlebucket/Uint128") (F_high_d0 : Fld Z h0 d0 "com/example/gentle_bucket/gentlebucket/Uint128" "high" "J" (.long (0 : Int64))) (F_low_d0 : Fld Z h0 d0 "com/example/gentle_bucket/gentlebucket/Uint128" "low" "J" (.long (0 : Int64))) (E_d1 : Exa Z h0 d1 "com/example/gentle_bucket/gentlebucket/Uint128") (F_high_d1 : Fld Z h0 d1 "com/example/gentle_bucket/gentlebucket/Uint128" "high" "J" (.long y0)) (F_low_d1 : Fld Z h0 d1 "com/example/gentle_bucket/gentlebucket/Uint128" "low" "J" (.long y1)) :
    MetFree l (⟨"com/example/gentle_bucket/gentlebucket/Uint128", "plus", "(Lcom/example/gentle_bucket/gentlebucket/Uint128;)Lcom/example/gentle_bucket/gentlebucket/Uint128;"⟩ : MethodName) (head1 (Jvm.Cond.code (⟨"com/example/gentle_bucket/gentlebucket/Uint128", "plus", "(Lcom/example/gentle_bucket/gentlebucket/Uint128;)Lcom/example/gentle_bucket/gentlebucket/Uint128;"⟩ : MethodName) prog_17_method_6_code 10 (some (.object "com/example/gentle_bucket/gentlebucket/Uint128")) :: ws) ({ frames := 2, cells := 1, slots := 2, locals := 30 } : Room)) (fun a U => a = #[(.ref d0), (.ref d1)] ∧ Z.Warmed39 U.vm ∧ U.heap = h0) (fun _ _ _ _ _ => True) (fun _ U o U' => ∃ v L, o = .returned v ∧ Q37 Z d0 d1 y0 y1 h0 n0 v U'.heap L ∧ FrameEnd U o U' L ({ frames := 2, cells := 1, slots := 2, locals := 30 } : Room).cells ({ frames := 2, cells := 1, slots := 2, locals := 30 } : Room).slots) := by
  refine MetFree.of_bodySF (plainFor_of_name pn_com_example_gentle_bucket_gentlebucket_Uint128) hisR ?_
  intro p e s m args below meth c s₁ Bd hml0 hP hK
  obtain ⟨rfl, hZ, hh⟩ := hP
  have hx := Bd.exec
  have hby := Bd.bytes
  have hlk : meth.locks = false := Bd.notSynchronized
  have hml : c.maxLocals = 10 := hml0
  have hown : s.vm.findClass "com/example/gentle_bucket/gentlebucket/Uint128" = some m.cls := findClass_of_methodNamed Bd.named
  have hnm := (name_of_methodNamed Bd.named Bd.method).1
  have X0 : Stand p l e ({ frames := 2, cells := 1, slots := 2, locals := 30 } : Room) s m #[(.ref d0), (.ref d1)] below meth c s₁ [] 0 0 := Stand.of_body Bd
  have e0 : s₁.heap = h0 := by rw [← hh, Bd.state]; rfl
  have N0 := Fr.nil n0
  have K0 : Keep h0 h0 [] := Keep.refl h0 _
  show Wp p e below (Out s (Q37 Z d0 d1 y0 y1 h0 n0) ({ frames := 2, cells := 1, slots := 2, locals := 30 } : Room).cells ({ frames := 2, cells := 1, slots := 2, locals := 30 } : Room).slots) (s₁.setTop (entryFrame m #[(.ref d0), (.ref d1)] 10))
  rw [ef_37_00]
  show Wp p e below _ (s₁.setTop (mkF m 0 #[.val (.ref d0), .val (.ref d1), .unset, .unset, .unset, .unset, .unset, .unset, .unset, .unset] []))
  refine Wp.step (fun t k => XS.aloadN X0.here hx rfl (hb hby d37_0) rfl rfl k) ?_
  show Wp p e below _ (s₁.setTop (mkF m 1 #[.val (.ref d0), .val (.ref d1), .unset, .unset, .unset, .unset, .unset, .unset, .unset, .unset] [(.ref d0)]))
  obtain ⟨T1, X1, e1, st1⟩ := getF X0 hx hZ hown (host := "") (Or.inl (hw _ (List.mem_of_getElem? (i := 68) rfl))) Via.refl e0 F_low_d0 (g := (mkF m 1 #[.val (.ref d0), .val (.ref d1), .unset, .unset, .unset, .unset, .unset, .unset, .unset, .unset] [(.ref d0)])) rfl rfl (hb hby d37_1)
  refine Wp.step st1 ?_
  show Wp p e below _ (T1.setTop (mkF m 4 #[.val (.ref d0), .val (.ref d1), .unset, .unset, .unset, .unset, .unset, .unset, .unset, .unset] [(.long (0 : Int64))]))
  refine Wp.step (fun t k => XS.aloadN X1.here hx rfl (hb hby d37_4) rfl rfl k) ?_
  show Wp p e below _ (T1.setTop (mkF m 5 #[.val (.ref d0), .val (.ref d1), .unset, .unset, .unset, .unset, .unset, .unset, .unset, .unset] [(.ref d1), (.long (0 : Int64))]))
  obtain ⟨T2, X2, e2, st2⟩ := getF X1 hx hZ hown (host := "") (Or.inl (hw _ (List.mem_of_getElem? (i := 68) rfl))) Via.refl e1 F_low_d1 (g := (mkF m 5 #[.val (.ref d0), .val (.ref d1), .unset, .unset, .unset, .unset, .unset, .unset, .unset, .unset] [(.ref d1), (.long (0 : Int64))])) rfl rfl (hb hby d37_5)
  refine Wp.step st2 ?_
  show Wp p e below _ (T2.setTop (mkF m 8 #[.val (.ref d0), .val (.ref d1), .unset, .unset, .unset, .unset, .unset, .unset, .unset, .unset] [(.long y1), (.long (0 : Int64))]))
  refine Wp.step (fun t k => XS.ladd X2.here hx rfl (hb hby d37_8) rfl k) ?_
  show Wp p e below _ (T2.setTop (mkF m 9 #[.val (.ref d0), .val (.ref d1), .unset, .unset, .unset, .unset, .unset, .unset, .unset, .unset] [(.long ((0 : Int64) + y1))]))
  refine Wp.step (fun t k => XS.lstoreN X2.here hx rfl (hb hby d37_9) rfl (l' := #[.val (.ref d0), .val (.ref d1), .val (.long ((0 : Int64) + y1)), .second, .unset, .unset, .unset, .unset, .unset, .unset]) rfl k) ?_
  show Wp p e below _ (T2.setTop (mkF m 10 #[.val (.ref d0), .val (.ref d1), .val (.long ((0 : Int64) + y1)), .second, .unset, .unset, .unset, .unset, .unset, .unset] []))
  refine Wp.step (fun t k => XS.lloadN X2.here hx rfl (hb hby d37_10) rfl k) ?_
  show Wp p e below _ (T2.setTop (mkF m 11 #[.val (.ref d0), .val (.ref d1), .val (.long ((0 : Int64) + y1)), .second, .unset, .unset, .unset, .unset, .unset, .unset] [(.long ((0 : Int64) + y1))]))
  refine Wp.step (fun t k => XS.aloadN X2.here hx rfl (hb hby d37_11) rfl rfl k) ?_
  show Wp p e below _ (T2.setTop (mkF m 12 #[.val (.ref d0), .val (.ref d1), .val (.long ((0 : Int64) + y1)), .second, .unset, .unset, .unset, .unset, .unset, .unset] [(.ref d0), (.long ((0 : Int64) + y1))]))
  obtain ⟨T3, X3, e3, st3⟩ := getF X2 hx hZ hown (host := "") (Or.inl (hw _ (List.mem_of_getElem? (i := 68) rfl))) Via.refl e2 F_low_d0 (g := (mkF m 12 #[.val (.ref d0), .val (.ref d1), .val (.long ((0 : Int64) + y1)), .second, .unset, .unset, .unset, .unset, .unset, .unset] [(.ref d0), (.long ((0 : Int64) + y1))])) rfl rfl (hb hby d37_12)
  refine Wp.step st3 ?_
  show Wp p e below _ (T3.setTop (mkF m 15 #[.val (.ref d0), .val (.ref d1), .val (.long ((0 : Int64) + y1)), .second, .unset, .unset, .unset, .unset, .unset, .unset] [(.long (0 : Int64)), (.long ((0 : Int64) + y1))]))
  obtain ⟨_, _, ⟨T4, L4, k4, n4⟩, -, X4, ⟨Lc4, hQ4, l4, y4, z4⟩, st4⟩ := Jvm.LawKit.callS X3 hx (y := (⟨"java/lang/Long", "compareUnsigned", "(JJ)I"⟩ : MethodName)) hown (mvT hZ (hw _ (List.mem_of_getElem? (i := 182) rfl))) (mvT hZ (hw _ (List.mem_of_getElem? (i := 183) rfl))) (mvT hZ (hw _ (List.mem_of_getElem? (i := 89) rfl))) (mvT hZ (hw _ (List.mem_of_getElem? (i := 184) rfl))) (by decide) (backOf (W := 0) (rm32 l Z a0 hw [] ((0 : Int64) + y1) (0 : Int64)  h0 n0 (Nat.le_trans Z0 K0.1)  ) hZ (hw _ (List.mem_of_getElem? (i := 184) rfl)) (hw _ (List.mem_of_getElem? (i := 89) rfl)) (by decide) (by decide)) (g := (mkF m 15 #[.val (.ref d0), .val (.ref d1), .val (.long ((0 : Int64) + y1)), .second, .unset, .unset, .unset, .unset, .unset, .unset] [(.long (0 : Int64)), (.long ((0 : Int64) + y1))])) rfl (by rw [hml]; rfl) (argsL := [(.long ((0 : Int64) + y1)), (.long (0 : Int64))]) (rest := []) (lenOf pd_28JJ29I rfl) rfl (by show 2 * 0 + _ ≤ _; exact Nat.le_of_eq rfl) (hb hby d37_15) (fun _ _ => ⟨rfl, e3, (by decide : 0 + 0 ≤ _), (by decide : 0 + 0 ≤ _)⟩)
  dsimp only [Pt.U, Pt.locs, Pt.cells, Pt.slots] at X4 l4 y4 z4 st4 hQ4
  subst l4 y4 z4
  obtain ⟨rfl, N4q, e4⟩ := hQ4
  have N4 := Fr.app N0 N4q
  refine Wp.step st4 ?_
  show Wp p e below _ (T4.setTop (mkF m 18 #[.val (.ref d0), .val (.ref d1), .val (.long ((0 : Int64) + y1)), .second, .unset, .unset, .unset, .unset, .unset, .unset] [(.int (own_cu ((0 : Int64) + y1) (0 : Int64)))]))
  refine Wp.step (fun t k => XS.ifYes X4.here hx rfl (pc0 := 18) (pc' := 25) rfl (hb hby d37_18) rfl ((if0 _ _).trans (flt (show ¬ ((own_cu ((0 : Int64) + y1) (0 : Int64)) < (0 : Int32)) from fun q => Nat.not_lt_zero _ (own_cu_lt.mp q))).2.1) (by decide) (by decide) k) ?_
  show Wp p e below _ (T4.setTop (mkF m 25 #[.val (.ref d0), .val (.ref d1), .val (.long ((0 : Int64) + y1)), .second, .unset, .unset, .unset, .unset, .unset, .unset] []))
  refine Wp.step (fun t k => XS.lconst X4.here hx rfl (hb hby d37_25) k) ?_
  show Wp p e below _ (T4.setTop (mkF m 26 #[.val (.ref d0), .val (.ref d1), .val (.long ((0 : Int64) + y1)), .second, .unset, .unset, .unset, .unset, .unset, .unset] [(.long (0 : Int64))]))
  refine Wp.step (fun t k => XS.lstore X4.here hx rfl (hb hby d37_26) rfl (l' := #[.val (.ref d0), .val (.ref d1), .val (.long ((0 : Int64) + y1)), .second, .val (.long (0 : Int64)), .second, .unset, .unset, .unset, .unset]) rfl k) ?_
  show Wp p e below _ (T4.setTop (mkF m 28 #[.val (.ref d0), .val (.ref d1), .val (.long ((0 : Int64) + y1)), .second, .val (.long (0 : Int64)), .second, .unset, .unset, .unset, .unset] []))
  refine Wp.step (fun t k => XS.aloadN X4.here hx rfl (hb hby d37_28) rfl rfl k) ?_
  show Wp p e below _ (T4.setTop (mkF m 29 #[.val (.ref d0), .val (.ref d1), .val (.long ((0 : Int64) + y1)), .second, .val (.long (0 : Int64)), .second, .unset, .unset, .unset, .unset] [(.ref d1)]))
  obtain ⟨T6, X6, e6, st6⟩ := getF X4 hx hZ hown (host := "") (Or.inl (hw _ (List.mem_of_getElem? (i := 66) rfl))) Via.refl e4 F_high_d1 (g := (mkF m 29 #[.val (.ref d0), .val (.ref d1), .val (.long ((0 : Int64) + y1)), .second, .val (.long (0 : Int64)), .second, .unset, .unset, .unset, .unset] [(.ref d1)])) rfl rfl (hb hby d37_29)
  refine Wp.step st6 ?_
  show Wp p e below _ (T6.setTop (mkF m 32 #[.val (.ref d0), .val (.ref d1), .val (.long ((0 : Int64) + y1)), .second, .val (.long (0 : Int64)), .second, .unset, .unset, .unset, .unset] [(.long y0)]))
  refine Wp.step (fun t k => XS.lload X6.here hx rfl (hb hby d37_32) rfl k) ?_
  show Wp p e below _ (T6.setTop (mkF m 34 #[.val (.ref d0), .val (.ref d1), .val (.long ((0 : Int64) + y1)), .second, .val (.long (0 : Int64)), .second, .unset, .unset, .unset, .unset] [(.long (0 : Int64)), (.long y0)]))
  refine Wp.step (fun t k => XS.ladd X6.here hx rfl (hb hby d37_34) rfl k) ?_
  show Wp p e below _ (T6.setTop (mkF m 35 #[.val (.ref d0), .val (.ref d1), .val (.long ((0 : Int64) + y1)), .second, .val (.long (0 : Int64)), .second, .unset, .unset, .unset, .unset] [(.long (y0 + (0 : Int64)))]))
  refine Wp.step (fun t k => XS.lstore X6.here hx rfl (hb hby d37_35) rfl (l' := #[.val (.ref d0), .val (.ref d1), .val (.long ((0 : Int64) + y1)), .second, .val (.long (0 : Int64)), .second, .val (.long (y0 + (0 : Int64))), .second, .unset, .unset]) rfl k) ?_
  show Wp p e below _ (T6.setTop (mkF m 37 #[.val (.ref d0), .val (.ref d1), .val (.long ((0 : Int64) + y1)), .second, .val (.long (0 : Int64)), .second, .val (.long (y0 + (0 : Int64))), .second, .unset, .unset] []))
  refine Wp.step (fun t k => XS.aloadN X6.here hx rfl (hb hby d37_37) rfl rfl k) ?_
  show Wp p e below _ (T6.setTop (mkF m 38 #[.val (.ref d0), .val (.ref d1), .val (.long ((0 : Int64) + y1)), .second, .val (.long (0 : Int64)), .second, .val (.long (y0 + (0 : Int64))), .second, .unset, .unset] [(.ref d0)]))
  obtain ⟨T7, X7, e7, st7⟩ := getF X6 hx hZ hown (host := "") (Or.inl (hw _ (List.mem_of_getElem? (i := 66) rfl))) Via.refl e6 F_high_d0 (g := (mkF m 38 #[.val (.ref d0), .val (.ref d1), .val (.long ((0 : Int64) + y1)), .second, .val (.long (0 : Int64)), .second, .val (.long (y0 + (0 : Int64))), .second, .unset, .unset] [(.ref d0)])) rfl rfl (hb hby d37_38)
  refine Wp.step st7 ?_
  show Wp p e below _ (T7.setTop (mkF m 41 #[.val (.ref d0), .val (.ref d1), .val (.long ((0 : Int64) + y1)), .second, .val (.long (0 : Int64)), .second, .val (.long (y0 + (0 : Int64))), .second, .unset, .unset] [(.long (0 : Int64))]))
  refine Wp.step (fun t k => XS.lload X7.here hx rfl (hb hby d37_41) rfl k) ?_
  show Wp p e below _ (T7.setTop (mkF m 43 #[.val (.ref d0), .val (.ref d1), .val (.long ((0 : Int64) + y1)), .second, .val (.long (0 : Int64)), .second, .val (.long (y0 + (0 : Int64))), .second, .unset, .unset] [(.long (y0 + (0 : Int64))), (.long (0 : Int64))]))
  refine Wp.step (fun t k => XS.ladd X7.here hx rfl (hb hby d37_43) rfl k) ?_
  show Wp p e below _ (T7.setTop (mkF m 44 #[.val (.ref d0), .val (.ref d1), .val (.long ((0 : Int64) + y1)), .second, .val (.long (0 : Int64)), .second, .val (.long (y0 + (0 : Int64))), .second, .unset, .unset] [(.long ((0 : Int64) + (y0 + (0 : Int64))))]))
  refine Wp.step (fun t k => XS.lstore X7.here hx rfl (hb hby d37_44) rfl (l' := #[.val (.ref d0), .val (.ref d1), .val (.long ((0 : Int64) + y1)), .second, .val (.long (0 : Int64)), .second, .val (.long (y0 + (0 : Int64))), .second, .val (.long ((0 : Int64) + (y0 + (0 : Int64)))), .second]) rfl k) ?_
  show Wp p e below _ (T7.setTop (mkF m 46 #[.val (.ref d0), .val (.ref d1), .val (.long ((0 : Int64) + y1)), .second, .val (.long (0 : Int64)), .second, .val (.long (y0 + (0 : Int64))), .second, .val (.long ((0 : Int64) + (y0 + (0 : Int64)))), .second] []))
  refine Wp.step (fun t k => XS.lload X7.here hx rfl (hb hby d37_46) rfl k) ?_
  show Wp p e below _ (T7.setTop (mkF m 48 #[.val (.ref d0), .val (.ref d1), .val (.long ((0 : Int64) + y1)), .second, .val (.long (0 : Int64)), .second, .val (.long (y0 + (0 : Int64))), .second, .val (.long ((0 : Int64) + (y0 + (0 : Int64)))), .second] [(.long (0 : Int64))]))
  refine Wp.step (fun t k => XS.lconst X7.here hx rfl (hb hby d37_48) k) ?_
  show Wp p e below _ (T7.setTop (mkF m 49 #[.val (.ref d0), .val (.ref d1), .val (.long ((0 : Int64) + y1)), .second, .val (.long (0 : Int64)), .second, .val (.long (y0 + (0 : Int64))), .second, .val (.long ((0 : Int64) + (y0 + (0 : Int64)))), .second] [(.long (1 : Int64)), (.long (0 : Int64))]))
  refine Wp.step (fun t k => XS.lcmp X7.here hx rfl (hb hby d37_49) rfl k) ?_
  show Wp p e below _ (T7.setTop (mkF m 50 #[.val (.ref d0), .val (.ref d1), .val (.long ((0 : Int64) + y1)), .second, .val (.long (0 : Int64)), .second, .val (.long (y0 + (0 : Int64))), .second, .val (.long ((0 : Int64) + (y0 + (0 : Int64)))), .second] [(.int (lcmpW (0 : Int64) (1 : Int64)))]))
  refine Wp.step (fun t k => XS.ifYes X7.here hx rfl (pc0 := 50) (pc' := 60) rfl (hb hby d37_50) rfl ((if0 _ _).trans (feq (show ¬ ((lcmpW (0 : Int64) (1 : Int64)) = (0 : Int32)) from (by decide))).2) (by decide) (by decide) k) ?_
  show Wp p e below _ (T7.setTop (mkF m 60 #[.val (.ref d0), .val (.ref d1), .val (.long ((0 : Int64) + y1)), .second, .val (.long (0 : Int64)), .second, .val (.long (y0 + (0 : Int64))), .second, .val (.long ((0 : Int64) + (y0 + (0 : Int64)))), .second] []))
  refine Wp.step (fun t k => XS.lload X7.here hx rfl (hb hby d37_60) rfl k) ?_
  show Wp p e below _ (T7.setTop (mkF m 62 #[.val (.ref d0), .val (.ref d1), .val (.long ((0 : Int64) + y1)), .second, .val (.long (0 : Int64)), .second, .val (.long (y0 + (0 : Int64))), .second, .val (.long ((0 : Int64) + (y0 + (0 : Int64)))), .second] [(.long ((0 : Int64) + (y0 + (0 : Int64))))]))
  refine Wp.step (fun t k => XS.aloadN X7.here hx rfl (hb hby d37_62) rfl rfl k) ?_
  show Wp p e below _ (T7.setTop (mkF m 63 #[.val (.ref d0), .val (.ref d1), .val (.long ((0 : Int64) + y1)), .second, .val (.long (0 : Int64)), .second, .val (.long (y0 + (0 : Int64))), .second, .val (.long ((0 : Int64) + (y0 + (0 : Int64)))), .second] [(.ref d0), (.long ((0 : Int64) + (y0 + (0 : Int64))))]))
  obtain ⟨T9, X9, e9, st9⟩ := getF X7 hx hZ hown (host := "") (Or.inl (hw _ (List.mem_of_getElem? (i := 66) rfl))) Via.refl e7 F_high_d0 (g := (mkF m 63 #[.val (.ref d0), .val (.ref d1), .val (.long ((0 : Int64) + y1)), .second, .val (.long (0 : Int64)), .second, .val (.long (y0 + (0 : Int64))), .second, .val (.long ((0 : Int64) + (y0 + (0 : Int64)))), .second] [(.ref d0), (.long ((0 : Int64) + (y0 + (0 : Int64))))])) rfl rfl (hb hby d37_63)
  refine Wp.step st9 ?_
  show Wp p e below _ (T9.setTop (mkF m 66 #[.val (.ref d0), .val (.ref d1), .val (.long ((0 : Int64) + y1)), .second, .val (.long (0 : Int64)), .second, .val (.long (y0 + (0 : Int64))), .second, .val (.long ((0 : Int64) + (y0 + (0 : Int64)))), .second] [(.long (0 : Int64)), (.long ((0 : Int64) + (y0 + (0 : Int64))))]))
  obtain ⟨_, _, ⟨T10, L10, k10, n10⟩, -, X10, ⟨Lc10, hQ10, l10, y10, z10⟩, st10⟩ := Jvm.LawKit.callS X9 hx (y := (⟨"java/lang/Long", "compareUnsigned", "(JJ)I"⟩ : MethodName)) hown (mvT hZ (hw _ (List.mem_of_getElem? (i := 182) rfl))) (mvT hZ (hw _ (List.mem_of_getElem? (i := 183) rfl))) (mvT hZ (hw _ (List.mem_of_getElem? (i := 89) rfl))) (mvT hZ (hw _ (List.mem_of_getElem? (i := 184) rfl))) (by decide) (backOf (W := 0) (rm32 l Z a0 hw [] ((0 : Int64) + (y0 + (0 : Int64))) (0 : Int64)  h0 n0 (Nat.le_trans Z0 K0.1)  ) hZ (hw _ (List.mem_of_getElem? (i := 184) rfl)) (hw _ (List.mem_of_getElem? (i := 89) rfl)) (by decide) (by decide)) (g := (mkF m 66 #[.val (.ref d0), .val (.ref d1), .val (.long ((0 : Int64) + y1)), .second, .val (.long (0 : Int64)), .second, .val (.long (y0 + (0 : Int64))), .second, .val (.long ((0 : Int64) + (y0 + (0 : Int64)))), .second] [(.long (0 : Int64)), (.long ((0 : Int64) + (y0 + (0 : Int64))))])) rfl (by rw [hml]; rfl) (argsL := [(.long ((0 : Int64) + (y0 + (0 : Int64)))), (.long (0 : Int64))]) (rest := []) (lenOf pd_28JJ29I rfl) rfl (by show 2 * 0 + _ ≤ _; exact Nat.le_of_eq rfl) (hb hby d37_66) (fun _ _ => ⟨rfl, e9, (by decide : 0 + 0 ≤ _), (by decide : 0 + 0 ≤ _)⟩)
  dsimp only [Pt.U, Pt.locs, Pt.cells, Pt.slots] at X10 l10 y10 z10 st10 hQ10
  subst l10 y10 z10
  obtain ⟨rfl, N10q, e10⟩ := hQ10
  have N10 := Fr.app N4 N10q
  refine Wp.step st10 ?_
  show Wp p e below _ (T10.setTop (mkF m 69 #[.val (.ref d0), .val (.ref d1), .val (.long ((0 : Int64) + y1)), .second, .val (.long (0 : Int64)), .second, .val (.long (y0 + (0 : Int64))), .second, .val (.long ((0 : Int64) + (y0 + (0 : Int64)))), .second] [(.int (own_cu ((0 : Int64) + (y0 + (0 : Int64))) (0 : Int64)))]))
  refine Wp.step (fun t k => XS.ifYes X10.here hx rfl (pc0 := 69) (pc' := 82) rfl (hb hby d37_69) rfl ((if0 _ _).trans (flt (show ¬ ((own_cu ((0 : Int64) + (y0 + (0 : Int64))) (0 : Int64)) < (0 : Int32)) from fun q => Nat.not_lt_zero _ (own_cu_lt.mp q))).2.1) (by decide) (by decide) k) ?_
  show Wp p e below _ (T10.setTop (mkF m 82 #[.val (.ref d0), .val (.ref d1), .val (.long ((0 : Int64) + y1)), .second, .val (.long (0 : Int64)), .second, .val (.long (y0 + (0 : Int64))), .second, .val (.long ((0 : Int64) + (y0 + (0 : Int64)))), .second] []))
  obtain ⟨T12, h12, X12, e12, E12, A12, D12, -, st12⟩ := newO X10 hx hZ hown (hw _ (List.mem_of_getElem? (i := 60) rfl)) (hw _ (List.mem_of_getElem? (i := 61) rfl)) (hw _ (List.mem_of_getElem? (i := 54) rfl)) e10 (g := (mkF m 82 #[.val (.ref d0), .val (.ref d1), .val (.long ((0 : Int64) + y1)), .second, .val (.long (0 : Int64)), .second, .val (.long (y0 + (0 : Int64))), .second, .val (.long ((0 : Int64) + (y0 + (0 : Int64)))), .second] [])) rfl (hb hby d37_82) (by decide) (by decide)
  obtain ⟨b12, g12⟩ : ∃ z, z = h0.size := ⟨_, rfl⟩
  rw [← g12] at A12 D12 st12
  have g_b12 : n0 ≤ b12 := Nat.le_trans (Nat.le_trans Z0 K0.1) (Nat.le_of_eq g12.symm)
  have sz_b12 : h0.size ≤ b12 := Nat.le_trans K0.1 (Nat.le_of_eq g12.symm)
  have ne_d0_b12 : d0 ≠ b12 := Nat.ne_of_lt (Nat.lt_of_lt_of_le E_d0.lt (Nat.le_of_eq g12.symm))
  have ne_d1_b12 : d1 ≠ b12 := Nat.ne_of_lt (Nat.lt_of_lt_of_le E_d1.lt (Nat.le_of_eq g12.symm))
  have c13 := E_d0.ext E12
  have c14 := F_high_d0.ext E12
  have c15 := F_low_d0.ext E12
  have c16 := E_d1.ext E12
  have c17 := F_high_d1.ext E12
  have c18 := F_low_d1.ext E12
  have K19 := K0.ext E12
  have c20 : Fld Z h12 b12 "com/example/gentle_bucket/gentlebucket/Uint128" "high" "J" (.long (0 : Int64)) := D12 (Or.inr (hw _ (List.mem_of_getElem? (i := 67) rfl))) (ty := .long) (by decide)
  have c21 : Fld Z h12 b12 "com/example/gentle_bucket/gentlebucket/Uint128" "low" "J" (.long (0 : Int64)) := D12 (Or.inr (hw _ (List.mem_of_getElem? (i := 69) rfl))) (ty := .long) (by decide)
  refine Wp.step st12 ?_
  show Wp p e below _ (T12.setTop (mkF m 85 #[.val (.ref d0), .val (.ref d1), .val (.long ((0 : Int64) + y1)), .second, .val (.long (0 : Int64)), .second, .val (.long (y0 + (0 : Int64))), .second, .val (.long ((0 : Int64) + (y0 + (0 : Int64)))), .second] [(.ref b12)]))
  refine Wp.step (fun t k => XS.dup X12.here hx rfl (hb hby d37_85) rfl rfl k) ?_
  show Wp p e below _ (T12.setTop (mkF m 86 #[.val (.ref d0), .val (.ref d1), .val (.long ((0 : Int64) + y1)), .second, .val (.long (0 : Int64)), .second, .val (.long (y0 + (0 : Int64))), .second, .val (.long ((0 : Int64) + (y0 + (0 : Int64)))), .second] [(.ref b12), (.ref b12)]))
  refine Wp.step (fun t k => XS.lload X12.here hx rfl (hb hby d37_86) rfl k) ?_
  show Wp p e below _ (T12.setTop (mkF m 88 #[.val (.ref d0), .val (.ref d1), .val (.long ((0 : Int64) + y1)), .second, .val (.long (0 : Int64)), .second, .val (.long (y0 + (0 : Int64))), .second, .val (.long ((0 : Int64) + (y0 + (0 : Int64)))), .second] [(.long ((0 : Int64) + (y0 + (0 : Int64)))), (.ref b12), (.ref b12)]))
  refine Wp.step (fun t k => XS.lloadN X12.here hx rfl (hb hby d37_88) rfl k) ?_
  show Wp p e below _ (T12.setTop (mkF m 89 #[.val (.ref d0), .val (.ref d1), .val (.long ((0 : Int64) + y1)), .second, .val (.long (0 : Int64)), .second, .val (.long (y0 + (0 : Int64))), .second, .val (.long ((0 : Int64) + (y0 + (0 : Int64)))), .second] [(.long ((0 : Int64) + y1)), (.long ((0 : Int64) + (y0 + (0 : Int64)))), (.ref b12), (.ref b12)]))
  obtain ⟨_, _, ⟨T22, L22, k22, n22⟩, -, X22, ⟨Lc22, hQ22, l22, y22, z22⟩, st22⟩ := X12.specialBack hx (y := (⟨"com/example/gentle_bucket/gentlebucket/Uint128", "<init>", "(JJ)V"⟩ : MethodName)) rfl hown (mvT hZ (hw _ (List.mem_of_getElem? (i := 62) rfl))) (mvT hZ (hw _ (List.mem_of_getElem? (i := 63) rfl))) (mvT hZ (hw _ (List.mem_of_getElem? (i := 64) rfl))) (by decide) (backOf (W := 1) (rm11 l Z a0 hw [] b12 ((0 : Int64) + (y0 + (0 : Int64))) ((0 : Int64) + y1) (0 : Int64) (0 : Int64) h12 n0 (Nat.le_trans Z0 K19.1) g_b12 A12 c20 c21 ) hZ (hw _ (List.mem_of_getElem? (i := 64) rfl)) (hw _ (List.mem_of_getElem? (i := 54) rfl)) (by decide) (by decide)) (g := (mkF m 89 #[.val (.ref d0), .val (.ref d1), .val (.long ((0 : Int64) + y1)), .second, .val (.long (0 : Int64)), .second, .val (.long (y0 + (0 : Int64))), .second, .val (.long ((0 : Int64) + (y0 + (0 : Int64)))), .second] [(.long ((0 : Int64) + y1)), (.long ((0 : Int64) + (y0 + (0 : Int64)))), (.ref b12), (.ref b12)])) rfl (by rw [hml]; rfl) (Steps.refl _) (a := b12) (argsL := [(.long ((0 : Int64) + (y0 + (0 : Int64)))), (.long ((0 : Int64) + y1))]) (rest := [(.ref b12)]) (lenOf pd_28JJ29V rfl) rfl (by show 2 * 0 + _ ≤ _; exact Nat.le_of_eq rfl) (hb hby d37_89) (fun _ _ => ⟨rfl, e12, (by decide : 1 + 0 ≤ _), (by decide : 2 + 0 ≤ _)⟩)
  dsimp only [Pt.U, Pt.locs, Pt.cells, Pt.slots] at X22 l22 y22 z22 st22 hQ22
  subst l22 y22 z22
  obtain ⟨h22, e22⟩ : ∃ z, T22.heap = z := ⟨_, rfl⟩
  rw [e22] at hQ22
  obtain ⟨rfl, N22q, Kc22, o22_0, o22_1, o22_2⟩ := hQ22
  have N22 := Fr.app N10 N22q
  have c23 := c13.keep Kc22
  have c24 := c14.keep Kc22 (ninS ne_d0_b12 nin0)
  have c25 := c15.keep Kc22 (ninS ne_d0_b12 nin0)
  have c26 := c16.keep Kc22
  have c27 := c17.keep Kc22 (ninS ne_d1_b12 nin0)
  have c28 := c18.keep Kc22 (ninS ne_d1_b12 nin0)
  have c29 := A12.keep Kc22
  have K22 := K19.trans Kc22 (allS (Or.inr sz_b12) all0)
  refine Wp.go st22 ?_
  show Wp p e below _ (T22.setTop (mkF m 92 #[.val (.ref d0), .val (.ref d1), .val (.long ((0 : Int64) + y1)), .second, .val (.long (0 : Int64)), .second, .val (.long (y0 + (0 : Int64))), .second, .val (.long ((0 : Int64) + (y0 + (0 : Int64)))), .second] [(.ref b12)]))
  refine Wp.retA X22 hx Bd.returns rfl (hb hby d37_92) hlk ?_ (by decide) (by decide)
  show Q37 Z d0 d1 y0 y1 h0 n0 (some (.ref b12)) T22.heap _
  rw [e22]
  exact ⟨b12, rfl, N22, K22, sz_b12, o22_0, (by have q := o22_1; rw [own_z] at q; exact q), (by have q := o22_2; rw [Int64.zero_add] at q; exact q)⟩
theorem d16_0 : decode prog_17_method_12_code 0 = .ok (.aload_n 0, 1) := by decide +kernel
theorem d16_1 : decode prog_17_method_12_code 1 = .ok (.getfield 7, 3) := by decide +kernel
theorem d16_4 : decode prog_17_method_12_code 4 = .ok (.lconst 0, 1) := by decide +kernel
theorem d16_5 : decode prog_17_method_12_code 5 = .ok (.lcmp, 1) := by decide +kernel
theorem d16_6 : decode prog_17_method_12_code 6 = .ok (.ifCond .ne 19, 3) := by decide +kernel
theorem d16_9 : decode prog_17_method_12_code 9 = .ok (.aload_n 0, 1) := by decide +kernel
theorem d16_10 : decode prog_17_method_12_code 10 = .ok (.getfield 13, 3) := by decide +kernel
theorem d16_13 : decode prog_17_method_12_code 13 = .ok (.lconst 0, 1) := by decide +kernel
theorem d16_14 : decode prog_17_method_12_code 14 = .ok (.lcmp, 1) := by decide +kernel
theorem d16_15 : decode prog_17_method_12_code 15 = .ok (.ifCond .lt 10, 3) := by decide +kernel
theorem d16_18 : decode prog_17_method_12_code 18 = .ok (.aload_n 0, 1) := by decide +kernel
theorem d16_19 : decode prog_17_method_12_code 19 = .ok (.getfield 13, 3) := by decide +kernel
theorem d16_22 : decode prog_17_method_12_code 22 = .ok (.goto 6, 3) := by decide +kernel
theorem d16_28 : decode prog_17_method_12_code 28 = .ok (.lreturn, 1) := by decide +kernel
theorem ef_16_0 (m : MethodId) (x0 : Addr) : entryFrame m #[(.ref x0)] 1 = mkF m 0 #[.val (.ref x0)] [] := by first | (simp [entryFrame, mkF, argsToLocals, Value.category]; done) | rfl
def Q16 (Z : State) (d0 : Addr) (x0 : Int64) (x1 : Int64) (h0 : Heap) (n0 : Nat) (v : Option Value) (h : Heap) (L : List Loc) : Prop := v = some (.long x1) ∧ Fr n0 L ∧ h = h0
set_option maxRecDepth 65536 in
set_option maxHeartbeats 40000000 in
theorem rm16 (l : Launch) (Z : State) (a0 : Array Value) (hw : ∀ d ∈ tables_1, d.before a0 Z = true) (ws : List Jvm.Cond) (d0 : Addr) (x0 : Int64) (x1 : Int64) (h0 : Heap) (n0 : Nat) (Z0 : n0 ≤ h0.size) (E_d0 : Exa Z h0 d0 "com/example/gentle_bucket/gentlebucket/Uint128") (F_high_d0 : Fld Z h0 d0 "com/example/gentle_bucket/gentlebucket/Uint128" "high" "J" (.long x0)) (F_low_d0 : Fld Z h0 d0 "com/example/gentle_bucket/gentlebucket/Uint128" "low" "J" (.long x1)) (h0z : x0 = 0) (h1n : ¬ x1 < 0) :
    MetFree l (⟨"com/example/gentle_bucket/gentlebucket/Uint128", "toLongSaturated", "()J"⟩ : MethodName) (head1 (Jvm.Cond.code (⟨"com/example/gentle_bucket/gentlebucket/Uint128", "toLongSaturated", "()J"⟩ : MethodName) prog_17_method_12_code 1 (some .long) :: ws) ({ frames := 0, cells := 0, slots := 0, locals := 0 } : Room)) (fun a U => a = #[(.ref d0)] ∧ Z.Warmed39 U.vm ∧ U.heap = h0) (fun _ _ _ _ _ => True) (fun _ U o U' => ∃ v L, o = .returned v ∧ Q16 Z d0 x0 x1 h0 n0 v U'.heap L ∧ FrameEnd U o U' L ({ frames := 0, cells := 0, slots := 0, locals := 0 } : Room).cells ({ frames := 0, cells := 0, slots := 0, locals := 0 } : Room).slots) := by
  refine MetFree.of_bodySF (plainFor_of_name pn_com_example_gentle_bucket_gentlebucket_Uint128) hisR ?_
  intro p e s m args below meth c s₁ Bd hml0 hP hK
  obtain ⟨rfl, hZ, hh⟩ := hP
  have hx := Bd.exec
  have hby := Bd.bytes
  have hlk : meth.locks = false := Bd.notSynchronized
  have hml : c.maxLocals = 1 := hml0
  have hown : s.vm.findClass "com/example/gentle_bucket/gentlebucket/Uint128" = some m.cls := findClass_of_methodNamed Bd.named
  have hnm := (name_of_methodNamed Bd.named Bd.method).1
  have X0 : Stand p l e ({ frames := 0, cells := 0, slots := 0, locals := 0 } : Room) s m #[(.ref d0)] below meth c s₁ [] 0 0 := Stand.of_body Bd
  have e0 : s₁.heap = h0 := by rw [← hh, Bd.state]; rfl
  have N0 := Fr.nil n0
  have K0 : Keep h0 h0 [] := Keep.refl h0 _
  show Wp p e below (Out s (Q16 Z d0 x0 x1 h0 n0) ({ frames := 0, cells := 0, slots := 0, locals := 0 } : Room).cells ({ frames := 0, cells := 0, slots := 0, locals := 0 } : Room).slots) (s₁.setTop (entryFrame m #[(.ref d0)] 1))
  rw [ef_16_0]
  show Wp p e below _ (s₁.setTop (mkF m 0 #[.val (.ref d0)] []))
  refine Wp.step (fun t k => XS.aloadN X0.here hx rfl (hb hby d16_0) rfl rfl k) ?_
  show Wp p e below _ (s₁.setTop (mkF m 1 #[.val (.ref d0)] [(.ref d0)]))
  obtain ⟨T1, X1, e1, st1⟩ := getF X0 hx hZ hown (host := "") (Or.inl (hw _ (List.mem_of_getElem? (i := 66) rfl))) Via.refl e0 F_high_d0 (g := (mkF m 1 #[.val (.ref d0)] [(.ref d0)])) rfl rfl (hb hby d16_1)
  refine Wp.step st1 ?_
  show Wp p e below _ (T1.setTop (mkF m 4 #[.val (.ref d0)] [(.long x0)]))
  refine Wp.step (fun t k => XS.lconst X1.here hx rfl (hb hby d16_4) k) ?_
  show Wp p e below _ (T1.setTop (mkF m 5 #[.val (.ref d0)] [(.long (0 : Int64)), (.long x0)]))
  refine Wp.step (fun t k => XS.lcmp X1.here hx rfl (hb hby d16_5) rfl k) ?_
  show Wp p e below _ (T1.setTop (mkF m 6 #[.val (.ref d0)] [(.int (lcmpW x0 (0 : Int64)))]))
  refine Wp.step (fun t k => XS.ifNo X1.here hx rfl (hb hby d16_6) rfl ((if0 _ _).trans (teq (show (lcmpW x0 (0 : Int64)) = (0 : Int32) from (lw_eq _ _).mpr h0z)).2) k) ?_
  show Wp p e below _ (T1.setTop (mkF m 9 #[.val (.ref d0)] []))
  refine Wp.step (fun t k => XS.aloadN X1.here hx rfl (hb hby d16_9) rfl rfl k) ?_
  show Wp p e below _ (T1.setTop (mkF m 10 #[.val (.ref d0)] [(.ref d0)]))
  obtain ⟨T3, X3, e3, st3⟩ := getF X1 hx hZ hown (host := "") (Or.inl (hw _ (List.mem_of_getElem? (i := 68) rfl))) Via.refl e1 F_low_d0 (g := (mkF m 10 #[.val (.ref d0)] [(.ref d0)])) rfl rfl (hb hby d16_10)
  refine Wp.step st3 ?_
  show Wp p e below _ (T3.setTop (mkF m 13 #[.val (.ref d0)] [(.long x1)]))
  refine Wp.step (fun t k => XS.lconst X3.here hx rfl (hb hby d16_13) k) ?_
  show Wp p e below _ (T3.setTop (mkF m 14 #[.val (.ref d0)] [(.long (0 : Int64)), (.long x1)]))
  refine Wp.step (fun t k => XS.lcmp X3.here hx rfl (hb hby d16_14) rfl k) ?_
  show Wp p e below _ (T3.setTop (mkF m 15 #[.val (.ref d0)] [(.int (lcmpW x1 (0 : Int64)))]))
  refine Wp.step (fun t k => XS.ifNo X3.here hx rfl (hb hby d16_15) rfl ((if0 _ _).trans (flt (show ¬ ((lcmpW x1 (0 : Int64)) < (0 : Int32)) from fun q => h1n ((lw_lt _ _).mp q))).1) k) ?_
  show Wp p e below _ (T3.setTop (mkF m 18 #[.val (.ref d0)] []))
  refine Wp.step (fun t k => XS.aloadN X3.here hx rfl (hb hby d16_18) rfl rfl k) ?_
  show Wp p e below _ (T3.setTop (mkF m 19 #[.val (.ref d0)] [(.ref d0)]))
  obtain ⟨T5, X5, e5, st5⟩ := getF X3 hx hZ hown (host := "") (Or.inl (hw _ (List.mem_of_getElem? (i := 68) rfl))) Via.refl e3 F_low_d0 (g := (mkF m 19 #[.val (.ref d0)] [(.ref d0)])) rfl rfl (hb hby d16_19)
  refine Wp.step st5 ?_
  show Wp p e below _ (T5.setTop (mkF m 22 #[.val (.ref d0)] [(.long x1)]))
  refine Wp.step (fun t k => XS.goto X5.here hx rfl (pc0 := 22) (pc' := 28) rfl (hb hby d16_22) (by decide) (by decide) k) ?_
  show Wp p e below _ (T5.setTop (mkF m 28 #[.val (.ref d0)] [(.long x1)]))
  refine Wp.retJ X5 hx Bd.returns (hb hby d16_28) hlk ?_ (by decide) (by decide)
  show Q16 Z d0 x0 x1 h0 n0 (some (.long x1)) T5.heap _
  rw [e5]
  exact ⟨rfl, N0, rfl⟩
theorem own_dec {hi lo d : Int64} {j : Int32} {r q : Int64} (I : own_inv hi lo d j r q) (hj : ¬ j < 0) : ((j + (-1 : Int32)).toInt + 1).toNat < (j.toInt + 1).toNat := by
  have i2 := I.2.1
  rw [Int32.lt_iff_toInt_lt] at hj
  simp only [Int32.reduceToInt] at hj
  have ej : (j + (-1 : Int32)).toInt = j.toInt - 1 := by
    rw [Int32.toInt_add, show (-1 : Int32).toInt = -1 by decide]
    exact Int.bmod_eq_of_le (by omega) (by omega)
  rw [ej]; omega
theorem d14_0 : decode prog_17_method_10_code 0 = .ok (.lload_n 1, 1) := by decide +kernel
theorem d14_1 : decode prog_17_method_10_code 1 = .ok (.lconst 1, 1) := by decide +kernel
theorem d14_2 : decode prog_17_method_10_code 2 = .ok (.lcmp, 1) := by decide +kernel
theorem d14_3 : decode prog_17_method_10_code 3 = .ok (.ifCond .ge 17, 3) := by decide +kernel
theorem d14_20 : decode prog_17_method_10_code 20 = .ok (.aload_n 0, 1) := by decide +kernel
theorem d14_21 : decode prog_17_method_10_code 21 = .ok (.getfield 7, 3) := by decide +kernel
theorem d14_24 : decode prog_17_method_10_code 24 = .ok (.lconst 0, 1) := by decide +kernel
theorem d14_25 : decode prog_17_method_10_code 25 = .ok (.lcmp, 1) := by decide +kernel
theorem d14_26 : decode prog_17_method_10_code 26 = .ok (.ifCond .ne 7, 3) := by decide +kernel
theorem d14_29 : decode prog_17_method_10_code 29 = .ok (.lconst 0, 1) := by decide +kernel
theorem d14_30 : decode prog_17_method_10_code 30 = .ok (.goto 11, 3) := by decide +kernel
theorem d14_33 : decode prog_17_method_10_code 33 = .ok (.aload_n 0, 1) := by decide +kernel
theorem d14_34 : decode prog_17_method_10_code 34 = .ok (.getfield 7, 3) := by decide +kernel
theorem d14_37 : decode prog_17_method_10_code 37 = .ok (.lload_n 1, 1) := by decide +kernel
theorem d14_38 : decode prog_17_method_10_code 38 = .ok (.invokestatic 55, 3) := by decide +kernel
theorem d14_41 : decode prog_17_method_10_code 41 = .ok (.lstore 4, 2) := by decide +kernel
theorem d14_43 : decode prog_17_method_10_code 43 = .ok (.aload_n 0, 1) := by decide +kernel
theorem d14_44 : decode prog_17_method_10_code 44 = .ok (.getfield 7, 3) := by decide +kernel
theorem d14_47 : decode prog_17_method_10_code 47 = .ok (.lload 4, 2) := by decide +kernel
theorem d14_49 : decode prog_17_method_10_code 49 = .ok (.lload_n 1, 1) := by decide +kernel
theorem d14_50 : decode prog_17_method_10_code 50 = .ok (.lmul, 1) := by decide +kernel
theorem d14_51 : decode prog_17_method_10_code 51 = .ok (.lsub, 1) := by decide +kernel
theorem d14_52 : decode prog_17_method_10_code 52 = .ok (.lstore 6, 2) := by decide +kernel
theorem d14_54 : decode prog_17_method_10_code 54 = .ok (.lload 6, 2) := by decide +kernel
theorem d14_56 : decode prog_17_method_10_code 56 = .ok (.lconst 0, 1) := by decide +kernel
theorem d14_57 : decode prog_17_method_10_code 57 = .ok (.lcmp, 1) := by decide +kernel
theorem d14_58 : decode prog_17_method_10_code 58 = .ok (.ifCond .ne 27, 3) := by decide +kernel
theorem d14_61 : decode prog_17_method_10_code 61 = .ok (.aload_n 0, 1) := by decide +kernel
theorem d14_62 : decode prog_17_method_10_code 62 = .ok (.getfield 13, 3) := by decide +kernel
theorem d14_65 : decode prog_17_method_10_code 65 = .ok (.lload_n 1, 1) := by decide +kernel
theorem d14_66 : decode prog_17_method_10_code 66 = .ok (.invokestatic 55, 3) := by decide +kernel
theorem d14_69 : decode prog_17_method_10_code 69 = .ok (.lstore 8, 2) := by decide +kernel
theorem d14_71 : decode prog_17_method_10_code 71 = .ok (.aload_n 0, 1) := by decide +kernel
theorem d14_72 : decode prog_17_method_10_code 72 = .ok (.getfield 13, 3) := by decide +kernel
theorem d14_75 : decode prog_17_method_10_code 75 = .ok (.lload 8, 2) := by decide +kernel
theorem d14_77 : decode prog_17_method_10_code 77 = .ok (.lload_n 1, 1) := by decide +kernel
theorem d14_78 : decode prog_17_method_10_code 78 = .ok (.lmul, 1) := by decide +kernel
theorem d14_79 : decode prog_17_method_10_code 79 = .ok (.lsub, 1) := by decide +kernel
theorem d14_80 : decode prog_17_method_10_code 80 = .ok (.lstore 6, 2) := by decide +kernel
theorem d14_82 : decode prog_17_method_10_code 82 = .ok (.goto 64, 3) := by decide +kernel
theorem d14_85 : decode prog_17_method_10_code 85 = .ok (.lconst 0, 1) := by decide +kernel
theorem d14_86 : decode prog_17_method_10_code 86 = .ok (.lstore 8, 2) := by decide +kernel
theorem d14_88 : decode prog_17_method_10_code 88 = .ok (.bipush 63, 2) := by decide +kernel
theorem d14_90 : decode prog_17_method_10_code 90 = .ok (.istore 10, 2) := by decide +kernel
theorem d14_92 : decode prog_17_method_10_code 92 = .ok (.iload 10, 2) := by decide +kernel
theorem d14_94 : decode prog_17_method_10_code 94 = .ok (.ifCond .lt 52, 3) := by decide +kernel
theorem d14_97 : decode prog_17_method_10_code 97 = .ok (.lload 6, 2) := by decide +kernel
theorem d14_99 : decode prog_17_method_10_code 99 = .ok (.iconst 1, 1) := by decide +kernel
theorem d14_100 : decode prog_17_method_10_code 100 = .ok (.lshl, 1) := by decide +kernel
theorem d14_101 : decode prog_17_method_10_code 101 = .ok (.aload_n 0, 1) := by decide +kernel
theorem d14_102 : decode prog_17_method_10_code 102 = .ok (.getfield 13, 3) := by decide +kernel
theorem d14_105 : decode prog_17_method_10_code 105 = .ok (.iload 10, 2) := by decide +kernel
theorem d14_107 : decode prog_17_method_10_code 107 = .ok (.lushr, 1) := by decide +kernel
theorem d14_108 : decode prog_17_method_10_code 108 = .ok (.lconst 1, 1) := by decide +kernel
theorem d14_109 : decode prog_17_method_10_code 109 = .ok (.land, 1) := by decide +kernel
theorem d14_110 : decode prog_17_method_10_code 110 = .ok (.lor, 1) := by decide +kernel
theorem d14_111 : decode prog_17_method_10_code 111 = .ok (.lstore 6, 2) := by decide +kernel
theorem d14_113 : decode prog_17_method_10_code 113 = .ok (.lload 8, 2) := by decide +kernel
theorem d14_115 : decode prog_17_method_10_code 115 = .ok (.iconst 1, 1) := by decide +kernel
theorem d14_116 : decode prog_17_method_10_code 116 = .ok (.lshl, 1) := by decide +kernel
theorem d14_117 : decode prog_17_method_10_code 117 = .ok (.lstore 8, 2) := by decide +kernel
theorem d14_119 : decode prog_17_method_10_code 119 = .ok (.lload 6, 2) := by decide +kernel
theorem d14_121 : decode prog_17_method_10_code 121 = .ok (.lload_n 1, 1) := by decide +kernel
theorem d14_122 : decode prog_17_method_10_code 122 = .ok (.invokestatic 25, 3) := by decide +kernel
theorem d14_125 : decode prog_17_method_10_code 125 = .ok (.ifCond .lt 15, 3) := by decide +kernel
theorem d14_128 : decode prog_17_method_10_code 128 = .ok (.lload 6, 2) := by decide +kernel
theorem d14_130 : decode prog_17_method_10_code 130 = .ok (.lload_n 1, 1) := by decide +kernel
theorem d14_131 : decode prog_17_method_10_code 131 = .ok (.lsub, 1) := by decide +kernel
theorem d14_132 : decode prog_17_method_10_code 132 = .ok (.lstore 6, 2) := by decide +kernel
theorem d14_134 : decode prog_17_method_10_code 134 = .ok (.lload 8, 2) := by decide +kernel
theorem d14_136 : decode prog_17_method_10_code 136 = .ok (.lconst 1, 1) := by decide +kernel
theorem d14_137 : decode prog_17_method_10_code 137 = .ok (.lor, 1) := by decide +kernel
theorem d14_138 : decode prog_17_method_10_code 138 = .ok (.lstore 8, 2) := by decide +kernel
theorem d14_140 : decode prog_17_method_10_code 140 = .ok (.iinc 10 (-1), 3) := by decide +kernel
theorem d14_143 : decode prog_17_method_10_code 143 = .ok (.goto (-51), 3) := by decide +kernel
theorem d14_146 : decode prog_17_method_10_code 146 = .ok (.new 8, 3) := by decide +kernel
theorem d14_149 : decode prog_17_method_10_code 149 = .ok (.dup, 1) := by decide +kernel
theorem d14_150 : decode prog_17_method_10_code 150 = .ok (.lload 4, 2) := by decide +kernel
theorem d14_152 : decode prog_17_method_10_code 152 = .ok (.lload 8, 2) := by decide +kernel
theorem d14_154 : decode prog_17_method_10_code 154 = .ok (.invokespecial 16, 3) := by decide +kernel
theorem d14_157 : decode prog_17_method_10_code 157 = .ok (.astore 10, 2) := by decide +kernel
theorem d14_159 : decode prog_17_method_10_code 159 = .ok (.lload 6, 2) := by decide +kernel
theorem d14_161 : decode prog_17_method_10_code 161 = .ok (.lconst 0, 1) := by decide +kernel
theorem d14_162 : decode prog_17_method_10_code 162 = .ok (.lcmp, 1) := by decide +kernel
theorem d14_163 : decode prog_17_method_10_code 163 = .ok (.ifCond .eq 7, 3) := by decide +kernel
theorem d14_166 : decode prog_17_method_10_code 166 = .ok (.iload_n 3, 1) := by decide +kernel
theorem d14_167 : decode prog_17_method_10_code 167 = .ok (.ifCond .ne 8, 3) := by decide +kernel
theorem d14_170 : decode prog_17_method_10_code 170 = .ok (.aload 10, 2) := by decide +kernel
theorem d14_172 : decode prog_17_method_10_code 172 = .ok (.goto 11, 3) := by decide +kernel
theorem d14_183 : decode prog_17_method_10_code 183 = .ok (.areturn, 1) := by decide +kernel
theorem ef_14_000 (m : MethodId) (x0 : Addr) (x1 : Int64) (x2 : Int32) : entryFrame m #[(.ref x0), (.long x1), (.int x2)] 11 = mkF m 0 #[.val (.ref x0), .val (.long x1), .second, .val (.int x2), .unset, .unset, .unset, .unset, .unset, .unset, .unset] [] := by first | (simp [entryFrame, mkF, argsToLocals, Value.category]; done) | rfl
def Q14 (Z : State) (d0 : Addr) (u0 : Int64) (u1 : Int32) (x0 : Int64) (x1 : Int64) (b0 : Int64) (h0 : Heap) (n0 : Nat) (v : Option Value) (h : Heap) (L : List Loc) : Prop := ∃ (r0 : Addr), v = some (.ref r0) ∧ Fr n0 L ∧ Keep h0 h [] ∧ h0.size ≤ r0 ∧ Exa Z h r0 "com/example/gentle_bucket/gentlebucket/Uint128" ∧ Fld Z h r0 "com/example/gentle_bucket/gentlebucket/Uint128" "high" "J" (.long (0 : Int64)) ∧ Fld Z h r0 "com/example/gentle_bucket/gentlebucket/Uint128" "low" "J" (.long b0)
set_option maxRecDepth 65536 in
set_option maxHeartbeats 40000000 in
theorem rm14 (l : Launch) (Z : State) (a0 : Array Value) (hw : ∀ d ∈ tables_1, d.before a0 Z = true) (ws : List Jvm.Cond) (d0 : Addr) (u0 : Int64) (u1 : Int32) (x0 : Int64) (x1 : Int64) (b0 : Int64) (h0 : Heap) (n0 : Nat) (Z0 : n0 ≤ h0.size) (E_d0 : Exa Z h0 d0 "com/example/gentle_bucket/gentlebucket/Uint128") (F_high_d0 : Fld Z h0 d0 "com/example/gentle_bucket/gentlebucket/Uint128" "high" "J" (.long x0)) (F_low_d0 : Fld Z h0 d0 "com/example/gentle_bucket/gentlebucket/Uint128" "low" "J" (.long x1)) (hd : ¬ u0 < 1) (hbb : ¬ b0 < 1) (hU : own_U x0 x1 = own_u b0 * own_u u0) (hu1 : u1 = 0) :
    MetFree l (⟨"com/example/gentle_bucket/gentlebucket/Uint128", "divided", "(JZ)Lcom/example/gentle_bucket/gentlebucket/Uint128;"⟩ : MethodName) (head1 (Jvm.Cond.code (⟨"com/example/gentle_bucket/gentlebucket/Uint128", "divided", "(JZ)Lcom/example/gentle_bucket/gentlebucket/Uint128;"⟩ : MethodName) prog_17_method_10_code 11 (some (.object "com/example/gentle_bucket/gentlebucket/Uint128")) :: ws) ({ frames := 2, cells := 1, slots := 2, locals := 30 } : Room)) (fun a U => a = #[(.ref d0), (.long u0), (.int u1)] ∧ Z.Warmed39 U.vm ∧ U.heap = h0) (fun _ _ _ _ _ => True) (fun _ U o U' => ∃ v L, o = .returned v ∧ Q14 Z d0 u0 u1 x0 x1 b0 h0 n0 v U'.heap L ∧ FrameEnd U o U' L ({ frames := 2, cells := 1, slots := 2, locals := 30 } : Room).cells ({ frames := 2, cells := 1, slots := 2, locals := 30 } : Room).slots) := by
  refine MetFree.of_bodySF (plainFor_of_name pn_com_example_gentle_bucket_gentlebucket_Uint128) hisR ?_
  intro p e s m args below meth c s₁ Bd hml0 hP hK
  obtain ⟨rfl, hZ, hh⟩ := hP
  have hx := Bd.exec
  have hby := Bd.bytes
  have hlk : meth.locks = false := Bd.notSynchronized
  have hml : c.maxLocals = 11 := hml0
  have hown : s.vm.findClass "com/example/gentle_bucket/gentlebucket/Uint128" = some m.cls := findClass_of_methodNamed Bd.named
  have hnm := (name_of_methodNamed Bd.named Bd.method).1
  have X0 : Stand p l e ({ frames := 2, cells := 1, slots := 2, locals := 30 } : Room) s m #[(.ref d0), (.long u0), (.int u1)] below meth c s₁ [] 0 0 := Stand.of_body Bd
  have e0 : s₁.heap = h0 := by rw [← hh, Bd.state]; rfl
  have N0 := Fr.nil n0
  have K0 : Keep h0 h0 [] := Keep.refl h0 _
  show Wp p e below (Out s (Q14 Z d0 u0 u1 x0 x1 b0 h0 n0) ({ frames := 2, cells := 1, slots := 2, locals := 30 } : Room).cells ({ frames := 2, cells := 1, slots := 2, locals := 30 } : Room).slots) (s₁.setTop (entryFrame m #[(.ref d0), (.long u0), (.int u1)] 11))
  rw [ef_14_000]
  have hu1 := hu1; subst hu1
  show Wp p e below _ (s₁.setTop (mkF m 0 #[.val (.ref d0), .val (.long u0), .second, .val (.int (0 : Int32)), .unset, .unset, .unset, .unset, .unset, .unset, .unset] []))
  refine Wp.step (fun t k => XS.lloadN X0.here hx rfl (hb hby d14_0) rfl k) ?_
  show Wp p e below _ (s₁.setTop (mkF m 1 #[.val (.ref d0), .val (.long u0), .second, .val (.int (0 : Int32)), .unset, .unset, .unset, .unset, .unset, .unset, .unset] [(.long u0)]))
  refine Wp.step (fun t k => XS.lconst X0.here hx rfl (hb hby d14_1) k) ?_
  show Wp p e below _ (s₁.setTop (mkF m 2 #[.val (.ref d0), .val (.long u0), .second, .val (.int (0 : Int32)), .unset, .unset, .unset, .unset, .unset, .unset, .unset] [(.long (1 : Int64)), (.long u0)]))
  refine Wp.step (fun t k => XS.lcmp X0.here hx rfl (hb hby d14_2) rfl k) ?_
  show Wp p e below _ (s₁.setTop (mkF m 3 #[.val (.ref d0), .val (.long u0), .second, .val (.int (0 : Int32)), .unset, .unset, .unset, .unset, .unset, .unset, .unset] [(.int (lcmpW u0 (1 : Int64)))]))
  refine Wp.step (fun t k => XS.ifYes X0.here hx rfl (pc0 := 3) (pc' := 20) rfl (hb hby d14_3) rfl ((if0 _ _).trans (flt (show ¬ ((lcmpW u0 (1 : Int64)) < (0 : Int32)) from fun q => hd ((lw_lt _ _).mp q))).2.1) (by decide) (by decide) k) ?_
  show Wp p e below _ (s₁.setTop (mkF m 20 #[.val (.ref d0), .val (.long u0), .second, .val (.int (0 : Int32)), .unset, .unset, .unset, .unset, .unset, .unset, .unset] []))
  refine Wp.step (fun t k => XS.aloadN X0.here hx rfl (hb hby d14_20) rfl rfl k) ?_
  show Wp p e below _ (s₁.setTop (mkF m 21 #[.val (.ref d0), .val (.long u0), .second, .val (.int (0 : Int32)), .unset, .unset, .unset, .unset, .unset, .unset, .unset] [(.ref d0)]))
  obtain ⟨T2, X2, e2, st2⟩ := getF X0 hx hZ hown (host := "") (Or.inl (hw _ (List.mem_of_getElem? (i := 66) rfl))) Via.refl e0 F_high_d0 (g := (mkF m 21 #[.val (.ref d0), .val (.long u0), .second, .val (.int (0 : Int32)), .unset, .unset, .unset, .unset, .unset, .unset, .unset] [(.ref d0)])) rfl rfl (hb hby d14_21)
  refine Wp.step st2 ?_
  show Wp p e below _ (T2.setTop (mkF m 24 #[.val (.ref d0), .val (.long u0), .second, .val (.int (0 : Int32)), .unset, .unset, .unset, .unset, .unset, .unset, .unset] [(.long x0)]))
  refine Wp.step (fun t k => XS.lconst X2.here hx rfl (hb hby d14_24) k) ?_
  show Wp p e below _ (T2.setTop (mkF m 25 #[.val (.ref d0), .val (.long u0), .second, .val (.int (0 : Int32)), .unset, .unset, .unset, .unset, .unset, .unset, .unset] [(.long (0 : Int64)), (.long x0)]))
  refine Wp.step (fun t k => XS.lcmp X2.here hx rfl (hb hby d14_25) rfl k) ?_
  show Wp p e below _ (T2.setTop (mkF m 26 #[.val (.ref d0), .val (.long u0), .second, .val (.int (0 : Int32)), .unset, .unset, .unset, .unset, .unset, .unset, .unset] [(.int (lcmpW x0 (0 : Int64)))]))
  by_cases hc3 : (lcmpW x0 (0 : Int64)) = (0 : Int32)
  · have hc3n := (lw_eq _ _).mp hc3
    refine Wp.step (fun t k => XS.ifNo X2.here hx rfl (hb hby d14_26) rfl ((if0 _ _).trans (teq hc3).2) k) ?_
    show Wp p e below _ (T2.setTop (mkF m 29 #[.val (.ref d0), .val (.long u0), .second, .val (.int (0 : Int32)), .unset, .unset, .unset, .unset, .unset, .unset, .unset] []))
    refine Wp.step (fun t k => XS.lconst X2.here hx rfl (hb hby d14_29) k) ?_
    show Wp p e below _ (T2.setTop (mkF m 30 #[.val (.ref d0), .val (.long u0), .second, .val (.int (0 : Int32)), .unset, .unset, .unset, .unset, .unset, .unset, .unset] [(.long (0 : Int64))]))
    refine Wp.step (fun t k => XS.goto X2.here hx rfl (pc0 := 30) (pc' := 41) rfl (hb hby d14_30) (by decide) (by decide) k) ?_
    show Wp p e below _ (T2.setTop (mkF m 41 #[.val (.ref d0), .val (.long u0), .second, .val (.int (0 : Int32)), .unset, .unset, .unset, .unset, .unset, .unset, .unset] [(.long (0 : Int64))]))
    refine Wp.step (fun t k => XS.lstore X2.here hx rfl (hb hby d14_41) rfl (l' := #[.val (.ref d0), .val (.long u0), .second, .val (.int (0 : Int32)), .val (.long (0 : Int64)), .second, .unset, .unset, .unset, .unset, .unset]) rfl k) ?_
    show Wp p e below _ (T2.setTop (mkF m 43 #[.val (.ref d0), .val (.long u0), .second, .val (.int (0 : Int32)), .val (.long (0 : Int64)), .second, .unset, .unset, .unset, .unset, .unset] []))
    refine Wp.step (fun t k => XS.aloadN X2.here hx rfl (hb hby d14_43) rfl rfl k) ?_
    show Wp p e below _ (T2.setTop (mkF m 44 #[.val (.ref d0), .val (.long u0), .second, .val (.int (0 : Int32)), .val (.long (0 : Int64)), .second, .unset, .unset, .unset, .unset, .unset] [(.ref d0)]))
    obtain ⟨T4, X4, e4, st4⟩ := getF X2 hx hZ hown (host := "") (Or.inl (hw _ (List.mem_of_getElem? (i := 66) rfl))) Via.refl e2 F_high_d0 (g := (mkF m 44 #[.val (.ref d0), .val (.long u0), .second, .val (.int (0 : Int32)), .val (.long (0 : Int64)), .second, .unset, .unset, .unset, .unset, .unset] [(.ref d0)])) rfl rfl (hb hby d14_44)
    refine Wp.step st4 ?_
    show Wp p e below _ (T4.setTop (mkF m 47 #[.val (.ref d0), .val (.long u0), .second, .val (.int (0 : Int32)), .val (.long (0 : Int64)), .second, .unset, .unset, .unset, .unset, .unset] [(.long x0)]))
    refine Wp.step (fun t k => XS.lload X4.here hx rfl (hb hby d14_47) rfl k) ?_
    show Wp p e below _ (T4.setTop (mkF m 49 #[.val (.ref d0), .val (.long u0), .second, .val (.int (0 : Int32)), .val (.long (0 : Int64)), .second, .unset, .unset, .unset, .unset, .unset] [(.long (0 : Int64)), (.long x0)]))
    refine Wp.step (fun t k => XS.lloadN X4.here hx rfl (hb hby d14_49) rfl k) ?_
    show Wp p e below _ (T4.setTop (mkF m 50 #[.val (.ref d0), .val (.long u0), .second, .val (.int (0 : Int32)), .val (.long (0 : Int64)), .second, .unset, .unset, .unset, .unset, .unset] [(.long u0), (.long (0 : Int64)), (.long x0)]))
    refine Wp.step (fun t k => XS.lmul X4.here hx rfl (hb hby d14_50) rfl k) ?_
    show Wp p e below _ (T4.setTop (mkF m 51 #[.val (.ref d0), .val (.long u0), .second, .val (.int (0 : Int32)), .val (.long (0 : Int64)), .second, .unset, .unset, .unset, .unset, .unset] [(.long ((0 : Int64) * u0)), (.long x0)]))
    refine Wp.step (fun t k => XS.lsub X4.here hx rfl (hb hby d14_51) rfl k) ?_
    show Wp p e below _ (T4.setTop (mkF m 52 #[.val (.ref d0), .val (.long u0), .second, .val (.int (0 : Int32)), .val (.long (0 : Int64)), .second, .unset, .unset, .unset, .unset, .unset] [(.long (x0 - ((0 : Int64) * u0)))]))
    rw [show (x0 - ((0 : Int64) * u0)) = x0 from (by rw [Int64.zero_mul, Int64.sub_zero])]
    refine Wp.step (fun t k => XS.lstore X4.here hx rfl (hb hby d14_52) rfl (l' := #[.val (.ref d0), .val (.long u0), .second, .val (.int (0 : Int32)), .val (.long (0 : Int64)), .second, .val (.long x0), .second, .unset, .unset, .unset]) rfl k) ?_
    show Wp p e below _ (T4.setTop (mkF m 54 #[.val (.ref d0), .val (.long u0), .second, .val (.int (0 : Int32)), .val (.long (0 : Int64)), .second, .val (.long x0), .second, .unset, .unset, .unset] []))
    refine Wp.step (fun t k => XS.lload X4.here hx rfl (hb hby d14_54) rfl k) ?_
    show Wp p e below _ (T4.setTop (mkF m 56 #[.val (.ref d0), .val (.long u0), .second, .val (.int (0 : Int32)), .val (.long (0 : Int64)), .second, .val (.long x0), .second, .unset, .unset, .unset] [(.long x0)]))
    refine Wp.step (fun t k => XS.lconst X4.here hx rfl (hb hby d14_56) k) ?_
    show Wp p e below _ (T4.setTop (mkF m 57 #[.val (.ref d0), .val (.long u0), .second, .val (.int (0 : Int32)), .val (.long (0 : Int64)), .second, .val (.long x0), .second, .unset, .unset, .unset] [(.long (0 : Int64)), (.long x0)]))
    refine Wp.step (fun t k => XS.lcmp X4.here hx rfl (hb hby d14_57) rfl k) ?_
    show Wp p e below _ (T4.setTop (mkF m 58 #[.val (.ref d0), .val (.long u0), .second, .val (.int (0 : Int32)), .val (.long (0 : Int64)), .second, .val (.long x0), .second, .unset, .unset, .unset] [(.int (lcmpW x0 (0 : Int64)))]))
    by_cases hc5 : (lcmpW x0 (0 : Int64)) = (0 : Int32)
    · have hc5n := (lw_eq _ _).mp hc5
      refine Wp.step (fun t k => XS.ifNo X4.here hx rfl (hb hby d14_58) rfl ((if0 _ _).trans (teq hc5).2) k) ?_
      show Wp p e below _ (T4.setTop (mkF m 61 #[.val (.ref d0), .val (.long u0), .second, .val (.int (0 : Int32)), .val (.long (0 : Int64)), .second, .val (.long x0), .second, .unset, .unset, .unset] []))
      refine Wp.step (fun t k => XS.aloadN X4.here hx rfl (hb hby d14_61) rfl rfl k) ?_
      show Wp p e below _ (T4.setTop (mkF m 62 #[.val (.ref d0), .val (.long u0), .second, .val (.int (0 : Int32)), .val (.long (0 : Int64)), .second, .val (.long x0), .second, .unset, .unset, .unset] [(.ref d0)]))
      obtain ⟨T6, X6, e6, st6⟩ := getF X4 hx hZ hown (host := "") (Or.inl (hw _ (List.mem_of_getElem? (i := 68) rfl))) Via.refl e4 F_low_d0 (g := (mkF m 62 #[.val (.ref d0), .val (.long u0), .second, .val (.int (0 : Int32)), .val (.long (0 : Int64)), .second, .val (.long x0), .second, .unset, .unset, .unset] [(.ref d0)])) rfl rfl (hb hby d14_62)
      refine Wp.step st6 ?_
      show Wp p e below _ (T6.setTop (mkF m 65 #[.val (.ref d0), .val (.long u0), .second, .val (.int (0 : Int32)), .val (.long (0 : Int64)), .second, .val (.long x0), .second, .unset, .unset, .unset] [(.long x1)]))
      refine Wp.step (fun t k => XS.lloadN X6.here hx rfl (hb hby d14_65) rfl k) ?_
      show Wp p e below _ (T6.setTop (mkF m 66 #[.val (.ref d0), .val (.long u0), .second, .val (.int (0 : Int32)), .val (.long (0 : Int64)), .second, .val (.long x0), .second, .unset, .unset, .unset] [(.long u0), (.long x1)]))
      obtain ⟨_, _, ⟨T7, L7, k7, n7⟩, -, X7, ⟨Lc7, hQ7, l7, y7, z7⟩, st7⟩ := Jvm.LawKit.callS X6 hx (y := (⟨"java/lang/Long", "divideUnsigned", "(JJ)J"⟩ : MethodName)) hown (mvT hZ (hw _ (List.mem_of_getElem? (i := 87) rfl))) (mvT hZ (hw _ (List.mem_of_getElem? (i := 88) rfl))) (mvT hZ (hw _ (List.mem_of_getElem? (i := 89) rfl))) (mvT hZ (hw _ (List.mem_of_getElem? (i := 90) rfl))) (by decide) (backOf (W := 0) (rm15 l Z a0 hw [] x1 u0  h0 n0 (Nat.le_trans Z0 K0.1)  hd) hZ (hw _ (List.mem_of_getElem? (i := 90) rfl)) (hw _ (List.mem_of_getElem? (i := 89) rfl)) (by decide) (by decide)) (g := (mkF m 66 #[.val (.ref d0), .val (.long u0), .second, .val (.int (0 : Int32)), .val (.long (0 : Int64)), .second, .val (.long x0), .second, .unset, .unset, .unset] [(.long u0), (.long x1)])) rfl (by rw [hml]; rfl) (argsL := [(.long x1), (.long u0)]) (rest := []) (lenOf pd_28JJ29J rfl) rfl (by show 2 * 0 + _ ≤ _; exact Nat.le_of_eq rfl) (hb hby d14_66) (fun _ _ => ⟨rfl, e6, (by decide : 0 + 0 ≤ _), (by decide : 0 + 0 ≤ _)⟩)
      dsimp only [Pt.U, Pt.locs, Pt.cells, Pt.slots] at X7 l7 y7 z7 st7 hQ7
      subst l7 y7 z7
      obtain ⟨rfl, N7q, e7⟩ := hQ7
      have N7 := Fr.app N0 N7q
      refine Wp.step st7 ?_
      show Wp p e below _ (T7.setTop (mkF m 69 #[.val (.ref d0), .val (.long u0), .second, .val (.int (0 : Int32)), .val (.long (0 : Int64)), .second, .val (.long x0), .second, .unset, .unset, .unset] [(.long (own_dq x1 u0))]))
      rw [show (own_dq x1 u0) = b0 from own_divlo hbb hd hU ((lw_eq _ _).mp hc5)]
      refine Wp.step (fun t k => XS.lstore X7.here hx rfl (hb hby d14_69) rfl (l' := #[.val (.ref d0), .val (.long u0), .second, .val (.int (0 : Int32)), .val (.long (0 : Int64)), .second, .val (.long x0), .second, .val (.long b0), .second, .unset]) rfl k) ?_
      show Wp p e below _ (T7.setTop (mkF m 71 #[.val (.ref d0), .val (.long u0), .second, .val (.int (0 : Int32)), .val (.long (0 : Int64)), .second, .val (.long x0), .second, .val (.long b0), .second, .unset] []))
      refine Wp.step (fun t k => XS.aloadN X7.here hx rfl (hb hby d14_71) rfl rfl k) ?_
      show Wp p e below _ (T7.setTop (mkF m 72 #[.val (.ref d0), .val (.long u0), .second, .val (.int (0 : Int32)), .val (.long (0 : Int64)), .second, .val (.long x0), .second, .val (.long b0), .second, .unset] [(.ref d0)]))
      obtain ⟨T8, X8, e8, st8⟩ := getF X7 hx hZ hown (host := "") (Or.inl (hw _ (List.mem_of_getElem? (i := 68) rfl))) Via.refl e7 F_low_d0 (g := (mkF m 72 #[.val (.ref d0), .val (.long u0), .second, .val (.int (0 : Int32)), .val (.long (0 : Int64)), .second, .val (.long x0), .second, .val (.long b0), .second, .unset] [(.ref d0)])) rfl rfl (hb hby d14_72)
      refine Wp.step st8 ?_
      show Wp p e below _ (T8.setTop (mkF m 75 #[.val (.ref d0), .val (.long u0), .second, .val (.int (0 : Int32)), .val (.long (0 : Int64)), .second, .val (.long x0), .second, .val (.long b0), .second, .unset] [(.long x1)]))
      refine Wp.step (fun t k => XS.lload X8.here hx rfl (hb hby d14_75) rfl k) ?_
      show Wp p e below _ (T8.setTop (mkF m 77 #[.val (.ref d0), .val (.long u0), .second, .val (.int (0 : Int32)), .val (.long (0 : Int64)), .second, .val (.long x0), .second, .val (.long b0), .second, .unset] [(.long b0), (.long x1)]))
      refine Wp.step (fun t k => XS.lloadN X8.here hx rfl (hb hby d14_77) rfl k) ?_
      show Wp p e below _ (T8.setTop (mkF m 78 #[.val (.ref d0), .val (.long u0), .second, .val (.int (0 : Int32)), .val (.long (0 : Int64)), .second, .val (.long x0), .second, .val (.long b0), .second, .unset] [(.long u0), (.long b0), (.long x1)]))
      refine Wp.step (fun t k => XS.lmul X8.here hx rfl (hb hby d14_78) rfl k) ?_
      show Wp p e below _ (T8.setTop (mkF m 79 #[.val (.ref d0), .val (.long u0), .second, .val (.int (0 : Int32)), .val (.long (0 : Int64)), .second, .val (.long x0), .second, .val (.long b0), .second, .unset] [(.long (b0 * u0)), (.long x1)]))
      refine Wp.step (fun t k => XS.lsub X8.here hx rfl (hb hby d14_79) rfl k) ?_
      show Wp p e below _ (T8.setTop (mkF m 80 #[.val (.ref d0), .val (.long u0), .second, .val (.int (0 : Int32)), .val (.long (0 : Int64)), .second, .val (.long x0), .second, .val (.long b0), .second, .unset] [(.long (x1 - (b0 * u0)))]))
      refine Wp.step (fun t k => XS.lstore X8.here hx rfl (hb hby d14_80) rfl (l' := #[.val (.ref d0), .val (.long u0), .second, .val (.int (0 : Int32)), .val (.long (0 : Int64)), .second, .val (.long (x1 - (b0 * u0))), .second, .val (.long b0), .second, .unset]) rfl k) ?_
      show Wp p e below _ (T8.setTop (mkF m 82 #[.val (.ref d0), .val (.long u0), .second, .val (.int (0 : Int32)), .val (.long (0 : Int64)), .second, .val (.long (x1 - (b0 * u0))), .second, .val (.long b0), .second, .unset] []))
      refine Wp.step (fun t k => XS.goto X8.here hx rfl (pc0 := 82) (pc' := 146) rfl (hb hby d14_82) (by decide) (by decide) k) ?_
      show Wp p e below _ (T8.setTop (mkF m 146 #[.val (.ref d0), .val (.long u0), .second, .val (.int (0 : Int32)), .val (.long (0 : Int64)), .second, .val (.long (x1 - (b0 * u0))), .second, .val (.long b0), .second, .unset] []))
      obtain ⟨T9, h9, X9, e9, E9, A9, D9, -, st9⟩ := newO X8 hx hZ hown (hw _ (List.mem_of_getElem? (i := 60) rfl)) (hw _ (List.mem_of_getElem? (i := 61) rfl)) (hw _ (List.mem_of_getElem? (i := 54) rfl)) e8 (g := (mkF m 146 #[.val (.ref d0), .val (.long u0), .second, .val (.int (0 : Int32)), .val (.long (0 : Int64)), .second, .val (.long (x1 - (b0 * u0))), .second, .val (.long b0), .second, .unset] [])) rfl (hb hby d14_146) (by decide) (by decide)
      obtain ⟨b9, g9⟩ : ∃ z, z = h0.size := ⟨_, rfl⟩
      rw [← g9] at A9 D9 st9
      have g_b9 : n0 ≤ b9 := Nat.le_trans (Nat.le_trans Z0 K0.1) (Nat.le_of_eq g9.symm)
      have sz_b9 : h0.size ≤ b9 := Nat.le_trans K0.1 (Nat.le_of_eq g9.symm)
      have ne_d0_b9 : d0 ≠ b9 := Nat.ne_of_lt (Nat.lt_of_lt_of_le E_d0.lt (Nat.le_of_eq g9.symm))
      have c10 := E_d0.ext E9
      have c11 := F_high_d0.ext E9
      have c12 := F_low_d0.ext E9
      have K13 := K0.ext E9
      have c14 : Fld Z h9 b9 "com/example/gentle_bucket/gentlebucket/Uint128" "high" "J" (.long (0 : Int64)) := D9 (Or.inr (hw _ (List.mem_of_getElem? (i := 67) rfl))) (ty := .long) (by decide)
      have c15 : Fld Z h9 b9 "com/example/gentle_bucket/gentlebucket/Uint128" "low" "J" (.long (0 : Int64)) := D9 (Or.inr (hw _ (List.mem_of_getElem? (i := 69) rfl))) (ty := .long) (by decide)
      refine Wp.step st9 ?_
      show Wp p e below _ (T9.setTop (mkF m 149 #[.val (.ref d0), .val (.long u0), .second, .val (.int (0 : Int32)), .val (.long (0 : Int64)), .second, .val (.long (x1 - (b0 * u0))), .second, .val (.long b0), .second, .unset] [(.ref b9)]))
      refine Wp.step (fun t k => XS.dup X9.here hx rfl (hb hby d14_149) rfl rfl k) ?_
      show Wp p e below _ (T9.setTop (mkF m 150 #[.val (.ref d0), .val (.long u0), .second, .val (.int (0 : Int32)), .val (.long (0 : Int64)), .second, .val (.long (x1 - (b0 * u0))), .second, .val (.long b0), .second, .unset] [(.ref b9), (.ref b9)]))
      refine Wp.step (fun t k => XS.lload X9.here hx rfl (hb hby d14_150) rfl k) ?_
      show Wp p e below _ (T9.setTop (mkF m 152 #[.val (.ref d0), .val (.long u0), .second, .val (.int (0 : Int32)), .val (.long (0 : Int64)), .second, .val (.long (x1 - (b0 * u0))), .second, .val (.long b0), .second, .unset] [(.long (0 : Int64)), (.ref b9), (.ref b9)]))
      refine Wp.step (fun t k => XS.lload X9.here hx rfl (hb hby d14_152) rfl k) ?_
      show Wp p e below _ (T9.setTop (mkF m 154 #[.val (.ref d0), .val (.long u0), .second, .val (.int (0 : Int32)), .val (.long (0 : Int64)), .second, .val (.long (x1 - (b0 * u0))), .second, .val (.long b0), .second, .unset] [(.long b0), (.long (0 : Int64)), (.ref b9), (.ref b9)]))
      obtain ⟨_, _, ⟨T16, L16, k16, n16⟩, -, X16, ⟨Lc16, hQ16, l16, y16, z16⟩, st16⟩ := X9.specialBack hx (y := (⟨"com/example/gentle_bucket/gentlebucket/Uint128", "<init>", "(JJ)V"⟩ : MethodName)) rfl hown (mvT hZ (hw _ (List.mem_of_getElem? (i := 62) rfl))) (mvT hZ (hw _ (List.mem_of_getElem? (i := 63) rfl))) (mvT hZ (hw _ (List.mem_of_getElem? (i := 64) rfl))) (by decide) (backOf (W := 1) (rm11 l Z a0 hw [] b9 (0 : Int64) b0 (0 : Int64) (0 : Int64) h9 n0 (Nat.le_trans Z0 K13.1) g_b9 A9 c14 c15 ) hZ (hw _ (List.mem_of_getElem? (i := 64) rfl)) (hw _ (List.mem_of_getElem? (i := 54) rfl)) (by decide) (by decide)) (g := (mkF m 154 #[.val (.ref d0), .val (.long u0), .second, .val (.int (0 : Int32)), .val (.long (0 : Int64)), .second, .val (.long (x1 - (b0 * u0))), .second, .val (.long b0), .second, .unset] [(.long b0), (.long (0 : Int64)), (.ref b9), (.ref b9)])) rfl (by rw [hml]; rfl) (Steps.refl _) (a := b9) (argsL := [(.long (0 : Int64)), (.long b0)]) (rest := [(.ref b9)]) (lenOf pd_28JJ29V rfl) rfl (by show 2 * 0 + _ ≤ _; exact Nat.le_of_eq rfl) (hb hby d14_154) (fun _ _ => ⟨rfl, e9, (by decide : 1 + 0 ≤ _), (by decide : 2 + 0 ≤ _)⟩)
      dsimp only [Pt.U, Pt.locs, Pt.cells, Pt.slots] at X16 l16 y16 z16 st16 hQ16
      subst l16 y16 z16
      obtain ⟨h16, e16⟩ : ∃ z, T16.heap = z := ⟨_, rfl⟩
      rw [e16] at hQ16
      obtain ⟨rfl, N16q, Kc16, o16_0, o16_1, o16_2⟩ := hQ16
      have N16 := Fr.app N7 N16q
      have c17 := c10.keep Kc16
      have c18 := c11.keep Kc16 (ninS ne_d0_b9 nin0)
      have c19 := c12.keep Kc16 (ninS ne_d0_b9 nin0)
      have c20 := A9.keep Kc16
      have K16 := K13.trans Kc16 (allS (Or.inr sz_b9) all0)
      refine Wp.go st16 ?_
      show Wp p e below _ (T16.setTop (mkF m 157 #[.val (.ref d0), .val (.long u0), .second, .val (.int (0 : Int32)), .val (.long (0 : Int64)), .second, .val (.long (x1 - (b0 * u0))), .second, .val (.long b0), .second, .unset] [(.ref b9)]))
      refine Wp.step (fun t k => XS.astore X16.here hx rfl (hb hby d14_157) rfl rfl (l' := #[.val (.ref d0), .val (.long u0), .second, .val (.int (0 : Int32)), .val (.long (0 : Int64)), .second, .val (.long (x1 - (b0 * u0))), .second, .val (.long b0), .second, .val (.ref b9)]) rfl k) ?_
      show Wp p e below _ (T16.setTop (mkF m 159 #[.val (.ref d0), .val (.long u0), .second, .val (.int (0 : Int32)), .val (.long (0 : Int64)), .second, .val (.long (x1 - (b0 * u0))), .second, .val (.long b0), .second, .val (.ref b9)] []))
      refine Wp.step (fun t k => XS.lload X16.here hx rfl (hb hby d14_159) rfl k) ?_
      show Wp p e below _ (T16.setTop (mkF m 161 #[.val (.ref d0), .val (.long u0), .second, .val (.int (0 : Int32)), .val (.long (0 : Int64)), .second, .val (.long (x1 - (b0 * u0))), .second, .val (.long b0), .second, .val (.ref b9)] [(.long (x1 - (b0 * u0)))]))
      refine Wp.step (fun t k => XS.lconst X16.here hx rfl (hb hby d14_161) k) ?_
      show Wp p e below _ (T16.setTop (mkF m 162 #[.val (.ref d0), .val (.long u0), .second, .val (.int (0 : Int32)), .val (.long (0 : Int64)), .second, .val (.long (x1 - (b0 * u0))), .second, .val (.long b0), .second, .val (.ref b9)] [(.long (0 : Int64)), (.long (x1 - (b0 * u0)))]))
      refine Wp.step (fun t k => XS.lcmp X16.here hx rfl (hb hby d14_162) rfl k) ?_
      show Wp p e below _ (T16.setTop (mkF m 163 #[.val (.ref d0), .val (.long u0), .second, .val (.int (0 : Int32)), .val (.long (0 : Int64)), .second, .val (.long (x1 - (b0 * u0))), .second, .val (.long b0), .second, .val (.ref b9)] [(.int (lcmpW (x1 - (b0 * u0)) (0 : Int64)))]))
      by_cases hc21 : (lcmpW (x1 - (b0 * u0)) (0 : Int64)) = (0 : Int32)
      · have hc21n := (lw_eq _ _).mp hc21
        refine Wp.step (fun t k => XS.ifYes X16.here hx rfl (pc0 := 163) (pc' := 170) rfl (hb hby d14_163) rfl ((if0 _ _).trans (teq hc21).1) (by decide) (by decide) k) ?_
        show Wp p e below _ (T16.setTop (mkF m 170 #[.val (.ref d0), .val (.long u0), .second, .val (.int (0 : Int32)), .val (.long (0 : Int64)), .second, .val (.long (x1 - (b0 * u0))), .second, .val (.long b0), .second, .val (.ref b9)] []))
        refine Wp.step (fun t k => XS.aload X16.here hx rfl (hb hby d14_170) rfl rfl k) ?_
        show Wp p e below _ (T16.setTop (mkF m 172 #[.val (.ref d0), .val (.long u0), .second, .val (.int (0 : Int32)), .val (.long (0 : Int64)), .second, .val (.long (x1 - (b0 * u0))), .second, .val (.long b0), .second, .val (.ref b9)] [(.ref b9)]))
        refine Wp.step (fun t k => XS.goto X16.here hx rfl (pc0 := 172) (pc' := 183) rfl (hb hby d14_172) (by decide) (by decide) k) ?_
        show Wp p e below _ (T16.setTop (mkF m 183 #[.val (.ref d0), .val (.long u0), .second, .val (.int (0 : Int32)), .val (.long (0 : Int64)), .second, .val (.long (x1 - (b0 * u0))), .second, .val (.long b0), .second, .val (.ref b9)] [(.ref b9)]))
        refine Wp.retA X16 hx Bd.returns rfl (hb hby d14_183) hlk ?_ (by decide) (by decide)
        show Q14 Z d0 u0 (0 : Int32) x0 x1 b0 h0 n0 (some (.ref b9)) T16.heap _
        rw [e16]
        exact ⟨b9, rfl, N16, K16, sz_b9, o16_0, o16_1, o16_2⟩
      · have hc21n := fun q => hc21 ((lw_eq _ _).mpr q)
        refine Wp.step (fun t k => XS.ifNo X16.here hx rfl (hb hby d14_163) rfl ((if0 _ _).trans (feq hc21).1) k) ?_
        show Wp p e below _ (T16.setTop (mkF m 166 #[.val (.ref d0), .val (.long u0), .second, .val (.int (0 : Int32)), .val (.long (0 : Int64)), .second, .val (.long (x1 - (b0 * u0))), .second, .val (.long b0), .second, .val (.ref b9)] []))
        refine Wp.step (fun t k => XS.iloadN X16.here hx rfl (hb hby d14_166) rfl k) ?_
        show Wp p e below _ (T16.setTop (mkF m 167 #[.val (.ref d0), .val (.long u0), .second, .val (.int (0 : Int32)), .val (.long (0 : Int64)), .second, .val (.long (x1 - (b0 * u0))), .second, .val (.long b0), .second, .val (.ref b9)] [(.int (0 : Int32))]))
        refine Wp.step (fun t k => XS.ifNo X16.here hx rfl (hb hby d14_167) rfl ((if0 _ _).trans (teq (show (0 : Int32) = (0 : Int32) by decide)).2) k) ?_
        show Wp p e below _ (T16.setTop (mkF m 170 #[.val (.ref d0), .val (.long u0), .second, .val (.int (0 : Int32)), .val (.long (0 : Int64)), .second, .val (.long (x1 - (b0 * u0))), .second, .val (.long b0), .second, .val (.ref b9)] []))
        refine Wp.step (fun t k => XS.aload X16.here hx rfl (hb hby d14_170) rfl rfl k) ?_
        show Wp p e below _ (T16.setTop (mkF m 172 #[.val (.ref d0), .val (.long u0), .second, .val (.int (0 : Int32)), .val (.long (0 : Int64)), .second, .val (.long (x1 - (b0 * u0))), .second, .val (.long b0), .second, .val (.ref b9)] [(.ref b9)]))
        refine Wp.step (fun t k => XS.goto X16.here hx rfl (pc0 := 172) (pc' := 183) rfl (hb hby d14_172) (by decide) (by decide) k) ?_
        show Wp p e below _ (T16.setTop (mkF m 183 #[.val (.ref d0), .val (.long u0), .second, .val (.int (0 : Int32)), .val (.long (0 : Int64)), .second, .val (.long (x1 - (b0 * u0))), .second, .val (.long b0), .second, .val (.ref b9)] [(.ref b9)]))
        refine Wp.retA X16 hx Bd.returns rfl (hb hby d14_183) hlk ?_ (by decide) (by decide)
        show Q14 Z d0 u0 (0 : Int32) x0 x1 b0 h0 n0 (some (.ref b9)) T16.heap _
        rw [e16]
        exact ⟨b9, rfl, N16, K16, sz_b9, o16_0, o16_1, o16_2⟩
    · have hc5n := fun q => hc5 ((lw_eq _ _).mpr q)
      refine Wp.step (fun t k => XS.ifYes X4.here hx rfl (pc0 := 58) (pc' := 85) rfl (hb hby d14_58) rfl ((if0 _ _).trans (feq hc5).2) (by decide) (by decide) k) ?_
      show Wp p e below _ (T4.setTop (mkF m 85 #[.val (.ref d0), .val (.long u0), .second, .val (.int (0 : Int32)), .val (.long (0 : Int64)), .second, .val (.long x0), .second, .unset, .unset, .unset] []))
      refine Wp.step (fun t k => XS.lconst X4.here hx rfl (hb hby d14_85) k) ?_
      show Wp p e below _ (T4.setTop (mkF m 86 #[.val (.ref d0), .val (.long u0), .second, .val (.int (0 : Int32)), .val (.long (0 : Int64)), .second, .val (.long x0), .second, .unset, .unset, .unset] [(.long (0 : Int64))]))
      refine Wp.step (fun t k => XS.lstore X4.here hx rfl (hb hby d14_86) rfl (l' := #[.val (.ref d0), .val (.long u0), .second, .val (.int (0 : Int32)), .val (.long (0 : Int64)), .second, .val (.long x0), .second, .val (.long (0 : Int64)), .second, .unset]) rfl k) ?_
      show Wp p e below _ (T4.setTop (mkF m 88 #[.val (.ref d0), .val (.long u0), .second, .val (.int (0 : Int32)), .val (.long (0 : Int64)), .second, .val (.long x0), .second, .val (.long (0 : Int64)), .second, .unset] []))
      refine Wp.step (fun t k => XS.bipush X4.here hx rfl (hb hby d14_88) k) ?_
      show Wp p e below _ (T4.setTop (mkF m 90 #[.val (.ref d0), .val (.long u0), .second, .val (.int (0 : Int32)), .val (.long (0 : Int64)), .second, .val (.long x0), .second, .val (.long (0 : Int64)), .second, .unset] [(.int (63 : Int32))]))
      refine Wp.step (fun t k => XS.istore X4.here hx rfl (hb hby d14_90) rfl (l' := #[.val (.ref d0), .val (.long u0), .second, .val (.int (0 : Int32)), .val (.long (0 : Int64)), .second, .val (.long x0), .second, .val (.long (0 : Int64)), .second, .val (.int (63 : Int32))]) rfl k) ?_
      show Wp p e below _ (T4.setTop (mkF m 92 #[.val (.ref d0), .val (.long u0), .second, .val (.int (0 : Int32)), .val (.long (0 : Int64)), .second, .val (.long x0), .second, .val (.long (0 : Int64)), .second, .val (.int (63 : Int32))] []))
      have h63 : (63 : Int32).toInt = 63 := by decide
      have loop23 : ∀ (f : Nat) (rr : Int64) (qq : Int64) (jj : Int32) (hh_23 : Heap) (locs_23 : List Loc) (T_23 : State) (X_23 : Stand p l e ({ frames := 2, cells := 1, slots := 2, locals := 30 } : Room) s m #[(.ref d0), (.long u0), (.int (0 : Int32))] below meth c T_23 locs_23 0 0) (eT_23 : T_23.heap = hh_23) (NN_23 : Fr n0 locs_23) (KK_23 : Keep h0 hh_23 []) (q0_23 : Exa Z hh_23 d0 "com/example/gentle_bucket/gentlebucket/Uint128") (q1_23 : Fld Z hh_23 d0 "com/example/gentle_bucket/gentlebucket/Uint128" "high" "J" (.long x0)) (q2_23 : Fld Z hh_23 d0 "com/example/gentle_bucket/gentlebucket/Uint128" "low" "J" (.long x1)) (hI : own_inv x0 x1 u0 jj rr qq) (hm : (jj.toInt + 1).toNat < f), Wp p e below (Out s (Q14 Z d0 u0 (0 : Int32) x0 x1 b0 h0 n0) ({ frames := 2, cells := 1, slots := 2, locals := 30 } : Room).cells ({ frames := 2, cells := 1, slots := 2, locals := 30 } : Room).slots) (T_23.setTop (mkF m 92 #[.val (.ref d0), .val (.long u0), .second, .val (.int (0 : Int32)), .val (.long (0 : Int64)), .second, .val (.long rr), .second, .val (.long qq), .second, .val (.int jj)] [])) := by
        intro f
        induction f with
        | zero => intros; rename_i hm; exact absurd hm (Nat.not_lt_zero _)
        | succ f ih_23 =>
          intro rr qq jj hh_23 locs_23 T_23 X_23 eT_23 NN_23 KK_23 q0_23 q1_23 q2_23 hI hm
          show Wp p e below _ (T_23.setTop (mkF m 92 #[.val (.ref d0), .val (.long u0), .second, .val (.int (0 : Int32)), .val (.long (0 : Int64)), .second, .val (.long rr), .second, .val (.long qq), .second, .val (.int jj)] []))
          refine Wp.step (fun t k => XS.iload X_23.here hx rfl (hb hby d14_92) rfl k) ?_
          show Wp p e below _ (T_23.setTop (mkF m 94 #[.val (.ref d0), .val (.long u0), .second, .val (.int (0 : Int32)), .val (.long (0 : Int64)), .second, .val (.long rr), .second, .val (.long qq), .second, .val (.int jj)] [(.int jj)]))
          by_cases hc24 : jj < (0 : Int32)
          · refine Wp.step (fun t k => XS.ifYes X_23.here hx rfl (pc0 := 94) (pc' := 146) rfl (hb hby d14_94) rfl ((if0 _ _).trans (tlt hc24).1) (by decide) (by decide) k) ?_
            show Wp p e below _ (T_23.setTop (mkF m 146 #[.val (.ref d0), .val (.long u0), .second, .val (.int (0 : Int32)), .val (.long (0 : Int64)), .second, .val (.long rr), .second, .val (.long qq), .second, .val (.int jj)] []))
            have hqq : qq = b0 := own_low x0 x1 u0 b0 hbb hd hU (own_inv_end hI hc24)
            rw [hqq]
            obtain ⟨T25, h25, X25, e25, E25, A25, D25, -, st25⟩ := newO X_23 hx hZ hown (hw _ (List.mem_of_getElem? (i := 60) rfl)) (hw _ (List.mem_of_getElem? (i := 61) rfl)) (hw _ (List.mem_of_getElem? (i := 54) rfl)) eT_23 (g := (mkF m 146 #[.val (.ref d0), .val (.long u0), .second, .val (.int (0 : Int32)), .val (.long (0 : Int64)), .second, .val (.long rr), .second, .val (.long b0), .second, .val (.int jj)] [])) rfl (hb hby d14_146) (by decide) (by decide)
            obtain ⟨b25, g25⟩ : ∃ z, z = hh_23.size := ⟨_, rfl⟩
            rw [← g25] at A25 D25 st25
            have g_b25 : n0 ≤ b25 := Nat.le_trans (Nat.le_trans Z0 KK_23.1) (Nat.le_of_eq g25.symm)
            have sz_b25 : h0.size ≤ b25 := Nat.le_trans KK_23.1 (Nat.le_of_eq g25.symm)
            have ne_d0_b25 : d0 ≠ b25 := Nat.ne_of_lt (Nat.lt_of_lt_of_le q0_23.lt (Nat.le_of_eq g25.symm))
            have c26 := q0_23.ext E25
            have c27 := q1_23.ext E25
            have c28 := q2_23.ext E25
            have K29 := KK_23.ext E25
            have c30 : Fld Z h25 b25 "com/example/gentle_bucket/gentlebucket/Uint128" "high" "J" (.long (0 : Int64)) := D25 (Or.inr (hw _ (List.mem_of_getElem? (i := 67) rfl))) (ty := .long) (by decide)
            have c31 : Fld Z h25 b25 "com/example/gentle_bucket/gentlebucket/Uint128" "low" "J" (.long (0 : Int64)) := D25 (Or.inr (hw _ (List.mem_of_getElem? (i := 69) rfl))) (ty := .long) (by decide)
            refine Wp.step st25 ?_
            show Wp p e below _ (T25.setTop (mkF m 149 #[.val (.ref d0), .val (.long u0), .second, .val (.int (0 : Int32)), .val (.long (0 : Int64)), .second, .val (.long rr), .second, .val (.long b0), .second, .val (.int jj)] [(.ref b25)]))
            refine Wp.step (fun t k => XS.dup X25.here hx rfl (hb hby d14_149) rfl rfl k) ?_
            show Wp p e below _ (T25.setTop (mkF m 150 #[.val (.ref d0), .val (.long u0), .second, .val (.int (0 : Int32)), .val (.long (0 : Int64)), .second, .val (.long rr), .second, .val (.long b0), .second, .val (.int jj)] [(.ref b25), (.ref b25)]))
            refine Wp.step (fun t k => XS.lload X25.here hx rfl (hb hby d14_150) rfl k) ?_
            show Wp p e below _ (T25.setTop (mkF m 152 #[.val (.ref d0), .val (.long u0), .second, .val (.int (0 : Int32)), .val (.long (0 : Int64)), .second, .val (.long rr), .second, .val (.long b0), .second, .val (.int jj)] [(.long (0 : Int64)), (.ref b25), (.ref b25)]))
            refine Wp.step (fun t k => XS.lload X25.here hx rfl (hb hby d14_152) rfl k) ?_
            show Wp p e below _ (T25.setTop (mkF m 154 #[.val (.ref d0), .val (.long u0), .second, .val (.int (0 : Int32)), .val (.long (0 : Int64)), .second, .val (.long rr), .second, .val (.long b0), .second, .val (.int jj)] [(.long b0), (.long (0 : Int64)), (.ref b25), (.ref b25)]))
            obtain ⟨_, _, ⟨T32, L32, k32, n32⟩, -, X32, ⟨Lc32, hQ32, l32, y32, z32⟩, st32⟩ := X25.specialBack hx (y := (⟨"com/example/gentle_bucket/gentlebucket/Uint128", "<init>", "(JJ)V"⟩ : MethodName)) rfl hown (mvT hZ (hw _ (List.mem_of_getElem? (i := 62) rfl))) (mvT hZ (hw _ (List.mem_of_getElem? (i := 63) rfl))) (mvT hZ (hw _ (List.mem_of_getElem? (i := 64) rfl))) (by decide) (backOf (W := 1) (rm11 l Z a0 hw [] b25 (0 : Int64) b0 (0 : Int64) (0 : Int64) h25 n0 (Nat.le_trans Z0 K29.1) g_b25 A25 c30 c31 ) hZ (hw _ (List.mem_of_getElem? (i := 64) rfl)) (hw _ (List.mem_of_getElem? (i := 54) rfl)) (by decide) (by decide)) (g := (mkF m 154 #[.val (.ref d0), .val (.long u0), .second, .val (.int (0 : Int32)), .val (.long (0 : Int64)), .second, .val (.long rr), .second, .val (.long b0), .second, .val (.int jj)] [(.long b0), (.long (0 : Int64)), (.ref b25), (.ref b25)])) rfl (by rw [hml]; rfl) (Steps.refl _) (a := b25) (argsL := [(.long (0 : Int64)), (.long b0)]) (rest := [(.ref b25)]) (lenOf pd_28JJ29V rfl) rfl (by show 2 * 0 + _ ≤ _; exact Nat.le_of_eq rfl) (hb hby d14_154) (fun _ _ => ⟨rfl, e25, (by decide : 1 + 0 ≤ _), (by decide : 2 + 0 ≤ _)⟩)
            dsimp only [Pt.U, Pt.locs, Pt.cells, Pt.slots] at X32 l32 y32 z32 st32 hQ32
            subst l32 y32 z32
            obtain ⟨h32, e32⟩ : ∃ z, T32.heap = z := ⟨_, rfl⟩
            rw [e32] at hQ32
            obtain ⟨rfl, N32q, Kc32, o32_0, o32_1, o32_2⟩ := hQ32
            have N32 := Fr.app NN_23 N32q
            have c33 := c26.keep Kc32
            have c34 := c27.keep Kc32 (ninS ne_d0_b25 nin0)
            have c35 := c28.keep Kc32 (ninS ne_d0_b25 nin0)
            have c36 := A25.keep Kc32
            have K32 := K29.trans Kc32 (allS (Or.inr sz_b25) all0)
            refine Wp.go st32 ?_
            show Wp p e below _ (T32.setTop (mkF m 157 #[.val (.ref d0), .val (.long u0), .second, .val (.int (0 : Int32)), .val (.long (0 : Int64)), .second, .val (.long rr), .second, .val (.long b0), .second, .val (.int jj)] [(.ref b25)]))
            refine Wp.step (fun t k => XS.astore X32.here hx rfl (hb hby d14_157) rfl rfl (l' := #[.val (.ref d0), .val (.long u0), .second, .val (.int (0 : Int32)), .val (.long (0 : Int64)), .second, .val (.long rr), .second, .val (.long b0), .second, .val (.ref b25)]) rfl k) ?_
            show Wp p e below _ (T32.setTop (mkF m 159 #[.val (.ref d0), .val (.long u0), .second, .val (.int (0 : Int32)), .val (.long (0 : Int64)), .second, .val (.long rr), .second, .val (.long b0), .second, .val (.ref b25)] []))
            refine Wp.step (fun t k => XS.lload X32.here hx rfl (hb hby d14_159) rfl k) ?_
            show Wp p e below _ (T32.setTop (mkF m 161 #[.val (.ref d0), .val (.long u0), .second, .val (.int (0 : Int32)), .val (.long (0 : Int64)), .second, .val (.long rr), .second, .val (.long b0), .second, .val (.ref b25)] [(.long rr)]))
            refine Wp.step (fun t k => XS.lconst X32.here hx rfl (hb hby d14_161) k) ?_
            show Wp p e below _ (T32.setTop (mkF m 162 #[.val (.ref d0), .val (.long u0), .second, .val (.int (0 : Int32)), .val (.long (0 : Int64)), .second, .val (.long rr), .second, .val (.long b0), .second, .val (.ref b25)] [(.long (0 : Int64)), (.long rr)]))
            refine Wp.step (fun t k => XS.lcmp X32.here hx rfl (hb hby d14_162) rfl k) ?_
            show Wp p e below _ (T32.setTop (mkF m 163 #[.val (.ref d0), .val (.long u0), .second, .val (.int (0 : Int32)), .val (.long (0 : Int64)), .second, .val (.long rr), .second, .val (.long b0), .second, .val (.ref b25)] [(.int (lcmpW rr (0 : Int64)))]))
            by_cases hc37 : (lcmpW rr (0 : Int64)) = (0 : Int32)
            · have hc37n := (lw_eq _ _).mp hc37
              refine Wp.step (fun t k => XS.ifYes X32.here hx rfl (pc0 := 163) (pc' := 170) rfl (hb hby d14_163) rfl ((if0 _ _).trans (teq hc37).1) (by decide) (by decide) k) ?_
              show Wp p e below _ (T32.setTop (mkF m 170 #[.val (.ref d0), .val (.long u0), .second, .val (.int (0 : Int32)), .val (.long (0 : Int64)), .second, .val (.long rr), .second, .val (.long b0), .second, .val (.ref b25)] []))
              refine Wp.step (fun t k => XS.aload X32.here hx rfl (hb hby d14_170) rfl rfl k) ?_
              show Wp p e below _ (T32.setTop (mkF m 172 #[.val (.ref d0), .val (.long u0), .second, .val (.int (0 : Int32)), .val (.long (0 : Int64)), .second, .val (.long rr), .second, .val (.long b0), .second, .val (.ref b25)] [(.ref b25)]))
              refine Wp.step (fun t k => XS.goto X32.here hx rfl (pc0 := 172) (pc' := 183) rfl (hb hby d14_172) (by decide) (by decide) k) ?_
              show Wp p e below _ (T32.setTop (mkF m 183 #[.val (.ref d0), .val (.long u0), .second, .val (.int (0 : Int32)), .val (.long (0 : Int64)), .second, .val (.long rr), .second, .val (.long b0), .second, .val (.ref b25)] [(.ref b25)]))
              refine Wp.retA X32 hx Bd.returns rfl (hb hby d14_183) hlk ?_ (by decide) (by decide)
              show Q14 Z d0 u0 (0 : Int32) x0 x1 b0 h0 n0 (some (.ref b25)) T32.heap _
              rw [e32]
              exact ⟨b25, rfl, N32, K32, sz_b25, o32_0, o32_1, o32_2⟩
            · have hc37n := fun q => hc37 ((lw_eq _ _).mpr q)
              refine Wp.step (fun t k => XS.ifNo X32.here hx rfl (hb hby d14_163) rfl ((if0 _ _).trans (feq hc37).1) k) ?_
              show Wp p e below _ (T32.setTop (mkF m 166 #[.val (.ref d0), .val (.long u0), .second, .val (.int (0 : Int32)), .val (.long (0 : Int64)), .second, .val (.long rr), .second, .val (.long b0), .second, .val (.ref b25)] []))
              refine Wp.step (fun t k => XS.iloadN X32.here hx rfl (hb hby d14_166) rfl k) ?_
              show Wp p e below _ (T32.setTop (mkF m 167 #[.val (.ref d0), .val (.long u0), .second, .val (.int (0 : Int32)), .val (.long (0 : Int64)), .second, .val (.long rr), .second, .val (.long b0), .second, .val (.ref b25)] [(.int (0 : Int32))]))
              refine Wp.step (fun t k => XS.ifNo X32.here hx rfl (hb hby d14_167) rfl ((if0 _ _).trans (teq (show (0 : Int32) = (0 : Int32) by decide)).2) k) ?_
              show Wp p e below _ (T32.setTop (mkF m 170 #[.val (.ref d0), .val (.long u0), .second, .val (.int (0 : Int32)), .val (.long (0 : Int64)), .second, .val (.long rr), .second, .val (.long b0), .second, .val (.ref b25)] []))
              refine Wp.step (fun t k => XS.aload X32.here hx rfl (hb hby d14_170) rfl rfl k) ?_
              show Wp p e below _ (T32.setTop (mkF m 172 #[.val (.ref d0), .val (.long u0), .second, .val (.int (0 : Int32)), .val (.long (0 : Int64)), .second, .val (.long rr), .second, .val (.long b0), .second, .val (.ref b25)] [(.ref b25)]))
              refine Wp.step (fun t k => XS.goto X32.here hx rfl (pc0 := 172) (pc' := 183) rfl (hb hby d14_172) (by decide) (by decide) k) ?_
              show Wp p e below _ (T32.setTop (mkF m 183 #[.val (.ref d0), .val (.long u0), .second, .val (.int (0 : Int32)), .val (.long (0 : Int64)), .second, .val (.long rr), .second, .val (.long b0), .second, .val (.ref b25)] [(.ref b25)]))
              refine Wp.retA X32 hx Bd.returns rfl (hb hby d14_183) hlk ?_ (by decide) (by decide)
              show Q14 Z d0 u0 (0 : Int32) x0 x1 b0 h0 n0 (some (.ref b25)) T32.heap _
              rw [e32]
              exact ⟨b25, rfl, N32, K32, sz_b25, o32_0, o32_1, o32_2⟩
          · have hj := hc24
            have hdec := own_dec hI hj
            refine Wp.step (fun t k => XS.ifNo X_23.here hx rfl (hb hby d14_94) rfl ((if0 _ _).trans (flt hc24).1) k) ?_
            show Wp p e below _ (T_23.setTop (mkF m 97 #[.val (.ref d0), .val (.long u0), .second, .val (.int (0 : Int32)), .val (.long (0 : Int64)), .second, .val (.long rr), .second, .val (.long qq), .second, .val (.int jj)] []))
            refine Wp.step (fun t k => XS.lload X_23.here hx rfl (hb hby d14_97) rfl k) ?_
            show Wp p e below _ (T_23.setTop (mkF m 99 #[.val (.ref d0), .val (.long u0), .second, .val (.int (0 : Int32)), .val (.long (0 : Int64)), .second, .val (.long rr), .second, .val (.long qq), .second, .val (.int jj)] [(.long rr)]))
            refine Wp.step (fun t k => XS.iconst X_23.here hx rfl (hb hby d14_99) k) ?_
            show Wp p e below _ (T_23.setTop (mkF m 100 #[.val (.ref d0), .val (.long u0), .second, .val (.int (0 : Int32)), .val (.long (0 : Int64)), .second, .val (.long rr), .second, .val (.long qq), .second, .val (.int jj)] [(.int (1 : Int32)), (.long rr)]))
            refine Wp.step (fun t k => XS.lshl X_23.here hx rfl (hb hby d14_100) rfl k) ?_
            show Wp p e below _ (T_23.setTop (mkF m 101 #[.val (.ref d0), .val (.long u0), .second, .val (.int (0 : Int32)), .val (.long (0 : Int64)), .second, .val (.long rr), .second, .val (.long qq), .second, .val (.int jj)] [(.long (rr <<< ((1 : Int32) &&& 0x3f).toInt64))]))
            refine Wp.step (fun t k => XS.aloadN X_23.here hx rfl (hb hby d14_101) rfl rfl k) ?_
            show Wp p e below _ (T_23.setTop (mkF m 102 #[.val (.ref d0), .val (.long u0), .second, .val (.int (0 : Int32)), .val (.long (0 : Int64)), .second, .val (.long rr), .second, .val (.long qq), .second, .val (.int jj)] [(.ref d0), (.long (rr <<< ((1 : Int32) &&& 0x3f).toInt64))]))
            obtain ⟨T39, X39, e39, st39⟩ := getF X_23 hx hZ hown (host := "") (Or.inl (hw _ (List.mem_of_getElem? (i := 68) rfl))) Via.refl eT_23 q2_23 (g := (mkF m 102 #[.val (.ref d0), .val (.long u0), .second, .val (.int (0 : Int32)), .val (.long (0 : Int64)), .second, .val (.long rr), .second, .val (.long qq), .second, .val (.int jj)] [(.ref d0), (.long (rr <<< ((1 : Int32) &&& 0x3f).toInt64))])) rfl rfl (hb hby d14_102)
            refine Wp.step st39 ?_
            show Wp p e below _ (T39.setTop (mkF m 105 #[.val (.ref d0), .val (.long u0), .second, .val (.int (0 : Int32)), .val (.long (0 : Int64)), .second, .val (.long rr), .second, .val (.long qq), .second, .val (.int jj)] [(.long x1), (.long (rr <<< ((1 : Int32) &&& 0x3f).toInt64))]))
            refine Wp.step (fun t k => XS.iload X39.here hx rfl (hb hby d14_105) rfl k) ?_
            show Wp p e below _ (T39.setTop (mkF m 107 #[.val (.ref d0), .val (.long u0), .second, .val (.int (0 : Int32)), .val (.long (0 : Int64)), .second, .val (.long rr), .second, .val (.long qq), .second, .val (.int jj)] [(.int jj), (.long x1), (.long (rr <<< ((1 : Int32) &&& 0x3f).toInt64))]))
            refine Wp.step (fun t k => XS.lushr X39.here hx rfl (hb hby d14_107) rfl k) ?_
            show Wp p e below _ (T39.setTop (mkF m 108 #[.val (.ref d0), .val (.long u0), .second, .val (.int (0 : Int32)), .val (.long (0 : Int64)), .second, .val (.long rr), .second, .val (.long qq), .second, .val (.int jj)] [(.long ((x1.toUInt64 >>> (jj &&& 0x3f).toInt64.toUInt64).toInt64)), (.long (rr <<< ((1 : Int32) &&& 0x3f).toInt64))]))
            refine Wp.step (fun t k => XS.lconst X39.here hx rfl (hb hby d14_108) k) ?_
            show Wp p e below _ (T39.setTop (mkF m 109 #[.val (.ref d0), .val (.long u0), .second, .val (.int (0 : Int32)), .val (.long (0 : Int64)), .second, .val (.long rr), .second, .val (.long qq), .second, .val (.int jj)] [(.long (1 : Int64)), (.long ((x1.toUInt64 >>> (jj &&& 0x3f).toInt64.toUInt64).toInt64)), (.long (rr <<< ((1 : Int32) &&& 0x3f).toInt64))]))
            refine Wp.step (fun t k => XS.land X39.here hx rfl (hb hby d14_109) rfl k) ?_
            show Wp p e below _ (T39.setTop (mkF m 110 #[.val (.ref d0), .val (.long u0), .second, .val (.int (0 : Int32)), .val (.long (0 : Int64)), .second, .val (.long rr), .second, .val (.long qq), .second, .val (.int jj)] [(.long (((x1.toUInt64 >>> (jj &&& 0x3f).toInt64.toUInt64).toInt64) &&& (1 : Int64))), (.long (rr <<< ((1 : Int32) &&& 0x3f).toInt64))]))
            refine Wp.step (fun t k => XS.lor X39.here hx rfl (hb hby d14_110) rfl k) ?_
            show Wp p e below _ (T39.setTop (mkF m 111 #[.val (.ref d0), .val (.long u0), .second, .val (.int (0 : Int32)), .val (.long (0 : Int64)), .second, .val (.long rr), .second, .val (.long qq), .second, .val (.int jj)] [(.long ((rr <<< ((1 : Int32) &&& 0x3f).toInt64) ||| (((x1.toUInt64 >>> (jj &&& 0x3f).toInt64.toUInt64).toInt64) &&& (1 : Int64))))]))
            refine Wp.step (fun t k => XS.lstore X39.here hx rfl (hb hby d14_111) rfl (l' := #[.val (.ref d0), .val (.long u0), .second, .val (.int (0 : Int32)), .val (.long (0 : Int64)), .second, .val (.long ((rr <<< ((1 : Int32) &&& 0x3f).toInt64) ||| (((x1.toUInt64 >>> (jj &&& 0x3f).toInt64.toUInt64).toInt64) &&& (1 : Int64)))), .second, .val (.long qq), .second, .val (.int jj)]) rfl k) ?_
            show Wp p e below _ (T39.setTop (mkF m 113 #[.val (.ref d0), .val (.long u0), .second, .val (.int (0 : Int32)), .val (.long (0 : Int64)), .second, .val (.long ((rr <<< ((1 : Int32) &&& 0x3f).toInt64) ||| (((x1.toUInt64 >>> (jj &&& 0x3f).toInt64.toUInt64).toInt64) &&& (1 : Int64)))), .second, .val (.long qq), .second, .val (.int jj)] []))
            refine Wp.step (fun t k => XS.lload X39.here hx rfl (hb hby d14_113) rfl k) ?_
            show Wp p e below _ (T39.setTop (mkF m 115 #[.val (.ref d0), .val (.long u0), .second, .val (.int (0 : Int32)), .val (.long (0 : Int64)), .second, .val (.long ((rr <<< ((1 : Int32) &&& 0x3f).toInt64) ||| (((x1.toUInt64 >>> (jj &&& 0x3f).toInt64.toUInt64).toInt64) &&& (1 : Int64)))), .second, .val (.long qq), .second, .val (.int jj)] [(.long qq)]))
            refine Wp.step (fun t k => XS.iconst X39.here hx rfl (hb hby d14_115) k) ?_
            show Wp p e below _ (T39.setTop (mkF m 116 #[.val (.ref d0), .val (.long u0), .second, .val (.int (0 : Int32)), .val (.long (0 : Int64)), .second, .val (.long ((rr <<< ((1 : Int32) &&& 0x3f).toInt64) ||| (((x1.toUInt64 >>> (jj &&& 0x3f).toInt64.toUInt64).toInt64) &&& (1 : Int64)))), .second, .val (.long qq), .second, .val (.int jj)] [(.int (1 : Int32)), (.long qq)]))
            refine Wp.step (fun t k => XS.lshl X39.here hx rfl (hb hby d14_116) rfl k) ?_
            show Wp p e below _ (T39.setTop (mkF m 117 #[.val (.ref d0), .val (.long u0), .second, .val (.int (0 : Int32)), .val (.long (0 : Int64)), .second, .val (.long ((rr <<< ((1 : Int32) &&& 0x3f).toInt64) ||| (((x1.toUInt64 >>> (jj &&& 0x3f).toInt64.toUInt64).toInt64) &&& (1 : Int64)))), .second, .val (.long qq), .second, .val (.int jj)] [(.long (qq <<< ((1 : Int32) &&& 0x3f).toInt64))]))
            refine Wp.step (fun t k => XS.lstore X39.here hx rfl (hb hby d14_117) rfl (l' := #[.val (.ref d0), .val (.long u0), .second, .val (.int (0 : Int32)), .val (.long (0 : Int64)), .second, .val (.long ((rr <<< ((1 : Int32) &&& 0x3f).toInt64) ||| (((x1.toUInt64 >>> (jj &&& 0x3f).toInt64.toUInt64).toInt64) &&& (1 : Int64)))), .second, .val (.long (qq <<< ((1 : Int32) &&& 0x3f).toInt64)), .second, .val (.int jj)]) rfl k) ?_
            show Wp p e below _ (T39.setTop (mkF m 119 #[.val (.ref d0), .val (.long u0), .second, .val (.int (0 : Int32)), .val (.long (0 : Int64)), .second, .val (.long ((rr <<< ((1 : Int32) &&& 0x3f).toInt64) ||| (((x1.toUInt64 >>> (jj &&& 0x3f).toInt64.toUInt64).toInt64) &&& (1 : Int64)))), .second, .val (.long (qq <<< ((1 : Int32) &&& 0x3f).toInt64)), .second, .val (.int jj)] []))
            refine Wp.step (fun t k => XS.lload X39.here hx rfl (hb hby d14_119) rfl k) ?_
            show Wp p e below _ (T39.setTop (mkF m 121 #[.val (.ref d0), .val (.long u0), .second, .val (.int (0 : Int32)), .val (.long (0 : Int64)), .second, .val (.long ((rr <<< ((1 : Int32) &&& 0x3f).toInt64) ||| (((x1.toUInt64 >>> (jj &&& 0x3f).toInt64.toUInt64).toInt64) &&& (1 : Int64)))), .second, .val (.long (qq <<< ((1 : Int32) &&& 0x3f).toInt64)), .second, .val (.int jj)] [(.long ((rr <<< ((1 : Int32) &&& 0x3f).toInt64) ||| (((x1.toUInt64 >>> (jj &&& 0x3f).toInt64.toUInt64).toInt64) &&& (1 : Int64))))]))
            refine Wp.step (fun t k => XS.lloadN X39.here hx rfl (hb hby d14_121) rfl k) ?_
            show Wp p e below _ (T39.setTop (mkF m 122 #[.val (.ref d0), .val (.long u0), .second, .val (.int (0 : Int32)), .val (.long (0 : Int64)), .second, .val (.long ((rr <<< ((1 : Int32) &&& 0x3f).toInt64) ||| (((x1.toUInt64 >>> (jj &&& 0x3f).toInt64.toUInt64).toInt64) &&& (1 : Int64)))), .second, .val (.long (qq <<< ((1 : Int32) &&& 0x3f).toInt64)), .second, .val (.int jj)] [(.long u0), (.long ((rr <<< ((1 : Int32) &&& 0x3f).toInt64) ||| (((x1.toUInt64 >>> (jj &&& 0x3f).toInt64.toUInt64).toInt64) &&& (1 : Int64))))]))
            obtain ⟨_, _, ⟨T40, L40, k40, n40⟩, -, X40, ⟨Lc40, hQ40, l40, y40, z40⟩, st40⟩ := Jvm.LawKit.callS X39 hx (y := (⟨"java/lang/Long", "compareUnsigned", "(JJ)I"⟩ : MethodName)) hown (mvT hZ (hw _ (List.mem_of_getElem? (i := 182) rfl))) (mvT hZ (hw _ (List.mem_of_getElem? (i := 183) rfl))) (mvT hZ (hw _ (List.mem_of_getElem? (i := 89) rfl))) (mvT hZ (hw _ (List.mem_of_getElem? (i := 184) rfl))) (by decide) (backOf (W := 0) (rm32 l Z a0 hw [] ((rr <<< ((1 : Int32) &&& 0x3f).toInt64) ||| (((x1.toUInt64 >>> (jj &&& 0x3f).toInt64.toUInt64).toInt64) &&& (1 : Int64))) u0  hh_23 n0 (Nat.le_trans Z0 KK_23.1)  ) hZ (hw _ (List.mem_of_getElem? (i := 184) rfl)) (hw _ (List.mem_of_getElem? (i := 89) rfl)) (by decide) (by decide)) (g := (mkF m 122 #[.val (.ref d0), .val (.long u0), .second, .val (.int (0 : Int32)), .val (.long (0 : Int64)), .second, .val (.long ((rr <<< ((1 : Int32) &&& 0x3f).toInt64) ||| (((x1.toUInt64 >>> (jj &&& 0x3f).toInt64.toUInt64).toInt64) &&& (1 : Int64)))), .second, .val (.long (qq <<< ((1 : Int32) &&& 0x3f).toInt64)), .second, .val (.int jj)] [(.long u0), (.long ((rr <<< ((1 : Int32) &&& 0x3f).toInt64) ||| (((x1.toUInt64 >>> (jj &&& 0x3f).toInt64.toUInt64).toInt64) &&& (1 : Int64))))])) rfl (by rw [hml]; rfl) (argsL := [(.long ((rr <<< ((1 : Int32) &&& 0x3f).toInt64) ||| (((x1.toUInt64 >>> (jj &&& 0x3f).toInt64.toUInt64).toInt64) &&& (1 : Int64)))), (.long u0)]) (rest := []) (lenOf pd_28JJ29I rfl) rfl (by show 2 * 0 + _ ≤ _; exact Nat.le_of_eq rfl) (hb hby d14_122) (fun _ _ => ⟨rfl, e39, (by decide : 0 + 0 ≤ _), (by decide : 0 + 0 ≤ _)⟩)
            dsimp only [Pt.U, Pt.locs, Pt.cells, Pt.slots] at X40 l40 y40 z40 st40 hQ40
            subst l40 y40 z40
            obtain ⟨rfl, N40q, e40⟩ := hQ40
            have N40 := Fr.app NN_23 N40q
            refine Wp.step st40 ?_
            show Wp p e below _ (T40.setTop (mkF m 125 #[.val (.ref d0), .val (.long u0), .second, .val (.int (0 : Int32)), .val (.long (0 : Int64)), .second, .val (.long ((rr <<< ((1 : Int32) &&& 0x3f).toInt64) ||| (((x1.toUInt64 >>> (jj &&& 0x3f).toInt64.toUInt64).toInt64) &&& (1 : Int64)))), .second, .val (.long (qq <<< ((1 : Int32) &&& 0x3f).toInt64)), .second, .val (.int jj)] [(.int (own_cu ((rr <<< ((1 : Int32) &&& 0x3f).toInt64) ||| (((x1.toUInt64 >>> (jj &&& 0x3f).toInt64.toUInt64).toInt64) &&& (1 : Int64))) u0))]))
            by_cases hc41 : (own_cu ((rr <<< ((1 : Int32) &&& 0x3f).toInt64) ||| (((x1.toUInt64 >>> (jj &&& 0x3f).toInt64.toUInt64).toInt64) &&& (1 : Int64))) u0) < (0 : Int32)
            · refine Wp.step (fun t k => XS.ifYes X40.here hx rfl (pc0 := 125) (pc' := 140) rfl (hb hby d14_125) rfl ((if0 _ _).trans (tlt hc41).1) (by decide) (by decide) k) ?_
              show Wp p e below _ (T40.setTop (mkF m 140 #[.val (.ref d0), .val (.long u0), .second, .val (.int (0 : Int32)), .val (.long (0 : Int64)), .second, .val (.long ((rr <<< ((1 : Int32) &&& 0x3f).toInt64) ||| (((x1.toUInt64 >>> (jj &&& 0x3f).toInt64.toUInt64).toInt64) &&& (1 : Int64)))), .second, .val (.long (qq <<< ((1 : Int32) &&& 0x3f).toInt64)), .second, .val (.int jj)] []))
              refine Wp.step (fun t k => XS.iinc X40.here hx rfl (hb hby d14_140) rfl (l' := #[.val (.ref d0), .val (.long u0), .second, .val (.int (0 : Int32)), .val (.long (0 : Int64)), .second, .val (.long ((rr <<< ((1 : Int32) &&& 0x3f).toInt64) ||| (((x1.toUInt64 >>> (jj &&& 0x3f).toInt64.toUInt64).toInt64) &&& (1 : Int64)))), .second, .val (.long (qq <<< ((1 : Int32) &&& 0x3f).toInt64)), .second, .val (.int (jj + (-1 : Int32)))]) rfl k) ?_
              show Wp p e below _ (T40.setTop (mkF m 143 #[.val (.ref d0), .val (.long u0), .second, .val (.int (0 : Int32)), .val (.long (0 : Int64)), .second, .val (.long ((rr <<< ((1 : Int32) &&& 0x3f).toInt64) ||| (((x1.toUInt64 >>> (jj &&& 0x3f).toInt64.toUInt64).toInt64) &&& (1 : Int64)))), .second, .val (.long (qq <<< ((1 : Int32) &&& 0x3f).toInt64)), .second, .val (.int (jj + (-1 : Int32)))] []))
              refine Wp.step (fun t k => XS.goto X40.here hx rfl (pc0 := 143) (pc' := 92) rfl (hb hby d14_143) (by decide) (by decide) k) ?_
              show Wp p e below _ (T40.setTop (mkF m 92 #[.val (.ref d0), .val (.long u0), .second, .val (.int (0 : Int32)), .val (.long (0 : Int64)), .second, .val (.long ((rr <<< ((1 : Int32) &&& 0x3f).toInt64) ||| (((x1.toUInt64 >>> (jj &&& 0x3f).toInt64.toUInt64).toInt64) &&& (1 : Int64)))), .second, .val (.long (qq <<< ((1 : Int32) &&& 0x3f).toInt64)), .second, .val (.int (jj + (-1 : Int32)))] []))
              exact ih_23 ((rr <<< ((1 : Int32) &&& 0x3f).toInt64) ||| (((x1.toUInt64 >>> (jj &&& 0x3f).toInt64.toUInt64).toInt64) &&& (1 : Int64))) (qq <<< ((1 : Int32) &&& 0x3f).toInt64) (jj + (-1 : Int32)) _ _ T40 X40 e40 N40 KK_23 q0_23 q1_23 q2_23 ((own_inv_step (own_u_pos hd).1 hI hj).1 hc41) (by omega)
            · refine Wp.step (fun t k => XS.ifNo X40.here hx rfl (hb hby d14_125) rfl ((if0 _ _).trans (flt hc41).1) k) ?_
              show Wp p e below _ (T40.setTop (mkF m 128 #[.val (.ref d0), .val (.long u0), .second, .val (.int (0 : Int32)), .val (.long (0 : Int64)), .second, .val (.long ((rr <<< ((1 : Int32) &&& 0x3f).toInt64) ||| (((x1.toUInt64 >>> (jj &&& 0x3f).toInt64.toUInt64).toInt64) &&& (1 : Int64)))), .second, .val (.long (qq <<< ((1 : Int32) &&& 0x3f).toInt64)), .second, .val (.int jj)] []))
              refine Wp.step (fun t k => XS.lload X40.here hx rfl (hb hby d14_128) rfl k) ?_
              show Wp p e below _ (T40.setTop (mkF m 130 #[.val (.ref d0), .val (.long u0), .second, .val (.int (0 : Int32)), .val (.long (0 : Int64)), .second, .val (.long ((rr <<< ((1 : Int32) &&& 0x3f).toInt64) ||| (((x1.toUInt64 >>> (jj &&& 0x3f).toInt64.toUInt64).toInt64) &&& (1 : Int64)))), .second, .val (.long (qq <<< ((1 : Int32) &&& 0x3f).toInt64)), .second, .val (.int jj)] [(.long ((rr <<< ((1 : Int32) &&& 0x3f).toInt64) ||| (((x1.toUInt64 >>> (jj &&& 0x3f).toInt64.toUInt64).toInt64) &&& (1 : Int64))))]))
              refine Wp.step (fun t k => XS.lloadN X40.here hx rfl (hb hby d14_130) rfl k) ?_
              show Wp p e below _ (T40.setTop (mkF m 131 #[.val (.ref d0), .val (.long u0), .second, .val (.int (0 : Int32)), .val (.long (0 : Int64)), .second, .val (.long ((rr <<< ((1 : Int32) &&& 0x3f).toInt64) ||| (((x1.toUInt64 >>> (jj &&& 0x3f).toInt64.toUInt64).toInt64) &&& (1 : Int64)))), .second, .val (.long (qq <<< ((1 : Int32) &&& 0x3f).toInt64)), .second, .val (.int jj)] [(.long u0), (.long ((rr <<< ((1 : Int32) &&& 0x3f).toInt64) ||| (((x1.toUInt64 >>> (jj &&& 0x3f).toInt64.toUInt64).toInt64) &&& (1 : Int64))))]))
              refine Wp.step (fun t k => XS.lsub X40.here hx rfl (hb hby d14_131) rfl k) ?_
              show Wp p e below _ (T40.setTop (mkF m 132 #[.val (.ref d0), .val (.long u0), .second, .val (.int (0 : Int32)), .val (.long (0 : Int64)), .second, .val (.long ((rr <<< ((1 : Int32) &&& 0x3f).toInt64) ||| (((x1.toUInt64 >>> (jj &&& 0x3f).toInt64.toUInt64).toInt64) &&& (1 : Int64)))), .second, .val (.long (qq <<< ((1 : Int32) &&& 0x3f).toInt64)), .second, .val (.int jj)] [(.long (((rr <<< ((1 : Int32) &&& 0x3f).toInt64) ||| (((x1.toUInt64 >>> (jj &&& 0x3f).toInt64.toUInt64).toInt64) &&& (1 : Int64))) - u0))]))
              refine Wp.step (fun t k => XS.lstore X40.here hx rfl (hb hby d14_132) rfl (l' := #[.val (.ref d0), .val (.long u0), .second, .val (.int (0 : Int32)), .val (.long (0 : Int64)), .second, .val (.long (((rr <<< ((1 : Int32) &&& 0x3f).toInt64) ||| (((x1.toUInt64 >>> (jj &&& 0x3f).toInt64.toUInt64).toInt64) &&& (1 : Int64))) - u0)), .second, .val (.long (qq <<< ((1 : Int32) &&& 0x3f).toInt64)), .second, .val (.int jj)]) rfl k) ?_
              show Wp p e below _ (T40.setTop (mkF m 134 #[.val (.ref d0), .val (.long u0), .second, .val (.int (0 : Int32)), .val (.long (0 : Int64)), .second, .val (.long (((rr <<< ((1 : Int32) &&& 0x3f).toInt64) ||| (((x1.toUInt64 >>> (jj &&& 0x3f).toInt64.toUInt64).toInt64) &&& (1 : Int64))) - u0)), .second, .val (.long (qq <<< ((1 : Int32) &&& 0x3f).toInt64)), .second, .val (.int jj)] []))
              refine Wp.step (fun t k => XS.lload X40.here hx rfl (hb hby d14_134) rfl k) ?_
              show Wp p e below _ (T40.setTop (mkF m 136 #[.val (.ref d0), .val (.long u0), .second, .val (.int (0 : Int32)), .val (.long (0 : Int64)), .second, .val (.long (((rr <<< ((1 : Int32) &&& 0x3f).toInt64) ||| (((x1.toUInt64 >>> (jj &&& 0x3f).toInt64.toUInt64).toInt64) &&& (1 : Int64))) - u0)), .second, .val (.long (qq <<< ((1 : Int32) &&& 0x3f).toInt64)), .second, .val (.int jj)] [(.long (qq <<< ((1 : Int32) &&& 0x3f).toInt64))]))
              refine Wp.step (fun t k => XS.lconst X40.here hx rfl (hb hby d14_136) k) ?_
              show Wp p e below _ (T40.setTop (mkF m 137 #[.val (.ref d0), .val (.long u0), .second, .val (.int (0 : Int32)), .val (.long (0 : Int64)), .second, .val (.long (((rr <<< ((1 : Int32) &&& 0x3f).toInt64) ||| (((x1.toUInt64 >>> (jj &&& 0x3f).toInt64.toUInt64).toInt64) &&& (1 : Int64))) - u0)), .second, .val (.long (qq <<< ((1 : Int32) &&& 0x3f).toInt64)), .second, .val (.int jj)] [(.long (1 : Int64)), (.long (qq <<< ((1 : Int32) &&& 0x3f).toInt64))]))
              refine Wp.step (fun t k => XS.lor X40.here hx rfl (hb hby d14_137) rfl k) ?_
              show Wp p e below _ (T40.setTop (mkF m 138 #[.val (.ref d0), .val (.long u0), .second, .val (.int (0 : Int32)), .val (.long (0 : Int64)), .second, .val (.long (((rr <<< ((1 : Int32) &&& 0x3f).toInt64) ||| (((x1.toUInt64 >>> (jj &&& 0x3f).toInt64.toUInt64).toInt64) &&& (1 : Int64))) - u0)), .second, .val (.long (qq <<< ((1 : Int32) &&& 0x3f).toInt64)), .second, .val (.int jj)] [(.long ((qq <<< ((1 : Int32) &&& 0x3f).toInt64) ||| (1 : Int64)))]))
              refine Wp.step (fun t k => XS.lstore X40.here hx rfl (hb hby d14_138) rfl (l' := #[.val (.ref d0), .val (.long u0), .second, .val (.int (0 : Int32)), .val (.long (0 : Int64)), .second, .val (.long (((rr <<< ((1 : Int32) &&& 0x3f).toInt64) ||| (((x1.toUInt64 >>> (jj &&& 0x3f).toInt64.toUInt64).toInt64) &&& (1 : Int64))) - u0)), .second, .val (.long ((qq <<< ((1 : Int32) &&& 0x3f).toInt64) ||| (1 : Int64))), .second, .val (.int jj)]) rfl k) ?_
              show Wp p e below _ (T40.setTop (mkF m 140 #[.val (.ref d0), .val (.long u0), .second, .val (.int (0 : Int32)), .val (.long (0 : Int64)), .second, .val (.long (((rr <<< ((1 : Int32) &&& 0x3f).toInt64) ||| (((x1.toUInt64 >>> (jj &&& 0x3f).toInt64.toUInt64).toInt64) &&& (1 : Int64))) - u0)), .second, .val (.long ((qq <<< ((1 : Int32) &&& 0x3f).toInt64) ||| (1 : Int64))), .second, .val (.int jj)] []))
              refine Wp.step (fun t k => XS.iinc X40.here hx rfl (hb hby d14_140) rfl (l' := #[.val (.ref d0), .val (.long u0), .second, .val (.int (0 : Int32)), .val (.long (0 : Int64)), .second, .val (.long (((rr <<< ((1 : Int32) &&& 0x3f).toInt64) ||| (((x1.toUInt64 >>> (jj &&& 0x3f).toInt64.toUInt64).toInt64) &&& (1 : Int64))) - u0)), .second, .val (.long ((qq <<< ((1 : Int32) &&& 0x3f).toInt64) ||| (1 : Int64))), .second, .val (.int (jj + (-1 : Int32)))]) rfl k) ?_
              show Wp p e below _ (T40.setTop (mkF m 143 #[.val (.ref d0), .val (.long u0), .second, .val (.int (0 : Int32)), .val (.long (0 : Int64)), .second, .val (.long (((rr <<< ((1 : Int32) &&& 0x3f).toInt64) ||| (((x1.toUInt64 >>> (jj &&& 0x3f).toInt64.toUInt64).toInt64) &&& (1 : Int64))) - u0)), .second, .val (.long ((qq <<< ((1 : Int32) &&& 0x3f).toInt64) ||| (1 : Int64))), .second, .val (.int (jj + (-1 : Int32)))] []))
              refine Wp.step (fun t k => XS.goto X40.here hx rfl (pc0 := 143) (pc' := 92) rfl (hb hby d14_143) (by decide) (by decide) k) ?_
              show Wp p e below _ (T40.setTop (mkF m 92 #[.val (.ref d0), .val (.long u0), .second, .val (.int (0 : Int32)), .val (.long (0 : Int64)), .second, .val (.long (((rr <<< ((1 : Int32) &&& 0x3f).toInt64) ||| (((x1.toUInt64 >>> (jj &&& 0x3f).toInt64.toUInt64).toInt64) &&& (1 : Int64))) - u0)), .second, .val (.long ((qq <<< ((1 : Int32) &&& 0x3f).toInt64) ||| (1 : Int64))), .second, .val (.int (jj + (-1 : Int32)))] []))
              exact ih_23 (((rr <<< ((1 : Int32) &&& 0x3f).toInt64) ||| (((x1.toUInt64 >>> (jj &&& 0x3f).toInt64.toUInt64).toInt64) &&& (1 : Int64))) - u0) ((qq <<< ((1 : Int32) &&& 0x3f).toInt64) ||| (1 : Int64)) (jj + (-1 : Int32)) _ _ T40 X40 e40 N40 KK_23 q0_23 q1_23 q2_23 ((own_inv_step (own_u_pos hd).1 hI hj).2 hc41) (by omega)
      exact loop23 (1000) x0 (0 : Int64) (63 : Int32) _ _ T4 X4 e4 N0 K0 E_d0 F_high_d0 F_low_d0 (own_inv_start (own_hi_lt hU (own_u_pos hbb).1 (own_u_pos hd).2)) (by omega)
  · have hc3n := fun q => hc3 ((lw_eq _ _).mpr q)
    refine Wp.step (fun t k => XS.ifYes X2.here hx rfl (pc0 := 26) (pc' := 33) rfl (hb hby d14_26) rfl ((if0 _ _).trans (feq hc3).2) (by decide) (by decide) k) ?_
    show Wp p e below _ (T2.setTop (mkF m 33 #[.val (.ref d0), .val (.long u0), .second, .val (.int (0 : Int32)), .unset, .unset, .unset, .unset, .unset, .unset, .unset] []))
    refine Wp.step (fun t k => XS.aloadN X2.here hx rfl (hb hby d14_33) rfl rfl k) ?_
    show Wp p e below _ (T2.setTop (mkF m 34 #[.val (.ref d0), .val (.long u0), .second, .val (.int (0 : Int32)), .unset, .unset, .unset, .unset, .unset, .unset, .unset] [(.ref d0)]))
    obtain ⟨T42, X42, e42, st42⟩ := getF X2 hx hZ hown (host := "") (Or.inl (hw _ (List.mem_of_getElem? (i := 66) rfl))) Via.refl e2 F_high_d0 (g := (mkF m 34 #[.val (.ref d0), .val (.long u0), .second, .val (.int (0 : Int32)), .unset, .unset, .unset, .unset, .unset, .unset, .unset] [(.ref d0)])) rfl rfl (hb hby d14_34)
    refine Wp.step st42 ?_
    show Wp p e below _ (T42.setTop (mkF m 37 #[.val (.ref d0), .val (.long u0), .second, .val (.int (0 : Int32)), .unset, .unset, .unset, .unset, .unset, .unset, .unset] [(.long x0)]))
    refine Wp.step (fun t k => XS.lloadN X42.here hx rfl (hb hby d14_37) rfl k) ?_
    show Wp p e below _ (T42.setTop (mkF m 38 #[.val (.ref d0), .val (.long u0), .second, .val (.int (0 : Int32)), .unset, .unset, .unset, .unset, .unset, .unset, .unset] [(.long u0), (.long x0)]))
    obtain ⟨_, _, ⟨T43, L43, k43, n43⟩, -, X43, ⟨Lc43, hQ43, l43, y43, z43⟩, st43⟩ := Jvm.LawKit.callS X42 hx (y := (⟨"java/lang/Long", "divideUnsigned", "(JJ)J"⟩ : MethodName)) hown (mvT hZ (hw _ (List.mem_of_getElem? (i := 87) rfl))) (mvT hZ (hw _ (List.mem_of_getElem? (i := 88) rfl))) (mvT hZ (hw _ (List.mem_of_getElem? (i := 89) rfl))) (mvT hZ (hw _ (List.mem_of_getElem? (i := 90) rfl))) (by decide) (backOf (W := 0) (rm15 l Z a0 hw [] x0 u0  h0 n0 (Nat.le_trans Z0 K0.1)  hd) hZ (hw _ (List.mem_of_getElem? (i := 90) rfl)) (hw _ (List.mem_of_getElem? (i := 89) rfl)) (by decide) (by decide)) (g := (mkF m 38 #[.val (.ref d0), .val (.long u0), .second, .val (.int (0 : Int32)), .unset, .unset, .unset, .unset, .unset, .unset, .unset] [(.long u0), (.long x0)])) rfl (by rw [hml]; rfl) (argsL := [(.long x0), (.long u0)]) (rest := []) (lenOf pd_28JJ29J rfl) rfl (by show 2 * 0 + _ ≤ _; exact Nat.le_of_eq rfl) (hb hby d14_38) (fun _ _ => ⟨rfl, e42, (by decide : 0 + 0 ≤ _), (by decide : 0 + 0 ≤ _)⟩)
    dsimp only [Pt.U, Pt.locs, Pt.cells, Pt.slots] at X43 l43 y43 z43 st43 hQ43
    subst l43 y43 z43
    obtain ⟨rfl, N43q, e43⟩ := hQ43
    have N43 := Fr.app N0 N43q
    refine Wp.step st43 ?_
    show Wp p e below _ (T43.setTop (mkF m 41 #[.val (.ref d0), .val (.long u0), .second, .val (.int (0 : Int32)), .unset, .unset, .unset, .unset, .unset, .unset, .unset] [(.long (own_dq x0 u0))]))
    rw [show (own_dq x0 u0) = (0 : Int64) from own_divhi hbb hd hU]
    refine Wp.step (fun t k => XS.lstore X43.here hx rfl (hb hby d14_41) rfl (l' := #[.val (.ref d0), .val (.long u0), .second, .val (.int (0 : Int32)), .val (.long (0 : Int64)), .second, .unset, .unset, .unset, .unset, .unset]) rfl k) ?_
    show Wp p e below _ (T43.setTop (mkF m 43 #[.val (.ref d0), .val (.long u0), .second, .val (.int (0 : Int32)), .val (.long (0 : Int64)), .second, .unset, .unset, .unset, .unset, .unset] []))
    refine Wp.step (fun t k => XS.aloadN X43.here hx rfl (hb hby d14_43) rfl rfl k) ?_
    show Wp p e below _ (T43.setTop (mkF m 44 #[.val (.ref d0), .val (.long u0), .second, .val (.int (0 : Int32)), .val (.long (0 : Int64)), .second, .unset, .unset, .unset, .unset, .unset] [(.ref d0)]))
    obtain ⟨T44, X44, e44, st44⟩ := getF X43 hx hZ hown (host := "") (Or.inl (hw _ (List.mem_of_getElem? (i := 66) rfl))) Via.refl e43 F_high_d0 (g := (mkF m 44 #[.val (.ref d0), .val (.long u0), .second, .val (.int (0 : Int32)), .val (.long (0 : Int64)), .second, .unset, .unset, .unset, .unset, .unset] [(.ref d0)])) rfl rfl (hb hby d14_44)
    refine Wp.step st44 ?_
    show Wp p e below _ (T44.setTop (mkF m 47 #[.val (.ref d0), .val (.long u0), .second, .val (.int (0 : Int32)), .val (.long (0 : Int64)), .second, .unset, .unset, .unset, .unset, .unset] [(.long x0)]))
    refine Wp.step (fun t k => XS.lload X44.here hx rfl (hb hby d14_47) rfl k) ?_
    show Wp p e below _ (T44.setTop (mkF m 49 #[.val (.ref d0), .val (.long u0), .second, .val (.int (0 : Int32)), .val (.long (0 : Int64)), .second, .unset, .unset, .unset, .unset, .unset] [(.long (0 : Int64)), (.long x0)]))
    refine Wp.step (fun t k => XS.lloadN X44.here hx rfl (hb hby d14_49) rfl k) ?_
    show Wp p e below _ (T44.setTop (mkF m 50 #[.val (.ref d0), .val (.long u0), .second, .val (.int (0 : Int32)), .val (.long (0 : Int64)), .second, .unset, .unset, .unset, .unset, .unset] [(.long u0), (.long (0 : Int64)), (.long x0)]))
    refine Wp.step (fun t k => XS.lmul X44.here hx rfl (hb hby d14_50) rfl k) ?_
    show Wp p e below _ (T44.setTop (mkF m 51 #[.val (.ref d0), .val (.long u0), .second, .val (.int (0 : Int32)), .val (.long (0 : Int64)), .second, .unset, .unset, .unset, .unset, .unset] [(.long ((0 : Int64) * u0)), (.long x0)]))
    refine Wp.step (fun t k => XS.lsub X44.here hx rfl (hb hby d14_51) rfl k) ?_
    show Wp p e below _ (T44.setTop (mkF m 52 #[.val (.ref d0), .val (.long u0), .second, .val (.int (0 : Int32)), .val (.long (0 : Int64)), .second, .unset, .unset, .unset, .unset, .unset] [(.long (x0 - ((0 : Int64) * u0)))]))
    rw [show (x0 - ((0 : Int64) * u0)) = x0 from (by rw [Int64.zero_mul, Int64.sub_zero])]
    refine Wp.step (fun t k => XS.lstore X44.here hx rfl (hb hby d14_52) rfl (l' := #[.val (.ref d0), .val (.long u0), .second, .val (.int (0 : Int32)), .val (.long (0 : Int64)), .second, .val (.long x0), .second, .unset, .unset, .unset]) rfl k) ?_
    show Wp p e below _ (T44.setTop (mkF m 54 #[.val (.ref d0), .val (.long u0), .second, .val (.int (0 : Int32)), .val (.long (0 : Int64)), .second, .val (.long x0), .second, .unset, .unset, .unset] []))
    refine Wp.step (fun t k => XS.lload X44.here hx rfl (hb hby d14_54) rfl k) ?_
    show Wp p e below _ (T44.setTop (mkF m 56 #[.val (.ref d0), .val (.long u0), .second, .val (.int (0 : Int32)), .val (.long (0 : Int64)), .second, .val (.long x0), .second, .unset, .unset, .unset] [(.long x0)]))
    refine Wp.step (fun t k => XS.lconst X44.here hx rfl (hb hby d14_56) k) ?_
    show Wp p e below _ (T44.setTop (mkF m 57 #[.val (.ref d0), .val (.long u0), .second, .val (.int (0 : Int32)), .val (.long (0 : Int64)), .second, .val (.long x0), .second, .unset, .unset, .unset] [(.long (0 : Int64)), (.long x0)]))
    refine Wp.step (fun t k => XS.lcmp X44.here hx rfl (hb hby d14_57) rfl k) ?_
    show Wp p e below _ (T44.setTop (mkF m 58 #[.val (.ref d0), .val (.long u0), .second, .val (.int (0 : Int32)), .val (.long (0 : Int64)), .second, .val (.long x0), .second, .unset, .unset, .unset] [(.int (lcmpW x0 (0 : Int64)))]))
    by_cases hc45 : (lcmpW x0 (0 : Int64)) = (0 : Int32)
    · have hc45n := (lw_eq _ _).mp hc45
      refine Wp.step (fun t k => XS.ifNo X44.here hx rfl (hb hby d14_58) rfl ((if0 _ _).trans (teq hc45).2) k) ?_
      show Wp p e below _ (T44.setTop (mkF m 61 #[.val (.ref d0), .val (.long u0), .second, .val (.int (0 : Int32)), .val (.long (0 : Int64)), .second, .val (.long x0), .second, .unset, .unset, .unset] []))
      refine Wp.step (fun t k => XS.aloadN X44.here hx rfl (hb hby d14_61) rfl rfl k) ?_
      show Wp p e below _ (T44.setTop (mkF m 62 #[.val (.ref d0), .val (.long u0), .second, .val (.int (0 : Int32)), .val (.long (0 : Int64)), .second, .val (.long x0), .second, .unset, .unset, .unset] [(.ref d0)]))
      obtain ⟨T46, X46, e46, st46⟩ := getF X44 hx hZ hown (host := "") (Or.inl (hw _ (List.mem_of_getElem? (i := 68) rfl))) Via.refl e44 F_low_d0 (g := (mkF m 62 #[.val (.ref d0), .val (.long u0), .second, .val (.int (0 : Int32)), .val (.long (0 : Int64)), .second, .val (.long x0), .second, .unset, .unset, .unset] [(.ref d0)])) rfl rfl (hb hby d14_62)
      refine Wp.step st46 ?_
      show Wp p e below _ (T46.setTop (mkF m 65 #[.val (.ref d0), .val (.long u0), .second, .val (.int (0 : Int32)), .val (.long (0 : Int64)), .second, .val (.long x0), .second, .unset, .unset, .unset] [(.long x1)]))
      refine Wp.step (fun t k => XS.lloadN X46.here hx rfl (hb hby d14_65) rfl k) ?_
      show Wp p e below _ (T46.setTop (mkF m 66 #[.val (.ref d0), .val (.long u0), .second, .val (.int (0 : Int32)), .val (.long (0 : Int64)), .second, .val (.long x0), .second, .unset, .unset, .unset] [(.long u0), (.long x1)]))
      obtain ⟨_, _, ⟨T47, L47, k47, n47⟩, -, X47, ⟨Lc47, hQ47, l47, y47, z47⟩, st47⟩ := Jvm.LawKit.callS X46 hx (y := (⟨"java/lang/Long", "divideUnsigned", "(JJ)J"⟩ : MethodName)) hown (mvT hZ (hw _ (List.mem_of_getElem? (i := 87) rfl))) (mvT hZ (hw _ (List.mem_of_getElem? (i := 88) rfl))) (mvT hZ (hw _ (List.mem_of_getElem? (i := 89) rfl))) (mvT hZ (hw _ (List.mem_of_getElem? (i := 90) rfl))) (by decide) (backOf (W := 0) (rm15 l Z a0 hw [] x1 u0  h0 n0 (Nat.le_trans Z0 K0.1)  hd) hZ (hw _ (List.mem_of_getElem? (i := 90) rfl)) (hw _ (List.mem_of_getElem? (i := 89) rfl)) (by decide) (by decide)) (g := (mkF m 66 #[.val (.ref d0), .val (.long u0), .second, .val (.int (0 : Int32)), .val (.long (0 : Int64)), .second, .val (.long x0), .second, .unset, .unset, .unset] [(.long u0), (.long x1)])) rfl (by rw [hml]; rfl) (argsL := [(.long x1), (.long u0)]) (rest := []) (lenOf pd_28JJ29J rfl) rfl (by show 2 * 0 + _ ≤ _; exact Nat.le_of_eq rfl) (hb hby d14_66) (fun _ _ => ⟨rfl, e46, (by decide : 0 + 0 ≤ _), (by decide : 0 + 0 ≤ _)⟩)
      dsimp only [Pt.U, Pt.locs, Pt.cells, Pt.slots] at X47 l47 y47 z47 st47 hQ47
      subst l47 y47 z47
      obtain ⟨rfl, N47q, e47⟩ := hQ47
      have N47 := Fr.app N43 N47q
      refine Wp.step st47 ?_
      show Wp p e below _ (T47.setTop (mkF m 69 #[.val (.ref d0), .val (.long u0), .second, .val (.int (0 : Int32)), .val (.long (0 : Int64)), .second, .val (.long x0), .second, .unset, .unset, .unset] [(.long (own_dq x1 u0))]))
      rw [show (own_dq x1 u0) = b0 from own_divlo hbb hd hU ((lw_eq _ _).mp hc45)]
      refine Wp.step (fun t k => XS.lstore X47.here hx rfl (hb hby d14_69) rfl (l' := #[.val (.ref d0), .val (.long u0), .second, .val (.int (0 : Int32)), .val (.long (0 : Int64)), .second, .val (.long x0), .second, .val (.long b0), .second, .unset]) rfl k) ?_
      show Wp p e below _ (T47.setTop (mkF m 71 #[.val (.ref d0), .val (.long u0), .second, .val (.int (0 : Int32)), .val (.long (0 : Int64)), .second, .val (.long x0), .second, .val (.long b0), .second, .unset] []))
      refine Wp.step (fun t k => XS.aloadN X47.here hx rfl (hb hby d14_71) rfl rfl k) ?_
      show Wp p e below _ (T47.setTop (mkF m 72 #[.val (.ref d0), .val (.long u0), .second, .val (.int (0 : Int32)), .val (.long (0 : Int64)), .second, .val (.long x0), .second, .val (.long b0), .second, .unset] [(.ref d0)]))
      obtain ⟨T48, X48, e48, st48⟩ := getF X47 hx hZ hown (host := "") (Or.inl (hw _ (List.mem_of_getElem? (i := 68) rfl))) Via.refl e47 F_low_d0 (g := (mkF m 72 #[.val (.ref d0), .val (.long u0), .second, .val (.int (0 : Int32)), .val (.long (0 : Int64)), .second, .val (.long x0), .second, .val (.long b0), .second, .unset] [(.ref d0)])) rfl rfl (hb hby d14_72)
      refine Wp.step st48 ?_
      show Wp p e below _ (T48.setTop (mkF m 75 #[.val (.ref d0), .val (.long u0), .second, .val (.int (0 : Int32)), .val (.long (0 : Int64)), .second, .val (.long x0), .second, .val (.long b0), .second, .unset] [(.long x1)]))
      refine Wp.step (fun t k => XS.lload X48.here hx rfl (hb hby d14_75) rfl k) ?_
      show Wp p e below _ (T48.setTop (mkF m 77 #[.val (.ref d0), .val (.long u0), .second, .val (.int (0 : Int32)), .val (.long (0 : Int64)), .second, .val (.long x0), .second, .val (.long b0), .second, .unset] [(.long b0), (.long x1)]))
      refine Wp.step (fun t k => XS.lloadN X48.here hx rfl (hb hby d14_77) rfl k) ?_
      show Wp p e below _ (T48.setTop (mkF m 78 #[.val (.ref d0), .val (.long u0), .second, .val (.int (0 : Int32)), .val (.long (0 : Int64)), .second, .val (.long x0), .second, .val (.long b0), .second, .unset] [(.long u0), (.long b0), (.long x1)]))
      refine Wp.step (fun t k => XS.lmul X48.here hx rfl (hb hby d14_78) rfl k) ?_
      show Wp p e below _ (T48.setTop (mkF m 79 #[.val (.ref d0), .val (.long u0), .second, .val (.int (0 : Int32)), .val (.long (0 : Int64)), .second, .val (.long x0), .second, .val (.long b0), .second, .unset] [(.long (b0 * u0)), (.long x1)]))
      refine Wp.step (fun t k => XS.lsub X48.here hx rfl (hb hby d14_79) rfl k) ?_
      show Wp p e below _ (T48.setTop (mkF m 80 #[.val (.ref d0), .val (.long u0), .second, .val (.int (0 : Int32)), .val (.long (0 : Int64)), .second, .val (.long x0), .second, .val (.long b0), .second, .unset] [(.long (x1 - (b0 * u0)))]))
      refine Wp.step (fun t k => XS.lstore X48.here hx rfl (hb hby d14_80) rfl (l' := #[.val (.ref d0), .val (.long u0), .second, .val (.int (0 : Int32)), .val (.long (0 : Int64)), .second, .val (.long (x1 - (b0 * u0))), .second, .val (.long b0), .second, .unset]) rfl k) ?_
      show Wp p e below _ (T48.setTop (mkF m 82 #[.val (.ref d0), .val (.long u0), .second, .val (.int (0 : Int32)), .val (.long (0 : Int64)), .second, .val (.long (x1 - (b0 * u0))), .second, .val (.long b0), .second, .unset] []))
      refine Wp.step (fun t k => XS.goto X48.here hx rfl (pc0 := 82) (pc' := 146) rfl (hb hby d14_82) (by decide) (by decide) k) ?_
      show Wp p e below _ (T48.setTop (mkF m 146 #[.val (.ref d0), .val (.long u0), .second, .val (.int (0 : Int32)), .val (.long (0 : Int64)), .second, .val (.long (x1 - (b0 * u0))), .second, .val (.long b0), .second, .unset] []))
      obtain ⟨T49, h49, X49, e49, E49, A49, D49, -, st49⟩ := newO X48 hx hZ hown (hw _ (List.mem_of_getElem? (i := 60) rfl)) (hw _ (List.mem_of_getElem? (i := 61) rfl)) (hw _ (List.mem_of_getElem? (i := 54) rfl)) e48 (g := (mkF m 146 #[.val (.ref d0), .val (.long u0), .second, .val (.int (0 : Int32)), .val (.long (0 : Int64)), .second, .val (.long (x1 - (b0 * u0))), .second, .val (.long b0), .second, .unset] [])) rfl (hb hby d14_146) (by decide) (by decide)
      obtain ⟨b49, g49⟩ : ∃ z, z = h0.size := ⟨_, rfl⟩
      rw [← g49] at A49 D49 st49
      have g_b49 : n0 ≤ b49 := Nat.le_trans (Nat.le_trans Z0 K0.1) (Nat.le_of_eq g49.symm)
      have sz_b49 : h0.size ≤ b49 := Nat.le_trans K0.1 (Nat.le_of_eq g49.symm)
      have ne_d0_b49 : d0 ≠ b49 := Nat.ne_of_lt (Nat.lt_of_lt_of_le E_d0.lt (Nat.le_of_eq g49.symm))
      have c50 := E_d0.ext E49
      have c51 := F_high_d0.ext E49
      have c52 := F_low_d0.ext E49
      have K53 := K0.ext E49
      have c54 : Fld Z h49 b49 "com/example/gentle_bucket/gentlebucket/Uint128" "high" "J" (.long (0 : Int64)) := D49 (Or.inr (hw _ (List.mem_of_getElem? (i := 67) rfl))) (ty := .long) (by decide)
      have c55 : Fld Z h49 b49 "com/example/gentle_bucket/gentlebucket/Uint128" "low" "J" (.long (0 : Int64)) := D49 (Or.inr (hw _ (List.mem_of_getElem? (i := 69) rfl))) (ty := .long) (by decide)
      refine Wp.step st49 ?_
      show Wp p e below _ (T49.setTop (mkF m 149 #[.val (.ref d0), .val (.long u0), .second, .val (.int (0 : Int32)), .val (.long (0 : Int64)), .second, .val (.long (x1 - (b0 * u0))), .second, .val (.long b0), .second, .unset] [(.ref b49)]))
      refine Wp.step (fun t k => XS.dup X49.here hx rfl (hb hby d14_149) rfl rfl k) ?_
      show Wp p e below _ (T49.setTop (mkF m 150 #[.val (.ref d0), .val (.long u0), .second, .val (.int (0 : Int32)), .val (.long (0 : Int64)), .second, .val (.long (x1 - (b0 * u0))), .second, .val (.long b0), .second, .unset] [(.ref b49), (.ref b49)]))
      refine Wp.step (fun t k => XS.lload X49.here hx rfl (hb hby d14_150) rfl k) ?_
      show Wp p e below _ (T49.setTop (mkF m 152 #[.val (.ref d0), .val (.long u0), .second, .val (.int (0 : Int32)), .val (.long (0 : Int64)), .second, .val (.long (x1 - (b0 * u0))), .second, .val (.long b0), .second, .unset] [(.long (0 : Int64)), (.ref b49), (.ref b49)]))
      refine Wp.step (fun t k => XS.lload X49.here hx rfl (hb hby d14_152) rfl k) ?_
      show Wp p e below _ (T49.setTop (mkF m 154 #[.val (.ref d0), .val (.long u0), .second, .val (.int (0 : Int32)), .val (.long (0 : Int64)), .second, .val (.long (x1 - (b0 * u0))), .second, .val (.long b0), .second, .unset] [(.long b0), (.long (0 : Int64)), (.ref b49), (.ref b49)]))
      obtain ⟨_, _, ⟨T56, L56, k56, n56⟩, -, X56, ⟨Lc56, hQ56, l56, y56, z56⟩, st56⟩ := X49.specialBack hx (y := (⟨"com/example/gentle_bucket/gentlebucket/Uint128", "<init>", "(JJ)V"⟩ : MethodName)) rfl hown (mvT hZ (hw _ (List.mem_of_getElem? (i := 62) rfl))) (mvT hZ (hw _ (List.mem_of_getElem? (i := 63) rfl))) (mvT hZ (hw _ (List.mem_of_getElem? (i := 64) rfl))) (by decide) (backOf (W := 1) (rm11 l Z a0 hw [] b49 (0 : Int64) b0 (0 : Int64) (0 : Int64) h49 n0 (Nat.le_trans Z0 K53.1) g_b49 A49 c54 c55 ) hZ (hw _ (List.mem_of_getElem? (i := 64) rfl)) (hw _ (List.mem_of_getElem? (i := 54) rfl)) (by decide) (by decide)) (g := (mkF m 154 #[.val (.ref d0), .val (.long u0), .second, .val (.int (0 : Int32)), .val (.long (0 : Int64)), .second, .val (.long (x1 - (b0 * u0))), .second, .val (.long b0), .second, .unset] [(.long b0), (.long (0 : Int64)), (.ref b49), (.ref b49)])) rfl (by rw [hml]; rfl) (Steps.refl _) (a := b49) (argsL := [(.long (0 : Int64)), (.long b0)]) (rest := [(.ref b49)]) (lenOf pd_28JJ29V rfl) rfl (by show 2 * 0 + _ ≤ _; exact Nat.le_of_eq rfl) (hb hby d14_154) (fun _ _ => ⟨rfl, e49, (by decide : 1 + 0 ≤ _), (by decide : 2 + 0 ≤ _)⟩)
      dsimp only [Pt.U, Pt.locs, Pt.cells, Pt.slots] at X56 l56 y56 z56 st56 hQ56
      subst l56 y56 z56
      obtain ⟨h56, e56⟩ : ∃ z, T56.heap = z := ⟨_, rfl⟩
      rw [e56] at hQ56
      obtain ⟨rfl, N56q, Kc56, o56_0, o56_1, o56_2⟩ := hQ56
      have N56 := Fr.app N47 N56q
      have c57 := c50.keep Kc56
      have c58 := c51.keep Kc56 (ninS ne_d0_b49 nin0)
      have c59 := c52.keep Kc56 (ninS ne_d0_b49 nin0)
      have c60 := A49.keep Kc56
      have K56 := K53.trans Kc56 (allS (Or.inr sz_b49) all0)
      refine Wp.go st56 ?_
      show Wp p e below _ (T56.setTop (mkF m 157 #[.val (.ref d0), .val (.long u0), .second, .val (.int (0 : Int32)), .val (.long (0 : Int64)), .second, .val (.long (x1 - (b0 * u0))), .second, .val (.long b0), .second, .unset] [(.ref b49)]))
      refine Wp.step (fun t k => XS.astore X56.here hx rfl (hb hby d14_157) rfl rfl (l' := #[.val (.ref d0), .val (.long u0), .second, .val (.int (0 : Int32)), .val (.long (0 : Int64)), .second, .val (.long (x1 - (b0 * u0))), .second, .val (.long b0), .second, .val (.ref b49)]) rfl k) ?_
      show Wp p e below _ (T56.setTop (mkF m 159 #[.val (.ref d0), .val (.long u0), .second, .val (.int (0 : Int32)), .val (.long (0 : Int64)), .second, .val (.long (x1 - (b0 * u0))), .second, .val (.long b0), .second, .val (.ref b49)] []))
      refine Wp.step (fun t k => XS.lload X56.here hx rfl (hb hby d14_159) rfl k) ?_
      show Wp p e below _ (T56.setTop (mkF m 161 #[.val (.ref d0), .val (.long u0), .second, .val (.int (0 : Int32)), .val (.long (0 : Int64)), .second, .val (.long (x1 - (b0 * u0))), .second, .val (.long b0), .second, .val (.ref b49)] [(.long (x1 - (b0 * u0)))]))
      refine Wp.step (fun t k => XS.lconst X56.here hx rfl (hb hby d14_161) k) ?_
      show Wp p e below _ (T56.setTop (mkF m 162 #[.val (.ref d0), .val (.long u0), .second, .val (.int (0 : Int32)), .val (.long (0 : Int64)), .second, .val (.long (x1 - (b0 * u0))), .second, .val (.long b0), .second, .val (.ref b49)] [(.long (0 : Int64)), (.long (x1 - (b0 * u0)))]))
      refine Wp.step (fun t k => XS.lcmp X56.here hx rfl (hb hby d14_162) rfl k) ?_
      show Wp p e below _ (T56.setTop (mkF m 163 #[.val (.ref d0), .val (.long u0), .second, .val (.int (0 : Int32)), .val (.long (0 : Int64)), .second, .val (.long (x1 - (b0 * u0))), .second, .val (.long b0), .second, .val (.ref b49)] [(.int (lcmpW (x1 - (b0 * u0)) (0 : Int64)))]))
      by_cases hc61 : (lcmpW (x1 - (b0 * u0)) (0 : Int64)) = (0 : Int32)
      · have hc61n := (lw_eq _ _).mp hc61
        refine Wp.step (fun t k => XS.ifYes X56.here hx rfl (pc0 := 163) (pc' := 170) rfl (hb hby d14_163) rfl ((if0 _ _).trans (teq hc61).1) (by decide) (by decide) k) ?_
        show Wp p e below _ (T56.setTop (mkF m 170 #[.val (.ref d0), .val (.long u0), .second, .val (.int (0 : Int32)), .val (.long (0 : Int64)), .second, .val (.long (x1 - (b0 * u0))), .second, .val (.long b0), .second, .val (.ref b49)] []))
        refine Wp.step (fun t k => XS.aload X56.here hx rfl (hb hby d14_170) rfl rfl k) ?_
        show Wp p e below _ (T56.setTop (mkF m 172 #[.val (.ref d0), .val (.long u0), .second, .val (.int (0 : Int32)), .val (.long (0 : Int64)), .second, .val (.long (x1 - (b0 * u0))), .second, .val (.long b0), .second, .val (.ref b49)] [(.ref b49)]))
        refine Wp.step (fun t k => XS.goto X56.here hx rfl (pc0 := 172) (pc' := 183) rfl (hb hby d14_172) (by decide) (by decide) k) ?_
        show Wp p e below _ (T56.setTop (mkF m 183 #[.val (.ref d0), .val (.long u0), .second, .val (.int (0 : Int32)), .val (.long (0 : Int64)), .second, .val (.long (x1 - (b0 * u0))), .second, .val (.long b0), .second, .val (.ref b49)] [(.ref b49)]))
        refine Wp.retA X56 hx Bd.returns rfl (hb hby d14_183) hlk ?_ (by decide) (by decide)
        show Q14 Z d0 u0 (0 : Int32) x0 x1 b0 h0 n0 (some (.ref b49)) T56.heap _
        rw [e56]
        exact ⟨b49, rfl, N56, K56, sz_b49, o56_0, o56_1, o56_2⟩
      · have hc61n := fun q => hc61 ((lw_eq _ _).mpr q)
        refine Wp.step (fun t k => XS.ifNo X56.here hx rfl (hb hby d14_163) rfl ((if0 _ _).trans (feq hc61).1) k) ?_
        show Wp p e below _ (T56.setTop (mkF m 166 #[.val (.ref d0), .val (.long u0), .second, .val (.int (0 : Int32)), .val (.long (0 : Int64)), .second, .val (.long (x1 - (b0 * u0))), .second, .val (.long b0), .second, .val (.ref b49)] []))
        refine Wp.step (fun t k => XS.iloadN X56.here hx rfl (hb hby d14_166) rfl k) ?_
        show Wp p e below _ (T56.setTop (mkF m 167 #[.val (.ref d0), .val (.long u0), .second, .val (.int (0 : Int32)), .val (.long (0 : Int64)), .second, .val (.long (x1 - (b0 * u0))), .second, .val (.long b0), .second, .val (.ref b49)] [(.int (0 : Int32))]))
        refine Wp.step (fun t k => XS.ifNo X56.here hx rfl (hb hby d14_167) rfl ((if0 _ _).trans (teq (show (0 : Int32) = (0 : Int32) by decide)).2) k) ?_
        show Wp p e below _ (T56.setTop (mkF m 170 #[.val (.ref d0), .val (.long u0), .second, .val (.int (0 : Int32)), .val (.long (0 : Int64)), .second, .val (.long (x1 - (b0 * u0))), .second, .val (.long b0), .second, .val (.ref b49)] []))
        refine Wp.step (fun t k => XS.aload X56.here hx rfl (hb hby d14_170) rfl rfl k) ?_
        show Wp p e below _ (T56.setTop (mkF m 172 #[.val (.ref d0), .val (.long u0), .second, .val (.int (0 : Int32)), .val (.long (0 : Int64)), .second, .val (.long (x1 - (b0 * u0))), .second, .val (.long b0), .second, .val (.ref b49)] [(.ref b49)]))
        refine Wp.step (fun t k => XS.goto X56.here hx rfl (pc0 := 172) (pc' := 183) rfl (hb hby d14_172) (by decide) (by decide) k) ?_
        show Wp p e below _ (T56.setTop (mkF m 183 #[.val (.ref d0), .val (.long u0), .second, .val (.int (0 : Int32)), .val (.long (0 : Int64)), .second, .val (.long (x1 - (b0 * u0))), .second, .val (.long b0), .second, .val (.ref b49)] [(.ref b49)]))
        refine Wp.retA X56 hx Bd.returns rfl (hb hby d14_183) hlk ?_ (by decide) (by decide)
        show Q14 Z d0 u0 (0 : Int32) x0 x1 b0 h0 n0 (some (.ref b49)) T56.heap _
        rw [e56]
        exact ⟨b49, rfl, N56, K56, sz_b49, o56_0, o56_1, o56_2⟩
    · have hc45n := fun q => hc45 ((lw_eq _ _).mpr q)
      refine Wp.step (fun t k => XS.ifYes X44.here hx rfl (pc0 := 58) (pc' := 85) rfl (hb hby d14_58) rfl ((if0 _ _).trans (feq hc45).2) (by decide) (by decide) k) ?_
      show Wp p e below _ (T44.setTop (mkF m 85 #[.val (.ref d0), .val (.long u0), .second, .val (.int (0 : Int32)), .val (.long (0 : Int64)), .second, .val (.long x0), .second, .unset, .unset, .unset] []))
      refine Wp.step (fun t k => XS.lconst X44.here hx rfl (hb hby d14_85) k) ?_
      show Wp p e below _ (T44.setTop (mkF m 86 #[.val (.ref d0), .val (.long u0), .second, .val (.int (0 : Int32)), .val (.long (0 : Int64)), .second, .val (.long x0), .second, .unset, .unset, .unset] [(.long (0 : Int64))]))
      refine Wp.step (fun t k => XS.lstore X44.here hx rfl (hb hby d14_86) rfl (l' := #[.val (.ref d0), .val (.long u0), .second, .val (.int (0 : Int32)), .val (.long (0 : Int64)), .second, .val (.long x0), .second, .val (.long (0 : Int64)), .second, .unset]) rfl k) ?_
      show Wp p e below _ (T44.setTop (mkF m 88 #[.val (.ref d0), .val (.long u0), .second, .val (.int (0 : Int32)), .val (.long (0 : Int64)), .second, .val (.long x0), .second, .val (.long (0 : Int64)), .second, .unset] []))
      refine Wp.step (fun t k => XS.bipush X44.here hx rfl (hb hby d14_88) k) ?_
      show Wp p e below _ (T44.setTop (mkF m 90 #[.val (.ref d0), .val (.long u0), .second, .val (.int (0 : Int32)), .val (.long (0 : Int64)), .second, .val (.long x0), .second, .val (.long (0 : Int64)), .second, .unset] [(.int (63 : Int32))]))
      refine Wp.step (fun t k => XS.istore X44.here hx rfl (hb hby d14_90) rfl (l' := #[.val (.ref d0), .val (.long u0), .second, .val (.int (0 : Int32)), .val (.long (0 : Int64)), .second, .val (.long x0), .second, .val (.long (0 : Int64)), .second, .val (.int (63 : Int32))]) rfl k) ?_
      show Wp p e below _ (T44.setTop (mkF m 92 #[.val (.ref d0), .val (.long u0), .second, .val (.int (0 : Int32)), .val (.long (0 : Int64)), .second, .val (.long x0), .second, .val (.long (0 : Int64)), .second, .val (.int (63 : Int32))] []))
      have h63 : (63 : Int32).toInt = 63 := by decide
      have loop63 : ∀ (f : Nat) (rr : Int64) (qq : Int64) (jj : Int32) (hh_63 : Heap) (locs_63 : List Loc) (T_63 : State) (X_63 : Stand p l e ({ frames := 2, cells := 1, slots := 2, locals := 30 } : Room) s m #[(.ref d0), (.long u0), (.int (0 : Int32))] below meth c T_63 locs_63 0 0) (eT_63 : T_63.heap = hh_63) (NN_63 : Fr n0 locs_63) (KK_63 : Keep h0 hh_63 []) (q0_63 : Exa Z hh_63 d0 "com/example/gentle_bucket/gentlebucket/Uint128") (q1_63 : Fld Z hh_63 d0 "com/example/gentle_bucket/gentlebucket/Uint128" "high" "J" (.long x0)) (q2_63 : Fld Z hh_63 d0 "com/example/gentle_bucket/gentlebucket/Uint128" "low" "J" (.long x1)) (hI : own_inv x0 x1 u0 jj rr qq) (hm : (jj.toInt + 1).toNat < f), Wp p e below (Out s (Q14 Z d0 u0 (0 : Int32) x0 x1 b0 h0 n0) ({ frames := 2, cells := 1, slots := 2, locals := 30 } : Room).cells ({ frames := 2, cells := 1, slots := 2, locals := 30 } : Room).slots) (T_63.setTop (mkF m 92 #[.val (.ref d0), .val (.long u0), .second, .val (.int (0 : Int32)), .val (.long (0 : Int64)), .second, .val (.long rr), .second, .val (.long qq), .second, .val (.int jj)] [])) := by
        intro f
        induction f with
        | zero => intros; rename_i hm; exact absurd hm (Nat.not_lt_zero _)
        | succ f ih_63 =>
          intro rr qq jj hh_63 locs_63 T_63 X_63 eT_63 NN_63 KK_63 q0_63 q1_63 q2_63 hI hm
          show Wp p e below _ (T_63.setTop (mkF m 92 #[.val (.ref d0), .val (.long u0), .second, .val (.int (0 : Int32)), .val (.long (0 : Int64)), .second, .val (.long rr), .second, .val (.long qq), .second, .val (.int jj)] []))
          refine Wp.step (fun t k => XS.iload X_63.here hx rfl (hb hby d14_92) rfl k) ?_
          show Wp p e below _ (T_63.setTop (mkF m 94 #[.val (.ref d0), .val (.long u0), .second, .val (.int (0 : Int32)), .val (.long (0 : Int64)), .second, .val (.long rr), .second, .val (.long qq), .second, .val (.int jj)] [(.int jj)]))
          by_cases hc64 : jj < (0 : Int32)
          · refine Wp.step (fun t k => XS.ifYes X_63.here hx rfl (pc0 := 94) (pc' := 146) rfl (hb hby d14_94) rfl ((if0 _ _).trans (tlt hc64).1) (by decide) (by decide) k) ?_
            show Wp p e below _ (T_63.setTop (mkF m 146 #[.val (.ref d0), .val (.long u0), .second, .val (.int (0 : Int32)), .val (.long (0 : Int64)), .second, .val (.long rr), .second, .val (.long qq), .second, .val (.int jj)] []))
            have hqq : qq = b0 := own_low x0 x1 u0 b0 hbb hd hU (own_inv_end hI hc64)
            rw [hqq]
            obtain ⟨T65, h65, X65, e65, E65, A65, D65, -, st65⟩ := newO X_63 hx hZ hown (hw _ (List.mem_of_getElem? (i := 60) rfl)) (hw _ (List.mem_of_getElem? (i := 61) rfl)) (hw _ (List.mem_of_getElem? (i := 54) rfl)) eT_63 (g := (mkF m 146 #[.val (.ref d0), .val (.long u0), .second, .val (.int (0 : Int32)), .val (.long (0 : Int64)), .second, .val (.long rr), .second, .val (.long b0), .second, .val (.int jj)] [])) rfl (hb hby d14_146) (by decide) (by decide)
            obtain ⟨b65, g65⟩ : ∃ z, z = hh_63.size := ⟨_, rfl⟩
            rw [← g65] at A65 D65 st65
            have g_b65 : n0 ≤ b65 := Nat.le_trans (Nat.le_trans Z0 KK_63.1) (Nat.le_of_eq g65.symm)
            have sz_b65 : h0.size ≤ b65 := Nat.le_trans KK_63.1 (Nat.le_of_eq g65.symm)
            have ne_d0_b65 : d0 ≠ b65 := Nat.ne_of_lt (Nat.lt_of_lt_of_le q0_63.lt (Nat.le_of_eq g65.symm))
            have c66 := q0_63.ext E65
            have c67 := q1_63.ext E65
            have c68 := q2_63.ext E65
            have K69 := KK_63.ext E65
            have c70 : Fld Z h65 b65 "com/example/gentle_bucket/gentlebucket/Uint128" "high" "J" (.long (0 : Int64)) := D65 (Or.inr (hw _ (List.mem_of_getElem? (i := 67) rfl))) (ty := .long) (by decide)
            have c71 : Fld Z h65 b65 "com/example/gentle_bucket/gentlebucket/Uint128" "low" "J" (.long (0 : Int64)) := D65 (Or.inr (hw _ (List.mem_of_getElem? (i := 69) rfl))) (ty := .long) (by decide)
            refine Wp.step st65 ?_
            show Wp p e below _ (T65.setTop (mkF m 149 #[.val (.ref d0), .val (.long u0), .second, .val (.int (0 : Int32)), .val (.long (0 : Int64)), .second, .val (.long rr), .second, .val (.long b0), .second, .val (.int jj)] [(.ref b65)]))
            refine Wp.step (fun t k => XS.dup X65.here hx rfl (hb hby d14_149) rfl rfl k) ?_
            show Wp p e below _ (T65.setTop (mkF m 150 #[.val (.ref d0), .val (.long u0), .second, .val (.int (0 : Int32)), .val (.long (0 : Int64)), .second, .val (.long rr), .second, .val (.long b0), .second, .val (.int jj)] [(.ref b65), (.ref b65)]))
            refine Wp.step (fun t k => XS.lload X65.here hx rfl (hb hby d14_150) rfl k) ?_
            show Wp p e below _ (T65.setTop (mkF m 152 #[.val (.ref d0), .val (.long u0), .second, .val (.int (0 : Int32)), .val (.long (0 : Int64)), .second, .val (.long rr), .second, .val (.long b0), .second, .val (.int jj)] [(.long (0 : Int64)), (.ref b65), (.ref b65)]))
            refine Wp.step (fun t k => XS.lload X65.here hx rfl (hb hby d14_152) rfl k) ?_
            show Wp p e below _ (T65.setTop (mkF m 154 #[.val (.ref d0), .val (.long u0), .second, .val (.int (0 : Int32)), .val (.long (0 : Int64)), .second, .val (.long rr), .second, .val (.long b0), .second, .val (.int jj)] [(.long b0), (.long (0 : Int64)), (.ref b65), (.ref b65)]))
            obtain ⟨_, _, ⟨T72, L72, k72, n72⟩, -, X72, ⟨Lc72, hQ72, l72, y72, z72⟩, st72⟩ := X65.specialBack hx (y := (⟨"com/example/gentle_bucket/gentlebucket/Uint128", "<init>", "(JJ)V"⟩ : MethodName)) rfl hown (mvT hZ (hw _ (List.mem_of_getElem? (i := 62) rfl))) (mvT hZ (hw _ (List.mem_of_getElem? (i := 63) rfl))) (mvT hZ (hw _ (List.mem_of_getElem? (i := 64) rfl))) (by decide) (backOf (W := 1) (rm11 l Z a0 hw [] b65 (0 : Int64) b0 (0 : Int64) (0 : Int64) h65 n0 (Nat.le_trans Z0 K69.1) g_b65 A65 c70 c71 ) hZ (hw _ (List.mem_of_getElem? (i := 64) rfl)) (hw _ (List.mem_of_getElem? (i := 54) rfl)) (by decide) (by decide)) (g := (mkF m 154 #[.val (.ref d0), .val (.long u0), .second, .val (.int (0 : Int32)), .val (.long (0 : Int64)), .second, .val (.long rr), .second, .val (.long b0), .second, .val (.int jj)] [(.long b0), (.long (0 : Int64)), (.ref b65), (.ref b65)])) rfl (by rw [hml]; rfl) (Steps.refl _) (a := b65) (argsL := [(.long (0 : Int64)), (.long b0)]) (rest := [(.ref b65)]) (lenOf pd_28JJ29V rfl) rfl (by show 2 * 0 + _ ≤ _; exact Nat.le_of_eq rfl) (hb hby d14_154) (fun _ _ => ⟨rfl, e65, (by decide : 1 + 0 ≤ _), (by decide : 2 + 0 ≤ _)⟩)
            dsimp only [Pt.U, Pt.locs, Pt.cells, Pt.slots] at X72 l72 y72 z72 st72 hQ72
            subst l72 y72 z72
            obtain ⟨h72, e72⟩ : ∃ z, T72.heap = z := ⟨_, rfl⟩
            rw [e72] at hQ72
            obtain ⟨rfl, N72q, Kc72, o72_0, o72_1, o72_2⟩ := hQ72
            have N72 := Fr.app NN_63 N72q
            have c73 := c66.keep Kc72
            have c74 := c67.keep Kc72 (ninS ne_d0_b65 nin0)
            have c75 := c68.keep Kc72 (ninS ne_d0_b65 nin0)
            have c76 := A65.keep Kc72
            have K72 := K69.trans Kc72 (allS (Or.inr sz_b65) all0)
            refine Wp.go st72 ?_
            show Wp p e below _ (T72.setTop (mkF m 157 #[.val (.ref d0), .val (.long u0), .second, .val (.int (0 : Int32)), .val (.long (0 : Int64)), .second, .val (.long rr), .second, .val (.long b0), .second, .val (.int jj)] [(.ref b65)]))
            refine Wp.step (fun t k => XS.astore X72.here hx rfl (hb hby d14_157) rfl rfl (l' := #[.val (.ref d0), .val (.long u0), .second, .val (.int (0 : Int32)), .val (.long (0 : Int64)), .second, .val (.long rr), .second, .val (.long b0), .second, .val (.ref b65)]) rfl k) ?_
            show Wp p e below _ (T72.setTop (mkF m 159 #[.val (.ref d0), .val (.long u0), .second, .val (.int (0 : Int32)), .val (.long (0 : Int64)), .second, .val (.long rr), .second, .val (.long b0), .second, .val (.ref b65)] []))
            refine Wp.step (fun t k => XS.lload X72.here hx rfl (hb hby d14_159) rfl k) ?_
            show Wp p e below _ (T72.setTop (mkF m 161 #[.val (.ref d0), .val (.long u0), .second, .val (.int (0 : Int32)), .val (.long (0 : Int64)), .second, .val (.long rr), .second, .val (.long b0), .second, .val (.ref b65)] [(.long rr)]))
            refine Wp.step (fun t k => XS.lconst X72.here hx rfl (hb hby d14_161) k) ?_
            show Wp p e below _ (T72.setTop (mkF m 162 #[.val (.ref d0), .val (.long u0), .second, .val (.int (0 : Int32)), .val (.long (0 : Int64)), .second, .val (.long rr), .second, .val (.long b0), .second, .val (.ref b65)] [(.long (0 : Int64)), (.long rr)]))
            refine Wp.step (fun t k => XS.lcmp X72.here hx rfl (hb hby d14_162) rfl k) ?_
            show Wp p e below _ (T72.setTop (mkF m 163 #[.val (.ref d0), .val (.long u0), .second, .val (.int (0 : Int32)), .val (.long (0 : Int64)), .second, .val (.long rr), .second, .val (.long b0), .second, .val (.ref b65)] [(.int (lcmpW rr (0 : Int64)))]))
            by_cases hc77 : (lcmpW rr (0 : Int64)) = (0 : Int32)
            · have hc77n := (lw_eq _ _).mp hc77
              refine Wp.step (fun t k => XS.ifYes X72.here hx rfl (pc0 := 163) (pc' := 170) rfl (hb hby d14_163) rfl ((if0 _ _).trans (teq hc77).1) (by decide) (by decide) k) ?_
              show Wp p e below _ (T72.setTop (mkF m 170 #[.val (.ref d0), .val (.long u0), .second, .val (.int (0 : Int32)), .val (.long (0 : Int64)), .second, .val (.long rr), .second, .val (.long b0), .second, .val (.ref b65)] []))
              refine Wp.step (fun t k => XS.aload X72.here hx rfl (hb hby d14_170) rfl rfl k) ?_
              show Wp p e below _ (T72.setTop (mkF m 172 #[.val (.ref d0), .val (.long u0), .second, .val (.int (0 : Int32)), .val (.long (0 : Int64)), .second, .val (.long rr), .second, .val (.long b0), .second, .val (.ref b65)] [(.ref b65)]))
              refine Wp.step (fun t k => XS.goto X72.here hx rfl (pc0 := 172) (pc' := 183) rfl (hb hby d14_172) (by decide) (by decide) k) ?_
              show Wp p e below _ (T72.setTop (mkF m 183 #[.val (.ref d0), .val (.long u0), .second, .val (.int (0 : Int32)), .val (.long (0 : Int64)), .second, .val (.long rr), .second, .val (.long b0), .second, .val (.ref b65)] [(.ref b65)]))
              refine Wp.retA X72 hx Bd.returns rfl (hb hby d14_183) hlk ?_ (by decide) (by decide)
              show Q14 Z d0 u0 (0 : Int32) x0 x1 b0 h0 n0 (some (.ref b65)) T72.heap _
              rw [e72]
              exact ⟨b65, rfl, N72, K72, sz_b65, o72_0, o72_1, o72_2⟩
            · have hc77n := fun q => hc77 ((lw_eq _ _).mpr q)
              refine Wp.step (fun t k => XS.ifNo X72.here hx rfl (hb hby d14_163) rfl ((if0 _ _).trans (feq hc77).1) k) ?_
              show Wp p e below _ (T72.setTop (mkF m 166 #[.val (.ref d0), .val (.long u0), .second, .val (.int (0 : Int32)), .val (.long (0 : Int64)), .second, .val (.long rr), .second, .val (.long b0), .second, .val (.ref b65)] []))
              refine Wp.step (fun t k => XS.iloadN X72.here hx rfl (hb hby d14_166) rfl k) ?_
              show Wp p e below _ (T72.setTop (mkF m 167 #[.val (.ref d0), .val (.long u0), .second, .val (.int (0 : Int32)), .val (.long (0 : Int64)), .second, .val (.long rr), .second, .val (.long b0), .second, .val (.ref b65)] [(.int (0 : Int32))]))
              refine Wp.step (fun t k => XS.ifNo X72.here hx rfl (hb hby d14_167) rfl ((if0 _ _).trans (teq (show (0 : Int32) = (0 : Int32) by decide)).2) k) ?_
              show Wp p e below _ (T72.setTop (mkF m 170 #[.val (.ref d0), .val (.long u0), .second, .val (.int (0 : Int32)), .val (.long (0 : Int64)), .second, .val (.long rr), .second, .val (.long b0), .second, .val (.ref b65)] []))
              refine Wp.step (fun t k => XS.aload X72.here hx rfl (hb hby d14_170) rfl rfl k) ?_
              show Wp p e below _ (T72.setTop (mkF m 172 #[.val (.ref d0), .val (.long u0), .second, .val (.int (0 : Int32)), .val (.long (0 : Int64)), .second, .val (.long rr), .second, .val (.long b0), .second, .val (.ref b65)] [(.ref b65)]))
              refine Wp.step (fun t k => XS.goto X72.here hx rfl (pc0 := 172) (pc' := 183) rfl (hb hby d14_172) (by decide) (by decide) k) ?_
              show Wp p e below _ (T72.setTop (mkF m 183 #[.val (.ref d0), .val (.long u0), .second, .val (.int (0 : Int32)), .val (.long (0 : Int64)), .second, .val (.long rr), .second, .val (.long b0), .second, .val (.ref b65)] [(.ref b65)]))
              refine Wp.retA X72 hx Bd.returns rfl (hb hby d14_183) hlk ?_ (by decide) (by decide)
              show Q14 Z d0 u0 (0 : Int32) x0 x1 b0 h0 n0 (some (.ref b65)) T72.heap _
              rw [e72]
              exact ⟨b65, rfl, N72, K72, sz_b65, o72_0, o72_1, o72_2⟩
          · have hj := hc64
            have hdec := own_dec hI hj
            refine Wp.step (fun t k => XS.ifNo X_63.here hx rfl (hb hby d14_94) rfl ((if0 _ _).trans (flt hc64).1) k) ?_
            show Wp p e below _ (T_63.setTop (mkF m 97 #[.val (.ref d0), .val (.long u0), .second, .val (.int (0 : Int32)), .val (.long (0 : Int64)), .second, .val (.long rr), .second, .val (.long qq), .second, .val (.int jj)] []))
            refine Wp.step (fun t k => XS.lload X_63.here hx rfl (hb hby d14_97) rfl k) ?_
            show Wp p e below _ (T_63.setTop (mkF m 99 #[.val (.ref d0), .val (.long u0), .second, .val (.int (0 : Int32)), .val (.long (0 : Int64)), .second, .val (.long rr), .second, .val (.long qq), .second, .val (.int jj)] [(.long rr)]))
            refine Wp.step (fun t k => XS.iconst X_63.here hx rfl (hb hby d14_99) k) ?_
            show Wp p e below _ (T_63.setTop (mkF m 100 #[.val (.ref d0), .val (.long u0), .second, .val (.int (0 : Int32)), .val (.long (0 : Int64)), .second, .val (.long rr), .second, .val (.long qq), .second, .val (.int jj)] [(.int (1 : Int32)), (.long rr)]))
            refine Wp.step (fun t k => XS.lshl X_63.here hx rfl (hb hby d14_100) rfl k) ?_
            show Wp p e below _ (T_63.setTop (mkF m 101 #[.val (.ref d0), .val (.long u0), .second, .val (.int (0 : Int32)), .val (.long (0 : Int64)), .second, .val (.long rr), .second, .val (.long qq), .second, .val (.int jj)] [(.long (rr <<< ((1 : Int32) &&& 0x3f).toInt64))]))
            refine Wp.step (fun t k => XS.aloadN X_63.here hx rfl (hb hby d14_101) rfl rfl k) ?_
            show Wp p e below _ (T_63.setTop (mkF m 102 #[.val (.ref d0), .val (.long u0), .second, .val (.int (0 : Int32)), .val (.long (0 : Int64)), .second, .val (.long rr), .second, .val (.long qq), .second, .val (.int jj)] [(.ref d0), (.long (rr <<< ((1 : Int32) &&& 0x3f).toInt64))]))
            obtain ⟨T79, X79, e79, st79⟩ := getF X_63 hx hZ hown (host := "") (Or.inl (hw _ (List.mem_of_getElem? (i := 68) rfl))) Via.refl eT_63 q2_63 (g := (mkF m 102 #[.val (.ref d0), .val (.long u0), .second, .val (.int (0 : Int32)), .val (.long (0 : Int64)), .second, .val (.long rr), .second, .val (.long qq), .second, .val (.int jj)] [(.ref d0), (.long (rr <<< ((1 : Int32) &&& 0x3f).toInt64))])) rfl rfl (hb hby d14_102)
            refine Wp.step st79 ?_
            show Wp p e below _ (T79.setTop (mkF m 105 #[.val (.ref d0), .val (.long u0), .second, .val (.int (0 : Int32)), .val (.long (0 : Int64)), .second, .val (.long rr), .second, .val (.long qq), .second, .val (.int jj)] [(.long x1), (.long (rr <<< ((1 : Int32) &&& 0x3f).toInt64))]))
            refine Wp.step (fun t k => XS.iload X79.here hx rfl (hb hby d14_105) rfl k) ?_
            show Wp p e below _ (T79.setTop (mkF m 107 #[.val (.ref d0), .val (.long u0), .second, .val (.int (0 : Int32)), .val (.long (0 : Int64)), .second, .val (.long rr), .second, .val (.long qq), .second, .val (.int jj)] [(.int jj), (.long x1), (.long (rr <<< ((1 : Int32) &&& 0x3f).toInt64))]))
            refine Wp.step (fun t k => XS.lushr X79.here hx rfl (hb hby d14_107) rfl k) ?_
            show Wp p e below _ (T79.setTop (mkF m 108 #[.val (.ref d0), .val (.long u0), .second, .val (.int (0 : Int32)), .val (.long (0 : Int64)), .second, .val (.long rr), .second, .val (.long qq), .second, .val (.int jj)] [(.long ((x1.toUInt64 >>> (jj &&& 0x3f).toInt64.toUInt64).toInt64)), (.long (rr <<< ((1 : Int32) &&& 0x3f).toInt64))]))
            refine Wp.step (fun t k => XS.lconst X79.here hx rfl (hb hby d14_108) k) ?_
            show Wp p e below _ (T79.setTop (mkF m 109 #[.val (.ref d0), .val (.long u0), .second, .val (.int (0 : Int32)), .val (.long (0 : Int64)), .second, .val (.long rr), .second, .val (.long qq), .second, .val (.int jj)] [(.long (1 : Int64)), (.long ((x1.toUInt64 >>> (jj &&& 0x3f).toInt64.toUInt64).toInt64)), (.long (rr <<< ((1 : Int32) &&& 0x3f).toInt64))]))
            refine Wp.step (fun t k => XS.land X79.here hx rfl (hb hby d14_109) rfl k) ?_
            show Wp p e below _ (T79.setTop (mkF m 110 #[.val (.ref d0), .val (.long u0), .second, .val (.int (0 : Int32)), .val (.long (0 : Int64)), .second, .val (.long rr), .second, .val (.long qq), .second, .val (.int jj)] [(.long (((x1.toUInt64 >>> (jj &&& 0x3f).toInt64.toUInt64).toInt64) &&& (1 : Int64))), (.long (rr <<< ((1 : Int32) &&& 0x3f).toInt64))]))
            refine Wp.step (fun t k => XS.lor X79.here hx rfl (hb hby d14_110) rfl k) ?_
            show Wp p e below _ (T79.setTop (mkF m 111 #[.val (.ref d0), .val (.long u0), .second, .val (.int (0 : Int32)), .val (.long (0 : Int64)), .second, .val (.long rr), .second, .val (.long qq), .second, .val (.int jj)] [(.long ((rr <<< ((1 : Int32) &&& 0x3f).toInt64) ||| (((x1.toUInt64 >>> (jj &&& 0x3f).toInt64.toUInt64).toInt64) &&& (1 : Int64))))]))
            refine Wp.step (fun t k => XS.lstore X79.here hx rfl (hb hby d14_111) rfl (l' := #[.val (.ref d0), .val (.long u0), .second, .val (.int (0 : Int32)), .val (.long (0 : Int64)), .second, .val (.long ((rr <<< ((1 : Int32) &&& 0x3f).toInt64) ||| (((x1.toUInt64 >>> (jj &&& 0x3f).toInt64.toUInt64).toInt64) &&& (1 : Int64)))), .second, .val (.long qq), .second, .val (.int jj)]) rfl k) ?_
            show Wp p e below _ (T79.setTop (mkF m 113 #[.val (.ref d0), .val (.long u0), .second, .val (.int (0 : Int32)), .val (.long (0 : Int64)), .second, .val (.long ((rr <<< ((1 : Int32) &&& 0x3f).toInt64) ||| (((x1.toUInt64 >>> (jj &&& 0x3f).toInt64.toUInt64).toInt64) &&& (1 : Int64)))), .second, .val (.long qq), .second, .val (.int jj)] []))
            refine Wp.step (fun t k => XS.lload X79.here hx rfl (hb hby d14_113) rfl k) ?_
            show Wp p e below _ (T79.setTop (mkF m 115 #[.val (.ref d0), .val (.long u0), .second, .val (.int (0 : Int32)), .val (.long (0 : Int64)), .second, .val (.long ((rr <<< ((1 : Int32) &&& 0x3f).toInt64) ||| (((x1.toUInt64 >>> (jj &&& 0x3f).toInt64.toUInt64).toInt64) &&& (1 : Int64)))), .second, .val (.long qq), .second, .val (.int jj)] [(.long qq)]))
            refine Wp.step (fun t k => XS.iconst X79.here hx rfl (hb hby d14_115) k) ?_
            show Wp p e below _ (T79.setTop (mkF m 116 #[.val (.ref d0), .val (.long u0), .second, .val (.int (0 : Int32)), .val (.long (0 : Int64)), .second, .val (.long ((rr <<< ((1 : Int32) &&& 0x3f).toInt64) ||| (((x1.toUInt64 >>> (jj &&& 0x3f).toInt64.toUInt64).toInt64) &&& (1 : Int64)))), .second, .val (.long qq), .second, .val (.int jj)] [(.int (1 : Int32)), (.long qq)]))
            refine Wp.step (fun t k => XS.lshl X79.here hx rfl (hb hby d14_116) rfl k) ?_
            show Wp p e below _ (T79.setTop (mkF m 117 #[.val (.ref d0), .val (.long u0), .second, .val (.int (0 : Int32)), .val (.long (0 : Int64)), .second, .val (.long ((rr <<< ((1 : Int32) &&& 0x3f).toInt64) ||| (((x1.toUInt64 >>> (jj &&& 0x3f).toInt64.toUInt64).toInt64) &&& (1 : Int64)))), .second, .val (.long qq), .second, .val (.int jj)] [(.long (qq <<< ((1 : Int32) &&& 0x3f).toInt64))]))
            refine Wp.step (fun t k => XS.lstore X79.here hx rfl (hb hby d14_117) rfl (l' := #[.val (.ref d0), .val (.long u0), .second, .val (.int (0 : Int32)), .val (.long (0 : Int64)), .second, .val (.long ((rr <<< ((1 : Int32) &&& 0x3f).toInt64) ||| (((x1.toUInt64 >>> (jj &&& 0x3f).toInt64.toUInt64).toInt64) &&& (1 : Int64)))), .second, .val (.long (qq <<< ((1 : Int32) &&& 0x3f).toInt64)), .second, .val (.int jj)]) rfl k) ?_
            show Wp p e below _ (T79.setTop (mkF m 119 #[.val (.ref d0), .val (.long u0), .second, .val (.int (0 : Int32)), .val (.long (0 : Int64)), .second, .val (.long ((rr <<< ((1 : Int32) &&& 0x3f).toInt64) ||| (((x1.toUInt64 >>> (jj &&& 0x3f).toInt64.toUInt64).toInt64) &&& (1 : Int64)))), .second, .val (.long (qq <<< ((1 : Int32) &&& 0x3f).toInt64)), .second, .val (.int jj)] []))
            refine Wp.step (fun t k => XS.lload X79.here hx rfl (hb hby d14_119) rfl k) ?_
            show Wp p e below _ (T79.setTop (mkF m 121 #[.val (.ref d0), .val (.long u0), .second, .val (.int (0 : Int32)), .val (.long (0 : Int64)), .second, .val (.long ((rr <<< ((1 : Int32) &&& 0x3f).toInt64) ||| (((x1.toUInt64 >>> (jj &&& 0x3f).toInt64.toUInt64).toInt64) &&& (1 : Int64)))), .second, .val (.long (qq <<< ((1 : Int32) &&& 0x3f).toInt64)), .second, .val (.int jj)] [(.long ((rr <<< ((1 : Int32) &&& 0x3f).toInt64) ||| (((x1.toUInt64 >>> (jj &&& 0x3f).toInt64.toUInt64).toInt64) &&& (1 : Int64))))]))
            refine Wp.step (fun t k => XS.lloadN X79.here hx rfl (hb hby d14_121) rfl k) ?_
            show Wp p e below _ (T79.setTop (mkF m 122 #[.val (.ref d0), .val (.long u0), .second, .val (.int (0 : Int32)), .val (.long (0 : Int64)), .second, .val (.long ((rr <<< ((1 : Int32) &&& 0x3f).toInt64) ||| (((x1.toUInt64 >>> (jj &&& 0x3f).toInt64.toUInt64).toInt64) &&& (1 : Int64)))), .second, .val (.long (qq <<< ((1 : Int32) &&& 0x3f).toInt64)), .second, .val (.int jj)] [(.long u0), (.long ((rr <<< ((1 : Int32) &&& 0x3f).toInt64) ||| (((x1.toUInt64 >>> (jj &&& 0x3f).toInt64.toUInt64).toInt64) &&& (1 : Int64))))]))
            obtain ⟨_, _, ⟨T80, L80, k80, n80⟩, -, X80, ⟨Lc80, hQ80, l80, y80, z80⟩, st80⟩ := Jvm.LawKit.callS X79 hx (y := (⟨"java/lang/Long", "compareUnsigned", "(JJ)I"⟩ : MethodName)) hown (mvT hZ (hw _ (List.mem_of_getElem? (i := 182) rfl))) (mvT hZ (hw _ (List.mem_of_getElem? (i := 183) rfl))) (mvT hZ (hw _ (List.mem_of_getElem? (i := 89) rfl))) (mvT hZ (hw _ (List.mem_of_getElem? (i := 184) rfl))) (by decide) (backOf (W := 0) (rm32 l Z a0 hw [] ((rr <<< ((1 : Int32) &&& 0x3f).toInt64) ||| (((x1.toUInt64 >>> (jj &&& 0x3f).toInt64.toUInt64).toInt64) &&& (1 : Int64))) u0  hh_63 n0 (Nat.le_trans Z0 KK_63.1)  ) hZ (hw _ (List.mem_of_getElem? (i := 184) rfl)) (hw _ (List.mem_of_getElem? (i := 89) rfl)) (by decide) (by decide)) (g := (mkF m 122 #[.val (.ref d0), .val (.long u0), .second, .val (.int (0 : Int32)), .val (.long (0 : Int64)), .second, .val (.long ((rr <<< ((1 : Int32) &&& 0x3f).toInt64) ||| (((x1.toUInt64 >>> (jj &&& 0x3f).toInt64.toUInt64).toInt64) &&& (1 : Int64)))), .second, .val (.long (qq <<< ((1 : Int32) &&& 0x3f).toInt64)), .second, .val (.int jj)] [(.long u0), (.long ((rr <<< ((1 : Int32) &&& 0x3f).toInt64) ||| (((x1.toUInt64 >>> (jj &&& 0x3f).toInt64.toUInt64).toInt64) &&& (1 : Int64))))])) rfl (by rw [hml]; rfl) (argsL := [(.long ((rr <<< ((1 : Int32) &&& 0x3f).toInt64) ||| (((x1.toUInt64 >>> (jj &&& 0x3f).toInt64.toUInt64).toInt64) &&& (1 : Int64)))), (.long u0)]) (rest := []) (lenOf pd_28JJ29I rfl) rfl (by show 2 * 0 + _ ≤ _; exact Nat.le_of_eq rfl) (hb hby d14_122) (fun _ _ => ⟨rfl, e79, (by decide : 0 + 0 ≤ _), (by decide : 0 + 0 ≤ _)⟩)
            dsimp only [Pt.U, Pt.locs, Pt.cells, Pt.slots] at X80 l80 y80 z80 st80 hQ80
            subst l80 y80 z80
            obtain ⟨rfl, N80q, e80⟩ := hQ80
            have N80 := Fr.app NN_63 N80q
            refine Wp.step st80 ?_
            show Wp p e below _ (T80.setTop (mkF m 125 #[.val (.ref d0), .val (.long u0), .second, .val (.int (0 : Int32)), .val (.long (0 : Int64)), .second, .val (.long ((rr <<< ((1 : Int32) &&& 0x3f).toInt64) ||| (((x1.toUInt64 >>> (jj &&& 0x3f).toInt64.toUInt64).toInt64) &&& (1 : Int64)))), .second, .val (.long (qq <<< ((1 : Int32) &&& 0x3f).toInt64)), .second, .val (.int jj)] [(.int (own_cu ((rr <<< ((1 : Int32) &&& 0x3f).toInt64) ||| (((x1.toUInt64 >>> (jj &&& 0x3f).toInt64.toUInt64).toInt64) &&& (1 : Int64))) u0))]))
            by_cases hc81 : (own_cu ((rr <<< ((1 : Int32) &&& 0x3f).toInt64) ||| (((x1.toUInt64 >>> (jj &&& 0x3f).toInt64.toUInt64).toInt64) &&& (1 : Int64))) u0) < (0 : Int32)
            · refine Wp.step (fun t k => XS.ifYes X80.here hx rfl (pc0 := 125) (pc' := 140) rfl (hb hby d14_125) rfl ((if0 _ _).trans (tlt hc81).1) (by decide) (by decide) k) ?_
              show Wp p e below _ (T80.setTop (mkF m 140 #[.val (.ref d0), .val (.long u0), .second, .val (.int (0 : Int32)), .val (.long (0 : Int64)), .second, .val (.long ((rr <<< ((1 : Int32) &&& 0x3f).toInt64) ||| (((x1.toUInt64 >>> (jj &&& 0x3f).toInt64.toUInt64).toInt64) &&& (1 : Int64)))), .second, .val (.long (qq <<< ((1 : Int32) &&& 0x3f).toInt64)), .second, .val (.int jj)] []))
              refine Wp.step (fun t k => XS.iinc X80.here hx rfl (hb hby d14_140) rfl (l' := #[.val (.ref d0), .val (.long u0), .second, .val (.int (0 : Int32)), .val (.long (0 : Int64)), .second, .val (.long ((rr <<< ((1 : Int32) &&& 0x3f).toInt64) ||| (((x1.toUInt64 >>> (jj &&& 0x3f).toInt64.toUInt64).toInt64) &&& (1 : Int64)))), .second, .val (.long (qq <<< ((1 : Int32) &&& 0x3f).toInt64)), .second, .val (.int (jj + (-1 : Int32)))]) rfl k) ?_
              show Wp p e below _ (T80.setTop (mkF m 143 #[.val (.ref d0), .val (.long u0), .second, .val (.int (0 : Int32)), .val (.long (0 : Int64)), .second, .val (.long ((rr <<< ((1 : Int32) &&& 0x3f).toInt64) ||| (((x1.toUInt64 >>> (jj &&& 0x3f).toInt64.toUInt64).toInt64) &&& (1 : Int64)))), .second, .val (.long (qq <<< ((1 : Int32) &&& 0x3f).toInt64)), .second, .val (.int (jj + (-1 : Int32)))] []))
              refine Wp.step (fun t k => XS.goto X80.here hx rfl (pc0 := 143) (pc' := 92) rfl (hb hby d14_143) (by decide) (by decide) k) ?_
              show Wp p e below _ (T80.setTop (mkF m 92 #[.val (.ref d0), .val (.long u0), .second, .val (.int (0 : Int32)), .val (.long (0 : Int64)), .second, .val (.long ((rr <<< ((1 : Int32) &&& 0x3f).toInt64) ||| (((x1.toUInt64 >>> (jj &&& 0x3f).toInt64.toUInt64).toInt64) &&& (1 : Int64)))), .second, .val (.long (qq <<< ((1 : Int32) &&& 0x3f).toInt64)), .second, .val (.int (jj + (-1 : Int32)))] []))
              exact ih_63 ((rr <<< ((1 : Int32) &&& 0x3f).toInt64) ||| (((x1.toUInt64 >>> (jj &&& 0x3f).toInt64.toUInt64).toInt64) &&& (1 : Int64))) (qq <<< ((1 : Int32) &&& 0x3f).toInt64) (jj + (-1 : Int32)) _ _ T80 X80 e80 N80 KK_63 q0_63 q1_63 q2_63 ((own_inv_step (own_u_pos hd).1 hI hj).1 hc81) (by omega)
            · refine Wp.step (fun t k => XS.ifNo X80.here hx rfl (hb hby d14_125) rfl ((if0 _ _).trans (flt hc81).1) k) ?_
              show Wp p e below _ (T80.setTop (mkF m 128 #[.val (.ref d0), .val (.long u0), .second, .val (.int (0 : Int32)), .val (.long (0 : Int64)), .second, .val (.long ((rr <<< ((1 : Int32) &&& 0x3f).toInt64) ||| (((x1.toUInt64 >>> (jj &&& 0x3f).toInt64.toUInt64).toInt64) &&& (1 : Int64)))), .second, .val (.long (qq <<< ((1 : Int32) &&& 0x3f).toInt64)), .second, .val (.int jj)] []))
              refine Wp.step (fun t k => XS.lload X80.here hx rfl (hb hby d14_128) rfl k) ?_
              show Wp p e below _ (T80.setTop (mkF m 130 #[.val (.ref d0), .val (.long u0), .second, .val (.int (0 : Int32)), .val (.long (0 : Int64)), .second, .val (.long ((rr <<< ((1 : Int32) &&& 0x3f).toInt64) ||| (((x1.toUInt64 >>> (jj &&& 0x3f).toInt64.toUInt64).toInt64) &&& (1 : Int64)))), .second, .val (.long (qq <<< ((1 : Int32) &&& 0x3f).toInt64)), .second, .val (.int jj)] [(.long ((rr <<< ((1 : Int32) &&& 0x3f).toInt64) ||| (((x1.toUInt64 >>> (jj &&& 0x3f).toInt64.toUInt64).toInt64) &&& (1 : Int64))))]))
              refine Wp.step (fun t k => XS.lloadN X80.here hx rfl (hb hby d14_130) rfl k) ?_
              show Wp p e below _ (T80.setTop (mkF m 131 #[.val (.ref d0), .val (.long u0), .second, .val (.int (0 : Int32)), .val (.long (0 : Int64)), .second, .val (.long ((rr <<< ((1 : Int32) &&& 0x3f).toInt64) ||| (((x1.toUInt64 >>> (jj &&& 0x3f).toInt64.toUInt64).toInt64) &&& (1 : Int64)))), .second, .val (.long (qq <<< ((1 : Int32) &&& 0x3f).toInt64)), .second, .val (.int jj)] [(.long u0), (.long ((rr <<< ((1 : Int32) &&& 0x3f).toInt64) ||| (((x1.toUInt64 >>> (jj &&& 0x3f).toInt64.toUInt64).toInt64) &&& (1 : Int64))))]))
              refine Wp.step (fun t k => XS.lsub X80.here hx rfl (hb hby d14_131) rfl k) ?_
              show Wp p e below _ (T80.setTop (mkF m 132 #[.val (.ref d0), .val (.long u0), .second, .val (.int (0 : Int32)), .val (.long (0 : Int64)), .second, .val (.long ((rr <<< ((1 : Int32) &&& 0x3f).toInt64) ||| (((x1.toUInt64 >>> (jj &&& 0x3f).toInt64.toUInt64).toInt64) &&& (1 : Int64)))), .second, .val (.long (qq <<< ((1 : Int32) &&& 0x3f).toInt64)), .second, .val (.int jj)] [(.long (((rr <<< ((1 : Int32) &&& 0x3f).toInt64) ||| (((x1.toUInt64 >>> (jj &&& 0x3f).toInt64.toUInt64).toInt64) &&& (1 : Int64))) - u0))]))
              refine Wp.step (fun t k => XS.lstore X80.here hx rfl (hb hby d14_132) rfl (l' := #[.val (.ref d0), .val (.long u0), .second, .val (.int (0 : Int32)), .val (.long (0 : Int64)), .second, .val (.long (((rr <<< ((1 : Int32) &&& 0x3f).toInt64) ||| (((x1.toUInt64 >>> (jj &&& 0x3f).toInt64.toUInt64).toInt64) &&& (1 : Int64))) - u0)), .second, .val (.long (qq <<< ((1 : Int32) &&& 0x3f).toInt64)), .second, .val (.int jj)]) rfl k) ?_
              show Wp p e below _ (T80.setTop (mkF m 134 #[.val (.ref d0), .val (.long u0), .second, .val (.int (0 : Int32)), .val (.long (0 : Int64)), .second, .val (.long (((rr <<< ((1 : Int32) &&& 0x3f).toInt64) ||| (((x1.toUInt64 >>> (jj &&& 0x3f).toInt64.toUInt64).toInt64) &&& (1 : Int64))) - u0)), .second, .val (.long (qq <<< ((1 : Int32) &&& 0x3f).toInt64)), .second, .val (.int jj)] []))
              refine Wp.step (fun t k => XS.lload X80.here hx rfl (hb hby d14_134) rfl k) ?_
              show Wp p e below _ (T80.setTop (mkF m 136 #[.val (.ref d0), .val (.long u0), .second, .val (.int (0 : Int32)), .val (.long (0 : Int64)), .second, .val (.long (((rr <<< ((1 : Int32) &&& 0x3f).toInt64) ||| (((x1.toUInt64 >>> (jj &&& 0x3f).toInt64.toUInt64).toInt64) &&& (1 : Int64))) - u0)), .second, .val (.long (qq <<< ((1 : Int32) &&& 0x3f).toInt64)), .second, .val (.int jj)] [(.long (qq <<< ((1 : Int32) &&& 0x3f).toInt64))]))
              refine Wp.step (fun t k => XS.lconst X80.here hx rfl (hb hby d14_136) k) ?_
              show Wp p e below _ (T80.setTop (mkF m 137 #[.val (.ref d0), .val (.long u0), .second, .val (.int (0 : Int32)), .val (.long (0 : Int64)), .second, .val (.long (((rr <<< ((1 : Int32) &&& 0x3f).toInt64) ||| (((x1.toUInt64 >>> (jj &&& 0x3f).toInt64.toUInt64).toInt64) &&& (1 : Int64))) - u0)), .second, .val (.long (qq <<< ((1 : Int32) &&& 0x3f).toInt64)), .second, .val (.int jj)] [(.long (1 : Int64)), (.long (qq <<< ((1 : Int32) &&& 0x3f).toInt64))]))
              refine Wp.step (fun t k => XS.lor X80.here hx rfl (hb hby d14_137) rfl k) ?_
              show Wp p e below _ (T80.setTop (mkF m 138 #[.val (.ref d0), .val (.long u0), .second, .val (.int (0 : Int32)), .val (.long (0 : Int64)), .second, .val (.long (((rr <<< ((1 : Int32) &&& 0x3f).toInt64) ||| (((x1.toUInt64 >>> (jj &&& 0x3f).toInt64.toUInt64).toInt64) &&& (1 : Int64))) - u0)), .second, .val (.long (qq <<< ((1 : Int32) &&& 0x3f).toInt64)), .second, .val (.int jj)] [(.long ((qq <<< ((1 : Int32) &&& 0x3f).toInt64) ||| (1 : Int64)))]))
              refine Wp.step (fun t k => XS.lstore X80.here hx rfl (hb hby d14_138) rfl (l' := #[.val (.ref d0), .val (.long u0), .second, .val (.int (0 : Int32)), .val (.long (0 : Int64)), .second, .val (.long (((rr <<< ((1 : Int32) &&& 0x3f).toInt64) ||| (((x1.toUInt64 >>> (jj &&& 0x3f).toInt64.toUInt64).toInt64) &&& (1 : Int64))) - u0)), .second, .val (.long ((qq <<< ((1 : Int32) &&& 0x3f).toInt64) ||| (1 : Int64))), .second, .val (.int jj)]) rfl k) ?_
              show Wp p e below _ (T80.setTop (mkF m 140 #[.val (.ref d0), .val (.long u0), .second, .val (.int (0 : Int32)), .val (.long (0 : Int64)), .second, .val (.long (((rr <<< ((1 : Int32) &&& 0x3f).toInt64) ||| (((x1.toUInt64 >>> (jj &&& 0x3f).toInt64.toUInt64).toInt64) &&& (1 : Int64))) - u0)), .second, .val (.long ((qq <<< ((1 : Int32) &&& 0x3f).toInt64) ||| (1 : Int64))), .second, .val (.int jj)] []))
              refine Wp.step (fun t k => XS.iinc X80.here hx rfl (hb hby d14_140) rfl (l' := #[.val (.ref d0), .val (.long u0), .second, .val (.int (0 : Int32)), .val (.long (0 : Int64)), .second, .val (.long (((rr <<< ((1 : Int32) &&& 0x3f).toInt64) ||| (((x1.toUInt64 >>> (jj &&& 0x3f).toInt64.toUInt64).toInt64) &&& (1 : Int64))) - u0)), .second, .val (.long ((qq <<< ((1 : Int32) &&& 0x3f).toInt64) ||| (1 : Int64))), .second, .val (.int (jj + (-1 : Int32)))]) rfl k) ?_
              show Wp p e below _ (T80.setTop (mkF m 143 #[.val (.ref d0), .val (.long u0), .second, .val (.int (0 : Int32)), .val (.long (0 : Int64)), .second, .val (.long (((rr <<< ((1 : Int32) &&& 0x3f).toInt64) ||| (((x1.toUInt64 >>> (jj &&& 0x3f).toInt64.toUInt64).toInt64) &&& (1 : Int64))) - u0)), .second, .val (.long ((qq <<< ((1 : Int32) &&& 0x3f).toInt64) ||| (1 : Int64))), .second, .val (.int (jj + (-1 : Int32)))] []))
              refine Wp.step (fun t k => XS.goto X80.here hx rfl (pc0 := 143) (pc' := 92) rfl (hb hby d14_143) (by decide) (by decide) k) ?_
              show Wp p e below _ (T80.setTop (mkF m 92 #[.val (.ref d0), .val (.long u0), .second, .val (.int (0 : Int32)), .val (.long (0 : Int64)), .second, .val (.long (((rr <<< ((1 : Int32) &&& 0x3f).toInt64) ||| (((x1.toUInt64 >>> (jj &&& 0x3f).toInt64.toUInt64).toInt64) &&& (1 : Int64))) - u0)), .second, .val (.long ((qq <<< ((1 : Int32) &&& 0x3f).toInt64) ||| (1 : Int64))), .second, .val (.int (jj + (-1 : Int32)))] []))
              exact ih_63 (((rr <<< ((1 : Int32) &&& 0x3f).toInt64) ||| (((x1.toUInt64 >>> (jj &&& 0x3f).toInt64.toUInt64).toInt64) &&& (1 : Int64))) - u0) ((qq <<< ((1 : Int32) &&& 0x3f).toInt64) ||| (1 : Int64)) (jj + (-1 : Int32)) _ _ T80 X80 e80 N80 KK_63 q0_63 q1_63 q2_63 ((own_inv_step (own_u_pos hd).1 hI hj).2 hc81) (by omega)
      exact loop63 (1000) x0 (0 : Int64) (63 : Int32) _ _ T44 X44 e44 N43 K0 E_d0 F_high_d0 F_low_d0 (own_inv_start (own_hi_lt hU (own_u_pos hbb).1 (own_u_pos hd).2)) (by omega)
theorem pd_28JZ29Lcom2fexample2fgentle_bucket2fgentlebucket2fUint1283b : parseMethodDescriptor "(JZ)Lcom/example/gentle_bucket/gentlebucket/Uint128;" = some ⟨[.long, .boolean], some (.object "com/example/gentle_bucket/gentlebucket/Uint128")⟩ := by decide +kernel
theorem d13_0 : decode prog_17_method_9_code 0 = .ok (.aload_n 0, 1) := by decide +kernel
theorem d13_1 : decode prog_17_method_9_code 1 = .ok (.lload_n 1, 1) := by decide +kernel
theorem d13_2 : decode prog_17_method_9_code 2 = .ok (.iconst 0, 1) := by decide +kernel
theorem d13_3 : decode prog_17_method_9_code 3 = .ok (.invokevirtual 44, 3) := by decide +kernel
theorem d13_6 : decode prog_17_method_9_code 6 = .ok (.areturn, 1) := by decide +kernel
theorem ef_13_00 (m : MethodId) (x0 : Addr) (x1 : Int64) : entryFrame m #[(.ref x0), (.long x1)] 3 = mkF m 0 #[.val (.ref x0), .val (.long x1), .second] [] := by first | (simp [entryFrame, mkF, argsToLocals, Value.category]; done) | rfl
def Q13 (Z : State) (d0 : Addr) (u0 : Int64) (x0 : Int64) (x1 : Int64) (b0 : Int64) (h0 : Heap) (n0 : Nat) (v : Option Value) (h : Heap) (L : List Loc) : Prop := ∃ (r0 : Addr), v = some (.ref r0) ∧ Fr n0 L ∧ Keep h0 h [] ∧ h0.size ≤ r0 ∧ Exa Z h r0 "com/example/gentle_bucket/gentlebucket/Uint128" ∧ Fld Z h r0 "com/example/gentle_bucket/gentlebucket/Uint128" "high" "J" (.long (0 : Int64)) ∧ Fld Z h r0 "com/example/gentle_bucket/gentlebucket/Uint128" "low" "J" (.long b0)
set_option maxRecDepth 65536 in
set_option maxHeartbeats 40000000 in
theorem rm13 (l : Launch) (Z : State) (a0 : Array Value) (hw : ∀ d ∈ tables_1, d.before a0 Z = true) (ws : List Jvm.Cond) (d0 : Addr) (u0 : Int64) (x0 : Int64) (x1 : Int64) (b0 : Int64) (h0 : Heap) (n0 : Nat) (Z0 : n0 ≤ h0.size) (E_d0 : Exa Z h0 d0 "com/example/gentle_bucket/gentlebucket/Uint128") (F_high_d0 : Fld Z h0 d0 "com/example/gentle_bucket/gentlebucket/Uint128" "high" "J" (.long x0)) (F_low_d0 : Fld Z h0 d0 "com/example/gentle_bucket/gentlebucket/Uint128" "low" "J" (.long x1)) (hd : ¬ u0 < 1) (hbb : ¬ b0 < 1) (hU : own_U x0 x1 = own_u b0 * own_u u0) :
    MetFree l (⟨"com/example/gentle_bucket/gentlebucket/Uint128", "dividedRoundingDown", "(J)Lcom/example/gentle_bucket/gentlebucket/Uint128;"⟩ : MethodName) (head1 (Jvm.Cond.code (⟨"com/example/gentle_bucket/gentlebucket/Uint128", "dividedRoundingDown", "(J)Lcom/example/gentle_bucket/gentlebucket/Uint128;"⟩ : MethodName) prog_17_method_9_code 3 (some (.object "com/example/gentle_bucket/gentlebucket/Uint128")) :: ws) ({ frames := 3, cells := 1, slots := 2, locals := 52 } : Room)) (fun a U => a = #[(.ref d0), (.long u0)] ∧ Z.Warmed39 U.vm ∧ U.heap = h0) (fun _ _ _ _ _ => True) (fun _ U o U' => ∃ v L, o = .returned v ∧ Q13 Z d0 u0 x0 x1 b0 h0 n0 v U'.heap L ∧ FrameEnd U o U' L ({ frames := 3, cells := 1, slots := 2, locals := 52 } : Room).cells ({ frames := 3, cells := 1, slots := 2, locals := 52 } : Room).slots) := by
  refine MetFree.of_bodySF (plainFor_of_name pn_com_example_gentle_bucket_gentlebucket_Uint128) hisR ?_
  intro p e s m args below meth c s₁ Bd hml0 hP hK
  obtain ⟨rfl, hZ, hh⟩ := hP
  have hx := Bd.exec
  have hby := Bd.bytes
  have hlk : meth.locks = false := Bd.notSynchronized
  have hml : c.maxLocals = 3 := hml0
  have hown : s.vm.findClass "com/example/gentle_bucket/gentlebucket/Uint128" = some m.cls := findClass_of_methodNamed Bd.named
  have hnm := (name_of_methodNamed Bd.named Bd.method).1
  have X0 : Stand p l e ({ frames := 3, cells := 1, slots := 2, locals := 52 } : Room) s m #[(.ref d0), (.long u0)] below meth c s₁ [] 0 0 := Stand.of_body Bd
  have e0 : s₁.heap = h0 := by rw [← hh, Bd.state]; rfl
  have N0 := Fr.nil n0
  have K0 : Keep h0 h0 [] := Keep.refl h0 _
  show Wp p e below (Out s (Q13 Z d0 u0 x0 x1 b0 h0 n0) ({ frames := 3, cells := 1, slots := 2, locals := 52 } : Room).cells ({ frames := 3, cells := 1, slots := 2, locals := 52 } : Room).slots) (s₁.setTop (entryFrame m #[(.ref d0), (.long u0)] 3))
  rw [ef_13_00]
  show Wp p e below _ (s₁.setTop (mkF m 0 #[.val (.ref d0), .val (.long u0), .second] []))
  refine Wp.step (fun t k => XS.aloadN X0.here hx rfl (hb hby d13_0) rfl rfl k) ?_
  show Wp p e below _ (s₁.setTop (mkF m 1 #[.val (.ref d0), .val (.long u0), .second] [(.ref d0)]))
  refine Wp.step (fun t k => XS.lloadN X0.here hx rfl (hb hby d13_1) rfl k) ?_
  show Wp p e below _ (s₁.setTop (mkF m 2 #[.val (.ref d0), .val (.long u0), .second] [(.long u0), (.ref d0)]))
  refine Wp.step (fun t k => XS.iconst X0.here hx rfl (hb hby d13_2) k) ?_
  show Wp p e below _ (s₁.setTop (mkF m 3 #[.val (.ref d0), .val (.long u0), .second] [(.int (0 : Int32)), (.long u0), (.ref d0)]))
  obtain ⟨cq1, q1, q1'⟩ := E_d0.cell
  obtain ⟨_, _, ⟨T1, L1, k1, n1⟩, -, X1, ⟨Lc1, hQ1, l1, y1, z1⟩, st1⟩ := X0.privateBack hx (y := (⟨"com/example/gentle_bucket/gentlebucket/Uint128", "divided", "(JZ)Lcom/example/gentle_bucket/gentlebucket/Uint128;"⟩ : MethodName)) hown (mvT hZ (hw _ (List.mem_of_getElem? (i := 83) rfl))) (mvT hZ (hw _ (List.mem_of_getElem? (i := 84) rfl))) (own_selP hZ (hw _ (List.mem_of_getElem? (i := 61) rfl)) (hw _ (List.mem_of_getElem? (i := 85) rfl)) (hw _ (List.mem_of_getElem? (i := 84) rfl)) (by decide)) (Cond.privateMethod_at (mvP hZ (hw _ (List.mem_of_getElem? (i := 85) rfl)) (args := #[]))) (mvT hZ (hw _ (List.mem_of_getElem? (i := 86) rfl))) (by decide) (backOf (W := 0) (rm14 l Z a0 hw [] d0 u0 (0 : Int32) x0 x1 b0 h0 n0 (Nat.le_trans Z0 K0.1) E_d0 F_high_d0 F_low_d0 hd hbb hU rfl) hZ (hw _ (List.mem_of_getElem? (i := 86) rfl)) (hw _ (List.mem_of_getElem? (i := 54) rfl)) (by decide) (by decide)) (g := (mkF m 3 #[.val (.ref d0), .val (.long u0), .second] [(.int (0 : Int32)), (.long u0), (.ref d0)])) rfl (by rw [hml]; rfl) (Steps.refl _) (a := d0) (by rw [e0]; exact q1) q1' (argsL := [(.long u0), (.int (0 : Int32))]) (rest := []) (lenOf pd_28JZ29Lcom2fexample2fgentle_bucket2fgentlebucket2fUint1283b rfl) rfl (by show 2 * 0 + _ ≤ _; exact Nat.le_of_eq rfl) (hb hby d13_3) (fun _ _ => ⟨rfl, e0, (by decide : 0 + 1 ≤ _), (by decide : 0 + 2 ≤ _)⟩)
  dsimp only [Pt.U, Pt.locs, Pt.cells, Pt.slots] at X1 l1 y1 z1 st1 hQ1
  subst l1 y1 z1
  obtain ⟨h1, e1⟩ : ∃ z, T1.heap = z := ⟨_, rfl⟩
  rw [e1] at hQ1
  obtain ⟨r1, rfl, N1q, Kc1, sz1, o1_0, o1_1, o1_2⟩ := hQ1
  have N1 := Fr.app N0 N1q
  have g_r1 : n0 ≤ r1 := Nat.le_trans (Nat.le_trans Z0 K0.1) sz1
  have sz_r1 : h0.size ≤ r1 := Nat.le_trans K0.1 sz1
  have ne_d0_r1 : d0 ≠ r1 := Nat.ne_of_lt (Nat.lt_of_lt_of_le E_d0.lt sz1)
  have c2 := E_d0.keep Kc1
  have c3 := F_high_d0.keep Kc1 nin0
  have c4 := F_low_d0.keep Kc1 nin0
  have K1 := K0.trans Kc1 all0
  refine Wp.go st1 ?_
  show Wp p e below _ (T1.setTop (mkF m 6 #[.val (.ref d0), .val (.long u0), .second] [(.ref r1)]))
  refine Wp.retA X1 hx Bd.returns rfl (hb hby d13_6) hlk ?_ (by decide) (by decide)
  show Q13 Z d0 u0 x0 x1 b0 h0 n0 (some (.ref r1)) T1.heap _
  rw [e1]
  exact ⟨r1, rfl, N1, K1, sz_r1, o1_0, o1_1, o1_2⟩
theorem d4_0 : decode prog_15_method_6_code 0 = .ok (.aconst_null, 1) := by decide +kernel
theorem d4_1 : decode prog_15_method_6_code 1 = .ok (.astore 4, 2) := by decide +kernel
theorem d4_3 : decode prog_15_method_6_code 3 = .ok (.lload_n 0, 1) := by decide +kernel
theorem d4_4 : decode prog_15_method_6_code 4 = .ok (.lconst 1, 1) := by decide +kernel
theorem d4_5 : decode prog_15_method_6_code 5 = .ok (.lcmp, 1) := by decide +kernel
theorem d4_6 : decode prog_15_method_6_code 6 = .ok (.ifCond .ge 10, 3) := by decide +kernel
theorem d4_16 : decode prog_15_method_6_code 16 = .ok (.lload_n 2, 1) := by decide +kernel
theorem d4_17 : decode prog_15_method_6_code 17 = .ok (.lconst 1, 1) := by decide +kernel
theorem d4_18 : decode prog_15_method_6_code 18 = .ok (.lcmp, 1) := by decide +kernel
theorem d4_19 : decode prog_15_method_6_code 19 = .ok (.ifCond .ge 7, 3) := by decide +kernel
theorem d4_26 : decode prog_15_method_6_code 26 = .ok (.aload 4, 2) := by decide +kernel
theorem d4_28 : decode prog_15_method_6_code 28 = .ok (.areturn, 1) := by decide +kernel
theorem ef_4_00 (m : MethodId) (x0 : Int64) (x1 : Int64) : entryFrame m #[(.long x0), (.long x1)] 5 = mkF m 0 #[.val (.long x0), .second, .val (.long x1), .second, .unset] [] := by first | (simp [entryFrame, mkF, argsToLocals, Value.category]; done) | rfl
def Q4 (Z : State) (u0 : Int64) (u1 : Int64) (h0 : Heap) (n0 : Nat) (v : Option Value) (h : Heap) (L : List Loc) : Prop := v = some .null ∧ Fr n0 L ∧ h = h0
set_option maxRecDepth 65536 in
set_option maxHeartbeats 40000000 in
theorem rm4 (l : Launch) (Z : State) (a0 : Array Value) (hw : ∀ d ∈ tables_1, d.before a0 Z = true) (ws : List Jvm.Cond) (u0 : Int64) (u1 : Int64) (h0 : Heap) (n0 : Nat) (Z0 : n0 ≤ h0.size) (ha : ¬ u0 < 1) (hp : ¬ u1 < 1) :
    MetFree l (⟨"com/example/gentle_bucket/gentlebucket/Rate", "refusal", "(JJ)Ljava/lang/String;"⟩ : MethodName) (head1 (Jvm.Cond.code (⟨"com/example/gentle_bucket/gentlebucket/Rate", "refusal", "(JJ)Ljava/lang/String;"⟩ : MethodName) prog_15_method_6_code 5 (some (.object "java/lang/String")) :: ws) ({ frames := 0, cells := 0, slots := 0, locals := 0 } : Room)) (fun a U => a = #[(.long u0), (.long u1)] ∧ Z.Warmed39 U.vm ∧ U.heap = h0) (fun _ _ _ _ _ => True) (fun _ U o U' => ∃ v L, o = .returned v ∧ Q4 Z u0 u1 h0 n0 v U'.heap L ∧ FrameEnd U o U' L ({ frames := 0, cells := 0, slots := 0, locals := 0 } : Room).cells ({ frames := 0, cells := 0, slots := 0, locals := 0 } : Room).slots) := by
  refine MetFree.of_bodySF (plainFor_of_name pn_com_example_gentle_bucket_gentlebucket_Rate) hisR ?_
  intro p e s m args below meth c s₁ Bd hml0 hP hK
  obtain ⟨rfl, hZ, hh⟩ := hP
  have hx := Bd.exec
  have hby := Bd.bytes
  have hlk : meth.locks = false := Bd.notSynchronized
  have hml : c.maxLocals = 5 := hml0
  have hown : s.vm.findClass "com/example/gentle_bucket/gentlebucket/Rate" = some m.cls := findClass_of_methodNamed Bd.named
  have hnm := (name_of_methodNamed Bd.named Bd.method).1
  have X0 : Stand p l e ({ frames := 0, cells := 0, slots := 0, locals := 0 } : Room) s m #[(.long u0), (.long u1)] below meth c s₁ [] 0 0 := Stand.of_body Bd
  have e0 : s₁.heap = h0 := by rw [← hh, Bd.state]; rfl
  have N0 := Fr.nil n0
  have K0 : Keep h0 h0 [] := Keep.refl h0 _
  show Wp p e below (Out s (Q4 Z u0 u1 h0 n0) ({ frames := 0, cells := 0, slots := 0, locals := 0 } : Room).cells ({ frames := 0, cells := 0, slots := 0, locals := 0 } : Room).slots) (s₁.setTop (entryFrame m #[(.long u0), (.long u1)] 5))
  rw [ef_4_00]
  show Wp p e below _ (s₁.setTop (mkF m 0 #[.val (.long u0), .second, .val (.long u1), .second, .unset] []))
  refine Wp.step (fun t k => XS.aconstNull X0.here hx rfl (hb hby d4_0) k) ?_
  show Wp p e below _ (s₁.setTop (mkF m 1 #[.val (.long u0), .second, .val (.long u1), .second, .unset] [.null]))
  refine Wp.step (fun t k => XS.astore X0.here hx rfl (hb hby d4_1) rfl rfl (l' := #[.val (.long u0), .second, .val (.long u1), .second, .val .null]) rfl k) ?_
  show Wp p e below _ (s₁.setTop (mkF m 3 #[.val (.long u0), .second, .val (.long u1), .second, .val .null] []))
  refine Wp.step (fun t k => XS.lloadN X0.here hx rfl (hb hby d4_3) rfl k) ?_
  show Wp p e below _ (s₁.setTop (mkF m 4 #[.val (.long u0), .second, .val (.long u1), .second, .val .null] [(.long u0)]))
  refine Wp.step (fun t k => XS.lconst X0.here hx rfl (hb hby d4_4) k) ?_
  show Wp p e below _ (s₁.setTop (mkF m 5 #[.val (.long u0), .second, .val (.long u1), .second, .val .null] [(.long (1 : Int64)), (.long u0)]))
  refine Wp.step (fun t k => XS.lcmp X0.here hx rfl (hb hby d4_5) rfl k) ?_
  show Wp p e below _ (s₁.setTop (mkF m 6 #[.val (.long u0), .second, .val (.long u1), .second, .val .null] [(.int (lcmpW u0 (1 : Int64)))]))
  refine Wp.step (fun t k => XS.ifYes X0.here hx rfl (pc0 := 6) (pc' := 16) rfl (hb hby d4_6) rfl ((if0 _ _).trans (flt (show ¬ ((lcmpW u0 (1 : Int64)) < (0 : Int32)) from fun q => ha ((lw_lt _ _).mp q))).2.1) (by decide) (by decide) k) ?_
  show Wp p e below _ (s₁.setTop (mkF m 16 #[.val (.long u0), .second, .val (.long u1), .second, .val .null] []))
  refine Wp.step (fun t k => XS.lloadN X0.here hx rfl (hb hby d4_16) rfl k) ?_
  show Wp p e below _ (s₁.setTop (mkF m 17 #[.val (.long u0), .second, .val (.long u1), .second, .val .null] [(.long u1)]))
  refine Wp.step (fun t k => XS.lconst X0.here hx rfl (hb hby d4_17) k) ?_
  show Wp p e below _ (s₁.setTop (mkF m 18 #[.val (.long u0), .second, .val (.long u1), .second, .val .null] [(.long (1 : Int64)), (.long u1)]))
  refine Wp.step (fun t k => XS.lcmp X0.here hx rfl (hb hby d4_18) rfl k) ?_
  show Wp p e below _ (s₁.setTop (mkF m 19 #[.val (.long u0), .second, .val (.long u1), .second, .val .null] [(.int (lcmpW u1 (1 : Int64)))]))
  refine Wp.step (fun t k => XS.ifYes X0.here hx rfl (pc0 := 19) (pc' := 26) rfl (hb hby d4_19) rfl ((if0 _ _).trans (flt (show ¬ ((lcmpW u1 (1 : Int64)) < (0 : Int32)) from fun q => hp ((lw_lt _ _).mp q))).2.1) (by decide) (by decide) k) ?_
  show Wp p e below _ (s₁.setTop (mkF m 26 #[.val (.long u0), .second, .val (.long u1), .second, .val .null] []))
  refine Wp.step (fun t k => XS.aload X0.here hx rfl (hb hby d4_26) rfl rfl k) ?_
  show Wp p e below _ (s₁.setTop (mkF m 28 #[.val (.long u0), .second, .val (.long u1), .second, .val .null] [.null]))
  refine Wp.retA X0 hx Bd.returns rfl (hb hby d4_28) hlk ?_ (by decide) (by decide)
  show Q4 Z u0 u1 h0 n0 (some .null) s₁.heap _
  rw [e0]
  exact ⟨rfl, N0, rfl⟩
theorem pd_28JJ29Ljava2flang2fString3b : parseMethodDescriptor "(JJ)Ljava/lang/String;" = some ⟨[.long, .long], some (.object "java/lang/String")⟩ := by decide +kernel
theorem d2_0 : decode prog_15_method_1_code 0 = .ok (.aload_n 0, 1) := by decide +kernel
theorem d2_1 : decode prog_15_method_1_code 1 = .ok (.invokespecial 1, 3) := by decide +kernel
theorem d2_4 : decode prog_15_method_1_code 4 = .ok (.lload_n 1, 1) := by decide +kernel
theorem d2_5 : decode prog_15_method_1_code 5 = .ok (.lload_n 3, 1) := by decide +kernel
theorem d2_6 : decode prog_15_method_1_code 6 = .ok (.invokestatic 7, 3) := by decide +kernel
theorem d2_9 : decode prog_15_method_1_code 9 = .ok (.astore 5, 2) := by decide +kernel
theorem d2_11 : decode prog_15_method_1_code 11 = .ok (.aload 5, 2) := by decide +kernel
theorem d2_13 : decode prog_15_method_1_code 13 = .ok (.ifnull 20, 3) := by decide +kernel
theorem d2_33 : decode prog_15_method_1_code 33 = .ok (.aload_n 0, 1) := by decide +kernel
theorem d2_34 : decode prog_15_method_1_code 34 = .ok (.lload_n 1, 1) := by decide +kernel
theorem d2_35 : decode prog_15_method_1_code 35 = .ok (.putfield 22, 3) := by decide +kernel
theorem d2_38 : decode prog_15_method_1_code 38 = .ok (.aload_n 0, 1) := by decide +kernel
theorem d2_39 : decode prog_15_method_1_code 39 = .ok (.lload_n 3, 1) := by decide +kernel
theorem d2_40 : decode prog_15_method_1_code 40 = .ok (.putfield 26, 3) := by decide +kernel
theorem d2_43 : decode prog_15_method_1_code 43 = .ok (.return_, 1) := by decide +kernel
theorem ef_2_000 (m : MethodId) (x0 : Addr) (x1 : Int64) (x2 : Int64) : entryFrame m #[(.ref x0), (.long x1), (.long x2)] 6 = mkF m 0 #[.val (.ref x0), .val (.long x1), .second, .val (.long x2), .second, .unset] [] := by first | (simp [entryFrame, mkF, argsToLocals, Value.category]; done) | rfl
def Q2 (Z : State) (d0 : Addr) (u0 : Int64) (u1 : Int64) (h0 : Heap) (n0 : Nat) (v : Option Value) (h : Heap) (L : List Loc) : Prop := v = none ∧ Fr n0 L ∧ Keep h0 h [d0] ∧ Exa Z h d0 "com/example/gentle_bucket/gentlebucket/Rate" ∧ Fld Z h d0 "com/example/gentle_bucket/gentlebucket/Rate" "amount" "J" (.long u0) ∧ Fld Z h d0 "com/example/gentle_bucket/gentlebucket/Rate" "periodNanos" "J" (.long u1)
set_option maxRecDepth 65536 in
set_option maxHeartbeats 40000000 in
theorem rm2 (l : Launch) (Z : State) (a0 : Array Value) (hw : ∀ d ∈ tables_1, d.before a0 Z = true) (ws : List Jvm.Cond) (d0 : Addr) (u0 : Int64) (u1 : Int64) (h0 : Heap) (n0 : Nat) (Z0 : n0 ≤ h0.size) (g_d0 : n0 ≤ d0) (E_d0 : Exa Z h0 d0 "com/example/gentle_bucket/gentlebucket/Rate") (F_amount_d0 : Fld Z h0 d0 "com/example/gentle_bucket/gentlebucket/Rate" "amount" "J" (.long (0 : Int64))) (F_periodNanos_d0 : Fld Z h0 d0 "com/example/gentle_bucket/gentlebucket/Rate" "periodNanos" "J" (.long (0 : Int64))) (ha : ¬ u0 < 1) (hp : ¬ u1 < 1) :
    MetFree l (⟨"com/example/gentle_bucket/gentlebucket/Rate", "<init>", "(JJ)V"⟩ : MethodName) (head1 (Jvm.Cond.code (⟨"com/example/gentle_bucket/gentlebucket/Rate", "<init>", "(JJ)V"⟩ : MethodName) prog_15_method_1_code 6 none :: ws) ({ frames := 1, cells := 0, slots := 0, locals := 16 } : Room)) (fun a U => a = #[(.ref d0), (.long u0), (.long u1)] ∧ Z.Warmed39 U.vm ∧ U.heap = h0) (fun _ _ _ _ _ => True) (fun _ U o U' => ∃ v L, o = .returned v ∧ Q2 Z d0 u0 u1 h0 n0 v U'.heap L ∧ FrameEnd U o U' L ({ frames := 1, cells := 0, slots := 0, locals := 16 } : Room).cells ({ frames := 1, cells := 0, slots := 0, locals := 16 } : Room).slots) := by
  refine MetFree.of_bodySF (plainFor_of_name pn_com_example_gentle_bucket_gentlebucket_Rate) hisR ?_
  intro p e s m args below meth c s₁ Bd hml0 hP hK
  obtain ⟨rfl, hZ, hh⟩ := hP
  have hx := Bd.exec
  have hby := Bd.bytes
  have hlk : meth.locks = false := Bd.notSynchronized
  have hml : c.maxLocals = 6 := hml0
  have hown : s.vm.findClass "com/example/gentle_bucket/gentlebucket/Rate" = some m.cls := findClass_of_methodNamed Bd.named
  have hnm := (name_of_methodNamed Bd.named Bd.method).1
  have X0 : Stand p l e ({ frames := 1, cells := 0, slots := 0, locals := 16 } : Room) s m #[(.ref d0), (.long u0), (.long u1)] below meth c s₁ [] 0 0 := Stand.of_body Bd
  have e0 : s₁.heap = h0 := by rw [← hh, Bd.state]; rfl
  have N0 := Fr.nil n0
  have K0 : Keep h0 h0 [d0] := Keep.refl h0 _
  show Wp p e below (Out s (Q2 Z d0 u0 u1 h0 n0) ({ frames := 1, cells := 0, slots := 0, locals := 16 } : Room).cells ({ frames := 1, cells := 0, slots := 0, locals := 16 } : Room).slots) (s₁.setTop (entryFrame m #[(.ref d0), (.long u0), (.long u1)] 6))
  rw [ef_2_000]
  show Wp p e below _ (s₁.setTop (mkF m 0 #[.val (.ref d0), .val (.long u0), .second, .val (.long u1), .second, .unset] []))
  refine Wp.step (fun t k => XS.aloadN X0.here hx rfl (hb hby d2_0) rfl rfl k) ?_
  show Wp p e below _ (s₁.setTop (mkF m 1 #[.val (.ref d0), .val (.long u0), .second, .val (.long u1), .second, .unset] [(.ref d0)]))
  obtain ⟨T1, X1, e1, st1⟩ := initO X0 hx hZ hown (hw _ (List.mem_of_getElem? (i := 17) rfl)) (hw _ (List.mem_of_getElem? (i := 18) rfl)) (hw _ (List.mem_of_getElem? (i := 19) rfl)) e0 (g := (mkF m 1 #[.val (.ref d0), .val (.long u0), .second, .val (.long u1), .second, .unset] [(.ref d0)])) rfl (by rw [hml]; rfl) rfl (hb hby d2_1) (by decide) (W := 0) (by show 2 * 0 + _ ≤ _; exact Nat.le_of_eq rfl) (by decide)
  refine Wp.step st1 ?_
  show Wp p e below _ (T1.setTop (mkF m 4 #[.val (.ref d0), .val (.long u0), .second, .val (.long u1), .second, .unset] []))
  refine Wp.step (fun t k => XS.lloadN X1.here hx rfl (hb hby d2_4) rfl k) ?_
  show Wp p e below _ (T1.setTop (mkF m 5 #[.val (.ref d0), .val (.long u0), .second, .val (.long u1), .second, .unset] [(.long u0)]))
  refine Wp.step (fun t k => XS.lloadN X1.here hx rfl (hb hby d2_5) rfl k) ?_
  show Wp p e below _ (T1.setTop (mkF m 6 #[.val (.ref d0), .val (.long u0), .second, .val (.long u1), .second, .unset] [(.long u1), (.long u0)]))
  obtain ⟨_, _, ⟨T2, L2, k2, n2⟩, -, X2, ⟨Lc2, hQ2, l2, y2, z2⟩, st2⟩ := Jvm.LawKit.callS X1 hx (y := (⟨"com/example/gentle_bucket/gentlebucket/Rate", "refusal", "(JJ)Ljava/lang/String;"⟩ : MethodName)) hown (mvT hZ (hw _ (List.mem_of_getElem? (i := 20) rfl))) (mvT hZ (hw _ (List.mem_of_getElem? (i := 21) rfl))) (mvT hZ (hw _ (List.mem_of_getElem? (i := 13) rfl))) (mvT hZ (hw _ (List.mem_of_getElem? (i := 22) rfl))) (by decide) (backOf (W := 0) (rm4 l Z a0 hw [] u0 u1  h0 n0 (Nat.le_trans Z0 K0.1)  ha hp) hZ (hw _ (List.mem_of_getElem? (i := 22) rfl)) (hw _ (List.mem_of_getElem? (i := 13) rfl)) (by decide) (by decide)) (g := (mkF m 6 #[.val (.ref d0), .val (.long u0), .second, .val (.long u1), .second, .unset] [(.long u1), (.long u0)])) rfl (by rw [hml]; rfl) (argsL := [(.long u0), (.long u1)]) (rest := []) (lenOf pd_28JJ29Ljava2flang2fString3b rfl) rfl (by show 2 * 0 + _ ≤ _; exact Nat.le_of_eq rfl) (hb hby d2_6) (fun _ _ => ⟨rfl, e1, (by decide : 0 + 0 ≤ _), (by decide : 0 + 0 ≤ _)⟩)
  dsimp only [Pt.U, Pt.locs, Pt.cells, Pt.slots] at X2 l2 y2 z2 st2 hQ2
  subst l2 y2 z2
  obtain ⟨rfl, N2q, e2⟩ := hQ2
  have N2 := Fr.app N0 N2q
  refine Wp.step st2 ?_
  show Wp p e below _ (T2.setTop (mkF m 9 #[.val (.ref d0), .val (.long u0), .second, .val (.long u1), .second, .unset] [.null]))
  refine Wp.step (fun t k => XS.astore X2.here hx rfl (hb hby d2_9) rfl rfl (l' := #[.val (.ref d0), .val (.long u0), .second, .val (.long u1), .second, .val .null]) rfl k) ?_
  show Wp p e below _ (T2.setTop (mkF m 11 #[.val (.ref d0), .val (.long u0), .second, .val (.long u1), .second, .val .null] []))
  refine Wp.step (fun t k => XS.aload X2.here hx rfl (hb hby d2_11) rfl rfl k) ?_
  show Wp p e below _ (T2.setTop (mkF m 13 #[.val (.ref d0), .val (.long u0), .second, .val (.long u1), .second, .val .null] [.null]))
  refine Wp.step (fun t k => XS.ifnullYes X2.here hx rfl (pc0 := 13) (pc' := 33) rfl (hb hby d2_13) rfl (by decide) (by decide) k) ?_
  show Wp p e below _ (T2.setTop (mkF m 33 #[.val (.ref d0), .val (.long u0), .second, .val (.long u1), .second, .val .null] []))
  refine Wp.step (fun t k => XS.aloadN X2.here hx rfl (hb hby d2_33) rfl rfl k) ?_
  show Wp p e below _ (T2.setTop (mkF m 34 #[.val (.ref d0), .val (.long u0), .second, .val (.long u1), .second, .val .null] [(.ref d0)]))
  refine Wp.step (fun t k => XS.lloadN X2.here hx rfl (hb hby d2_34) rfl k) ?_
  show Wp p e below _ (T2.setTop (mkF m 35 #[.val (.ref d0), .val (.long u0), .second, .val (.long u1), .second, .val .null] [(.long u0), (.ref d0)]))
  obtain ⟨T3, h3, X3, e3, W3, st3⟩ := putF X2 hx hZ hown (host := "") (Or.inl (hw _ (List.mem_of_getElem? (i := 23) rfl))) Via.refl e2 F_amount_d0 E_d0 (Or.inr ⟨(hw _ (List.mem_of_getElem? (i := 24) rfl)), rfl, hnm⟩) (hw _ (List.mem_of_getElem? (i := 12) rfl)) (ty := .long) (by decide) rfl rfl (g := (mkF m 35 #[.val (.ref d0), .val (.long u0), .second, .val (.long u1), .second, .val .null] [(.long u0), (.ref d0)])) rfl rfl (hb hby d2_35)
  have c4 := E_d0.wr W3
  have c5 := F_periodNanos_d0.other W3 (Or.inr (slot_ne (Or.inr (hw _ (List.mem_of_getElem? (i := 26) rfl))) (Or.inr (hw _ (List.mem_of_getElem? (i := 24) rfl))) (by decide) (t := .long) (t' := .long) (by decide) (by decide)))
  have c6 := F_amount_d0.same W3
  have K7 := K0.wr W3 (Or.inl (List.mem_of_getElem? (i := 0) rfl))
  have N3 := Fr.snoc X3 N2 g_d0
  refine Wp.step st3 ?_
  show Wp p e below _ (T3.setTop (mkF m 38 #[.val (.ref d0), .val (.long u0), .second, .val (.long u1), .second, .val .null] []))
  refine Wp.step (fun t k => XS.aloadN X3.here hx rfl (hb hby d2_38) rfl rfl k) ?_
  show Wp p e below _ (T3.setTop (mkF m 39 #[.val (.ref d0), .val (.long u0), .second, .val (.long u1), .second, .val .null] [(.ref d0)]))
  refine Wp.step (fun t k => XS.lloadN X3.here hx rfl (hb hby d2_39) rfl k) ?_
  show Wp p e below _ (T3.setTop (mkF m 40 #[.val (.ref d0), .val (.long u0), .second, .val (.long u1), .second, .val .null] [(.long u1), (.ref d0)]))
  obtain ⟨T8, h8, X8, e8, W8, st8⟩ := putF X3 hx hZ hown (host := "") (Or.inl (hw _ (List.mem_of_getElem? (i := 25) rfl))) Via.refl e3 c5 c4 (Or.inr ⟨(hw _ (List.mem_of_getElem? (i := 26) rfl)), rfl, hnm⟩) (hw _ (List.mem_of_getElem? (i := 12) rfl)) (ty := .long) (by decide) rfl rfl (g := (mkF m 40 #[.val (.ref d0), .val (.long u0), .second, .val (.long u1), .second, .val .null] [(.long u1), (.ref d0)])) rfl rfl (hb hby d2_40)
  have c9 := c4.wr W8
  have c10 := c6.other W8 (Or.inr (slot_ne (Or.inr (hw _ (List.mem_of_getElem? (i := 24) rfl))) (Or.inr (hw _ (List.mem_of_getElem? (i := 26) rfl))) (by decide) (t := .long) (t' := .long) (by decide) (by decide)))
  have c11 := c5.same W8
  have K12 := K7.wr W8 (Or.inl (List.mem_of_getElem? (i := 0) rfl))
  have N8 := Fr.snoc X8 N3 g_d0
  refine Wp.step st8 ?_
  show Wp p e below _ (T8.setTop (mkF m 43 #[.val (.ref d0), .val (.long u0), .second, .val (.long u1), .second, .val .null] []))
  refine Wp.retV X8 hx Bd.returns (hb hby d2_43) hlk ?_ (by decide) (by decide)
  show Q2 Z d0 u0 u1 h0 n0 none T8.heap _
  rw [e8]
  exact ⟨rfl, N8, K12, c9, c10, c11⟩
theorem d6_0 : decode prog_3_method_12_code 0 = .ok (.lload_n 0, 1) := by decide +kernel
theorem d6_1 : decode prog_3_method_12_code 1 = .ok (.lconst 1, 1) := by decide +kernel
theorem d6_2 : decode prog_3_method_12_code 2 = .ok (.lcmp, 1) := by decide +kernel
theorem d6_3 : decode prog_3_method_12_code 3 = .ok (.ifCond .ge 17, 3) := by decide +kernel
theorem d6_20 : decode prog_3_method_12_code 20 = .ok (.lload_n 0, 1) := by decide +kernel
theorem d6_21 : decode prog_3_method_12_code 21 = .ok (.lreturn, 1) := by decide +kernel
theorem ef_6_0 (m : MethodId) (x0 : Int64) : entryFrame m #[(.long x0)] 2 = mkF m 0 #[.val (.long x0), .second] [] := by first | (simp [entryFrame, mkF, argsToLocals, Value.category]; done) | rfl
def Q6 (Z : State) (u0 : Int64) (h0 : Heap) (n0 : Nat) (v : Option Value) (h : Heap) (L : List Loc) : Prop := v = some (.long u0) ∧ Fr n0 L ∧ h = h0
set_option maxRecDepth 65536 in
set_option maxHeartbeats 40000000 in
theorem rm6 (l : Launch) (Z : State) (a0 : Array Value) (hw : ∀ d ∈ tables_1, d.before a0 Z = true) (ws : List Jvm.Cond) (u0 : Int64) (h0 : Heap) (n0 : Nat) (Z0 : n0 ≤ h0.size) (hbb : ¬ u0 < 1) :
    MetFree l (⟨"com/example/gentle_bucket/gentlebucket/Contract", "atLeastOne", "(J)J"⟩ : MethodName) (head1 (Jvm.Cond.code (⟨"com/example/gentle_bucket/gentlebucket/Contract", "atLeastOne", "(J)J"⟩ : MethodName) prog_3_method_12_code 2 (some .long) :: ws) ({ frames := 0, cells := 0, slots := 0, locals := 0 } : Room)) (fun a U => a = #[(.long u0)] ∧ Z.Warmed39 U.vm ∧ U.heap = h0) (fun _ _ _ _ _ => True) (fun _ U o U' => ∃ v L, o = .returned v ∧ Q6 Z u0 h0 n0 v U'.heap L ∧ FrameEnd U o U' L ({ frames := 0, cells := 0, slots := 0, locals := 0 } : Room).cells ({ frames := 0, cells := 0, slots := 0, locals := 0 } : Room).slots) := by
  refine MetFree.of_bodySF (plainFor_of_name pn_com_example_gentle_bucket_gentlebucket_Contract) hisR ?_
  intro p e s m args below meth c s₁ Bd hml0 hP hK
  obtain ⟨rfl, hZ, hh⟩ := hP
  have hx := Bd.exec
  have hby := Bd.bytes
  have hlk : meth.locks = false := Bd.notSynchronized
  have hml : c.maxLocals = 2 := hml0
  have hown : s.vm.findClass "com/example/gentle_bucket/gentlebucket/Contract" = some m.cls := findClass_of_methodNamed Bd.named
  have hnm := (name_of_methodNamed Bd.named Bd.method).1
  have X0 : Stand p l e ({ frames := 0, cells := 0, slots := 0, locals := 0 } : Room) s m #[(.long u0)] below meth c s₁ [] 0 0 := Stand.of_body Bd
  have e0 : s₁.heap = h0 := by rw [← hh, Bd.state]; rfl
  have N0 := Fr.nil n0
  have K0 : Keep h0 h0 [] := Keep.refl h0 _
  show Wp p e below (Out s (Q6 Z u0 h0 n0) ({ frames := 0, cells := 0, slots := 0, locals := 0 } : Room).cells ({ frames := 0, cells := 0, slots := 0, locals := 0 } : Room).slots) (s₁.setTop (entryFrame m #[(.long u0)] 2))
  rw [ef_6_0]
  show Wp p e below _ (s₁.setTop (mkF m 0 #[.val (.long u0), .second] []))
  refine Wp.step (fun t k => XS.lloadN X0.here hx rfl (hb hby d6_0) rfl k) ?_
  show Wp p e below _ (s₁.setTop (mkF m 1 #[.val (.long u0), .second] [(.long u0)]))
  refine Wp.step (fun t k => XS.lconst X0.here hx rfl (hb hby d6_1) k) ?_
  show Wp p e below _ (s₁.setTop (mkF m 2 #[.val (.long u0), .second] [(.long (1 : Int64)), (.long u0)]))
  refine Wp.step (fun t k => XS.lcmp X0.here hx rfl (hb hby d6_2) rfl k) ?_
  show Wp p e below _ (s₁.setTop (mkF m 3 #[.val (.long u0), .second] [(.int (lcmpW u0 (1 : Int64)))]))
  refine Wp.step (fun t k => XS.ifYes X0.here hx rfl (pc0 := 3) (pc' := 20) rfl (hb hby d6_3) rfl ((if0 _ _).trans (flt (show ¬ ((lcmpW u0 (1 : Int64)) < (0 : Int32)) from fun q => hbb ((lw_lt _ _).mp q))).2.1) (by decide) (by decide) k) ?_
  show Wp p e below _ (s₁.setTop (mkF m 20 #[.val (.long u0), .second] []))
  refine Wp.step (fun t k => XS.lloadN X0.here hx rfl (hb hby d6_20) rfl k) ?_
  show Wp p e below _ (s₁.setTop (mkF m 21 #[.val (.long u0), .second] [(.long u0)]))
  refine Wp.retJ X0 hx Bd.returns (hb hby d6_21) hlk ?_ (by decide) (by decide)
  show Q6 Z u0 h0 n0 (some (.long u0)) s₁.heap _
  rw [e0]
  exact ⟨rfl, N0, rfl⟩
theorem d7_0 : decode jdk_31_method_11_code 0 = .ok (.aload_n 0, 1) := by decide +kernel
theorem d7_1 : decode jdk_31_method_11_code 1 = .ok (.ifnonnull 12, 3) := by decide +kernel
theorem d7_13 : decode jdk_31_method_11_code 13 = .ok (.aload_n 0, 1) := by decide +kernel
theorem d7_14 : decode jdk_31_method_11_code 14 = .ok (.areturn, 1) := by decide +kernel
theorem pn_java_util_Objects : plainName "java/util/Objects" = true := by first | (simp [plainName, overriddenIn]; done) | decide +kernel
theorem ef_7_00 (m : MethodId) (x0 : Addr) (x1 : Addr) : entryFrame m #[(.ref x0), (.ref x1)] 2 = mkF m 0 #[.val (.ref x0), .val (.ref x1)] [] := by first | (simp [entryFrame, mkF, argsToLocals, Value.category]; done) | rfl
def Q7 (Z : State) (d0 : Addr) (d1 : Addr) (h0 : Heap) (n0 : Nat) (v : Option Value) (h : Heap) (L : List Loc) : Prop := v = some (.ref d0) ∧ Fr n0 L ∧ h = h0
set_option maxRecDepth 65536 in
set_option maxHeartbeats 40000000 in
theorem rm7 (l : Launch) (Z : State) (a0 : Array Value) (hw : ∀ d ∈ tables_1, d.before a0 Z = true) (ws : List Jvm.Cond) (d0 : Addr) (d1 : Addr) (h0 : Heap) (n0 : Nat) (Z0 : n0 ≤ h0.size) :
    MetFree l (⟨"java/util/Objects", "requireNonNull", "(Ljava/lang/Object;Ljava/lang/String;)Ljava/lang/Object;"⟩ : MethodName) (head1 (Jvm.Cond.code (⟨"java/util/Objects", "requireNonNull", "(Ljava/lang/Object;Ljava/lang/String;)Ljava/lang/Object;"⟩ : MethodName) jdk_31_method_11_code 2 (some (.object "java/lang/Object")) :: ws) ({ frames := 0, cells := 0, slots := 0, locals := 0 } : Room)) (fun a U => a = #[(.ref d0), (.ref d1)] ∧ Z.Warmed39 U.vm ∧ U.heap = h0) (fun _ _ _ _ _ => True) (fun _ U o U' => ∃ v L, o = .returned v ∧ Q7 Z d0 d1 h0 n0 v U'.heap L ∧ FrameEnd U o U' L ({ frames := 0, cells := 0, slots := 0, locals := 0 } : Room).cells ({ frames := 0, cells := 0, slots := 0, locals := 0 } : Room).slots) := by
  refine MetFree.of_bodySF (plainFor_of_name pn_java_util_Objects) hisR ?_
  intro p e s m args below meth c s₁ Bd hml0 hP hK
  obtain ⟨rfl, hZ, hh⟩ := hP
  have hx := Bd.exec
  have hby := Bd.bytes
  have hlk : meth.locks = false := Bd.notSynchronized
  have hml : c.maxLocals = 2 := hml0
  have hown : s.vm.findClass "java/util/Objects" = some m.cls := findClass_of_methodNamed Bd.named
  have hnm := (name_of_methodNamed Bd.named Bd.method).1
  have X0 : Stand p l e ({ frames := 0, cells := 0, slots := 0, locals := 0 } : Room) s m #[(.ref d0), (.ref d1)] below meth c s₁ [] 0 0 := Stand.of_body Bd
  have e0 : s₁.heap = h0 := by rw [← hh, Bd.state]; rfl
  have N0 := Fr.nil n0
  have K0 : Keep h0 h0 [] := Keep.refl h0 _
  show Wp p e below (Out s (Q7 Z d0 d1 h0 n0) ({ frames := 0, cells := 0, slots := 0, locals := 0 } : Room).cells ({ frames := 0, cells := 0, slots := 0, locals := 0 } : Room).slots) (s₁.setTop (entryFrame m #[(.ref d0), (.ref d1)] 2))
  rw [ef_7_00]
  show Wp p e below _ (s₁.setTop (mkF m 0 #[.val (.ref d0), .val (.ref d1)] []))
  refine Wp.step (fun t k => XS.aloadN X0.here hx rfl (hb hby d7_0) rfl rfl k) ?_
  show Wp p e below _ (s₁.setTop (mkF m 1 #[.val (.ref d0), .val (.ref d1)] [(.ref d0)]))
  refine Wp.step (fun t k => XS.ifnonnullYes X0.here hx rfl (pc0 := 1) (pc' := 13) rfl (hb hby d7_1) rfl (by decide) (by decide) k) ?_
  show Wp p e below _ (s₁.setTop (mkF m 13 #[.val (.ref d0), .val (.ref d1)] []))
  refine Wp.step (fun t k => XS.aloadN X0.here hx rfl (hb hby d7_13) rfl rfl k) ?_
  show Wp p e below _ (s₁.setTop (mkF m 14 #[.val (.ref d0), .val (.ref d1)] [(.ref d0)]))
  refine Wp.retA X0 hx Bd.returns rfl (hb hby d7_14) hlk ?_ (by decide) (by decide)
  show Q7 Z d0 d1 h0 n0 (some (.ref d0)) s₁.heap _
  rw [e0]
  exact ⟨rfl, N0, rfl⟩
theorem pd_2829J : parseMethodDescriptor "()J" = some ⟨[], some .long⟩ := by decide +kernel
theorem pd_28J29Lcom2fexample2fgentle_bucket2fgentlebucket2fUint1283b : parseMethodDescriptor "(J)Lcom/example/gentle_bucket/gentlebucket/Uint128;" = some ⟨[.long], some (.object "com/example/gentle_bucket/gentlebucket/Uint128")⟩ := by decide +kernel
theorem d12_0 : decode prog_3_method_2_code 0 = .ok (.aload_n 0, 1) := by decide +kernel
theorem d12_1 : decode prog_3_method_2_code 1 = .ok (.invokespecial 31, 3) := by decide +kernel
theorem d12_4 : decode prog_3_method_2_code 4 = .ok (.aload_n 0, 1) := by decide +kernel
theorem d12_5 : decode prog_3_method_2_code 5 = .ok (.aload_n 1, 1) := by decide +kernel
theorem d12_6 : decode prog_3_method_2_code 6 = .ok (.putfield 36, 3) := by decide +kernel
theorem d12_9 : decode prog_3_method_2_code 9 = .ok (.aload_n 0, 1) := by decide +kernel
theorem d12_10 : decode prog_3_method_2_code 10 = .ok (.aload_n 2, 1) := by decide +kernel
theorem d12_11 : decode prog_3_method_2_code 11 = .ok (.putfield 39, 3) := by decide +kernel
theorem d12_14 : decode prog_3_method_2_code 14 = .ok (.aload_n 0, 1) := by decide +kernel
theorem d12_15 : decode prog_3_method_2_code 15 = .ok (.aload_n 2, 1) := by decide +kernel
theorem d12_16 : decode prog_3_method_2_code 16 = .ok (.aload_n 1, 1) := by decide +kernel
theorem d12_17 : decode prog_3_method_2_code 17 = .ok (.invokevirtual 17, 3) := by decide +kernel
theorem d12_20 : decode prog_3_method_2_code 20 = .ok (.invokevirtual 43, 3) := by decide +kernel
theorem d12_23 : decode prog_3_method_2_code 23 = .ok (.invokevirtual 47, 3) := by decide +kernel
theorem d12_26 : decode prog_3_method_2_code 26 = .ok (.putfield 50, 3) := by decide +kernel
theorem d12_29 : decode prog_3_method_2_code 29 = .ok (.return_, 1) := by decide +kernel
theorem ef_12_000 (m : MethodId) (x0 : Addr) (x1 : Addr) (x2 : Addr) : entryFrame m #[(.ref x0), (.ref x1), (.ref x2)] 3 = mkF m 0 #[.val (.ref x0), .val (.ref x1), .val (.ref x2)] [] := by first | (simp [entryFrame, mkF, argsToLocals, Value.category]; done) | rfl
def Q12 (Z : State) (d0 : Addr) (d1 : Addr) (d2 : Addr) (am : Int64) (pe : Int64) (x0 : Int64) (x1 : Int64) (b0 : Int64) (h0 : Heap) (n0 : Nat) (v : Option Value) (h : Heap) (L : List Loc) : Prop := v = none ∧ Fr n0 L ∧ Keep h0 h [d0] ∧ Exa Z h d0 "com/example/gentle_bucket/gentlebucket/Contract" ∧ Fld Z h d0 "com/example/gentle_bucket/gentlebucket/Contract" "rate" "Lcom/example/gentle_bucket/gentlebucket/Rate;" (.ref d1) ∧ Fld Z h d0 "com/example/gentle_bucket/gentlebucket/Contract" "depth" "Lcom/example/gentle_bucket/gentlebucket/Uint128;" (.ref d2) ∧ Fld Z h d0 "com/example/gentle_bucket/gentlebucket/Contract" "burst" "J" (.long b0)
set_option maxRecDepth 65536 in
set_option maxHeartbeats 40000000 in
theorem rm12 (l : Launch) (Z : State) (a0 : Array Value) (hw : ∀ d ∈ tables_1, d.before a0 Z = true) (ws : List Jvm.Cond) (d0 : Addr) (d1 : Addr) (d2 : Addr) (am : Int64) (pe : Int64) (x0 : Int64) (x1 : Int64) (b0 : Int64) (h0 : Heap) (n0 : Nat) (Z0 : n0 ≤ h0.size) (g_d0 : n0 ≤ d0) (E_d0 : Exa Z h0 d0 "com/example/gentle_bucket/gentlebucket/Contract") (F_rate_d0 : Fld Z h0 d0 "com/example/gentle_bucket/gentlebucket/Contract" "rate" "Lcom/example/gentle_bucket/gentlebucket/Rate;" .null) (F_depth_d0 : Fld Z h0 d0 "com/example/gentle_bucket/gentlebucket/Contract" "depth" "Lcom/example/gentle_bucket/gentlebucket/Uint128;" .null) (F_burst_d0 : Fld Z h0 d0 "com/example/gentle_bucket/gentlebucket/Contract" "burst" "J" (.long (0 : Int64))) (E_d1 : Exa Z h0 d1 "com/example/gentle_bucket/gentlebucket/Rate") (F_amount_d1 : Fld Z h0 d1 "com/example/gentle_bucket/gentlebucket/Rate" "amount" "J" (.long am)) (F_periodNanos_d1 : Fld Z h0 d1 "com/example/gentle_bucket/gentlebucket/Rate" "periodNanos" "J" (.long pe)) (E_d2 : Exa Z h0 d2 "com/example/gentle_bucket/gentlebucket/Uint128") (F_high_d2 : Fld Z h0 d2 "com/example/gentle_bucket/gentlebucket/Uint128" "high" "J" (.long x0)) (F_low_d2 : Fld Z h0 d2 "com/example/gentle_bucket/gentlebucket/Uint128" "low" "J" (.long x1)) (hd : ¬ pe < 1) (hbb : ¬ b0 < 1) (hU : own_U x0 x1 = own_u b0 * own_u pe) :
    MetFree l (⟨"com/example/gentle_bucket/gentlebucket/Contract", "<init>", "(Lcom/example/gentle_bucket/gentlebucket/Rate;Lcom/example/gentle_bucket/gentlebucket/Uint128;)V"⟩ : MethodName) (head1 (Jvm.Cond.code (⟨"com/example/gentle_bucket/gentlebucket/Contract", "<init>", "(Lcom/example/gentle_bucket/gentlebucket/Rate;Lcom/example/gentle_bucket/gentlebucket/Uint128;)V"⟩ : MethodName) prog_3_method_2_code 3 none :: ws) ({ frames := 4, cells := 1, slots := 2, locals := 67 } : Room)) (fun a U => a = #[(.ref d0), (.ref d1), (.ref d2)] ∧ Z.Warmed39 U.vm ∧ U.heap = h0) (fun _ _ _ _ _ => True) (fun _ U o U' => ∃ v L, o = .returned v ∧ Q12 Z d0 d1 d2 am pe x0 x1 b0 h0 n0 v U'.heap L ∧ FrameEnd U o U' L ({ frames := 4, cells := 1, slots := 2, locals := 67 } : Room).cells ({ frames := 4, cells := 1, slots := 2, locals := 67 } : Room).slots) := by
  refine MetFree.of_bodySF (plainFor_of_name pn_com_example_gentle_bucket_gentlebucket_Contract) hisR ?_
  intro p e s m args below meth c s₁ Bd hml0 hP hK
  obtain ⟨rfl, hZ, hh⟩ := hP
  have hx := Bd.exec
  have hby := Bd.bytes
  have hlk : meth.locks = false := Bd.notSynchronized
  have hml : c.maxLocals = 3 := hml0
  have hown : s.vm.findClass "com/example/gentle_bucket/gentlebucket/Contract" = some m.cls := findClass_of_methodNamed Bd.named
  have hnm := (name_of_methodNamed Bd.named Bd.method).1
  have X0 : Stand p l e ({ frames := 4, cells := 1, slots := 2, locals := 67 } : Room) s m #[(.ref d0), (.ref d1), (.ref d2)] below meth c s₁ [] 0 0 := Stand.of_body Bd
  have e0 : s₁.heap = h0 := by rw [← hh, Bd.state]; rfl
  have N0 := Fr.nil n0
  have K0 : Keep h0 h0 [d0] := Keep.refl h0 _
  show Wp p e below (Out s (Q12 Z d0 d1 d2 am pe x0 x1 b0 h0 n0) ({ frames := 4, cells := 1, slots := 2, locals := 67 } : Room).cells ({ frames := 4, cells := 1, slots := 2, locals := 67 } : Room).slots) (s₁.setTop (entryFrame m #[(.ref d0), (.ref d1), (.ref d2)] 3))
  rw [ef_12_000]
  show Wp p e below _ (s₁.setTop (mkF m 0 #[.val (.ref d0), .val (.ref d1), .val (.ref d2)] []))
  refine Wp.step (fun t k => XS.aloadN X0.here hx rfl (hb hby d12_0) rfl rfl k) ?_
  show Wp p e below _ (s₁.setTop (mkF m 1 #[.val (.ref d0), .val (.ref d1), .val (.ref d2)] [(.ref d0)]))
  obtain ⟨T1, X1, e1, st1⟩ := initO X0 hx hZ hown (hw _ (List.mem_of_getElem? (i := 73) rfl)) (hw _ (List.mem_of_getElem? (i := 18) rfl)) (hw _ (List.mem_of_getElem? (i := 19) rfl)) e0 (g := (mkF m 1 #[.val (.ref d0), .val (.ref d1), .val (.ref d2)] [(.ref d0)])) rfl (by rw [hml]; rfl) rfl (hb hby d12_1) (by decide) (W := 0) (by show 2 * 0 + _ ≤ _; exact Nat.le_of_eq rfl) (by decide)
  refine Wp.step st1 ?_
  show Wp p e below _ (T1.setTop (mkF m 4 #[.val (.ref d0), .val (.ref d1), .val (.ref d2)] []))
  refine Wp.step (fun t k => XS.aloadN X1.here hx rfl (hb hby d12_4) rfl rfl k) ?_
  show Wp p e below _ (T1.setTop (mkF m 5 #[.val (.ref d0), .val (.ref d1), .val (.ref d2)] [(.ref d0)]))
  refine Wp.step (fun t k => XS.aloadN X1.here hx rfl (hb hby d12_5) rfl rfl k) ?_
  show Wp p e below _ (T1.setTop (mkF m 6 #[.val (.ref d0), .val (.ref d1), .val (.ref d2)] [(.ref d1), (.ref d0)]))
  obtain ⟨T2, h2, X2, e2, W2, st2⟩ := putF X1 hx hZ hown (host := "") (Or.inl (hw _ (List.mem_of_getElem? (i := 74) rfl))) Via.refl e1 F_rate_d0 E_d0 (Or.inr ⟨(hw _ (List.mem_of_getElem? (i := 75) rfl)), rfl, hnm⟩) (hw _ (List.mem_of_getElem? (i := 9) rfl)) (ty := (.object "com/example/gentle_bucket/gentlebucket/Rate")) (by decide) rfl rfl (g := (mkF m 6 #[.val (.ref d0), .val (.ref d1), .val (.ref d2)] [(.ref d1), (.ref d0)])) rfl rfl (hb hby d12_6)
  have c3 := E_d0.wr W2
  have c4 := F_depth_d0.other W2 (Or.inr (slot_ne (Or.inr (hw _ (List.mem_of_getElem? (i := 77) rfl))) (Or.inr (hw _ (List.mem_of_getElem? (i := 75) rfl))) (by decide) (t := (.object "com/example/gentle_bucket/gentlebucket/Uint128")) (t' := (.object "com/example/gentle_bucket/gentlebucket/Rate")) (by decide) (by decide)))
  have c5 := F_burst_d0.other W2 (Or.inr (slot_ne (Or.inr (hw _ (List.mem_of_getElem? (i := 98) rfl))) (Or.inr (hw _ (List.mem_of_getElem? (i := 75) rfl))) (by decide) (t := .long) (t' := (.object "com/example/gentle_bucket/gentlebucket/Rate")) (by decide) (by decide)))
  have c6 := E_d1.wr W2
  have c7 := F_amount_d1.other W2 (Or.inl (own_ne_cls c6 c3 (by decide)))
  have c8 := F_periodNanos_d1.other W2 (Or.inl (own_ne_cls c6 c3 (by decide)))
  have c9 := E_d2.wr W2
  have c10 := F_high_d2.other W2 (Or.inl (own_ne_cls c9 c3 (by decide)))
  have c11 := F_low_d2.other W2 (Or.inl (own_ne_cls c9 c3 (by decide)))
  have c12 := F_rate_d0.same W2
  have K13 := K0.wr W2 (Or.inl (List.mem_of_getElem? (i := 0) rfl))
  have N2 := Fr.snoc X2 N0 g_d0
  refine Wp.step st2 ?_
  show Wp p e below _ (T2.setTop (mkF m 9 #[.val (.ref d0), .val (.ref d1), .val (.ref d2)] []))
  refine Wp.step (fun t k => XS.aloadN X2.here hx rfl (hb hby d12_9) rfl rfl k) ?_
  show Wp p e below _ (T2.setTop (mkF m 10 #[.val (.ref d0), .val (.ref d1), .val (.ref d2)] [(.ref d0)]))
  refine Wp.step (fun t k => XS.aloadN X2.here hx rfl (hb hby d12_10) rfl rfl k) ?_
  show Wp p e below _ (T2.setTop (mkF m 11 #[.val (.ref d0), .val (.ref d1), .val (.ref d2)] [(.ref d2), (.ref d0)]))
  obtain ⟨T14, h14, X14, e14, W14, st14⟩ := putF X2 hx hZ hown (host := "") (Or.inl (hw _ (List.mem_of_getElem? (i := 76) rfl))) Via.refl e2 c4 c3 (Or.inr ⟨(hw _ (List.mem_of_getElem? (i := 77) rfl)), rfl, hnm⟩) (hw _ (List.mem_of_getElem? (i := 9) rfl)) (ty := (.object "com/example/gentle_bucket/gentlebucket/Uint128")) (by decide) rfl rfl (g := (mkF m 11 #[.val (.ref d0), .val (.ref d1), .val (.ref d2)] [(.ref d2), (.ref d0)])) rfl rfl (hb hby d12_11)
  have c15 := c3.wr W14
  have c16 := c12.other W14 (Or.inr (slot_ne (Or.inr (hw _ (List.mem_of_getElem? (i := 75) rfl))) (Or.inr (hw _ (List.mem_of_getElem? (i := 77) rfl))) (by decide) (t := (.object "com/example/gentle_bucket/gentlebucket/Rate")) (t' := (.object "com/example/gentle_bucket/gentlebucket/Uint128")) (by decide) (by decide)))
  have c17 := c5.other W14 (Or.inr (slot_ne (Or.inr (hw _ (List.mem_of_getElem? (i := 98) rfl))) (Or.inr (hw _ (List.mem_of_getElem? (i := 77) rfl))) (by decide) (t := .long) (t' := (.object "com/example/gentle_bucket/gentlebucket/Uint128")) (by decide) (by decide)))
  have c18 := c6.wr W14
  have c19 := c7.other W14 (Or.inl (own_ne_cls c18 c15 (by decide)))
  have c20 := c8.other W14 (Or.inl (own_ne_cls c18 c15 (by decide)))
  have c21 := c9.wr W14
  have c22 := c10.other W14 (Or.inl (own_ne_cls c21 c15 (by decide)))
  have c23 := c11.other W14 (Or.inl (own_ne_cls c21 c15 (by decide)))
  have c24 := c4.same W14
  have K25 := K13.wr W14 (Or.inl (List.mem_of_getElem? (i := 0) rfl))
  have N14 := Fr.snoc X14 N2 g_d0
  refine Wp.step st14 ?_
  show Wp p e below _ (T14.setTop (mkF m 14 #[.val (.ref d0), .val (.ref d1), .val (.ref d2)] []))
  refine Wp.step (fun t k => XS.aloadN X14.here hx rfl (hb hby d12_14) rfl rfl k) ?_
  show Wp p e below _ (T14.setTop (mkF m 15 #[.val (.ref d0), .val (.ref d1), .val (.ref d2)] [(.ref d0)]))
  refine Wp.step (fun t k => XS.aloadN X14.here hx rfl (hb hby d12_15) rfl rfl k) ?_
  show Wp p e below _ (T14.setTop (mkF m 16 #[.val (.ref d0), .val (.ref d1), .val (.ref d2)] [(.ref d2), (.ref d0)]))
  refine Wp.step (fun t k => XS.aloadN X14.here hx rfl (hb hby d12_16) rfl rfl k) ?_
  show Wp p e below _ (T14.setTop (mkF m 17 #[.val (.ref d0), .val (.ref d1), .val (.ref d2)] [(.ref d1), (.ref d2), (.ref d0)]))
  obtain ⟨cq26, kq26, q26a, q26b, q26c⟩ := isOf hZ e14 c18
  obtain ⟨_, _, ⟨T26, L26, k26, n26⟩, -, X26, ⟨Lc26, hQ26, l26, y26, z26⟩, st26⟩ := X14.virtualBack hx (y := (⟨"com/example/gentle_bucket/gentlebucket/Rate", "periodNanos", "()J"⟩ : MethodName)) (z := (⟨"com/example/gentle_bucket/gentlebucket/Rate", "periodNanos", "()J"⟩ : MethodName)) hown (mvT hZ (hw _ (List.mem_of_getElem? (i := 47) rfl))) (mvT hZ (hw _ (List.mem_of_getElem? (i := 48) rfl))) (notFace_of_selects (args := #[]) (mvT hZ (hw _ (List.mem_of_getElem? (i := 50) rfl)))) (mvT hZ (hw _ (List.mem_of_getElem? (i := 50) rfl))) (mvT hZ (hw _ (List.mem_of_getElem? (i := 49) rfl))) (by decide) (backOf (W := 2) (rm8 l Z a0 hw [] d1 pe h14 n0 (Nat.le_trans Z0 K25.1) c20 ) hZ (hw _ (List.mem_of_getElem? (i := 51) rfl)) (hw _ (List.mem_of_getElem? (i := 13) rfl)) (by decide) (by decide)) q26a q26c (g := (mkF m 17 #[.val (.ref d0), .val (.ref d1), .val (.ref d2)] [(.ref d1), (.ref d2), (.ref d0)])) rfl (by rw [hml]; rfl) (Steps.refl _) (argsL := []) (rest := [(.ref d2), (.ref d0)]) (lenOf pd_2829J rfl) rfl (by show 2 * 0 + _ ≤ _; exact Nat.le_of_eq rfl) (hb hby d12_17) (fun _ _ => ⟨rfl, e14, (by decide : 0 + 0 ≤ _), (by decide : 0 + 0 ≤ _)⟩)
  dsimp only [Pt.U, Pt.locs, Pt.cells, Pt.slots] at X26 l26 y26 z26 st26 hQ26
  subst l26 y26 z26
  obtain ⟨rfl, N26q, e26⟩ := hQ26
  have N26 := Fr.app N14 N26q
  refine Wp.go st26 ?_
  show Wp p e below _ (T26.setTop (mkF m 20 #[.val (.ref d0), .val (.ref d1), .val (.ref d2)] [(.long pe), (.ref d2), (.ref d0)]))
  obtain ⟨cq27, kq27, q27a, q27b, q27c⟩ := isOf hZ e26 c21
  obtain ⟨_, _, ⟨T27, L27, k27, n27⟩, -, X27, ⟨Lc27, hQ27, l27, y27, z27⟩, st27⟩ := X26.virtualBack hx (y := (⟨"com/example/gentle_bucket/gentlebucket/Uint128", "dividedRoundingDown", "(J)Lcom/example/gentle_bucket/gentlebucket/Uint128;"⟩ : MethodName)) (z := (⟨"com/example/gentle_bucket/gentlebucket/Uint128", "dividedRoundingDown", "(J)Lcom/example/gentle_bucket/gentlebucket/Uint128;"⟩ : MethodName)) hown (mvT hZ (hw _ (List.mem_of_getElem? (i := 78) rfl))) (mvT hZ (hw _ (List.mem_of_getElem? (i := 79) rfl))) (notFace_of_selects (args := #[]) (mvT hZ (hw _ (List.mem_of_getElem? (i := 81) rfl)))) (mvT hZ (hw _ (List.mem_of_getElem? (i := 81) rfl))) (mvT hZ (hw _ (List.mem_of_getElem? (i := 80) rfl))) (by decide) (backOf (W := 1) (rm13 l Z a0 hw [] d2 pe x0 x1 b0 h14 n0 (Nat.le_trans Z0 K25.1) c21 c22 c23 hd hbb hU) hZ (hw _ (List.mem_of_getElem? (i := 82) rfl)) (hw _ (List.mem_of_getElem? (i := 54) rfl)) (by decide) (by decide)) q27a q27c (g := (mkF m 20 #[.val (.ref d0), .val (.ref d1), .val (.ref d2)] [(.long pe), (.ref d2), (.ref d0)])) rfl (by rw [hml]; rfl) (Steps.refl _) (argsL := [(.long pe)]) (rest := [(.ref d0)]) (lenOf pd_28J29Lcom2fexample2fgentle_bucket2fgentlebucket2fUint1283b rfl) rfl (by show 2 * 0 + _ ≤ _; exact Nat.le_of_eq rfl) (hb hby d12_20) (fun _ _ => ⟨rfl, e26, (by decide : 0 + 1 ≤ _), (by decide : 0 + 2 ≤ _)⟩)
  dsimp only [Pt.U, Pt.locs, Pt.cells, Pt.slots] at X27 l27 y27 z27 st27 hQ27
  subst l27 y27 z27
  obtain ⟨h27, e27⟩ : ∃ z, T27.heap = z := ⟨_, rfl⟩
  rw [e27] at hQ27
  obtain ⟨r27, rfl, N27q, Kc27, sz27, o27_0, o27_1, o27_2⟩ := hQ27
  have N27 := Fr.app N26 N27q
  have g_r27 : n0 ≤ r27 := Nat.le_trans (Nat.le_trans Z0 K25.1) sz27
  have sz_r27 : h0.size ≤ r27 := Nat.le_trans K25.1 sz27
  have ne_d0_r27 : d0 ≠ r27 := Nat.ne_of_lt (Nat.lt_of_lt_of_le c15.lt sz27)
  have ne_d1_r27 : d1 ≠ r27 := Nat.ne_of_lt (Nat.lt_of_lt_of_le c18.lt sz27)
  have ne_d2_r27 : d2 ≠ r27 := Nat.ne_of_lt (Nat.lt_of_lt_of_le c21.lt sz27)
  have c28 := c15.keep Kc27
  have c29 := c16.keep Kc27 nin0
  have c30 := c24.keep Kc27 nin0
  have c31 := c17.keep Kc27 nin0
  have c32 := c18.keep Kc27
  have c33 := c19.keep Kc27 nin0
  have c34 := c20.keep Kc27 nin0
  have c35 := c21.keep Kc27
  have c36 := c22.keep Kc27 nin0
  have c37 := c23.keep Kc27 nin0
  have K27 := K25.trans Kc27 all0
  refine Wp.go st27 ?_
  show Wp p e below _ (T27.setTop (mkF m 23 #[.val (.ref d0), .val (.ref d1), .val (.ref d2)] [(.ref r27), (.ref d0)]))
  obtain ⟨cq38, kq38, q38a, q38b, q38c⟩ := isOf hZ e27 o27_0
  obtain ⟨_, _, ⟨T38, L38, k38, n38⟩, -, X38, ⟨Lc38, hQ38, l38, y38, z38⟩, st38⟩ := X27.virtualBack hx (y := (⟨"com/example/gentle_bucket/gentlebucket/Uint128", "toLongSaturated", "()J"⟩ : MethodName)) (z := (⟨"com/example/gentle_bucket/gentlebucket/Uint128", "toLongSaturated", "()J"⟩ : MethodName)) hown (mvT hZ (hw _ (List.mem_of_getElem? (i := 92) rfl))) (mvT hZ (hw _ (List.mem_of_getElem? (i := 93) rfl))) (notFace_of_selects (args := #[]) (mvT hZ (hw _ (List.mem_of_getElem? (i := 95) rfl)))) (mvT hZ (hw _ (List.mem_of_getElem? (i := 95) rfl))) (mvT hZ (hw _ (List.mem_of_getElem? (i := 94) rfl))) (by decide) (backOf (W := 1) (rm16 l Z a0 hw [] r27 (0 : Int64) b0 h27 n0 (Nat.le_trans Z0 K27.1) o27_0 o27_1 o27_2 rfl (fun q => hbb (Int64.lt_trans q (by decide)))) hZ (hw _ (List.mem_of_getElem? (i := 96) rfl)) (hw _ (List.mem_of_getElem? (i := 54) rfl)) (by decide) (by decide)) q38a q38c (g := (mkF m 23 #[.val (.ref d0), .val (.ref d1), .val (.ref d2)] [(.ref r27), (.ref d0)])) rfl (by rw [hml]; rfl) (Steps.refl _) (argsL := []) (rest := [(.ref d0)]) (lenOf pd_2829J rfl) rfl (by show 2 * 0 + _ ≤ _; exact Nat.le_of_eq rfl) (hb hby d12_23) (fun _ _ => ⟨rfl, e27, (by decide : 1 + 0 ≤ _), (by decide : 2 + 0 ≤ _)⟩)
  dsimp only [Pt.U, Pt.locs, Pt.cells, Pt.slots] at X38 l38 y38 z38 st38 hQ38
  subst l38 y38 z38
  obtain ⟨rfl, N38q, e38⟩ := hQ38
  have N38 := Fr.app N27 N38q
  refine Wp.go st38 ?_
  show Wp p e below _ (T38.setTop (mkF m 26 #[.val (.ref d0), .val (.ref d1), .val (.ref d2)] [(.long b0), (.ref d0)]))
  obtain ⟨T39, h39, X39, e39, W39, st39⟩ := putF X38 hx hZ hown (host := "") (Or.inl (hw _ (List.mem_of_getElem? (i := 97) rfl))) Via.refl e38 c31 c28 (Or.inr ⟨(hw _ (List.mem_of_getElem? (i := 98) rfl)), rfl, hnm⟩) (hw _ (List.mem_of_getElem? (i := 9) rfl)) (ty := .long) (by decide) rfl rfl (g := (mkF m 26 #[.val (.ref d0), .val (.ref d1), .val (.ref d2)] [(.long b0), (.ref d0)])) rfl rfl (hb hby d12_26)
  have c40 := c28.wr W39
  have c41 := c29.other W39 (Or.inr (slot_ne (Or.inr (hw _ (List.mem_of_getElem? (i := 75) rfl))) (Or.inr (hw _ (List.mem_of_getElem? (i := 98) rfl))) (by decide) (t := (.object "com/example/gentle_bucket/gentlebucket/Rate")) (t' := .long) (by decide) (by decide)))
  have c42 := c30.other W39 (Or.inr (slot_ne (Or.inr (hw _ (List.mem_of_getElem? (i := 77) rfl))) (Or.inr (hw _ (List.mem_of_getElem? (i := 98) rfl))) (by decide) (t := (.object "com/example/gentle_bucket/gentlebucket/Uint128")) (t' := .long) (by decide) (by decide)))
  have c43 := c32.wr W39
  have c44 := c33.other W39 (Or.inl (own_ne_cls c43 c40 (by decide)))
  have c45 := c34.other W39 (Or.inl (own_ne_cls c43 c40 (by decide)))
  have c46 := c35.wr W39
  have c47 := c36.other W39 (Or.inl (own_ne_cls c46 c40 (by decide)))
  have c48 := c37.other W39 (Or.inl (own_ne_cls c46 c40 (by decide)))
  have c49 := o27_0.wr W39
  have c50 := o27_1.other W39 (Or.inl (Ne.symm ne_d0_r27))
  have c51 := o27_2.other W39 (Or.inl (Ne.symm ne_d0_r27))
  have c52 := c31.same W39
  have K53 := K27.wr W39 (Or.inl (List.mem_of_getElem? (i := 0) rfl))
  have N39 := Fr.snoc X39 N38 g_d0
  refine Wp.step st39 ?_
  show Wp p e below _ (T39.setTop (mkF m 29 #[.val (.ref d0), .val (.ref d1), .val (.ref d2)] []))
  refine Wp.retV X39 hx Bd.returns (hb hby d12_29) hlk ?_ (by decide) (by decide)
  show Q12 Z d0 d1 d2 am pe x0 x1 b0 h0 n0 none T39.heap _
  rw [e39]
  exact ⟨rfl, N39, K53, c40, c41, c42, c52⟩
theorem pd_28J29J : parseMethodDescriptor "(J)J" = some ⟨[.long], some .long⟩ := by decide +kernel
theorem pd_28Ljava2flang2fObject3bLjava2flang2fString3b29Ljava2flang2fObject3b : parseMethodDescriptor "(Ljava/lang/Object;Ljava/lang/String;)Ljava/lang/Object;" = some ⟨[(.object "java/lang/Object"), (.object "java/lang/String")], some (.object "java/lang/Object")⟩ := by decide +kernel
theorem pd_28JJ29Lcom2fexample2fgentle_bucket2fgentlebucket2fUint1283b : parseMethodDescriptor "(JJ)Lcom/example/gentle_bucket/gentlebucket/Uint128;" = some ⟨[.long, .long], some (.object "com/example/gentle_bucket/gentlebucket/Uint128")⟩ := by decide +kernel
theorem pd_28Lcom2fexample2fgentle_bucket2fgentlebucket2fRate3bLcom2fexample2fgentle_bucket2fgentlebucket2fUint1283b29V : parseMethodDescriptor "(Lcom/example/gentle_bucket/gentlebucket/Rate;Lcom/example/gentle_bucket/gentlebucket/Uint128;)V" = some ⟨[(.object "com/example/gentle_bucket/gentlebucket/Rate"), (.object "com/example/gentle_bucket/gentlebucket/Uint128")], none⟩ := by decide +kernel
theorem d5_0 : decode prog_3_method_1_code 0 = .ok (.aload_n 0, 1) := by decide +kernel
theorem d5_1 : decode prog_3_method_1_code 1 = .ok (.aload_n 1, 1) := by decide +kernel
theorem d5_2 : decode prog_3_method_1_code 2 = .ok (.lload_n 2, 1) := by decide +kernel
theorem d5_3 : decode prog_3_method_1_code 3 = .ok (.invokestatic 1, 3) := by decide +kernel
theorem d5_6 : decode prog_3_method_1_code 6 = .ok (.aload_n 1, 1) := by decide +kernel
theorem d5_7 : decode prog_3_method_1_code 7 = .ok (.ldc 7, 2) := by decide +kernel
theorem d5_9 : decode prog_3_method_1_code 9 = .ok (.invokestatic 9, 3) := by decide +kernel
theorem d5_12 : decode prog_3_method_1_code 12 = .ok (.checkcast 15, 3) := by decide +kernel
theorem d5_15 : decode prog_3_method_1_code 15 = .ok (.invokevirtual 17, 3) := by decide +kernel
theorem d5_18 : decode prog_3_method_1_code 18 = .ok (.invokestatic 21, 3) := by decide +kernel
theorem d5_21 : decode prog_3_method_1_code 21 = .ok (.invokespecial 27, 3) := by decide +kernel
theorem d5_24 : decode prog_3_method_1_code 24 = .ok (.return_, 1) := by decide +kernel
theorem ef_5_000 (m : MethodId) (x0 : Addr) (x1 : Addr) (x2 : Int64) : entryFrame m #[(.ref x0), (.ref x1), (.long x2)] 4 = mkF m 0 #[.val (.ref x0), .val (.ref x1), .val (.long x2), .second] [] := by first | (simp [entryFrame, mkF, argsToLocals, Value.category]; done) | rfl
def Q5 (Z : State) (d0 : Addr) (d1 : Addr) (u0 : Int64) (am : Int64) (pe : Int64) (h0 : Heap) (n0 : Nat) (v : Option Value) (h : Heap) (L : List Loc) : Prop := ∃ (r0 : Addr), v = none ∧ Fr n0 L ∧ Keep h0 h [d0] ∧ Exa Z h d0 "com/example/gentle_bucket/gentlebucket/Contract" ∧ Fld Z h d0 "com/example/gentle_bucket/gentlebucket/Contract" "rate" "Lcom/example/gentle_bucket/gentlebucket/Rate;" (.ref d1) ∧ Fld Z h d0 "com/example/gentle_bucket/gentlebucket/Contract" "depth" "Lcom/example/gentle_bucket/gentlebucket/Uint128;" (.ref r0) ∧ Fld Z h d0 "com/example/gentle_bucket/gentlebucket/Contract" "burst" "J" (.long u0) ∧ Exa Z h r0 "com/example/gentle_bucket/gentlebucket/Uint128" ∧ Fld Z h r0 "com/example/gentle_bucket/gentlebucket/Uint128" "high" "J" (.long (own_ph u0 pe)) ∧ Fld Z h r0 "com/example/gentle_bucket/gentlebucket/Uint128" "low" "J" (.long (u0 * pe))
set_option maxRecDepth 65536 in
set_option maxHeartbeats 40000000 in
theorem rm5 (l : Launch) (Z : State) (a0 : Array Value) (hw : ∀ d ∈ tables_1, d.before a0 Z = true) (ws : List Jvm.Cond) (d0 : Addr) (d1 : Addr) (u0 : Int64) (am : Int64) (pe : Int64) (h0 : Heap) (n0 : Nat) (Z0 : n0 ≤ h0.size) (g_d0 : n0 ≤ d0) (E_d0 : Exa Z h0 d0 "com/example/gentle_bucket/gentlebucket/Contract") (F_rate_d0 : Fld Z h0 d0 "com/example/gentle_bucket/gentlebucket/Contract" "rate" "Lcom/example/gentle_bucket/gentlebucket/Rate;" .null) (F_depth_d0 : Fld Z h0 d0 "com/example/gentle_bucket/gentlebucket/Contract" "depth" "Lcom/example/gentle_bucket/gentlebucket/Uint128;" .null) (F_burst_d0 : Fld Z h0 d0 "com/example/gentle_bucket/gentlebucket/Contract" "burst" "J" (.long (0 : Int64))) (E_d1 : Exa Z h0 d1 "com/example/gentle_bucket/gentlebucket/Rate") (F_amount_d1 : Fld Z h0 d1 "com/example/gentle_bucket/gentlebucket/Rate" "amount" "J" (.long am)) (F_periodNanos_d1 : Fld Z h0 d1 "com/example/gentle_bucket/gentlebucket/Rate" "periodNanos" "J" (.long pe)) (hd : ¬ pe < 1) (hbb : ¬ u0 < 1) :
    MetFree l (⟨"com/example/gentle_bucket/gentlebucket/Contract", "<init>", "(Lcom/example/gentle_bucket/gentlebucket/Rate;J)V"⟩ : MethodName) (head1 (Jvm.Cond.code (⟨"com/example/gentle_bucket/gentlebucket/Contract", "<init>", "(Lcom/example/gentle_bucket/gentlebucket/Rate;J)V"⟩ : MethodName) prog_3_method_1_code 4 none :: ws) ({ frames := 5, cells := 4, slots := 24, locals := 81 } : Room)) (fun a U => a = #[(.ref d0), (.ref d1), (.long u0)] ∧ Z.Warmed39 U.vm ∧ U.heap = h0) (fun _ _ _ _ _ => True) (fun _ U o U' => ∃ v L, o = .returned v ∧ Q5 Z d0 d1 u0 am pe h0 n0 v U'.heap L ∧ ReturnedEndW U o U' L ({ frames := 5, cells := 4, slots := 24, locals := 81 } : Room).cells ({ frames := 5, cells := 4, slots := 24, locals := 81 } : Room).slots) := by
  refine MetFree.of_bodySF (plainFor_of_name pn_com_example_gentle_bucket_gentlebucket_Contract) hisR ?_
  intro p e s m args below meth c s₁ Bd hml0 hP hK
  obtain ⟨rfl, hZ, hh⟩ := hP
  have hx := Bd.exec
  have hby := Bd.bytes
  have hlk : meth.locks = false := Bd.notSynchronized
  have hml : c.maxLocals = 4 := hml0
  have hown : s.vm.findClass "com/example/gentle_bucket/gentlebucket/Contract" = some m.cls := findClass_of_methodNamed Bd.named
  have hnm := (name_of_methodNamed Bd.named Bd.method).1
  have X0 : Stand p l e ({ frames := 5, cells := 4, slots := 24, locals := 81 } : Room) s m #[(.ref d0), (.ref d1), (.long u0)] below meth c s₁ [] 0 0 := Stand.of_body Bd
  have e0 : s₁.heap = h0 := by rw [← hh, Bd.state]; rfl
  have N0 := Fr.nil n0
  have K0 : Keep h0 h0 [d0] := Keep.refl h0 _
  show Wp p e below (OutW s (Q5 Z d0 d1 u0 am pe h0 n0) ({ frames := 5, cells := 4, slots := 24, locals := 81 } : Room).cells ({ frames := 5, cells := 4, slots := 24, locals := 81 } : Room).slots) (s₁.setTop (entryFrame m #[(.ref d0), (.ref d1), (.long u0)] 4))
  rw [ef_5_000]
  have X0 : Stand p l e ({ frames := 5, cells := 4, slots := 24, locals := 81 } : Room) (s.setVm s.vm) m #[(.ref d0), (.ref d1), (.long u0)] below meth c s₁ [] 0 0 := X0
  have hS : s.Since s.vm 0 := (State.WarmedH.refl s).since 0
  have hk : 0 ≤ h0.size := Nat.zero_le _
  have hZ : Z.Warmed39 (s.setVm s.vm).vm := hZ
  have hown : (s.setVm s.vm).vm.findClass "com/example/gentle_bucket/gentlebucket/Contract" = some m.cls := hown
  show Wp p e below _ (s₁.setTop (mkF m 0 #[.val (.ref d0), .val (.ref d1), .val (.long u0), .second] []))
  refine Wp.step (fun t k => XS.aloadN X0.here hx rfl (hb hby d5_0) rfl rfl k) ?_
  show Wp p e below _ (s₁.setTop (mkF m 1 #[.val (.ref d0), .val (.ref d1), .val (.long u0), .second] [(.ref d0)]))
  refine Wp.step (fun t k => XS.aloadN X0.here hx rfl (hb hby d5_1) rfl rfl k) ?_
  show Wp p e below _ (s₁.setTop (mkF m 2 #[.val (.ref d0), .val (.ref d1), .val (.long u0), .second] [(.ref d1), (.ref d0)]))
  refine Wp.step (fun t k => XS.lloadN X0.here hx rfl (hb hby d5_2) rfl k) ?_
  show Wp p e below _ (s₁.setTop (mkF m 3 #[.val (.ref d0), .val (.ref d1), .val (.long u0), .second] [(.long u0), (.ref d1), (.ref d0)]))
  obtain ⟨_, _, ⟨T1, L1, k1, n1⟩, -, X1, ⟨Lc1, hQ1, l1, y1, z1⟩, st1⟩ := Jvm.LawKit.callS X0 hx (y := (⟨"com/example/gentle_bucket/gentlebucket/Contract", "atLeastOne", "(J)J"⟩ : MethodName)) hown (mvT hZ (hw _ (List.mem_of_getElem? (i := 30) rfl))) (mvT hZ (hw _ (List.mem_of_getElem? (i := 31) rfl))) (mvT hZ (hw _ (List.mem_of_getElem? (i := 10) rfl))) (mvT hZ (hw _ (List.mem_of_getElem? (i := 32) rfl))) (by decide) (backOf (W := 2) (rm6 l Z a0 hw [] u0  h0 n0 (Nat.le_trans Z0 K0.1)  hbb) hZ (hw _ (List.mem_of_getElem? (i := 32) rfl)) (hw _ (List.mem_of_getElem? (i := 10) rfl)) (by decide) (by decide)) (g := (mkF m 3 #[.val (.ref d0), .val (.ref d1), .val (.long u0), .second] [(.long u0), (.ref d1), (.ref d0)])) rfl (by rw [hml]; rfl) (argsL := [(.long u0)]) (rest := [(.ref d1), (.ref d0)]) (lenOf pd_28J29J rfl) rfl (by show 2 * 0 + _ ≤ _; exact Nat.le_of_eq rfl) (hb hby d5_3) (fun _ _ => ⟨rfl, e0, (by decide : 0 + 0 ≤ _), (by decide : 0 + 0 ≤ _)⟩)
  dsimp only [Pt.U, Pt.locs, Pt.cells, Pt.slots] at X1 l1 y1 z1 st1 hQ1
  subst l1 y1 z1
  obtain ⟨rfl, N1q, e1⟩ := hQ1
  have N1 := Fr.app N0 N1q
  refine Wp.step st1 ?_
  show Wp p e below _ (T1.setTop (mkF m 6 #[.val (.ref d0), .val (.ref d1), .val (.long u0), .second] [(.long u0), (.ref d1), (.ref d0)]))
  refine Wp.step (fun t k => XS.aloadN X1.here hx rfl (hb hby d5_6) rfl rfl k) ?_
  show Wp p e below _ (T1.setTop (mkF m 7 #[.val (.ref d0), .val (.ref d1), .val (.long u0), .second] [(.ref d1), (.long u0), (.ref d1), (.ref d0)]))
  obtain ⟨b2, T2, h2, k2, X2, e2, E2, hS, hk2, hZ, hown, st2⟩ := ldcS (s := s) X1 hx hZ hown (hw _ (List.mem_of_getElem? (i := 33) rfl)) (own_wS hw) e1 hS hk (g := (mkF m 7 #[.val (.ref d0), .val (.ref d1), .val (.long u0), .second] [(.ref d1), (.long u0), (.ref d1), (.ref d0)])) rfl (hb hby d5_7) (n := 16) (by decide) (by decide) (by decide) (by decide)
  have hk := Nat.le_trans hk E2.1
  have c3 := E_d0.ext E2
  have c4 := F_rate_d0.ext E2
  have c5 := F_depth_d0.ext E2
  have c6 := F_burst_d0.ext E2
  have c7 := E_d1.ext E2
  have c8 := F_amount_d1.ext E2
  have c9 := F_periodNanos_d1.ext E2
  have hk := hk2
  have K10 := K0.ext E2
  refine Wp.step st2 ?_
  show Wp p e below _ (T2.setTop (mkF m 9 #[.val (.ref d0), .val (.ref d1), .val (.long u0), .second] [(.ref b2), (.ref d1), (.long u0), (.ref d1), (.ref d0)]))
  obtain ⟨_, _, ⟨T11, L11, k11, n11⟩, -, X11, ⟨Lc11, hQ11, l11, y11, z11⟩, st11⟩ := Jvm.LawKit.callS X2 hx (y := (⟨"java/util/Objects", "requireNonNull", "(Ljava/lang/Object;Ljava/lang/String;)Ljava/lang/Object;"⟩ : MethodName)) hown (mvT hZ (hw _ (List.mem_of_getElem? (i := 41) rfl))) (mvT hZ (hw _ (List.mem_of_getElem? (i := 42) rfl))) (mvT hZ (hw _ (List.mem_of_getElem? (i := 43) rfl))) (mvT hZ (hw _ (List.mem_of_getElem? (i := 44) rfl))) (by decide) (backOf (W := 4) (rm7 l Z a0 hw [] d1 b2  h2 n0 (Nat.le_trans Z0 K10.1)  ) hZ (hw _ (List.mem_of_getElem? (i := 44) rfl)) (hw _ (List.mem_of_getElem? (i := 43) rfl)) (by decide) (by decide)) (g := (mkF m 9 #[.val (.ref d0), .val (.ref d1), .val (.long u0), .second] [(.ref b2), (.ref d1), (.long u0), (.ref d1), (.ref d0)])) rfl (by rw [hml]; rfl) (argsL := [(.ref d1), (.ref b2)]) (rest := [(.long u0), (.ref d1), (.ref d0)]) (lenOf pd_28Ljava2flang2fObject3bLjava2flang2fString3b29Ljava2flang2fObject3b rfl) rfl (by show 2 * 0 + _ ≤ _; exact Nat.le_of_eq rfl) (hb hby d5_9) (fun _ _ => ⟨rfl, e2, (by decide : 2 + 0 ≤ _), (by decide : 20 + 0 ≤ _)⟩)
  dsimp only [Pt.U, Pt.locs, Pt.cells, Pt.slots] at X11 l11 y11 z11 st11 hQ11
  subst l11 y11 z11
  obtain ⟨rfl, N11q, e11⟩ := hQ11
  have N11 := Fr.app N1 N11q
  refine Wp.step st11 ?_
  show Wp p e below _ (T11.setTop (mkF m 12 #[.val (.ref d0), .val (.ref d1), .val (.long u0), .second] [(.ref d1), (.long u0), (.ref d1), (.ref d0)]))
  obtain ⟨T12, X12, e12, st12⟩ := castY X11 hx hZ hown (hw _ (List.mem_of_getElem? (i := 45) rfl)) e11 (Ins.of_exa c7 (hw _ (List.mem_of_getElem? (i := 46) rfl))) (g := (mkF m 12 #[.val (.ref d0), .val (.ref d1), .val (.long u0), .second] [(.ref d1), (.long u0), (.ref d1), (.ref d0)])) rfl rfl (hb hby d5_12)
  refine Wp.step st12 ?_
  show Wp p e below _ (T12.setTop (mkF m 15 #[.val (.ref d0), .val (.ref d1), .val (.long u0), .second] [(.ref d1), (.long u0), (.ref d1), (.ref d0)]))
  obtain ⟨cq13, kq13, q13a, q13b, q13c⟩ := isOf hZ e12 c7
  obtain ⟨_, _, ⟨T13, L13, k13, n13⟩, -, X13, ⟨Lc13, hQ13, l13, y13, z13⟩, st13⟩ := X12.virtualBack hx (y := (⟨"com/example/gentle_bucket/gentlebucket/Rate", "periodNanos", "()J"⟩ : MethodName)) (z := (⟨"com/example/gentle_bucket/gentlebucket/Rate", "periodNanos", "()J"⟩ : MethodName)) hown (mvT hZ (hw _ (List.mem_of_getElem? (i := 47) rfl))) (mvT hZ (hw _ (List.mem_of_getElem? (i := 48) rfl))) (notFace_of_selects (args := #[]) (mvT hZ (hw _ (List.mem_of_getElem? (i := 50) rfl)))) (mvT hZ (hw _ (List.mem_of_getElem? (i := 50) rfl))) (mvT hZ (hw _ (List.mem_of_getElem? (i := 49) rfl))) (by decide) (backOf (W := 4) (rm8 l Z a0 hw [] d1 pe h2 n0 (Nat.le_trans Z0 K10.1) c9 ) hZ (hw _ (List.mem_of_getElem? (i := 51) rfl)) (hw _ (List.mem_of_getElem? (i := 13) rfl)) (by decide) (by decide)) q13a q13c (g := (mkF m 15 #[.val (.ref d0), .val (.ref d1), .val (.long u0), .second] [(.ref d1), (.long u0), (.ref d1), (.ref d0)])) rfl (by rw [hml]; rfl) (Steps.refl _) (argsL := []) (rest := [(.long u0), (.ref d1), (.ref d0)]) (lenOf pd_2829J rfl) rfl (by show 2 * 0 + _ ≤ _; exact Nat.le_of_eq rfl) (hb hby d5_15) (fun _ _ => ⟨rfl, e12, (by decide : 2 + 0 ≤ _), (by decide : 20 + 0 ≤ _)⟩)
  dsimp only [Pt.U, Pt.locs, Pt.cells, Pt.slots] at X13 l13 y13 z13 st13 hQ13
  subst l13 y13 z13
  obtain ⟨rfl, N13q, e13⟩ := hQ13
  have N13 := Fr.app N11 N13q
  refine Wp.go st13 ?_
  show Wp p e below _ (T13.setTop (mkF m 18 #[.val (.ref d0), .val (.ref d1), .val (.long u0), .second] [(.long pe), (.long u0), (.ref d1), (.ref d0)]))
  obtain ⟨_, _, ⟨T14, L14, k14, n14⟩, -, X14, ⟨Lc14, hQ14, l14, y14, z14⟩, st14⟩ := Jvm.LawKit.callS X13 hx (y := (⟨"com/example/gentle_bucket/gentlebucket/Uint128", "product", "(JJ)Lcom/example/gentle_bucket/gentlebucket/Uint128;"⟩ : MethodName)) hown (mvT hZ (hw _ (List.mem_of_getElem? (i := 52) rfl))) (mvT hZ (hw _ (List.mem_of_getElem? (i := 53) rfl))) (mvT hZ (hw _ (List.mem_of_getElem? (i := 54) rfl))) (mvT hZ (hw _ (List.mem_of_getElem? (i := 55) rfl))) (by decide) (backOf (W := 2) (rm9 l Z a0 hw [] u0 pe  h2 n0 (Nat.le_trans Z0 K10.1)  ) hZ (hw _ (List.mem_of_getElem? (i := 55) rfl)) (hw _ (List.mem_of_getElem? (i := 54) rfl)) (by decide) (by decide)) (g := (mkF m 18 #[.val (.ref d0), .val (.ref d1), .val (.long u0), .second] [(.long pe), (.long u0), (.ref d1), (.ref d0)])) rfl (by rw [hml]; rfl) (argsL := [(.long u0), (.long pe)]) (rest := [(.ref d1), (.ref d0)]) (lenOf pd_28JJ29Lcom2fexample2fgentle_bucket2fgentlebucket2fUint1283b rfl) rfl (by show 2 * 0 + _ ≤ _; exact Nat.le_of_eq rfl) (hb hby d5_18) (fun _ _ => ⟨rfl, e13, (by decide : 2 + 1 ≤ _), (by decide : 20 + 2 ≤ _)⟩)
  dsimp only [Pt.U, Pt.locs, Pt.cells, Pt.slots] at X14 l14 y14 z14 st14 hQ14
  subst l14 y14 z14
  obtain ⟨h14, e14⟩ : ∃ z, T14.heap = z := ⟨_, rfl⟩
  rw [e14] at hQ14
  obtain ⟨r14, rfl, N14q, Kc14, sz14, o14_0, o14_1, o14_2⟩ := hQ14
  have N14 := Fr.app N13 N14q
  have g_r14 : n0 ≤ r14 := Nat.le_trans (Nat.le_trans Z0 K10.1) sz14
  have sz_r14 : h0.size ≤ r14 := Nat.le_trans K10.1 sz14
  have ne_d0_r14 : d0 ≠ r14 := Nat.ne_of_lt (Nat.lt_of_lt_of_le c3.lt sz14)
  have ne_d1_r14 : d1 ≠ r14 := Nat.ne_of_lt (Nat.lt_of_lt_of_le c7.lt sz14)
  have hk := Nat.le_trans hk Kc14.1
  have c15 := c3.keep Kc14
  have c16 := c4.keep Kc14 nin0
  have c17 := c5.keep Kc14 nin0
  have c18 := c6.keep Kc14 nin0
  have c19 := c7.keep Kc14
  have c20 := c8.keep Kc14 nin0
  have c21 := c9.keep Kc14 nin0
  have K14 := K10.trans Kc14 all0
  refine Wp.step st14 ?_
  show Wp p e below _ (T14.setTop (mkF m 21 #[.val (.ref d0), .val (.ref d1), .val (.long u0), .second] [(.ref r14), (.ref d1), (.ref d0)]))
  obtain ⟨_, _, ⟨T22, L22, k22, n22⟩, -, X22, ⟨Lc22, hQ22, l22, y22, z22⟩, st22⟩ := X14.specialBack hx (y := (⟨"com/example/gentle_bucket/gentlebucket/Contract", "<init>", "(Lcom/example/gentle_bucket/gentlebucket/Rate;Lcom/example/gentle_bucket/gentlebucket/Uint128;)V"⟩ : MethodName)) rfl hown (mvT hZ (hw _ (List.mem_of_getElem? (i := 70) rfl))) (mvT hZ (hw _ (List.mem_of_getElem? (i := 71) rfl))) (mvT hZ (hw _ (List.mem_of_getElem? (i := 72) rfl))) (by decide) (backOf (W := 0) (rm12 l Z a0 hw [] d0 d1 r14 am pe (own_ph u0 pe) (u0 * pe) u0 h14 n0 (Nat.le_trans Z0 K14.1) g_d0 c15 c16 c17 c18 c19 c20 c21 o14_0 o14_1 o14_2 hd hbb (own_depth hbb hd)) hZ (hw _ (List.mem_of_getElem? (i := 72) rfl)) (hw _ (List.mem_of_getElem? (i := 10) rfl)) (by decide) (by decide)) (g := (mkF m 21 #[.val (.ref d0), .val (.ref d1), .val (.long u0), .second] [(.ref r14), (.ref d1), (.ref d0)])) rfl (by rw [hml]; rfl) (Steps.refl _) (a := d0) (argsL := [(.ref d1), (.ref r14)]) (rest := []) (lenOf pd_28Lcom2fexample2fgentle_bucket2fgentlebucket2fRate3bLcom2fexample2fgentle_bucket2fgentlebucket2fUint1283b29V rfl) rfl (by show 2 * 0 + _ ≤ _; exact Nat.le_of_eq rfl) (hb hby d5_21) (fun _ _ => ⟨rfl, e14, (by decide : 3 + 1 ≤ _), (by decide : 22 + 2 ≤ _)⟩)
  dsimp only [Pt.U, Pt.locs, Pt.cells, Pt.slots] at X22 l22 y22 z22 st22 hQ22
  subst l22 y22 z22
  obtain ⟨h22, e22⟩ : ∃ z, T22.heap = z := ⟨_, rfl⟩
  rw [e22] at hQ22
  obtain ⟨rfl, N22q, Kc22, o22_0, o22_1, o22_2, o22_3⟩ := hQ22
  have N22 := Fr.app N14 N22q
  have hk := Nat.le_trans hk Kc22.1
  have c23 := c15.keep Kc22
  have c24 := c19.keep Kc22
  have c25 := c20.keep Kc22 (ninS (own_ne_cls c24 c23 (by decide)) nin0)
  have c26 := c21.keep Kc22 (ninS (own_ne_cls c24 c23 (by decide)) nin0)
  have c27 := o14_0.keep Kc22
  have c28 := o14_1.keep Kc22 (ninS (Ne.symm ne_d0_r14) nin0)
  have c29 := o14_2.keep Kc22 (ninS (Ne.symm ne_d0_r14) nin0)
  have K22 := K14.trans Kc22 (allS (Or.inl (List.mem_of_getElem? (i := 0) rfl)) all0)
  refine Wp.go st22 ?_
  show Wp p e below _ (T22.setTop (mkF m 24 #[.val (.ref d0), .val (.ref d1), .val (.long u0), .second] []))
  refine Wp.retVW X22 hS (own_hk e22 hk) hx Bd.returns (hb hby d5_24) hlk ?_ (by decide) (by decide)
  show Q5 Z d0 d1 u0 am pe h0 n0 none T22.heap _
  rw [e22]
  exact ⟨r14, rfl, N22, K22, o22_0, o22_1, o22_2, o22_3, c27, c28, c29⟩
theorem d18_0 : decode prog_2_method_1_code 0 = .ok (.aload_n 0, 1) := by decide +kernel
theorem d18_1 : decode prog_2_method_1_code 1 = .ok (.invokespecial 1, 3) := by decide +kernel
theorem d18_4 : decode prog_2_method_1_code 4 = .ok (.return_, 1) := by decide +kernel
theorem pn_com_example_gentle_bucket_gentlebucket_Bucket : plainName "com/example/gentle_bucket/gentlebucket/Bucket" = true := by first | (simp [plainName, overriddenIn]; done) | decide +kernel
theorem ef_18_0 (m : MethodId) (x0 : Addr) : entryFrame m #[(.ref x0)] 1 = mkF m 0 #[.val (.ref x0)] [] := by first | (simp [entryFrame, mkF, argsToLocals, Value.category]; done) | rfl
def Q18 (Z : State) (d0 : Addr) (h0 : Heap) (n0 : Nat) (v : Option Value) (h : Heap) (L : List Loc) : Prop := v = none ∧ Fr n0 L ∧ h = h0
set_option maxRecDepth 65536 in
set_option maxHeartbeats 40000000 in
theorem rm18 (l : Launch) (Z : State) (a0 : Array Value) (hw : ∀ d ∈ tables_1, d.before a0 Z = true) (ws : List Jvm.Cond) (d0 : Addr) (h0 : Heap) (n0 : Nat) (Z0 : n0 ≤ h0.size) :
    MetFree l (⟨"com/example/gentle_bucket/gentlebucket/Bucket", "<init>", "()V"⟩ : MethodName) (head1 (Jvm.Cond.code (⟨"com/example/gentle_bucket/gentlebucket/Bucket", "<init>", "()V"⟩ : MethodName) prog_2_method_1_code 1 none :: ws) ({ frames := 1, cells := 0, slots := 0, locals := 12 } : Room)) (fun a U => a = #[(.ref d0)] ∧ Z.Warmed39 U.vm ∧ U.heap = h0) (fun _ _ _ _ _ => True) (fun _ U o U' => ∃ v L, o = .returned v ∧ Q18 Z d0 h0 n0 v U'.heap L ∧ FrameEnd U o U' L ({ frames := 1, cells := 0, slots := 0, locals := 12 } : Room).cells ({ frames := 1, cells := 0, slots := 0, locals := 12 } : Room).slots) := by
  refine MetFree.of_bodySF (plainFor_of_name pn_com_example_gentle_bucket_gentlebucket_Bucket) hisR ?_
  intro p e s m args below meth c s₁ Bd hml0 hP hK
  obtain ⟨rfl, hZ, hh⟩ := hP
  have hx := Bd.exec
  have hby := Bd.bytes
  have hlk : meth.locks = false := Bd.notSynchronized
  have hml : c.maxLocals = 1 := hml0
  have hown : s.vm.findClass "com/example/gentle_bucket/gentlebucket/Bucket" = some m.cls := findClass_of_methodNamed Bd.named
  have hnm := (name_of_methodNamed Bd.named Bd.method).1
  have X0 : Stand p l e ({ frames := 1, cells := 0, slots := 0, locals := 12 } : Room) s m #[(.ref d0)] below meth c s₁ [] 0 0 := Stand.of_body Bd
  have e0 : s₁.heap = h0 := by rw [← hh, Bd.state]; rfl
  have N0 := Fr.nil n0
  have K0 : Keep h0 h0 [] := Keep.refl h0 _
  show Wp p e below (Out s (Q18 Z d0 h0 n0) ({ frames := 1, cells := 0, slots := 0, locals := 12 } : Room).cells ({ frames := 1, cells := 0, slots := 0, locals := 12 } : Room).slots) (s₁.setTop (entryFrame m #[(.ref d0)] 1))
  rw [ef_18_0]
  show Wp p e below _ (s₁.setTop (mkF m 0 #[.val (.ref d0)] []))
  refine Wp.step (fun t k => XS.aloadN X0.here hx rfl (hb hby d18_0) rfl rfl k) ?_
  show Wp p e below _ (s₁.setTop (mkF m 1 #[.val (.ref d0)] [(.ref d0)]))
  obtain ⟨T1, X1, e1, st1⟩ := initO X0 hx hZ hown (hw _ (List.mem_of_getElem? (i := 107) rfl)) (hw _ (List.mem_of_getElem? (i := 18) rfl)) (hw _ (List.mem_of_getElem? (i := 19) rfl)) e0 (g := (mkF m 1 #[.val (.ref d0)] [(.ref d0)])) rfl (by rw [hml]; rfl) rfl (hb hby d18_1) (by decide) (W := 0) (by show 2 * 0 + _ ≤ _; exact Nat.le_of_eq rfl) (by decide)
  refine Wp.step st1 ?_
  show Wp p e below _ (T1.setTop (mkF m 4 #[.val (.ref d0)] []))
  refine Wp.retV X1 hx Bd.returns (hb hby d18_4) hlk ?_ (by decide) (by decide)
  show Q18 Z d0 h0 n0 none T1.heap _
  rw [e1]
  exact ⟨rfl, N0, rfl⟩
theorem pd_2829V : parseMethodDescriptor "()V" = some ⟨[], none⟩ := by decide +kernel
theorem d17_0 : decode prog_12_method_2_code 0 = .ok (.aload_n 0, 1) := by decide +kernel
theorem d17_1 : decode prog_12_method_2_code 1 = .ok (.invokespecial 12, 3) := by decide +kernel
theorem d17_4 : decode prog_12_method_2_code 4 = .ok (.aload_n 0, 1) := by decide +kernel
theorem d17_5 : decode prog_12_method_2_code 5 = .ok (.ldc2_w 19, 3) := by decide +kernel
theorem d17_8 : decode prog_12_method_2_code 8 = .ok (.putfield 21, 3) := by decide +kernel
theorem d17_11 : decode prog_12_method_2_code 11 = .ok (.aload_n 0, 1) := by decide +kernel
theorem d17_12 : decode prog_12_method_2_code 12 = .ok (.aload_n 1, 1) := by decide +kernel
theorem d17_13 : decode prog_12_method_2_code 13 = .ok (.ldc 25, 2) := by decide +kernel
theorem d17_15 : decode prog_12_method_2_code 15 = .ok (.invokestatic 27, 3) := by decide +kernel
theorem d17_18 : decode prog_12_method_2_code 18 = .ok (.checkcast 1, 3) := by decide +kernel
theorem d17_21 : decode prog_12_method_2_code 21 = .ok (.putfield 33, 3) := by decide +kernel
theorem d17_24 : decode prog_12_method_2_code 24 = .ok (.return_, 1) := by decide +kernel
theorem pn_com_example_gentle_bucket_gentlebucket_Meter : plainName "com/example/gentle_bucket/gentlebucket/Meter" = true := by first | (simp [plainName, overriddenIn]; done) | decide +kernel
theorem ef_17_00 (m : MethodId) (x0 : Addr) (x1 : Addr) : entryFrame m #[(.ref x0), (.ref x1)] 2 = mkF m 0 #[.val (.ref x0), .val (.ref x1)] [] := by first | (simp [entryFrame, mkF, argsToLocals, Value.category]; done) | rfl
def Q17 (Z : State) (d0 : Addr) (d1 : Addr) (h0 : Heap) (n0 : Nat) (v : Option Value) (h : Heap) (L : List Loc) : Prop := v = none ∧ Fr n0 L ∧ Keep h0 h [d0] ∧ Exa Z h d0 "com/example/gentle_bucket/gentlebucket/Meter" ∧ Fld Z h d0 "com/example/gentle_bucket/gentlebucket/Meter" "levelNanos" "J" (.long (-9223372036854775808 : Int64)) ∧ Fld Z h d0 "com/example/gentle_bucket/gentlebucket/Meter" "contract" "Lcom/example/gentle_bucket/gentlebucket/Contract;" (.ref d1) ∧ Fld Z h d0 "com/example/gentle_bucket/gentlebucket/Meter" "levelHigh" "J" (.long (0 : Int64)) ∧ Fld Z h d0 "com/example/gentle_bucket/gentlebucket/Meter" "levelLow" "J" (.long (0 : Int64))
set_option maxRecDepth 65536 in
set_option maxHeartbeats 40000000 in
theorem rm17 (l : Launch) (Z : State) (a0 : Array Value) (hw : ∀ d ∈ tables_1, d.before a0 Z = true) (ws : List Jvm.Cond) (d0 : Addr) (d1 : Addr) (h0 : Heap) (n0 : Nat) (Z0 : n0 ≤ h0.size) (g_d0 : n0 ≤ d0) (E_d0 : Exa Z h0 d0 "com/example/gentle_bucket/gentlebucket/Meter") (F_levelNanos_d0 : Fld Z h0 d0 "com/example/gentle_bucket/gentlebucket/Meter" "levelNanos" "J" (.long (0 : Int64))) (F_contract_d0 : Fld Z h0 d0 "com/example/gentle_bucket/gentlebucket/Meter" "contract" "Lcom/example/gentle_bucket/gentlebucket/Contract;" .null) (F_levelHigh_d0 : Fld Z h0 d0 "com/example/gentle_bucket/gentlebucket/Meter" "levelHigh" "J" (.long (0 : Int64))) (F_levelLow_d0 : Fld Z h0 d0 "com/example/gentle_bucket/gentlebucket/Meter" "levelLow" "J" (.long (0 : Int64))) (E_d1 : Exa Z h0 d1 "com/example/gentle_bucket/gentlebucket/Contract") :
    MetFree l (⟨"com/example/gentle_bucket/gentlebucket/Meter", "<init>", "(Lcom/example/gentle_bucket/gentlebucket/Contract;)V"⟩ : MethodName) (head1 (Jvm.Cond.code (⟨"com/example/gentle_bucket/gentlebucket/Meter", "<init>", "(Lcom/example/gentle_bucket/gentlebucket/Contract;)V"⟩ : MethodName) prog_12_method_2_code 2 none :: ws) ({ frames := 2, cells := 2, slots := 36, locals := 24 } : Room)) (fun a U => a = #[(.ref d0), (.ref d1)] ∧ Z.Warmed39 U.vm ∧ U.heap = h0) (fun _ _ _ _ _ => True) (fun _ U o U' => ∃ v L, o = .returned v ∧ Q17 Z d0 d1 h0 n0 v U'.heap L ∧ ReturnedEndW U o U' L ({ frames := 2, cells := 2, slots := 36, locals := 24 } : Room).cells ({ frames := 2, cells := 2, slots := 36, locals := 24 } : Room).slots) := by
  refine MetFree.of_bodySF (plainFor_of_name pn_com_example_gentle_bucket_gentlebucket_Meter) hisR ?_
  intro p e s m args below meth c s₁ Bd hml0 hP hK
  obtain ⟨rfl, hZ, hh⟩ := hP
  have hx := Bd.exec
  have hby := Bd.bytes
  have hlk : meth.locks = false := Bd.notSynchronized
  have hml : c.maxLocals = 2 := hml0
  have hown : s.vm.findClass "com/example/gentle_bucket/gentlebucket/Meter" = some m.cls := findClass_of_methodNamed Bd.named
  have hnm := (name_of_methodNamed Bd.named Bd.method).1
  have X0 : Stand p l e ({ frames := 2, cells := 2, slots := 36, locals := 24 } : Room) s m #[(.ref d0), (.ref d1)] below meth c s₁ [] 0 0 := Stand.of_body Bd
  have e0 : s₁.heap = h0 := by rw [← hh, Bd.state]; rfl
  have N0 := Fr.nil n0
  have K0 : Keep h0 h0 [d0] := Keep.refl h0 _
  show Wp p e below (OutW s (Q17 Z d0 d1 h0 n0) ({ frames := 2, cells := 2, slots := 36, locals := 24 } : Room).cells ({ frames := 2, cells := 2, slots := 36, locals := 24 } : Room).slots) (s₁.setTop (entryFrame m #[(.ref d0), (.ref d1)] 2))
  rw [ef_17_00]
  have X0 : Stand p l e ({ frames := 2, cells := 2, slots := 36, locals := 24 } : Room) (s.setVm s.vm) m #[(.ref d0), (.ref d1)] below meth c s₁ [] 0 0 := X0
  have hS : s.Since s.vm 0 := (State.WarmedH.refl s).since 0
  have hk : 0 ≤ h0.size := Nat.zero_le _
  have hZ : Z.Warmed39 (s.setVm s.vm).vm := hZ
  have hown : (s.setVm s.vm).vm.findClass "com/example/gentle_bucket/gentlebucket/Meter" = some m.cls := hown
  show Wp p e below _ (s₁.setTop (mkF m 0 #[.val (.ref d0), .val (.ref d1)] []))
  refine Wp.step (fun t k => XS.aloadN X0.here hx rfl (hb hby d17_0) rfl rfl k) ?_
  show Wp p e below _ (s₁.setTop (mkF m 1 #[.val (.ref d0), .val (.ref d1)] [(.ref d0)]))
  obtain ⟨_, _, ⟨T1, L1, k1, n1⟩, -, X1, ⟨Lc1, hQ1, l1, y1, z1⟩, st1⟩ := X0.specialBack hx (y := (⟨"com/example/gentle_bucket/gentlebucket/Bucket", "<init>", "()V"⟩ : MethodName)) rfl hown (mvT hZ (hw _ (List.mem_of_getElem? (i := 102) rfl))) (mvT hZ (hw _ (List.mem_of_getElem? (i := 103) rfl))) (mvT hZ (hw _ (List.mem_of_getElem? (i := 106) rfl))) (by decide) (backOf (W := 0) (rm18 l Z a0 hw [] d0  h0 n0 (Nat.le_trans Z0 K0.1)  ) hZ (hw _ (List.mem_of_getElem? (i := 106) rfl)) (hw _ (List.mem_of_getElem? (i := 105) rfl)) (by decide) (by decide)) (g := (mkF m 1 #[.val (.ref d0), .val (.ref d1)] [(.ref d0)])) rfl (by rw [hml]; rfl) (Steps.refl _) (a := d0) (argsL := []) (rest := []) (lenOf pd_2829V rfl) rfl (by show 2 * 0 + _ ≤ _; exact Nat.le_of_eq rfl) (hb hby d17_1) (fun _ _ => ⟨rfl, e0, (by decide : 0 + 0 ≤ _), (by decide : 0 + 0 ≤ _)⟩)
  dsimp only [Pt.U, Pt.locs, Pt.cells, Pt.slots] at X1 l1 y1 z1 st1 hQ1
  subst l1 y1 z1
  obtain ⟨rfl, N1q, e1⟩ := hQ1
  have N1 := Fr.app N0 N1q
  refine Wp.go st1 ?_
  show Wp p e below _ (T1.setTop (mkF m 4 #[.val (.ref d0), .val (.ref d1)] []))
  refine Wp.step (fun t k => XS.aloadN X1.here hx rfl (hb hby d17_4) rfl rfl k) ?_
  show Wp p e below _ (T1.setTop (mkF m 5 #[.val (.ref d0), .val (.ref d1)] [(.ref d0)]))
  refine Wp.step (X1.ldc2Long hx hown (mvT hZ (hw _ (List.mem_of_getElem? (i := 108) rfl))) (g := (mkF m 5 #[.val (.ref d0), .val (.ref d1)] [(.ref d0)])) rfl (hb hby d17_5)) ?_
  show Wp p e below _ (T1.setTop (mkF m 8 #[.val (.ref d0), .val (.ref d1)] [(.long (-9223372036854775808 : Int64)), (.ref d0)]))
  obtain ⟨T2, h2, X2, e2, W2, st2⟩ := putF X1 hx hZ hown (host := "") (Or.inl (hw _ (List.mem_of_getElem? (i := 109) rfl))) Via.refl e1 F_levelNanos_d0 E_d0 (Or.inl (hw _ (List.mem_of_getElem? (i := 110) rfl))) (hw _ (List.mem_of_getElem? (i := 6) rfl)) (ty := .long) (by decide) rfl rfl (g := (mkF m 8 #[.val (.ref d0), .val (.ref d1)] [(.long (-9223372036854775808 : Int64)), (.ref d0)])) rfl rfl (hb hby d17_8)
  have hk := Nat.le_trans hk (Nat.le_of_eq (Wr.size W2).symm)
  have c3 := E_d0.wr W2
  have c4 := F_contract_d0.other W2 (Or.inr (slot_ne (Or.inr (hw _ (List.mem_of_getElem? (i := 116) rfl))) (Or.inl (hw _ (List.mem_of_getElem? (i := 110) rfl))) (by decide) (t := (.object "com/example/gentle_bucket/gentlebucket/Contract")) (t' := .long) (by decide) (by decide)))
  have c5 := F_levelHigh_d0.other W2 (Or.inr (slot_ne (Or.inl (hw _ (List.mem_of_getElem? (i := 171) rfl))) (Or.inl (hw _ (List.mem_of_getElem? (i := 110) rfl))) (by decide) (t := .long) (t' := .long) (by decide) (by decide)))
  have c6 := F_levelLow_d0.other W2 (Or.inr (slot_ne (Or.inl (hw _ (List.mem_of_getElem? (i := 173) rfl))) (Or.inl (hw _ (List.mem_of_getElem? (i := 110) rfl))) (by decide) (t := .long) (t' := .long) (by decide) (by decide)))
  have c7 := E_d1.wr W2
  have c8 := F_levelNanos_d0.same W2
  have K9 := K0.wr W2 (Or.inl (List.mem_of_getElem? (i := 0) rfl))
  have N2 := Fr.snoc X2 N1 g_d0
  refine Wp.step st2 ?_
  show Wp p e below _ (T2.setTop (mkF m 11 #[.val (.ref d0), .val (.ref d1)] []))
  refine Wp.step (fun t k => XS.aloadN X2.here hx rfl (hb hby d17_11) rfl rfl k) ?_
  show Wp p e below _ (T2.setTop (mkF m 12 #[.val (.ref d0), .val (.ref d1)] [(.ref d0)]))
  refine Wp.step (fun t k => XS.aloadN X2.here hx rfl (hb hby d17_12) rfl rfl k) ?_
  show Wp p e below _ (T2.setTop (mkF m 13 #[.val (.ref d0), .val (.ref d1)] [(.ref d1), (.ref d0)]))
  obtain ⟨b10, T10, h10, k10, X10, e10, E10, hS, hk10, hZ, hown, st10⟩ := ldcS (s := s) X2 hx hZ hown (hw _ (List.mem_of_getElem? (i := 111) rfl)) (own_wS hw) e2 hS hk (g := (mkF m 13 #[.val (.ref d0), .val (.ref d1)] [(.ref d1), (.ref d0)])) rfl (hb hby d17_13) (n := 32) (by decide) (by decide) (by decide) (by decide)
  have hk := Nat.le_trans hk E10.1
  have c11 := c3.ext E10
  have c12 := c8.ext E10
  have c13 := c4.ext E10
  have c14 := c5.ext E10
  have c15 := c6.ext E10
  have c16 := c7.ext E10
  have hk := hk10
  have K17 := K9.ext E10
  refine Wp.step st10 ?_
  show Wp p e below _ (T10.setTop (mkF m 15 #[.val (.ref d0), .val (.ref d1)] [(.ref b10), (.ref d1), (.ref d0)]))
  obtain ⟨_, _, ⟨T18, L18, k18, n18⟩, -, X18, ⟨Lc18, hQ18, l18, y18, z18⟩, st18⟩ := Jvm.LawKit.callS X10 hx (y := (⟨"java/util/Objects", "requireNonNull", "(Ljava/lang/Object;Ljava/lang/String;)Ljava/lang/Object;"⟩ : MethodName)) hown (mvT hZ (hw _ (List.mem_of_getElem? (i := 112) rfl))) (mvT hZ (hw _ (List.mem_of_getElem? (i := 42) rfl))) (mvT hZ (hw _ (List.mem_of_getElem? (i := 43) rfl))) (mvT hZ (hw _ (List.mem_of_getElem? (i := 44) rfl))) (by decide) (backOf (W := 1) (rm7 l Z a0 hw [] d1 b10  h10 n0 (Nat.le_trans Z0 K17.1)  ) hZ (hw _ (List.mem_of_getElem? (i := 44) rfl)) (hw _ (List.mem_of_getElem? (i := 43) rfl)) (by decide) (by decide)) (g := (mkF m 15 #[.val (.ref d0), .val (.ref d1)] [(.ref b10), (.ref d1), (.ref d0)])) rfl (by rw [hml]; rfl) (argsL := [(.ref d1), (.ref b10)]) (rest := [(.ref d0)]) (lenOf pd_28Ljava2flang2fObject3bLjava2flang2fString3b29Ljava2flang2fObject3b rfl) rfl (by show 2 * 0 + _ ≤ _; exact Nat.le_of_eq rfl) (hb hby d17_15) (fun _ _ => ⟨rfl, e10, (by decide : 2 + 0 ≤ _), (by decide : 36 + 0 ≤ _)⟩)
  dsimp only [Pt.U, Pt.locs, Pt.cells, Pt.slots] at X18 l18 y18 z18 st18 hQ18
  subst l18 y18 z18
  obtain ⟨rfl, N18q, e18⟩ := hQ18
  have N18 := Fr.app N2 N18q
  refine Wp.step st18 ?_
  show Wp p e below _ (T18.setTop (mkF m 18 #[.val (.ref d0), .val (.ref d1)] [(.ref d1), (.ref d0)]))
  obtain ⟨T19, X19, e19, st19⟩ := castY X18 hx hZ hown (hw _ (List.mem_of_getElem? (i := 113) rfl)) e18 (Ins.of_exa c16 (hw _ (List.mem_of_getElem? (i := 114) rfl))) (g := (mkF m 18 #[.val (.ref d0), .val (.ref d1)] [(.ref d1), (.ref d0)])) rfl rfl (hb hby d17_18)
  refine Wp.step st19 ?_
  show Wp p e below _ (T19.setTop (mkF m 21 #[.val (.ref d0), .val (.ref d1)] [(.ref d1), (.ref d0)]))
  obtain ⟨T20, h20, X20, e20, W20, st20⟩ := putF X19 hx hZ hown (host := "") (Or.inl (hw _ (List.mem_of_getElem? (i := 115) rfl))) Via.refl e19 c13 c11 (Or.inr ⟨(hw _ (List.mem_of_getElem? (i := 116) rfl)), rfl, hnm⟩) (hw _ (List.mem_of_getElem? (i := 6) rfl)) (ty := (.object "com/example/gentle_bucket/gentlebucket/Contract")) (by decide) rfl rfl (g := (mkF m 21 #[.val (.ref d0), .val (.ref d1)] [(.ref d1), (.ref d0)])) rfl rfl (hb hby d17_21)
  have hk := Nat.le_trans hk (Nat.le_of_eq (Wr.size W20).symm)
  have c21 := c11.wr W20
  have c22 := c12.other W20 (Or.inr (slot_ne (Or.inl (hw _ (List.mem_of_getElem? (i := 110) rfl))) (Or.inr (hw _ (List.mem_of_getElem? (i := 116) rfl))) (by decide) (t := .long) (t' := (.object "com/example/gentle_bucket/gentlebucket/Contract")) (by decide) (by decide)))
  have c23 := c14.other W20 (Or.inr (slot_ne (Or.inl (hw _ (List.mem_of_getElem? (i := 171) rfl))) (Or.inr (hw _ (List.mem_of_getElem? (i := 116) rfl))) (by decide) (t := .long) (t' := (.object "com/example/gentle_bucket/gentlebucket/Contract")) (by decide) (by decide)))
  have c24 := c15.other W20 (Or.inr (slot_ne (Or.inl (hw _ (List.mem_of_getElem? (i := 173) rfl))) (Or.inr (hw _ (List.mem_of_getElem? (i := 116) rfl))) (by decide) (t := .long) (t' := (.object "com/example/gentle_bucket/gentlebucket/Contract")) (by decide) (by decide)))
  have c25 := c16.wr W20
  have c26 := c13.same W20
  have K27 := K17.wr W20 (Or.inl (List.mem_of_getElem? (i := 0) rfl))
  have N20 := Fr.snoc X20 N18 g_d0
  refine Wp.step st20 ?_
  show Wp p e below _ (T20.setTop (mkF m 24 #[.val (.ref d0), .val (.ref d1)] []))
  refine Wp.retVW X20 hS (own_hk e20 hk) hx Bd.returns (hb hby d17_24) hlk ?_ (by decide) (by decide)
  show Q17 Z d0 d1 h0 n0 none T20.heap _
  rw [e20]
  exact ⟨rfl, N20, K27, c21, c22, c26, c23, c24⟩
theorem d19_0 : decode prog_12_method_5_code 0 = .ok (.lload_n 1, 1) := by decide +kernel
theorem d19_1 : decode prog_12_method_5_code 1 = .ok (.aload_n 0, 1) := by decide +kernel
theorem d19_2 : decode prog_12_method_5_code 2 = .ok (.getfield 33, 3) := by decide +kernel
theorem d19_5 : decode prog_12_method_5_code 5 = .ok (.invokevirtual 109, 3) := by decide +kernel
theorem d19_8 : decode prog_12_method_5_code 8 = .ok (.lcmp, 1) := by decide +kernel
theorem d19_9 : decode prog_12_method_5_code 9 = .ok (.ifCond .le 7, 3) := by decide +kernel
theorem d19_12 : decode prog_12_method_5_code 12 = .ok (.iconst 1, 1) := by decide +kernel
theorem d19_13 : decode prog_12_method_5_code 13 = .ok (.goto 4, 3) := by decide +kernel
theorem d19_16 : decode prog_12_method_5_code 16 = .ok (.iconst 0, 1) := by decide +kernel
theorem d19_17 : decode prog_12_method_5_code 17 = .ok (.ireturn, 1) := by decide +kernel
theorem ef_19_00 (m : MethodId) (x0 : Addr) (x1 : Int64) : entryFrame m #[(.ref x0), (.long x1)] 3 = mkF m 0 #[.val (.ref x0), .val (.long x1), .second] [] := by first | (simp [entryFrame, mkF, argsToLocals, Value.category]; done) | rfl
def Q19 (Z : State) (d0 : Addr) (u0 : Int64) (c0 : Addr) (b0 : Int64) (h0 : Heap) (n0 : Nat) (v : Option Value) (h : Heap) (L : List Loc) : Prop := v = some (.int (own_nf u0 b0)) ∧ Fr n0 L ∧ h = h0
set_option maxRecDepth 65536 in
set_option maxHeartbeats 40000000 in
theorem rm19 (l : Launch) (Z : State) (a0 : Array Value) (hw : ∀ d ∈ tables_1, d.before a0 Z = true) (ws : List Jvm.Cond) (d0 : Addr) (u0 : Int64) (c0 : Addr) (b0 : Int64) (h0 : Heap) (n0 : Nat) (Z0 : n0 ≤ h0.size) (F_contract_d0 : Fld Z h0 d0 "com/example/gentle_bucket/gentlebucket/Meter" "contract" "Lcom/example/gentle_bucket/gentlebucket/Contract;" (.ref c0)) (E_c0 : Exa Z h0 c0 "com/example/gentle_bucket/gentlebucket/Contract") (F_burst_c0 : Fld Z h0 c0 "com/example/gentle_bucket/gentlebucket/Contract" "burst" "J" (.long b0)) :
    MetFree l (⟨"com/example/gentle_bucket/gentlebucket/Meter", "neverFits", "(J)Z"⟩ : MethodName) (head1 (Jvm.Cond.code (⟨"com/example/gentle_bucket/gentlebucket/Meter", "neverFits", "(J)Z"⟩ : MethodName) prog_12_method_5_code 3 (some .boolean) :: ws) ({ frames := 1, cells := 0, slots := 0, locals := 14 } : Room)) (fun a U => a = #[(.ref d0), (.long u0)] ∧ Z.Warmed39 U.vm ∧ U.heap = h0) (fun _ _ _ _ _ => True) (fun _ U o U' => ∃ v L, o = .returned v ∧ Q19 Z d0 u0 c0 b0 h0 n0 v U'.heap L ∧ FrameEnd U o U' L ({ frames := 1, cells := 0, slots := 0, locals := 14 } : Room).cells ({ frames := 1, cells := 0, slots := 0, locals := 14 } : Room).slots) := by
  refine MetFree.of_bodySF (plainFor_of_name pn_com_example_gentle_bucket_gentlebucket_Meter) hisR ?_
  intro p e s m args below meth c s₁ Bd hml0 hP hK
  obtain ⟨rfl, hZ, hh⟩ := hP
  have hx := Bd.exec
  have hby := Bd.bytes
  have hlk : meth.locks = false := Bd.notSynchronized
  have hml : c.maxLocals = 3 := hml0
  have hown : s.vm.findClass "com/example/gentle_bucket/gentlebucket/Meter" = some m.cls := findClass_of_methodNamed Bd.named
  have hnm := (name_of_methodNamed Bd.named Bd.method).1
  have X0 : Stand p l e ({ frames := 1, cells := 0, slots := 0, locals := 14 } : Room) s m #[(.ref d0), (.long u0)] below meth c s₁ [] 0 0 := Stand.of_body Bd
  have e0 : s₁.heap = h0 := by rw [← hh, Bd.state]; rfl
  have N0 := Fr.nil n0
  have K0 : Keep h0 h0 [] := Keep.refl h0 _
  show Wp p e below (Out s (Q19 Z d0 u0 c0 b0 h0 n0) ({ frames := 1, cells := 0, slots := 0, locals := 14 } : Room).cells ({ frames := 1, cells := 0, slots := 0, locals := 14 } : Room).slots) (s₁.setTop (entryFrame m #[(.ref d0), (.long u0)] 3))
  rw [ef_19_00]
  show Wp p e below _ (s₁.setTop (mkF m 0 #[.val (.ref d0), .val (.long u0), .second] []))
  refine Wp.step (fun t k => XS.lloadN X0.here hx rfl (hb hby d19_0) rfl k) ?_
  show Wp p e below _ (s₁.setTop (mkF m 1 #[.val (.ref d0), .val (.long u0), .second] [(.long u0)]))
  refine Wp.step (fun t k => XS.aloadN X0.here hx rfl (hb hby d19_1) rfl rfl k) ?_
  show Wp p e below _ (s₁.setTop (mkF m 2 #[.val (.ref d0), .val (.long u0), .second] [(.ref d0), (.long u0)]))
  obtain ⟨T1, X1, e1, st1⟩ := getF X0 hx hZ hown (host := "") (Or.inl (hw _ (List.mem_of_getElem? (i := 115) rfl))) Via.refl e0 F_contract_d0 (g := (mkF m 2 #[.val (.ref d0), .val (.long u0), .second] [(.ref d0), (.long u0)])) rfl rfl (hb hby d19_2)
  refine Wp.step st1 ?_
  show Wp p e below _ (T1.setTop (mkF m 5 #[.val (.ref d0), .val (.long u0), .second] [(.ref c0), (.long u0)]))
  obtain ⟨cq2, kq2, q2a, q2b, q2c⟩ := isOf hZ e1 E_c0
  obtain ⟨_, _, ⟨T2, L2, k2, n2⟩, -, X2, ⟨Lc2, hQ2, l2, y2, z2⟩, st2⟩ := X1.virtualBack hx (y := (⟨"com/example/gentle_bucket/gentlebucket/Contract", "burst", "()J"⟩ : MethodName)) (z := (⟨"com/example/gentle_bucket/gentlebucket/Contract", "burst", "()J"⟩ : MethodName)) hown (mvT hZ (hw _ (List.mem_of_getElem? (i := 122) rfl))) (mvT hZ (hw _ (List.mem_of_getElem? (i := 123) rfl))) (notFace_of_selects (args := #[]) (mvT hZ (hw _ (List.mem_of_getElem? (i := 125) rfl)))) (mvT hZ (hw _ (List.mem_of_getElem? (i := 125) rfl))) (mvT hZ (hw _ (List.mem_of_getElem? (i := 124) rfl))) (by decide) (backOf (W := 2) (rm20 l Z a0 hw [] c0 b0 h0 n0 (Nat.le_trans Z0 K0.1) F_burst_c0 ) hZ (hw _ (List.mem_of_getElem? (i := 126) rfl)) (hw _ (List.mem_of_getElem? (i := 10) rfl)) (by decide) (by decide)) q2a q2c (g := (mkF m 5 #[.val (.ref d0), .val (.long u0), .second] [(.ref c0), (.long u0)])) rfl (by rw [hml]; rfl) (Steps.refl _) (argsL := []) (rest := [(.long u0)]) (lenOf pd_2829J rfl) rfl (by show 2 * 0 + _ ≤ _; exact Nat.le_of_eq rfl) (hb hby d19_5) (fun _ _ => ⟨rfl, e1, (by decide : 0 + 0 ≤ _), (by decide : 0 + 0 ≤ _)⟩)
  dsimp only [Pt.U, Pt.locs, Pt.cells, Pt.slots] at X2 l2 y2 z2 st2 hQ2
  subst l2 y2 z2
  obtain ⟨rfl, N2q, e2⟩ := hQ2
  have N2 := Fr.app N0 N2q
  refine Wp.go st2 ?_
  show Wp p e below _ (T2.setTop (mkF m 8 #[.val (.ref d0), .val (.long u0), .second] [(.long b0), (.long u0)]))
  refine Wp.step (fun t k => XS.lcmp X2.here hx rfl (hb hby d19_8) rfl k) ?_
  show Wp p e below _ (T2.setTop (mkF m 9 #[.val (.ref d0), .val (.long u0), .second] [(.int (lcmpW u0 b0))]))
  by_cases hc3 : (0 : Int32) < (lcmpW u0 b0)
  · refine Wp.step (fun t k => XS.ifNo X2.here hx rfl (hb hby d19_9) rfl ((if0 _ _).trans (tlt hc3).2.2.2) k) ?_
    show Wp p e below _ (T2.setTop (mkF m 12 #[.val (.ref d0), .val (.long u0), .second] []))
    refine Wp.step (fun t k => XS.iconst X2.here hx rfl (hb hby d19_12) k) ?_
    show Wp p e below _ (T2.setTop (mkF m 13 #[.val (.ref d0), .val (.long u0), .second] [(.int (1 : Int32))]))
    refine Wp.step (fun t k => XS.goto X2.here hx rfl (pc0 := 13) (pc' := 17) rfl (hb hby d19_13) (by decide) (by decide) k) ?_
    show Wp p e below _ (T2.setTop (mkF m 17 #[.val (.ref d0), .val (.long u0), .second] [(.int (1 : Int32))]))
    refine Wp.retN X2 hx (t := .boolean) Bd.returns (by simp) (hb hby d19_17) hlk ?_ (by decide) (by decide)
    show Q19 Z d0 u0 c0 b0 h0 n0 (some (.int (nar .boolean (1 : Int32)))) T2.heap _
    rw [e2]
    exact ⟨(by rw [own_nf, if_pos ((lw_gt _ _).mp hc3)]; rfl), N2, rfl⟩
  · refine Wp.step (fun t k => XS.ifYes X2.here hx rfl (pc0 := 9) (pc' := 16) rfl (hb hby d19_9) rfl ((if0 _ _).trans (flt hc3).2.2.2) (by decide) (by decide) k) ?_
    show Wp p e below _ (T2.setTop (mkF m 16 #[.val (.ref d0), .val (.long u0), .second] []))
    refine Wp.step (fun t k => XS.iconst X2.here hx rfl (hb hby d19_16) k) ?_
    show Wp p e below _ (T2.setTop (mkF m 17 #[.val (.ref d0), .val (.long u0), .second] [(.int (0 : Int32))]))
    refine Wp.retN X2 hx (t := .boolean) Bd.returns (by simp) (hb hby d19_17) hlk ?_ (by decide) (by decide)
    show Q19 Z d0 u0 c0 b0 h0 n0 (some (.int (nar .boolean (0 : Int32)))) T2.heap _
    rw [e2]
    exact ⟨(by rw [own_nf, if_neg (fun q => hc3 ((lw_gt _ _).mpr q))]; rfl), N2, rfl⟩
theorem d24_0 : decode prog_1_method_2_code 0 = .ok (.lload_n 0, 1) := by decide +kernel
theorem d24_1 : decode prog_1_method_2_code 1 = .ok (.lconst 1, 1) := by decide +kernel
theorem d24_2 : decode prog_1_method_2_code 2 = .ok (.lcmp, 1) := by decide +kernel
theorem d24_3 : decode prog_1_method_2_code 3 = .ok (.ifCond .ge 17, 3) := by decide +kernel
theorem d24_20 : decode prog_1_method_2_code 20 = .ok (.return_, 1) := by decide +kernel
theorem pn_com_example_gentle_bucket_gentlebucket_Asks : plainName "com/example/gentle_bucket/gentlebucket/Asks" = true := by first | (simp [plainName, overriddenIn]; done) | decide +kernel
theorem ef_24_0 (m : MethodId) (x0 : Int64) : entryFrame m #[(.long x0)] 2 = mkF m 0 #[.val (.long x0), .second] [] := by first | (simp [entryFrame, mkF, argsToLocals, Value.category]; done) | rfl
def Q24 (Z : State) (u0 : Int64) (h0 : Heap) (n0 : Nat) (v : Option Value) (h : Heap) (L : List Loc) : Prop := v = none ∧ Fr n0 L ∧ h = h0
set_option maxRecDepth 65536 in
set_option maxHeartbeats 40000000 in
theorem rm24 (l : Launch) (Z : State) (a0 : Array Value) (hw : ∀ d ∈ tables_1, d.before a0 Z = true) (ws : List Jvm.Cond) (u0 : Int64) (h0 : Heap) (n0 : Nat) (Z0 : n0 ≤ h0.size) (hc : ¬ u0 < 1) :
    MetFree l (⟨"com/example/gentle_bucket/gentlebucket/Asks", "checkCost", "(J)V"⟩ : MethodName) (head1 (Jvm.Cond.code (⟨"com/example/gentle_bucket/gentlebucket/Asks", "checkCost", "(J)V"⟩ : MethodName) prog_1_method_2_code 2 none :: ws) ({ frames := 0, cells := 0, slots := 0, locals := 0 } : Room)) (fun a U => a = #[(.long u0)] ∧ Z.Warmed39 U.vm ∧ U.heap = h0) (fun _ _ _ _ _ => True) (fun _ U o U' => ∃ v L, o = .returned v ∧ Q24 Z u0 h0 n0 v U'.heap L ∧ FrameEnd U o U' L ({ frames := 0, cells := 0, slots := 0, locals := 0 } : Room).cells ({ frames := 0, cells := 0, slots := 0, locals := 0 } : Room).slots) := by
  refine MetFree.of_bodySF (plainFor_of_name pn_com_example_gentle_bucket_gentlebucket_Asks) hisR ?_
  intro p e s m args below meth c s₁ Bd hml0 hP hK
  obtain ⟨rfl, hZ, hh⟩ := hP
  have hx := Bd.exec
  have hby := Bd.bytes
  have hlk : meth.locks = false := Bd.notSynchronized
  have hml : c.maxLocals = 2 := hml0
  have hown : s.vm.findClass "com/example/gentle_bucket/gentlebucket/Asks" = some m.cls := findClass_of_methodNamed Bd.named
  have hnm := (name_of_methodNamed Bd.named Bd.method).1
  have X0 : Stand p l e ({ frames := 0, cells := 0, slots := 0, locals := 0 } : Room) s m #[(.long u0)] below meth c s₁ [] 0 0 := Stand.of_body Bd
  have e0 : s₁.heap = h0 := by rw [← hh, Bd.state]; rfl
  have N0 := Fr.nil n0
  have K0 : Keep h0 h0 [] := Keep.refl h0 _
  show Wp p e below (Out s (Q24 Z u0 h0 n0) ({ frames := 0, cells := 0, slots := 0, locals := 0 } : Room).cells ({ frames := 0, cells := 0, slots := 0, locals := 0 } : Room).slots) (s₁.setTop (entryFrame m #[(.long u0)] 2))
  rw [ef_24_0]
  show Wp p e below _ (s₁.setTop (mkF m 0 #[.val (.long u0), .second] []))
  refine Wp.step (fun t k => XS.lloadN X0.here hx rfl (hb hby d24_0) rfl k) ?_
  show Wp p e below _ (s₁.setTop (mkF m 1 #[.val (.long u0), .second] [(.long u0)]))
  refine Wp.step (fun t k => XS.lconst X0.here hx rfl (hb hby d24_1) k) ?_
  show Wp p e below _ (s₁.setTop (mkF m 2 #[.val (.long u0), .second] [(.long (1 : Int64)), (.long u0)]))
  refine Wp.step (fun t k => XS.lcmp X0.here hx rfl (hb hby d24_2) rfl k) ?_
  show Wp p e below _ (s₁.setTop (mkF m 3 #[.val (.long u0), .second] [(.int (lcmpW u0 (1 : Int64)))]))
  refine Wp.step (fun t k => XS.ifYes X0.here hx rfl (pc0 := 3) (pc' := 20) rfl (hb hby d24_3) rfl ((if0 _ _).trans (flt (show ¬ ((lcmpW u0 (1 : Int64)) < (0 : Int32)) from fun q => hc ((lw_lt _ _).mp q))).2.1) (by decide) (by decide) k) ?_
  show Wp p e below _ (s₁.setTop (mkF m 20 #[.val (.long u0), .second] []))
  refine Wp.retV X0 hx Bd.returns (hb hby d24_20) hlk ?_ (by decide) (by decide)
  show Q24 Z u0 h0 n0 none s₁.heap _
  rw [e0]
  exact ⟨rfl, N0, rfl⟩
theorem d29_0 : decode prog_12_method_11_code 0 = .ok (.aload_n 0, 1) := by decide +kernel
theorem d29_1 : decode prog_12_method_11_code 1 = .ok (.getfield 119, 3) := by decide +kernel
theorem d29_4 : decode prog_12_method_11_code 4 = .ok (.aload_n 0, 1) := by decide +kernel
theorem d29_5 : decode prog_12_method_11_code 5 = .ok (.getfield 122, 3) := by decide +kernel
theorem d29_8 : decode prog_12_method_11_code 8 = .ok (.invokestatic 125, 3) := by decide +kernel
theorem d29_11 : decode prog_12_method_11_code 11 = .ok (.areturn, 1) := by decide +kernel
theorem ef_29_0 (m : MethodId) (x0 : Addr) : entryFrame m #[(.ref x0)] 1 = mkF m 0 #[.val (.ref x0)] [] := by first | (simp [entryFrame, mkF, argsToLocals, Value.category]; done) | rfl
def Q29 (Z : State) (d0 : Addr) (y0 : Int64) (y1 : Int64) (h0 : Heap) (n0 : Nat) (v : Option Value) (h : Heap) (L : List Loc) : Prop := ∃ (r0 : Addr), v = some (.ref r0) ∧ Fr n0 L ∧ Keep h0 h [] ∧ h0.size ≤ r0 ∧ Exa Z h r0 "com/example/gentle_bucket/gentlebucket/Uint128" ∧ Fld Z h r0 "com/example/gentle_bucket/gentlebucket/Uint128" "high" "J" (.long y0) ∧ Fld Z h r0 "com/example/gentle_bucket/gentlebucket/Uint128" "low" "J" (.long y1)
set_option maxRecDepth 65536 in
set_option maxHeartbeats 40000000 in
theorem rm29 (l : Launch) (Z : State) (a0 : Array Value) (hw : ∀ d ∈ tables_1, d.before a0 Z = true) (ws : List Jvm.Cond) (d0 : Addr) (y0 : Int64) (y1 : Int64) (h0 : Heap) (n0 : Nat) (Z0 : n0 ≤ h0.size) (F_levelHigh_d0 : Fld Z h0 d0 "com/example/gentle_bucket/gentlebucket/Meter" "levelHigh" "J" (.long y0)) (F_levelLow_d0 : Fld Z h0 d0 "com/example/gentle_bucket/gentlebucket/Meter" "levelLow" "J" (.long y1)) :
    MetFree l (⟨"com/example/gentle_bucket/gentlebucket/Meter", "level", "()Lcom/example/gentle_bucket/gentlebucket/Uint128;"⟩ : MethodName) (head1 (Jvm.Cond.code (⟨"com/example/gentle_bucket/gentlebucket/Meter", "level", "()Lcom/example/gentle_bucket/gentlebucket/Uint128;"⟩ : MethodName) prog_12_method_11_code 1 (some (.object "com/example/gentle_bucket/gentlebucket/Uint128")) :: ws) ({ frames := 3, cells := 1, slots := 2, locals := 44 } : Room)) (fun a U => a = #[(.ref d0)] ∧ Z.Warmed39 U.vm ∧ U.heap = h0) (fun _ _ _ _ _ => True) (fun _ U o U' => ∃ v L, o = .returned v ∧ Q29 Z d0 y0 y1 h0 n0 v U'.heap L ∧ FrameEnd U o U' L ({ frames := 3, cells := 1, slots := 2, locals := 44 } : Room).cells ({ frames := 3, cells := 1, slots := 2, locals := 44 } : Room).slots) := by
  refine MetFree.of_bodySF (plainFor_of_name pn_com_example_gentle_bucket_gentlebucket_Meter) hisR ?_
  intro p e s m args below meth c s₁ Bd hml0 hP hK
  obtain ⟨rfl, hZ, hh⟩ := hP
  have hx := Bd.exec
  have hby := Bd.bytes
  have hlk : meth.locks = false := Bd.notSynchronized
  have hml : c.maxLocals = 1 := hml0
  have hown : s.vm.findClass "com/example/gentle_bucket/gentlebucket/Meter" = some m.cls := findClass_of_methodNamed Bd.named
  have hnm := (name_of_methodNamed Bd.named Bd.method).1
  have X0 : Stand p l e ({ frames := 3, cells := 1, slots := 2, locals := 44 } : Room) s m #[(.ref d0)] below meth c s₁ [] 0 0 := Stand.of_body Bd
  have e0 : s₁.heap = h0 := by rw [← hh, Bd.state]; rfl
  have N0 := Fr.nil n0
  have K0 : Keep h0 h0 [] := Keep.refl h0 _
  show Wp p e below (Out s (Q29 Z d0 y0 y1 h0 n0) ({ frames := 3, cells := 1, slots := 2, locals := 44 } : Room).cells ({ frames := 3, cells := 1, slots := 2, locals := 44 } : Room).slots) (s₁.setTop (entryFrame m #[(.ref d0)] 1))
  rw [ef_29_0]
  show Wp p e below _ (s₁.setTop (mkF m 0 #[.val (.ref d0)] []))
  refine Wp.step (fun t k => XS.aloadN X0.here hx rfl (hb hby d29_0) rfl rfl k) ?_
  show Wp p e below _ (s₁.setTop (mkF m 1 #[.val (.ref d0)] [(.ref d0)]))
  obtain ⟨T1, X1, e1, st1⟩ := getF X0 hx hZ hown (host := "") (Or.inl (hw _ (List.mem_of_getElem? (i := 170) rfl))) Via.refl e0 F_levelHigh_d0 (g := (mkF m 1 #[.val (.ref d0)] [(.ref d0)])) rfl rfl (hb hby d29_1)
  refine Wp.step st1 ?_
  show Wp p e below _ (T1.setTop (mkF m 4 #[.val (.ref d0)] [(.long y0)]))
  refine Wp.step (fun t k => XS.aloadN X1.here hx rfl (hb hby d29_4) rfl rfl k) ?_
  show Wp p e below _ (T1.setTop (mkF m 5 #[.val (.ref d0)] [(.ref d0), (.long y0)]))
  obtain ⟨T2, X2, e2, st2⟩ := getF X1 hx hZ hown (host := "") (Or.inl (hw _ (List.mem_of_getElem? (i := 172) rfl))) Via.refl e1 F_levelLow_d0 (g := (mkF m 5 #[.val (.ref d0)] [(.ref d0), (.long y0)])) rfl rfl (hb hby d29_5)
  refine Wp.step st2 ?_
  show Wp p e below _ (T2.setTop (mkF m 8 #[.val (.ref d0)] [(.long y1), (.long y0)]))
  obtain ⟨_, _, ⟨T3, L3, k3, n3⟩, -, X3, ⟨Lc3, hQ3, l3, y3, z3⟩, st3⟩ := Jvm.LawKit.callS X2 hx (y := (⟨"com/example/gentle_bucket/gentlebucket/Uint128", "of", "(JJ)Lcom/example/gentle_bucket/gentlebucket/Uint128;"⟩ : MethodName)) hown (mvT hZ (hw _ (List.mem_of_getElem? (i := 174) rfl))) (mvT hZ (hw _ (List.mem_of_getElem? (i := 175) rfl))) (mvT hZ (hw _ (List.mem_of_getElem? (i := 54) rfl))) (mvT hZ (hw _ (List.mem_of_getElem? (i := 176) rfl))) (by decide) (backOf (W := 0) (rm30 l Z a0 hw [] y0 y1  h0 n0 (Nat.le_trans Z0 K0.1)  ) hZ (hw _ (List.mem_of_getElem? (i := 176) rfl)) (hw _ (List.mem_of_getElem? (i := 54) rfl)) (by decide) (by decide)) (g := (mkF m 8 #[.val (.ref d0)] [(.long y1), (.long y0)])) rfl (by rw [hml]; rfl) (argsL := [(.long y0), (.long y1)]) (rest := []) (lenOf pd_28JJ29Lcom2fexample2fgentle_bucket2fgentlebucket2fUint1283b rfl) rfl (by show 2 * 0 + _ ≤ _; exact Nat.le_of_eq rfl) (hb hby d29_8) (fun _ _ => ⟨rfl, e2, (by decide : 0 + 1 ≤ _), (by decide : 0 + 2 ≤ _)⟩)
  dsimp only [Pt.U, Pt.locs, Pt.cells, Pt.slots] at X3 l3 y3 z3 st3 hQ3
  subst l3 y3 z3
  obtain ⟨h3, e3⟩ : ∃ z, T3.heap = z := ⟨_, rfl⟩
  rw [e3] at hQ3
  obtain ⟨r3, rfl, N3q, Kc3, sz3, o3_0, o3_1, o3_2⟩ := hQ3
  have N3 := Fr.app N0 N3q
  have g_r3 : n0 ≤ r3 := Nat.le_trans (Nat.le_trans Z0 K0.1) sz3
  have sz_r3 : h0.size ≤ r3 := Nat.le_trans K0.1 sz3
  have ne_d0_r3 : d0 ≠ r3 := Nat.ne_of_lt (Nat.lt_of_lt_of_le F_levelHigh_d0.lt sz3)
  have c4 := F_levelHigh_d0.keep Kc3 nin0
  have c5 := F_levelLow_d0.keep Kc3 nin0
  have K3 := K0.trans Kc3 all0
  refine Wp.step st3 ?_
  show Wp p e below _ (T3.setTop (mkF m 11 #[.val (.ref d0)] [(.ref r3)]))
  refine Wp.retA X3 hx Bd.returns rfl (hb hby d29_11) hlk ?_ (by decide) (by decide)
  show Q29 Z d0 y0 y1 h0 n0 (some (.ref r3)) T3.heap _
  rw [e3]
  exact ⟨r3, rfl, N3, K3, sz_r3, o3_0, o3_1, o3_2⟩
theorem d34_0 : decode prog_12_method_12_code 0 = .ok (.aload_n 0, 1) := by decide +kernel
theorem d34_1 : decode prog_12_method_12_code 1 = .ok (.aload_n 1, 1) := by decide +kernel
theorem d34_2 : decode prog_12_method_12_code 2 = .ok (.invokevirtual 128, 3) := by decide +kernel
theorem d34_5 : decode prog_12_method_12_code 5 = .ok (.putfield 119, 3) := by decide +kernel
theorem d34_8 : decode prog_12_method_12_code 8 = .ok (.aload_n 0, 1) := by decide +kernel
theorem d34_9 : decode prog_12_method_12_code 9 = .ok (.aload_n 1, 1) := by decide +kernel
theorem d34_10 : decode prog_12_method_12_code 10 = .ok (.invokevirtual 131, 3) := by decide +kernel
theorem d34_13 : decode prog_12_method_12_code 13 = .ok (.putfield 122, 3) := by decide +kernel
theorem d34_16 : decode prog_12_method_12_code 16 = .ok (.return_, 1) := by decide +kernel
theorem ef_34_00 (m : MethodId) (x0 : Addr) (x1 : Addr) : entryFrame m #[(.ref x0), (.ref x1)] 2 = mkF m 0 #[.val (.ref x0), .val (.ref x1)] [] := by first | (simp [entryFrame, mkF, argsToLocals, Value.category]; done) | rfl
def Q34 (Z : State) (d0 : Addr) (d1 : Addr) (ln : Int64) (c0 : Addr) (x0 : Int64) (x1 : Int64) (y0 : Int64) (y1 : Int64) (h0 : Heap) (n0 : Nat) (v : Option Value) (h : Heap) (L : List Loc) : Prop := v = none ∧ Fr n0 L ∧ Keep h0 h [d0] ∧ Exa Z h d0 "com/example/gentle_bucket/gentlebucket/Meter" ∧ Fld Z h d0 "com/example/gentle_bucket/gentlebucket/Meter" "levelNanos" "J" (.long ln) ∧ Fld Z h d0 "com/example/gentle_bucket/gentlebucket/Meter" "contract" "Lcom/example/gentle_bucket/gentlebucket/Contract;" (.ref c0) ∧ Fld Z h d0 "com/example/gentle_bucket/gentlebucket/Meter" "levelHigh" "J" (.long y0) ∧ Fld Z h d0 "com/example/gentle_bucket/gentlebucket/Meter" "levelLow" "J" (.long y1)
set_option maxRecDepth 65536 in
set_option maxHeartbeats 40000000 in
theorem rm34 (l : Launch) (Z : State) (a0 : Array Value) (hw : ∀ d ∈ tables_1, d.before a0 Z = true) (ws : List Jvm.Cond) (d0 : Addr) (d1 : Addr) (ln : Int64) (c0 : Addr) (x0 : Int64) (x1 : Int64) (y0 : Int64) (y1 : Int64) (h0 : Heap) (n0 : Nat) (Z0 : n0 ≤ h0.size) (g_d0 : n0 ≤ d0) (E_d0 : Exa Z h0 d0 "com/example/gentle_bucket/gentlebucket/Meter") (F_levelNanos_d0 : Fld Z h0 d0 "com/example/gentle_bucket/gentlebucket/Meter" "levelNanos" "J" (.long ln)) (F_contract_d0 : Fld Z h0 d0 "com/example/gentle_bucket/gentlebucket/Meter" "contract" "Lcom/example/gentle_bucket/gentlebucket/Contract;" (.ref c0)) (F_levelHigh_d0 : Fld Z h0 d0 "com/example/gentle_bucket/gentlebucket/Meter" "levelHigh" "J" (.long x0)) (F_levelLow_d0 : Fld Z h0 d0 "com/example/gentle_bucket/gentlebucket/Meter" "levelLow" "J" (.long x1)) (E_d1 : Exa Z h0 d1 "com/example/gentle_bucket/gentlebucket/Uint128") (F_high_d1 : Fld Z h0 d1 "com/example/gentle_bucket/gentlebucket/Uint128" "high" "J" (.long y0)) (F_low_d1 : Fld Z h0 d1 "com/example/gentle_bucket/gentlebucket/Uint128" "low" "J" (.long y1)) :
    MetFree l (⟨"com/example/gentle_bucket/gentlebucket/Meter", "setLevel", "(Lcom/example/gentle_bucket/gentlebucket/Uint128;)V"⟩ : MethodName) (head1 (Jvm.Cond.code (⟨"com/example/gentle_bucket/gentlebucket/Meter", "setLevel", "(Lcom/example/gentle_bucket/gentlebucket/Uint128;)V"⟩ : MethodName) prog_12_method_12_code 2 none :: ws) ({ frames := 1, cells := 0, slots := 0, locals := 13 } : Room)) (fun a U => a = #[(.ref d0), (.ref d1)] ∧ Z.Warmed39 U.vm ∧ U.heap = h0) (fun _ _ _ _ _ => True) (fun _ U o U' => ∃ v L, o = .returned v ∧ Q34 Z d0 d1 ln c0 x0 x1 y0 y1 h0 n0 v U'.heap L ∧ FrameEnd U o U' L ({ frames := 1, cells := 0, slots := 0, locals := 13 } : Room).cells ({ frames := 1, cells := 0, slots := 0, locals := 13 } : Room).slots) := by
  refine MetFree.of_bodySF (plainFor_of_name pn_com_example_gentle_bucket_gentlebucket_Meter) hisR ?_
  intro p e s m args below meth c s₁ Bd hml0 hP hK
  obtain ⟨rfl, hZ, hh⟩ := hP
  have hx := Bd.exec
  have hby := Bd.bytes
  have hlk : meth.locks = false := Bd.notSynchronized
  have hml : c.maxLocals = 2 := hml0
  have hown : s.vm.findClass "com/example/gentle_bucket/gentlebucket/Meter" = some m.cls := findClass_of_methodNamed Bd.named
  have hnm := (name_of_methodNamed Bd.named Bd.method).1
  have X0 : Stand p l e ({ frames := 1, cells := 0, slots := 0, locals := 13 } : Room) s m #[(.ref d0), (.ref d1)] below meth c s₁ [] 0 0 := Stand.of_body Bd
  have e0 : s₁.heap = h0 := by rw [← hh, Bd.state]; rfl
  have N0 := Fr.nil n0
  have K0 : Keep h0 h0 [d0] := Keep.refl h0 _
  show Wp p e below (Out s (Q34 Z d0 d1 ln c0 x0 x1 y0 y1 h0 n0) ({ frames := 1, cells := 0, slots := 0, locals := 13 } : Room).cells ({ frames := 1, cells := 0, slots := 0, locals := 13 } : Room).slots) (s₁.setTop (entryFrame m #[(.ref d0), (.ref d1)] 2))
  rw [ef_34_00]
  show Wp p e below _ (s₁.setTop (mkF m 0 #[.val (.ref d0), .val (.ref d1)] []))
  refine Wp.step (fun t k => XS.aloadN X0.here hx rfl (hb hby d34_0) rfl rfl k) ?_
  show Wp p e below _ (s₁.setTop (mkF m 1 #[.val (.ref d0), .val (.ref d1)] [(.ref d0)]))
  refine Wp.step (fun t k => XS.aloadN X0.here hx rfl (hb hby d34_1) rfl rfl k) ?_
  show Wp p e below _ (s₁.setTop (mkF m 2 #[.val (.ref d0), .val (.ref d1)] [(.ref d1), (.ref d0)]))
  obtain ⟨cq1, kq1, q1a, q1b, q1c⟩ := isOf hZ e0 E_d1
  obtain ⟨_, _, ⟨T1, L1, k1, n1⟩, -, X1, ⟨Lc1, hQ1, l1, y1, z1⟩, st1⟩ := X0.virtualBack hx (y := (⟨"com/example/gentle_bucket/gentlebucket/Uint128", "high", "()J"⟩ : MethodName)) (z := (⟨"com/example/gentle_bucket/gentlebucket/Uint128", "high", "()J"⟩ : MethodName)) hown (mvT hZ (hw _ (List.mem_of_getElem? (i := 195) rfl))) (mvT hZ (hw _ (List.mem_of_getElem? (i := 196) rfl))) (notFace_of_selects (args := #[]) (mvT hZ (hw _ (List.mem_of_getElem? (i := 198) rfl)))) (mvT hZ (hw _ (List.mem_of_getElem? (i := 198) rfl))) (mvT hZ (hw _ (List.mem_of_getElem? (i := 197) rfl))) (by decide) (backOf (W := 1) (rm35 l Z a0 hw [] d1 y0 h0 n0 (Nat.le_trans Z0 K0.1) F_high_d1 ) hZ (hw _ (List.mem_of_getElem? (i := 199) rfl)) (hw _ (List.mem_of_getElem? (i := 54) rfl)) (by decide) (by decide)) q1a q1c (g := (mkF m 2 #[.val (.ref d0), .val (.ref d1)] [(.ref d1), (.ref d0)])) rfl (by rw [hml]; rfl) (Steps.refl _) (argsL := []) (rest := [(.ref d0)]) (lenOf pd_2829J rfl) rfl (by show 2 * 0 + _ ≤ _; exact Nat.le_of_eq rfl) (hb hby d34_2) (fun _ _ => ⟨rfl, e0, (by decide : 0 + 0 ≤ _), (by decide : 0 + 0 ≤ _)⟩)
  dsimp only [Pt.U, Pt.locs, Pt.cells, Pt.slots] at X1 l1 y1 z1 st1 hQ1
  subst l1 y1 z1
  obtain ⟨rfl, N1q, e1⟩ := hQ1
  have N1 := Fr.app N0 N1q
  refine Wp.go st1 ?_
  show Wp p e below _ (T1.setTop (mkF m 5 #[.val (.ref d0), .val (.ref d1)] [(.long y0), (.ref d0)]))
  obtain ⟨T2, h2, X2, e2, W2, st2⟩ := putF X1 hx hZ hown (host := "") (Or.inl (hw _ (List.mem_of_getElem? (i := 170) rfl))) Via.refl e1 F_levelHigh_d0 E_d0 (Or.inl (hw _ (List.mem_of_getElem? (i := 171) rfl))) (hw _ (List.mem_of_getElem? (i := 6) rfl)) (ty := .long) (by decide) rfl rfl (g := (mkF m 5 #[.val (.ref d0), .val (.ref d1)] [(.long y0), (.ref d0)])) rfl rfl (hb hby d34_5)
  have c3 := E_d0.wr W2
  have c4 := F_levelNanos_d0.other W2 (Or.inr (slot_ne (Or.inl (hw _ (List.mem_of_getElem? (i := 110) rfl))) (Or.inl (hw _ (List.mem_of_getElem? (i := 171) rfl))) (by decide) (t := .long) (t' := .long) (by decide) (by decide)))
  have c5 := F_contract_d0.other W2 (Or.inr (slot_ne (Or.inr (hw _ (List.mem_of_getElem? (i := 116) rfl))) (Or.inl (hw _ (List.mem_of_getElem? (i := 171) rfl))) (by decide) (t := (.object "com/example/gentle_bucket/gentlebucket/Contract")) (t' := .long) (by decide) (by decide)))
  have c6 := F_levelLow_d0.other W2 (Or.inr (slot_ne (Or.inl (hw _ (List.mem_of_getElem? (i := 173) rfl))) (Or.inl (hw _ (List.mem_of_getElem? (i := 171) rfl))) (by decide) (t := .long) (t' := .long) (by decide) (by decide)))
  have c7 := E_d1.wr W2
  have c8 := F_high_d1.other W2 (Or.inl (own_ne_cls c7 c3 (by decide)))
  have c9 := F_low_d1.other W2 (Or.inl (own_ne_cls c7 c3 (by decide)))
  have c10 := F_levelHigh_d0.same W2
  have K11 := K0.wr W2 (Or.inl (List.mem_of_getElem? (i := 0) rfl))
  have N2 := Fr.snoc X2 N1 g_d0
  refine Wp.step st2 ?_
  show Wp p e below _ (T2.setTop (mkF m 8 #[.val (.ref d0), .val (.ref d1)] []))
  refine Wp.step (fun t k => XS.aloadN X2.here hx rfl (hb hby d34_8) rfl rfl k) ?_
  show Wp p e below _ (T2.setTop (mkF m 9 #[.val (.ref d0), .val (.ref d1)] [(.ref d0)]))
  refine Wp.step (fun t k => XS.aloadN X2.here hx rfl (hb hby d34_9) rfl rfl k) ?_
  show Wp p e below _ (T2.setTop (mkF m 10 #[.val (.ref d0), .val (.ref d1)] [(.ref d1), (.ref d0)]))
  obtain ⟨cq12, kq12, q12a, q12b, q12c⟩ := isOf hZ e2 c7
  obtain ⟨_, _, ⟨T12, L12, k12, n12⟩, -, X12, ⟨Lc12, hQ12, l12, y12, z12⟩, st12⟩ := X2.virtualBack hx (y := (⟨"com/example/gentle_bucket/gentlebucket/Uint128", "low", "()J"⟩ : MethodName)) (z := (⟨"com/example/gentle_bucket/gentlebucket/Uint128", "low", "()J"⟩ : MethodName)) hown (mvT hZ (hw _ (List.mem_of_getElem? (i := 200) rfl))) (mvT hZ (hw _ (List.mem_of_getElem? (i := 201) rfl))) (notFace_of_selects (args := #[]) (mvT hZ (hw _ (List.mem_of_getElem? (i := 203) rfl)))) (mvT hZ (hw _ (List.mem_of_getElem? (i := 203) rfl))) (mvT hZ (hw _ (List.mem_of_getElem? (i := 202) rfl))) (by decide) (backOf (W := 1) (rm36 l Z a0 hw [] d1 y1 h2 n0 (Nat.le_trans Z0 K11.1) c9 ) hZ (hw _ (List.mem_of_getElem? (i := 204) rfl)) (hw _ (List.mem_of_getElem? (i := 54) rfl)) (by decide) (by decide)) q12a q12c (g := (mkF m 10 #[.val (.ref d0), .val (.ref d1)] [(.ref d1), (.ref d0)])) rfl (by rw [hml]; rfl) (Steps.refl _) (argsL := []) (rest := [(.ref d0)]) (lenOf pd_2829J rfl) rfl (by show 2 * 0 + _ ≤ _; exact Nat.le_of_eq rfl) (hb hby d34_10) (fun _ _ => ⟨rfl, e2, (by decide : 0 + 0 ≤ _), (by decide : 0 + 0 ≤ _)⟩)
  dsimp only [Pt.U, Pt.locs, Pt.cells, Pt.slots] at X12 l12 y12 z12 st12 hQ12
  subst l12 y12 z12
  obtain ⟨rfl, N12q, e12⟩ := hQ12
  have N12 := Fr.app N2 N12q
  refine Wp.go st12 ?_
  show Wp p e below _ (T12.setTop (mkF m 13 #[.val (.ref d0), .val (.ref d1)] [(.long y1), (.ref d0)]))
  obtain ⟨T13, h13, X13, e13, W13, st13⟩ := putF X12 hx hZ hown (host := "") (Or.inl (hw _ (List.mem_of_getElem? (i := 172) rfl))) Via.refl e12 c6 c3 (Or.inl (hw _ (List.mem_of_getElem? (i := 173) rfl))) (hw _ (List.mem_of_getElem? (i := 6) rfl)) (ty := .long) (by decide) rfl rfl (g := (mkF m 13 #[.val (.ref d0), .val (.ref d1)] [(.long y1), (.ref d0)])) rfl rfl (hb hby d34_13)
  have c14 := c3.wr W13
  have c15 := c4.other W13 (Or.inr (slot_ne (Or.inl (hw _ (List.mem_of_getElem? (i := 110) rfl))) (Or.inl (hw _ (List.mem_of_getElem? (i := 173) rfl))) (by decide) (t := .long) (t' := .long) (by decide) (by decide)))
  have c16 := c5.other W13 (Or.inr (slot_ne (Or.inr (hw _ (List.mem_of_getElem? (i := 116) rfl))) (Or.inl (hw _ (List.mem_of_getElem? (i := 173) rfl))) (by decide) (t := (.object "com/example/gentle_bucket/gentlebucket/Contract")) (t' := .long) (by decide) (by decide)))
  have c17 := c10.other W13 (Or.inr (slot_ne (Or.inl (hw _ (List.mem_of_getElem? (i := 171) rfl))) (Or.inl (hw _ (List.mem_of_getElem? (i := 173) rfl))) (by decide) (t := .long) (t' := .long) (by decide) (by decide)))
  have c18 := c7.wr W13
  have c19 := c8.other W13 (Or.inl (own_ne_cls c18 c14 (by decide)))
  have c20 := c9.other W13 (Or.inl (own_ne_cls c18 c14 (by decide)))
  have c21 := c6.same W13
  have K22 := K11.wr W13 (Or.inl (List.mem_of_getElem? (i := 0) rfl))
  have N13 := Fr.snoc X13 N12 g_d0
  refine Wp.step st13 ?_
  show Wp p e below _ (T13.setTop (mkF m 16 #[.val (.ref d0), .val (.ref d1)] []))
  refine Wp.retV X13 hx Bd.returns (hb hby d34_16) hlk ?_ (by decide) (by decide)
  show Q34 Z d0 d1 ln c0 x0 x1 y0 y1 h0 n0 none T13.heap _
  rw [e13]
  exact ⟨rfl, N13, K22, c14, c15, c16, c17, c21⟩
theorem pd_2829Lcom2fexample2fgentle_bucket2fgentlebucket2fRate3b : parseMethodDescriptor "()Lcom/example/gentle_bucket/gentlebucket/Rate;" = some ⟨[], some (.object "com/example/gentle_bucket/gentlebucket/Rate")⟩ := by decide +kernel
theorem pd_2829Lcom2fexample2fgentle_bucket2fgentlebucket2fUint1283b : parseMethodDescriptor "()Lcom/example/gentle_bucket/gentlebucket/Uint128;" = some ⟨[], some (.object "com/example/gentle_bucket/gentlebucket/Uint128")⟩ := by decide +kernel
theorem pd_28Lcom2fexample2fgentle_bucket2fgentlebucket2fUint1283b29I : parseMethodDescriptor "(Lcom/example/gentle_bucket/gentlebucket/Uint128;)I" = some ⟨[(.object "com/example/gentle_bucket/gentlebucket/Uint128")], some .int⟩ := by decide +kernel
theorem d26_0 : decode prog_12_method_10_code 0 = .ok (.aload_n 0, 1) := by decide +kernel
theorem d26_1 : decode prog_12_method_10_code 1 = .ok (.getfield 33, 3) := by decide +kernel
theorem d26_4 : decode prog_12_method_10_code 4 = .ok (.invokevirtual 65, 3) := by decide +kernel
theorem d26_7 : decode prog_12_method_10_code 7 = .ok (.invokevirtual 99, 3) := by decide +kernel
theorem d26_10 : decode prog_12_method_10_code 10 = .ok (.lload_n 1, 1) := by decide +kernel
theorem d26_11 : decode prog_12_method_10_code 11 = .ok (.aload_n 0, 1) := by decide +kernel
theorem d26_12 : decode prog_12_method_10_code 12 = .ok (.getfield 21, 3) := by decide +kernel
theorem d26_15 : decode prog_12_method_10_code 15 = .ok (.lsub, 1) := by decide +kernel
theorem d26_16 : decode prog_12_method_10_code 16 = .ok (.invokestatic 75, 3) := by decide +kernel
theorem d26_19 : decode prog_12_method_10_code 19 = .ok (.astore_n 3, 1) := by decide +kernel
theorem d26_20 : decode prog_12_method_10_code 20 = .ok (.aload_n 0, 1) := by decide +kernel
theorem d26_21 : decode prog_12_method_10_code 21 = .ok (.invokevirtual 61, 3) := by decide +kernel
theorem d26_24 : decode prog_12_method_10_code 24 = .ok (.astore 4, 2) := by decide +kernel
theorem d26_26 : decode prog_12_method_10_code 26 = .ok (.aload_n 3, 1) := by decide +kernel
theorem d26_27 : decode prog_12_method_10_code 27 = .ok (.aload 4, 2) := by decide +kernel
theorem d26_29 : decode prog_12_method_10_code 29 = .ok (.invokevirtual 88, 3) := by decide +kernel
theorem d26_32 : decode prog_12_method_10_code 32 = .ok (.ifCond .lt 9, 3) := by decide +kernel
theorem d26_35 : decode prog_12_method_10_code 35 = .ok (.getstatic 92, 3) := by decide +kernel
theorem d26_38 : decode prog_12_method_10_code 38 = .ok (.goto 9, 3) := by decide +kernel
theorem d26_47 : decode prog_12_method_10_code 47 = .ok (.areturn, 1) := by decide +kernel
theorem ef_26_00 (m : MethodId) (x0 : Addr) (x1 : Int64) : entryFrame m #[(.ref x0), (.long x1)] 5 = mkF m 0 #[.val (.ref x0), .val (.long x1), .second, .unset, .unset] [] := by first | (simp [entryFrame, mkF, argsToLocals, Value.category]; done) | rfl
def Q26 (Z : State) (d0 : Addr) (u0 : Int64) (ln : Int64) (c0 : Addr) (ra : Addr) (de : Addr) (am : Int64) (pe : Int64) (b0 : Int64) (x0 : Int64) (x1 : Int64) (zz : Addr) (h0 : Heap) (n0 : Nat) (v : Option Value) (h : Heap) (L : List Loc) : Prop := v = some (.ref zz) ∧ Fr n0 L ∧ Keep h0 h []
set_option maxRecDepth 65536 in
set_option maxHeartbeats 40000000 in
theorem rm26 (l : Launch) (Z : State) (a0 : Array Value) (hw : ∀ d ∈ tables_1, d.before a0 Z = true) (ws : List Jvm.Cond) (d0 : Addr) (u0 : Int64) (ln : Int64) (c0 : Addr) (ra : Addr) (de : Addr) (am : Int64) (pe : Int64) (b0 : Int64) (x0 : Int64) (x1 : Int64) (zz : Addr) (h0 : Heap) (n0 : Nat) (Z0 : n0 ≤ h0.size) (E_d0 : Exa Z h0 d0 "com/example/gentle_bucket/gentlebucket/Meter") (F_levelNanos_d0 : Fld Z h0 d0 "com/example/gentle_bucket/gentlebucket/Meter" "levelNanos" "J" (.long ln)) (F_contract_d0 : Fld Z h0 d0 "com/example/gentle_bucket/gentlebucket/Meter" "contract" "Lcom/example/gentle_bucket/gentlebucket/Contract;" (.ref c0)) (F_levelHigh_d0 : Fld Z h0 d0 "com/example/gentle_bucket/gentlebucket/Meter" "levelHigh" "J" (.long (0 : Int64))) (F_levelLow_d0 : Fld Z h0 d0 "com/example/gentle_bucket/gentlebucket/Meter" "levelLow" "J" (.long (0 : Int64))) (E_c0 : Exa Z h0 c0 "com/example/gentle_bucket/gentlebucket/Contract") (F_rate_c0 : Fld Z h0 c0 "com/example/gentle_bucket/gentlebucket/Contract" "rate" "Lcom/example/gentle_bucket/gentlebucket/Rate;" (.ref ra)) (F_depth_c0 : Fld Z h0 c0 "com/example/gentle_bucket/gentlebucket/Contract" "depth" "Lcom/example/gentle_bucket/gentlebucket/Uint128;" (.ref de)) (F_burst_c0 : Fld Z h0 c0 "com/example/gentle_bucket/gentlebucket/Contract" "burst" "J" (.long b0)) (E_ra : Exa Z h0 ra "com/example/gentle_bucket/gentlebucket/Rate") (F_amount_ra : Fld Z h0 ra "com/example/gentle_bucket/gentlebucket/Rate" "amount" "J" (.long am)) (F_periodNanos_ra : Fld Z h0 ra "com/example/gentle_bucket/gentlebucket/Rate" "periodNanos" "J" (.long pe)) (E_de : Exa Z h0 de "com/example/gentle_bucket/gentlebucket/Uint128") (F_high_de : Fld Z h0 de "com/example/gentle_bucket/gentlebucket/Uint128" "high" "J" (.long x0)) (F_low_de : Fld Z h0 de "com/example/gentle_bucket/gentlebucket/Uint128" "low" "J" (.long x1)) (S_ZERO_zz : Sta Z h0 "com/example/gentle_bucket/gentlebucket/Uint128" "ZERO" "Lcom/example/gentle_bucket/gentlebucket/Uint128;" (.ref zz)) (E_zz : Exa Z h0 zz "com/example/gentle_bucket/gentlebucket/Uint128") (F_high_zz : Fld Z h0 zz "com/example/gentle_bucket/gentlebucket/Uint128" "high" "J" (.long (0 : Int64))) (F_low_zz : Fld Z h0 zz "com/example/gentle_bucket/gentlebucket/Uint128" "low" "J" (.long (0 : Int64))) :
    MetFree l (⟨"com/example/gentle_bucket/gentlebucket/Meter", "levelAt", "(J)Lcom/example/gentle_bucket/gentlebucket/Uint128;"⟩ : MethodName) (head1 (Jvm.Cond.code (⟨"com/example/gentle_bucket/gentlebucket/Meter", "levelAt", "(J)Lcom/example/gentle_bucket/gentlebucket/Uint128;"⟩ : MethodName) prog_12_method_10_code 5 (some (.object "com/example/gentle_bucket/gentlebucket/Uint128")) :: ws) ({ frames := 4, cells := 2, slots := 4, locals := 56 } : Room)) (fun a U => a = #[(.ref d0), (.long u0)] ∧ Z.Warmed39 U.vm ∧ U.heap = h0) (fun _ _ _ _ _ => True) (fun _ U o U' => ∃ v L, o = .returned v ∧ Q26 Z d0 u0 ln c0 ra de am pe b0 x0 x1 zz h0 n0 v U'.heap L ∧ FrameEnd U o U' L ({ frames := 4, cells := 2, slots := 4, locals := 56 } : Room).cells ({ frames := 4, cells := 2, slots := 4, locals := 56 } : Room).slots) := by
  refine MetFree.of_bodySF (plainFor_of_name pn_com_example_gentle_bucket_gentlebucket_Meter) hisR ?_
  intro p e s m args below meth c s₁ Bd hml0 hP hK
  obtain ⟨rfl, hZ, hh⟩ := hP
  have hx := Bd.exec
  have hby := Bd.bytes
  have hlk : meth.locks = false := Bd.notSynchronized
  have hml : c.maxLocals = 5 := hml0
  have hown : s.vm.findClass "com/example/gentle_bucket/gentlebucket/Meter" = some m.cls := findClass_of_methodNamed Bd.named
  have hnm := (name_of_methodNamed Bd.named Bd.method).1
  have X0 : Stand p l e ({ frames := 4, cells := 2, slots := 4, locals := 56 } : Room) s m #[(.ref d0), (.long u0)] below meth c s₁ [] 0 0 := Stand.of_body Bd
  have e0 : s₁.heap = h0 := by rw [← hh, Bd.state]; rfl
  have N0 := Fr.nil n0
  have K0 : Keep h0 h0 [] := Keep.refl h0 _
  show Wp p e below (Out s (Q26 Z d0 u0 ln c0 ra de am pe b0 x0 x1 zz h0 n0) ({ frames := 4, cells := 2, slots := 4, locals := 56 } : Room).cells ({ frames := 4, cells := 2, slots := 4, locals := 56 } : Room).slots) (s₁.setTop (entryFrame m #[(.ref d0), (.long u0)] 5))
  rw [ef_26_00]
  show Wp p e below _ (s₁.setTop (mkF m 0 #[.val (.ref d0), .val (.long u0), .second, .unset, .unset] []))
  refine Wp.step (fun t k => XS.aloadN X0.here hx rfl (hb hby d26_0) rfl rfl k) ?_
  show Wp p e below _ (s₁.setTop (mkF m 1 #[.val (.ref d0), .val (.long u0), .second, .unset, .unset] [(.ref d0)]))
  obtain ⟨T1, X1, e1, st1⟩ := getF X0 hx hZ hown (host := "") (Or.inl (hw _ (List.mem_of_getElem? (i := 115) rfl))) Via.refl e0 F_contract_d0 (g := (mkF m 1 #[.val (.ref d0), .val (.long u0), .second, .unset, .unset] [(.ref d0)])) rfl rfl (hb hby d26_1)
  refine Wp.step st1 ?_
  show Wp p e below _ (T1.setTop (mkF m 4 #[.val (.ref d0), .val (.long u0), .second, .unset, .unset] [(.ref c0)]))
  obtain ⟨cq2, kq2, q2a, q2b, q2c⟩ := isOf hZ e1 E_c0
  obtain ⟨_, _, ⟨T2, L2, k2, n2⟩, -, X2, ⟨Lc2, hQ2, l2, y2, z2⟩, st2⟩ := X1.virtualBack hx (y := (⟨"com/example/gentle_bucket/gentlebucket/Contract", "rate", "()Lcom/example/gentle_bucket/gentlebucket/Rate;"⟩ : MethodName)) (z := (⟨"com/example/gentle_bucket/gentlebucket/Contract", "rate", "()Lcom/example/gentle_bucket/gentlebucket/Rate;"⟩ : MethodName)) hown (mvT hZ (hw _ (List.mem_of_getElem? (i := 155) rfl))) (mvT hZ (hw _ (List.mem_of_getElem? (i := 156) rfl))) (notFace_of_selects (args := #[]) (mvT hZ (hw _ (List.mem_of_getElem? (i := 158) rfl)))) (mvT hZ (hw _ (List.mem_of_getElem? (i := 158) rfl))) (mvT hZ (hw _ (List.mem_of_getElem? (i := 157) rfl))) (by decide) (backOf (W := 0) (rm27 l Z a0 hw [] c0 ra h0 n0 (Nat.le_trans Z0 K0.1) F_rate_c0 ) hZ (hw _ (List.mem_of_getElem? (i := 159) rfl)) (hw _ (List.mem_of_getElem? (i := 10) rfl)) (by decide) (by decide)) q2a q2c (g := (mkF m 4 #[.val (.ref d0), .val (.long u0), .second, .unset, .unset] [(.ref c0)])) rfl (by rw [hml]; rfl) (Steps.refl _) (argsL := []) (rest := []) (lenOf pd_2829Lcom2fexample2fgentle_bucket2fgentlebucket2fRate3b rfl) rfl (by show 2 * 0 + _ ≤ _; exact Nat.le_of_eq rfl) (hb hby d26_4) (fun _ _ => ⟨rfl, e1, (by decide : 0 + 0 ≤ _), (by decide : 0 + 0 ≤ _)⟩)
  dsimp only [Pt.U, Pt.locs, Pt.cells, Pt.slots] at X2 l2 y2 z2 st2 hQ2
  subst l2 y2 z2
  obtain ⟨rfl, N2q, e2⟩ := hQ2
  have N2 := Fr.app N0 N2q
  refine Wp.go st2 ?_
  show Wp p e below _ (T2.setTop (mkF m 7 #[.val (.ref d0), .val (.long u0), .second, .unset, .unset] [(.ref ra)]))
  obtain ⟨cq3, kq3, q3a, q3b, q3c⟩ := isOf hZ e2 E_ra
  obtain ⟨_, _, ⟨T3, L3, k3, n3⟩, -, X3, ⟨Lc3, hQ3, l3, y3, z3⟩, st3⟩ := X2.virtualBack hx (y := (⟨"com/example/gentle_bucket/gentlebucket/Rate", "amount", "()J"⟩ : MethodName)) (z := (⟨"com/example/gentle_bucket/gentlebucket/Rate", "amount", "()J"⟩ : MethodName)) hown (mvT hZ (hw _ (List.mem_of_getElem? (i := 160) rfl))) (mvT hZ (hw _ (List.mem_of_getElem? (i := 161) rfl))) (notFace_of_selects (args := #[]) (mvT hZ (hw _ (List.mem_of_getElem? (i := 163) rfl)))) (mvT hZ (hw _ (List.mem_of_getElem? (i := 163) rfl))) (mvT hZ (hw _ (List.mem_of_getElem? (i := 162) rfl))) (by decide) (backOf (W := 0) (rm28 l Z a0 hw [] ra am h0 n0 (Nat.le_trans Z0 K0.1) F_amount_ra ) hZ (hw _ (List.mem_of_getElem? (i := 164) rfl)) (hw _ (List.mem_of_getElem? (i := 13) rfl)) (by decide) (by decide)) q3a q3c (g := (mkF m 7 #[.val (.ref d0), .val (.long u0), .second, .unset, .unset] [(.ref ra)])) rfl (by rw [hml]; rfl) (Steps.refl _) (argsL := []) (rest := []) (lenOf pd_2829J rfl) rfl (by show 2 * 0 + _ ≤ _; exact Nat.le_of_eq rfl) (hb hby d26_7) (fun _ _ => ⟨rfl, e2, (by decide : 0 + 0 ≤ _), (by decide : 0 + 0 ≤ _)⟩)
  dsimp only [Pt.U, Pt.locs, Pt.cells, Pt.slots] at X3 l3 y3 z3 st3 hQ3
  subst l3 y3 z3
  obtain ⟨rfl, N3q, e3⟩ := hQ3
  have N3 := Fr.app N2 N3q
  refine Wp.go st3 ?_
  show Wp p e below _ (T3.setTop (mkF m 10 #[.val (.ref d0), .val (.long u0), .second, .unset, .unset] [(.long am)]))
  refine Wp.step (fun t k => XS.lloadN X3.here hx rfl (hb hby d26_10) rfl k) ?_
  show Wp p e below _ (T3.setTop (mkF m 11 #[.val (.ref d0), .val (.long u0), .second, .unset, .unset] [(.long u0), (.long am)]))
  refine Wp.step (fun t k => XS.aloadN X3.here hx rfl (hb hby d26_11) rfl rfl k) ?_
  show Wp p e below _ (T3.setTop (mkF m 12 #[.val (.ref d0), .val (.long u0), .second, .unset, .unset] [(.ref d0), (.long u0), (.long am)]))
  obtain ⟨T4, X4, e4, st4⟩ := getF X3 hx hZ hown (host := "") (Or.inl (hw _ (List.mem_of_getElem? (i := 109) rfl))) Via.refl e3 F_levelNanos_d0 (g := (mkF m 12 #[.val (.ref d0), .val (.long u0), .second, .unset, .unset] [(.ref d0), (.long u0), (.long am)])) rfl rfl (hb hby d26_12)
  refine Wp.step st4 ?_
  show Wp p e below _ (T4.setTop (mkF m 15 #[.val (.ref d0), .val (.long u0), .second, .unset, .unset] [(.long ln), (.long u0), (.long am)]))
  refine Wp.step (fun t k => XS.lsub X4.here hx rfl (hb hby d26_15) rfl k) ?_
  show Wp p e below _ (T4.setTop (mkF m 16 #[.val (.ref d0), .val (.long u0), .second, .unset, .unset] [(.long (u0 - ln)), (.long am)]))
  obtain ⟨_, _, ⟨T5, L5, k5, n5⟩, -, X5, ⟨Lc5, hQ5, l5, y5, z5⟩, st5⟩ := Jvm.LawKit.callS X4 hx (y := (⟨"com/example/gentle_bucket/gentlebucket/Uint128", "product", "(JJ)Lcom/example/gentle_bucket/gentlebucket/Uint128;"⟩ : MethodName)) hown (mvT hZ (hw _ (List.mem_of_getElem? (i := 165) rfl))) (mvT hZ (hw _ (List.mem_of_getElem? (i := 53) rfl))) (mvT hZ (hw _ (List.mem_of_getElem? (i := 54) rfl))) (mvT hZ (hw _ (List.mem_of_getElem? (i := 55) rfl))) (by decide) (backOf (W := 0) (rm9 l Z a0 hw [] am (u0 - ln)  h0 n0 (Nat.le_trans Z0 K0.1)  ) hZ (hw _ (List.mem_of_getElem? (i := 55) rfl)) (hw _ (List.mem_of_getElem? (i := 54) rfl)) (by decide) (by decide)) (g := (mkF m 16 #[.val (.ref d0), .val (.long u0), .second, .unset, .unset] [(.long (u0 - ln)), (.long am)])) rfl (by rw [hml]; rfl) (argsL := [(.long am), (.long (u0 - ln))]) (rest := []) (lenOf pd_28JJ29Lcom2fexample2fgentle_bucket2fgentlebucket2fUint1283b rfl) rfl (by show 2 * 0 + _ ≤ _; exact Nat.le_of_eq rfl) (hb hby d26_16) (fun _ _ => ⟨rfl, e4, (by decide : 0 + 1 ≤ _), (by decide : 0 + 2 ≤ _)⟩)
  dsimp only [Pt.U, Pt.locs, Pt.cells, Pt.slots] at X5 l5 y5 z5 st5 hQ5
  subst l5 y5 z5
  obtain ⟨h5, e5⟩ : ∃ z, T5.heap = z := ⟨_, rfl⟩
  rw [e5] at hQ5
  obtain ⟨r5, rfl, N5q, Kc5, sz5, o5_0, o5_1, o5_2⟩ := hQ5
  have N5 := Fr.app N3 N5q
  have g_r5 : n0 ≤ r5 := Nat.le_trans (Nat.le_trans Z0 K0.1) sz5
  have sz_r5 : h0.size ≤ r5 := Nat.le_trans K0.1 sz5
  have ne_c0_r5 : c0 ≠ r5 := Nat.ne_of_lt (Nat.lt_of_lt_of_le E_c0.lt sz5)
  have ne_d0_r5 : d0 ≠ r5 := Nat.ne_of_lt (Nat.lt_of_lt_of_le E_d0.lt sz5)
  have ne_de_r5 : de ≠ r5 := Nat.ne_of_lt (Nat.lt_of_lt_of_le E_de.lt sz5)
  have ne_ra_r5 : ra ≠ r5 := Nat.ne_of_lt (Nat.lt_of_lt_of_le E_ra.lt sz5)
  have ne_zz_r5 : zz ≠ r5 := Nat.ne_of_lt (Nat.lt_of_lt_of_le E_zz.lt sz5)
  have c6 := E_d0.keep Kc5
  have c7 := F_levelNanos_d0.keep Kc5 nin0
  have c8 := F_contract_d0.keep Kc5 nin0
  have c9 := F_levelHigh_d0.keep Kc5 nin0
  have c10 := F_levelLow_d0.keep Kc5 nin0
  have c11 := E_c0.keep Kc5
  have c12 := F_rate_c0.keep Kc5 nin0
  have c13 := F_depth_c0.keep Kc5 nin0
  have c14 := F_burst_c0.keep Kc5 nin0
  have c15 := E_ra.keep Kc5
  have c16 := F_amount_ra.keep Kc5 nin0
  have c17 := F_periodNanos_ra.keep Kc5 nin0
  have c18 := E_de.keep Kc5
  have c19 := F_high_de.keep Kc5 nin0
  have c20 := F_low_de.keep Kc5 nin0
  have c21 := own_sta_keep S_ZERO_zz Kc5 all0
  have c22 := E_zz.keep Kc5
  have c23 := F_high_zz.keep Kc5 nin0
  have c24 := F_low_zz.keep Kc5 nin0
  have K5 := K0.trans Kc5 all0
  refine Wp.step st5 ?_
  show Wp p e below _ (T5.setTop (mkF m 19 #[.val (.ref d0), .val (.long u0), .second, .unset, .unset] [(.ref r5)]))
  refine Wp.step (fun t k => XS.astoreN X5.here hx rfl (hb hby d26_19) rfl rfl (l' := #[.val (.ref d0), .val (.long u0), .second, .val (.ref r5), .unset]) rfl k) ?_
  show Wp p e below _ (T5.setTop (mkF m 20 #[.val (.ref d0), .val (.long u0), .second, .val (.ref r5), .unset] []))
  refine Wp.step (fun t k => XS.aloadN X5.here hx rfl (hb hby d26_20) rfl rfl k) ?_
  show Wp p e below _ (T5.setTop (mkF m 21 #[.val (.ref d0), .val (.long u0), .second, .val (.ref r5), .unset] [(.ref d0)]))
  obtain ⟨cq25, q25, q25'⟩ := c6.cell
  obtain ⟨_, _, ⟨T25, L25, k25, n25⟩, -, X25, ⟨Lc25, hQ25, l25, y25, z25⟩, st25⟩ := X5.privateBack hx (y := (⟨"com/example/gentle_bucket/gentlebucket/Meter", "level", "()Lcom/example/gentle_bucket/gentlebucket/Uint128;"⟩ : MethodName)) hown (mvT hZ (hw _ (List.mem_of_getElem? (i := 166) rfl))) (mvT hZ (hw _ (List.mem_of_getElem? (i := 167) rfl))) (own_selP hZ (hw _ (List.mem_of_getElem? (i := 6) rfl)) (hw _ (List.mem_of_getElem? (i := 168) rfl)) (hw _ (List.mem_of_getElem? (i := 167) rfl)) (by decide)) (Cond.privateMethod_at (mvP hZ (hw _ (List.mem_of_getElem? (i := 168) rfl)) (args := #[]))) (mvT hZ (hw _ (List.mem_of_getElem? (i := 169) rfl))) (by decide) (backOf (W := 0) (rm29 l Z a0 hw [] d0 (0 : Int64) (0 : Int64) h5 n0 (Nat.le_trans Z0 K5.1) c9 c10 ) hZ (hw _ (List.mem_of_getElem? (i := 169) rfl)) (hw _ (List.mem_of_getElem? (i := 7) rfl)) (by decide) (by decide)) (g := (mkF m 21 #[.val (.ref d0), .val (.long u0), .second, .val (.ref r5), .unset] [(.ref d0)])) rfl (by rw [hml]; rfl) (Steps.refl _) (a := d0) (by rw [e5]; exact q25) q25' (argsL := []) (rest := []) (lenOf pd_2829Lcom2fexample2fgentle_bucket2fgentlebucket2fUint1283b rfl) rfl (by show 2 * 0 + _ ≤ _; exact Nat.le_of_eq rfl) (hb hby d26_21) (fun _ _ => ⟨rfl, e5, (by decide : 1 + 1 ≤ _), (by decide : 2 + 2 ≤ _)⟩)
  dsimp only [Pt.U, Pt.locs, Pt.cells, Pt.slots] at X25 l25 y25 z25 st25 hQ25
  subst l25 y25 z25
  obtain ⟨h25, e25⟩ : ∃ z, T25.heap = z := ⟨_, rfl⟩
  rw [e25] at hQ25
  obtain ⟨r25, rfl, N25q, Kc25, sz25, o25_0, o25_1, o25_2⟩ := hQ25
  have N25 := Fr.app N5 N25q
  have g_r25 : n0 ≤ r25 := Nat.le_trans (Nat.le_trans Z0 K5.1) sz25
  have sz_r25 : h0.size ≤ r25 := Nat.le_trans K5.1 sz25
  have ne_c0_r25 : c0 ≠ r25 := Nat.ne_of_lt (Nat.lt_of_lt_of_le c11.lt sz25)
  have ne_d0_r25 : d0 ≠ r25 := Nat.ne_of_lt (Nat.lt_of_lt_of_le c6.lt sz25)
  have ne_de_r25 : de ≠ r25 := Nat.ne_of_lt (Nat.lt_of_lt_of_le c18.lt sz25)
  have ne_r5_r25 : r5 ≠ r25 := Nat.ne_of_lt (Nat.lt_of_lt_of_le o5_0.lt sz25)
  have ne_ra_r25 : ra ≠ r25 := Nat.ne_of_lt (Nat.lt_of_lt_of_le c15.lt sz25)
  have ne_zz_r25 : zz ≠ r25 := Nat.ne_of_lt (Nat.lt_of_lt_of_le c22.lt sz25)
  have c26 := c6.keep Kc25
  have c27 := c7.keep Kc25 nin0
  have c28 := c8.keep Kc25 nin0
  have c29 := c9.keep Kc25 nin0
  have c30 := c10.keep Kc25 nin0
  have c31 := c11.keep Kc25
  have c32 := c12.keep Kc25 nin0
  have c33 := c13.keep Kc25 nin0
  have c34 := c14.keep Kc25 nin0
  have c35 := c15.keep Kc25
  have c36 := c16.keep Kc25 nin0
  have c37 := c17.keep Kc25 nin0
  have c38 := c18.keep Kc25
  have c39 := c19.keep Kc25 nin0
  have c40 := c20.keep Kc25 nin0
  have c41 := own_sta_keep c21 Kc25 all0
  have c42 := c22.keep Kc25
  have c43 := c23.keep Kc25 nin0
  have c44 := c24.keep Kc25 nin0
  have c45 := o5_0.keep Kc25
  have c46 := o5_1.keep Kc25 nin0
  have c47 := o5_2.keep Kc25 nin0
  have K25 := K5.trans Kc25 all0
  refine Wp.go st25 ?_
  show Wp p e below _ (T25.setTop (mkF m 24 #[.val (.ref d0), .val (.long u0), .second, .val (.ref r5), .unset] [(.ref r25)]))
  refine Wp.step (fun t k => XS.astore X25.here hx rfl (hb hby d26_24) rfl rfl (l' := #[.val (.ref d0), .val (.long u0), .second, .val (.ref r5), .val (.ref r25)]) rfl k) ?_
  show Wp p e below _ (T25.setTop (mkF m 26 #[.val (.ref d0), .val (.long u0), .second, .val (.ref r5), .val (.ref r25)] []))
  refine Wp.step (fun t k => XS.aloadN X25.here hx rfl (hb hby d26_26) rfl rfl k) ?_
  show Wp p e below _ (T25.setTop (mkF m 27 #[.val (.ref d0), .val (.long u0), .second, .val (.ref r5), .val (.ref r25)] [(.ref r5)]))
  refine Wp.step (fun t k => XS.aload X25.here hx rfl (hb hby d26_27) rfl rfl k) ?_
  show Wp p e below _ (T25.setTop (mkF m 29 #[.val (.ref d0), .val (.long u0), .second, .val (.ref r5), .val (.ref r25)] [(.ref r25), (.ref r5)]))
  obtain ⟨cq48, kq48, q48a, q48b, q48c⟩ := isOf hZ e25 c45
  obtain ⟨_, _, ⟨T48, L48, k48, n48⟩, -, X48, ⟨Lc48, hQ48, l48, y48, z48⟩, st48⟩ := X25.virtualBack hx (y := (⟨"com/example/gentle_bucket/gentlebucket/Uint128", "compareTo", "(Lcom/example/gentle_bucket/gentlebucket/Uint128;)I"⟩ : MethodName)) (z := (⟨"com/example/gentle_bucket/gentlebucket/Uint128", "compareTo", "(Lcom/example/gentle_bucket/gentlebucket/Uint128;)I"⟩ : MethodName)) hown (mvT hZ (hw _ (List.mem_of_getElem? (i := 177) rfl))) (mvT hZ (hw _ (List.mem_of_getElem? (i := 178) rfl))) (notFace_of_selects (args := #[]) (mvT hZ (hw _ (List.mem_of_getElem? (i := 180) rfl)))) (mvT hZ (hw _ (List.mem_of_getElem? (i := 180) rfl))) (mvT hZ (hw _ (List.mem_of_getElem? (i := 179) rfl))) (by decide) (backOf (W := 0) (rm31 l Z a0 hw [] r5 r25 (own_ph am (u0 - ln)) (am * (u0 - ln)) (0 : Int64) (0 : Int64) h25 n0 (Nat.le_trans Z0 K25.1) c45 c46 c47 o25_0 o25_1 o25_2 ) hZ (hw _ (List.mem_of_getElem? (i := 181) rfl)) (hw _ (List.mem_of_getElem? (i := 54) rfl)) (by decide) (by decide)) q48a q48c (g := (mkF m 29 #[.val (.ref d0), .val (.long u0), .second, .val (.ref r5), .val (.ref r25)] [(.ref r25), (.ref r5)])) rfl (by rw [hml]; rfl) (Steps.refl _) (argsL := [(.ref r25)]) (rest := []) (lenOf pd_28Lcom2fexample2fgentle_bucket2fgentlebucket2fUint1283b29I rfl) rfl (by show 2 * 0 + _ ≤ _; exact Nat.le_of_eq rfl) (hb hby d26_29) (fun _ _ => ⟨rfl, e25, (by decide : 2 + 0 ≤ _), (by decide : 4 + 0 ≤ _)⟩)
  dsimp only [Pt.U, Pt.locs, Pt.cells, Pt.slots] at X48 l48 y48 z48 st48 hQ48
  subst l48 y48 z48
  obtain ⟨rfl, N48q, e48⟩ := hQ48
  have N48 := Fr.app N25 N48q
  refine Wp.go st48 ?_
  show Wp p e below _ (T48.setTop (mkF m 32 #[.val (.ref d0), .val (.long u0), .second, .val (.ref r5), .val (.ref r25)] [(.int (own_ct (own_ph am (u0 - ln)) (am * (u0 - ln)) (0 : Int64) (0 : Int64)))]))
  refine Wp.step (fun t k => XS.ifNo X48.here hx rfl (hb hby d26_32) rfl ((if0 _ _).trans (flt (show ¬ ((own_ct (own_ph am (u0 - ln)) (am * (u0 - ln)) (0 : Int64) (0 : Int64)) < (0 : Int32)) from own_ct_zero _ _)).1) k) ?_
  show Wp p e below _ (T48.setTop (mkF m 35 #[.val (.ref d0), .val (.long u0), .second, .val (.ref r5), .val (.ref r25)] []))
  obtain ⟨T50, X50, e50, st50⟩ := getS2 X48 hx hZ hown (host := "") (Or.inl (hw _ (List.mem_of_getElem? (i := 189) rfl))) Via.refl e48 c41 (g := (mkF m 35 #[.val (.ref d0), .val (.long u0), .second, .val (.ref r5), .val (.ref r25)] [])) rfl (hb hby d26_35)
  refine Wp.step st50 ?_
  show Wp p e below _ (T50.setTop (mkF m 38 #[.val (.ref d0), .val (.long u0), .second, .val (.ref r5), .val (.ref r25)] [(.ref zz)]))
  refine Wp.step (fun t k => XS.goto X50.here hx rfl (pc0 := 38) (pc' := 47) rfl (hb hby d26_38) (by decide) (by decide) k) ?_
  show Wp p e below _ (T50.setTop (mkF m 47 #[.val (.ref d0), .val (.long u0), .second, .val (.ref r5), .val (.ref r25)] [(.ref zz)]))
  refine Wp.retA X50 hx Bd.returns rfl (hb hby d26_47) hlk ?_ (by decide) (by decide)
  show Q26 Z d0 u0 ln c0 ra de am pe b0 x0 x1 zz h0 n0 (some (.ref zz)) T50.heap _
  rw [e50]
  exact ⟨rfl, N48, K25⟩
theorem pd_28Lcom2fexample2fgentle_bucket2fgentlebucket2fUint1283b29V : parseMethodDescriptor "(Lcom/example/gentle_bucket/gentlebucket/Uint128;)V" = some ⟨[(.object "com/example/gentle_bucket/gentlebucket/Uint128")], none⟩ := by decide +kernel
theorem d25_0 : decode prog_12_method_9_code 0 = .ok (.lload_n 1, 1) := by decide +kernel
theorem d25_1 : decode prog_12_method_9_code 1 = .ok (.aload_n 0, 1) := by decide +kernel
theorem d25_2 : decode prog_12_method_9_code 2 = .ok (.getfield 21, 3) := by decide +kernel
theorem d25_5 : decode prog_12_method_9_code 5 = .ok (.lcmp, 1) := by decide +kernel
theorem d25_6 : decode prog_12_method_9_code 6 = .ok (.ifCond .le 17, 3) := by decide +kernel
theorem d25_9 : decode prog_12_method_9_code 9 = .ok (.aload_n 0, 1) := by decide +kernel
theorem d25_10 : decode prog_12_method_9_code 10 = .ok (.aload_n 0, 1) := by decide +kernel
theorem d25_11 : decode prog_12_method_9_code 11 = .ok (.lload_n 1, 1) := by decide +kernel
theorem d25_12 : decode prog_12_method_9_code 12 = .ok (.invokevirtual 112, 3) := by decide +kernel
theorem d25_15 : decode prog_12_method_9_code 15 = .ok (.invokevirtual 115, 3) := by decide +kernel
theorem d25_18 : decode prog_12_method_9_code 18 = .ok (.aload_n 0, 1) := by decide +kernel
theorem d25_19 : decode prog_12_method_9_code 19 = .ok (.lload_n 1, 1) := by decide +kernel
theorem d25_20 : decode prog_12_method_9_code 20 = .ok (.putfield 21, 3) := by decide +kernel
theorem d25_23 : decode prog_12_method_9_code 23 = .ok (.return_, 1) := by decide +kernel
theorem ef_25_00 (m : MethodId) (x0 : Addr) (x1 : Int64) : entryFrame m #[(.ref x0), (.long x1)] 3 = mkF m 0 #[.val (.ref x0), .val (.long x1), .second] [] := by first | (simp [entryFrame, mkF, argsToLocals, Value.category]; done) | rfl
def Q25 (Z : State) (d0 : Addr) (u0 : Int64) (ln : Int64) (c0 : Addr) (ra : Addr) (de : Addr) (am : Int64) (pe : Int64) (b0 : Int64) (x0 : Int64) (x1 : Int64) (zz : Addr) (h0 : Heap) (n0 : Nat) (v : Option Value) (h : Heap) (L : List Loc) : Prop := v = none ∧ Fr n0 L ∧ Keep h0 h [d0] ∧ Exa Z h d0 "com/example/gentle_bucket/gentlebucket/Meter" ∧ Fld Z h d0 "com/example/gentle_bucket/gentlebucket/Meter" "levelNanos" "J" (.long u0) ∧ Fld Z h d0 "com/example/gentle_bucket/gentlebucket/Meter" "contract" "Lcom/example/gentle_bucket/gentlebucket/Contract;" (.ref c0) ∧ Fld Z h d0 "com/example/gentle_bucket/gentlebucket/Meter" "levelHigh" "J" (.long (0 : Int64)) ∧ Fld Z h d0 "com/example/gentle_bucket/gentlebucket/Meter" "levelLow" "J" (.long (0 : Int64))
set_option maxRecDepth 65536 in
set_option maxHeartbeats 40000000 in
theorem rm25 (l : Launch) (Z : State) (a0 : Array Value) (hw : ∀ d ∈ tables_1, d.before a0 Z = true) (ws : List Jvm.Cond) (d0 : Addr) (u0 : Int64) (ln : Int64) (c0 : Addr) (ra : Addr) (de : Addr) (am : Int64) (pe : Int64) (b0 : Int64) (x0 : Int64) (x1 : Int64) (zz : Addr) (h0 : Heap) (n0 : Nat) (Z0 : n0 ≤ h0.size) (g_d0 : n0 ≤ d0) (E_d0 : Exa Z h0 d0 "com/example/gentle_bucket/gentlebucket/Meter") (F_levelNanos_d0 : Fld Z h0 d0 "com/example/gentle_bucket/gentlebucket/Meter" "levelNanos" "J" (.long ln)) (F_contract_d0 : Fld Z h0 d0 "com/example/gentle_bucket/gentlebucket/Meter" "contract" "Lcom/example/gentle_bucket/gentlebucket/Contract;" (.ref c0)) (F_levelHigh_d0 : Fld Z h0 d0 "com/example/gentle_bucket/gentlebucket/Meter" "levelHigh" "J" (.long (0 : Int64))) (F_levelLow_d0 : Fld Z h0 d0 "com/example/gentle_bucket/gentlebucket/Meter" "levelLow" "J" (.long (0 : Int64))) (E_c0 : Exa Z h0 c0 "com/example/gentle_bucket/gentlebucket/Contract") (F_rate_c0 : Fld Z h0 c0 "com/example/gentle_bucket/gentlebucket/Contract" "rate" "Lcom/example/gentle_bucket/gentlebucket/Rate;" (.ref ra)) (F_depth_c0 : Fld Z h0 c0 "com/example/gentle_bucket/gentlebucket/Contract" "depth" "Lcom/example/gentle_bucket/gentlebucket/Uint128;" (.ref de)) (F_burst_c0 : Fld Z h0 c0 "com/example/gentle_bucket/gentlebucket/Contract" "burst" "J" (.long b0)) (E_ra : Exa Z h0 ra "com/example/gentle_bucket/gentlebucket/Rate") (F_amount_ra : Fld Z h0 ra "com/example/gentle_bucket/gentlebucket/Rate" "amount" "J" (.long am)) (F_periodNanos_ra : Fld Z h0 ra "com/example/gentle_bucket/gentlebucket/Rate" "periodNanos" "J" (.long pe)) (E_de : Exa Z h0 de "com/example/gentle_bucket/gentlebucket/Uint128") (F_high_de : Fld Z h0 de "com/example/gentle_bucket/gentlebucket/Uint128" "high" "J" (.long x0)) (F_low_de : Fld Z h0 de "com/example/gentle_bucket/gentlebucket/Uint128" "low" "J" (.long x1)) (S_ZERO_zz : Sta Z h0 "com/example/gentle_bucket/gentlebucket/Uint128" "ZERO" "Lcom/example/gentle_bucket/gentlebucket/Uint128;" (.ref zz)) (E_zz : Exa Z h0 zz "com/example/gentle_bucket/gentlebucket/Uint128") (F_high_zz : Fld Z h0 zz "com/example/gentle_bucket/gentlebucket/Uint128" "high" "J" (.long (0 : Int64))) (F_low_zz : Fld Z h0 zz "com/example/gentle_bucket/gentlebucket/Uint128" "low" "J" (.long (0 : Int64))) (hln : ¬ ln < u0 → ln = u0) :
    MetFree l (⟨"com/example/gentle_bucket/gentlebucket/Meter", "drainUntil", "(J)V"⟩ : MethodName) (head1 (Jvm.Cond.code (⟨"com/example/gentle_bucket/gentlebucket/Meter", "drainUntil", "(J)V"⟩ : MethodName) prog_12_method_9_code 3 none :: ws) ({ frames := 5, cells := 2, slots := 4, locals := 73 } : Room)) (fun a U => a = #[(.ref d0), (.long u0)] ∧ Z.Warmed39 U.vm ∧ U.heap = h0) (fun _ _ _ _ _ => True) (fun _ U o U' => ∃ v L, o = .returned v ∧ Q25 Z d0 u0 ln c0 ra de am pe b0 x0 x1 zz h0 n0 v U'.heap L ∧ FrameEnd U o U' L ({ frames := 5, cells := 2, slots := 4, locals := 73 } : Room).cells ({ frames := 5, cells := 2, slots := 4, locals := 73 } : Room).slots) := by
  refine MetFree.of_bodySF (plainFor_of_name pn_com_example_gentle_bucket_gentlebucket_Meter) hisR ?_
  intro p e s m args below meth c s₁ Bd hml0 hP hK
  obtain ⟨rfl, hZ, hh⟩ := hP
  have hx := Bd.exec
  have hby := Bd.bytes
  have hlk : meth.locks = false := Bd.notSynchronized
  have hml : c.maxLocals = 3 := hml0
  have hown : s.vm.findClass "com/example/gentle_bucket/gentlebucket/Meter" = some m.cls := findClass_of_methodNamed Bd.named
  have hnm := (name_of_methodNamed Bd.named Bd.method).1
  have X0 : Stand p l e ({ frames := 5, cells := 2, slots := 4, locals := 73 } : Room) s m #[(.ref d0), (.long u0)] below meth c s₁ [] 0 0 := Stand.of_body Bd
  have e0 : s₁.heap = h0 := by rw [← hh, Bd.state]; rfl
  have N0 := Fr.nil n0
  have K0 : Keep h0 h0 [d0] := Keep.refl h0 _
  show Wp p e below (Out s (Q25 Z d0 u0 ln c0 ra de am pe b0 x0 x1 zz h0 n0) ({ frames := 5, cells := 2, slots := 4, locals := 73 } : Room).cells ({ frames := 5, cells := 2, slots := 4, locals := 73 } : Room).slots) (s₁.setTop (entryFrame m #[(.ref d0), (.long u0)] 3))
  rw [ef_25_00]
  show Wp p e below _ (s₁.setTop (mkF m 0 #[.val (.ref d0), .val (.long u0), .second] []))
  refine Wp.step (fun t k => XS.lloadN X0.here hx rfl (hb hby d25_0) rfl k) ?_
  show Wp p e below _ (s₁.setTop (mkF m 1 #[.val (.ref d0), .val (.long u0), .second] [(.long u0)]))
  refine Wp.step (fun t k => XS.aloadN X0.here hx rfl (hb hby d25_1) rfl rfl k) ?_
  show Wp p e below _ (s₁.setTop (mkF m 2 #[.val (.ref d0), .val (.long u0), .second] [(.ref d0), (.long u0)]))
  obtain ⟨T1, X1, e1, st1⟩ := getF X0 hx hZ hown (host := "") (Or.inl (hw _ (List.mem_of_getElem? (i := 109) rfl))) Via.refl e0 F_levelNanos_d0 (g := (mkF m 2 #[.val (.ref d0), .val (.long u0), .second] [(.ref d0), (.long u0)])) rfl rfl (hb hby d25_2)
  refine Wp.step st1 ?_
  show Wp p e below _ (T1.setTop (mkF m 5 #[.val (.ref d0), .val (.long u0), .second] [(.long ln), (.long u0)]))
  refine Wp.step (fun t k => XS.lcmp X1.here hx rfl (hb hby d25_5) rfl k) ?_
  show Wp p e below _ (T1.setTop (mkF m 6 #[.val (.ref d0), .val (.long u0), .second] [(.int (lcmpW u0 ln))]))
  by_cases hc2 : (0 : Int32) < (lcmpW u0 ln)
  · refine Wp.step (fun t k => XS.ifNo X1.here hx rfl (hb hby d25_6) rfl ((if0 _ _).trans (tlt hc2).2.2.2) k) ?_
    show Wp p e below _ (T1.setTop (mkF m 9 #[.val (.ref d0), .val (.long u0), .second] []))
    refine Wp.step (fun t k => XS.aloadN X1.here hx rfl (hb hby d25_9) rfl rfl k) ?_
    show Wp p e below _ (T1.setTop (mkF m 10 #[.val (.ref d0), .val (.long u0), .second] [(.ref d0)]))
    refine Wp.step (fun t k => XS.aloadN X1.here hx rfl (hb hby d25_10) rfl rfl k) ?_
    show Wp p e below _ (T1.setTop (mkF m 11 #[.val (.ref d0), .val (.long u0), .second] [(.ref d0), (.ref d0)]))
    refine Wp.step (fun t k => XS.lloadN X1.here hx rfl (hb hby d25_11) rfl k) ?_
    show Wp p e below _ (T1.setTop (mkF m 12 #[.val (.ref d0), .val (.long u0), .second] [(.long u0), (.ref d0), (.ref d0)]))
    obtain ⟨cq3, q3, q3'⟩ := E_d0.cell
    obtain ⟨_, _, ⟨T3, L3, k3, n3⟩, -, X3, ⟨Lc3, hQ3, l3, y3, z3⟩, st3⟩ := X1.privateBack hx (y := (⟨"com/example/gentle_bucket/gentlebucket/Meter", "levelAt", "(J)Lcom/example/gentle_bucket/gentlebucket/Uint128;"⟩ : MethodName)) hown (mvT hZ (hw _ (List.mem_of_getElem? (i := 151) rfl))) (mvT hZ (hw _ (List.mem_of_getElem? (i := 152) rfl))) (own_selP hZ (hw _ (List.mem_of_getElem? (i := 6) rfl)) (hw _ (List.mem_of_getElem? (i := 153) rfl)) (hw _ (List.mem_of_getElem? (i := 152) rfl)) (by decide)) (Cond.privateMethod_at (mvP hZ (hw _ (List.mem_of_getElem? (i := 153) rfl)) (args := #[]))) (mvT hZ (hw _ (List.mem_of_getElem? (i := 154) rfl))) (by decide) (backOf (W := 1) (rm26 l Z a0 hw [] d0 u0 ln c0 ra de am pe b0 x0 x1 zz h0 n0 (Nat.le_trans Z0 K0.1) E_d0 F_levelNanos_d0 F_contract_d0 F_levelHigh_d0 F_levelLow_d0 E_c0 F_rate_c0 F_depth_c0 F_burst_c0 E_ra F_amount_ra F_periodNanos_ra E_de F_high_de F_low_de S_ZERO_zz E_zz F_high_zz F_low_zz ) hZ (hw _ (List.mem_of_getElem? (i := 154) rfl)) (hw _ (List.mem_of_getElem? (i := 7) rfl)) (by decide) (by decide)) (g := (mkF m 12 #[.val (.ref d0), .val (.long u0), .second] [(.long u0), (.ref d0), (.ref d0)])) rfl (by rw [hml]; rfl) (Steps.refl _) (a := d0) (by rw [e1]; exact q3) q3' (argsL := [(.long u0)]) (rest := [(.ref d0)]) (lenOf pd_28J29Lcom2fexample2fgentle_bucket2fgentlebucket2fUint1283b rfl) rfl (by show 2 * 0 + _ ≤ _; exact Nat.le_of_eq rfl) (hb hby d25_12) (fun _ _ => ⟨rfl, e1, (by decide : 0 + 2 ≤ _), (by decide : 0 + 4 ≤ _)⟩)
    dsimp only [Pt.U, Pt.locs, Pt.cells, Pt.slots] at X3 l3 y3 z3 st3 hQ3
    subst l3 y3 z3
    obtain ⟨h3, e3⟩ : ∃ z, T3.heap = z := ⟨_, rfl⟩
    rw [e3] at hQ3
    obtain ⟨rfl, N3q, Kc3⟩ := hQ3
    have N3 := Fr.app N0 N3q
    have c4 := E_d0.keep Kc3
    have c5 := F_levelNanos_d0.keep Kc3 nin0
    have c6 := F_contract_d0.keep Kc3 nin0
    have c7 := F_levelHigh_d0.keep Kc3 nin0
    have c8 := F_levelLow_d0.keep Kc3 nin0
    have c9 := E_c0.keep Kc3
    have c10 := F_rate_c0.keep Kc3 nin0
    have c11 := F_depth_c0.keep Kc3 nin0
    have c12 := F_burst_c0.keep Kc3 nin0
    have c13 := E_ra.keep Kc3
    have c14 := F_amount_ra.keep Kc3 nin0
    have c15 := F_periodNanos_ra.keep Kc3 nin0
    have c16 := E_de.keep Kc3
    have c17 := F_high_de.keep Kc3 nin0
    have c18 := F_low_de.keep Kc3 nin0
    have c19 := own_sta_keep S_ZERO_zz Kc3 all0
    have c20 := E_zz.keep Kc3
    have c21 := F_high_zz.keep Kc3 nin0
    have c22 := F_low_zz.keep Kc3 nin0
    have K3 := K0.trans Kc3 all0
    refine Wp.go st3 ?_
    show Wp p e below _ (T3.setTop (mkF m 15 #[.val (.ref d0), .val (.long u0), .second] [(.ref zz), (.ref d0)]))
    obtain ⟨cq23, q23, q23'⟩ := c4.cell
    obtain ⟨_, _, ⟨T23, L23, k23, n23⟩, -, X23, ⟨Lc23, hQ23, l23, y23, z23⟩, st23⟩ := X3.privateBack hx (y := (⟨"com/example/gentle_bucket/gentlebucket/Meter", "setLevel", "(Lcom/example/gentle_bucket/gentlebucket/Uint128;)V"⟩ : MethodName)) hown (mvT hZ (hw _ (List.mem_of_getElem? (i := 191) rfl))) (mvT hZ (hw _ (List.mem_of_getElem? (i := 192) rfl))) (own_selP hZ (hw _ (List.mem_of_getElem? (i := 6) rfl)) (hw _ (List.mem_of_getElem? (i := 193) rfl)) (hw _ (List.mem_of_getElem? (i := 192) rfl)) (by decide)) (Cond.privateMethod_at (mvP hZ (hw _ (List.mem_of_getElem? (i := 193) rfl)) (args := #[]))) (mvT hZ (hw _ (List.mem_of_getElem? (i := 194) rfl))) (by decide) (backOf (W := 0) (rm34 l Z a0 hw [] d0 zz ln c0 (0 : Int64) (0 : Int64) (0 : Int64) (0 : Int64) h3 n0 (Nat.le_trans Z0 K3.1) g_d0 c4 c5 c6 c7 c8 c20 c21 c22 ) hZ (hw _ (List.mem_of_getElem? (i := 194) rfl)) (hw _ (List.mem_of_getElem? (i := 7) rfl)) (by decide) (by decide)) (g := (mkF m 15 #[.val (.ref d0), .val (.long u0), .second] [(.ref zz), (.ref d0)])) rfl (by rw [hml]; rfl) (Steps.refl _) (a := d0) (by rw [e3]; exact q23) q23' (argsL := [(.ref zz)]) (rest := []) (lenOf pd_28Lcom2fexample2fgentle_bucket2fgentlebucket2fUint1283b29V rfl) rfl (by show 2 * 0 + _ ≤ _; exact Nat.le_of_eq rfl) (hb hby d25_15) (fun _ _ => ⟨rfl, e3, (by decide : 2 + 0 ≤ _), (by decide : 4 + 0 ≤ _)⟩)
    dsimp only [Pt.U, Pt.locs, Pt.cells, Pt.slots] at X23 l23 y23 z23 st23 hQ23
    subst l23 y23 z23
    obtain ⟨h23, e23⟩ : ∃ z, T23.heap = z := ⟨_, rfl⟩
    rw [e23] at hQ23
    obtain ⟨rfl, N23q, Kc23, o23_0, o23_1, o23_2, o23_3, o23_4⟩ := hQ23
    have N23 := Fr.app N3 N23q
    have c24 := c4.keep Kc23
    have c25 := c9.keep Kc23
    have c26 := c10.keep Kc23 (ninS (own_ne_cls c25 c24 (by decide)) nin0)
    have c27 := c11.keep Kc23 (ninS (own_ne_cls c25 c24 (by decide)) nin0)
    have c28 := c12.keep Kc23 (ninS (own_ne_cls c25 c24 (by decide)) nin0)
    have c29 := c13.keep Kc23
    have c30 := c14.keep Kc23 (ninS (own_ne_cls c29 c24 (by decide)) nin0)
    have c31 := c15.keep Kc23 (ninS (own_ne_cls c29 c24 (by decide)) nin0)
    have c32 := c16.keep Kc23
    have c33 := c17.keep Kc23 (ninS (own_ne_cls c32 c24 (by decide)) nin0)
    have c34 := c18.keep Kc23 (ninS (own_ne_cls c32 c24 (by decide)) nin0)
    have c35 := own_sta_keep c19 Kc23 (allS (own_ns c4) all0)
    have c36 := c20.keep Kc23
    have c37 := c21.keep Kc23 (ninS (own_ne_cls c36 c24 (by decide)) nin0)
    have c38 := c22.keep Kc23 (ninS (own_ne_cls c36 c24 (by decide)) nin0)
    have K23 := K3.trans Kc23 (allS (Or.inl (List.mem_of_getElem? (i := 0) rfl)) all0)
    refine Wp.go st23 ?_
    show Wp p e below _ (T23.setTop (mkF m 18 #[.val (.ref d0), .val (.long u0), .second] []))
    refine Wp.step (fun t k => XS.aloadN X23.here hx rfl (hb hby d25_18) rfl rfl k) ?_
    show Wp p e below _ (T23.setTop (mkF m 19 #[.val (.ref d0), .val (.long u0), .second] [(.ref d0)]))
    refine Wp.step (fun t k => XS.lloadN X23.here hx rfl (hb hby d25_19) rfl k) ?_
    show Wp p e below _ (T23.setTop (mkF m 20 #[.val (.ref d0), .val (.long u0), .second] [(.long u0), (.ref d0)]))
    obtain ⟨T39, h39, X39, e39, W39, st39⟩ := putF X23 hx hZ hown (host := "") (Or.inl (hw _ (List.mem_of_getElem? (i := 109) rfl))) Via.refl e23 o23_1 o23_0 (Or.inl (hw _ (List.mem_of_getElem? (i := 110) rfl))) (hw _ (List.mem_of_getElem? (i := 6) rfl)) (ty := .long) (by decide) rfl rfl (g := (mkF m 20 #[.val (.ref d0), .val (.long u0), .second] [(.long u0), (.ref d0)])) rfl rfl (hb hby d25_20)
    have c40 := o23_0.wr W39
    have c41 := c25.wr W39
    have c42 := c26.other W39 (Or.inl (own_ne_cls c41 c40 (by decide)))
    have c43 := c27.other W39 (Or.inl (own_ne_cls c41 c40 (by decide)))
    have c44 := c28.other W39 (Or.inl (own_ne_cls c41 c40 (by decide)))
    have c45 := c29.wr W39
    have c46 := c30.other W39 (Or.inl (own_ne_cls c45 c40 (by decide)))
    have c47 := c31.other W39 (Or.inl (own_ne_cls c45 c40 (by decide)))
    have c48 := c32.wr W39
    have c49 := c33.other W39 (Or.inl (own_ne_cls c48 c40 (by decide)))
    have c50 := c34.other W39 (Or.inl (own_ne_cls c48 c40 (by decide)))
    have c51 := c35.wr W39
    have c52 := c36.wr W39
    have c53 := c37.other W39 (Or.inl (own_ne_cls c52 c40 (by decide)))
    have c54 := c38.other W39 (Or.inl (own_ne_cls c52 c40 (by decide)))
    have c55 := o23_2.other W39 (Or.inr (slot_ne (Or.inr (hw _ (List.mem_of_getElem? (i := 116) rfl))) (Or.inl (hw _ (List.mem_of_getElem? (i := 110) rfl))) (by decide) (t := (.object "com/example/gentle_bucket/gentlebucket/Contract")) (t' := .long) (by decide) (by decide)))
    have c56 := o23_3.other W39 (Or.inr (slot_ne (Or.inl (hw _ (List.mem_of_getElem? (i := 171) rfl))) (Or.inl (hw _ (List.mem_of_getElem? (i := 110) rfl))) (by decide) (t := .long) (t' := .long) (by decide) (by decide)))
    have c57 := o23_4.other W39 (Or.inr (slot_ne (Or.inl (hw _ (List.mem_of_getElem? (i := 173) rfl))) (Or.inl (hw _ (List.mem_of_getElem? (i := 110) rfl))) (by decide) (t := .long) (t' := .long) (by decide) (by decide)))
    have c58 := o23_1.same W39
    have K59 := K23.wr W39 (Or.inl (List.mem_of_getElem? (i := 0) rfl))
    have N39 := Fr.snoc X39 N23 g_d0
    refine Wp.step st39 ?_
    show Wp p e below _ (T39.setTop (mkF m 23 #[.val (.ref d0), .val (.long u0), .second] []))
    refine Wp.retV X39 hx Bd.returns (hb hby d25_23) hlk ?_ (by decide) (by decide)
    show Q25 Z d0 u0 ln c0 ra de am pe b0 x0 x1 zz h0 n0 none T39.heap _
    rw [e39]
    exact ⟨rfl, N39, K59, c40, c58, c55, c56, c57⟩
  · refine Wp.step (fun t k => XS.ifYes X1.here hx rfl (pc0 := 6) (pc' := 23) rfl (hb hby d25_6) rfl ((if0 _ _).trans (flt hc2).2.2.2) (by decide) (by decide) k) ?_
    show Wp p e below _ (T1.setTop (mkF m 23 #[.val (.ref d0), .val (.long u0), .second] []))
    refine Wp.retV X1 hx Bd.returns (hb hby d25_23) hlk ?_ (by decide) (by decide)
    show Q25 Z d0 u0 ln c0 ra de am pe b0 x0 x1 zz h0 n0 none T1.heap _
    rw [e1]
    exact ⟨rfl, N0, K0, E_d0, (by have q := F_levelNanos_d0; rw [hln (fun z => hc2 ((lw_gt _ _).mpr z))] at q; exact q), F_contract_d0, F_levelHigh_d0, F_levelLow_d0⟩
theorem pd_28J29V : parseMethodDescriptor "(J)V" = some ⟨[.long], none⟩ := by decide +kernel
theorem pd_28J29Z : parseMethodDescriptor "(J)Z" = some ⟨[.long], some .boolean⟩ := by decide +kernel
theorem pd_28Lcom2fexample2fgentle_bucket2fgentlebucket2fUint1283b29Lcom2fexample2fgentle_bucket2fgentlebucket2fUint1283b : parseMethodDescriptor "(Lcom/example/gentle_bucket/gentlebucket/Uint128;)Lcom/example/gentle_bucket/gentlebucket/Uint128;" = some ⟨[(.object "com/example/gentle_bucket/gentlebucket/Uint128")], some (.object "com/example/gentle_bucket/gentlebucket/Uint128")⟩ := by decide +kernel
theorem d23_0 : decode prog_12_method_4_code 0 = .ok (.lload_n 3, 1) := by decide +kernel
theorem d23_1 : decode prog_12_method_4_code 1 = .ok (.invokestatic 46, 3) := by decide +kernel
theorem d23_4 : decode prog_12_method_4_code 4 = .ok (.aload_n 0, 1) := by decide +kernel
theorem d23_5 : decode prog_12_method_4_code 5 = .ok (.lload_n 1, 1) := by decide +kernel
theorem d23_6 : decode prog_12_method_4_code 6 = .ok (.invokevirtual 52, 3) := by decide +kernel
theorem d23_9 : decode prog_12_method_4_code 9 = .ok (.aload_n 0, 1) := by decide +kernel
theorem d23_10 : decode prog_12_method_4_code 10 = .ok (.lload_n 3, 1) := by decide +kernel
theorem d23_11 : decode prog_12_method_4_code 11 = .ok (.invokevirtual 55, 3) := by decide +kernel
theorem d23_14 : decode prog_12_method_4_code 14 = .ok (.ifCond .eq 11, 3) := by decide +kernel
theorem d23_25 : decode prog_12_method_4_code 25 = .ok (.aload_n 0, 1) := by decide +kernel
theorem d23_26 : decode prog_12_method_4_code 26 = .ok (.invokevirtual 61, 3) := by decide +kernel
theorem d23_29 : decode prog_12_method_4_code 29 = .ok (.lload_n 3, 1) := by decide +kernel
theorem d23_30 : decode prog_12_method_4_code 30 = .ok (.aload_n 0, 1) := by decide +kernel
theorem d23_31 : decode prog_12_method_4_code 31 = .ok (.getfield 33, 3) := by decide +kernel
theorem d23_34 : decode prog_12_method_4_code 34 = .ok (.invokevirtual 65, 3) := by decide +kernel
theorem d23_37 : decode prog_12_method_4_code 37 = .ok (.invokevirtual 69, 3) := by decide +kernel
theorem d23_40 : decode prog_12_method_4_code 40 = .ok (.invokestatic 75, 3) := by decide +kernel
theorem d23_43 : decode prog_12_method_4_code 43 = .ok (.invokevirtual 81, 3) := by decide +kernel
theorem d23_46 : decode prog_12_method_4_code 46 = .ok (.astore 7, 2) := by decide +kernel
theorem d23_48 : decode prog_12_method_4_code 48 = .ok (.aload 7, 2) := by decide +kernel
theorem d23_50 : decode prog_12_method_4_code 50 = .ok (.aload_n 0, 1) := by decide +kernel
theorem d23_51 : decode prog_12_method_4_code 51 = .ok (.getfield 33, 3) := by decide +kernel
theorem d23_54 : decode prog_12_method_4_code 54 = .ok (.invokevirtual 85, 3) := by decide +kernel
theorem d23_57 : decode prog_12_method_4_code 57 = .ok (.invokevirtual 88, 3) := by decide +kernel
theorem d23_60 : decode prog_12_method_4_code 60 = .ok (.ifCond .gt 9, 3) := by decide +kernel
theorem d23_63 : decode prog_12_method_4_code 63 = .ok (.getstatic 92, 3) := by decide +kernel
theorem d23_66 : decode prog_12_method_4_code 66 = .ok (.goto 28, 3) := by decide +kernel
theorem d23_94 : decode prog_12_method_4_code 94 = .ok (.astore 8, 2) := by decide +kernel
theorem d23_96 : decode prog_12_method_4_code 96 = .ok (.aload 8, 2) := by decide +kernel
theorem d23_98 : decode prog_12_method_4_code 98 = .ok (.lconst 1, 1) := by decide +kernel
theorem d23_99 : decode prog_12_method_4_code 99 = .ok (.aload_n 0, 1) := by decide +kernel
theorem d23_100 : decode prog_12_method_4_code 100 = .ok (.getfield 21, 3) := by decide +kernel
theorem d23_103 : decode prog_12_method_4_code 103 = .ok (.lload_n 1, 1) := by decide +kernel
theorem d23_104 : decode prog_12_method_4_code 104 = .ok (.lsub, 1) := by decide +kernel
theorem d23_105 : decode prog_12_method_4_code 105 = .ok (.invokestatic 75, 3) := by decide +kernel
theorem d23_108 : decode prog_12_method_4_code 108 = .ok (.invokevirtual 81, 3) := by decide +kernel
theorem d23_111 : decode prog_12_method_4_code 111 = .ok (.invokevirtual 106, 3) := by decide +kernel
theorem d23_114 : decode prog_12_method_4_code 114 = .ok (.lstore 5, 2) := by decide +kernel
theorem d23_116 : decode prog_12_method_4_code 116 = .ok (.lload 5, 2) := by decide +kernel
theorem d23_118 : decode prog_12_method_4_code 118 = .ok (.lreturn, 1) := by decide +kernel
theorem ef_23_000 (m : MethodId) (x0 : Addr) (x1 : Int64) (x2 : Int64) : entryFrame m #[(.ref x0), (.long x1), (.long x2)] 9 = mkF m 0 #[.val (.ref x0), .val (.long x1), .second, .val (.long x2), .second, .unset, .unset, .unset, .unset] [] := by first | (simp [entryFrame, mkF, argsToLocals, Value.category]; done) | rfl
def Q23_f (Z : State) (d0 : Addr) (u0 : Int64) (u1 : Int64) (ln : Int64) (c0 : Addr) (ra : Addr) (de : Addr) (am : Int64) (pe : Int64) (b0 : Int64) (x0 : Int64) (x1 : Int64) (zz : Addr) (h0 : Heap) (n0 : Nat) (v : Option Value) (h : Heap) (L : List Loc) : Prop := v = some (.long (0 : Int64)) ∧ Fr n0 L ∧ Keep h0 h [d0] ∧ Exa Z h d0 "com/example/gentle_bucket/gentlebucket/Meter" ∧ Fld Z h d0 "com/example/gentle_bucket/gentlebucket/Meter" "levelNanos" "J" (.long u0) ∧ Fld Z h d0 "com/example/gentle_bucket/gentlebucket/Meter" "contract" "Lcom/example/gentle_bucket/gentlebucket/Contract;" (.ref c0) ∧ Fld Z h d0 "com/example/gentle_bucket/gentlebucket/Meter" "levelHigh" "J" (.long (0 : Int64)) ∧ Fld Z h d0 "com/example/gentle_bucket/gentlebucket/Meter" "levelLow" "J" (.long (0 : Int64))
set_option maxRecDepth 65536 in
set_option maxHeartbeats 40000000 in
theorem rm23_f (l : Launch) (Z : State) (a0 : Array Value) (hw : ∀ d ∈ tables_1, d.before a0 Z = true) (ws : List Jvm.Cond) (d0 : Addr) (u0 : Int64) (u1 : Int64) (ln : Int64) (c0 : Addr) (ra : Addr) (de : Addr) (am : Int64) (pe : Int64) (b0 : Int64) (x0 : Int64) (x1 : Int64) (zz : Addr) (h0 : Heap) (n0 : Nat) (Z0 : n0 ≤ h0.size) (g_d0 : n0 ≤ d0) (E_d0 : Exa Z h0 d0 "com/example/gentle_bucket/gentlebucket/Meter") (F_levelNanos_d0 : Fld Z h0 d0 "com/example/gentle_bucket/gentlebucket/Meter" "levelNanos" "J" (.long ln)) (F_contract_d0 : Fld Z h0 d0 "com/example/gentle_bucket/gentlebucket/Meter" "contract" "Lcom/example/gentle_bucket/gentlebucket/Contract;" (.ref c0)) (F_levelHigh_d0 : Fld Z h0 d0 "com/example/gentle_bucket/gentlebucket/Meter" "levelHigh" "J" (.long (0 : Int64))) (F_levelLow_d0 : Fld Z h0 d0 "com/example/gentle_bucket/gentlebucket/Meter" "levelLow" "J" (.long (0 : Int64))) (E_c0 : Exa Z h0 c0 "com/example/gentle_bucket/gentlebucket/Contract") (F_rate_c0 : Fld Z h0 c0 "com/example/gentle_bucket/gentlebucket/Contract" "rate" "Lcom/example/gentle_bucket/gentlebucket/Rate;" (.ref ra)) (F_depth_c0 : Fld Z h0 c0 "com/example/gentle_bucket/gentlebucket/Contract" "depth" "Lcom/example/gentle_bucket/gentlebucket/Uint128;" (.ref de)) (F_burst_c0 : Fld Z h0 c0 "com/example/gentle_bucket/gentlebucket/Contract" "burst" "J" (.long b0)) (E_ra : Exa Z h0 ra "com/example/gentle_bucket/gentlebucket/Rate") (F_amount_ra : Fld Z h0 ra "com/example/gentle_bucket/gentlebucket/Rate" "amount" "J" (.long am)) (F_periodNanos_ra : Fld Z h0 ra "com/example/gentle_bucket/gentlebucket/Rate" "periodNanos" "J" (.long pe)) (E_de : Exa Z h0 de "com/example/gentle_bucket/gentlebucket/Uint128") (F_high_de : Fld Z h0 de "com/example/gentle_bucket/gentlebucket/Uint128" "high" "J" (.long x0)) (F_low_de : Fld Z h0 de "com/example/gentle_bucket/gentlebucket/Uint128" "low" "J" (.long x1)) (S_ZERO_zz : Sta Z h0 "com/example/gentle_bucket/gentlebucket/Uint128" "ZERO" "Lcom/example/gentle_bucket/gentlebucket/Uint128;" (.ref zz)) (E_zz : Exa Z h0 zz "com/example/gentle_bucket/gentlebucket/Uint128") (F_high_zz : Fld Z h0 zz "com/example/gentle_bucket/gentlebucket/Uint128" "high" "J" (.long (0 : Int64))) (F_low_zz : Fld Z h0 zz "com/example/gentle_bucket/gentlebucket/Uint128" "low" "J" (.long (0 : Int64))) (hc : ¬ u1 < 1) (hf : ¬ b0 < u1) (hp : ¬ pe < 1) (hbb : ¬ b0 < 1) (hU : own_U x0 x1 = own_u b0 * own_u pe) (hln : ¬ ln < u0 → ln = u0) :
    MetFree l (⟨"com/example/gentle_bucket/gentlebucket/Meter", "waitNanos", "(JJ)J"⟩ : MethodName) (head1 (Jvm.Cond.code (⟨"com/example/gentle_bucket/gentlebucket/Meter", "waitNanos", "(JJ)J"⟩ : MethodName) prog_12_method_4_code 9 (some .long) :: ws) ({ frames := 6, cells := 7, slots := 14, locals := 87 } : Room)) (fun a U => a = #[(.ref d0), (.long u0), (.long u1)] ∧ Z.Warmed39 U.vm ∧ U.heap = h0) (fun _ _ _ _ _ => True) (fun _ U o U' => ∃ v L, o = .returned v ∧ Q23_f Z d0 u0 u1 ln c0 ra de am pe b0 x0 x1 zz h0 n0 v U'.heap L ∧ FrameEnd U o U' L ({ frames := 6, cells := 7, slots := 14, locals := 87 } : Room).cells ({ frames := 6, cells := 7, slots := 14, locals := 87 } : Room).slots) := by
  refine MetFree.of_bodySF (plainFor_of_name pn_com_example_gentle_bucket_gentlebucket_Meter) hisR ?_
  intro p e s m args below meth c s₁ Bd hml0 hP hK
  obtain ⟨rfl, hZ, hh⟩ := hP
  have hx := Bd.exec
  have hby := Bd.bytes
  have hlk : meth.locks = false := Bd.notSynchronized
  have hml : c.maxLocals = 9 := hml0
  have hown : s.vm.findClass "com/example/gentle_bucket/gentlebucket/Meter" = some m.cls := findClass_of_methodNamed Bd.named
  have hnm := (name_of_methodNamed Bd.named Bd.method).1
  have X0 : Stand p l e ({ frames := 6, cells := 7, slots := 14, locals := 87 } : Room) s m #[(.ref d0), (.long u0), (.long u1)] below meth c s₁ [] 0 0 := Stand.of_body Bd
  have e0 : s₁.heap = h0 := by rw [← hh, Bd.state]; rfl
  have N0 := Fr.nil n0
  have K0 : Keep h0 h0 [d0] := Keep.refl h0 _
  show Wp p e below (Out s (Q23_f Z d0 u0 u1 ln c0 ra de am pe b0 x0 x1 zz h0 n0) ({ frames := 6, cells := 7, slots := 14, locals := 87 } : Room).cells ({ frames := 6, cells := 7, slots := 14, locals := 87 } : Room).slots) (s₁.setTop (entryFrame m #[(.ref d0), (.long u0), (.long u1)] 9))
  rw [ef_23_000]
  show Wp p e below _ (s₁.setTop (mkF m 0 #[.val (.ref d0), .val (.long u0), .second, .val (.long u1), .second, .unset, .unset, .unset, .unset] []))
  refine Wp.step (fun t k => XS.lloadN X0.here hx rfl (hb hby d23_0) rfl k) ?_
  show Wp p e below _ (s₁.setTop (mkF m 1 #[.val (.ref d0), .val (.long u0), .second, .val (.long u1), .second, .unset, .unset, .unset, .unset] [(.long u1)]))
  obtain ⟨_, _, ⟨T1, L1, k1, n1⟩, -, X1, ⟨Lc1, hQ1, l1, y1, z1⟩, st1⟩ := Jvm.LawKit.callS X0 hx (y := (⟨"com/example/gentle_bucket/gentlebucket/Asks", "checkCost", "(J)V"⟩ : MethodName)) hown (mvT hZ (hw _ (List.mem_of_getElem? (i := 143) rfl))) (mvT hZ (hw _ (List.mem_of_getElem? (i := 144) rfl))) (mvT hZ (hw _ (List.mem_of_getElem? (i := 145) rfl))) (mvT hZ (hw _ (List.mem_of_getElem? (i := 146) rfl))) (by decide) (backOf (W := 0) (rm24 l Z a0 hw [] u1  h0 n0 (Nat.le_trans Z0 K0.1)  hc) hZ (hw _ (List.mem_of_getElem? (i := 146) rfl)) (hw _ (List.mem_of_getElem? (i := 145) rfl)) (by decide) (by decide)) (g := (mkF m 1 #[.val (.ref d0), .val (.long u0), .second, .val (.long u1), .second, .unset, .unset, .unset, .unset] [(.long u1)])) rfl (by rw [hml]; rfl) (argsL := [(.long u1)]) (rest := []) (lenOf pd_28J29V rfl) rfl (by show 2 * 0 + _ ≤ _; exact Nat.le_of_eq rfl) (hb hby d23_1) (fun _ _ => ⟨rfl, e0, (by decide : 0 + 0 ≤ _), (by decide : 0 + 0 ≤ _)⟩)
  dsimp only [Pt.U, Pt.locs, Pt.cells, Pt.slots] at X1 l1 y1 z1 st1 hQ1
  subst l1 y1 z1
  obtain ⟨rfl, N1q, e1⟩ := hQ1
  have N1 := Fr.app N0 N1q
  refine Wp.step st1 ?_
  show Wp p e below _ (T1.setTop (mkF m 4 #[.val (.ref d0), .val (.long u0), .second, .val (.long u1), .second, .unset, .unset, .unset, .unset] []))
  refine Wp.step (fun t k => XS.aloadN X1.here hx rfl (hb hby d23_4) rfl rfl k) ?_
  show Wp p e below _ (T1.setTop (mkF m 5 #[.val (.ref d0), .val (.long u0), .second, .val (.long u1), .second, .unset, .unset, .unset, .unset] [(.ref d0)]))
  refine Wp.step (fun t k => XS.lloadN X1.here hx rfl (hb hby d23_5) rfl k) ?_
  show Wp p e below _ (T1.setTop (mkF m 6 #[.val (.ref d0), .val (.long u0), .second, .val (.long u1), .second, .unset, .unset, .unset, .unset] [(.long u0), (.ref d0)]))
  obtain ⟨cq2, q2, q2'⟩ := E_d0.cell
  obtain ⟨_, _, ⟨T2, L2, k2, n2⟩, -, X2, ⟨Lc2, hQ2, l2, y2, z2⟩, st2⟩ := X1.privateBack hx (y := (⟨"com/example/gentle_bucket/gentlebucket/Meter", "drainUntil", "(J)V"⟩ : MethodName)) hown (mvT hZ (hw _ (List.mem_of_getElem? (i := 147) rfl))) (mvT hZ (hw _ (List.mem_of_getElem? (i := 148) rfl))) (own_selP hZ (hw _ (List.mem_of_getElem? (i := 6) rfl)) (hw _ (List.mem_of_getElem? (i := 149) rfl)) (hw _ (List.mem_of_getElem? (i := 148) rfl)) (by decide)) (Cond.privateMethod_at (mvP hZ (hw _ (List.mem_of_getElem? (i := 149) rfl)) (args := #[]))) (mvT hZ (hw _ (List.mem_of_getElem? (i := 150) rfl))) (by decide) (backOf (W := 0) (rm25 l Z a0 hw [] d0 u0 ln c0 ra de am pe b0 x0 x1 zz h0 n0 (Nat.le_trans Z0 K0.1) g_d0 E_d0 F_levelNanos_d0 F_contract_d0 F_levelHigh_d0 F_levelLow_d0 E_c0 F_rate_c0 F_depth_c0 F_burst_c0 E_ra F_amount_ra F_periodNanos_ra E_de F_high_de F_low_de S_ZERO_zz E_zz F_high_zz F_low_zz hln) hZ (hw _ (List.mem_of_getElem? (i := 150) rfl)) (hw _ (List.mem_of_getElem? (i := 7) rfl)) (by decide) (by decide)) (g := (mkF m 6 #[.val (.ref d0), .val (.long u0), .second, .val (.long u1), .second, .unset, .unset, .unset, .unset] [(.long u0), (.ref d0)])) rfl (by rw [hml]; rfl) (Steps.refl _) (a := d0) (by rw [e1]; exact q2) q2' (argsL := [(.long u0)]) (rest := []) (lenOf pd_28J29V rfl) rfl (by show 2 * 0 + _ ≤ _; exact Nat.le_of_eq rfl) (hb hby d23_6) (fun _ _ => ⟨rfl, e1, (by decide : 0 + 2 ≤ _), (by decide : 0 + 4 ≤ _)⟩)
  dsimp only [Pt.U, Pt.locs, Pt.cells, Pt.slots] at X2 l2 y2 z2 st2 hQ2
  subst l2 y2 z2
  obtain ⟨h2, e2⟩ : ∃ z, T2.heap = z := ⟨_, rfl⟩
  rw [e2] at hQ2
  obtain ⟨rfl, N2q, Kc2, o2_0, o2_1, o2_2, o2_3, o2_4⟩ := hQ2
  have N2 := Fr.app N1 N2q
  have c3 := E_d0.keep Kc2
  have c4 := E_c0.keep Kc2
  have c5 := F_rate_c0.keep Kc2 (ninS (own_ne_cls c4 c3 (by decide)) nin0)
  have c6 := F_depth_c0.keep Kc2 (ninS (own_ne_cls c4 c3 (by decide)) nin0)
  have c7 := F_burst_c0.keep Kc2 (ninS (own_ne_cls c4 c3 (by decide)) nin0)
  have c8 := E_ra.keep Kc2
  have c9 := F_amount_ra.keep Kc2 (ninS (own_ne_cls c8 c3 (by decide)) nin0)
  have c10 := F_periodNanos_ra.keep Kc2 (ninS (own_ne_cls c8 c3 (by decide)) nin0)
  have c11 := E_de.keep Kc2
  have c12 := F_high_de.keep Kc2 (ninS (own_ne_cls c11 c3 (by decide)) nin0)
  have c13 := F_low_de.keep Kc2 (ninS (own_ne_cls c11 c3 (by decide)) nin0)
  have c14 := own_sta_keep S_ZERO_zz Kc2 (allS (own_ns E_d0) all0)
  have c15 := E_zz.keep Kc2
  have c16 := F_high_zz.keep Kc2 (ninS (own_ne_cls c15 c3 (by decide)) nin0)
  have c17 := F_low_zz.keep Kc2 (ninS (own_ne_cls c15 c3 (by decide)) nin0)
  have K2 := K0.trans Kc2 (allS (Or.inl (List.mem_of_getElem? (i := 0) rfl)) all0)
  refine Wp.go st2 ?_
  show Wp p e below _ (T2.setTop (mkF m 9 #[.val (.ref d0), .val (.long u0), .second, .val (.long u1), .second, .unset, .unset, .unset, .unset] []))
  refine Wp.step (fun t k => XS.aloadN X2.here hx rfl (hb hby d23_9) rfl rfl k) ?_
  show Wp p e below _ (T2.setTop (mkF m 10 #[.val (.ref d0), .val (.long u0), .second, .val (.long u1), .second, .unset, .unset, .unset, .unset] [(.ref d0)]))
  refine Wp.step (fun t k => XS.lloadN X2.here hx rfl (hb hby d23_10) rfl k) ?_
  show Wp p e below _ (T2.setTop (mkF m 11 #[.val (.ref d0), .val (.long u0), .second, .val (.long u1), .second, .unset, .unset, .unset, .unset] [(.long u1), (.ref d0)]))
  obtain ⟨cq18, kq18, q18a, q18b, q18c⟩ := isOf hZ e2 o2_0
  obtain ⟨_, _, ⟨T18, L18, k18, n18⟩, -, X18, ⟨Lc18, hQ18, l18, y18, z18⟩, st18⟩ := X2.virtualBack hx (y := (⟨"com/example/gentle_bucket/gentlebucket/Meter", "neverFits", "(J)Z"⟩ : MethodName)) (z := (⟨"com/example/gentle_bucket/gentlebucket/Meter", "neverFits", "(J)Z"⟩ : MethodName)) hown (mvT hZ (hw _ (List.mem_of_getElem? (i := 205) rfl))) (mvT hZ (hw _ (List.mem_of_getElem? (i := 118) rfl))) (notFace_of_selects (args := #[]) (mvT hZ (hw _ (List.mem_of_getElem? (i := 120) rfl)))) (mvT hZ (hw _ (List.mem_of_getElem? (i := 120) rfl))) (mvT hZ (hw _ (List.mem_of_getElem? (i := 119) rfl))) (by decide) (backOf (W := 0) (rm19 l Z a0 hw [] d0 u1 c0 b0 h2 n0 (Nat.le_trans Z0 K2.1) o2_2 c4 c7 ) hZ (hw _ (List.mem_of_getElem? (i := 121) rfl)) (hw _ (List.mem_of_getElem? (i := 7) rfl)) (by decide) (by decide)) q18a q18c (g := (mkF m 11 #[.val (.ref d0), .val (.long u0), .second, .val (.long u1), .second, .unset, .unset, .unset, .unset] [(.long u1), (.ref d0)])) rfl (by rw [hml]; rfl) (Steps.refl _) (argsL := [(.long u1)]) (rest := []) (lenOf pd_28J29Z rfl) rfl (by show 2 * 0 + _ ≤ _; exact Nat.le_of_eq rfl) (hb hby d23_11) (fun _ _ => ⟨rfl, e2, (by decide : 2 + 0 ≤ _), (by decide : 4 + 0 ≤ _)⟩)
  dsimp only [Pt.U, Pt.locs, Pt.cells, Pt.slots] at X18 l18 y18 z18 st18 hQ18
  subst l18 y18 z18
  obtain ⟨rfl, N18q, e18⟩ := hQ18
  have N18 := Fr.app N2 N18q
  refine Wp.go st18 ?_
  show Wp p e below _ (T18.setTop (mkF m 14 #[.val (.ref d0), .val (.long u0), .second, .val (.long u1), .second, .unset, .unset, .unset, .unset] [(.int (own_nf u1 b0))]))
  refine Wp.step (fun t k => XS.ifYes X18.here hx rfl (pc0 := 14) (pc' := 25) rfl (hb hby d23_14) rfl ((if0 _ _).trans (teq (show (own_nf u1 b0) = (0 : Int32) from (by rw [own_nf, if_neg hf]))).1) (by decide) (by decide) k) ?_
  show Wp p e below _ (T18.setTop (mkF m 25 #[.val (.ref d0), .val (.long u0), .second, .val (.long u1), .second, .unset, .unset, .unset, .unset] []))
  refine Wp.step (fun t k => XS.aloadN X18.here hx rfl (hb hby d23_25) rfl rfl k) ?_
  show Wp p e below _ (T18.setTop (mkF m 26 #[.val (.ref d0), .val (.long u0), .second, .val (.long u1), .second, .unset, .unset, .unset, .unset] [(.ref d0)]))
  obtain ⟨cq20, q20, q20'⟩ := o2_0.cell
  obtain ⟨_, _, ⟨T20, L20, k20, n20⟩, -, X20, ⟨Lc20, hQ20, l20, y20, z20⟩, st20⟩ := X18.privateBack hx (y := (⟨"com/example/gentle_bucket/gentlebucket/Meter", "level", "()Lcom/example/gentle_bucket/gentlebucket/Uint128;"⟩ : MethodName)) hown (mvT hZ (hw _ (List.mem_of_getElem? (i := 166) rfl))) (mvT hZ (hw _ (List.mem_of_getElem? (i := 167) rfl))) (own_selP hZ (hw _ (List.mem_of_getElem? (i := 6) rfl)) (hw _ (List.mem_of_getElem? (i := 168) rfl)) (hw _ (List.mem_of_getElem? (i := 167) rfl)) (by decide)) (Cond.privateMethod_at (mvP hZ (hw _ (List.mem_of_getElem? (i := 168) rfl)) (args := #[]))) (mvT hZ (hw _ (List.mem_of_getElem? (i := 169) rfl))) (by decide) (backOf (W := 0) (rm29 l Z a0 hw [] d0 (0 : Int64) (0 : Int64) h2 n0 (Nat.le_trans Z0 K2.1) o2_3 o2_4 ) hZ (hw _ (List.mem_of_getElem? (i := 169) rfl)) (hw _ (List.mem_of_getElem? (i := 7) rfl)) (by decide) (by decide)) (g := (mkF m 26 #[.val (.ref d0), .val (.long u0), .second, .val (.long u1), .second, .unset, .unset, .unset, .unset] [(.ref d0)])) rfl (by rw [hml]; rfl) (Steps.refl _) (a := d0) (by rw [e18]; exact q20) q20' (argsL := []) (rest := []) (lenOf pd_2829Lcom2fexample2fgentle_bucket2fgentlebucket2fUint1283b rfl) rfl (by show 2 * 0 + _ ≤ _; exact Nat.le_of_eq rfl) (hb hby d23_26) (fun _ _ => ⟨rfl, e18, (by decide : 2 + 1 ≤ _), (by decide : 4 + 2 ≤ _)⟩)
  dsimp only [Pt.U, Pt.locs, Pt.cells, Pt.slots] at X20 l20 y20 z20 st20 hQ20
  subst l20 y20 z20
  obtain ⟨h20, e20⟩ : ∃ z, T20.heap = z := ⟨_, rfl⟩
  rw [e20] at hQ20
  obtain ⟨r20, rfl, N20q, Kc20, sz20, o20_0, o20_1, o20_2⟩ := hQ20
  have N20 := Fr.app N18 N20q
  have g_r20 : n0 ≤ r20 := Nat.le_trans (Nat.le_trans Z0 K2.1) sz20
  have sz_r20 : h0.size ≤ r20 := Nat.le_trans K2.1 sz20
  have ne_c0_r20 : c0 ≠ r20 := Nat.ne_of_lt (Nat.lt_of_lt_of_le c4.lt sz20)
  have ne_d0_r20 : d0 ≠ r20 := Nat.ne_of_lt (Nat.lt_of_lt_of_le o2_0.lt sz20)
  have ne_de_r20 : de ≠ r20 := Nat.ne_of_lt (Nat.lt_of_lt_of_le c11.lt sz20)
  have ne_ra_r20 : ra ≠ r20 := Nat.ne_of_lt (Nat.lt_of_lt_of_le c8.lt sz20)
  have ne_zz_r20 : zz ≠ r20 := Nat.ne_of_lt (Nat.lt_of_lt_of_le c15.lt sz20)
  have c21 := o2_0.keep Kc20
  have c22 := c4.keep Kc20
  have c23 := c5.keep Kc20 nin0
  have c24 := c6.keep Kc20 nin0
  have c25 := c7.keep Kc20 nin0
  have c26 := c8.keep Kc20
  have c27 := c9.keep Kc20 nin0
  have c28 := c10.keep Kc20 nin0
  have c29 := c11.keep Kc20
  have c30 := c12.keep Kc20 nin0
  have c31 := c13.keep Kc20 nin0
  have c32 := own_sta_keep c14 Kc20 all0
  have c33 := c15.keep Kc20
  have c34 := c16.keep Kc20 nin0
  have c35 := c17.keep Kc20 nin0
  have c36 := o2_1.keep Kc20 nin0
  have c37 := o2_2.keep Kc20 nin0
  have c38 := o2_3.keep Kc20 nin0
  have c39 := o2_4.keep Kc20 nin0
  have K20 := K2.trans Kc20 all0
  refine Wp.go st20 ?_
  show Wp p e below _ (T20.setTop (mkF m 29 #[.val (.ref d0), .val (.long u0), .second, .val (.long u1), .second, .unset, .unset, .unset, .unset] [(.ref r20)]))
  refine Wp.step (fun t k => XS.lloadN X20.here hx rfl (hb hby d23_29) rfl k) ?_
  show Wp p e below _ (T20.setTop (mkF m 30 #[.val (.ref d0), .val (.long u0), .second, .val (.long u1), .second, .unset, .unset, .unset, .unset] [(.long u1), (.ref r20)]))
  refine Wp.step (fun t k => XS.aloadN X20.here hx rfl (hb hby d23_30) rfl rfl k) ?_
  show Wp p e below _ (T20.setTop (mkF m 31 #[.val (.ref d0), .val (.long u0), .second, .val (.long u1), .second, .unset, .unset, .unset, .unset] [(.ref d0), (.long u1), (.ref r20)]))
  obtain ⟨T40, X40, e40, st40⟩ := getF X20 hx hZ hown (host := "") (Or.inl (hw _ (List.mem_of_getElem? (i := 115) rfl))) Via.refl e20 c37 (g := (mkF m 31 #[.val (.ref d0), .val (.long u0), .second, .val (.long u1), .second, .unset, .unset, .unset, .unset] [(.ref d0), (.long u1), (.ref r20)])) rfl rfl (hb hby d23_31)
  refine Wp.step st40 ?_
  show Wp p e below _ (T40.setTop (mkF m 34 #[.val (.ref d0), .val (.long u0), .second, .val (.long u1), .second, .unset, .unset, .unset, .unset] [(.ref c0), (.long u1), (.ref r20)]))
  obtain ⟨cq41, kq41, q41a, q41b, q41c⟩ := isOf hZ e40 c22
  obtain ⟨_, _, ⟨T41, L41, k41, n41⟩, -, X41, ⟨Lc41, hQ41, l41, y41, z41⟩, st41⟩ := X40.virtualBack hx (y := (⟨"com/example/gentle_bucket/gentlebucket/Contract", "rate", "()Lcom/example/gentle_bucket/gentlebucket/Rate;"⟩ : MethodName)) (z := (⟨"com/example/gentle_bucket/gentlebucket/Contract", "rate", "()Lcom/example/gentle_bucket/gentlebucket/Rate;"⟩ : MethodName)) hown (mvT hZ (hw _ (List.mem_of_getElem? (i := 155) rfl))) (mvT hZ (hw _ (List.mem_of_getElem? (i := 156) rfl))) (notFace_of_selects (args := #[]) (mvT hZ (hw _ (List.mem_of_getElem? (i := 158) rfl)))) (mvT hZ (hw _ (List.mem_of_getElem? (i := 158) rfl))) (mvT hZ (hw _ (List.mem_of_getElem? (i := 157) rfl))) (by decide) (backOf (W := 3) (rm27 l Z a0 hw [] c0 ra h20 n0 (Nat.le_trans Z0 K20.1) c23 ) hZ (hw _ (List.mem_of_getElem? (i := 159) rfl)) (hw _ (List.mem_of_getElem? (i := 10) rfl)) (by decide) (by decide)) q41a q41c (g := (mkF m 34 #[.val (.ref d0), .val (.long u0), .second, .val (.long u1), .second, .unset, .unset, .unset, .unset] [(.ref c0), (.long u1), (.ref r20)])) rfl (by rw [hml]; rfl) (Steps.refl _) (argsL := []) (rest := [(.long u1), (.ref r20)]) (lenOf pd_2829Lcom2fexample2fgentle_bucket2fgentlebucket2fRate3b rfl) rfl (by show 2 * 0 + _ ≤ _; exact Nat.le_of_eq rfl) (hb hby d23_34) (fun _ _ => ⟨rfl, e40, (by decide : 3 + 0 ≤ _), (by decide : 6 + 0 ≤ _)⟩)
  dsimp only [Pt.U, Pt.locs, Pt.cells, Pt.slots] at X41 l41 y41 z41 st41 hQ41
  subst l41 y41 z41
  obtain ⟨rfl, N41q, e41⟩ := hQ41
  have N41 := Fr.app N20 N41q
  refine Wp.go st41 ?_
  show Wp p e below _ (T41.setTop (mkF m 37 #[.val (.ref d0), .val (.long u0), .second, .val (.long u1), .second, .unset, .unset, .unset, .unset] [(.ref ra), (.long u1), (.ref r20)]))
  obtain ⟨cq42, kq42, q42a, q42b, q42c⟩ := isOf hZ e41 c26
  obtain ⟨_, _, ⟨T42, L42, k42, n42⟩, -, X42, ⟨Lc42, hQ42, l42, y42, z42⟩, st42⟩ := X41.virtualBack hx (y := (⟨"com/example/gentle_bucket/gentlebucket/Rate", "periodNanos", "()J"⟩ : MethodName)) (z := (⟨"com/example/gentle_bucket/gentlebucket/Rate", "periodNanos", "()J"⟩ : MethodName)) hown (mvT hZ (hw _ (List.mem_of_getElem? (i := 206) rfl))) (mvT hZ (hw _ (List.mem_of_getElem? (i := 48) rfl))) (notFace_of_selects (args := #[]) (mvT hZ (hw _ (List.mem_of_getElem? (i := 50) rfl)))) (mvT hZ (hw _ (List.mem_of_getElem? (i := 50) rfl))) (mvT hZ (hw _ (List.mem_of_getElem? (i := 49) rfl))) (by decide) (backOf (W := 3) (rm8 l Z a0 hw [] ra pe h20 n0 (Nat.le_trans Z0 K20.1) c28 ) hZ (hw _ (List.mem_of_getElem? (i := 51) rfl)) (hw _ (List.mem_of_getElem? (i := 13) rfl)) (by decide) (by decide)) q42a q42c (g := (mkF m 37 #[.val (.ref d0), .val (.long u0), .second, .val (.long u1), .second, .unset, .unset, .unset, .unset] [(.ref ra), (.long u1), (.ref r20)])) rfl (by rw [hml]; rfl) (Steps.refl _) (argsL := []) (rest := [(.long u1), (.ref r20)]) (lenOf pd_2829J rfl) rfl (by show 2 * 0 + _ ≤ _; exact Nat.le_of_eq rfl) (hb hby d23_37) (fun _ _ => ⟨rfl, e41, (by decide : 3 + 0 ≤ _), (by decide : 6 + 0 ≤ _)⟩)
  dsimp only [Pt.U, Pt.locs, Pt.cells, Pt.slots] at X42 l42 y42 z42 st42 hQ42
  subst l42 y42 z42
  obtain ⟨rfl, N42q, e42⟩ := hQ42
  have N42 := Fr.app N41 N42q
  refine Wp.go st42 ?_
  show Wp p e below _ (T42.setTop (mkF m 40 #[.val (.ref d0), .val (.long u0), .second, .val (.long u1), .second, .unset, .unset, .unset, .unset] [(.long pe), (.long u1), (.ref r20)]))
  obtain ⟨_, _, ⟨T43, L43, k43, n43⟩, -, X43, ⟨Lc43, hQ43, l43, y43, z43⟩, st43⟩ := Jvm.LawKit.callS X42 hx (y := (⟨"com/example/gentle_bucket/gentlebucket/Uint128", "product", "(JJ)Lcom/example/gentle_bucket/gentlebucket/Uint128;"⟩ : MethodName)) hown (mvT hZ (hw _ (List.mem_of_getElem? (i := 165) rfl))) (mvT hZ (hw _ (List.mem_of_getElem? (i := 53) rfl))) (mvT hZ (hw _ (List.mem_of_getElem? (i := 54) rfl))) (mvT hZ (hw _ (List.mem_of_getElem? (i := 55) rfl))) (by decide) (backOf (W := 1) (rm9 l Z a0 hw [] u1 pe  h20 n0 (Nat.le_trans Z0 K20.1)  ) hZ (hw _ (List.mem_of_getElem? (i := 55) rfl)) (hw _ (List.mem_of_getElem? (i := 54) rfl)) (by decide) (by decide)) (g := (mkF m 40 #[.val (.ref d0), .val (.long u0), .second, .val (.long u1), .second, .unset, .unset, .unset, .unset] [(.long pe), (.long u1), (.ref r20)])) rfl (by rw [hml]; rfl) (argsL := [(.long u1), (.long pe)]) (rest := [(.ref r20)]) (lenOf pd_28JJ29Lcom2fexample2fgentle_bucket2fgentlebucket2fUint1283b rfl) rfl (by show 2 * 0 + _ ≤ _; exact Nat.le_of_eq rfl) (hb hby d23_40) (fun _ _ => ⟨rfl, e42, (by decide : 3 + 1 ≤ _), (by decide : 6 + 2 ≤ _)⟩)
  dsimp only [Pt.U, Pt.locs, Pt.cells, Pt.slots] at X43 l43 y43 z43 st43 hQ43
  subst l43 y43 z43
  obtain ⟨h43, e43⟩ : ∃ z, T43.heap = z := ⟨_, rfl⟩
  rw [e43] at hQ43
  obtain ⟨r43, rfl, N43q, Kc43, sz43, o43_0, o43_1, o43_2⟩ := hQ43
  have N43 := Fr.app N42 N43q
  have g_r43 : n0 ≤ r43 := Nat.le_trans (Nat.le_trans Z0 K20.1) sz43
  have sz_r43 : h0.size ≤ r43 := Nat.le_trans K20.1 sz43
  have ne_c0_r43 : c0 ≠ r43 := Nat.ne_of_lt (Nat.lt_of_lt_of_le c22.lt sz43)
  have ne_d0_r43 : d0 ≠ r43 := Nat.ne_of_lt (Nat.lt_of_lt_of_le c21.lt sz43)
  have ne_de_r43 : de ≠ r43 := Nat.ne_of_lt (Nat.lt_of_lt_of_le c29.lt sz43)
  have ne_r20_r43 : r20 ≠ r43 := Nat.ne_of_lt (Nat.lt_of_lt_of_le o20_0.lt sz43)
  have ne_ra_r43 : ra ≠ r43 := Nat.ne_of_lt (Nat.lt_of_lt_of_le c26.lt sz43)
  have ne_zz_r43 : zz ≠ r43 := Nat.ne_of_lt (Nat.lt_of_lt_of_le c33.lt sz43)
  have c44 := c21.keep Kc43
  have c45 := c22.keep Kc43
  have c46 := c23.keep Kc43 nin0
  have c47 := c24.keep Kc43 nin0
  have c48 := c25.keep Kc43 nin0
  have c49 := c26.keep Kc43
  have c50 := c27.keep Kc43 nin0
  have c51 := c28.keep Kc43 nin0
  have c52 := c29.keep Kc43
  have c53 := c30.keep Kc43 nin0
  have c54 := c31.keep Kc43 nin0
  have c55 := own_sta_keep c32 Kc43 all0
  have c56 := c33.keep Kc43
  have c57 := c34.keep Kc43 nin0
  have c58 := c35.keep Kc43 nin0
  have c59 := c36.keep Kc43 nin0
  have c60 := c37.keep Kc43 nin0
  have c61 := c38.keep Kc43 nin0
  have c62 := c39.keep Kc43 nin0
  have c63 := o20_0.keep Kc43
  have c64 := o20_1.keep Kc43 nin0
  have c65 := o20_2.keep Kc43 nin0
  have K43 := K20.trans Kc43 all0
  refine Wp.step st43 ?_
  show Wp p e below _ (T43.setTop (mkF m 43 #[.val (.ref d0), .val (.long u0), .second, .val (.long u1), .second, .unset, .unset, .unset, .unset] [(.ref r43), (.ref r20)]))
  obtain ⟨cq66, kq66, q66a, q66b, q66c⟩ := isOf hZ e43 c63
  obtain ⟨_, _, ⟨T66, L66, k66, n66⟩, -, X66, ⟨Lc66, hQ66, l66, y66, z66⟩, st66⟩ := X43.virtualBack hx (y := (⟨"com/example/gentle_bucket/gentlebucket/Uint128", "plus", "(Lcom/example/gentle_bucket/gentlebucket/Uint128;)Lcom/example/gentle_bucket/gentlebucket/Uint128;"⟩ : MethodName)) (z := (⟨"com/example/gentle_bucket/gentlebucket/Uint128", "plus", "(Lcom/example/gentle_bucket/gentlebucket/Uint128;)Lcom/example/gentle_bucket/gentlebucket/Uint128;"⟩ : MethodName)) hown (mvT hZ (hw _ (List.mem_of_getElem? (i := 207) rfl))) (mvT hZ (hw _ (List.mem_of_getElem? (i := 208) rfl))) (notFace_of_selects (args := #[]) (mvT hZ (hw _ (List.mem_of_getElem? (i := 210) rfl)))) (mvT hZ (hw _ (List.mem_of_getElem? (i := 210) rfl))) (mvT hZ (hw _ (List.mem_of_getElem? (i := 209) rfl))) (by decide) (backOf (W := 0) (rm37 l Z a0 hw [] r20 r43 (own_ph u1 pe) (u1 * pe) h43 n0 (Nat.le_trans Z0 K43.1) c63 c64 c65 o43_0 o43_1 o43_2 ) hZ (hw _ (List.mem_of_getElem? (i := 211) rfl)) (hw _ (List.mem_of_getElem? (i := 54) rfl)) (by decide) (by decide)) q66a q66c (g := (mkF m 43 #[.val (.ref d0), .val (.long u0), .second, .val (.long u1), .second, .unset, .unset, .unset, .unset] [(.ref r43), (.ref r20)])) rfl (by rw [hml]; rfl) (Steps.refl _) (argsL := [(.ref r43)]) (rest := []) (lenOf pd_28Lcom2fexample2fgentle_bucket2fgentlebucket2fUint1283b29Lcom2fexample2fgentle_bucket2fgentlebucket2fUint1283b rfl) rfl (by show 2 * 0 + _ ≤ _; exact Nat.le_of_eq rfl) (hb hby d23_43) (fun _ _ => ⟨rfl, e43, (by decide : 4 + 1 ≤ _), (by decide : 8 + 2 ≤ _)⟩)
  dsimp only [Pt.U, Pt.locs, Pt.cells, Pt.slots] at X66 l66 y66 z66 st66 hQ66
  subst l66 y66 z66
  obtain ⟨h66, e66⟩ : ∃ z, T66.heap = z := ⟨_, rfl⟩
  rw [e66] at hQ66
  obtain ⟨r66, rfl, N66q, Kc66, sz66, o66_0, o66_1, o66_2⟩ := hQ66
  have N66 := Fr.app N43 N66q
  have g_r66 : n0 ≤ r66 := Nat.le_trans (Nat.le_trans Z0 K43.1) sz66
  have sz_r66 : h0.size ≤ r66 := Nat.le_trans K43.1 sz66
  have ne_c0_r66 : c0 ≠ r66 := Nat.ne_of_lt (Nat.lt_of_lt_of_le c45.lt sz66)
  have ne_d0_r66 : d0 ≠ r66 := Nat.ne_of_lt (Nat.lt_of_lt_of_le c44.lt sz66)
  have ne_de_r66 : de ≠ r66 := Nat.ne_of_lt (Nat.lt_of_lt_of_le c52.lt sz66)
  have ne_r20_r66 : r20 ≠ r66 := Nat.ne_of_lt (Nat.lt_of_lt_of_le c63.lt sz66)
  have ne_r43_r66 : r43 ≠ r66 := Nat.ne_of_lt (Nat.lt_of_lt_of_le o43_0.lt sz66)
  have ne_ra_r66 : ra ≠ r66 := Nat.ne_of_lt (Nat.lt_of_lt_of_le c49.lt sz66)
  have ne_zz_r66 : zz ≠ r66 := Nat.ne_of_lt (Nat.lt_of_lt_of_le c56.lt sz66)
  have c67 := c44.keep Kc66
  have c68 := c45.keep Kc66
  have c69 := c46.keep Kc66 nin0
  have c70 := c47.keep Kc66 nin0
  have c71 := c48.keep Kc66 nin0
  have c72 := c49.keep Kc66
  have c73 := c50.keep Kc66 nin0
  have c74 := c51.keep Kc66 nin0
  have c75 := c52.keep Kc66
  have c76 := c53.keep Kc66 nin0
  have c77 := c54.keep Kc66 nin0
  have c78 := own_sta_keep c55 Kc66 all0
  have c79 := c56.keep Kc66
  have c80 := c57.keep Kc66 nin0
  have c81 := c58.keep Kc66 nin0
  have c82 := c59.keep Kc66 nin0
  have c83 := c60.keep Kc66 nin0
  have c84 := c61.keep Kc66 nin0
  have c85 := c62.keep Kc66 nin0
  have c86 := c63.keep Kc66
  have c87 := c64.keep Kc66 nin0
  have c88 := c65.keep Kc66 nin0
  have c89 := o43_0.keep Kc66
  have c90 := o43_1.keep Kc66 nin0
  have c91 := o43_2.keep Kc66 nin0
  have K66 := K43.trans Kc66 all0
  refine Wp.go st66 ?_
  show Wp p e below _ (T66.setTop (mkF m 46 #[.val (.ref d0), .val (.long u0), .second, .val (.long u1), .second, .unset, .unset, .unset, .unset] [(.ref r66)]))
  refine Wp.step (fun t k => XS.astore X66.here hx rfl (hb hby d23_46) rfl rfl (l' := #[.val (.ref d0), .val (.long u0), .second, .val (.long u1), .second, .unset, .unset, .val (.ref r66), .unset]) rfl k) ?_
  show Wp p e below _ (T66.setTop (mkF m 48 #[.val (.ref d0), .val (.long u0), .second, .val (.long u1), .second, .unset, .unset, .val (.ref r66), .unset] []))
  refine Wp.step (fun t k => XS.aload X66.here hx rfl (hb hby d23_48) rfl rfl k) ?_
  show Wp p e below _ (T66.setTop (mkF m 50 #[.val (.ref d0), .val (.long u0), .second, .val (.long u1), .second, .unset, .unset, .val (.ref r66), .unset] [(.ref r66)]))
  refine Wp.step (fun t k => XS.aloadN X66.here hx rfl (hb hby d23_50) rfl rfl k) ?_
  show Wp p e below _ (T66.setTop (mkF m 51 #[.val (.ref d0), .val (.long u0), .second, .val (.long u1), .second, .unset, .unset, .val (.ref r66), .unset] [(.ref d0), (.ref r66)]))
  obtain ⟨T92, X92, e92, st92⟩ := getF X66 hx hZ hown (host := "") (Or.inl (hw _ (List.mem_of_getElem? (i := 115) rfl))) Via.refl e66 c83 (g := (mkF m 51 #[.val (.ref d0), .val (.long u0), .second, .val (.long u1), .second, .unset, .unset, .val (.ref r66), .unset] [(.ref d0), (.ref r66)])) rfl rfl (hb hby d23_51)
  refine Wp.step st92 ?_
  show Wp p e below _ (T92.setTop (mkF m 54 #[.val (.ref d0), .val (.long u0), .second, .val (.long u1), .second, .unset, .unset, .val (.ref r66), .unset] [(.ref c0), (.ref r66)]))
  obtain ⟨cq93, kq93, q93a, q93b, q93c⟩ := isOf hZ e92 c68
  obtain ⟨_, _, ⟨T93, L93, k93, n93⟩, -, X93, ⟨Lc93, hQ93, l93, y93, z93⟩, st93⟩ := X92.virtualBack hx (y := (⟨"com/example/gentle_bucket/gentlebucket/Contract", "depth", "()Lcom/example/gentle_bucket/gentlebucket/Uint128;"⟩ : MethodName)) (z := (⟨"com/example/gentle_bucket/gentlebucket/Contract", "depth", "()Lcom/example/gentle_bucket/gentlebucket/Uint128;"⟩ : MethodName)) hown (mvT hZ (hw _ (List.mem_of_getElem? (i := 212) rfl))) (mvT hZ (hw _ (List.mem_of_getElem? (i := 213) rfl))) (notFace_of_selects (args := #[]) (mvT hZ (hw _ (List.mem_of_getElem? (i := 215) rfl)))) (mvT hZ (hw _ (List.mem_of_getElem? (i := 215) rfl))) (mvT hZ (hw _ (List.mem_of_getElem? (i := 214) rfl))) (by decide) (backOf (W := 1) (rm38 l Z a0 hw [] c0 de h66 n0 (Nat.le_trans Z0 K66.1) c70 ) hZ (hw _ (List.mem_of_getElem? (i := 216) rfl)) (hw _ (List.mem_of_getElem? (i := 10) rfl)) (by decide) (by decide)) q93a q93c (g := (mkF m 54 #[.val (.ref d0), .val (.long u0), .second, .val (.long u1), .second, .unset, .unset, .val (.ref r66), .unset] [(.ref c0), (.ref r66)])) rfl (by rw [hml]; rfl) (Steps.refl _) (argsL := []) (rest := [(.ref r66)]) (lenOf pd_2829Lcom2fexample2fgentle_bucket2fgentlebucket2fUint1283b rfl) rfl (by show 2 * 0 + _ ≤ _; exact Nat.le_of_eq rfl) (hb hby d23_54) (fun _ _ => ⟨rfl, e92, (by decide : 5 + 0 ≤ _), (by decide : 10 + 0 ≤ _)⟩)
  dsimp only [Pt.U, Pt.locs, Pt.cells, Pt.slots] at X93 l93 y93 z93 st93 hQ93
  subst l93 y93 z93
  obtain ⟨rfl, N93q, e93⟩ := hQ93
  have N93 := Fr.app N66 N93q
  refine Wp.go st93 ?_
  show Wp p e below _ (T93.setTop (mkF m 57 #[.val (.ref d0), .val (.long u0), .second, .val (.long u1), .second, .unset, .unset, .val (.ref r66), .unset] [(.ref de), (.ref r66)]))
  obtain ⟨cq94, kq94, q94a, q94b, q94c⟩ := isOf hZ e93 o66_0
  obtain ⟨_, _, ⟨T94, L94, k94, n94⟩, -, X94, ⟨Lc94, hQ94, l94, y94, z94⟩, st94⟩ := X93.virtualBack hx (y := (⟨"com/example/gentle_bucket/gentlebucket/Uint128", "compareTo", "(Lcom/example/gentle_bucket/gentlebucket/Uint128;)I"⟩ : MethodName)) (z := (⟨"com/example/gentle_bucket/gentlebucket/Uint128", "compareTo", "(Lcom/example/gentle_bucket/gentlebucket/Uint128;)I"⟩ : MethodName)) hown (mvT hZ (hw _ (List.mem_of_getElem? (i := 177) rfl))) (mvT hZ (hw _ (List.mem_of_getElem? (i := 178) rfl))) (notFace_of_selects (args := #[]) (mvT hZ (hw _ (List.mem_of_getElem? (i := 180) rfl)))) (mvT hZ (hw _ (List.mem_of_getElem? (i := 180) rfl))) (mvT hZ (hw _ (List.mem_of_getElem? (i := 179) rfl))) (by decide) (backOf (W := 0) (rm31 l Z a0 hw [] r66 de (own_ph u1 pe) (u1 * pe) x0 x1 h66 n0 (Nat.le_trans Z0 K66.1) o66_0 o66_1 o66_2 c75 c76 c77 ) hZ (hw _ (List.mem_of_getElem? (i := 181) rfl)) (hw _ (List.mem_of_getElem? (i := 54) rfl)) (by decide) (by decide)) q94a q94c (g := (mkF m 57 #[.val (.ref d0), .val (.long u0), .second, .val (.long u1), .second, .unset, .unset, .val (.ref r66), .unset] [(.ref de), (.ref r66)])) rfl (by rw [hml]; rfl) (Steps.refl _) (argsL := [(.ref de)]) (rest := []) (lenOf pd_28Lcom2fexample2fgentle_bucket2fgentlebucket2fUint1283b29I rfl) rfl (by show 2 * 0 + _ ≤ _; exact Nat.le_of_eq rfl) (hb hby d23_57) (fun _ _ => ⟨rfl, e93, (by decide : 5 + 0 ≤ _), (by decide : 10 + 0 ≤ _)⟩)
  dsimp only [Pt.U, Pt.locs, Pt.cells, Pt.slots] at X94 l94 y94 z94 st94 hQ94
  subst l94 y94 z94
  obtain ⟨rfl, N94q, e94⟩ := hQ94
  have N94 := Fr.app N93 N94q
  refine Wp.go st94 ?_
  show Wp p e below _ (T94.setTop (mkF m 60 #[.val (.ref d0), .val (.long u0), .second, .val (.long u1), .second, .unset, .unset, .val (.ref r66), .unset] [(.int (own_ct (own_ph u1 pe) (u1 * pe) x0 x1))]))
  refine Wp.step (fun t k => XS.ifNo X94.here hx rfl (hb hby d23_60) rfl ((if0 _ _).trans (flt (show ¬ ((0 : Int32) < (own_ct (own_ph u1 pe) (u1 * pe) x0 x1)) from own_ct_le (own_fit hc hp hbb hf hU))).2.2.1) k) ?_
  show Wp p e below _ (T94.setTop (mkF m 63 #[.val (.ref d0), .val (.long u0), .second, .val (.long u1), .second, .unset, .unset, .val (.ref r66), .unset] []))
  obtain ⟨T96, X96, e96, st96⟩ := getS2 X94 hx hZ hown (host := "") (Or.inl (hw _ (List.mem_of_getElem? (i := 189) rfl))) Via.refl e94 c78 (g := (mkF m 63 #[.val (.ref d0), .val (.long u0), .second, .val (.long u1), .second, .unset, .unset, .val (.ref r66), .unset] [])) rfl (hb hby d23_63)
  refine Wp.step st96 ?_
  show Wp p e below _ (T96.setTop (mkF m 66 #[.val (.ref d0), .val (.long u0), .second, .val (.long u1), .second, .unset, .unset, .val (.ref r66), .unset] [(.ref zz)]))
  refine Wp.step (fun t k => XS.goto X96.here hx rfl (pc0 := 66) (pc' := 94) rfl (hb hby d23_66) (by decide) (by decide) k) ?_
  show Wp p e below _ (T96.setTop (mkF m 94 #[.val (.ref d0), .val (.long u0), .second, .val (.long u1), .second, .unset, .unset, .val (.ref r66), .unset] [(.ref zz)]))
  refine Wp.step (fun t k => XS.astore X96.here hx rfl (hb hby d23_94) rfl rfl (l' := #[.val (.ref d0), .val (.long u0), .second, .val (.long u1), .second, .unset, .unset, .val (.ref r66), .val (.ref zz)]) rfl k) ?_
  show Wp p e below _ (T96.setTop (mkF m 96 #[.val (.ref d0), .val (.long u0), .second, .val (.long u1), .second, .unset, .unset, .val (.ref r66), .val (.ref zz)] []))
  refine Wp.step (fun t k => XS.aload X96.here hx rfl (hb hby d23_96) rfl rfl k) ?_
  show Wp p e below _ (T96.setTop (mkF m 98 #[.val (.ref d0), .val (.long u0), .second, .val (.long u1), .second, .unset, .unset, .val (.ref r66), .val (.ref zz)] [(.ref zz)]))
  refine Wp.step (fun t k => XS.lconst X96.here hx rfl (hb hby d23_98) k) ?_
  show Wp p e below _ (T96.setTop (mkF m 99 #[.val (.ref d0), .val (.long u0), .second, .val (.long u1), .second, .unset, .unset, .val (.ref r66), .val (.ref zz)] [(.long (1 : Int64)), (.ref zz)]))
  refine Wp.step (fun t k => XS.aloadN X96.here hx rfl (hb hby d23_99) rfl rfl k) ?_
  show Wp p e below _ (T96.setTop (mkF m 100 #[.val (.ref d0), .val (.long u0), .second, .val (.long u1), .second, .unset, .unset, .val (.ref r66), .val (.ref zz)] [(.ref d0), (.long (1 : Int64)), (.ref zz)]))
  obtain ⟨T97, X97, e97, st97⟩ := getF X96 hx hZ hown (host := "") (Or.inl (hw _ (List.mem_of_getElem? (i := 109) rfl))) Via.refl e96 c82 (g := (mkF m 100 #[.val (.ref d0), .val (.long u0), .second, .val (.long u1), .second, .unset, .unset, .val (.ref r66), .val (.ref zz)] [(.ref d0), (.long (1 : Int64)), (.ref zz)])) rfl rfl (hb hby d23_100)
  refine Wp.step st97 ?_
  show Wp p e below _ (T97.setTop (mkF m 103 #[.val (.ref d0), .val (.long u0), .second, .val (.long u1), .second, .unset, .unset, .val (.ref r66), .val (.ref zz)] [(.long u0), (.long (1 : Int64)), (.ref zz)]))
  refine Wp.step (fun t k => XS.lloadN X97.here hx rfl (hb hby d23_103) rfl k) ?_
  show Wp p e below _ (T97.setTop (mkF m 104 #[.val (.ref d0), .val (.long u0), .second, .val (.long u1), .second, .unset, .unset, .val (.ref r66), .val (.ref zz)] [(.long u0), (.long u0), (.long (1 : Int64)), (.ref zz)]))
  refine Wp.step (fun t k => XS.lsub X97.here hx rfl (hb hby d23_104) rfl k) ?_
  show Wp p e below _ (T97.setTop (mkF m 105 #[.val (.ref d0), .val (.long u0), .second, .val (.long u1), .second, .unset, .unset, .val (.ref r66), .val (.ref zz)] [(.long (u0 - u0)), (.long (1 : Int64)), (.ref zz)]))
  obtain ⟨_, _, ⟨T98, L98, k98, n98⟩, -, X98, ⟨Lc98, hQ98, l98, y98, z98⟩, st98⟩ := Jvm.LawKit.callS X97 hx (y := (⟨"com/example/gentle_bucket/gentlebucket/Uint128", "product", "(JJ)Lcom/example/gentle_bucket/gentlebucket/Uint128;"⟩ : MethodName)) hown (mvT hZ (hw _ (List.mem_of_getElem? (i := 165) rfl))) (mvT hZ (hw _ (List.mem_of_getElem? (i := 53) rfl))) (mvT hZ (hw _ (List.mem_of_getElem? (i := 54) rfl))) (mvT hZ (hw _ (List.mem_of_getElem? (i := 55) rfl))) (by decide) (backOf (W := 1) (rm9 l Z a0 hw [] (1 : Int64) (u0 - u0)  h66 n0 (Nat.le_trans Z0 K66.1)  ) hZ (hw _ (List.mem_of_getElem? (i := 55) rfl)) (hw _ (List.mem_of_getElem? (i := 54) rfl)) (by decide) (by decide)) (g := (mkF m 105 #[.val (.ref d0), .val (.long u0), .second, .val (.long u1), .second, .unset, .unset, .val (.ref r66), .val (.ref zz)] [(.long (u0 - u0)), (.long (1 : Int64)), (.ref zz)])) rfl (by rw [hml]; rfl) (argsL := [(.long (1 : Int64)), (.long (u0 - u0))]) (rest := [(.ref zz)]) (lenOf pd_28JJ29Lcom2fexample2fgentle_bucket2fgentlebucket2fUint1283b rfl) rfl (by show 2 * 0 + _ ≤ _; exact Nat.le_of_eq rfl) (hb hby d23_105) (fun _ _ => ⟨rfl, e97, (by decide : 5 + 1 ≤ _), (by decide : 10 + 2 ≤ _)⟩)
  dsimp only [Pt.U, Pt.locs, Pt.cells, Pt.slots] at X98 l98 y98 z98 st98 hQ98
  subst l98 y98 z98
  obtain ⟨h98, e98⟩ : ∃ z, T98.heap = z := ⟨_, rfl⟩
  rw [e98] at hQ98
  obtain ⟨r98, rfl, N98q, Kc98, sz98, o98_0, o98_1, o98_2⟩ := hQ98
  have N98 := Fr.app N94 N98q
  have g_r98 : n0 ≤ r98 := Nat.le_trans (Nat.le_trans Z0 K66.1) sz98
  have sz_r98 : h0.size ≤ r98 := Nat.le_trans K66.1 sz98
  have ne_c0_r98 : c0 ≠ r98 := Nat.ne_of_lt (Nat.lt_of_lt_of_le c68.lt sz98)
  have ne_d0_r98 : d0 ≠ r98 := Nat.ne_of_lt (Nat.lt_of_lt_of_le c67.lt sz98)
  have ne_de_r98 : de ≠ r98 := Nat.ne_of_lt (Nat.lt_of_lt_of_le c75.lt sz98)
  have ne_r20_r98 : r20 ≠ r98 := Nat.ne_of_lt (Nat.lt_of_lt_of_le c86.lt sz98)
  have ne_r43_r98 : r43 ≠ r98 := Nat.ne_of_lt (Nat.lt_of_lt_of_le c89.lt sz98)
  have ne_r66_r98 : r66 ≠ r98 := Nat.ne_of_lt (Nat.lt_of_lt_of_le o66_0.lt sz98)
  have ne_ra_r98 : ra ≠ r98 := Nat.ne_of_lt (Nat.lt_of_lt_of_le c72.lt sz98)
  have ne_zz_r98 : zz ≠ r98 := Nat.ne_of_lt (Nat.lt_of_lt_of_le c79.lt sz98)
  have c99 := c67.keep Kc98
  have c100 := c68.keep Kc98
  have c101 := c69.keep Kc98 nin0
  have c102 := c70.keep Kc98 nin0
  have c103 := c71.keep Kc98 nin0
  have c104 := c72.keep Kc98
  have c105 := c73.keep Kc98 nin0
  have c106 := c74.keep Kc98 nin0
  have c107 := c75.keep Kc98
  have c108 := c76.keep Kc98 nin0
  have c109 := c77.keep Kc98 nin0
  have c110 := own_sta_keep c78 Kc98 all0
  have c111 := c79.keep Kc98
  have c112 := c80.keep Kc98 nin0
  have c113 := c81.keep Kc98 nin0
  have c114 := c82.keep Kc98 nin0
  have c115 := c83.keep Kc98 nin0
  have c116 := c84.keep Kc98 nin0
  have c117 := c85.keep Kc98 nin0
  have c118 := c86.keep Kc98
  have c119 := c87.keep Kc98 nin0
  have c120 := c88.keep Kc98 nin0
  have c121 := c89.keep Kc98
  have c122 := c90.keep Kc98 nin0
  have c123 := c91.keep Kc98 nin0
  have c124 := o66_0.keep Kc98
  have c125 := o66_1.keep Kc98 nin0
  have c126 := o66_2.keep Kc98 nin0
  have K98 := K66.trans Kc98 all0
  refine Wp.step st98 ?_
  show Wp p e below _ (T98.setTop (mkF m 108 #[.val (.ref d0), .val (.long u0), .second, .val (.long u1), .second, .unset, .unset, .val (.ref r66), .val (.ref zz)] [(.ref r98), (.ref zz)]))
  obtain ⟨cq127, kq127, q127a, q127b, q127c⟩ := isOf hZ e98 c111
  obtain ⟨_, _, ⟨T127, L127, k127, n127⟩, -, X127, ⟨Lc127, hQ127, l127, y127, z127⟩, st127⟩ := X98.virtualBack hx (y := (⟨"com/example/gentle_bucket/gentlebucket/Uint128", "plus", "(Lcom/example/gentle_bucket/gentlebucket/Uint128;)Lcom/example/gentle_bucket/gentlebucket/Uint128;"⟩ : MethodName)) (z := (⟨"com/example/gentle_bucket/gentlebucket/Uint128", "plus", "(Lcom/example/gentle_bucket/gentlebucket/Uint128;)Lcom/example/gentle_bucket/gentlebucket/Uint128;"⟩ : MethodName)) hown (mvT hZ (hw _ (List.mem_of_getElem? (i := 207) rfl))) (mvT hZ (hw _ (List.mem_of_getElem? (i := 208) rfl))) (notFace_of_selects (args := #[]) (mvT hZ (hw _ (List.mem_of_getElem? (i := 210) rfl)))) (mvT hZ (hw _ (List.mem_of_getElem? (i := 210) rfl))) (mvT hZ (hw _ (List.mem_of_getElem? (i := 209) rfl))) (by decide) (backOf (W := 0) (rm37 l Z a0 hw [] zz r98 (own_ph (1 : Int64) (u0 - u0)) ((1 : Int64) * (u0 - u0)) h98 n0 (Nat.le_trans Z0 K98.1) c111 c112 c113 o98_0 o98_1 o98_2 ) hZ (hw _ (List.mem_of_getElem? (i := 211) rfl)) (hw _ (List.mem_of_getElem? (i := 54) rfl)) (by decide) (by decide)) q127a q127c (g := (mkF m 108 #[.val (.ref d0), .val (.long u0), .second, .val (.long u1), .second, .unset, .unset, .val (.ref r66), .val (.ref zz)] [(.ref r98), (.ref zz)])) rfl (by rw [hml]; rfl) (Steps.refl _) (argsL := [(.ref r98)]) (rest := []) (lenOf pd_28Lcom2fexample2fgentle_bucket2fgentlebucket2fUint1283b29Lcom2fexample2fgentle_bucket2fgentlebucket2fUint1283b rfl) rfl (by show 2 * 0 + _ ≤ _; exact Nat.le_of_eq rfl) (hb hby d23_108) (fun _ _ => ⟨rfl, e98, (by decide : 6 + 1 ≤ _), (by decide : 12 + 2 ≤ _)⟩)
  dsimp only [Pt.U, Pt.locs, Pt.cells, Pt.slots] at X127 l127 y127 z127 st127 hQ127
  subst l127 y127 z127
  obtain ⟨h127, e127⟩ : ∃ z, T127.heap = z := ⟨_, rfl⟩
  rw [e127] at hQ127
  obtain ⟨r127, rfl, N127q, Kc127, sz127, o127_0, o127_1, o127_2⟩ := hQ127
  have N127 := Fr.app N98 N127q
  have g_r127 : n0 ≤ r127 := Nat.le_trans (Nat.le_trans Z0 K98.1) sz127
  have sz_r127 : h0.size ≤ r127 := Nat.le_trans K98.1 sz127
  have ne_c0_r127 : c0 ≠ r127 := Nat.ne_of_lt (Nat.lt_of_lt_of_le c100.lt sz127)
  have ne_d0_r127 : d0 ≠ r127 := Nat.ne_of_lt (Nat.lt_of_lt_of_le c99.lt sz127)
  have ne_de_r127 : de ≠ r127 := Nat.ne_of_lt (Nat.lt_of_lt_of_le c107.lt sz127)
  have ne_r20_r127 : r20 ≠ r127 := Nat.ne_of_lt (Nat.lt_of_lt_of_le c118.lt sz127)
  have ne_r43_r127 : r43 ≠ r127 := Nat.ne_of_lt (Nat.lt_of_lt_of_le c121.lt sz127)
  have ne_r66_r127 : r66 ≠ r127 := Nat.ne_of_lt (Nat.lt_of_lt_of_le c124.lt sz127)
  have ne_r98_r127 : r98 ≠ r127 := Nat.ne_of_lt (Nat.lt_of_lt_of_le o98_0.lt sz127)
  have ne_ra_r127 : ra ≠ r127 := Nat.ne_of_lt (Nat.lt_of_lt_of_le c104.lt sz127)
  have ne_zz_r127 : zz ≠ r127 := Nat.ne_of_lt (Nat.lt_of_lt_of_le c111.lt sz127)
  have c128 := c99.keep Kc127
  have c129 := c100.keep Kc127
  have c130 := c101.keep Kc127 nin0
  have c131 := c102.keep Kc127 nin0
  have c132 := c103.keep Kc127 nin0
  have c133 := c104.keep Kc127
  have c134 := c105.keep Kc127 nin0
  have c135 := c106.keep Kc127 nin0
  have c136 := c107.keep Kc127
  have c137 := c108.keep Kc127 nin0
  have c138 := c109.keep Kc127 nin0
  have c139 := own_sta_keep c110 Kc127 all0
  have c140 := c111.keep Kc127
  have c141 := c112.keep Kc127 nin0
  have c142 := c113.keep Kc127 nin0
  have c143 := c114.keep Kc127 nin0
  have c144 := c115.keep Kc127 nin0
  have c145 := c116.keep Kc127 nin0
  have c146 := c117.keep Kc127 nin0
  have c147 := c118.keep Kc127
  have c148 := c119.keep Kc127 nin0
  have c149 := c120.keep Kc127 nin0
  have c150 := c121.keep Kc127
  have c151 := c122.keep Kc127 nin0
  have c152 := c123.keep Kc127 nin0
  have c153 := c124.keep Kc127
  have c154 := c125.keep Kc127 nin0
  have c155 := c126.keep Kc127 nin0
  have c156 := o98_0.keep Kc127
  have c157 := o98_1.keep Kc127 nin0
  have c158 := o98_2.keep Kc127 nin0
  have K127 := K98.trans Kc127 all0
  refine Wp.go st127 ?_
  show Wp p e below _ (T127.setTop (mkF m 111 #[.val (.ref d0), .val (.long u0), .second, .val (.long u1), .second, .unset, .unset, .val (.ref r66), .val (.ref zz)] [(.ref r127)]))
  obtain ⟨cq159, kq159, q159a, q159b, q159c⟩ := isOf hZ e127 o127_0
  obtain ⟨_, _, ⟨T159, L159, k159, n159⟩, -, X159, ⟨Lc159, hQ159, l159, y159, z159⟩, st159⟩ := X127.virtualBack hx (y := (⟨"com/example/gentle_bucket/gentlebucket/Uint128", "toLongSaturated", "()J"⟩ : MethodName)) (z := (⟨"com/example/gentle_bucket/gentlebucket/Uint128", "toLongSaturated", "()J"⟩ : MethodName)) hown (mvT hZ (hw _ (List.mem_of_getElem? (i := 217) rfl))) (mvT hZ (hw _ (List.mem_of_getElem? (i := 93) rfl))) (notFace_of_selects (args := #[]) (mvT hZ (hw _ (List.mem_of_getElem? (i := 95) rfl)))) (mvT hZ (hw _ (List.mem_of_getElem? (i := 95) rfl))) (mvT hZ (hw _ (List.mem_of_getElem? (i := 94) rfl))) (by decide) (backOf (W := 0) (rm16 l Z a0 hw [] r127 (own_ph (1 : Int64) (u0 - u0)) ((1 : Int64) * (u0 - u0)) h127 n0 (Nat.le_trans Z0 K127.1) o127_0 o127_1 o127_2 (own_ph1 _) (by rw [own_lo1]; decide)) hZ (hw _ (List.mem_of_getElem? (i := 96) rfl)) (hw _ (List.mem_of_getElem? (i := 54) rfl)) (by decide) (by decide)) q159a q159c (g := (mkF m 111 #[.val (.ref d0), .val (.long u0), .second, .val (.long u1), .second, .unset, .unset, .val (.ref r66), .val (.ref zz)] [(.ref r127)])) rfl (by rw [hml]; rfl) (Steps.refl _) (argsL := []) (rest := []) (lenOf pd_2829J rfl) rfl (by show 2 * 0 + _ ≤ _; exact Nat.le_of_eq rfl) (hb hby d23_111) (fun _ _ => ⟨rfl, e127, (by decide : 7 + 0 ≤ _), (by decide : 14 + 0 ≤ _)⟩)
  dsimp only [Pt.U, Pt.locs, Pt.cells, Pt.slots] at X159 l159 y159 z159 st159 hQ159
  subst l159 y159 z159
  obtain ⟨rfl, N159q, e159⟩ := hQ159
  have N159 := Fr.app N127 N159q
  refine Wp.go st159 ?_
  show Wp p e below _ (T159.setTop (mkF m 114 #[.val (.ref d0), .val (.long u0), .second, .val (.long u1), .second, .unset, .unset, .val (.ref r66), .val (.ref zz)] [(.long ((1 : Int64) * (u0 - u0)))]))
  refine Wp.step (fun t k => XS.lstore X159.here hx rfl (hb hby d23_114) rfl (l' := #[.val (.ref d0), .val (.long u0), .second, .val (.long u1), .second, .val (.long ((1 : Int64) * (u0 - u0))), .second, .val (.ref r66), .val (.ref zz)]) rfl k) ?_
  show Wp p e below _ (T159.setTop (mkF m 116 #[.val (.ref d0), .val (.long u0), .second, .val (.long u1), .second, .val (.long ((1 : Int64) * (u0 - u0))), .second, .val (.ref r66), .val (.ref zz)] []))
  refine Wp.step (fun t k => XS.lload X159.here hx rfl (hb hby d23_116) rfl k) ?_
  show Wp p e below _ (T159.setTop (mkF m 118 #[.val (.ref d0), .val (.long u0), .second, .val (.long u1), .second, .val (.long ((1 : Int64) * (u0 - u0))), .second, .val (.ref r66), .val (.ref zz)] [(.long ((1 : Int64) * (u0 - u0)))]))
  refine Wp.retJ X159 hx Bd.returns (hb hby d23_118) hlk ?_ (by decide) (by decide)
  show Q23_f Z d0 u0 u1 ln c0 ra de am pe b0 x0 x1 zz h0 n0 (some (.long ((1 : Int64) * (u0 - u0)))) T159.heap _
  rw [e159]
  exact ⟨(by rw [own_lo1]), N159, K127, c128, c143, c144, c145, c146⟩
theorem d23_17 : decode prog_12_method_4_code 17 = .ok (.ldc2_w 59, 3) := by decide +kernel
theorem d23_20 : decode prog_12_method_4_code 20 = .ok (.lstore 5, 2) := by decide +kernel
theorem d23_22 : decode prog_12_method_4_code 22 = .ok (.goto 94, 3) := by decide +kernel
def Q23_n (Z : State) (d0 : Addr) (u0 : Int64) (u1 : Int64) (ln : Int64) (c0 : Addr) (ra : Addr) (de : Addr) (am : Int64) (pe : Int64) (b0 : Int64) (x0 : Int64) (x1 : Int64) (zz : Addr) (h0 : Heap) (n0 : Nat) (v : Option Value) (h : Heap) (L : List Loc) : Prop := v = some (.long (9223372036854775807 : Int64)) ∧ Fr n0 L ∧ Keep h0 h [d0] ∧ Exa Z h d0 "com/example/gentle_bucket/gentlebucket/Meter" ∧ Fld Z h d0 "com/example/gentle_bucket/gentlebucket/Meter" "levelNanos" "J" (.long u0) ∧ Fld Z h d0 "com/example/gentle_bucket/gentlebucket/Meter" "contract" "Lcom/example/gentle_bucket/gentlebucket/Contract;" (.ref c0) ∧ Fld Z h d0 "com/example/gentle_bucket/gentlebucket/Meter" "levelHigh" "J" (.long (0 : Int64)) ∧ Fld Z h d0 "com/example/gentle_bucket/gentlebucket/Meter" "levelLow" "J" (.long (0 : Int64))
set_option maxRecDepth 65536 in
set_option maxHeartbeats 40000000 in
theorem rm23_n (l : Launch) (Z : State) (a0 : Array Value) (hw : ∀ d ∈ tables_1, d.before a0 Z = true) (ws : List Jvm.Cond) (d0 : Addr) (u0 : Int64) (u1 : Int64) (ln : Int64) (c0 : Addr) (ra : Addr) (de : Addr) (am : Int64) (pe : Int64) (b0 : Int64) (x0 : Int64) (x1 : Int64) (zz : Addr) (h0 : Heap) (n0 : Nat) (Z0 : n0 ≤ h0.size) (g_d0 : n0 ≤ d0) (E_d0 : Exa Z h0 d0 "com/example/gentle_bucket/gentlebucket/Meter") (F_levelNanos_d0 : Fld Z h0 d0 "com/example/gentle_bucket/gentlebucket/Meter" "levelNanos" "J" (.long ln)) (F_contract_d0 : Fld Z h0 d0 "com/example/gentle_bucket/gentlebucket/Meter" "contract" "Lcom/example/gentle_bucket/gentlebucket/Contract;" (.ref c0)) (F_levelHigh_d0 : Fld Z h0 d0 "com/example/gentle_bucket/gentlebucket/Meter" "levelHigh" "J" (.long (0 : Int64))) (F_levelLow_d0 : Fld Z h0 d0 "com/example/gentle_bucket/gentlebucket/Meter" "levelLow" "J" (.long (0 : Int64))) (E_c0 : Exa Z h0 c0 "com/example/gentle_bucket/gentlebucket/Contract") (F_rate_c0 : Fld Z h0 c0 "com/example/gentle_bucket/gentlebucket/Contract" "rate" "Lcom/example/gentle_bucket/gentlebucket/Rate;" (.ref ra)) (F_depth_c0 : Fld Z h0 c0 "com/example/gentle_bucket/gentlebucket/Contract" "depth" "Lcom/example/gentle_bucket/gentlebucket/Uint128;" (.ref de)) (F_burst_c0 : Fld Z h0 c0 "com/example/gentle_bucket/gentlebucket/Contract" "burst" "J" (.long b0)) (E_ra : Exa Z h0 ra "com/example/gentle_bucket/gentlebucket/Rate") (F_amount_ra : Fld Z h0 ra "com/example/gentle_bucket/gentlebucket/Rate" "amount" "J" (.long am)) (F_periodNanos_ra : Fld Z h0 ra "com/example/gentle_bucket/gentlebucket/Rate" "periodNanos" "J" (.long pe)) (E_de : Exa Z h0 de "com/example/gentle_bucket/gentlebucket/Uint128") (F_high_de : Fld Z h0 de "com/example/gentle_bucket/gentlebucket/Uint128" "high" "J" (.long x0)) (F_low_de : Fld Z h0 de "com/example/gentle_bucket/gentlebucket/Uint128" "low" "J" (.long x1)) (S_ZERO_zz : Sta Z h0 "com/example/gentle_bucket/gentlebucket/Uint128" "ZERO" "Lcom/example/gentle_bucket/gentlebucket/Uint128;" (.ref zz)) (E_zz : Exa Z h0 zz "com/example/gentle_bucket/gentlebucket/Uint128") (F_high_zz : Fld Z h0 zz "com/example/gentle_bucket/gentlebucket/Uint128" "high" "J" (.long (0 : Int64))) (F_low_zz : Fld Z h0 zz "com/example/gentle_bucket/gentlebucket/Uint128" "low" "J" (.long (0 : Int64))) (hc : ¬ u1 < 1) (hnf : b0 < u1) (hln : ¬ ln < u0 → ln = u0) :
    MetFree l (⟨"com/example/gentle_bucket/gentlebucket/Meter", "waitNanos", "(JJ)J"⟩ : MethodName) (head1 (Jvm.Cond.code (⟨"com/example/gentle_bucket/gentlebucket/Meter", "waitNanos", "(JJ)J"⟩ : MethodName) prog_12_method_4_code 9 (some .long) :: ws) ({ frames := 6, cells := 2, slots := 4, locals := 87 } : Room)) (fun a U => a = #[(.ref d0), (.long u0), (.long u1)] ∧ Z.Warmed39 U.vm ∧ U.heap = h0) (fun _ _ _ _ _ => True) (fun _ U o U' => ∃ v L, o = .returned v ∧ Q23_n Z d0 u0 u1 ln c0 ra de am pe b0 x0 x1 zz h0 n0 v U'.heap L ∧ FrameEnd U o U' L ({ frames := 6, cells := 2, slots := 4, locals := 87 } : Room).cells ({ frames := 6, cells := 2, slots := 4, locals := 87 } : Room).slots) := by
  refine MetFree.of_bodySF (plainFor_of_name pn_com_example_gentle_bucket_gentlebucket_Meter) hisR ?_
  intro p e s m args below meth c s₁ Bd hml0 hP hK
  obtain ⟨rfl, hZ, hh⟩ := hP
  have hx := Bd.exec
  have hby := Bd.bytes
  have hlk : meth.locks = false := Bd.notSynchronized
  have hml : c.maxLocals = 9 := hml0
  have hown : s.vm.findClass "com/example/gentle_bucket/gentlebucket/Meter" = some m.cls := findClass_of_methodNamed Bd.named
  have hnm := (name_of_methodNamed Bd.named Bd.method).1
  have X0 : Stand p l e ({ frames := 6, cells := 2, slots := 4, locals := 87 } : Room) s m #[(.ref d0), (.long u0), (.long u1)] below meth c s₁ [] 0 0 := Stand.of_body Bd
  have e0 : s₁.heap = h0 := by rw [← hh, Bd.state]; rfl
  have N0 := Fr.nil n0
  have K0 : Keep h0 h0 [d0] := Keep.refl h0 _
  show Wp p e below (Out s (Q23_n Z d0 u0 u1 ln c0 ra de am pe b0 x0 x1 zz h0 n0) ({ frames := 6, cells := 2, slots := 4, locals := 87 } : Room).cells ({ frames := 6, cells := 2, slots := 4, locals := 87 } : Room).slots) (s₁.setTop (entryFrame m #[(.ref d0), (.long u0), (.long u1)] 9))
  rw [ef_23_000]
  show Wp p e below _ (s₁.setTop (mkF m 0 #[.val (.ref d0), .val (.long u0), .second, .val (.long u1), .second, .unset, .unset, .unset, .unset] []))
  refine Wp.step (fun t k => XS.lloadN X0.here hx rfl (hb hby d23_0) rfl k) ?_
  show Wp p e below _ (s₁.setTop (mkF m 1 #[.val (.ref d0), .val (.long u0), .second, .val (.long u1), .second, .unset, .unset, .unset, .unset] [(.long u1)]))
  obtain ⟨_, _, ⟨T1, L1, k1, n1⟩, -, X1, ⟨Lc1, hQ1, l1, y1, z1⟩, st1⟩ := Jvm.LawKit.callS X0 hx (y := (⟨"com/example/gentle_bucket/gentlebucket/Asks", "checkCost", "(J)V"⟩ : MethodName)) hown (mvT hZ (hw _ (List.mem_of_getElem? (i := 143) rfl))) (mvT hZ (hw _ (List.mem_of_getElem? (i := 144) rfl))) (mvT hZ (hw _ (List.mem_of_getElem? (i := 145) rfl))) (mvT hZ (hw _ (List.mem_of_getElem? (i := 146) rfl))) (by decide) (backOf (W := 0) (rm24 l Z a0 hw [] u1  h0 n0 (Nat.le_trans Z0 K0.1)  hc) hZ (hw _ (List.mem_of_getElem? (i := 146) rfl)) (hw _ (List.mem_of_getElem? (i := 145) rfl)) (by decide) (by decide)) (g := (mkF m 1 #[.val (.ref d0), .val (.long u0), .second, .val (.long u1), .second, .unset, .unset, .unset, .unset] [(.long u1)])) rfl (by rw [hml]; rfl) (argsL := [(.long u1)]) (rest := []) (lenOf pd_28J29V rfl) rfl (by show 2 * 0 + _ ≤ _; exact Nat.le_of_eq rfl) (hb hby d23_1) (fun _ _ => ⟨rfl, e0, (by decide : 0 + 0 ≤ _), (by decide : 0 + 0 ≤ _)⟩)
  dsimp only [Pt.U, Pt.locs, Pt.cells, Pt.slots] at X1 l1 y1 z1 st1 hQ1
  subst l1 y1 z1
  obtain ⟨rfl, N1q, e1⟩ := hQ1
  have N1 := Fr.app N0 N1q
  refine Wp.step st1 ?_
  show Wp p e below _ (T1.setTop (mkF m 4 #[.val (.ref d0), .val (.long u0), .second, .val (.long u1), .second, .unset, .unset, .unset, .unset] []))
  refine Wp.step (fun t k => XS.aloadN X1.here hx rfl (hb hby d23_4) rfl rfl k) ?_
  show Wp p e below _ (T1.setTop (mkF m 5 #[.val (.ref d0), .val (.long u0), .second, .val (.long u1), .second, .unset, .unset, .unset, .unset] [(.ref d0)]))
  refine Wp.step (fun t k => XS.lloadN X1.here hx rfl (hb hby d23_5) rfl k) ?_
  show Wp p e below _ (T1.setTop (mkF m 6 #[.val (.ref d0), .val (.long u0), .second, .val (.long u1), .second, .unset, .unset, .unset, .unset] [(.long u0), (.ref d0)]))
  obtain ⟨cq2, q2, q2'⟩ := E_d0.cell
  obtain ⟨_, _, ⟨T2, L2, k2, n2⟩, -, X2, ⟨Lc2, hQ2, l2, y2, z2⟩, st2⟩ := X1.privateBack hx (y := (⟨"com/example/gentle_bucket/gentlebucket/Meter", "drainUntil", "(J)V"⟩ : MethodName)) hown (mvT hZ (hw _ (List.mem_of_getElem? (i := 147) rfl))) (mvT hZ (hw _ (List.mem_of_getElem? (i := 148) rfl))) (own_selP hZ (hw _ (List.mem_of_getElem? (i := 6) rfl)) (hw _ (List.mem_of_getElem? (i := 149) rfl)) (hw _ (List.mem_of_getElem? (i := 148) rfl)) (by decide)) (Cond.privateMethod_at (mvP hZ (hw _ (List.mem_of_getElem? (i := 149) rfl)) (args := #[]))) (mvT hZ (hw _ (List.mem_of_getElem? (i := 150) rfl))) (by decide) (backOf (W := 0) (rm25 l Z a0 hw [] d0 u0 ln c0 ra de am pe b0 x0 x1 zz h0 n0 (Nat.le_trans Z0 K0.1) g_d0 E_d0 F_levelNanos_d0 F_contract_d0 F_levelHigh_d0 F_levelLow_d0 E_c0 F_rate_c0 F_depth_c0 F_burst_c0 E_ra F_amount_ra F_periodNanos_ra E_de F_high_de F_low_de S_ZERO_zz E_zz F_high_zz F_low_zz hln) hZ (hw _ (List.mem_of_getElem? (i := 150) rfl)) (hw _ (List.mem_of_getElem? (i := 7) rfl)) (by decide) (by decide)) (g := (mkF m 6 #[.val (.ref d0), .val (.long u0), .second, .val (.long u1), .second, .unset, .unset, .unset, .unset] [(.long u0), (.ref d0)])) rfl (by rw [hml]; rfl) (Steps.refl _) (a := d0) (by rw [e1]; exact q2) q2' (argsL := [(.long u0)]) (rest := []) (lenOf pd_28J29V rfl) rfl (by show 2 * 0 + _ ≤ _; exact Nat.le_of_eq rfl) (hb hby d23_6) (fun _ _ => ⟨rfl, e1, (by decide : 0 + 2 ≤ _), (by decide : 0 + 4 ≤ _)⟩)
  dsimp only [Pt.U, Pt.locs, Pt.cells, Pt.slots] at X2 l2 y2 z2 st2 hQ2
  subst l2 y2 z2
  obtain ⟨h2, e2⟩ : ∃ z, T2.heap = z := ⟨_, rfl⟩
  rw [e2] at hQ2
  obtain ⟨rfl, N2q, Kc2, o2_0, o2_1, o2_2, o2_3, o2_4⟩ := hQ2
  have N2 := Fr.app N1 N2q
  have c3 := E_d0.keep Kc2
  have c4 := E_c0.keep Kc2
  have c5 := F_rate_c0.keep Kc2 (ninS (own_ne_cls c4 c3 (by decide)) nin0)
  have c6 := F_depth_c0.keep Kc2 (ninS (own_ne_cls c4 c3 (by decide)) nin0)
  have c7 := F_burst_c0.keep Kc2 (ninS (own_ne_cls c4 c3 (by decide)) nin0)
  have c8 := E_ra.keep Kc2
  have c9 := F_amount_ra.keep Kc2 (ninS (own_ne_cls c8 c3 (by decide)) nin0)
  have c10 := F_periodNanos_ra.keep Kc2 (ninS (own_ne_cls c8 c3 (by decide)) nin0)
  have c11 := E_de.keep Kc2
  have c12 := F_high_de.keep Kc2 (ninS (own_ne_cls c11 c3 (by decide)) nin0)
  have c13 := F_low_de.keep Kc2 (ninS (own_ne_cls c11 c3 (by decide)) nin0)
  have c14 := own_sta_keep S_ZERO_zz Kc2 (allS (own_ns E_d0) all0)
  have c15 := E_zz.keep Kc2
  have c16 := F_high_zz.keep Kc2 (ninS (own_ne_cls c15 c3 (by decide)) nin0)
  have c17 := F_low_zz.keep Kc2 (ninS (own_ne_cls c15 c3 (by decide)) nin0)
  have K2 := K0.trans Kc2 (allS (Or.inl (List.mem_of_getElem? (i := 0) rfl)) all0)
  refine Wp.go st2 ?_
  show Wp p e below _ (T2.setTop (mkF m 9 #[.val (.ref d0), .val (.long u0), .second, .val (.long u1), .second, .unset, .unset, .unset, .unset] []))
  refine Wp.step (fun t k => XS.aloadN X2.here hx rfl (hb hby d23_9) rfl rfl k) ?_
  show Wp p e below _ (T2.setTop (mkF m 10 #[.val (.ref d0), .val (.long u0), .second, .val (.long u1), .second, .unset, .unset, .unset, .unset] [(.ref d0)]))
  refine Wp.step (fun t k => XS.lloadN X2.here hx rfl (hb hby d23_10) rfl k) ?_
  show Wp p e below _ (T2.setTop (mkF m 11 #[.val (.ref d0), .val (.long u0), .second, .val (.long u1), .second, .unset, .unset, .unset, .unset] [(.long u1), (.ref d0)]))
  obtain ⟨cq18, kq18, q18a, q18b, q18c⟩ := isOf hZ e2 o2_0
  obtain ⟨_, _, ⟨T18, L18, k18, n18⟩, -, X18, ⟨Lc18, hQ18, l18, y18, z18⟩, st18⟩ := X2.virtualBack hx (y := (⟨"com/example/gentle_bucket/gentlebucket/Meter", "neverFits", "(J)Z"⟩ : MethodName)) (z := (⟨"com/example/gentle_bucket/gentlebucket/Meter", "neverFits", "(J)Z"⟩ : MethodName)) hown (mvT hZ (hw _ (List.mem_of_getElem? (i := 205) rfl))) (mvT hZ (hw _ (List.mem_of_getElem? (i := 118) rfl))) (notFace_of_selects (args := #[]) (mvT hZ (hw _ (List.mem_of_getElem? (i := 120) rfl)))) (mvT hZ (hw _ (List.mem_of_getElem? (i := 120) rfl))) (mvT hZ (hw _ (List.mem_of_getElem? (i := 119) rfl))) (by decide) (backOf (W := 0) (rm19 l Z a0 hw [] d0 u1 c0 b0 h2 n0 (Nat.le_trans Z0 K2.1) o2_2 c4 c7 ) hZ (hw _ (List.mem_of_getElem? (i := 121) rfl)) (hw _ (List.mem_of_getElem? (i := 7) rfl)) (by decide) (by decide)) q18a q18c (g := (mkF m 11 #[.val (.ref d0), .val (.long u0), .second, .val (.long u1), .second, .unset, .unset, .unset, .unset] [(.long u1), (.ref d0)])) rfl (by rw [hml]; rfl) (Steps.refl _) (argsL := [(.long u1)]) (rest := []) (lenOf pd_28J29Z rfl) rfl (by show 2 * 0 + _ ≤ _; exact Nat.le_of_eq rfl) (hb hby d23_11) (fun _ _ => ⟨rfl, e2, (by decide : 2 + 0 ≤ _), (by decide : 4 + 0 ≤ _)⟩)
  dsimp only [Pt.U, Pt.locs, Pt.cells, Pt.slots] at X18 l18 y18 z18 st18 hQ18
  subst l18 y18 z18
  obtain ⟨rfl, N18q, e18⟩ := hQ18
  have N18 := Fr.app N2 N18q
  refine Wp.go st18 ?_
  show Wp p e below _ (T18.setTop (mkF m 14 #[.val (.ref d0), .val (.long u0), .second, .val (.long u1), .second, .unset, .unset, .unset, .unset] [(.int (own_nf u1 b0))]))
  refine Wp.step (fun t k => XS.ifNo X18.here hx rfl (hb hby d23_14) rfl ((if0 _ _).trans (feq (show ¬ ((own_nf u1 b0) = (0 : Int32)) from (by rw [own_nf, if_pos hnf]; decide))).1) k) ?_
  show Wp p e below _ (T18.setTop (mkF m 17 #[.val (.ref d0), .val (.long u0), .second, .val (.long u1), .second, .unset, .unset, .unset, .unset] []))
  refine Wp.step (X18.ldc2Long hx hown (mvT hZ (hw _ (List.mem_of_getElem? (i := 233) rfl))) (g := (mkF m 17 #[.val (.ref d0), .val (.long u0), .second, .val (.long u1), .second, .unset, .unset, .unset, .unset] [])) rfl (hb hby d23_17)) ?_
  show Wp p e below _ (T18.setTop (mkF m 20 #[.val (.ref d0), .val (.long u0), .second, .val (.long u1), .second, .unset, .unset, .unset, .unset] [(.long (9223372036854775807 : Int64))]))
  refine Wp.step (fun t k => XS.lstore X18.here hx rfl (hb hby d23_20) rfl (l' := #[.val (.ref d0), .val (.long u0), .second, .val (.long u1), .second, .val (.long (9223372036854775807 : Int64)), .second, .unset, .unset]) rfl k) ?_
  show Wp p e below _ (T18.setTop (mkF m 22 #[.val (.ref d0), .val (.long u0), .second, .val (.long u1), .second, .val (.long (9223372036854775807 : Int64)), .second, .unset, .unset] []))
  refine Wp.step (fun t k => XS.goto X18.here hx rfl (pc0 := 22) (pc' := 116) rfl (hb hby d23_22) (by decide) (by decide) k) ?_
  show Wp p e below _ (T18.setTop (mkF m 116 #[.val (.ref d0), .val (.long u0), .second, .val (.long u1), .second, .val (.long (9223372036854775807 : Int64)), .second, .unset, .unset] []))
  refine Wp.step (fun t k => XS.lload X18.here hx rfl (hb hby d23_116) rfl k) ?_
  show Wp p e below _ (T18.setTop (mkF m 118 #[.val (.ref d0), .val (.long u0), .second, .val (.long u1), .second, .val (.long (9223372036854775807 : Int64)), .second, .unset, .unset] [(.long (9223372036854775807 : Int64))]))
  refine Wp.retJ X18 hx Bd.returns (hb hby d23_118) hlk ?_ (by decide) (by decide)
  show Q23_n Z d0 u0 u1 ln c0 ra de am pe b0 x0 x1 zz h0 n0 (some (.long (9223372036854775807 : Int64))) T18.heap _
  rw [e18]
  exact ⟨rfl, N18, K2, o2_0, o2_1, o2_2, o2_3, o2_4⟩
theorem d39_0 : decode prog_12_method_8_code 0 = .ok (.aload_n 0, 1) := by decide +kernel
theorem d39_1 : decode prog_12_method_8_code 1 = .ok (.lload_n 1, 1) := by decide +kernel
theorem d39_2 : decode prog_12_method_8_code 2 = .ok (.invokevirtual 52, 3) := by decide +kernel
theorem d39_5 : decode prog_12_method_8_code 5 = .ok (.aload_n 0, 1) := by decide +kernel
theorem d39_6 : decode prog_12_method_8_code 6 = .ok (.aload_n 0, 1) := by decide +kernel
theorem d39_7 : decode prog_12_method_8_code 7 = .ok (.invokevirtual 61, 3) := by decide +kernel
theorem d39_10 : decode prog_12_method_8_code 10 = .ok (.lload_n 3, 1) := by decide +kernel
theorem d39_11 : decode prog_12_method_8_code 11 = .ok (.aload_n 0, 1) := by decide +kernel
theorem d39_12 : decode prog_12_method_8_code 12 = .ok (.getfield 33, 3) := by decide +kernel
theorem d39_15 : decode prog_12_method_8_code 15 = .ok (.invokevirtual 65, 3) := by decide +kernel
theorem d39_18 : decode prog_12_method_8_code 18 = .ok (.invokevirtual 69, 3) := by decide +kernel
theorem d39_21 : decode prog_12_method_8_code 21 = .ok (.invokestatic 75, 3) := by decide +kernel
theorem d39_24 : decode prog_12_method_8_code 24 = .ok (.invokevirtual 81, 3) := by decide +kernel
theorem d39_27 : decode prog_12_method_8_code 27 = .ok (.invokevirtual 115, 3) := by decide +kernel
theorem d39_30 : decode prog_12_method_8_code 30 = .ok (.return_, 1) := by decide +kernel
theorem ef_39_000 (m : MethodId) (x0 : Addr) (x1 : Int64) (x2 : Int64) : entryFrame m #[(.ref x0), (.long x1), (.long x2)] 5 = mkF m 0 #[.val (.ref x0), .val (.long x1), .second, .val (.long x2), .second] [] := by first | (simp [entryFrame, mkF, argsToLocals, Value.category]; done) | rfl
def Q39 (Z : State) (d0 : Addr) (u0 : Int64) (u1 : Int64) (ln : Int64) (c0 : Addr) (ra : Addr) (de : Addr) (am : Int64) (pe : Int64) (b0 : Int64) (x0 : Int64) (x1 : Int64) (zz : Addr) (h0 : Heap) (n0 : Nat) (v : Option Value) (h : Heap) (L : List Loc) : Prop := v = none ∧ Fr n0 L ∧ Keep h0 h [d0] ∧ Exa Z h d0 "com/example/gentle_bucket/gentlebucket/Meter"
set_option maxRecDepth 65536 in
set_option maxHeartbeats 40000000 in
theorem rm39 (l : Launch) (Z : State) (a0 : Array Value) (hw : ∀ d ∈ tables_1, d.before a0 Z = true) (ws : List Jvm.Cond) (d0 : Addr) (u0 : Int64) (u1 : Int64) (ln : Int64) (c0 : Addr) (ra : Addr) (de : Addr) (am : Int64) (pe : Int64) (b0 : Int64) (x0 : Int64) (x1 : Int64) (zz : Addr) (h0 : Heap) (n0 : Nat) (Z0 : n0 ≤ h0.size) (g_d0 : n0 ≤ d0) (E_d0 : Exa Z h0 d0 "com/example/gentle_bucket/gentlebucket/Meter") (F_levelNanos_d0 : Fld Z h0 d0 "com/example/gentle_bucket/gentlebucket/Meter" "levelNanos" "J" (.long ln)) (F_contract_d0 : Fld Z h0 d0 "com/example/gentle_bucket/gentlebucket/Meter" "contract" "Lcom/example/gentle_bucket/gentlebucket/Contract;" (.ref c0)) (F_levelHigh_d0 : Fld Z h0 d0 "com/example/gentle_bucket/gentlebucket/Meter" "levelHigh" "J" (.long (0 : Int64))) (F_levelLow_d0 : Fld Z h0 d0 "com/example/gentle_bucket/gentlebucket/Meter" "levelLow" "J" (.long (0 : Int64))) (E_c0 : Exa Z h0 c0 "com/example/gentle_bucket/gentlebucket/Contract") (F_rate_c0 : Fld Z h0 c0 "com/example/gentle_bucket/gentlebucket/Contract" "rate" "Lcom/example/gentle_bucket/gentlebucket/Rate;" (.ref ra)) (F_depth_c0 : Fld Z h0 c0 "com/example/gentle_bucket/gentlebucket/Contract" "depth" "Lcom/example/gentle_bucket/gentlebucket/Uint128;" (.ref de)) (F_burst_c0 : Fld Z h0 c0 "com/example/gentle_bucket/gentlebucket/Contract" "burst" "J" (.long b0)) (E_ra : Exa Z h0 ra "com/example/gentle_bucket/gentlebucket/Rate") (F_amount_ra : Fld Z h0 ra "com/example/gentle_bucket/gentlebucket/Rate" "amount" "J" (.long am)) (F_periodNanos_ra : Fld Z h0 ra "com/example/gentle_bucket/gentlebucket/Rate" "periodNanos" "J" (.long pe)) (E_de : Exa Z h0 de "com/example/gentle_bucket/gentlebucket/Uint128") (F_high_de : Fld Z h0 de "com/example/gentle_bucket/gentlebucket/Uint128" "high" "J" (.long x0)) (F_low_de : Fld Z h0 de "com/example/gentle_bucket/gentlebucket/Uint128" "low" "J" (.long x1)) (S_ZERO_zz : Sta Z h0 "com/example/gentle_bucket/gentlebucket/Uint128" "ZERO" "Lcom/example/gentle_bucket/gentlebucket/Uint128;" (.ref zz)) (E_zz : Exa Z h0 zz "com/example/gentle_bucket/gentlebucket/Uint128") (F_high_zz : Fld Z h0 zz "com/example/gentle_bucket/gentlebucket/Uint128" "high" "J" (.long (0 : Int64))) (F_low_zz : Fld Z h0 zz "com/example/gentle_bucket/gentlebucket/Uint128" "low" "J" (.long (0 : Int64))) (hln : ¬ ln < u0 → ln = u0) :
    MetFree l (⟨"com/example/gentle_bucket/gentlebucket/Meter", "add", "(JJ)V"⟩ : MethodName) (head1 (Jvm.Cond.code (⟨"com/example/gentle_bucket/gentlebucket/Meter", "add", "(JJ)V"⟩ : MethodName) prog_12_method_8_code 5 none :: ws) ({ frames := 6, cells := 5, slots := 10, locals := 87 } : Room)) (fun a U => a = #[(.ref d0), (.long u0), (.long u1)] ∧ Z.Warmed39 U.vm ∧ U.heap = h0) (fun _ _ _ _ _ => True) (fun _ U o U' => ∃ v L, o = .returned v ∧ Q39 Z d0 u0 u1 ln c0 ra de am pe b0 x0 x1 zz h0 n0 v U'.heap L ∧ FrameEnd U o U' L ({ frames := 6, cells := 5, slots := 10, locals := 87 } : Room).cells ({ frames := 6, cells := 5, slots := 10, locals := 87 } : Room).slots) := by
  refine MetFree.of_bodySF (plainFor_of_name pn_com_example_gentle_bucket_gentlebucket_Meter) hisR ?_
  intro p e s m args below meth c s₁ Bd hml0 hP hK
  obtain ⟨rfl, hZ, hh⟩ := hP
  have hx := Bd.exec
  have hby := Bd.bytes
  have hlk : meth.locks = false := Bd.notSynchronized
  have hml : c.maxLocals = 5 := hml0
  have hown : s.vm.findClass "com/example/gentle_bucket/gentlebucket/Meter" = some m.cls := findClass_of_methodNamed Bd.named
  have hnm := (name_of_methodNamed Bd.named Bd.method).1
  have X0 : Stand p l e ({ frames := 6, cells := 5, slots := 10, locals := 87 } : Room) s m #[(.ref d0), (.long u0), (.long u1)] below meth c s₁ [] 0 0 := Stand.of_body Bd
  have e0 : s₁.heap = h0 := by rw [← hh, Bd.state]; rfl
  have N0 := Fr.nil n0
  have K0 : Keep h0 h0 [d0] := Keep.refl h0 _
  show Wp p e below (Out s (Q39 Z d0 u0 u1 ln c0 ra de am pe b0 x0 x1 zz h0 n0) ({ frames := 6, cells := 5, slots := 10, locals := 87 } : Room).cells ({ frames := 6, cells := 5, slots := 10, locals := 87 } : Room).slots) (s₁.setTop (entryFrame m #[(.ref d0), (.long u0), (.long u1)] 5))
  rw [ef_39_000]
  show Wp p e below _ (s₁.setTop (mkF m 0 #[.val (.ref d0), .val (.long u0), .second, .val (.long u1), .second] []))
  refine Wp.step (fun t k => XS.aloadN X0.here hx rfl (hb hby d39_0) rfl rfl k) ?_
  show Wp p e below _ (s₁.setTop (mkF m 1 #[.val (.ref d0), .val (.long u0), .second, .val (.long u1), .second] [(.ref d0)]))
  refine Wp.step (fun t k => XS.lloadN X0.here hx rfl (hb hby d39_1) rfl k) ?_
  show Wp p e below _ (s₁.setTop (mkF m 2 #[.val (.ref d0), .val (.long u0), .second, .val (.long u1), .second] [(.long u0), (.ref d0)]))
  obtain ⟨cq1, q1, q1'⟩ := E_d0.cell
  obtain ⟨_, _, ⟨T1, L1, k1, n1⟩, -, X1, ⟨Lc1, hQ1, l1, y1, z1⟩, st1⟩ := X0.privateBack hx (y := (⟨"com/example/gentle_bucket/gentlebucket/Meter", "drainUntil", "(J)V"⟩ : MethodName)) hown (mvT hZ (hw _ (List.mem_of_getElem? (i := 147) rfl))) (mvT hZ (hw _ (List.mem_of_getElem? (i := 148) rfl))) (own_selP hZ (hw _ (List.mem_of_getElem? (i := 6) rfl)) (hw _ (List.mem_of_getElem? (i := 149) rfl)) (hw _ (List.mem_of_getElem? (i := 148) rfl)) (by decide)) (Cond.privateMethod_at (mvP hZ (hw _ (List.mem_of_getElem? (i := 149) rfl)) (args := #[]))) (mvT hZ (hw _ (List.mem_of_getElem? (i := 150) rfl))) (by decide) (backOf (W := 0) (rm25 l Z a0 hw [] d0 u0 ln c0 ra de am pe b0 x0 x1 zz h0 n0 (Nat.le_trans Z0 K0.1) g_d0 E_d0 F_levelNanos_d0 F_contract_d0 F_levelHigh_d0 F_levelLow_d0 E_c0 F_rate_c0 F_depth_c0 F_burst_c0 E_ra F_amount_ra F_periodNanos_ra E_de F_high_de F_low_de S_ZERO_zz E_zz F_high_zz F_low_zz hln) hZ (hw _ (List.mem_of_getElem? (i := 150) rfl)) (hw _ (List.mem_of_getElem? (i := 7) rfl)) (by decide) (by decide)) (g := (mkF m 2 #[.val (.ref d0), .val (.long u0), .second, .val (.long u1), .second] [(.long u0), (.ref d0)])) rfl (by rw [hml]; rfl) (Steps.refl _) (a := d0) (by rw [e0]; exact q1) q1' (argsL := [(.long u0)]) (rest := []) (lenOf pd_28J29V rfl) rfl (by show 2 * 0 + _ ≤ _; exact Nat.le_of_eq rfl) (hb hby d39_2) (fun _ _ => ⟨rfl, e0, (by decide : 0 + 2 ≤ _), (by decide : 0 + 4 ≤ _)⟩)
  dsimp only [Pt.U, Pt.locs, Pt.cells, Pt.slots] at X1 l1 y1 z1 st1 hQ1
  subst l1 y1 z1
  obtain ⟨h1, e1⟩ : ∃ z, T1.heap = z := ⟨_, rfl⟩
  rw [e1] at hQ1
  obtain ⟨rfl, N1q, Kc1, o1_0, o1_1, o1_2, o1_3, o1_4⟩ := hQ1
  have N1 := Fr.app N0 N1q
  have c2 := E_d0.keep Kc1
  have c3 := E_c0.keep Kc1
  have c4 := F_rate_c0.keep Kc1 (ninS (own_ne_cls c3 c2 (by decide)) nin0)
  have c5 := F_depth_c0.keep Kc1 (ninS (own_ne_cls c3 c2 (by decide)) nin0)
  have c6 := F_burst_c0.keep Kc1 (ninS (own_ne_cls c3 c2 (by decide)) nin0)
  have c7 := E_ra.keep Kc1
  have c8 := F_amount_ra.keep Kc1 (ninS (own_ne_cls c7 c2 (by decide)) nin0)
  have c9 := F_periodNanos_ra.keep Kc1 (ninS (own_ne_cls c7 c2 (by decide)) nin0)
  have c10 := E_de.keep Kc1
  have c11 := F_high_de.keep Kc1 (ninS (own_ne_cls c10 c2 (by decide)) nin0)
  have c12 := F_low_de.keep Kc1 (ninS (own_ne_cls c10 c2 (by decide)) nin0)
  have c13 := own_sta_keep S_ZERO_zz Kc1 (allS (own_ns E_d0) all0)
  have c14 := E_zz.keep Kc1
  have c15 := F_high_zz.keep Kc1 (ninS (own_ne_cls c14 c2 (by decide)) nin0)
  have c16 := F_low_zz.keep Kc1 (ninS (own_ne_cls c14 c2 (by decide)) nin0)
  have K1 := K0.trans Kc1 (allS (Or.inl (List.mem_of_getElem? (i := 0) rfl)) all0)
  refine Wp.go st1 ?_
  show Wp p e below _ (T1.setTop (mkF m 5 #[.val (.ref d0), .val (.long u0), .second, .val (.long u1), .second] []))
  refine Wp.step (fun t k => XS.aloadN X1.here hx rfl (hb hby d39_5) rfl rfl k) ?_
  show Wp p e below _ (T1.setTop (mkF m 6 #[.val (.ref d0), .val (.long u0), .second, .val (.long u1), .second] [(.ref d0)]))
  refine Wp.step (fun t k => XS.aloadN X1.here hx rfl (hb hby d39_6) rfl rfl k) ?_
  show Wp p e below _ (T1.setTop (mkF m 7 #[.val (.ref d0), .val (.long u0), .second, .val (.long u1), .second] [(.ref d0), (.ref d0)]))
  obtain ⟨cq17, q17, q17'⟩ := o1_0.cell
  obtain ⟨_, _, ⟨T17, L17, k17, n17⟩, -, X17, ⟨Lc17, hQ17, l17, y17, z17⟩, st17⟩ := X1.privateBack hx (y := (⟨"com/example/gentle_bucket/gentlebucket/Meter", "level", "()Lcom/example/gentle_bucket/gentlebucket/Uint128;"⟩ : MethodName)) hown (mvT hZ (hw _ (List.mem_of_getElem? (i := 166) rfl))) (mvT hZ (hw _ (List.mem_of_getElem? (i := 167) rfl))) (own_selP hZ (hw _ (List.mem_of_getElem? (i := 6) rfl)) (hw _ (List.mem_of_getElem? (i := 168) rfl)) (hw _ (List.mem_of_getElem? (i := 167) rfl)) (by decide)) (Cond.privateMethod_at (mvP hZ (hw _ (List.mem_of_getElem? (i := 168) rfl)) (args := #[]))) (mvT hZ (hw _ (List.mem_of_getElem? (i := 169) rfl))) (by decide) (backOf (W := 1) (rm29 l Z a0 hw [] d0 (0 : Int64) (0 : Int64) h1 n0 (Nat.le_trans Z0 K1.1) o1_3 o1_4 ) hZ (hw _ (List.mem_of_getElem? (i := 169) rfl)) (hw _ (List.mem_of_getElem? (i := 7) rfl)) (by decide) (by decide)) (g := (mkF m 7 #[.val (.ref d0), .val (.long u0), .second, .val (.long u1), .second] [(.ref d0), (.ref d0)])) rfl (by rw [hml]; rfl) (Steps.refl _) (a := d0) (by rw [e1]; exact q17) q17' (argsL := []) (rest := [(.ref d0)]) (lenOf pd_2829Lcom2fexample2fgentle_bucket2fgentlebucket2fUint1283b rfl) rfl (by show 2 * 0 + _ ≤ _; exact Nat.le_of_eq rfl) (hb hby d39_7) (fun _ _ => ⟨rfl, e1, (by decide : 2 + 1 ≤ _), (by decide : 4 + 2 ≤ _)⟩)
  dsimp only [Pt.U, Pt.locs, Pt.cells, Pt.slots] at X17 l17 y17 z17 st17 hQ17
  subst l17 y17 z17
  obtain ⟨h17, e17⟩ : ∃ z, T17.heap = z := ⟨_, rfl⟩
  rw [e17] at hQ17
  obtain ⟨r17, rfl, N17q, Kc17, sz17, o17_0, o17_1, o17_2⟩ := hQ17
  have N17 := Fr.app N1 N17q
  have g_r17 : n0 ≤ r17 := Nat.le_trans (Nat.le_trans Z0 K1.1) sz17
  have sz_r17 : h0.size ≤ r17 := Nat.le_trans K1.1 sz17
  have ne_c0_r17 : c0 ≠ r17 := Nat.ne_of_lt (Nat.lt_of_lt_of_le c3.lt sz17)
  have ne_d0_r17 : d0 ≠ r17 := Nat.ne_of_lt (Nat.lt_of_lt_of_le o1_0.lt sz17)
  have ne_de_r17 : de ≠ r17 := Nat.ne_of_lt (Nat.lt_of_lt_of_le c10.lt sz17)
  have ne_ra_r17 : ra ≠ r17 := Nat.ne_of_lt (Nat.lt_of_lt_of_le c7.lt sz17)
  have ne_zz_r17 : zz ≠ r17 := Nat.ne_of_lt (Nat.lt_of_lt_of_le c14.lt sz17)
  have c18 := o1_0.keep Kc17
  have c19 := c3.keep Kc17
  have c20 := c4.keep Kc17 nin0
  have c21 := c5.keep Kc17 nin0
  have c22 := c6.keep Kc17 nin0
  have c23 := c7.keep Kc17
  have c24 := c8.keep Kc17 nin0
  have c25 := c9.keep Kc17 nin0
  have c26 := c10.keep Kc17
  have c27 := c11.keep Kc17 nin0
  have c28 := c12.keep Kc17 nin0
  have c29 := own_sta_keep c13 Kc17 all0
  have c30 := c14.keep Kc17
  have c31 := c15.keep Kc17 nin0
  have c32 := c16.keep Kc17 nin0
  have c33 := o1_1.keep Kc17 nin0
  have c34 := o1_2.keep Kc17 nin0
  have c35 := o1_3.keep Kc17 nin0
  have c36 := o1_4.keep Kc17 nin0
  have K17 := K1.trans Kc17 all0
  refine Wp.go st17 ?_
  show Wp p e below _ (T17.setTop (mkF m 10 #[.val (.ref d0), .val (.long u0), .second, .val (.long u1), .second] [(.ref r17), (.ref d0)]))
  refine Wp.step (fun t k => XS.lloadN X17.here hx rfl (hb hby d39_10) rfl k) ?_
  show Wp p e below _ (T17.setTop (mkF m 11 #[.val (.ref d0), .val (.long u0), .second, .val (.long u1), .second] [(.long u1), (.ref r17), (.ref d0)]))
  refine Wp.step (fun t k => XS.aloadN X17.here hx rfl (hb hby d39_11) rfl rfl k) ?_
  show Wp p e below _ (T17.setTop (mkF m 12 #[.val (.ref d0), .val (.long u0), .second, .val (.long u1), .second] [(.ref d0), (.long u1), (.ref r17), (.ref d0)]))
  obtain ⟨T37, X37, e37, st37⟩ := getF X17 hx hZ hown (host := "") (Or.inl (hw _ (List.mem_of_getElem? (i := 115) rfl))) Via.refl e17 c34 (g := (mkF m 12 #[.val (.ref d0), .val (.long u0), .second, .val (.long u1), .second] [(.ref d0), (.long u1), (.ref r17), (.ref d0)])) rfl rfl (hb hby d39_12)
  refine Wp.step st37 ?_
  show Wp p e below _ (T37.setTop (mkF m 15 #[.val (.ref d0), .val (.long u0), .second, .val (.long u1), .second] [(.ref c0), (.long u1), (.ref r17), (.ref d0)]))
  obtain ⟨cq38, kq38, q38a, q38b, q38c⟩ := isOf hZ e37 c19
  obtain ⟨_, _, ⟨T38, L38, k38, n38⟩, -, X38, ⟨Lc38, hQ38, l38, y38, z38⟩, st38⟩ := X37.virtualBack hx (y := (⟨"com/example/gentle_bucket/gentlebucket/Contract", "rate", "()Lcom/example/gentle_bucket/gentlebucket/Rate;"⟩ : MethodName)) (z := (⟨"com/example/gentle_bucket/gentlebucket/Contract", "rate", "()Lcom/example/gentle_bucket/gentlebucket/Rate;"⟩ : MethodName)) hown (mvT hZ (hw _ (List.mem_of_getElem? (i := 155) rfl))) (mvT hZ (hw _ (List.mem_of_getElem? (i := 156) rfl))) (notFace_of_selects (args := #[]) (mvT hZ (hw _ (List.mem_of_getElem? (i := 158) rfl)))) (mvT hZ (hw _ (List.mem_of_getElem? (i := 158) rfl))) (mvT hZ (hw _ (List.mem_of_getElem? (i := 157) rfl))) (by decide) (backOf (W := 4) (rm27 l Z a0 hw [] c0 ra h17 n0 (Nat.le_trans Z0 K17.1) c20 ) hZ (hw _ (List.mem_of_getElem? (i := 159) rfl)) (hw _ (List.mem_of_getElem? (i := 10) rfl)) (by decide) (by decide)) q38a q38c (g := (mkF m 15 #[.val (.ref d0), .val (.long u0), .second, .val (.long u1), .second] [(.ref c0), (.long u1), (.ref r17), (.ref d0)])) rfl (by rw [hml]; rfl) (Steps.refl _) (argsL := []) (rest := [(.long u1), (.ref r17), (.ref d0)]) (lenOf pd_2829Lcom2fexample2fgentle_bucket2fgentlebucket2fRate3b rfl) rfl (by show 2 * 0 + _ ≤ _; exact Nat.le_of_eq rfl) (hb hby d39_15) (fun _ _ => ⟨rfl, e37, (by decide : 3 + 0 ≤ _), (by decide : 6 + 0 ≤ _)⟩)
  dsimp only [Pt.U, Pt.locs, Pt.cells, Pt.slots] at X38 l38 y38 z38 st38 hQ38
  subst l38 y38 z38
  obtain ⟨rfl, N38q, e38⟩ := hQ38
  have N38 := Fr.app N17 N38q
  refine Wp.go st38 ?_
  show Wp p e below _ (T38.setTop (mkF m 18 #[.val (.ref d0), .val (.long u0), .second, .val (.long u1), .second] [(.ref ra), (.long u1), (.ref r17), (.ref d0)]))
  obtain ⟨cq39, kq39, q39a, q39b, q39c⟩ := isOf hZ e38 c23
  obtain ⟨_, _, ⟨T39, L39, k39, n39⟩, -, X39, ⟨Lc39, hQ39, l39, y39, z39⟩, st39⟩ := X38.virtualBack hx (y := (⟨"com/example/gentle_bucket/gentlebucket/Rate", "periodNanos", "()J"⟩ : MethodName)) (z := (⟨"com/example/gentle_bucket/gentlebucket/Rate", "periodNanos", "()J"⟩ : MethodName)) hown (mvT hZ (hw _ (List.mem_of_getElem? (i := 206) rfl))) (mvT hZ (hw _ (List.mem_of_getElem? (i := 48) rfl))) (notFace_of_selects (args := #[]) (mvT hZ (hw _ (List.mem_of_getElem? (i := 50) rfl)))) (mvT hZ (hw _ (List.mem_of_getElem? (i := 50) rfl))) (mvT hZ (hw _ (List.mem_of_getElem? (i := 49) rfl))) (by decide) (backOf (W := 4) (rm8 l Z a0 hw [] ra pe h17 n0 (Nat.le_trans Z0 K17.1) c25 ) hZ (hw _ (List.mem_of_getElem? (i := 51) rfl)) (hw _ (List.mem_of_getElem? (i := 13) rfl)) (by decide) (by decide)) q39a q39c (g := (mkF m 18 #[.val (.ref d0), .val (.long u0), .second, .val (.long u1), .second] [(.ref ra), (.long u1), (.ref r17), (.ref d0)])) rfl (by rw [hml]; rfl) (Steps.refl _) (argsL := []) (rest := [(.long u1), (.ref r17), (.ref d0)]) (lenOf pd_2829J rfl) rfl (by show 2 * 0 + _ ≤ _; exact Nat.le_of_eq rfl) (hb hby d39_18) (fun _ _ => ⟨rfl, e38, (by decide : 3 + 0 ≤ _), (by decide : 6 + 0 ≤ _)⟩)
  dsimp only [Pt.U, Pt.locs, Pt.cells, Pt.slots] at X39 l39 y39 z39 st39 hQ39
  subst l39 y39 z39
  obtain ⟨rfl, N39q, e39⟩ := hQ39
  have N39 := Fr.app N38 N39q
  refine Wp.go st39 ?_
  show Wp p e below _ (T39.setTop (mkF m 21 #[.val (.ref d0), .val (.long u0), .second, .val (.long u1), .second] [(.long pe), (.long u1), (.ref r17), (.ref d0)]))
  obtain ⟨_, _, ⟨T40, L40, k40, n40⟩, -, X40, ⟨Lc40, hQ40, l40, y40, z40⟩, st40⟩ := Jvm.LawKit.callS X39 hx (y := (⟨"com/example/gentle_bucket/gentlebucket/Uint128", "product", "(JJ)Lcom/example/gentle_bucket/gentlebucket/Uint128;"⟩ : MethodName)) hown (mvT hZ (hw _ (List.mem_of_getElem? (i := 165) rfl))) (mvT hZ (hw _ (List.mem_of_getElem? (i := 53) rfl))) (mvT hZ (hw _ (List.mem_of_getElem? (i := 54) rfl))) (mvT hZ (hw _ (List.mem_of_getElem? (i := 55) rfl))) (by decide) (backOf (W := 2) (rm9 l Z a0 hw [] u1 pe  h17 n0 (Nat.le_trans Z0 K17.1)  ) hZ (hw _ (List.mem_of_getElem? (i := 55) rfl)) (hw _ (List.mem_of_getElem? (i := 54) rfl)) (by decide) (by decide)) (g := (mkF m 21 #[.val (.ref d0), .val (.long u0), .second, .val (.long u1), .second] [(.long pe), (.long u1), (.ref r17), (.ref d0)])) rfl (by rw [hml]; rfl) (argsL := [(.long u1), (.long pe)]) (rest := [(.ref r17), (.ref d0)]) (lenOf pd_28JJ29Lcom2fexample2fgentle_bucket2fgentlebucket2fUint1283b rfl) rfl (by show 2 * 0 + _ ≤ _; exact Nat.le_of_eq rfl) (hb hby d39_21) (fun _ _ => ⟨rfl, e39, (by decide : 3 + 1 ≤ _), (by decide : 6 + 2 ≤ _)⟩)
  dsimp only [Pt.U, Pt.locs, Pt.cells, Pt.slots] at X40 l40 y40 z40 st40 hQ40
  subst l40 y40 z40
  obtain ⟨h40, e40⟩ : ∃ z, T40.heap = z := ⟨_, rfl⟩
  rw [e40] at hQ40
  obtain ⟨r40, rfl, N40q, Kc40, sz40, o40_0, o40_1, o40_2⟩ := hQ40
  have N40 := Fr.app N39 N40q
  have g_r40 : n0 ≤ r40 := Nat.le_trans (Nat.le_trans Z0 K17.1) sz40
  have sz_r40 : h0.size ≤ r40 := Nat.le_trans K17.1 sz40
  have ne_c0_r40 : c0 ≠ r40 := Nat.ne_of_lt (Nat.lt_of_lt_of_le c19.lt sz40)
  have ne_d0_r40 : d0 ≠ r40 := Nat.ne_of_lt (Nat.lt_of_lt_of_le c18.lt sz40)
  have ne_de_r40 : de ≠ r40 := Nat.ne_of_lt (Nat.lt_of_lt_of_le c26.lt sz40)
  have ne_r17_r40 : r17 ≠ r40 := Nat.ne_of_lt (Nat.lt_of_lt_of_le o17_0.lt sz40)
  have ne_ra_r40 : ra ≠ r40 := Nat.ne_of_lt (Nat.lt_of_lt_of_le c23.lt sz40)
  have ne_zz_r40 : zz ≠ r40 := Nat.ne_of_lt (Nat.lt_of_lt_of_le c30.lt sz40)
  have c41 := c18.keep Kc40
  have c42 := c19.keep Kc40
  have c43 := c20.keep Kc40 nin0
  have c44 := c21.keep Kc40 nin0
  have c45 := c22.keep Kc40 nin0
  have c46 := c23.keep Kc40
  have c47 := c24.keep Kc40 nin0
  have c48 := c25.keep Kc40 nin0
  have c49 := c26.keep Kc40
  have c50 := c27.keep Kc40 nin0
  have c51 := c28.keep Kc40 nin0
  have c52 := own_sta_keep c29 Kc40 all0
  have c53 := c30.keep Kc40
  have c54 := c31.keep Kc40 nin0
  have c55 := c32.keep Kc40 nin0
  have c56 := c33.keep Kc40 nin0
  have c57 := c34.keep Kc40 nin0
  have c58 := c35.keep Kc40 nin0
  have c59 := c36.keep Kc40 nin0
  have c60 := o17_0.keep Kc40
  have c61 := o17_1.keep Kc40 nin0
  have c62 := o17_2.keep Kc40 nin0
  have K40 := K17.trans Kc40 all0
  refine Wp.step st40 ?_
  show Wp p e below _ (T40.setTop (mkF m 24 #[.val (.ref d0), .val (.long u0), .second, .val (.long u1), .second] [(.ref r40), (.ref r17), (.ref d0)]))
  obtain ⟨cq63, kq63, q63a, q63b, q63c⟩ := isOf hZ e40 c60
  obtain ⟨_, _, ⟨T63, L63, k63, n63⟩, -, X63, ⟨Lc63, hQ63, l63, y63, z63⟩, st63⟩ := X40.virtualBack hx (y := (⟨"com/example/gentle_bucket/gentlebucket/Uint128", "plus", "(Lcom/example/gentle_bucket/gentlebucket/Uint128;)Lcom/example/gentle_bucket/gentlebucket/Uint128;"⟩ : MethodName)) (z := (⟨"com/example/gentle_bucket/gentlebucket/Uint128", "plus", "(Lcom/example/gentle_bucket/gentlebucket/Uint128;)Lcom/example/gentle_bucket/gentlebucket/Uint128;"⟩ : MethodName)) hown (mvT hZ (hw _ (List.mem_of_getElem? (i := 207) rfl))) (mvT hZ (hw _ (List.mem_of_getElem? (i := 208) rfl))) (notFace_of_selects (args := #[]) (mvT hZ (hw _ (List.mem_of_getElem? (i := 210) rfl)))) (mvT hZ (hw _ (List.mem_of_getElem? (i := 210) rfl))) (mvT hZ (hw _ (List.mem_of_getElem? (i := 209) rfl))) (by decide) (backOf (W := 1) (rm37 l Z a0 hw [] r17 r40 (own_ph u1 pe) (u1 * pe) h40 n0 (Nat.le_trans Z0 K40.1) c60 c61 c62 o40_0 o40_1 o40_2 ) hZ (hw _ (List.mem_of_getElem? (i := 211) rfl)) (hw _ (List.mem_of_getElem? (i := 54) rfl)) (by decide) (by decide)) q63a q63c (g := (mkF m 24 #[.val (.ref d0), .val (.long u0), .second, .val (.long u1), .second] [(.ref r40), (.ref r17), (.ref d0)])) rfl (by rw [hml]; rfl) (Steps.refl _) (argsL := [(.ref r40)]) (rest := [(.ref d0)]) (lenOf pd_28Lcom2fexample2fgentle_bucket2fgentlebucket2fUint1283b29Lcom2fexample2fgentle_bucket2fgentlebucket2fUint1283b rfl) rfl (by show 2 * 0 + _ ≤ _; exact Nat.le_of_eq rfl) (hb hby d39_24) (fun _ _ => ⟨rfl, e40, (by decide : 4 + 1 ≤ _), (by decide : 8 + 2 ≤ _)⟩)
  dsimp only [Pt.U, Pt.locs, Pt.cells, Pt.slots] at X63 l63 y63 z63 st63 hQ63
  subst l63 y63 z63
  obtain ⟨h63, e63⟩ : ∃ z, T63.heap = z := ⟨_, rfl⟩
  rw [e63] at hQ63
  obtain ⟨r63, rfl, N63q, Kc63, sz63, o63_0, o63_1, o63_2⟩ := hQ63
  have N63 := Fr.app N40 N63q
  have g_r63 : n0 ≤ r63 := Nat.le_trans (Nat.le_trans Z0 K40.1) sz63
  have sz_r63 : h0.size ≤ r63 := Nat.le_trans K40.1 sz63
  have ne_c0_r63 : c0 ≠ r63 := Nat.ne_of_lt (Nat.lt_of_lt_of_le c42.lt sz63)
  have ne_d0_r63 : d0 ≠ r63 := Nat.ne_of_lt (Nat.lt_of_lt_of_le c41.lt sz63)
  have ne_de_r63 : de ≠ r63 := Nat.ne_of_lt (Nat.lt_of_lt_of_le c49.lt sz63)
  have ne_r17_r63 : r17 ≠ r63 := Nat.ne_of_lt (Nat.lt_of_lt_of_le c60.lt sz63)
  have ne_r40_r63 : r40 ≠ r63 := Nat.ne_of_lt (Nat.lt_of_lt_of_le o40_0.lt sz63)
  have ne_ra_r63 : ra ≠ r63 := Nat.ne_of_lt (Nat.lt_of_lt_of_le c46.lt sz63)
  have ne_zz_r63 : zz ≠ r63 := Nat.ne_of_lt (Nat.lt_of_lt_of_le c53.lt sz63)
  have c64 := c41.keep Kc63
  have c65 := c42.keep Kc63
  have c66 := c43.keep Kc63 nin0
  have c67 := c44.keep Kc63 nin0
  have c68 := c45.keep Kc63 nin0
  have c69 := c46.keep Kc63
  have c70 := c47.keep Kc63 nin0
  have c71 := c48.keep Kc63 nin0
  have c72 := c49.keep Kc63
  have c73 := c50.keep Kc63 nin0
  have c74 := c51.keep Kc63 nin0
  have c75 := own_sta_keep c52 Kc63 all0
  have c76 := c53.keep Kc63
  have c77 := c54.keep Kc63 nin0
  have c78 := c55.keep Kc63 nin0
  have c79 := c56.keep Kc63 nin0
  have c80 := c57.keep Kc63 nin0
  have c81 := c58.keep Kc63 nin0
  have c82 := c59.keep Kc63 nin0
  have c83 := c60.keep Kc63
  have c84 := c61.keep Kc63 nin0
  have c85 := c62.keep Kc63 nin0
  have c86 := o40_0.keep Kc63
  have c87 := o40_1.keep Kc63 nin0
  have c88 := o40_2.keep Kc63 nin0
  have K63 := K40.trans Kc63 all0
  refine Wp.go st63 ?_
  show Wp p e below _ (T63.setTop (mkF m 27 #[.val (.ref d0), .val (.long u0), .second, .val (.long u1), .second] [(.ref r63), (.ref d0)]))
  obtain ⟨cq89, q89, q89'⟩ := c64.cell
  obtain ⟨_, _, ⟨T89, L89, k89, n89⟩, -, X89, ⟨Lc89, hQ89, l89, y89, z89⟩, st89⟩ := X63.privateBack hx (y := (⟨"com/example/gentle_bucket/gentlebucket/Meter", "setLevel", "(Lcom/example/gentle_bucket/gentlebucket/Uint128;)V"⟩ : MethodName)) hown (mvT hZ (hw _ (List.mem_of_getElem? (i := 191) rfl))) (mvT hZ (hw _ (List.mem_of_getElem? (i := 192) rfl))) (own_selP hZ (hw _ (List.mem_of_getElem? (i := 6) rfl)) (hw _ (List.mem_of_getElem? (i := 193) rfl)) (hw _ (List.mem_of_getElem? (i := 192) rfl)) (by decide)) (Cond.privateMethod_at (mvP hZ (hw _ (List.mem_of_getElem? (i := 193) rfl)) (args := #[]))) (mvT hZ (hw _ (List.mem_of_getElem? (i := 194) rfl))) (by decide) (backOf (W := 0) (rm34 l Z a0 hw [] d0 r63 u0 c0 (0 : Int64) (0 : Int64) (own_ph u1 pe) (u1 * pe) h63 n0 (Nat.le_trans Z0 K63.1) g_d0 c64 c79 c80 c81 c82 o63_0 o63_1 o63_2 ) hZ (hw _ (List.mem_of_getElem? (i := 194) rfl)) (hw _ (List.mem_of_getElem? (i := 7) rfl)) (by decide) (by decide)) (g := (mkF m 27 #[.val (.ref d0), .val (.long u0), .second, .val (.long u1), .second] [(.ref r63), (.ref d0)])) rfl (by rw [hml]; rfl) (Steps.refl _) (a := d0) (by rw [e63]; exact q89) q89' (argsL := [(.ref r63)]) (rest := []) (lenOf pd_28Lcom2fexample2fgentle_bucket2fgentlebucket2fUint1283b29V rfl) rfl (by show 2 * 0 + _ ≤ _; exact Nat.le_of_eq rfl) (hb hby d39_27) (fun _ _ => ⟨rfl, e63, (by decide : 5 + 0 ≤ _), (by decide : 10 + 0 ≤ _)⟩)
  dsimp only [Pt.U, Pt.locs, Pt.cells, Pt.slots] at X89 l89 y89 z89 st89 hQ89
  subst l89 y89 z89
  obtain ⟨h89, e89⟩ : ∃ z, T89.heap = z := ⟨_, rfl⟩
  rw [e89] at hQ89
  obtain ⟨rfl, N89q, Kc89, o89_0, o89_1, o89_2, o89_3, o89_4⟩ := hQ89
  have N89 := Fr.app N63 N89q
  have c90 := c64.keep Kc89
  have c91 := c65.keep Kc89
  have c92 := c66.keep Kc89 (ninS (own_ne_cls c91 c90 (by decide)) nin0)
  have c93 := c67.keep Kc89 (ninS (own_ne_cls c91 c90 (by decide)) nin0)
  have c94 := c68.keep Kc89 (ninS (own_ne_cls c91 c90 (by decide)) nin0)
  have c95 := c69.keep Kc89
  have c96 := c70.keep Kc89 (ninS (own_ne_cls c95 c90 (by decide)) nin0)
  have c97 := c71.keep Kc89 (ninS (own_ne_cls c95 c90 (by decide)) nin0)
  have c98 := c72.keep Kc89
  have c99 := c73.keep Kc89 (ninS (own_ne_cls c98 c90 (by decide)) nin0)
  have c100 := c74.keep Kc89 (ninS (own_ne_cls c98 c90 (by decide)) nin0)
  have c101 := own_sta_keep c75 Kc89 (allS (own_ns c64) all0)
  have c102 := c76.keep Kc89
  have c103 := c77.keep Kc89 (ninS (own_ne_cls c102 c90 (by decide)) nin0)
  have c104 := c78.keep Kc89 (ninS (own_ne_cls c102 c90 (by decide)) nin0)
  have c105 := c83.keep Kc89
  have c106 := c84.keep Kc89 (ninS (Ne.symm ne_d0_r17) nin0)
  have c107 := c85.keep Kc89 (ninS (Ne.symm ne_d0_r17) nin0)
  have c108 := c86.keep Kc89
  have c109 := c87.keep Kc89 (ninS (Ne.symm ne_d0_r40) nin0)
  have c110 := c88.keep Kc89 (ninS (Ne.symm ne_d0_r40) nin0)
  have c111 := o63_0.keep Kc89
  have c112 := o63_1.keep Kc89 (ninS (Ne.symm ne_d0_r63) nin0)
  have c113 := o63_2.keep Kc89 (ninS (Ne.symm ne_d0_r63) nin0)
  have K89 := K63.trans Kc89 (allS (Or.inl (List.mem_of_getElem? (i := 0) rfl)) all0)
  refine Wp.go st89 ?_
  show Wp p e below _ (T89.setTop (mkF m 30 #[.val (.ref d0), .val (.long u0), .second, .val (.long u1), .second] []))
  refine Wp.retV X89 hx Bd.returns (hb hby d39_30) hlk ?_ (by decide) (by decide)
  show Q39 Z d0 u0 u1 ln c0 ra de am pe b0 x0 x1 zz h0 n0 none T89.heap _
  rw [e89]
  exact ⟨rfl, N89, K89, o89_0⟩
theorem d40_0 : decode prog_4_method_4_code 0 = .ok (.aload_n 0, 1) := by decide +kernel
theorem d40_1 : decode prog_4_method_4_code 1 = .ok (.getfield 7, 3) := by decide +kernel
theorem d40_4 : decode prog_4_method_4_code 4 = .ok (.lconst 0, 1) := by decide +kernel
theorem d40_5 : decode prog_4_method_4_code 5 = .ok (.lcmp, 1) := by decide +kernel
theorem d40_6 : decode prog_4_method_4_code 6 = .ok (.ifCond .ne 7, 3) := by decide +kernel
theorem d40_9 : decode prog_4_method_4_code 9 = .ok (.iconst 1, 1) := by decide +kernel
theorem d40_10 : decode prog_4_method_4_code 10 = .ok (.goto 4, 3) := by decide +kernel
theorem d40_13 : decode prog_4_method_4_code 13 = .ok (.iconst 0, 1) := by decide +kernel
theorem d40_14 : decode prog_4_method_4_code 14 = .ok (.ireturn, 1) := by decide +kernel
theorem pn_com_example_gentle_bucket_gentlebucket_Decision : plainName "com/example/gentle_bucket/gentlebucket/Decision" = true := by first | (simp [plainName, overriddenIn]; done) | decide +kernel
theorem ef_40_0 (m : MethodId) (x0 : Addr) : entryFrame m #[(.ref x0)] 1 = mkF m 0 #[.val (.ref x0)] [] := by first | (simp [entryFrame, mkF, argsToLocals, Value.category]; done) | rfl
def Q40 (Z : State) (d0 : Addr) (w0 : Int64) (h0 : Heap) (n0 : Nat) (v : Option Value) (h : Heap) (L : List Loc) : Prop := v = some (.int (own_cf w0)) ∧ Fr n0 L ∧ h = h0
set_option maxRecDepth 65536 in
set_option maxHeartbeats 40000000 in
theorem rm40 (l : Launch) (Z : State) (a0 : Array Value) (hw : ∀ d ∈ tables_1, d.before a0 Z = true) (ws : List Jvm.Cond) (d0 : Addr) (w0 : Int64) (h0 : Heap) (n0 : Nat) (Z0 : n0 ≤ h0.size) (F_waitNanos_d0 : Fld Z h0 d0 "com/example/gentle_bucket/gentlebucket/Decision" "waitNanos" "J" (.long w0)) :
    MetFree l (⟨"com/example/gentle_bucket/gentlebucket/Decision", "conforms", "()Z"⟩ : MethodName) (head1 (Jvm.Cond.code (⟨"com/example/gentle_bucket/gentlebucket/Decision", "conforms", "()Z"⟩ : MethodName) prog_4_method_4_code 1 (some .boolean) :: ws) ({ frames := 0, cells := 0, slots := 0, locals := 0 } : Room)) (fun a U => a = #[(.ref d0)] ∧ Z.Warmed39 U.vm ∧ U.heap = h0) (fun _ _ _ _ _ => True) (fun _ U o U' => ∃ v L, o = .returned v ∧ Q40 Z d0 w0 h0 n0 v U'.heap L ∧ FrameEnd U o U' L ({ frames := 0, cells := 0, slots := 0, locals := 0 } : Room).cells ({ frames := 0, cells := 0, slots := 0, locals := 0 } : Room).slots) := by
  refine MetFree.of_bodySF (plainFor_of_name pn_com_example_gentle_bucket_gentlebucket_Decision) hisR ?_
  intro p e s m args below meth c s₁ Bd hml0 hP hK
  obtain ⟨rfl, hZ, hh⟩ := hP
  have hx := Bd.exec
  have hby := Bd.bytes
  have hlk : meth.locks = false := Bd.notSynchronized
  have hml : c.maxLocals = 1 := hml0
  have hown : s.vm.findClass "com/example/gentle_bucket/gentlebucket/Decision" = some m.cls := findClass_of_methodNamed Bd.named
  have hnm := (name_of_methodNamed Bd.named Bd.method).1
  have X0 : Stand p l e ({ frames := 0, cells := 0, slots := 0, locals := 0 } : Room) s m #[(.ref d0)] below meth c s₁ [] 0 0 := Stand.of_body Bd
  have e0 : s₁.heap = h0 := by rw [← hh, Bd.state]; rfl
  have N0 := Fr.nil n0
  have K0 : Keep h0 h0 [] := Keep.refl h0 _
  show Wp p e below (Out s (Q40 Z d0 w0 h0 n0) ({ frames := 0, cells := 0, slots := 0, locals := 0 } : Room).cells ({ frames := 0, cells := 0, slots := 0, locals := 0 } : Room).slots) (s₁.setTop (entryFrame m #[(.ref d0)] 1))
  rw [ef_40_0]
  show Wp p e below _ (s₁.setTop (mkF m 0 #[.val (.ref d0)] []))
  refine Wp.step (fun t k => XS.aloadN X0.here hx rfl (hb hby d40_0) rfl rfl k) ?_
  show Wp p e below _ (s₁.setTop (mkF m 1 #[.val (.ref d0)] [(.ref d0)]))
  obtain ⟨T1, X1, e1, st1⟩ := getF X0 hx hZ hown (host := "") (Or.inl (hw _ (List.mem_of_getElem? (i := 231) rfl))) Via.refl e0 F_waitNanos_d0 (g := (mkF m 1 #[.val (.ref d0)] [(.ref d0)])) rfl rfl (hb hby d40_1)
  refine Wp.step st1 ?_
  show Wp p e below _ (T1.setTop (mkF m 4 #[.val (.ref d0)] [(.long w0)]))
  refine Wp.step (fun t k => XS.lconst X1.here hx rfl (hb hby d40_4) k) ?_
  show Wp p e below _ (T1.setTop (mkF m 5 #[.val (.ref d0)] [(.long (0 : Int64)), (.long w0)]))
  refine Wp.step (fun t k => XS.lcmp X1.here hx rfl (hb hby d40_5) rfl k) ?_
  show Wp p e below _ (T1.setTop (mkF m 6 #[.val (.ref d0)] [(.int (lcmpW w0 (0 : Int64)))]))
  by_cases hc2 : (lcmpW w0 (0 : Int64)) = (0 : Int32)
  · refine Wp.step (fun t k => XS.ifNo X1.here hx rfl (hb hby d40_6) rfl ((if0 _ _).trans (teq hc2).2) k) ?_
    show Wp p e below _ (T1.setTop (mkF m 9 #[.val (.ref d0)] []))
    refine Wp.step (fun t k => XS.iconst X1.here hx rfl (hb hby d40_9) k) ?_
    show Wp p e below _ (T1.setTop (mkF m 10 #[.val (.ref d0)] [(.int (1 : Int32))]))
    refine Wp.step (fun t k => XS.goto X1.here hx rfl (pc0 := 10) (pc' := 14) rfl (hb hby d40_10) (by decide) (by decide) k) ?_
    show Wp p e below _ (T1.setTop (mkF m 14 #[.val (.ref d0)] [(.int (1 : Int32))]))
    refine Wp.retN X1 hx (t := .boolean) Bd.returns (by simp) (hb hby d40_14) hlk ?_ (by decide) (by decide)
    show Q40 Z d0 w0 h0 n0 (some (.int (nar .boolean (1 : Int32)))) T1.heap _
    rw [e1]
    exact ⟨(by rw [own_cf, if_pos ((lw_eq _ _).mp hc2)]; rfl), N0, rfl⟩
  · refine Wp.step (fun t k => XS.ifYes X1.here hx rfl (pc0 := 6) (pc' := 13) rfl (hb hby d40_6) rfl ((if0 _ _).trans (feq hc2).2) (by decide) (by decide) k) ?_
    show Wp p e below _ (T1.setTop (mkF m 13 #[.val (.ref d0)] []))
    refine Wp.step (fun t k => XS.iconst X1.here hx rfl (hb hby d40_13) k) ?_
    show Wp p e below _ (T1.setTop (mkF m 14 #[.val (.ref d0)] [(.int (0 : Int32))]))
    refine Wp.retN X1 hx (t := .boolean) Bd.returns (by simp) (hb hby d40_14) hlk ?_ (by decide) (by decide)
    show Q40 Z d0 w0 h0 n0 (some (.int (nar .boolean (0 : Int32)))) T1.heap _
    rw [e1]
    exact ⟨(by rw [own_cf, if_neg (fun q => hc2 ((lw_eq _ _).mpr q))]; rfl), N0, rfl⟩
theorem d22_0 : decode prog_2_method_3_code 0 = .ok (.aload_n 0, 1) := by decide +kernel
theorem d22_1 : decode prog_2_method_3_code 1 = .ok (.lload_n 1, 1) := by decide +kernel
theorem d22_2 : decode prog_2_method_3_code 2 = .ok (.lload_n 3, 1) := by decide +kernel
theorem d22_3 : decode prog_2_method_3_code 3 = .ok (.invokevirtual 43, 3) := by decide +kernel
theorem d22_6 : decode prog_2_method_3_code 6 = .ok (.lstore 5, 2) := by decide +kernel
theorem d22_8 : decode prog_2_method_3_code 8 = .ok (.lload 5, 2) := by decide +kernel
theorem d22_10 : decode prog_2_method_3_code 10 = .ok (.lconst 0, 1) := by decide +kernel
theorem d22_11 : decode prog_2_method_3_code 11 = .ok (.lcmp, 1) := by decide +kernel
theorem d22_12 : decode prog_2_method_3_code 12 = .ok (.ifCond .ne 17, 3) := by decide +kernel
theorem d22_15 : decode prog_2_method_3_code 15 = .ok (.aload_n 0, 1) := by decide +kernel
theorem d22_16 : decode prog_2_method_3_code 16 = .ok (.lload_n 1, 1) := by decide +kernel
theorem d22_17 : decode prog_2_method_3_code 17 = .ok (.lload_n 3, 1) := by decide +kernel
theorem d22_18 : decode prog_2_method_3_code 18 = .ok (.invokevirtual 49, 3) := by decide +kernel
theorem d22_21 : decode prog_2_method_3_code 21 = .ok (.getstatic 53, 3) := by decide +kernel
theorem d22_24 : decode prog_2_method_3_code 24 = .ok (.astore 7, 2) := by decide +kernel
theorem d22_26 : decode prog_2_method_3_code 26 = .ok (.goto 26, 3) := by decide +kernel
theorem d22_52 : decode prog_2_method_3_code 52 = .ok (.aload 7, 2) := by decide +kernel
theorem d22_54 : decode prog_2_method_3_code 54 = .ok (.areturn, 1) := by decide +kernel
theorem ef_22_000 (m : MethodId) (x0 : Addr) (x1 : Int64) (x2 : Int64) : entryFrame m #[(.ref x0), (.long x1), (.long x2)] 8 = mkF m 0 #[.val (.ref x0), .val (.long x1), .second, .val (.long x2), .second, .unset, .unset, .unset] [] := by first | (simp [entryFrame, mkF, argsToLocals, Value.category]; done) | rfl
def Q22_f (Z : State) (d0 : Addr) (u0 : Int64) (u1 : Int64) (ln : Int64) (c0 : Addr) (ra : Addr) (de : Addr) (am : Int64) (pe : Int64) (b0 : Int64) (x0 : Int64) (x1 : Int64) (zz : Addr) (ds : Addr) (h0 : Heap) (n0 : Nat) (v : Option Value) (h : Heap) (L : List Loc) : Prop := v = some (.ref ds) ∧ Fr n0 L ∧ Keep h0 h [d0]
set_option maxRecDepth 65536 in
set_option maxHeartbeats 40000000 in
theorem rm22_f (l : Launch) (Z : State) (a0 : Array Value) (hw : ∀ d ∈ tables_1, d.before a0 Z = true) (ws : List Jvm.Cond) (d0 : Addr) (u0 : Int64) (u1 : Int64) (ln : Int64) (c0 : Addr) (ra : Addr) (de : Addr) (am : Int64) (pe : Int64) (b0 : Int64) (x0 : Int64) (x1 : Int64) (zz : Addr) (ds : Addr) (h0 : Heap) (n0 : Nat) (Z0 : n0 ≤ h0.size) (g_d0 : n0 ≤ d0) (E_d0 : Exa Z h0 d0 "com/example/gentle_bucket/gentlebucket/Meter") (F_levelNanos_d0 : Fld Z h0 d0 "com/example/gentle_bucket/gentlebucket/Meter" "levelNanos" "J" (.long ln)) (F_contract_d0 : Fld Z h0 d0 "com/example/gentle_bucket/gentlebucket/Meter" "contract" "Lcom/example/gentle_bucket/gentlebucket/Contract;" (.ref c0)) (F_levelHigh_d0 : Fld Z h0 d0 "com/example/gentle_bucket/gentlebucket/Meter" "levelHigh" "J" (.long (0 : Int64))) (F_levelLow_d0 : Fld Z h0 d0 "com/example/gentle_bucket/gentlebucket/Meter" "levelLow" "J" (.long (0 : Int64))) (E_c0 : Exa Z h0 c0 "com/example/gentle_bucket/gentlebucket/Contract") (F_rate_c0 : Fld Z h0 c0 "com/example/gentle_bucket/gentlebucket/Contract" "rate" "Lcom/example/gentle_bucket/gentlebucket/Rate;" (.ref ra)) (F_depth_c0 : Fld Z h0 c0 "com/example/gentle_bucket/gentlebucket/Contract" "depth" "Lcom/example/gentle_bucket/gentlebucket/Uint128;" (.ref de)) (F_burst_c0 : Fld Z h0 c0 "com/example/gentle_bucket/gentlebucket/Contract" "burst" "J" (.long b0)) (E_ra : Exa Z h0 ra "com/example/gentle_bucket/gentlebucket/Rate") (F_amount_ra : Fld Z h0 ra "com/example/gentle_bucket/gentlebucket/Rate" "amount" "J" (.long am)) (F_periodNanos_ra : Fld Z h0 ra "com/example/gentle_bucket/gentlebucket/Rate" "periodNanos" "J" (.long pe)) (E_de : Exa Z h0 de "com/example/gentle_bucket/gentlebucket/Uint128") (F_high_de : Fld Z h0 de "com/example/gentle_bucket/gentlebucket/Uint128" "high" "J" (.long x0)) (F_low_de : Fld Z h0 de "com/example/gentle_bucket/gentlebucket/Uint128" "low" "J" (.long x1)) (S_ZERO_zz : Sta Z h0 "com/example/gentle_bucket/gentlebucket/Uint128" "ZERO" "Lcom/example/gentle_bucket/gentlebucket/Uint128;" (.ref zz)) (E_zz : Exa Z h0 zz "com/example/gentle_bucket/gentlebucket/Uint128") (F_high_zz : Fld Z h0 zz "com/example/gentle_bucket/gentlebucket/Uint128" "high" "J" (.long (0 : Int64))) (F_low_zz : Fld Z h0 zz "com/example/gentle_bucket/gentlebucket/Uint128" "low" "J" (.long (0 : Int64))) (S_CONFORMS_ds : Sta Z h0 "com/example/gentle_bucket/gentlebucket/Decision" "CONFORMS" "Lcom/example/gentle_bucket/gentlebucket/Decision;" (.ref ds)) (E_ds : Exa Z h0 ds "com/example/gentle_bucket/gentlebucket/Decision") (F_waitNanos_ds : Fld Z h0 ds "com/example/gentle_bucket/gentlebucket/Decision" "waitNanos" "J" (.long (0 : Int64))) (hc : ¬ u1 < 1) (hf : ¬ b0 < u1) (hp : ¬ pe < 1) (hbb : ¬ b0 < 1) (hU : own_U x0 x1 = own_u b0 * own_u pe) (hln : ¬ ln < u0 → ln = u0) :
    MetFree l (⟨"com/example/gentle_bucket/gentlebucket/Bucket", "decide", "(JJ)Lcom/example/gentle_bucket/gentlebucket/Decision;"⟩ : MethodName) (head1 (Jvm.Cond.code (⟨"com/example/gentle_bucket/gentlebucket/Bucket", "decide", "(JJ)Lcom/example/gentle_bucket/gentlebucket/Decision;"⟩ : MethodName) prog_2_method_3_code 8 (some (.object "com/example/gentle_bucket/gentlebucket/Decision")) :: ws) ({ frames := 7, cells := 12, slots := 24, locals := 107 } : Room)) (fun a U => a = #[(.ref d0), (.long u0), (.long u1)] ∧ Z.Warmed39 U.vm ∧ U.heap = h0) (fun _ _ _ _ _ => True) (fun _ U o U' => ∃ v L, o = .returned v ∧ Q22_f Z d0 u0 u1 ln c0 ra de am pe b0 x0 x1 zz ds h0 n0 v U'.heap L ∧ FrameEnd U o U' L ({ frames := 7, cells := 12, slots := 24, locals := 107 } : Room).cells ({ frames := 7, cells := 12, slots := 24, locals := 107 } : Room).slots) := by
  refine MetFree.of_bodySF (plainFor_of_name pn_com_example_gentle_bucket_gentlebucket_Bucket) hisR ?_
  intro p e s m args below meth c s₁ Bd hml0 hP hK
  obtain ⟨rfl, hZ, hh⟩ := hP
  have hx := Bd.exec
  have hby := Bd.bytes
  have hlk : meth.locks = false := Bd.notSynchronized
  have hml : c.maxLocals = 8 := hml0
  have hown : s.vm.findClass "com/example/gentle_bucket/gentlebucket/Bucket" = some m.cls := findClass_of_methodNamed Bd.named
  have hnm := (name_of_methodNamed Bd.named Bd.method).1
  have X0 : Stand p l e ({ frames := 7, cells := 12, slots := 24, locals := 107 } : Room) s m #[(.ref d0), (.long u0), (.long u1)] below meth c s₁ [] 0 0 := Stand.of_body Bd
  have e0 : s₁.heap = h0 := by rw [← hh, Bd.state]; rfl
  have N0 := Fr.nil n0
  have K0 : Keep h0 h0 [d0] := Keep.refl h0 _
  show Wp p e below (Out s (Q22_f Z d0 u0 u1 ln c0 ra de am pe b0 x0 x1 zz ds h0 n0) ({ frames := 7, cells := 12, slots := 24, locals := 107 } : Room).cells ({ frames := 7, cells := 12, slots := 24, locals := 107 } : Room).slots) (s₁.setTop (entryFrame m #[(.ref d0), (.long u0), (.long u1)] 8))
  rw [ef_22_000]
  show Wp p e below _ (s₁.setTop (mkF m 0 #[.val (.ref d0), .val (.long u0), .second, .val (.long u1), .second, .unset, .unset, .unset] []))
  refine Wp.step (fun t k => XS.aloadN X0.here hx rfl (hb hby d22_0) rfl rfl k) ?_
  show Wp p e below _ (s₁.setTop (mkF m 1 #[.val (.ref d0), .val (.long u0), .second, .val (.long u1), .second, .unset, .unset, .unset] [(.ref d0)]))
  refine Wp.step (fun t k => XS.lloadN X0.here hx rfl (hb hby d22_1) rfl k) ?_
  show Wp p e below _ (s₁.setTop (mkF m 2 #[.val (.ref d0), .val (.long u0), .second, .val (.long u1), .second, .unset, .unset, .unset] [(.long u0), (.ref d0)]))
  refine Wp.step (fun t k => XS.lloadN X0.here hx rfl (hb hby d22_2) rfl k) ?_
  show Wp p e below _ (s₁.setTop (mkF m 3 #[.val (.ref d0), .val (.long u0), .second, .val (.long u1), .second, .unset, .unset, .unset] [(.long u1), (.long u0), (.ref d0)]))
  obtain ⟨cq1, kq1, q1a, q1b, q1c⟩ := isOf hZ e0 E_d0
  obtain ⟨_, _, ⟨T1, L1, k1, n1⟩, -, X1, ⟨Lc1, hQ1, l1, y1, z1⟩, st1⟩ := X0.virtualBack hx (y := (⟨"com/example/gentle_bucket/gentlebucket/Bucket", "waitNanos", "(JJ)J"⟩ : MethodName)) (z := (⟨"com/example/gentle_bucket/gentlebucket/Meter", "waitNanos", "(JJ)J"⟩ : MethodName)) hown (mvT hZ (hw _ (List.mem_of_getElem? (i := 138) rfl))) (mvT hZ (hw _ (List.mem_of_getElem? (i := 139) rfl))) (own_nfc (args := #[]) (mvT hZ (hw _ (List.mem_of_getElem? (i := 136) rfl))) rfl) (mvT hZ (hw _ (List.mem_of_getElem? (i := 140) rfl))) (mvT hZ (hw _ (List.mem_of_getElem? (i := 141) rfl))) (by decide) (backOf (W := 0) (rm23_f l Z a0 hw [] d0 u0 u1 ln c0 ra de am pe b0 x0 x1 zz h0 n0 (Nat.le_trans Z0 K0.1) g_d0 E_d0 F_levelNanos_d0 F_contract_d0 F_levelHigh_d0 F_levelLow_d0 E_c0 F_rate_c0 F_depth_c0 F_burst_c0 E_ra F_amount_ra F_periodNanos_ra E_de F_high_de F_low_de S_ZERO_zz E_zz F_high_zz F_low_zz hc hf hp hbb hU hln) hZ (hw _ (List.mem_of_getElem? (i := 142) rfl)) (hw _ (List.mem_of_getElem? (i := 7) rfl)) (by decide) (by decide)) q1a q1c (g := (mkF m 3 #[.val (.ref d0), .val (.long u0), .second, .val (.long u1), .second, .unset, .unset, .unset] [(.long u1), (.long u0), (.ref d0)])) rfl (by rw [hml]; rfl) (Steps.refl _) (argsL := [(.long u0), (.long u1)]) (rest := []) (lenOf pd_28JJ29J rfl) rfl (by show 2 * 0 + _ ≤ _; exact Nat.le_of_eq rfl) (hb hby d22_3) (fun _ _ => ⟨rfl, e0, (by decide : 0 + 7 ≤ _), (by decide : 0 + 14 ≤ _)⟩)
  dsimp only [Pt.U, Pt.locs, Pt.cells, Pt.slots] at X1 l1 y1 z1 st1 hQ1
  subst l1 y1 z1
  obtain ⟨h1, e1⟩ : ∃ z, T1.heap = z := ⟨_, rfl⟩
  rw [e1] at hQ1
  obtain ⟨rfl, N1q, Kc1, o1_0, o1_1, o1_2, o1_3, o1_4⟩ := hQ1
  have N1 := Fr.app N0 N1q
  have c2 := E_d0.keep Kc1
  have c3 := E_c0.keep Kc1
  have c4 := F_rate_c0.keep Kc1 (ninS (own_ne_cls c3 c2 (by decide)) nin0)
  have c5 := F_depth_c0.keep Kc1 (ninS (own_ne_cls c3 c2 (by decide)) nin0)
  have c6 := F_burst_c0.keep Kc1 (ninS (own_ne_cls c3 c2 (by decide)) nin0)
  have c7 := E_ra.keep Kc1
  have c8 := F_amount_ra.keep Kc1 (ninS (own_ne_cls c7 c2 (by decide)) nin0)
  have c9 := F_periodNanos_ra.keep Kc1 (ninS (own_ne_cls c7 c2 (by decide)) nin0)
  have c10 := E_de.keep Kc1
  have c11 := F_high_de.keep Kc1 (ninS (own_ne_cls c10 c2 (by decide)) nin0)
  have c12 := F_low_de.keep Kc1 (ninS (own_ne_cls c10 c2 (by decide)) nin0)
  have c13 := own_sta_keep S_ZERO_zz Kc1 (allS (own_ns E_d0) all0)
  have c14 := E_zz.keep Kc1
  have c15 := F_high_zz.keep Kc1 (ninS (own_ne_cls c14 c2 (by decide)) nin0)
  have c16 := F_low_zz.keep Kc1 (ninS (own_ne_cls c14 c2 (by decide)) nin0)
  have c17 := own_sta_keep S_CONFORMS_ds Kc1 (allS (own_ns E_d0) all0)
  have c18 := E_ds.keep Kc1
  have c19 := F_waitNanos_ds.keep Kc1 (ninS (own_ne_cls c18 c2 (by decide)) nin0)
  have K1 := K0.trans Kc1 (allS (Or.inl (List.mem_of_getElem? (i := 0) rfl)) all0)
  refine Wp.go st1 ?_
  show Wp p e below _ (T1.setTop (mkF m 6 #[.val (.ref d0), .val (.long u0), .second, .val (.long u1), .second, .unset, .unset, .unset] [(.long (0 : Int64))]))
  refine Wp.step (fun t k => XS.lstore X1.here hx rfl (hb hby d22_6) rfl (l' := #[.val (.ref d0), .val (.long u0), .second, .val (.long u1), .second, .val (.long (0 : Int64)), .second, .unset]) rfl k) ?_
  show Wp p e below _ (T1.setTop (mkF m 8 #[.val (.ref d0), .val (.long u0), .second, .val (.long u1), .second, .val (.long (0 : Int64)), .second, .unset] []))
  refine Wp.step (fun t k => XS.lload X1.here hx rfl (hb hby d22_8) rfl k) ?_
  show Wp p e below _ (T1.setTop (mkF m 10 #[.val (.ref d0), .val (.long u0), .second, .val (.long u1), .second, .val (.long (0 : Int64)), .second, .unset] [(.long (0 : Int64))]))
  refine Wp.step (fun t k => XS.lconst X1.here hx rfl (hb hby d22_10) k) ?_
  show Wp p e below _ (T1.setTop (mkF m 11 #[.val (.ref d0), .val (.long u0), .second, .val (.long u1), .second, .val (.long (0 : Int64)), .second, .unset] [(.long (0 : Int64)), (.long (0 : Int64))]))
  refine Wp.step (fun t k => XS.lcmp X1.here hx rfl (hb hby d22_11) rfl k) ?_
  show Wp p e below _ (T1.setTop (mkF m 12 #[.val (.ref d0), .val (.long u0), .second, .val (.long u1), .second, .val (.long (0 : Int64)), .second, .unset] [(.int (lcmpW (0 : Int64) (0 : Int64)))]))
  refine Wp.step (fun t k => XS.ifNo X1.here hx rfl (hb hby d22_12) rfl ((if0 _ _).trans (teq (show (lcmpW (0 : Int64) (0 : Int64)) = (0 : Int32) from (lw_eq _ _).mpr rfl)).2) k) ?_
  show Wp p e below _ (T1.setTop (mkF m 15 #[.val (.ref d0), .val (.long u0), .second, .val (.long u1), .second, .val (.long (0 : Int64)), .second, .unset] []))
  refine Wp.step (fun t k => XS.aloadN X1.here hx rfl (hb hby d22_15) rfl rfl k) ?_
  show Wp p e below _ (T1.setTop (mkF m 16 #[.val (.ref d0), .val (.long u0), .second, .val (.long u1), .second, .val (.long (0 : Int64)), .second, .unset] [(.ref d0)]))
  refine Wp.step (fun t k => XS.lloadN X1.here hx rfl (hb hby d22_16) rfl k) ?_
  show Wp p e below _ (T1.setTop (mkF m 17 #[.val (.ref d0), .val (.long u0), .second, .val (.long u1), .second, .val (.long (0 : Int64)), .second, .unset] [(.long u0), (.ref d0)]))
  refine Wp.step (fun t k => XS.lloadN X1.here hx rfl (hb hby d22_17) rfl k) ?_
  show Wp p e below _ (T1.setTop (mkF m 18 #[.val (.ref d0), .val (.long u0), .second, .val (.long u1), .second, .val (.long (0 : Int64)), .second, .unset] [(.long u1), (.long u0), (.ref d0)]))
  obtain ⟨cq21, kq21, q21a, q21b, q21c⟩ := isOf hZ e1 o1_0
  obtain ⟨_, _, ⟨T21, L21, k21, n21⟩, -, X21, ⟨Lc21, hQ21, l21, y21, z21⟩, st21⟩ := X1.virtualBack hx (y := (⟨"com/example/gentle_bucket/gentlebucket/Bucket", "add", "(JJ)V"⟩ : MethodName)) (z := (⟨"com/example/gentle_bucket/gentlebucket/Meter", "add", "(JJ)V"⟩ : MethodName)) hown (mvT hZ (hw _ (List.mem_of_getElem? (i := 218) rfl))) (mvT hZ (hw _ (List.mem_of_getElem? (i := 219) rfl))) (own_nfc (args := #[]) (mvT hZ (hw _ (List.mem_of_getElem? (i := 136) rfl))) rfl) (mvT hZ (hw _ (List.mem_of_getElem? (i := 220) rfl))) (mvT hZ (hw _ (List.mem_of_getElem? (i := 221) rfl))) (by decide) (backOf (W := 0) (rm39 l Z a0 hw [] d0 u0 u1 u0 c0 ra de am pe b0 x0 x1 zz h1 n0 (Nat.le_trans Z0 K1.1) g_d0 o1_0 o1_1 o1_2 o1_3 o1_4 c3 c4 c5 c6 c7 c8 c9 c10 c11 c12 c13 c14 c15 c16 (fun _ => rfl)) hZ (hw _ (List.mem_of_getElem? (i := 222) rfl)) (hw _ (List.mem_of_getElem? (i := 7) rfl)) (by decide) (by decide)) q21a q21c (g := (mkF m 18 #[.val (.ref d0), .val (.long u0), .second, .val (.long u1), .second, .val (.long (0 : Int64)), .second, .unset] [(.long u1), (.long u0), (.ref d0)])) rfl (by rw [hml]; rfl) (Steps.refl _) (argsL := [(.long u0), (.long u1)]) (rest := []) (lenOf pd_28JJ29V rfl) rfl (by show 2 * 0 + _ ≤ _; exact Nat.le_of_eq rfl) (hb hby d22_18) (fun _ _ => ⟨rfl, e1, (by decide : 7 + 5 ≤ _), (by decide : 14 + 10 ≤ _)⟩)
  dsimp only [Pt.U, Pt.locs, Pt.cells, Pt.slots] at X21 l21 y21 z21 st21 hQ21
  subst l21 y21 z21
  obtain ⟨h21, e21⟩ : ∃ z, T21.heap = z := ⟨_, rfl⟩
  rw [e21] at hQ21
  obtain ⟨rfl, N21q, Kc21, o21_0⟩ := hQ21
  have N21 := Fr.app N1 N21q
  have c22 := o1_0.keep Kc21
  have c23 := c3.keep Kc21
  have c24 := c4.keep Kc21 (ninS (own_ne_cls c23 c22 (by decide)) nin0)
  have c25 := c5.keep Kc21 (ninS (own_ne_cls c23 c22 (by decide)) nin0)
  have c26 := c6.keep Kc21 (ninS (own_ne_cls c23 c22 (by decide)) nin0)
  have c27 := c7.keep Kc21
  have c28 := c8.keep Kc21 (ninS (own_ne_cls c27 c22 (by decide)) nin0)
  have c29 := c9.keep Kc21 (ninS (own_ne_cls c27 c22 (by decide)) nin0)
  have c30 := c10.keep Kc21
  have c31 := c11.keep Kc21 (ninS (own_ne_cls c30 c22 (by decide)) nin0)
  have c32 := c12.keep Kc21 (ninS (own_ne_cls c30 c22 (by decide)) nin0)
  have c33 := own_sta_keep c13 Kc21 (allS (own_ns o1_0) all0)
  have c34 := c14.keep Kc21
  have c35 := c15.keep Kc21 (ninS (own_ne_cls c34 c22 (by decide)) nin0)
  have c36 := c16.keep Kc21 (ninS (own_ne_cls c34 c22 (by decide)) nin0)
  have c37 := own_sta_keep c17 Kc21 (allS (own_ns o1_0) all0)
  have c38 := c18.keep Kc21
  have c39 := c19.keep Kc21 (ninS (own_ne_cls c38 c22 (by decide)) nin0)
  have K21 := K1.trans Kc21 (allS (Or.inl (List.mem_of_getElem? (i := 0) rfl)) all0)
  refine Wp.go st21 ?_
  show Wp p e below _ (T21.setTop (mkF m 21 #[.val (.ref d0), .val (.long u0), .second, .val (.long u1), .second, .val (.long (0 : Int64)), .second, .unset] []))
  obtain ⟨T40, X40, e40, st40⟩ := getS2 X21 hx hZ hown (host := "") (Or.inl (hw _ (List.mem_of_getElem? (i := 223) rfl))) Via.refl e21 c37 (g := (mkF m 21 #[.val (.ref d0), .val (.long u0), .second, .val (.long u1), .second, .val (.long (0 : Int64)), .second, .unset] [])) rfl (hb hby d22_21)
  refine Wp.step st40 ?_
  show Wp p e below _ (T40.setTop (mkF m 24 #[.val (.ref d0), .val (.long u0), .second, .val (.long u1), .second, .val (.long (0 : Int64)), .second, .unset] [(.ref ds)]))
  refine Wp.step (fun t k => XS.astore X40.here hx rfl (hb hby d22_24) rfl rfl (l' := #[.val (.ref d0), .val (.long u0), .second, .val (.long u1), .second, .val (.long (0 : Int64)), .second, .val (.ref ds)]) rfl k) ?_
  show Wp p e below _ (T40.setTop (mkF m 26 #[.val (.ref d0), .val (.long u0), .second, .val (.long u1), .second, .val (.long (0 : Int64)), .second, .val (.ref ds)] []))
  refine Wp.step (fun t k => XS.goto X40.here hx rfl (pc0 := 26) (pc' := 52) rfl (hb hby d22_26) (by decide) (by decide) k) ?_
  show Wp p e below _ (T40.setTop (mkF m 52 #[.val (.ref d0), .val (.long u0), .second, .val (.long u1), .second, .val (.long (0 : Int64)), .second, .val (.ref ds)] []))
  refine Wp.step (fun t k => XS.aload X40.here hx rfl (hb hby d22_52) rfl rfl k) ?_
  show Wp p e below _ (T40.setTop (mkF m 54 #[.val (.ref d0), .val (.long u0), .second, .val (.long u1), .second, .val (.long (0 : Int64)), .second, .val (.ref ds)] [(.ref ds)]))
  refine Wp.retA X40 hx Bd.returns rfl (hb hby d22_54) hlk ?_ (by decide) (by decide)
  show Q22_f Z d0 u0 u1 ln c0 ra de am pe b0 x0 x1 zz ds h0 n0 (some (.ref ds)) T40.heap _
  rw [e40]
  exact ⟨rfl, N21, K21⟩
theorem d22_29 : decode prog_2_method_3_code 29 = .ok (.aload_n 0, 1) := by decide +kernel
theorem d22_30 : decode prog_2_method_3_code 30 = .ok (.lload_n 3, 1) := by decide +kernel
theorem d22_31 : decode prog_2_method_3_code 31 = .ok (.invokevirtual 59, 3) := by decide +kernel
theorem d22_34 : decode prog_2_method_3_code 34 = .ok (.ifCond .eq 11, 3) := by decide +kernel
theorem d22_37 : decode prog_2_method_3_code 37 = .ok (.getstatic 63, 3) := by decide +kernel
theorem d22_40 : decode prog_2_method_3_code 40 = .ok (.astore 7, 2) := by decide +kernel
theorem d22_42 : decode prog_2_method_3_code 42 = .ok (.goto 10, 3) := by decide +kernel
def Q22_n (Z : State) (d0 : Addr) (u0 : Int64) (u1 : Int64) (ln : Int64) (c0 : Addr) (ra : Addr) (de : Addr) (am : Int64) (pe : Int64) (b0 : Int64) (x0 : Int64) (x1 : Int64) (zz : Addr) (ds : Addr) (h0 : Heap) (n0 : Nat) (v : Option Value) (h : Heap) (L : List Loc) : Prop := v = some (.ref ds) ∧ Fr n0 L ∧ Keep h0 h [d0]
set_option maxRecDepth 65536 in
set_option maxHeartbeats 40000000 in
theorem rm22_n (l : Launch) (Z : State) (a0 : Array Value) (hw : ∀ d ∈ tables_1, d.before a0 Z = true) (ws : List Jvm.Cond) (d0 : Addr) (u0 : Int64) (u1 : Int64) (ln : Int64) (c0 : Addr) (ra : Addr) (de : Addr) (am : Int64) (pe : Int64) (b0 : Int64) (x0 : Int64) (x1 : Int64) (zz : Addr) (ds : Addr) (h0 : Heap) (n0 : Nat) (Z0 : n0 ≤ h0.size) (g_d0 : n0 ≤ d0) (E_d0 : Exa Z h0 d0 "com/example/gentle_bucket/gentlebucket/Meter") (F_levelNanos_d0 : Fld Z h0 d0 "com/example/gentle_bucket/gentlebucket/Meter" "levelNanos" "J" (.long ln)) (F_contract_d0 : Fld Z h0 d0 "com/example/gentle_bucket/gentlebucket/Meter" "contract" "Lcom/example/gentle_bucket/gentlebucket/Contract;" (.ref c0)) (F_levelHigh_d0 : Fld Z h0 d0 "com/example/gentle_bucket/gentlebucket/Meter" "levelHigh" "J" (.long (0 : Int64))) (F_levelLow_d0 : Fld Z h0 d0 "com/example/gentle_bucket/gentlebucket/Meter" "levelLow" "J" (.long (0 : Int64))) (E_c0 : Exa Z h0 c0 "com/example/gentle_bucket/gentlebucket/Contract") (F_rate_c0 : Fld Z h0 c0 "com/example/gentle_bucket/gentlebucket/Contract" "rate" "Lcom/example/gentle_bucket/gentlebucket/Rate;" (.ref ra)) (F_depth_c0 : Fld Z h0 c0 "com/example/gentle_bucket/gentlebucket/Contract" "depth" "Lcom/example/gentle_bucket/gentlebucket/Uint128;" (.ref de)) (F_burst_c0 : Fld Z h0 c0 "com/example/gentle_bucket/gentlebucket/Contract" "burst" "J" (.long b0)) (E_ra : Exa Z h0 ra "com/example/gentle_bucket/gentlebucket/Rate") (F_amount_ra : Fld Z h0 ra "com/example/gentle_bucket/gentlebucket/Rate" "amount" "J" (.long am)) (F_periodNanos_ra : Fld Z h0 ra "com/example/gentle_bucket/gentlebucket/Rate" "periodNanos" "J" (.long pe)) (E_de : Exa Z h0 de "com/example/gentle_bucket/gentlebucket/Uint128") (F_high_de : Fld Z h0 de "com/example/gentle_bucket/gentlebucket/Uint128" "high" "J" (.long x0)) (F_low_de : Fld Z h0 de "com/example/gentle_bucket/gentlebucket/Uint128" "low" "J" (.long x1)) (S_ZERO_zz : Sta Z h0 "com/example/gentle_bucket/gentlebucket/Uint128" "ZERO" "Lcom/example/gentle_bucket/gentlebucket/Uint128;" (.ref zz)) (E_zz : Exa Z h0 zz "com/example/gentle_bucket/gentlebucket/Uint128") (F_high_zz : Fld Z h0 zz "com/example/gentle_bucket/gentlebucket/Uint128" "high" "J" (.long (0 : Int64))) (F_low_zz : Fld Z h0 zz "com/example/gentle_bucket/gentlebucket/Uint128" "low" "J" (.long (0 : Int64))) (S_NEVER_ds : Sta Z h0 "com/example/gentle_bucket/gentlebucket/Decision" "NEVER" "Lcom/example/gentle_bucket/gentlebucket/Decision;" (.ref ds)) (E_ds : Exa Z h0 ds "com/example/gentle_bucket/gentlebucket/Decision") (F_waitNanos_ds : Fld Z h0 ds "com/example/gentle_bucket/gentlebucket/Decision" "waitNanos" "J" (.long (9223372036854775807 : Int64))) (hc : ¬ u1 < 1) (hnf : b0 < u1) (hln : ¬ ln < u0 → ln = u0) :
    MetFree l (⟨"com/example/gentle_bucket/gentlebucket/Bucket", "decide", "(JJ)Lcom/example/gentle_bucket/gentlebucket/Decision;"⟩ : MethodName) (head1 (Jvm.Cond.code (⟨"com/example/gentle_bucket/gentlebucket/Bucket", "decide", "(JJ)Lcom/example/gentle_bucket/gentlebucket/Decision;"⟩ : MethodName) prog_2_method_3_code 8 (some (.object "com/example/gentle_bucket/gentlebucket/Decision")) :: ws) ({ frames := 7, cells := 2, slots := 4, locals := 107 } : Room)) (fun a U => a = #[(.ref d0), (.long u0), (.long u1)] ∧ Z.Warmed39 U.vm ∧ U.heap = h0) (fun _ _ _ _ _ => True) (fun _ U o U' => ∃ v L, o = .returned v ∧ Q22_n Z d0 u0 u1 ln c0 ra de am pe b0 x0 x1 zz ds h0 n0 v U'.heap L ∧ FrameEnd U o U' L ({ frames := 7, cells := 2, slots := 4, locals := 107 } : Room).cells ({ frames := 7, cells := 2, slots := 4, locals := 107 } : Room).slots) := by
  refine MetFree.of_bodySF (plainFor_of_name pn_com_example_gentle_bucket_gentlebucket_Bucket) hisR ?_
  intro p e s m args below meth c s₁ Bd hml0 hP hK
  obtain ⟨rfl, hZ, hh⟩ := hP
  have hx := Bd.exec
  have hby := Bd.bytes
  have hlk : meth.locks = false := Bd.notSynchronized
  have hml : c.maxLocals = 8 := hml0
  have hown : s.vm.findClass "com/example/gentle_bucket/gentlebucket/Bucket" = some m.cls := findClass_of_methodNamed Bd.named
  have hnm := (name_of_methodNamed Bd.named Bd.method).1
  have X0 : Stand p l e ({ frames := 7, cells := 2, slots := 4, locals := 107 } : Room) s m #[(.ref d0), (.long u0), (.long u1)] below meth c s₁ [] 0 0 := Stand.of_body Bd
  have e0 : s₁.heap = h0 := by rw [← hh, Bd.state]; rfl
  have N0 := Fr.nil n0
  have K0 : Keep h0 h0 [d0] := Keep.refl h0 _
  show Wp p e below (Out s (Q22_n Z d0 u0 u1 ln c0 ra de am pe b0 x0 x1 zz ds h0 n0) ({ frames := 7, cells := 2, slots := 4, locals := 107 } : Room).cells ({ frames := 7, cells := 2, slots := 4, locals := 107 } : Room).slots) (s₁.setTop (entryFrame m #[(.ref d0), (.long u0), (.long u1)] 8))
  rw [ef_22_000]
  show Wp p e below _ (s₁.setTop (mkF m 0 #[.val (.ref d0), .val (.long u0), .second, .val (.long u1), .second, .unset, .unset, .unset] []))
  refine Wp.step (fun t k => XS.aloadN X0.here hx rfl (hb hby d22_0) rfl rfl k) ?_
  show Wp p e below _ (s₁.setTop (mkF m 1 #[.val (.ref d0), .val (.long u0), .second, .val (.long u1), .second, .unset, .unset, .unset] [(.ref d0)]))
  refine Wp.step (fun t k => XS.lloadN X0.here hx rfl (hb hby d22_1) rfl k) ?_
  show Wp p e below _ (s₁.setTop (mkF m 2 #[.val (.ref d0), .val (.long u0), .second, .val (.long u1), .second, .unset, .unset, .unset] [(.long u0), (.ref d0)]))
  refine Wp.step (fun t k => XS.lloadN X0.here hx rfl (hb hby d22_2) rfl k) ?_
  show Wp p e below _ (s₁.setTop (mkF m 3 #[.val (.ref d0), .val (.long u0), .second, .val (.long u1), .second, .unset, .unset, .unset] [(.long u1), (.long u0), (.ref d0)]))
  obtain ⟨cq1, kq1, q1a, q1b, q1c⟩ := isOf hZ e0 E_d0
  obtain ⟨_, _, ⟨T1, L1, k1, n1⟩, -, X1, ⟨Lc1, hQ1, l1, y1, z1⟩, st1⟩ := X0.virtualBack hx (y := (⟨"com/example/gentle_bucket/gentlebucket/Bucket", "waitNanos", "(JJ)J"⟩ : MethodName)) (z := (⟨"com/example/gentle_bucket/gentlebucket/Meter", "waitNanos", "(JJ)J"⟩ : MethodName)) hown (mvT hZ (hw _ (List.mem_of_getElem? (i := 138) rfl))) (mvT hZ (hw _ (List.mem_of_getElem? (i := 139) rfl))) (own_nfc (args := #[]) (mvT hZ (hw _ (List.mem_of_getElem? (i := 136) rfl))) rfl) (mvT hZ (hw _ (List.mem_of_getElem? (i := 140) rfl))) (mvT hZ (hw _ (List.mem_of_getElem? (i := 141) rfl))) (by decide) (backOf (W := 0) (rm23_n l Z a0 hw [] d0 u0 u1 ln c0 ra de am pe b0 x0 x1 zz h0 n0 (Nat.le_trans Z0 K0.1) g_d0 E_d0 F_levelNanos_d0 F_contract_d0 F_levelHigh_d0 F_levelLow_d0 E_c0 F_rate_c0 F_depth_c0 F_burst_c0 E_ra F_amount_ra F_periodNanos_ra E_de F_high_de F_low_de S_ZERO_zz E_zz F_high_zz F_low_zz hc hnf hln) hZ (hw _ (List.mem_of_getElem? (i := 142) rfl)) (hw _ (List.mem_of_getElem? (i := 7) rfl)) (by decide) (by decide)) q1a q1c (g := (mkF m 3 #[.val (.ref d0), .val (.long u0), .second, .val (.long u1), .second, .unset, .unset, .unset] [(.long u1), (.long u0), (.ref d0)])) rfl (by rw [hml]; rfl) (Steps.refl _) (argsL := [(.long u0), (.long u1)]) (rest := []) (lenOf pd_28JJ29J rfl) rfl (by show 2 * 0 + _ ≤ _; exact Nat.le_of_eq rfl) (hb hby d22_3) (fun _ _ => ⟨rfl, e0, (by decide : 0 + 2 ≤ _), (by decide : 0 + 4 ≤ _)⟩)
  dsimp only [Pt.U, Pt.locs, Pt.cells, Pt.slots] at X1 l1 y1 z1 st1 hQ1
  subst l1 y1 z1
  obtain ⟨h1, e1⟩ : ∃ z, T1.heap = z := ⟨_, rfl⟩
  rw [e1] at hQ1
  obtain ⟨rfl, N1q, Kc1, o1_0, o1_1, o1_2, o1_3, o1_4⟩ := hQ1
  have N1 := Fr.app N0 N1q
  have c2 := E_d0.keep Kc1
  have c3 := E_c0.keep Kc1
  have c4 := F_rate_c0.keep Kc1 (ninS (own_ne_cls c3 c2 (by decide)) nin0)
  have c5 := F_depth_c0.keep Kc1 (ninS (own_ne_cls c3 c2 (by decide)) nin0)
  have c6 := F_burst_c0.keep Kc1 (ninS (own_ne_cls c3 c2 (by decide)) nin0)
  have c7 := E_ra.keep Kc1
  have c8 := F_amount_ra.keep Kc1 (ninS (own_ne_cls c7 c2 (by decide)) nin0)
  have c9 := F_periodNanos_ra.keep Kc1 (ninS (own_ne_cls c7 c2 (by decide)) nin0)
  have c10 := E_de.keep Kc1
  have c11 := F_high_de.keep Kc1 (ninS (own_ne_cls c10 c2 (by decide)) nin0)
  have c12 := F_low_de.keep Kc1 (ninS (own_ne_cls c10 c2 (by decide)) nin0)
  have c13 := own_sta_keep S_ZERO_zz Kc1 (allS (own_ns E_d0) all0)
  have c14 := E_zz.keep Kc1
  have c15 := F_high_zz.keep Kc1 (ninS (own_ne_cls c14 c2 (by decide)) nin0)
  have c16 := F_low_zz.keep Kc1 (ninS (own_ne_cls c14 c2 (by decide)) nin0)
  have c17 := own_sta_keep S_NEVER_ds Kc1 (allS (own_ns E_d0) all0)
  have c18 := E_ds.keep Kc1
  have c19 := F_waitNanos_ds.keep Kc1 (ninS (own_ne_cls c18 c2 (by decide)) nin0)
  have K1 := K0.trans Kc1 (allS (Or.inl (List.mem_of_getElem? (i := 0) rfl)) all0)
  refine Wp.go st1 ?_
  show Wp p e below _ (T1.setTop (mkF m 6 #[.val (.ref d0), .val (.long u0), .second, .val (.long u1), .second, .unset, .unset, .unset] [(.long (9223372036854775807 : Int64))]))
  refine Wp.step (fun t k => XS.lstore X1.here hx rfl (hb hby d22_6) rfl (l' := #[.val (.ref d0), .val (.long u0), .second, .val (.long u1), .second, .val (.long (9223372036854775807 : Int64)), .second, .unset]) rfl k) ?_
  show Wp p e below _ (T1.setTop (mkF m 8 #[.val (.ref d0), .val (.long u0), .second, .val (.long u1), .second, .val (.long (9223372036854775807 : Int64)), .second, .unset] []))
  refine Wp.step (fun t k => XS.lload X1.here hx rfl (hb hby d22_8) rfl k) ?_
  show Wp p e below _ (T1.setTop (mkF m 10 #[.val (.ref d0), .val (.long u0), .second, .val (.long u1), .second, .val (.long (9223372036854775807 : Int64)), .second, .unset] [(.long (9223372036854775807 : Int64))]))
  refine Wp.step (fun t k => XS.lconst X1.here hx rfl (hb hby d22_10) k) ?_
  show Wp p e below _ (T1.setTop (mkF m 11 #[.val (.ref d0), .val (.long u0), .second, .val (.long u1), .second, .val (.long (9223372036854775807 : Int64)), .second, .unset] [(.long (0 : Int64)), (.long (9223372036854775807 : Int64))]))
  refine Wp.step (fun t k => XS.lcmp X1.here hx rfl (hb hby d22_11) rfl k) ?_
  show Wp p e below _ (T1.setTop (mkF m 12 #[.val (.ref d0), .val (.long u0), .second, .val (.long u1), .second, .val (.long (9223372036854775807 : Int64)), .second, .unset] [(.int (lcmpW (9223372036854775807 : Int64) (0 : Int64)))]))
  refine Wp.step (fun t k => XS.ifYes X1.here hx rfl (pc0 := 12) (pc' := 29) rfl (hb hby d22_12) rfl ((if0 _ _).trans (feq (show ¬ ((lcmpW (9223372036854775807 : Int64) (0 : Int64)) = (0 : Int32)) from fun q => absurd ((lw_eq _ _).mp q) (by decide))).2) (by decide) (by decide) k) ?_
  show Wp p e below _ (T1.setTop (mkF m 29 #[.val (.ref d0), .val (.long u0), .second, .val (.long u1), .second, .val (.long (9223372036854775807 : Int64)), .second, .unset] []))
  refine Wp.step (fun t k => XS.aloadN X1.here hx rfl (hb hby d22_29) rfl rfl k) ?_
  show Wp p e below _ (T1.setTop (mkF m 30 #[.val (.ref d0), .val (.long u0), .second, .val (.long u1), .second, .val (.long (9223372036854775807 : Int64)), .second, .unset] [(.ref d0)]))
  refine Wp.step (fun t k => XS.lloadN X1.here hx rfl (hb hby d22_30) rfl k) ?_
  show Wp p e below _ (T1.setTop (mkF m 31 #[.val (.ref d0), .val (.long u0), .second, .val (.long u1), .second, .val (.long (9223372036854775807 : Int64)), .second, .unset] [(.long u1), (.ref d0)]))
  obtain ⟨cq21, kq21, q21a, q21b, q21c⟩ := isOf hZ e1 o1_0
  obtain ⟨_, _, ⟨T21, L21, k21, n21⟩, -, X21, ⟨Lc21, hQ21, l21, y21, z21⟩, st21⟩ := X1.virtualBack hx (y := (⟨"com/example/gentle_bucket/gentlebucket/Bucket", "neverFits", "(J)Z"⟩ : MethodName)) (z := (⟨"com/example/gentle_bucket/gentlebucket/Meter", "neverFits", "(J)Z"⟩ : MethodName)) hown (mvT hZ (hw _ (List.mem_of_getElem? (i := 234) rfl))) (mvT hZ (hw _ (List.mem_of_getElem? (i := 235) rfl))) (own_nfc (args := #[]) (mvT hZ (hw _ (List.mem_of_getElem? (i := 136) rfl))) rfl) (mvT hZ (hw _ (List.mem_of_getElem? (i := 236) rfl))) (mvT hZ (hw _ (List.mem_of_getElem? (i := 119) rfl))) (by decide) (backOf (W := 0) (rm19 l Z a0 hw [] d0 u1 c0 b0 h1 n0 (Nat.le_trans Z0 K1.1) o1_2 c3 c6 ) hZ (hw _ (List.mem_of_getElem? (i := 121) rfl)) (hw _ (List.mem_of_getElem? (i := 7) rfl)) (by decide) (by decide)) q21a q21c (g := (mkF m 31 #[.val (.ref d0), .val (.long u0), .second, .val (.long u1), .second, .val (.long (9223372036854775807 : Int64)), .second, .unset] [(.long u1), (.ref d0)])) rfl (by rw [hml]; rfl) (Steps.refl _) (argsL := [(.long u1)]) (rest := []) (lenOf pd_28J29Z rfl) rfl (by show 2 * 0 + _ ≤ _; exact Nat.le_of_eq rfl) (hb hby d22_31) (fun _ _ => ⟨rfl, e1, (by decide : 2 + 0 ≤ _), (by decide : 4 + 0 ≤ _)⟩)
  dsimp only [Pt.U, Pt.locs, Pt.cells, Pt.slots] at X21 l21 y21 z21 st21 hQ21
  subst l21 y21 z21
  obtain ⟨rfl, N21q, e21⟩ := hQ21
  have N21 := Fr.app N1 N21q
  refine Wp.go st21 ?_
  show Wp p e below _ (T21.setTop (mkF m 34 #[.val (.ref d0), .val (.long u0), .second, .val (.long u1), .second, .val (.long (9223372036854775807 : Int64)), .second, .unset] [(.int (own_nf u1 b0))]))
  refine Wp.step (fun t k => XS.ifNo X21.here hx rfl (hb hby d22_34) rfl ((if0 _ _).trans (feq (show ¬ ((own_nf u1 b0) = (0 : Int32)) from (by rw [own_nf, if_pos hnf]; decide))).1) k) ?_
  show Wp p e below _ (T21.setTop (mkF m 37 #[.val (.ref d0), .val (.long u0), .second, .val (.long u1), .second, .val (.long (9223372036854775807 : Int64)), .second, .unset] []))
  obtain ⟨T23, X23, e23, st23⟩ := getS2 X21 hx hZ hown (host := "") (Or.inl (hw _ (List.mem_of_getElem? (i := 237) rfl))) Via.refl e21 c17 (g := (mkF m 37 #[.val (.ref d0), .val (.long u0), .second, .val (.long u1), .second, .val (.long (9223372036854775807 : Int64)), .second, .unset] [])) rfl (hb hby d22_37)
  refine Wp.step st23 ?_
  show Wp p e below _ (T23.setTop (mkF m 40 #[.val (.ref d0), .val (.long u0), .second, .val (.long u1), .second, .val (.long (9223372036854775807 : Int64)), .second, .unset] [(.ref ds)]))
  refine Wp.step (fun t k => XS.astore X23.here hx rfl (hb hby d22_40) rfl rfl (l' := #[.val (.ref d0), .val (.long u0), .second, .val (.long u1), .second, .val (.long (9223372036854775807 : Int64)), .second, .val (.ref ds)]) rfl k) ?_
  show Wp p e below _ (T23.setTop (mkF m 42 #[.val (.ref d0), .val (.long u0), .second, .val (.long u1), .second, .val (.long (9223372036854775807 : Int64)), .second, .val (.ref ds)] []))
  refine Wp.step (fun t k => XS.goto X23.here hx rfl (pc0 := 42) (pc' := 52) rfl (hb hby d22_42) (by decide) (by decide) k) ?_
  show Wp p e below _ (T23.setTop (mkF m 52 #[.val (.ref d0), .val (.long u0), .second, .val (.long u1), .second, .val (.long (9223372036854775807 : Int64)), .second, .val (.ref ds)] []))
  refine Wp.step (fun t k => XS.aload X23.here hx rfl (hb hby d22_52) rfl rfl k) ?_
  show Wp p e below _ (T23.setTop (mkF m 54 #[.val (.ref d0), .val (.long u0), .second, .val (.long u1), .second, .val (.long (9223372036854775807 : Int64)), .second, .val (.ref ds)] [(.ref ds)]))
  refine Wp.retA X23 hx Bd.returns rfl (hb hby d22_54) hlk ?_ (by decide) (by decide)
  show Q22_n Z d0 u0 u1 ln c0 ra de am pe b0 x0 x1 zz ds h0 n0 (some (.ref ds)) T23.heap _
  rw [e23]
  exact ⟨rfl, N21, K1⟩
theorem pd_28JJ29Lcom2fexample2fgentle_bucket2fgentlebucket2fDecision3b : parseMethodDescriptor "(JJ)Lcom/example/gentle_bucket/gentlebucket/Decision;" = some ⟨[.long, .long], some (.object "com/example/gentle_bucket/gentlebucket/Decision")⟩ := by decide +kernel
theorem pd_2829Z : parseMethodDescriptor "()Z" = some ⟨[], some .boolean⟩ := by decide +kernel
theorem d21_0 : decode prog_12_method_3_code 0 = .ok (.aload_n 0, 1) := by decide +kernel
theorem d21_1 : decode prog_12_method_3_code 1 = .ok (.lload_n 1, 1) := by decide +kernel
theorem d21_2 : decode prog_12_method_3_code 2 = .ok (.lload_n 3, 1) := by decide +kernel
theorem d21_3 : decode prog_12_method_3_code 3 = .ok (.invokevirtual 36, 3) := by decide +kernel
theorem d21_6 : decode prog_12_method_3_code 6 = .ok (.invokevirtual 40, 3) := by decide +kernel
theorem d21_9 : decode prog_12_method_3_code 9 = .ok (.ireturn, 1) := by decide +kernel
theorem ef_21_000 (m : MethodId) (x0 : Addr) (x1 : Int64) (x2 : Int64) : entryFrame m #[(.ref x0), (.long x1), (.long x2)] 5 = mkF m 0 #[.val (.ref x0), .val (.long x1), .second, .val (.long x2), .second] [] := by first | (simp [entryFrame, mkF, argsToLocals, Value.category]; done) | rfl
def Q21_f (Z : State) (d0 : Addr) (u0 : Int64) (u1 : Int64) (ln : Int64) (c0 : Addr) (ra : Addr) (de : Addr) (am : Int64) (pe : Int64) (b0 : Int64) (x0 : Int64) (x1 : Int64) (zz : Addr) (ds : Addr) (h0 : Heap) (n0 : Nat) (v : Option Value) (h : Heap) (L : List Loc) : Prop := v = some (.int (1 : Int32)) ∧ Fr n0 L ∧ Keep h0 h [d0]
set_option maxRecDepth 65536 in
set_option maxHeartbeats 40000000 in
theorem rm21_f (l : Launch) (Z : State) (a0 : Array Value) (hw : ∀ d ∈ tables_1, d.before a0 Z = true) (ws : List Jvm.Cond) (d0 : Addr) (u0 : Int64) (u1 : Int64) (ln : Int64) (c0 : Addr) (ra : Addr) (de : Addr) (am : Int64) (pe : Int64) (b0 : Int64) (x0 : Int64) (x1 : Int64) (zz : Addr) (ds : Addr) (h0 : Heap) (n0 : Nat) (Z0 : n0 ≤ h0.size) (g_d0 : n0 ≤ d0) (E_d0 : Exa Z h0 d0 "com/example/gentle_bucket/gentlebucket/Meter") (F_levelNanos_d0 : Fld Z h0 d0 "com/example/gentle_bucket/gentlebucket/Meter" "levelNanos" "J" (.long ln)) (F_contract_d0 : Fld Z h0 d0 "com/example/gentle_bucket/gentlebucket/Meter" "contract" "Lcom/example/gentle_bucket/gentlebucket/Contract;" (.ref c0)) (F_levelHigh_d0 : Fld Z h0 d0 "com/example/gentle_bucket/gentlebucket/Meter" "levelHigh" "J" (.long (0 : Int64))) (F_levelLow_d0 : Fld Z h0 d0 "com/example/gentle_bucket/gentlebucket/Meter" "levelLow" "J" (.long (0 : Int64))) (E_c0 : Exa Z h0 c0 "com/example/gentle_bucket/gentlebucket/Contract") (F_rate_c0 : Fld Z h0 c0 "com/example/gentle_bucket/gentlebucket/Contract" "rate" "Lcom/example/gentle_bucket/gentlebucket/Rate;" (.ref ra)) (F_depth_c0 : Fld Z h0 c0 "com/example/gentle_bucket/gentlebucket/Contract" "depth" "Lcom/example/gentle_bucket/gentlebucket/Uint128;" (.ref de)) (F_burst_c0 : Fld Z h0 c0 "com/example/gentle_bucket/gentlebucket/Contract" "burst" "J" (.long b0)) (E_ra : Exa Z h0 ra "com/example/gentle_bucket/gentlebucket/Rate") (F_amount_ra : Fld Z h0 ra "com/example/gentle_bucket/gentlebucket/Rate" "amount" "J" (.long am)) (F_periodNanos_ra : Fld Z h0 ra "com/example/gentle_bucket/gentlebucket/Rate" "periodNanos" "J" (.long pe)) (E_de : Exa Z h0 de "com/example/gentle_bucket/gentlebucket/Uint128") (F_high_de : Fld Z h0 de "com/example/gentle_bucket/gentlebucket/Uint128" "high" "J" (.long x0)) (F_low_de : Fld Z h0 de "com/example/gentle_bucket/gentlebucket/Uint128" "low" "J" (.long x1)) (S_ZERO_zz : Sta Z h0 "com/example/gentle_bucket/gentlebucket/Uint128" "ZERO" "Lcom/example/gentle_bucket/gentlebucket/Uint128;" (.ref zz)) (E_zz : Exa Z h0 zz "com/example/gentle_bucket/gentlebucket/Uint128") (F_high_zz : Fld Z h0 zz "com/example/gentle_bucket/gentlebucket/Uint128" "high" "J" (.long (0 : Int64))) (F_low_zz : Fld Z h0 zz "com/example/gentle_bucket/gentlebucket/Uint128" "low" "J" (.long (0 : Int64))) (S_CONFORMS_ds : Sta Z h0 "com/example/gentle_bucket/gentlebucket/Decision" "CONFORMS" "Lcom/example/gentle_bucket/gentlebucket/Decision;" (.ref ds)) (E_ds : Exa Z h0 ds "com/example/gentle_bucket/gentlebucket/Decision") (F_waitNanos_ds : Fld Z h0 ds "com/example/gentle_bucket/gentlebucket/Decision" "waitNanos" "J" (.long (0 : Int64))) (hc : ¬ u1 < 1) (hf : ¬ b0 < u1) (hp : ¬ pe < 1) (hbb : ¬ b0 < 1) (hU : own_U x0 x1 = own_u b0 * own_u pe) (hln : ¬ ln < u0 → ln = u0) :
    MetFree l (⟨"com/example/gentle_bucket/gentlebucket/Meter", "offer", "(JJ)Z"⟩ : MethodName) (head1 (Jvm.Cond.code (⟨"com/example/gentle_bucket/gentlebucket/Meter", "offer", "(JJ)Z"⟩ : MethodName) prog_12_method_3_code 5 (some .boolean) :: ws) ({ frames := 8, cells := 12, slots := 24, locals := 126 } : Room)) (fun a U => a = #[(.ref d0), (.long u0), (.long u1)] ∧ Z.Warmed39 U.vm ∧ U.heap = h0) (fun _ _ _ _ _ => True) (fun _ U o U' => ∃ v L, o = .returned v ∧ Q21_f Z d0 u0 u1 ln c0 ra de am pe b0 x0 x1 zz ds h0 n0 v U'.heap L ∧ FrameEnd U o U' L ({ frames := 8, cells := 12, slots := 24, locals := 126 } : Room).cells ({ frames := 8, cells := 12, slots := 24, locals := 126 } : Room).slots) := by
  refine MetFree.of_bodySF (plainFor_of_name pn_com_example_gentle_bucket_gentlebucket_Meter) hisR ?_
  intro p e s m args below meth c s₁ Bd hml0 hP hK
  obtain ⟨rfl, hZ, hh⟩ := hP
  have hx := Bd.exec
  have hby := Bd.bytes
  have hlk : meth.locks = false := Bd.notSynchronized
  have hml : c.maxLocals = 5 := hml0
  have hown : s.vm.findClass "com/example/gentle_bucket/gentlebucket/Meter" = some m.cls := findClass_of_methodNamed Bd.named
  have hnm := (name_of_methodNamed Bd.named Bd.method).1
  have X0 : Stand p l e ({ frames := 8, cells := 12, slots := 24, locals := 126 } : Room) s m #[(.ref d0), (.long u0), (.long u1)] below meth c s₁ [] 0 0 := Stand.of_body Bd
  have e0 : s₁.heap = h0 := by rw [← hh, Bd.state]; rfl
  have N0 := Fr.nil n0
  have K0 : Keep h0 h0 [d0] := Keep.refl h0 _
  show Wp p e below (Out s (Q21_f Z d0 u0 u1 ln c0 ra de am pe b0 x0 x1 zz ds h0 n0) ({ frames := 8, cells := 12, slots := 24, locals := 126 } : Room).cells ({ frames := 8, cells := 12, slots := 24, locals := 126 } : Room).slots) (s₁.setTop (entryFrame m #[(.ref d0), (.long u0), (.long u1)] 5))
  rw [ef_21_000]
  show Wp p e below _ (s₁.setTop (mkF m 0 #[.val (.ref d0), .val (.long u0), .second, .val (.long u1), .second] []))
  refine Wp.step (fun t k => XS.aloadN X0.here hx rfl (hb hby d21_0) rfl rfl k) ?_
  show Wp p e below _ (s₁.setTop (mkF m 1 #[.val (.ref d0), .val (.long u0), .second, .val (.long u1), .second] [(.ref d0)]))
  refine Wp.step (fun t k => XS.lloadN X0.here hx rfl (hb hby d21_1) rfl k) ?_
  show Wp p e below _ (s₁.setTop (mkF m 2 #[.val (.ref d0), .val (.long u0), .second, .val (.long u1), .second] [(.long u0), (.ref d0)]))
  refine Wp.step (fun t k => XS.lloadN X0.here hx rfl (hb hby d21_2) rfl k) ?_
  show Wp p e below _ (s₁.setTop (mkF m 3 #[.val (.ref d0), .val (.long u0), .second, .val (.long u1), .second] [(.long u1), (.long u0), (.ref d0)]))
  obtain ⟨cq1, kq1, q1a, q1b, q1c⟩ := isOf hZ e0 E_d0
  obtain ⟨_, _, ⟨T1, L1, k1, n1⟩, -, X1, ⟨Lc1, hQ1, l1, y1, z1⟩, st1⟩ := X0.virtualBackUp hx (C := "com/example/gentle_bucket/gentlebucket/Meter") (owner := "com/example/gentle_bucket/gentlebucket/Bucket") (x := (⟨"com/example/gentle_bucket/gentlebucket/Meter", "decide", "(JJ)Lcom/example/gentle_bucket/gentlebucket/Decision;"⟩ : MethodName)) (y := (⟨"com/example/gentle_bucket/gentlebucket/Bucket", "decide", "(JJ)Lcom/example/gentle_bucket/gentlebucket/Decision;"⟩ : MethodName)) hown (mvT hZ (hw _ (List.mem_of_getElem? (i := 132) rfl))) (mvT hZ (hw _ (List.mem_of_getElem? (i := 133) rfl))) (mvT hZ (hw _ (List.mem_of_getElem? (i := 134) rfl))) (by decide) (mvT hZ (hw _ (List.mem_of_getElem? (i := 136) rfl))) (mvT hZ (hw _ (List.mem_of_getElem? (i := 135) rfl))) (backOf (W := 0) (rm22_f l Z a0 hw [] d0 u0 u1 ln c0 ra de am pe b0 x0 x1 zz ds h0 n0 (Nat.le_trans Z0 K0.1) g_d0 E_d0 F_levelNanos_d0 F_contract_d0 F_levelHigh_d0 F_levelLow_d0 E_c0 F_rate_c0 F_depth_c0 F_burst_c0 E_ra F_amount_ra F_periodNanos_ra E_de F_high_de F_low_de S_ZERO_zz E_zz F_high_zz F_low_zz S_CONFORMS_ds E_ds F_waitNanos_ds hc hf hp hbb hU hln) hZ (hw _ (List.mem_of_getElem? (i := 137) rfl)) (hw _ (List.mem_of_getElem? (i := 105) rfl)) (by decide) (by decide)) q1a q1c (g := (mkF m 3 #[.val (.ref d0), .val (.long u0), .second, .val (.long u1), .second] [(.long u1), (.long u0), (.ref d0)])) rfl (by rw [hml]; rfl) (Steps.refl _) (argsL := [(.long u0), (.long u1)]) (rest := []) (lenOf pd_28JJ29Lcom2fexample2fgentle_bucket2fgentlebucket2fDecision3b rfl) rfl (by show 2 * 0 + _ ≤ _; exact Nat.le_of_eq rfl) (hb hby d21_3) (fun _ _ => ⟨rfl, e0, (by decide : 0 + 12 ≤ _), (by decide : 0 + 24 ≤ _)⟩)
  dsimp only [Pt.U, Pt.locs, Pt.cells, Pt.slots] at X1 l1 y1 z1 st1 hQ1
  subst l1 y1 z1
  obtain ⟨h1, e1⟩ : ∃ z, T1.heap = z := ⟨_, rfl⟩
  rw [e1] at hQ1
  obtain ⟨rfl, N1q, Kc1⟩ := hQ1
  have N1 := Fr.app N0 N1q
  have c2 := E_d0.keep Kc1
  have c3 := E_c0.keep Kc1
  have c4 := F_rate_c0.keep Kc1 (ninS (own_ne_cls c3 c2 (by decide)) nin0)
  have c5 := F_depth_c0.keep Kc1 (ninS (own_ne_cls c3 c2 (by decide)) nin0)
  have c6 := F_burst_c0.keep Kc1 (ninS (own_ne_cls c3 c2 (by decide)) nin0)
  have c7 := E_ra.keep Kc1
  have c8 := F_amount_ra.keep Kc1 (ninS (own_ne_cls c7 c2 (by decide)) nin0)
  have c9 := F_periodNanos_ra.keep Kc1 (ninS (own_ne_cls c7 c2 (by decide)) nin0)
  have c10 := E_de.keep Kc1
  have c11 := F_high_de.keep Kc1 (ninS (own_ne_cls c10 c2 (by decide)) nin0)
  have c12 := F_low_de.keep Kc1 (ninS (own_ne_cls c10 c2 (by decide)) nin0)
  have c13 := own_sta_keep S_ZERO_zz Kc1 (allS (own_ns E_d0) all0)
  have c14 := E_zz.keep Kc1
  have c15 := F_high_zz.keep Kc1 (ninS (own_ne_cls c14 c2 (by decide)) nin0)
  have c16 := F_low_zz.keep Kc1 (ninS (own_ne_cls c14 c2 (by decide)) nin0)
  have c17 := own_sta_keep S_CONFORMS_ds Kc1 (allS (own_ns E_d0) all0)
  have c18 := E_ds.keep Kc1
  have c19 := F_waitNanos_ds.keep Kc1 (ninS (own_ne_cls c18 c2 (by decide)) nin0)
  have K1 := K0.trans Kc1 (allS (Or.inl (List.mem_of_getElem? (i := 0) rfl)) all0)
  refine Wp.go st1 ?_
  show Wp p e below _ (T1.setTop (mkF m 6 #[.val (.ref d0), .val (.long u0), .second, .val (.long u1), .second] [(.ref ds)]))
  obtain ⟨cq20, kq20, q20a, q20b, q20c⟩ := isOf hZ e1 c18
  obtain ⟨_, _, ⟨T20, L20, k20, n20⟩, -, X20, ⟨Lc20, hQ20, l20, y20, z20⟩, st20⟩ := X1.virtualBack hx (y := (⟨"com/example/gentle_bucket/gentlebucket/Decision", "conforms", "()Z"⟩ : MethodName)) (z := (⟨"com/example/gentle_bucket/gentlebucket/Decision", "conforms", "()Z"⟩ : MethodName)) hown (mvT hZ (hw _ (List.mem_of_getElem? (i := 226) rfl))) (mvT hZ (hw _ (List.mem_of_getElem? (i := 227) rfl))) (notFace_of_selects (args := #[]) (mvT hZ (hw _ (List.mem_of_getElem? (i := 229) rfl)))) (mvT hZ (hw _ (List.mem_of_getElem? (i := 229) rfl))) (mvT hZ (hw _ (List.mem_of_getElem? (i := 228) rfl))) (by decide) (backOf (W := 0) (rm40 l Z a0 hw [] ds (0 : Int64) h1 n0 (Nat.le_trans Z0 K1.1) c19 ) hZ (hw _ (List.mem_of_getElem? (i := 230) rfl)) (hw _ (List.mem_of_getElem? (i := 224) rfl)) (by decide) (by decide)) q20a q20c (g := (mkF m 6 #[.val (.ref d0), .val (.long u0), .second, .val (.long u1), .second] [(.ref ds)])) rfl (by rw [hml]; rfl) (Steps.refl _) (argsL := []) (rest := []) (lenOf pd_2829Z rfl) rfl (by show 2 * 0 + _ ≤ _; exact Nat.le_of_eq rfl) (hb hby d21_6) (fun _ _ => ⟨rfl, e1, (by decide : 12 + 0 ≤ _), (by decide : 24 + 0 ≤ _)⟩)
  dsimp only [Pt.U, Pt.locs, Pt.cells, Pt.slots] at X20 l20 y20 z20 st20 hQ20
  subst l20 y20 z20
  obtain ⟨rfl, N20q, e20⟩ := hQ20
  have N20 := Fr.app N1 N20q
  refine Wp.go st20 ?_
  show Wp p e below _ (T20.setTop (mkF m 9 #[.val (.ref d0), .val (.long u0), .second, .val (.long u1), .second] [(.int (own_cf (0 : Int64)))]))
  refine Wp.retN X20 hx (t := .boolean) Bd.returns (by simp) (hb hby d21_9) hlk ?_ (by decide) (by decide)
  show Q21_f Z d0 u0 u1 ln c0 ra de am pe b0 x0 x1 zz ds h0 n0 (some (.int (nar .boolean (own_cf (0 : Int64))))) T20.heap _
  rw [e20]
  exact ⟨(by rw [show own_cf (0 : Int64) = 1 by decide]; rfl), N20, K1⟩
def Q21_n (Z : State) (d0 : Addr) (u0 : Int64) (u1 : Int64) (ln : Int64) (c0 : Addr) (ra : Addr) (de : Addr) (am : Int64) (pe : Int64) (b0 : Int64) (x0 : Int64) (x1 : Int64) (zz : Addr) (ds : Addr) (h0 : Heap) (n0 : Nat) (v : Option Value) (h : Heap) (L : List Loc) : Prop := v = some (.int (0 : Int32)) ∧ Fr n0 L ∧ Keep h0 h [d0]
set_option maxRecDepth 65536 in
set_option maxHeartbeats 40000000 in
theorem rm21_n (l : Launch) (Z : State) (a0 : Array Value) (hw : ∀ d ∈ tables_1, d.before a0 Z = true) (ws : List Jvm.Cond) (d0 : Addr) (u0 : Int64) (u1 : Int64) (ln : Int64) (c0 : Addr) (ra : Addr) (de : Addr) (am : Int64) (pe : Int64) (b0 : Int64) (x0 : Int64) (x1 : Int64) (zz : Addr) (ds : Addr) (h0 : Heap) (n0 : Nat) (Z0 : n0 ≤ h0.size) (g_d0 : n0 ≤ d0) (E_d0 : Exa Z h0 d0 "com/example/gentle_bucket/gentlebucket/Meter") (F_levelNanos_d0 : Fld Z h0 d0 "com/example/gentle_bucket/gentlebucket/Meter" "levelNanos" "J" (.long ln)) (F_contract_d0 : Fld Z h0 d0 "com/example/gentle_bucket/gentlebucket/Meter" "contract" "Lcom/example/gentle_bucket/gentlebucket/Contract;" (.ref c0)) (F_levelHigh_d0 : Fld Z h0 d0 "com/example/gentle_bucket/gentlebucket/Meter" "levelHigh" "J" (.long (0 : Int64))) (F_levelLow_d0 : Fld Z h0 d0 "com/example/gentle_bucket/gentlebucket/Meter" "levelLow" "J" (.long (0 : Int64))) (E_c0 : Exa Z h0 c0 "com/example/gentle_bucket/gentlebucket/Contract") (F_rate_c0 : Fld Z h0 c0 "com/example/gentle_bucket/gentlebucket/Contract" "rate" "Lcom/example/gentle_bucket/gentlebucket/Rate;" (.ref ra)) (F_depth_c0 : Fld Z h0 c0 "com/example/gentle_bucket/gentlebucket/Contract" "depth" "Lcom/example/gentle_bucket/gentlebucket/Uint128;" (.ref de)) (F_burst_c0 : Fld Z h0 c0 "com/example/gentle_bucket/gentlebucket/Contract" "burst" "J" (.long b0)) (E_ra : Exa Z h0 ra "com/example/gentle_bucket/gentlebucket/Rate") (F_amount_ra : Fld Z h0 ra "com/example/gentle_bucket/gentlebucket/Rate" "amount" "J" (.long am)) (F_periodNanos_ra : Fld Z h0 ra "com/example/gentle_bucket/gentlebucket/Rate" "periodNanos" "J" (.long pe)) (E_de : Exa Z h0 de "com/example/gentle_bucket/gentlebucket/Uint128") (F_high_de : Fld Z h0 de "com/example/gentle_bucket/gentlebucket/Uint128" "high" "J" (.long x0)) (F_low_de : Fld Z h0 de "com/example/gentle_bucket/gentlebucket/Uint128" "low" "J" (.long x1)) (S_ZERO_zz : Sta Z h0 "com/example/gentle_bucket/gentlebucket/Uint128" "ZERO" "Lcom/example/gentle_bucket/gentlebucket/Uint128;" (.ref zz)) (E_zz : Exa Z h0 zz "com/example/gentle_bucket/gentlebucket/Uint128") (F_high_zz : Fld Z h0 zz "com/example/gentle_bucket/gentlebucket/Uint128" "high" "J" (.long (0 : Int64))) (F_low_zz : Fld Z h0 zz "com/example/gentle_bucket/gentlebucket/Uint128" "low" "J" (.long (0 : Int64))) (S_NEVER_ds : Sta Z h0 "com/example/gentle_bucket/gentlebucket/Decision" "NEVER" "Lcom/example/gentle_bucket/gentlebucket/Decision;" (.ref ds)) (E_ds : Exa Z h0 ds "com/example/gentle_bucket/gentlebucket/Decision") (F_waitNanos_ds : Fld Z h0 ds "com/example/gentle_bucket/gentlebucket/Decision" "waitNanos" "J" (.long (9223372036854775807 : Int64))) (hc : ¬ u1 < 1) (hnf : b0 < u1) (hln : ¬ ln < u0 → ln = u0) :
    MetFree l (⟨"com/example/gentle_bucket/gentlebucket/Meter", "offer", "(JJ)Z"⟩ : MethodName) (head1 (Jvm.Cond.code (⟨"com/example/gentle_bucket/gentlebucket/Meter", "offer", "(JJ)Z"⟩ : MethodName) prog_12_method_3_code 5 (some .boolean) :: ws) ({ frames := 8, cells := 2, slots := 4, locals := 126 } : Room)) (fun a U => a = #[(.ref d0), (.long u0), (.long u1)] ∧ Z.Warmed39 U.vm ∧ U.heap = h0) (fun _ _ _ _ _ => True) (fun _ U o U' => ∃ v L, o = .returned v ∧ Q21_n Z d0 u0 u1 ln c0 ra de am pe b0 x0 x1 zz ds h0 n0 v U'.heap L ∧ FrameEnd U o U' L ({ frames := 8, cells := 2, slots := 4, locals := 126 } : Room).cells ({ frames := 8, cells := 2, slots := 4, locals := 126 } : Room).slots) := by
  refine MetFree.of_bodySF (plainFor_of_name pn_com_example_gentle_bucket_gentlebucket_Meter) hisR ?_
  intro p e s m args below meth c s₁ Bd hml0 hP hK
  obtain ⟨rfl, hZ, hh⟩ := hP
  have hx := Bd.exec
  have hby := Bd.bytes
  have hlk : meth.locks = false := Bd.notSynchronized
  have hml : c.maxLocals = 5 := hml0
  have hown : s.vm.findClass "com/example/gentle_bucket/gentlebucket/Meter" = some m.cls := findClass_of_methodNamed Bd.named
  have hnm := (name_of_methodNamed Bd.named Bd.method).1
  have X0 : Stand p l e ({ frames := 8, cells := 2, slots := 4, locals := 126 } : Room) s m #[(.ref d0), (.long u0), (.long u1)] below meth c s₁ [] 0 0 := Stand.of_body Bd
  have e0 : s₁.heap = h0 := by rw [← hh, Bd.state]; rfl
  have N0 := Fr.nil n0
  have K0 : Keep h0 h0 [d0] := Keep.refl h0 _
  show Wp p e below (Out s (Q21_n Z d0 u0 u1 ln c0 ra de am pe b0 x0 x1 zz ds h0 n0) ({ frames := 8, cells := 2, slots := 4, locals := 126 } : Room).cells ({ frames := 8, cells := 2, slots := 4, locals := 126 } : Room).slots) (s₁.setTop (entryFrame m #[(.ref d0), (.long u0), (.long u1)] 5))
  rw [ef_21_000]
  show Wp p e below _ (s₁.setTop (mkF m 0 #[.val (.ref d0), .val (.long u0), .second, .val (.long u1), .second] []))
  refine Wp.step (fun t k => XS.aloadN X0.here hx rfl (hb hby d21_0) rfl rfl k) ?_
  show Wp p e below _ (s₁.setTop (mkF m 1 #[.val (.ref d0), .val (.long u0), .second, .val (.long u1), .second] [(.ref d0)]))
  refine Wp.step (fun t k => XS.lloadN X0.here hx rfl (hb hby d21_1) rfl k) ?_
  show Wp p e below _ (s₁.setTop (mkF m 2 #[.val (.ref d0), .val (.long u0), .second, .val (.long u1), .second] [(.long u0), (.ref d0)]))
  refine Wp.step (fun t k => XS.lloadN X0.here hx rfl (hb hby d21_2) rfl k) ?_
  show Wp p e below _ (s₁.setTop (mkF m 3 #[.val (.ref d0), .val (.long u0), .second, .val (.long u1), .second] [(.long u1), (.long u0), (.ref d0)]))
  obtain ⟨cq1, kq1, q1a, q1b, q1c⟩ := isOf hZ e0 E_d0
  obtain ⟨_, _, ⟨T1, L1, k1, n1⟩, -, X1, ⟨Lc1, hQ1, l1, y1, z1⟩, st1⟩ := X0.virtualBackUp hx (C := "com/example/gentle_bucket/gentlebucket/Meter") (owner := "com/example/gentle_bucket/gentlebucket/Bucket") (x := (⟨"com/example/gentle_bucket/gentlebucket/Meter", "decide", "(JJ)Lcom/example/gentle_bucket/gentlebucket/Decision;"⟩ : MethodName)) (y := (⟨"com/example/gentle_bucket/gentlebucket/Bucket", "decide", "(JJ)Lcom/example/gentle_bucket/gentlebucket/Decision;"⟩ : MethodName)) hown (mvT hZ (hw _ (List.mem_of_getElem? (i := 132) rfl))) (mvT hZ (hw _ (List.mem_of_getElem? (i := 133) rfl))) (mvT hZ (hw _ (List.mem_of_getElem? (i := 134) rfl))) (by decide) (mvT hZ (hw _ (List.mem_of_getElem? (i := 136) rfl))) (mvT hZ (hw _ (List.mem_of_getElem? (i := 135) rfl))) (backOf (W := 0) (rm22_n l Z a0 hw [] d0 u0 u1 ln c0 ra de am pe b0 x0 x1 zz ds h0 n0 (Nat.le_trans Z0 K0.1) g_d0 E_d0 F_levelNanos_d0 F_contract_d0 F_levelHigh_d0 F_levelLow_d0 E_c0 F_rate_c0 F_depth_c0 F_burst_c0 E_ra F_amount_ra F_periodNanos_ra E_de F_high_de F_low_de S_ZERO_zz E_zz F_high_zz F_low_zz S_NEVER_ds E_ds F_waitNanos_ds hc hnf hln) hZ (hw _ (List.mem_of_getElem? (i := 137) rfl)) (hw _ (List.mem_of_getElem? (i := 105) rfl)) (by decide) (by decide)) q1a q1c (g := (mkF m 3 #[.val (.ref d0), .val (.long u0), .second, .val (.long u1), .second] [(.long u1), (.long u0), (.ref d0)])) rfl (by rw [hml]; rfl) (Steps.refl _) (argsL := [(.long u0), (.long u1)]) (rest := []) (lenOf pd_28JJ29Lcom2fexample2fgentle_bucket2fgentlebucket2fDecision3b rfl) rfl (by show 2 * 0 + _ ≤ _; exact Nat.le_of_eq rfl) (hb hby d21_3) (fun _ _ => ⟨rfl, e0, (by decide : 0 + 2 ≤ _), (by decide : 0 + 4 ≤ _)⟩)
  dsimp only [Pt.U, Pt.locs, Pt.cells, Pt.slots] at X1 l1 y1 z1 st1 hQ1
  subst l1 y1 z1
  obtain ⟨h1, e1⟩ : ∃ z, T1.heap = z := ⟨_, rfl⟩
  rw [e1] at hQ1
  obtain ⟨rfl, N1q, Kc1⟩ := hQ1
  have N1 := Fr.app N0 N1q
  have c2 := E_d0.keep Kc1
  have c3 := E_c0.keep Kc1
  have c4 := F_rate_c0.keep Kc1 (ninS (own_ne_cls c3 c2 (by decide)) nin0)
  have c5 := F_depth_c0.keep Kc1 (ninS (own_ne_cls c3 c2 (by decide)) nin0)
  have c6 := F_burst_c0.keep Kc1 (ninS (own_ne_cls c3 c2 (by decide)) nin0)
  have c7 := E_ra.keep Kc1
  have c8 := F_amount_ra.keep Kc1 (ninS (own_ne_cls c7 c2 (by decide)) nin0)
  have c9 := F_periodNanos_ra.keep Kc1 (ninS (own_ne_cls c7 c2 (by decide)) nin0)
  have c10 := E_de.keep Kc1
  have c11 := F_high_de.keep Kc1 (ninS (own_ne_cls c10 c2 (by decide)) nin0)
  have c12 := F_low_de.keep Kc1 (ninS (own_ne_cls c10 c2 (by decide)) nin0)
  have c13 := own_sta_keep S_ZERO_zz Kc1 (allS (own_ns E_d0) all0)
  have c14 := E_zz.keep Kc1
  have c15 := F_high_zz.keep Kc1 (ninS (own_ne_cls c14 c2 (by decide)) nin0)
  have c16 := F_low_zz.keep Kc1 (ninS (own_ne_cls c14 c2 (by decide)) nin0)
  have c17 := own_sta_keep S_NEVER_ds Kc1 (allS (own_ns E_d0) all0)
  have c18 := E_ds.keep Kc1
  have c19 := F_waitNanos_ds.keep Kc1 (ninS (own_ne_cls c18 c2 (by decide)) nin0)
  have K1 := K0.trans Kc1 (allS (Or.inl (List.mem_of_getElem? (i := 0) rfl)) all0)
  refine Wp.go st1 ?_
  show Wp p e below _ (T1.setTop (mkF m 6 #[.val (.ref d0), .val (.long u0), .second, .val (.long u1), .second] [(.ref ds)]))
  obtain ⟨cq20, kq20, q20a, q20b, q20c⟩ := isOf hZ e1 c18
  obtain ⟨_, _, ⟨T20, L20, k20, n20⟩, -, X20, ⟨Lc20, hQ20, l20, y20, z20⟩, st20⟩ := X1.virtualBack hx (y := (⟨"com/example/gentle_bucket/gentlebucket/Decision", "conforms", "()Z"⟩ : MethodName)) (z := (⟨"com/example/gentle_bucket/gentlebucket/Decision", "conforms", "()Z"⟩ : MethodName)) hown (mvT hZ (hw _ (List.mem_of_getElem? (i := 226) rfl))) (mvT hZ (hw _ (List.mem_of_getElem? (i := 227) rfl))) (notFace_of_selects (args := #[]) (mvT hZ (hw _ (List.mem_of_getElem? (i := 229) rfl)))) (mvT hZ (hw _ (List.mem_of_getElem? (i := 229) rfl))) (mvT hZ (hw _ (List.mem_of_getElem? (i := 228) rfl))) (by decide) (backOf (W := 0) (rm40 l Z a0 hw [] ds (9223372036854775807 : Int64) h1 n0 (Nat.le_trans Z0 K1.1) c19 ) hZ (hw _ (List.mem_of_getElem? (i := 230) rfl)) (hw _ (List.mem_of_getElem? (i := 224) rfl)) (by decide) (by decide)) q20a q20c (g := (mkF m 6 #[.val (.ref d0), .val (.long u0), .second, .val (.long u1), .second] [(.ref ds)])) rfl (by rw [hml]; rfl) (Steps.refl _) (argsL := []) (rest := []) (lenOf pd_2829Z rfl) rfl (by show 2 * 0 + _ ≤ _; exact Nat.le_of_eq rfl) (hb hby d21_6) (fun _ _ => ⟨rfl, e1, (by decide : 2 + 0 ≤ _), (by decide : 4 + 0 ≤ _)⟩)
  dsimp only [Pt.U, Pt.locs, Pt.cells, Pt.slots] at X20 l20 y20 z20 st20 hQ20
  subst l20 y20 z20
  obtain ⟨rfl, N20q, e20⟩ := hQ20
  have N20 := Fr.app N1 N20q
  refine Wp.go st20 ?_
  show Wp p e below _ (T20.setTop (mkF m 9 #[.val (.ref d0), .val (.long u0), .second, .val (.long u1), .second] [(.int (own_cf (9223372036854775807 : Int64)))]))
  refine Wp.retN X20 hx (t := .boolean) Bd.returns (by simp) (hb hby d21_9) hlk ?_ (by decide) (by decide)
  show Q21_n Z d0 u0 u1 ln c0 ra de am pe b0 x0 x1 zz ds h0 n0 (some (.int (nar .boolean (own_cf (9223372036854775807 : Int64))))) T20.heap _
  rw [e20]
  exact ⟨(by rw [show own_cf (9223372036854775807 : Int64) = 0 by decide]; rfl), N20, K1⟩
theorem own_fld {s : State} {args : Array Value} {t : Term} {a : Addr} {C n d : String} {k : Int32} (ev : t.eval args s none [] s = some (.ref a)) (h : (Jvm.Cond.eq (Term.field t C n d) (Term.int k)).value args s none s [] = some true) : Fld s s.heap a C n d (.int k) := by
  refine Fld.start ?_
  have e := fld_at (C := C) (n := n) (dd := d) ev
  obtain ⟨x, y, h1, h2, h3, h4⟩ := cmp_v (Or.inl h)
  cases h2
  obtain ⟨z, rfl⟩ := h4
  rw [← e, h1]
  have q : (Jvm.Cond.eq (Term.field t C n d) (Term.int k)).value args s none s [] = some (decide (z = k)) := by
    have h2 : (Term.int k).eval args s none [] s = some (.int k) := rfl
    simp only [Jvm.Cond.value, h1, h2]
  rw [gotT q h]
theorem own_fldJ {s : State} {args : Array Value} {t : Term} {a : Addr} {C n d : String} {k : Int64} (ev : t.eval args s none [] s = some (.ref a)) (h : (Jvm.Cond.eq (Term.field t C n d) (Term.long k)).value args s none s [] = some true) : Fld s s.heap a C n d (.long k) := by
  refine Fld.start ?_
  have e := fld_at (C := C) (n := n) (dd := d) ev
  obtain ⟨x, y, h1, h2, h3, h4⟩ := cmp_v (Or.inl h)
  cases h2
  obtain ⟨z, rfl⟩ := h4
  rw [← e, h1]
  have q : (Jvm.Cond.eq (Term.field t C n d) (Term.long k)).value args s none s [] = some (decide (z = k)) := by
    have h2 : (Term.long k).eval args s none [] s = some (.long k) := rfl
    simp only [Jvm.Cond.value, h1, h2]
  rw [gotT q h]
theorem pd_28Lcom2fexample2fgentle_bucket2fgentlebucket2fRate3bJ29V : parseMethodDescriptor "(Lcom/example/gentle_bucket/gentlebucket/Rate;J)V" = some ⟨[(.object "com/example/gentle_bucket/gentlebucket/Rate"), .long], none⟩ := by decide +kernel
theorem pd_28Lcom2fexample2fgentle_bucket2fgentlebucket2fContract3b29V : parseMethodDescriptor "(Lcom/example/gentle_bucket/gentlebucket/Contract;)V" = some ⟨[(.object "com/example/gentle_bucket/gentlebucket/Contract")], none⟩ := by decide +kernel
theorem pd_28JJ29Z : parseMethodDescriptor "(JJ)Z" = some ⟨[.long, .long], some .boolean⟩ := by decide +kernel
theorem pn_com_example_gentle_bucket_gentlebucket_MeterNeverFitsPinLaw : plainName "com/example/gentle_bucket/gentlebucket/MeterNeverFitsPinLaw" = true := by first | (simp [plainName, overriddenIn]; done) | decide +kernel
theorem ef_0_000000 (m : MethodId) (x0 : Int64) (x1 : Int64) (x2 : Int64) (x3 : Int64) (x4 : Int64) (x5 : Int32) : entryFrame m #[(.long x0), (.long x1), (.long x2), (.long x3), (.long x4), (.int x5)] maxLocals = mkF m 0 #[.val (.long x0), .second, .val (.long x1), .second, .val (.long x2), .second, .val (.long x3), .second, .val (.long x4), .second, .val (.int x5), .unset, .unset, .unset, .unset, .unset, .unset, .unset, .unset, .unset, .unset, .unset, .unset] [] := by first | (simp [entryFrame, mkF, argsToLocals, Value.category, maxLocals]; done) | rfl
def Q0 (Z : State) (u0 : Int64) (u1 : Int64) (u2 : Int64) (u3 : Int64) (u4 : Int64) (u5 : Int32) (a_Uint128_ZERO : Addr) (a_Decision_CONFORMS : Addr) (a_Decision_NEVER : Addr) (h0 : Heap) (n0 : Nat) (v : Option Value) (h : Heap) (L : List Loc) : Prop := v = some (.int 1) ∧ Fr n0 L
set_option maxRecDepth 65536 in
set_option maxHeartbeats 40000000 in
theorem rm0 (l : Launch) (Z : State) (a0 : Array Value) (hw : ∀ d ∈ tables_1, d.before a0 Z = true) (ws : List Jvm.Cond) (u0 : Int64) (u1 : Int64) (u2 : Int64) (u3 : Int64) (u4 : Int64) (u5 : Int32) (a_Uint128_ZERO : Addr) (a_Decision_CONFORMS : Addr) (a_Decision_NEVER : Addr) (h0 : Heap) (n0 : Nat) (Z0 : n0 ≤ h0.size) (S_ZERO_a_Uint128_ZERO : Sta Z h0 "com/example/gentle_bucket/gentlebucket/Uint128" "ZERO" "Lcom/example/gentle_bucket/gentlebucket/Uint128;" (.ref a_Uint128_ZERO)) (E_a_Uint128_ZERO : Exa Z h0 a_Uint128_ZERO "com/example/gentle_bucket/gentlebucket/Uint128") (F_high_a_Uint128_ZERO : Fld Z h0 a_Uint128_ZERO "com/example/gentle_bucket/gentlebucket/Uint128" "high" "J" (.long (0 : Int64))) (F_low_a_Uint128_ZERO : Fld Z h0 a_Uint128_ZERO "com/example/gentle_bucket/gentlebucket/Uint128" "low" "J" (.long (0 : Int64))) (S_CONFORMS_a_Decision_CONFORMS : Sta Z h0 "com/example/gentle_bucket/gentlebucket/Decision" "CONFORMS" "Lcom/example/gentle_bucket/gentlebucket/Decision;" (.ref a_Decision_CONFORMS)) (E_a_Decision_CONFORMS : Exa Z h0 a_Decision_CONFORMS "com/example/gentle_bucket/gentlebucket/Decision") (F_waitNanos_a_Decision_CONFORMS : Fld Z h0 a_Decision_CONFORMS "com/example/gentle_bucket/gentlebucket/Decision" "waitNanos" "J" (.long (0 : Int64))) (S_NEVER_a_Decision_NEVER : Sta Z h0 "com/example/gentle_bucket/gentlebucket/Decision" "NEVER" "Lcom/example/gentle_bucket/gentlebucket/Decision;" (.ref a_Decision_NEVER)) (E_a_Decision_NEVER : Exa Z h0 a_Decision_NEVER "com/example/gentle_bucket/gentlebucket/Decision") (F_waitNanos_a_Decision_NEVER : Fld Z h0 a_Decision_NEVER "com/example/gentle_bucket/gentlebucket/Decision" "waitNanos" "J" (.long (9223372036854775807 : Int64))) :
    MetFree l x (head1 (Jvm.Cond.code x code maxLocals ret :: ws) room_1) (fun a U => a = #[(.long u0), (.long u1), (.long u2), (.long u3), (.long u4), (.int u5)] ∧ Z.Warmed39 U.vm ∧ U.heap = h0) (fun _ _ _ _ _ => True) (fun _ U o U' => ∃ v L, o = .returned v ∧ Q0 Z u0 u1 u2 u3 u4 u5 a_Uint128_ZERO a_Decision_CONFORMS a_Decision_NEVER h0 n0 v U'.heap L ∧ ReturnedEndW U o U' L room_1.cells room_1.slots) := by
  refine MetFree.of_bodySF (plainFor_of_name pn_com_example_gentle_bucket_gentlebucket_MeterNeverFitsPinLaw) hisR ?_
  intro p e s m args below meth c s₁ Bd hml0 hP hK
  obtain ⟨rfl, hZ, hh⟩ := hP
  have hx := Bd.exec
  have hby := Bd.bytes
  have hlk : meth.locks = false := Bd.notSynchronized
  have hml : c.maxLocals = 23 := hml0
  have hown : s.vm.findClass "com/example/gentle_bucket/gentlebucket/MeterNeverFitsPinLaw" = some m.cls := findClass_of_methodNamed Bd.named
  have hnm := (name_of_methodNamed Bd.named Bd.method).1
  have X0 : Stand p l e room_1 s m #[(.long u0), (.long u1), (.long u2), (.long u3), (.long u4), (.int u5)] below meth c s₁ [] 0 0 := Stand.of_body Bd
  have e0 : s₁.heap = h0 := by rw [← hh, Bd.state]; rfl
  have N0 := Fr.nil n0
  have K0 : Keep h0 h0 [] := Keep.refl h0 _
  show Wp p e below (OutW s (Q0 Z u0 u1 u2 u3 u4 u5 a_Uint128_ZERO a_Decision_CONFORMS a_Decision_NEVER h0 n0) room_1.cells room_1.slots) (s₁.setTop (entryFrame m #[(.long u0), (.long u1), (.long u2), (.long u3), (.long u4), (.int u5)] maxLocals))
  rw [ef_0_000000]
  have X0 : Stand p l e room_1 (s.setVm s.vm) m #[(.long u0), (.long u1), (.long u2), (.long u3), (.long u4), (.int u5)] below meth c s₁ [] 0 0 := X0
  have hS : s.Since s.vm 0 := (State.WarmedH.refl s).since 0
  have hk : 0 ≤ h0.size := Nat.zero_le _
  have hZ : Z.Warmed39 (s.setVm s.vm).vm := hZ
  have hown : (s.setVm s.vm).vm.findClass "com/example/gentle_bucket/gentlebucket/MeterNeverFitsPinLaw" = some m.cls := hown
  show Wp p e below _ (s₁.setTop (mkF m 0 #[.val (.long u0), .second, .val (.long u1), .second, .val (.long u2), .second, .val (.long u3), .second, .val (.long u4), .second, .val (.int u5), .unset, .unset, .unset, .unset, .unset, .unset, .unset, .unset, .unset, .unset, .unset, .unset] []))
  refine Wp.step (fun t k => XS.lconst X0.here hx rfl (hb hby at_0) k) ?_
  show Wp p e below _ (s₁.setTop (mkF m 1 #[.val (.long u0), .second, .val (.long u1), .second, .val (.long u2), .second, .val (.long u3), .second, .val (.long u4), .second, .val (.int u5), .unset, .unset, .unset, .unset, .unset, .unset, .unset, .unset, .unset, .unset, .unset, .unset] [(.long (1 : Int64))]))
  refine Wp.step (fun t k => XS.lloadN X0.here hx rfl (hb hby at_1) rfl k) ?_
  show Wp p e below _ (s₁.setTop (mkF m 2 #[.val (.long u0), .second, .val (.long u1), .second, .val (.long u2), .second, .val (.long u3), .second, .val (.long u4), .second, .val (.int u5), .unset, .unset, .unset, .unset, .unset, .unset, .unset, .unset, .unset, .unset, .unset, .unset] [(.long u0), (.long (1 : Int64))]))
  refine Wp.step (X0.ldc2Long hx hown (mvT hZ (hw _ (List.mem_of_getElem? (i := 0) rfl))) (g := (mkF m 2 #[.val (.long u0), .second, .val (.long u1), .second, .val (.long u2), .second, .val (.long u3), .second, .val (.long u4), .second, .val (.int u5), .unset, .unset, .unset, .unset, .unset, .unset, .unset, .unset, .unset, .unset, .unset, .unset] [(.long u0), (.long (1 : Int64))])) rfl (hb hby at_2)) ?_
  show Wp p e below _ (s₁.setTop (mkF m 5 #[.val (.long u0), .second, .val (.long u1), .second, .val (.long u2), .second, .val (.long u3), .second, .val (.long u4), .second, .val (.int u5), .unset, .unset, .unset, .unset, .unset, .unset, .unset, .unset, .unset, .unset, .unset, .unset] [(.long (9223372036854775807 : Int64)), (.long u0), (.long (1 : Int64))]))
  refine Wp.step (fun t k => XS.land X0.here hx rfl (hb hby at_5) rfl k) ?_
  show Wp p e below _ (s₁.setTop (mkF m 6 #[.val (.long u0), .second, .val (.long u1), .second, .val (.long u2), .second, .val (.long u3), .second, .val (.long u4), .second, .val (.int u5), .unset, .unset, .unset, .unset, .unset, .unset, .unset, .unset, .unset, .unset, .unset, .unset] [(.long (u0 &&& (9223372036854775807 : Int64))), (.long (1 : Int64))]))
  obtain ⟨_, _, ⟨T1, L1, k1, n1⟩, -, X1, ⟨Lc1, hQ1, l1, y1, z1⟩, st1⟩ := Jvm.LawKit.callS X0 hx (y := (⟨"java/lang/Math", "max", "(JJ)J"⟩ : MethodName)) hown (mvT hZ (hw _ (List.mem_of_getElem? (i := 1) rfl))) (mvT hZ (hw _ (List.mem_of_getElem? (i := 2) rfl))) (mvT hZ (hw _ (List.mem_of_getElem? (i := 3) rfl))) (mvT hZ (hw _ (List.mem_of_getElem? (i := 4) rfl))) (by decide) (backOf (W := 0) (rm1 l Z a0 hw [] (1 : Int64) (u0 &&& (9223372036854775807 : Int64))  h0 n0 (Nat.le_trans Z0 K0.1)  ) hZ (hw _ (List.mem_of_getElem? (i := 4) rfl)) (hw _ (List.mem_of_getElem? (i := 3) rfl)) (by decide) (by decide)) (g := (mkF m 6 #[.val (.long u0), .second, .val (.long u1), .second, .val (.long u2), .second, .val (.long u3), .second, .val (.long u4), .second, .val (.int u5), .unset, .unset, .unset, .unset, .unset, .unset, .unset, .unset, .unset, .unset, .unset, .unset] [(.long (u0 &&& (9223372036854775807 : Int64))), (.long (1 : Int64))])) rfl (by rw [hml]; rfl) (argsL := [(.long (1 : Int64)), (.long (u0 &&& (9223372036854775807 : Int64)))]) (rest := []) (lenOf pd_28JJ29J rfl) rfl (by show 2 * 0 + _ ≤ _; exact Nat.le_of_eq rfl) (hb hby at_6) (fun _ _ => ⟨rfl, e0, (by decide : 0 + 0 ≤ _), (by decide : 0 + 0 ≤ _)⟩)
  dsimp only [Pt.U, Pt.locs, Pt.cells, Pt.slots] at X1 l1 y1 z1 st1 hQ1
  subst l1 y1 z1
  obtain ⟨rfl, N1q, e1⟩ := hQ1
  have N1 := Fr.app N0 N1q
  refine Wp.step st1 ?_
  show Wp p e below _ (T1.setTop (mkF m 9 #[.val (.long u0), .second, .val (.long u1), .second, .val (.long u2), .second, .val (.long u3), .second, .val (.long u4), .second, .val (.int u5), .unset, .unset, .unset, .unset, .unset, .unset, .unset, .unset, .unset, .unset, .unset, .unset] [(.long (own_max (1 : Int64) (u0 &&& (9223372036854775807 : Int64))))]))
  generalize hz_am : (own_max (1 : Int64) (u0 &&& (9223372036854775807 : Int64))) = am
  refine Wp.step (fun t k => XS.lstore X1.here hx rfl (hb hby at_9) rfl (l' := #[.val (.long u0), .second, .val (.long u1), .second, .val (.long u2), .second, .val (.long u3), .second, .val (.long u4), .second, .val (.int u5), .val (.long am), .second, .unset, .unset, .unset, .unset, .unset, .unset, .unset, .unset, .unset, .unset]) rfl k) ?_
  show Wp p e below _ (T1.setTop (mkF m 11 #[.val (.long u0), .second, .val (.long u1), .second, .val (.long u2), .second, .val (.long u3), .second, .val (.long u4), .second, .val (.int u5), .val (.long am), .second, .unset, .unset, .unset, .unset, .unset, .unset, .unset, .unset, .unset, .unset] []))
  have hA : ¬ am < 1 := hz_am ▸ own_max1 _
  refine Wp.step (fun t k => XS.lconst X1.here hx rfl (hb hby at_11) k) ?_
  show Wp p e below _ (T1.setTop (mkF m 12 #[.val (.long u0), .second, .val (.long u1), .second, .val (.long u2), .second, .val (.long u3), .second, .val (.long u4), .second, .val (.int u5), .val (.long am), .second, .unset, .unset, .unset, .unset, .unset, .unset, .unset, .unset, .unset, .unset] [(.long (1 : Int64))]))
  refine Wp.step (fun t k => XS.lloadN X1.here hx rfl (hb hby at_12) rfl k) ?_
  show Wp p e below _ (T1.setTop (mkF m 13 #[.val (.long u0), .second, .val (.long u1), .second, .val (.long u2), .second, .val (.long u3), .second, .val (.long u4), .second, .val (.int u5), .val (.long am), .second, .unset, .unset, .unset, .unset, .unset, .unset, .unset, .unset, .unset, .unset] [(.long u1), (.long (1 : Int64))]))
  refine Wp.step (X1.ldc2Long hx hown (mvT hZ (hw _ (List.mem_of_getElem? (i := 0) rfl))) (g := (mkF m 13 #[.val (.long u0), .second, .val (.long u1), .second, .val (.long u2), .second, .val (.long u3), .second, .val (.long u4), .second, .val (.int u5), .val (.long am), .second, .unset, .unset, .unset, .unset, .unset, .unset, .unset, .unset, .unset, .unset] [(.long u1), (.long (1 : Int64))])) rfl (hb hby at_13)) ?_
  show Wp p e below _ (T1.setTop (mkF m 16 #[.val (.long u0), .second, .val (.long u1), .second, .val (.long u2), .second, .val (.long u3), .second, .val (.long u4), .second, .val (.int u5), .val (.long am), .second, .unset, .unset, .unset, .unset, .unset, .unset, .unset, .unset, .unset, .unset] [(.long (9223372036854775807 : Int64)), (.long u1), (.long (1 : Int64))]))
  refine Wp.step (fun t k => XS.land X1.here hx rfl (hb hby at_16) rfl k) ?_
  show Wp p e below _ (T1.setTop (mkF m 17 #[.val (.long u0), .second, .val (.long u1), .second, .val (.long u2), .second, .val (.long u3), .second, .val (.long u4), .second, .val (.int u5), .val (.long am), .second, .unset, .unset, .unset, .unset, .unset, .unset, .unset, .unset, .unset, .unset] [(.long (u1 &&& (9223372036854775807 : Int64))), (.long (1 : Int64))]))
  obtain ⟨_, _, ⟨T2, L2, k2, n2⟩, -, X2, ⟨Lc2, hQ2, l2, y2, z2⟩, st2⟩ := Jvm.LawKit.callS X1 hx (y := (⟨"java/lang/Math", "max", "(JJ)J"⟩ : MethodName)) hown (mvT hZ (hw _ (List.mem_of_getElem? (i := 1) rfl))) (mvT hZ (hw _ (List.mem_of_getElem? (i := 2) rfl))) (mvT hZ (hw _ (List.mem_of_getElem? (i := 3) rfl))) (mvT hZ (hw _ (List.mem_of_getElem? (i := 4) rfl))) (by decide) (backOf (W := 0) (rm1 l Z a0 hw [] (1 : Int64) (u1 &&& (9223372036854775807 : Int64))  h0 n0 (Nat.le_trans Z0 K0.1)  ) hZ (hw _ (List.mem_of_getElem? (i := 4) rfl)) (hw _ (List.mem_of_getElem? (i := 3) rfl)) (by decide) (by decide)) (g := (mkF m 17 #[.val (.long u0), .second, .val (.long u1), .second, .val (.long u2), .second, .val (.long u3), .second, .val (.long u4), .second, .val (.int u5), .val (.long am), .second, .unset, .unset, .unset, .unset, .unset, .unset, .unset, .unset, .unset, .unset] [(.long (u1 &&& (9223372036854775807 : Int64))), (.long (1 : Int64))])) rfl (by rw [hml]; rfl) (argsL := [(.long (1 : Int64)), (.long (u1 &&& (9223372036854775807 : Int64)))]) (rest := []) (lenOf pd_28JJ29J rfl) rfl (by show 2 * 0 + _ ≤ _; exact Nat.le_of_eq rfl) (hb hby at_17) (fun _ _ => ⟨rfl, e1, (by decide : 0 + 0 ≤ _), (by decide : 0 + 0 ≤ _)⟩)
  dsimp only [Pt.U, Pt.locs, Pt.cells, Pt.slots] at X2 l2 y2 z2 st2 hQ2
  subst l2 y2 z2
  obtain ⟨rfl, N2q, e2⟩ := hQ2
  have N2 := Fr.app N1 N2q
  refine Wp.step st2 ?_
  show Wp p e below _ (T2.setTop (mkF m 20 #[.val (.long u0), .second, .val (.long u1), .second, .val (.long u2), .second, .val (.long u3), .second, .val (.long u4), .second, .val (.int u5), .val (.long am), .second, .unset, .unset, .unset, .unset, .unset, .unset, .unset, .unset, .unset, .unset] [(.long (own_max (1 : Int64) (u1 &&& (9223372036854775807 : Int64))))]))
  generalize hz_pe : (own_max (1 : Int64) (u1 &&& (9223372036854775807 : Int64))) = pe
  refine Wp.step (fun t k => XS.lstore X2.here hx rfl (hb hby at_20) rfl (l' := #[.val (.long u0), .second, .val (.long u1), .second, .val (.long u2), .second, .val (.long u3), .second, .val (.long u4), .second, .val (.int u5), .val (.long am), .second, .val (.long pe), .second, .unset, .unset, .unset, .unset, .unset, .unset, .unset, .unset]) rfl k) ?_
  show Wp p e below _ (T2.setTop (mkF m 22 #[.val (.long u0), .second, .val (.long u1), .second, .val (.long u2), .second, .val (.long u3), .second, .val (.long u4), .second, .val (.int u5), .val (.long am), .second, .val (.long pe), .second, .unset, .unset, .unset, .unset, .unset, .unset, .unset, .unset] []))
  have hP : ¬ pe < 1 := hz_pe ▸ own_max1 _
  refine Wp.step (fun t k => XS.lconst X2.here hx rfl (hb hby at_22) k) ?_
  show Wp p e below _ (T2.setTop (mkF m 23 #[.val (.long u0), .second, .val (.long u1), .second, .val (.long u2), .second, .val (.long u3), .second, .val (.long u4), .second, .val (.int u5), .val (.long am), .second, .val (.long pe), .second, .unset, .unset, .unset, .unset, .unset, .unset, .unset, .unset] [(.long (1 : Int64))]))
  refine Wp.step (fun t k => XS.lload X2.here hx rfl (hb hby at_23) rfl k) ?_
  show Wp p e below _ (T2.setTop (mkF m 25 #[.val (.long u0), .second, .val (.long u1), .second, .val (.long u2), .second, .val (.long u3), .second, .val (.long u4), .second, .val (.int u5), .val (.long am), .second, .val (.long pe), .second, .unset, .unset, .unset, .unset, .unset, .unset, .unset, .unset] [(.long u2), (.long (1 : Int64))]))
  refine Wp.step (X2.ldc2Long hx hown (mvT hZ (hw _ (List.mem_of_getElem? (i := 0) rfl))) (g := (mkF m 25 #[.val (.long u0), .second, .val (.long u1), .second, .val (.long u2), .second, .val (.long u3), .second, .val (.long u4), .second, .val (.int u5), .val (.long am), .second, .val (.long pe), .second, .unset, .unset, .unset, .unset, .unset, .unset, .unset, .unset] [(.long u2), (.long (1 : Int64))])) rfl (hb hby at_25)) ?_
  show Wp p e below _ (T2.setTop (mkF m 28 #[.val (.long u0), .second, .val (.long u1), .second, .val (.long u2), .second, .val (.long u3), .second, .val (.long u4), .second, .val (.int u5), .val (.long am), .second, .val (.long pe), .second, .unset, .unset, .unset, .unset, .unset, .unset, .unset, .unset] [(.long (9223372036854775807 : Int64)), (.long u2), (.long (1 : Int64))]))
  refine Wp.step (fun t k => XS.land X2.here hx rfl (hb hby at_28) rfl k) ?_
  show Wp p e below _ (T2.setTop (mkF m 29 #[.val (.long u0), .second, .val (.long u1), .second, .val (.long u2), .second, .val (.long u3), .second, .val (.long u4), .second, .val (.int u5), .val (.long am), .second, .val (.long pe), .second, .unset, .unset, .unset, .unset, .unset, .unset, .unset, .unset] [(.long (u2 &&& (9223372036854775807 : Int64))), (.long (1 : Int64))]))
  obtain ⟨_, _, ⟨T3, L3, k3, n3⟩, -, X3, ⟨Lc3, hQ3, l3, y3, z3⟩, st3⟩ := Jvm.LawKit.callS X2 hx (y := (⟨"java/lang/Math", "max", "(JJ)J"⟩ : MethodName)) hown (mvT hZ (hw _ (List.mem_of_getElem? (i := 1) rfl))) (mvT hZ (hw _ (List.mem_of_getElem? (i := 2) rfl))) (mvT hZ (hw _ (List.mem_of_getElem? (i := 3) rfl))) (mvT hZ (hw _ (List.mem_of_getElem? (i := 4) rfl))) (by decide) (backOf (W := 0) (rm1 l Z a0 hw [] (1 : Int64) (u2 &&& (9223372036854775807 : Int64))  h0 n0 (Nat.le_trans Z0 K0.1)  ) hZ (hw _ (List.mem_of_getElem? (i := 4) rfl)) (hw _ (List.mem_of_getElem? (i := 3) rfl)) (by decide) (by decide)) (g := (mkF m 29 #[.val (.long u0), .second, .val (.long u1), .second, .val (.long u2), .second, .val (.long u3), .second, .val (.long u4), .second, .val (.int u5), .val (.long am), .second, .val (.long pe), .second, .unset, .unset, .unset, .unset, .unset, .unset, .unset, .unset] [(.long (u2 &&& (9223372036854775807 : Int64))), (.long (1 : Int64))])) rfl (by rw [hml]; rfl) (argsL := [(.long (1 : Int64)), (.long (u2 &&& (9223372036854775807 : Int64)))]) (rest := []) (lenOf pd_28JJ29J rfl) rfl (by show 2 * 0 + _ ≤ _; exact Nat.le_of_eq rfl) (hb hby at_29) (fun _ _ => ⟨rfl, e2, (by decide : 0 + 0 ≤ _), (by decide : 0 + 0 ≤ _)⟩)
  dsimp only [Pt.U, Pt.locs, Pt.cells, Pt.slots] at X3 l3 y3 z3 st3 hQ3
  subst l3 y3 z3
  obtain ⟨rfl, N3q, e3⟩ := hQ3
  have N3 := Fr.app N2 N3q
  refine Wp.step st3 ?_
  show Wp p e below _ (T3.setTop (mkF m 32 #[.val (.long u0), .second, .val (.long u1), .second, .val (.long u2), .second, .val (.long u3), .second, .val (.long u4), .second, .val (.int u5), .val (.long am), .second, .val (.long pe), .second, .unset, .unset, .unset, .unset, .unset, .unset, .unset, .unset] [(.long (own_max (1 : Int64) (u2 &&& (9223372036854775807 : Int64))))]))
  generalize hz_bu : (own_max (1 : Int64) (u2 &&& (9223372036854775807 : Int64))) = bu
  refine Wp.step (fun t k => XS.lstore X3.here hx rfl (hb hby at_32) rfl (l' := #[.val (.long u0), .second, .val (.long u1), .second, .val (.long u2), .second, .val (.long u3), .second, .val (.long u4), .second, .val (.int u5), .val (.long am), .second, .val (.long pe), .second, .val (.long bu), .second, .unset, .unset, .unset, .unset, .unset, .unset]) rfl k) ?_
  show Wp p e below _ (T3.setTop (mkF m 34 #[.val (.long u0), .second, .val (.long u1), .second, .val (.long u2), .second, .val (.long u3), .second, .val (.long u4), .second, .val (.int u5), .val (.long am), .second, .val (.long pe), .second, .val (.long bu), .second, .unset, .unset, .unset, .unset, .unset, .unset] []))
  have hB : ¬ bu < 1 := hz_bu ▸ own_max1 _
  refine Wp.step (fun t k => XS.iload X3.here hx rfl (hb hby at_34) rfl k) ?_
  show Wp p e below _ (T3.setTop (mkF m 36 #[.val (.long u0), .second, .val (.long u1), .second, .val (.long u2), .second, .val (.long u3), .second, .val (.long u4), .second, .val (.int u5), .val (.long am), .second, .val (.long pe), .second, .val (.long bu), .second, .unset, .unset, .unset, .unset, .unset, .unset] [(.int u5)]))
  refine Wp.step (fun t k => XS.iconst X3.here hx rfl (hb hby at_36) k) ?_
  show Wp p e below _ (T3.setTop (mkF m 37 #[.val (.long u0), .second, .val (.long u1), .second, .val (.long u2), .second, .val (.long u3), .second, .val (.long u4), .second, .val (.int u5), .val (.long am), .second, .val (.long pe), .second, .val (.long bu), .second, .unset, .unset, .unset, .unset, .unset, .unset] [(.int (1 : Int32)), (.int u5)]))
  refine Wp.step (fun t k => XS.iand X3.here hx rfl (hb hby at_37) rfl k) ?_
  show Wp p e below _ (T3.setTop (mkF m 38 #[.val (.long u0), .second, .val (.long u1), .second, .val (.long u2), .second, .val (.long u3), .second, .val (.long u4), .second, .val (.int u5), .val (.long am), .second, .val (.long pe), .second, .val (.long bu), .second, .unset, .unset, .unset, .unset, .unset, .unset] [(.int (u5 &&& (1 : Int32)))]))
  have kont4 : ∀ (co : Int64), Wp p e below (OutW s (Q0 Z u0 u1 u2 u3 u4 u5 a_Uint128_ZERO a_Decision_CONFORMS a_Decision_NEVER h0 n0) room_1.cells room_1.slots) (T3.setTop (mkF m 59 #[.val (.long u0), .second, .val (.long u1), .second, .val (.long u2), .second, .val (.long u3), .second, .val (.long u4), .second, .val (.int u5), .val (.long am), .second, .val (.long pe), .second, .val (.long bu), .second, .unset, .unset, .unset, .unset, .unset, .unset] [(.long co)])) := by
    intro co
    refine Wp.step (fun t k => XS.lstore X3.here hx rfl (hb hby at_59) rfl (l' := #[.val (.long u0), .second, .val (.long u1), .second, .val (.long u2), .second, .val (.long u3), .second, .val (.long u4), .second, .val (.int u5), .val (.long am), .second, .val (.long pe), .second, .val (.long bu), .second, .val (.long co), .second, .unset, .unset, .unset, .unset]) rfl k) ?_
    show Wp p e below _ (T3.setTop (mkF m 61 #[.val (.long u0), .second, .val (.long u1), .second, .val (.long u2), .second, .val (.long u3), .second, .val (.long u4), .second, .val (.int u5), .val (.long am), .second, .val (.long pe), .second, .val (.long bu), .second, .val (.long co), .second, .unset, .unset, .unset, .unset] []))
    obtain ⟨T5, h5, X5, e5, E5, A5, D5, -, st5⟩ := newO X3 hx hZ hown (hw _ (List.mem_of_getElem? (i := 5) rfl)) (hw _ (List.mem_of_getElem? (i := 6) rfl)) (hw _ (List.mem_of_getElem? (i := 7) rfl)) e3 (g := (mkF m 61 #[.val (.long u0), .second, .val (.long u1), .second, .val (.long u2), .second, .val (.long u3), .second, .val (.long u4), .second, .val (.int u5), .val (.long am), .second, .val (.long pe), .second, .val (.long bu), .second, .val (.long co), .second, .unset, .unset, .unset, .unset] [])) rfl (hb hby at_61) (by decide) (by decide)
    obtain ⟨b5, g5⟩ : ∃ z, z = h0.size := ⟨_, rfl⟩
    rw [← g5] at A5 D5 st5
    have g_b5 : n0 ≤ b5 := Nat.le_trans (Nat.le_trans Z0 K0.1) (Nat.le_of_eq g5.symm)
    have sz_b5 : h0.size ≤ b5 := Nat.le_trans K0.1 (Nat.le_of_eq g5.symm)
    have ne_a_Decision_CONFORMS_b5 : a_Decision_CONFORMS ≠ b5 := Nat.ne_of_lt (Nat.lt_of_lt_of_le E_a_Decision_CONFORMS.lt (Nat.le_of_eq g5.symm))
    have ne_a_Decision_NEVER_b5 : a_Decision_NEVER ≠ b5 := Nat.ne_of_lt (Nat.lt_of_lt_of_le E_a_Decision_NEVER.lt (Nat.le_of_eq g5.symm))
    have ne_a_Uint128_ZERO_b5 : a_Uint128_ZERO ≠ b5 := Nat.ne_of_lt (Nat.lt_of_lt_of_le E_a_Uint128_ZERO.lt (Nat.le_of_eq g5.symm))
    have hk := Nat.le_trans hk E5.1
    have c6 := S_ZERO_a_Uint128_ZERO.ext E5
    have c7 := E_a_Uint128_ZERO.ext E5
    have c8 := F_high_a_Uint128_ZERO.ext E5
    have c9 := F_low_a_Uint128_ZERO.ext E5
    have c10 := S_CONFORMS_a_Decision_CONFORMS.ext E5
    have c11 := E_a_Decision_CONFORMS.ext E5
    have c12 := F_waitNanos_a_Decision_CONFORMS.ext E5
    have c13 := S_NEVER_a_Decision_NEVER.ext E5
    have c14 := E_a_Decision_NEVER.ext E5
    have c15 := F_waitNanos_a_Decision_NEVER.ext E5
    have K16 := K0.ext E5
    have c17 : Fld Z h5 b5 "com/example/gentle_bucket/gentlebucket/Meter" "levelNanos" "J" (.long (0 : Int64)) := D5 (Or.inl (hw _ (List.mem_of_getElem? (i := 110) rfl))) (ty := .long) (by decide)
    have c18 : Fld Z h5 b5 "com/example/gentle_bucket/gentlebucket/Meter" "contract" "Lcom/example/gentle_bucket/gentlebucket/Contract;" .null := D5 (Or.inr (hw _ (List.mem_of_getElem? (i := 116) rfl))) (ty := (.object "com/example/gentle_bucket/gentlebucket/Contract")) (by decide)
    have c19 : Fld Z h5 b5 "com/example/gentle_bucket/gentlebucket/Meter" "levelHigh" "J" (.long (0 : Int64)) := D5 (Or.inl (hw _ (List.mem_of_getElem? (i := 171) rfl))) (ty := .long) (by decide)
    have c20 : Fld Z h5 b5 "com/example/gentle_bucket/gentlebucket/Meter" "levelLow" "J" (.long (0 : Int64)) := D5 (Or.inl (hw _ (List.mem_of_getElem? (i := 173) rfl))) (ty := .long) (by decide)
    refine Wp.step st5 ?_
    show Wp p e below _ (T5.setTop (mkF m 64 #[.val (.long u0), .second, .val (.long u1), .second, .val (.long u2), .second, .val (.long u3), .second, .val (.long u4), .second, .val (.int u5), .val (.long am), .second, .val (.long pe), .second, .val (.long bu), .second, .val (.long co), .second, .unset, .unset, .unset, .unset] [(.ref b5)]))
    refine Wp.step (fun t k => XS.dup X5.here hx rfl (hb hby at_64) rfl rfl k) ?_
    show Wp p e below _ (T5.setTop (mkF m 65 #[.val (.long u0), .second, .val (.long u1), .second, .val (.long u2), .second, .val (.long u3), .second, .val (.long u4), .second, .val (.int u5), .val (.long am), .second, .val (.long pe), .second, .val (.long bu), .second, .val (.long co), .second, .unset, .unset, .unset, .unset] [(.ref b5), (.ref b5)]))
    obtain ⟨T21, h21, X21, e21, E21, A21, D21, -, st21⟩ := newO X5 hx hZ hown (hw _ (List.mem_of_getElem? (i := 8) rfl)) (hw _ (List.mem_of_getElem? (i := 9) rfl)) (hw _ (List.mem_of_getElem? (i := 10) rfl)) e5 (g := (mkF m 65 #[.val (.long u0), .second, .val (.long u1), .second, .val (.long u2), .second, .val (.long u3), .second, .val (.long u4), .second, .val (.int u5), .val (.long am), .second, .val (.long pe), .second, .val (.long bu), .second, .val (.long co), .second, .unset, .unset, .unset, .unset] [(.ref b5), (.ref b5)])) rfl (hb hby at_65) (by decide) (by decide)
    obtain ⟨b21, g21⟩ : ∃ z, z = h5.size := ⟨_, rfl⟩
    rw [← g21] at A21 D21 st21
    have g_b21 : n0 ≤ b21 := Nat.le_trans (Nat.le_trans Z0 K16.1) (Nat.le_of_eq g21.symm)
    have sz_b21 : h0.size ≤ b21 := Nat.le_trans K16.1 (Nat.le_of_eq g21.symm)
    have ne_a_Decision_CONFORMS_b21 : a_Decision_CONFORMS ≠ b21 := Nat.ne_of_lt (Nat.lt_of_lt_of_le c11.lt (Nat.le_of_eq g21.symm))
    have ne_a_Decision_NEVER_b21 : a_Decision_NEVER ≠ b21 := Nat.ne_of_lt (Nat.lt_of_lt_of_le c14.lt (Nat.le_of_eq g21.symm))
    have ne_a_Uint128_ZERO_b21 : a_Uint128_ZERO ≠ b21 := Nat.ne_of_lt (Nat.lt_of_lt_of_le c7.lt (Nat.le_of_eq g21.symm))
    have ne_b5_b21 : b5 ≠ b21 := Nat.ne_of_lt (Nat.lt_of_lt_of_le A5.lt (Nat.le_of_eq g21.symm))
    have hk := Nat.le_trans hk E21.1
    have c22 := c6.ext E21
    have c23 := c7.ext E21
    have c24 := c8.ext E21
    have c25 := c9.ext E21
    have c26 := c10.ext E21
    have c27 := c11.ext E21
    have c28 := c12.ext E21
    have c29 := c13.ext E21
    have c30 := c14.ext E21
    have c31 := c15.ext E21
    have c32 := A5.ext E21
    have c33 := c17.ext E21
    have c34 := c18.ext E21
    have c35 := c19.ext E21
    have c36 := c20.ext E21
    have K37 := K16.ext E21
    have c38 : Fld Z h21 b21 "com/example/gentle_bucket/gentlebucket/Contract" "rate" "Lcom/example/gentle_bucket/gentlebucket/Rate;" .null := D21 (Or.inr (hw _ (List.mem_of_getElem? (i := 75) rfl))) (ty := (.object "com/example/gentle_bucket/gentlebucket/Rate")) (by decide)
    have c39 : Fld Z h21 b21 "com/example/gentle_bucket/gentlebucket/Contract" "depth" "Lcom/example/gentle_bucket/gentlebucket/Uint128;" .null := D21 (Or.inr (hw _ (List.mem_of_getElem? (i := 77) rfl))) (ty := (.object "com/example/gentle_bucket/gentlebucket/Uint128")) (by decide)
    have c40 : Fld Z h21 b21 "com/example/gentle_bucket/gentlebucket/Contract" "burst" "J" (.long (0 : Int64)) := D21 (Or.inr (hw _ (List.mem_of_getElem? (i := 98) rfl))) (ty := .long) (by decide)
    refine Wp.step st21 ?_
    show Wp p e below _ (T21.setTop (mkF m 68 #[.val (.long u0), .second, .val (.long u1), .second, .val (.long u2), .second, .val (.long u3), .second, .val (.long u4), .second, .val (.int u5), .val (.long am), .second, .val (.long pe), .second, .val (.long bu), .second, .val (.long co), .second, .unset, .unset, .unset, .unset] [(.ref b21), (.ref b5), (.ref b5)]))
    refine Wp.step (fun t k => XS.dup X21.here hx rfl (hb hby at_68) rfl rfl k) ?_
    show Wp p e below _ (T21.setTop (mkF m 69 #[.val (.long u0), .second, .val (.long u1), .second, .val (.long u2), .second, .val (.long u3), .second, .val (.long u4), .second, .val (.int u5), .val (.long am), .second, .val (.long pe), .second, .val (.long bu), .second, .val (.long co), .second, .unset, .unset, .unset, .unset] [(.ref b21), (.ref b21), (.ref b5), (.ref b5)]))
    obtain ⟨T41, h41, X41, e41, E41, A41, D41, -, st41⟩ := newO X21 hx hZ hown (hw _ (List.mem_of_getElem? (i := 11) rfl)) (hw _ (List.mem_of_getElem? (i := 12) rfl)) (hw _ (List.mem_of_getElem? (i := 13) rfl)) e21 (g := (mkF m 69 #[.val (.long u0), .second, .val (.long u1), .second, .val (.long u2), .second, .val (.long u3), .second, .val (.long u4), .second, .val (.int u5), .val (.long am), .second, .val (.long pe), .second, .val (.long bu), .second, .val (.long co), .second, .unset, .unset, .unset, .unset] [(.ref b21), (.ref b21), (.ref b5), (.ref b5)])) rfl (hb hby at_69) (by decide) (by decide)
    obtain ⟨b41, g41⟩ : ∃ z, z = h21.size := ⟨_, rfl⟩
    rw [← g41] at A41 D41 st41
    have g_b41 : n0 ≤ b41 := Nat.le_trans (Nat.le_trans Z0 K37.1) (Nat.le_of_eq g41.symm)
    have sz_b41 : h0.size ≤ b41 := Nat.le_trans K37.1 (Nat.le_of_eq g41.symm)
    have ne_a_Decision_CONFORMS_b41 : a_Decision_CONFORMS ≠ b41 := Nat.ne_of_lt (Nat.lt_of_lt_of_le c27.lt (Nat.le_of_eq g41.symm))
    have ne_a_Decision_NEVER_b41 : a_Decision_NEVER ≠ b41 := Nat.ne_of_lt (Nat.lt_of_lt_of_le c30.lt (Nat.le_of_eq g41.symm))
    have ne_a_Uint128_ZERO_b41 : a_Uint128_ZERO ≠ b41 := Nat.ne_of_lt (Nat.lt_of_lt_of_le c23.lt (Nat.le_of_eq g41.symm))
    have ne_b21_b41 : b21 ≠ b41 := Nat.ne_of_lt (Nat.lt_of_lt_of_le A21.lt (Nat.le_of_eq g41.symm))
    have ne_b5_b41 : b5 ≠ b41 := Nat.ne_of_lt (Nat.lt_of_lt_of_le c32.lt (Nat.le_of_eq g41.symm))
    have hk := Nat.le_trans hk E41.1
    have c42 := c22.ext E41
    have c43 := c23.ext E41
    have c44 := c24.ext E41
    have c45 := c25.ext E41
    have c46 := c26.ext E41
    have c47 := c27.ext E41
    have c48 := c28.ext E41
    have c49 := c29.ext E41
    have c50 := c30.ext E41
    have c51 := c31.ext E41
    have c52 := c32.ext E41
    have c53 := c33.ext E41
    have c54 := c34.ext E41
    have c55 := c35.ext E41
    have c56 := c36.ext E41
    have c57 := A21.ext E41
    have c58 := c38.ext E41
    have c59 := c39.ext E41
    have c60 := c40.ext E41
    have K61 := K37.ext E41
    have c62 : Fld Z h41 b41 "com/example/gentle_bucket/gentlebucket/Rate" "amount" "J" (.long (0 : Int64)) := D41 (Or.inr (hw _ (List.mem_of_getElem? (i := 24) rfl))) (ty := .long) (by decide)
    have c63 : Fld Z h41 b41 "com/example/gentle_bucket/gentlebucket/Rate" "periodNanos" "J" (.long (0 : Int64)) := D41 (Or.inr (hw _ (List.mem_of_getElem? (i := 26) rfl))) (ty := .long) (by decide)
    refine Wp.step st41 ?_
    show Wp p e below _ (T41.setTop (mkF m 72 #[.val (.long u0), .second, .val (.long u1), .second, .val (.long u2), .second, .val (.long u3), .second, .val (.long u4), .second, .val (.int u5), .val (.long am), .second, .val (.long pe), .second, .val (.long bu), .second, .val (.long co), .second, .unset, .unset, .unset, .unset] [(.ref b41), (.ref b21), (.ref b21), (.ref b5), (.ref b5)]))
    refine Wp.step (fun t k => XS.dup X41.here hx rfl (hb hby at_72) rfl rfl k) ?_
    show Wp p e below _ (T41.setTop (mkF m 73 #[.val (.long u0), .second, .val (.long u1), .second, .val (.long u2), .second, .val (.long u3), .second, .val (.long u4), .second, .val (.int u5), .val (.long am), .second, .val (.long pe), .second, .val (.long bu), .second, .val (.long co), .second, .unset, .unset, .unset, .unset] [(.ref b41), (.ref b41), (.ref b21), (.ref b21), (.ref b5), (.ref b5)]))
    refine Wp.step (fun t k => XS.lload X41.here hx rfl (hb hby at_73) rfl k) ?_
    show Wp p e below _ (T41.setTop (mkF m 75 #[.val (.long u0), .second, .val (.long u1), .second, .val (.long u2), .second, .val (.long u3), .second, .val (.long u4), .second, .val (.int u5), .val (.long am), .second, .val (.long pe), .second, .val (.long bu), .second, .val (.long co), .second, .unset, .unset, .unset, .unset] [(.long am), (.ref b41), (.ref b41), (.ref b21), (.ref b21), (.ref b5), (.ref b5)]))
    refine Wp.step (fun t k => XS.lload X41.here hx rfl (hb hby at_75) rfl k) ?_
    show Wp p e below _ (T41.setTop (mkF m 77 #[.val (.long u0), .second, .val (.long u1), .second, .val (.long u2), .second, .val (.long u3), .second, .val (.long u4), .second, .val (.int u5), .val (.long am), .second, .val (.long pe), .second, .val (.long bu), .second, .val (.long co), .second, .unset, .unset, .unset, .unset] [(.long pe), (.long am), (.ref b41), (.ref b41), (.ref b21), (.ref b21), (.ref b5), (.ref b5)]))
    obtain ⟨_, _, ⟨T64, L64, k64, n64⟩, -, X64, ⟨Lc64, hQ64, l64, y64, z64⟩, st64⟩ := X41.specialBack hx (y := (⟨"com/example/gentle_bucket/gentlebucket/Rate", "<init>", "(JJ)V"⟩ : MethodName)) rfl hown (mvT hZ (hw _ (List.mem_of_getElem? (i := 14) rfl))) (mvT hZ (hw _ (List.mem_of_getElem? (i := 15) rfl))) (mvT hZ (hw _ (List.mem_of_getElem? (i := 16) rfl))) (by decide) (backOf (W := 5) (rm2 l Z a0 hw [] b41 am pe  h41 n0 (Nat.le_trans Z0 K61.1) g_b41 A41 c62 c63 hA hP) hZ (hw _ (List.mem_of_getElem? (i := 16) rfl)) (hw _ (List.mem_of_getElem? (i := 13) rfl)) (by decide) (by decide)) (g := (mkF m 77 #[.val (.long u0), .second, .val (.long u1), .second, .val (.long u2), .second, .val (.long u3), .second, .val (.long u4), .second, .val (.int u5), .val (.long am), .second, .val (.long pe), .second, .val (.long bu), .second, .val (.long co), .second, .unset, .unset, .unset, .unset] [(.long pe), (.long am), (.ref b41), (.ref b41), (.ref b21), (.ref b21), (.ref b5), (.ref b5)])) rfl (by rw [hml]; rfl) (Steps.refl _) (a := b41) (argsL := [(.long am), (.long pe)]) (rest := [(.ref b41), (.ref b21), (.ref b21), (.ref b5), (.ref b5)]) (lenOf pd_28JJ29V rfl) rfl (by show 2 * 0 + _ ≤ _; exact Nat.le_of_eq rfl) (hb hby at_77) (fun _ _ => ⟨rfl, e41, (by decide : 3 + 0 ≤ _), (by decide : 9 + 0 ≤ _)⟩)
    dsimp only [Pt.U, Pt.locs, Pt.cells, Pt.slots] at X64 l64 y64 z64 st64 hQ64
    subst l64 y64 z64
    obtain ⟨h64, e64⟩ : ∃ z, T64.heap = z := ⟨_, rfl⟩
    rw [e64] at hQ64
    obtain ⟨rfl, N64q, Kc64, o64_0, o64_1, o64_2⟩ := hQ64
    have N64 := Fr.app N3 N64q
    have hk := Nat.le_trans hk Kc64.1
    have c65 := own_sta_keep c42 Kc64 (allS (own_ns A41) all0)
    have c66 := c43.keep Kc64
    have c67 := c44.keep Kc64 (ninS ne_a_Uint128_ZERO_b41 nin0)
    have c68 := c45.keep Kc64 (ninS ne_a_Uint128_ZERO_b41 nin0)
    have c69 := own_sta_keep c46 Kc64 (allS (own_ns A41) all0)
    have c70 := c47.keep Kc64
    have c71 := c48.keep Kc64 (ninS ne_a_Decision_CONFORMS_b41 nin0)
    have c72 := own_sta_keep c49 Kc64 (allS (own_ns A41) all0)
    have c73 := c50.keep Kc64
    have c74 := c51.keep Kc64 (ninS ne_a_Decision_NEVER_b41 nin0)
    have c75 := c52.keep Kc64
    have c76 := c53.keep Kc64 (ninS ne_b5_b41 nin0)
    have c77 := c54.keep Kc64 (ninS ne_b5_b41 nin0)
    have c78 := c55.keep Kc64 (ninS ne_b5_b41 nin0)
    have c79 := c56.keep Kc64 (ninS ne_b5_b41 nin0)
    have c80 := c57.keep Kc64
    have c81 := c58.keep Kc64 (ninS ne_b21_b41 nin0)
    have c82 := c59.keep Kc64 (ninS ne_b21_b41 nin0)
    have c83 := c60.keep Kc64 (ninS ne_b21_b41 nin0)
    have c84 := A41.keep Kc64
    have K64 := K61.trans Kc64 (allS (Or.inr sz_b41) all0)
    refine Wp.go st64 ?_
    show Wp p e below _ (T64.setTop (mkF m 80 #[.val (.long u0), .second, .val (.long u1), .second, .val (.long u2), .second, .val (.long u3), .second, .val (.long u4), .second, .val (.int u5), .val (.long am), .second, .val (.long pe), .second, .val (.long bu), .second, .val (.long co), .second, .unset, .unset, .unset, .unset] [(.ref b41), (.ref b21), (.ref b21), (.ref b5), (.ref b5)]))
    refine Wp.step (fun t k => XS.lload X64.here hx rfl (hb hby at_80) rfl k) ?_
    show Wp p e below _ (T64.setTop (mkF m 82 #[.val (.long u0), .second, .val (.long u1), .second, .val (.long u2), .second, .val (.long u3), .second, .val (.long u4), .second, .val (.int u5), .val (.long am), .second, .val (.long pe), .second, .val (.long bu), .second, .val (.long co), .second, .unset, .unset, .unset, .unset] [(.long bu), (.ref b41), (.ref b21), (.ref b21), (.ref b5), (.ref b5)]))
    obtain ⟨_, _, ⟨T85, L85, k85, n85⟩, -, X85, hS85, hg85, ⟨Lc85, hQ85, l85, y85, z85⟩, st85⟩ := X64.specialBackS hx (y := (⟨"com/example/gentle_bucket/gentlebucket/Contract", "<init>", "(Lcom/example/gentle_bucket/gentlebucket/Rate;J)V"⟩ : MethodName)) rfl hown (mvT hZ (hw _ (List.mem_of_getElem? (i := 27) rfl))) (mvT hZ (hw _ (List.mem_of_getElem? (i := 28) rfl))) (mvT hZ (hw _ (List.mem_of_getElem? (i := 29) rfl))) (by decide) (backOfS (W := 3) (rm5 l Z a0 hw [] b21 b41 bu am pe h64 n0 (Nat.le_trans Z0 K64.1) g_b21 c80 c81 c82 c83 o64_0 o64_1 o64_2 hP hB) hZ (hw _ (List.mem_of_getElem? (i := 29) rfl)) (hw _ (List.mem_of_getElem? (i := 10) rfl)) (by decide) (by decide)) (g := (mkF m 82 #[.val (.long u0), .second, .val (.long u1), .second, .val (.long u2), .second, .val (.long u3), .second, .val (.long u4), .second, .val (.int u5), .val (.long am), .second, .val (.long pe), .second, .val (.long bu), .second, .val (.long co), .second, .unset, .unset, .unset, .unset] [(.long bu), (.ref b41), (.ref b21), (.ref b21), (.ref b5), (.ref b5)])) rfl (by rw [hml]; rfl) (Steps.refl _) (a := b21) (argsL := [(.ref b41), (.long bu)]) (rest := [(.ref b21), (.ref b5), (.ref b5)]) (lenOf pd_28Lcom2fexample2fgentle_bucket2fgentlebucket2fRate3bJ29V rfl) rfl (by show 2 * 0 + _ ≤ _; exact Nat.le_of_eq rfl) (hb hby at_82) (fun _ _ => ⟨rfl, e64, (by decide : 3 + 4 ≤ _), (by decide : 9 + 24 ≤ _)⟩)
    dsimp only [Pt.U, Pt.locs, Pt.cells, Pt.slots] at X85 l85 y85 z85 st85 hQ85 hS85 hg85
    subst l85 y85 z85
    obtain ⟨X85, hS, hZ, hown⟩ := rebS hS (n1 := T64.heap.size) (own_hk e64 hk) X85 hS85 hg85 hZ hown
    obtain ⟨h85, e85⟩ : ∃ z, T85.heap = z := ⟨_, rfl⟩
    rw [e85] at hQ85
    obtain ⟨r0_85, rfl, N85q, Kc85, o85_0, o85_1, o85_2, o85_3, o85_4, o85_5, o85_6⟩ := hQ85
    have N85 := Fr.app N64 N85q
    have hk := Nat.le_trans hk Kc85.1
    have c86 := own_sta_keep c65 Kc85 (allS (own_ns c80) all0)
    have c87 := c66.keep Kc85
    have c88 := c67.keep Kc85 (ninS ne_a_Uint128_ZERO_b21 nin0)
    have c89 := c68.keep Kc85 (ninS ne_a_Uint128_ZERO_b21 nin0)
    have c90 := own_sta_keep c69 Kc85 (allS (own_ns c80) all0)
    have c91 := c70.keep Kc85
    have c92 := c71.keep Kc85 (ninS ne_a_Decision_CONFORMS_b21 nin0)
    have c93 := own_sta_keep c72 Kc85 (allS (own_ns c80) all0)
    have c94 := c73.keep Kc85
    have c95 := c74.keep Kc85 (ninS ne_a_Decision_NEVER_b21 nin0)
    have c96 := c75.keep Kc85
    have c97 := c76.keep Kc85 (ninS ne_b5_b21 nin0)
    have c98 := c77.keep Kc85 (ninS ne_b5_b21 nin0)
    have c99 := c78.keep Kc85 (ninS ne_b5_b21 nin0)
    have c100 := c79.keep Kc85 (ninS ne_b5_b21 nin0)
    have c101 := c80.keep Kc85
    have c102 := o64_0.keep Kc85
    have c103 := o64_1.keep Kc85 (ninS (Ne.symm ne_b21_b41) nin0)
    have c104 := o64_2.keep Kc85 (ninS (Ne.symm ne_b21_b41) nin0)
    have K85 := K64.trans Kc85 (allS (Or.inr sz_b21) all0)
    have hk : T85.heap.size ≤ h85.size := by rw [e85]; exact Nat.le_refl _
    refine Wp.go st85 ?_
    show Wp p e below _ (T85.setTop (mkF m 85 #[.val (.long u0), .second, .val (.long u1), .second, .val (.long u2), .second, .val (.long u3), .second, .val (.long u4), .second, .val (.int u5), .val (.long am), .second, .val (.long pe), .second, .val (.long bu), .second, .val (.long co), .second, .unset, .unset, .unset, .unset] [(.ref b21), (.ref b5), (.ref b5)]))
    obtain ⟨_, _, ⟨T105, L105, k105, n105⟩, -, X105, hS105, hg105, ⟨Lc105, hQ105, l105, y105, z105⟩, st105⟩ := X85.specialBackS hx (y := (⟨"com/example/gentle_bucket/gentlebucket/Meter", "<init>", "(Lcom/example/gentle_bucket/gentlebucket/Contract;)V"⟩ : MethodName)) rfl hown (mvT hZ (hw _ (List.mem_of_getElem? (i := 99) rfl))) (mvT hZ (hw _ (List.mem_of_getElem? (i := 100) rfl))) (mvT hZ (hw _ (List.mem_of_getElem? (i := 101) rfl))) (by decide) (backOfS (W := 1) (rm17 l Z a0 hw [] b5 b21  h85 n0 (Nat.le_trans Z0 K85.1) g_b5 c96 c97 c98 c99 c100 o85_0 ) hZ (hw _ (List.mem_of_getElem? (i := 101) rfl)) (hw _ (List.mem_of_getElem? (i := 7) rfl)) (by decide) (by decide)) (g := (mkF m 85 #[.val (.long u0), .second, .val (.long u1), .second, .val (.long u2), .second, .val (.long u3), .second, .val (.long u4), .second, .val (.int u5), .val (.long am), .second, .val (.long pe), .second, .val (.long bu), .second, .val (.long co), .second, .unset, .unset, .unset, .unset] [(.ref b21), (.ref b5), (.ref b5)])) rfl (by rw [hml]; rfl) (Steps.refl _) (a := b5) (argsL := [(.ref b21)]) (rest := [(.ref b5)]) (lenOf pd_28Lcom2fexample2fgentle_bucket2fgentlebucket2fContract3b29V rfl) rfl (by show 2 * 0 + _ ≤ _; exact Nat.le_of_eq rfl) (hb hby at_85) (fun _ _ => ⟨rfl, e85, (by decide : 7 + 2 ≤ _), (by decide : 33 + 36 ≤ _)⟩)
    dsimp only [Pt.U, Pt.locs, Pt.cells, Pt.slots] at X105 l105 y105 z105 st105 hQ105 hS105 hg105
    subst l105 y105 z105
    obtain ⟨X105, hS, hZ, hown⟩ := rebS hS (n1 := T85.heap.size) (own_hk e85 hk) X105 hS105 hg105 hZ hown
    obtain ⟨h105, e105⟩ : ∃ z, T105.heap = z := ⟨_, rfl⟩
    rw [e105] at hQ105
    obtain ⟨rfl, N105q, Kc105, o105_0, o105_1, o105_2, o105_3, o105_4⟩ := hQ105
    have N105 := Fr.app N85 N105q
    have hk := Nat.le_trans hk Kc105.1
    have c106 := own_sta_keep c86 Kc105 (allS (own_ns c96) all0)
    have c107 := c87.keep Kc105
    have c108 := c88.keep Kc105 (ninS ne_a_Uint128_ZERO_b5 nin0)
    have c109 := c89.keep Kc105 (ninS ne_a_Uint128_ZERO_b5 nin0)
    have c110 := own_sta_keep c90 Kc105 (allS (own_ns c96) all0)
    have c111 := c91.keep Kc105
    have c112 := c92.keep Kc105 (ninS ne_a_Decision_CONFORMS_b5 nin0)
    have c113 := own_sta_keep c93 Kc105 (allS (own_ns c96) all0)
    have c114 := c94.keep Kc105
    have c115 := c95.keep Kc105 (ninS ne_a_Decision_NEVER_b5 nin0)
    have c116 := c96.keep Kc105
    have c117 := o85_0.keep Kc105
    have c118 := c102.keep Kc105
    have c119 := c103.keep Kc105 (ninS (Ne.symm ne_b5_b41) nin0)
    have c120 := c104.keep Kc105 (ninS (Ne.symm ne_b5_b41) nin0)
    have c121 := o85_1.keep Kc105 (ninS (Ne.symm ne_b5_b21) nin0)
    have c122 := o85_2.keep Kc105 (ninS (Ne.symm ne_b5_b21) nin0)
    have c123 := o85_3.keep Kc105 (ninS (Ne.symm ne_b5_b21) nin0)
    have c124 := o85_4.keep Kc105
    have c125 := o85_5.keep Kc105 (ninS (own_ne_cls c124 c116 (by decide)) nin0)
    have c126 := o85_6.keep Kc105 (ninS (own_ne_cls c124 c116 (by decide)) nin0)
    have K105 := K85.trans Kc105 (allS (Or.inr sz_b5) all0)
    have hk : T105.heap.size ≤ h105.size := by rw [e105]; exact Nat.le_refl _
    refine Wp.go st105 ?_
    show Wp p e below _ (T105.setTop (mkF m 88 #[.val (.long u0), .second, .val (.long u1), .second, .val (.long u2), .second, .val (.long u3), .second, .val (.long u4), .second, .val (.int u5), .val (.long am), .second, .val (.long pe), .second, .val (.long bu), .second, .val (.long co), .second, .unset, .unset, .unset, .unset] [(.ref b5)]))
    refine Wp.step (fun t k => XS.astore X105.here hx rfl (hb hby at_88) rfl rfl (l' := #[.val (.long u0), .second, .val (.long u1), .second, .val (.long u2), .second, .val (.long u3), .second, .val (.long u4), .second, .val (.int u5), .val (.long am), .second, .val (.long pe), .second, .val (.long bu), .second, .val (.long co), .second, .val (.ref b5), .unset, .unset, .unset]) rfl k) ?_
    show Wp p e below _ (T105.setTop (mkF m 90 #[.val (.long u0), .second, .val (.long u1), .second, .val (.long u2), .second, .val (.long u3), .second, .val (.long u4), .second, .val (.int u5), .val (.long am), .second, .val (.long pe), .second, .val (.long bu), .second, .val (.long co), .second, .val (.ref b5), .unset, .unset, .unset] []))
    refine Wp.step (fun t k => XS.aload X105.here hx rfl (hb hby at_90) rfl rfl k) ?_
    show Wp p e below _ (T105.setTop (mkF m 92 #[.val (.long u0), .second, .val (.long u1), .second, .val (.long u2), .second, .val (.long u3), .second, .val (.long u4), .second, .val (.int u5), .val (.long am), .second, .val (.long pe), .second, .val (.long bu), .second, .val (.long co), .second, .val (.ref b5), .unset, .unset, .unset] [(.ref b5)]))
    refine Wp.step (fun t k => XS.lload X105.here hx rfl (hb hby at_92) rfl k) ?_
    show Wp p e below _ (T105.setTop (mkF m 94 #[.val (.long u0), .second, .val (.long u1), .second, .val (.long u2), .second, .val (.long u3), .second, .val (.long u4), .second, .val (.int u5), .val (.long am), .second, .val (.long pe), .second, .val (.long bu), .second, .val (.long co), .second, .val (.ref b5), .unset, .unset, .unset] [(.long co), (.ref b5)]))
    by_cases hbc : bu < co
    · obtain ⟨cq127, kq127, q127a, q127b, q127c⟩ := isOf hZ e105 o105_0
      obtain ⟨_, _, ⟨T127, L127, k127, n127⟩, -, X127, ⟨Lc127, hQ127, l127, y127, z127⟩, st127⟩ := X105.virtualBack hx (y := (⟨"com/example/gentle_bucket/gentlebucket/Meter", "neverFits", "(J)Z"⟩ : MethodName)) (z := (⟨"com/example/gentle_bucket/gentlebucket/Meter", "neverFits", "(J)Z"⟩ : MethodName)) hown (mvT hZ (hw _ (List.mem_of_getElem? (i := 117) rfl))) (mvT hZ (hw _ (List.mem_of_getElem? (i := 118) rfl))) (notFace_of_selects (args := #[]) (mvT hZ (hw _ (List.mem_of_getElem? (i := 120) rfl)))) (mvT hZ (hw _ (List.mem_of_getElem? (i := 120) rfl))) (mvT hZ (hw _ (List.mem_of_getElem? (i := 119) rfl))) (by decide) (backOf (W := 0) (rm19 l Z a0 hw [] b5 co b21 bu h105 n0 (Nat.le_trans Z0 K105.1) o105_2 c117 c123 ) hZ (hw _ (List.mem_of_getElem? (i := 121) rfl)) (hw _ (List.mem_of_getElem? (i := 7) rfl)) (by decide) (by decide)) q127a q127c (g := (mkF m 94 #[.val (.long u0), .second, .val (.long u1), .second, .val (.long u2), .second, .val (.long u3), .second, .val (.long u4), .second, .val (.int u5), .val (.long am), .second, .val (.long pe), .second, .val (.long bu), .second, .val (.long co), .second, .val (.ref b5), .unset, .unset, .unset] [(.long co), (.ref b5)])) rfl (by rw [hml]; rfl) (Steps.refl _) (argsL := [(.long co)]) (rest := []) (lenOf pd_28J29Z rfl) rfl (by show 2 * 0 + _ ≤ _; exact Nat.le_of_eq rfl) (hb hby at_94) (fun _ _ => ⟨rfl, e105, (by decide : 9 + 0 ≤ _), (by decide : 69 + 0 ≤ _)⟩)
      dsimp only [Pt.U, Pt.locs, Pt.cells, Pt.slots] at X127 l127 y127 z127 st127 hQ127
      subst l127 y127 z127
      obtain ⟨rfl, N127q, e127⟩ := hQ127
      have N127 := Fr.app N105 N127q
      refine Wp.go st127 ?_
      show Wp p e below _ (T127.setTop (mkF m 97 #[.val (.long u0), .second, .val (.long u1), .second, .val (.long u2), .second, .val (.long u3), .second, .val (.long u4), .second, .val (.int u5), .val (.long am), .second, .val (.long pe), .second, .val (.long bu), .second, .val (.long co), .second, .val (.ref b5), .unset, .unset, .unset] [(.int (own_nf co bu))]))
      rw [show (own_nf co bu) = (1 : Int32) from (by rw [own_nf, if_pos hbc])]
      refine Wp.step (fun t k => XS.istore X127.here hx rfl (hb hby at_97) rfl (l' := #[.val (.long u0), .second, .val (.long u1), .second, .val (.long u2), .second, .val (.long u3), .second, .val (.long u4), .second, .val (.int u5), .val (.long am), .second, .val (.long pe), .second, .val (.long bu), .second, .val (.long co), .second, .val (.ref b5), .val (.int (1 : Int32)), .unset, .unset]) rfl k) ?_
      show Wp p e below _ (T127.setTop (mkF m 99 #[.val (.long u0), .second, .val (.long u1), .second, .val (.long u2), .second, .val (.long u3), .second, .val (.long u4), .second, .val (.int u5), .val (.long am), .second, .val (.long pe), .second, .val (.long bu), .second, .val (.long co), .second, .val (.ref b5), .val (.int (1 : Int32)), .unset, .unset] []))
      refine Wp.step (fun t k => XS.lload X127.here hx rfl (hb hby at_99) rfl k) ?_
      show Wp p e below _ (T127.setTop (mkF m 101 #[.val (.long u0), .second, .val (.long u1), .second, .val (.long u2), .second, .val (.long u3), .second, .val (.long u4), .second, .val (.int u5), .val (.long am), .second, .val (.long pe), .second, .val (.long bu), .second, .val (.long co), .second, .val (.ref b5), .val (.int (1 : Int32)), .unset, .unset] [(.long co)]))
      refine Wp.step (fun t k => XS.lload X127.here hx rfl (hb hby at_101) rfl k) ?_
      show Wp p e below _ (T127.setTop (mkF m 103 #[.val (.long u0), .second, .val (.long u1), .second, .val (.long u2), .second, .val (.long u3), .second, .val (.long u4), .second, .val (.int u5), .val (.long am), .second, .val (.long pe), .second, .val (.long bu), .second, .val (.long co), .second, .val (.ref b5), .val (.int (1 : Int32)), .unset, .unset] [(.long bu), (.long co)]))
      refine Wp.step (fun t k => XS.lcmp X127.here hx rfl (hb hby at_103) rfl k) ?_
      show Wp p e below _ (T127.setTop (mkF m 104 #[.val (.long u0), .second, .val (.long u1), .second, .val (.long u2), .second, .val (.long u3), .second, .val (.long u4), .second, .val (.int u5), .val (.long am), .second, .val (.long pe), .second, .val (.long bu), .second, .val (.long co), .second, .val (.ref b5), .val (.int (1 : Int32)), .unset, .unset] [(.int (lcmpW co bu))]))
      refine Wp.step (fun t k => XS.ifNo X127.here hx rfl (hb hby at_104) rfl ((if0 _ _).trans (tlt (show (0 : Int32) < (lcmpW co bu) from ((lw_gt _ _).mpr hbc))).2.2.2) k) ?_
      show Wp p e below _ (T127.setTop (mkF m 107 #[.val (.long u0), .second, .val (.long u1), .second, .val (.long u2), .second, .val (.long u3), .second, .val (.long u4), .second, .val (.int u5), .val (.long am), .second, .val (.long pe), .second, .val (.long bu), .second, .val (.long co), .second, .val (.ref b5), .val (.int (1 : Int32)), .unset, .unset] []))
      refine Wp.step (fun t k => XS.iconst X127.here hx rfl (hb hby at_107) k) ?_
      show Wp p e below _ (T127.setTop (mkF m 108 #[.val (.long u0), .second, .val (.long u1), .second, .val (.long u2), .second, .val (.long u3), .second, .val (.long u4), .second, .val (.int u5), .val (.long am), .second, .val (.long pe), .second, .val (.long bu), .second, .val (.long co), .second, .val (.ref b5), .val (.int (1 : Int32)), .unset, .unset] [(.int (1 : Int32))]))
      refine Wp.step (fun t k => XS.goto X127.here hx rfl (pc0 := 108) (pc' := 112) rfl (hb hby at_108) (by decide) (by decide) k) ?_
      show Wp p e below _ (T127.setTop (mkF m 112 #[.val (.long u0), .second, .val (.long u1), .second, .val (.long u2), .second, .val (.long u3), .second, .val (.long u4), .second, .val (.int u5), .val (.long am), .second, .val (.long pe), .second, .val (.long bu), .second, .val (.long co), .second, .val (.ref b5), .val (.int (1 : Int32)), .unset, .unset] [(.int (1 : Int32))]))
      refine Wp.step (fun t k => XS.istore X127.here hx rfl (hb hby at_112) rfl (l' := #[.val (.long u0), .second, .val (.long u1), .second, .val (.long u2), .second, .val (.long u3), .second, .val (.long u4), .second, .val (.int u5), .val (.long am), .second, .val (.long pe), .second, .val (.long bu), .second, .val (.long co), .second, .val (.ref b5), .val (.int (1 : Int32)), .val (.int (1 : Int32)), .unset]) rfl k) ?_
      show Wp p e below _ (T127.setTop (mkF m 114 #[.val (.long u0), .second, .val (.long u1), .second, .val (.long u2), .second, .val (.long u3), .second, .val (.long u4), .second, .val (.int u5), .val (.long am), .second, .val (.long pe), .second, .val (.long bu), .second, .val (.long co), .second, .val (.ref b5), .val (.int (1 : Int32)), .val (.int (1 : Int32)), .unset] []))
      refine Wp.step (fun t k => XS.iload X127.here hx rfl (hb hby at_114) rfl k) ?_
      show Wp p e below _ (T127.setTop (mkF m 116 #[.val (.long u0), .second, .val (.long u1), .second, .val (.long u2), .second, .val (.long u3), .second, .val (.long u4), .second, .val (.int u5), .val (.long am), .second, .val (.long pe), .second, .val (.long bu), .second, .val (.long co), .second, .val (.ref b5), .val (.int (1 : Int32)), .val (.int (1 : Int32)), .unset] [(.int (1 : Int32))]))
      refine Wp.step (fun t k => XS.iload X127.here hx rfl (hb hby at_116) rfl k) ?_
      show Wp p e below _ (T127.setTop (mkF m 118 #[.val (.long u0), .second, .val (.long u1), .second, .val (.long u2), .second, .val (.long u3), .second, .val (.long u4), .second, .val (.int u5), .val (.long am), .second, .val (.long pe), .second, .val (.long bu), .second, .val (.long co), .second, .val (.ref b5), .val (.int (1 : Int32)), .val (.int (1 : Int32)), .unset] [(.int (1 : Int32)), (.int (1 : Int32))]))
      refine Wp.step (fun t k => XS.icmpYes X127.here hx rfl (pc0 := 118) (pc' := 123) rfl (hb hby at_118) rfl (teq (show (1 : Int32) = (1 : Int32) by decide)).1 (by decide) (by decide) k) ?_
      show Wp p e below _ (T127.setTop (mkF m 123 #[.val (.long u0), .second, .val (.long u1), .second, .val (.long u2), .second, .val (.long u3), .second, .val (.long u4), .second, .val (.int u5), .val (.long am), .second, .val (.long pe), .second, .val (.long bu), .second, .val (.long co), .second, .val (.ref b5), .val (.int (1 : Int32)), .val (.int (1 : Int32)), .unset] []))
      refine Wp.step (fun t k => XS.lload X127.here hx rfl (hb hby at_123) rfl k) ?_
      show Wp p e below _ (T127.setTop (mkF m 125 #[.val (.long u0), .second, .val (.long u1), .second, .val (.long u2), .second, .val (.long u3), .second, .val (.long u4), .second, .val (.int u5), .val (.long am), .second, .val (.long pe), .second, .val (.long bu), .second, .val (.long co), .second, .val (.ref b5), .val (.int (1 : Int32)), .val (.int (1 : Int32)), .unset] [(.long co)]))
      refine Wp.step (fun t k => XS.lconst X127.here hx rfl (hb hby at_125) k) ?_
      show Wp p e below _ (T127.setTop (mkF m 126 #[.val (.long u0), .second, .val (.long u1), .second, .val (.long u2), .second, .val (.long u3), .second, .val (.long u4), .second, .val (.int u5), .val (.long am), .second, .val (.long pe), .second, .val (.long bu), .second, .val (.long co), .second, .val (.ref b5), .val (.int (1 : Int32)), .val (.int (1 : Int32)), .unset] [(.long (1 : Int64)), (.long co)]))
      refine Wp.step (fun t k => XS.lcmp X127.here hx rfl (hb hby at_126) rfl k) ?_
      show Wp p e below _ (T127.setTop (mkF m 127 #[.val (.long u0), .second, .val (.long u1), .second, .val (.long u2), .second, .val (.long u3), .second, .val (.long u4), .second, .val (.int u5), .val (.long am), .second, .val (.long pe), .second, .val (.long bu), .second, .val (.long co), .second, .val (.ref b5), .val (.int (1 : Int32)), .val (.int (1 : Int32)), .unset] [(.int (lcmpW co (1 : Int64)))]))
      by_cases hc130 : (lcmpW co (1 : Int64)) < (0 : Int32)
      · refine Wp.step (fun t k => XS.ifNo X127.here hx rfl (hb hby at_127) rfl ((if0 _ _).trans (tlt hc130).2.1) k) ?_
        show Wp p e below _ (T127.setTop (mkF m 130 #[.val (.long u0), .second, .val (.long u1), .second, .val (.long u2), .second, .val (.long u3), .second, .val (.long u4), .second, .val (.int u5), .val (.long am), .second, .val (.long pe), .second, .val (.long bu), .second, .val (.long co), .second, .val (.ref b5), .val (.int (1 : Int32)), .val (.int (1 : Int32)), .unset] []))
        refine Wp.step (fun t k => XS.iconst X127.here hx rfl (hb hby at_130) k) ?_
        show Wp p e below _ (T127.setTop (mkF m 131 #[.val (.long u0), .second, .val (.long u1), .second, .val (.long u2), .second, .val (.long u3), .second, .val (.long u4), .second, .val (.int u5), .val (.long am), .second, .val (.long pe), .second, .val (.long bu), .second, .val (.long co), .second, .val (.ref b5), .val (.int (1 : Int32)), .val (.int (1 : Int32)), .unset] [(.int (1 : Int32))]))
        refine Wp.retNW X127 hS (own_hk e127 hk) hx (t := .boolean) Bd.returns (by simp) (hb hby at_131) hlk ?_ (by decide) (by decide)
        show Q0 Z u0 u1 u2 u3 u4 u5 a_Uint128_ZERO a_Decision_CONFORMS a_Decision_NEVER h0 n0 (some (.int (nar .boolean (1 : Int32)))) T127.heap _
        rw [e127]
        exact ⟨rfl, N127⟩
      · refine Wp.step (fun t k => XS.ifYes X127.here hx rfl (pc0 := 127) (pc' := 132) rfl (hb hby at_127) rfl ((if0 _ _).trans (flt hc130).2.1) (by decide) (by decide) k) ?_
        show Wp p e below _ (T127.setTop (mkF m 132 #[.val (.long u0), .second, .val (.long u1), .second, .val (.long u2), .second, .val (.long u3), .second, .val (.long u4), .second, .val (.int u5), .val (.long am), .second, .val (.long pe), .second, .val (.long bu), .second, .val (.long co), .second, .val (.ref b5), .val (.int (1 : Int32)), .val (.int (1 : Int32)), .unset] []))
        have hco : ¬ co < 1 := fun q => hc130 ((lw_lt _ _).mpr q)
        refine Wp.step (fun t k => XS.aload X127.here hx rfl (hb hby at_132) rfl rfl k) ?_
        show Wp p e below _ (T127.setTop (mkF m 134 #[.val (.long u0), .second, .val (.long u1), .second, .val (.long u2), .second, .val (.long u3), .second, .val (.long u4), .second, .val (.int u5), .val (.long am), .second, .val (.long pe), .second, .val (.long bu), .second, .val (.long co), .second, .val (.ref b5), .val (.int (1 : Int32)), .val (.int (1 : Int32)), .unset] [(.ref b5)]))
        refine Wp.step (fun t k => XS.lload X127.here hx rfl (hb hby at_134) rfl k) ?_
        show Wp p e below _ (T127.setTop (mkF m 136 #[.val (.long u0), .second, .val (.long u1), .second, .val (.long u2), .second, .val (.long u3), .second, .val (.long u4), .second, .val (.int u5), .val (.long am), .second, .val (.long pe), .second, .val (.long bu), .second, .val (.long co), .second, .val (.ref b5), .val (.int (1 : Int32)), .val (.int (1 : Int32)), .unset] [(.long u4), (.ref b5)]))
        refine Wp.step (fun t k => XS.lload X127.here hx rfl (hb hby at_136) rfl k) ?_
        show Wp p e below _ (T127.setTop (mkF m 138 #[.val (.long u0), .second, .val (.long u1), .second, .val (.long u2), .second, .val (.long u3), .second, .val (.long u4), .second, .val (.int u5), .val (.long am), .second, .val (.long pe), .second, .val (.long bu), .second, .val (.long co), .second, .val (.ref b5), .val (.int (1 : Int32)), .val (.int (1 : Int32)), .unset] [(.long co), (.long u4), (.ref b5)]))
        obtain ⟨cq131, kq131, q131a, q131b, q131c⟩ := isOf hZ e127 o105_0
        obtain ⟨_, _, ⟨T131, L131, k131, n131⟩, -, X131, ⟨Lc131, hQ131, l131, y131, z131⟩, st131⟩ := X127.virtualBack hx (y := (⟨"com/example/gentle_bucket/gentlebucket/Meter", "offer", "(JJ)Z"⟩ : MethodName)) (z := (⟨"com/example/gentle_bucket/gentlebucket/Meter", "offer", "(JJ)Z"⟩ : MethodName)) hown (mvT hZ (hw _ (List.mem_of_getElem? (i := 127) rfl))) (mvT hZ (hw _ (List.mem_of_getElem? (i := 128) rfl))) (notFace_of_selects (args := #[]) (mvT hZ (hw _ (List.mem_of_getElem? (i := 130) rfl)))) (mvT hZ (hw _ (List.mem_of_getElem? (i := 130) rfl))) (mvT hZ (hw _ (List.mem_of_getElem? (i := 129) rfl))) (by decide) (backOf (W := 0) (rm21_n l Z a0 hw [] b5 u4 co (-9223372036854775808 : Int64) b21 b41 r0_85 am pe bu (own_ph bu pe) (bu * pe) a_Uint128_ZERO a_Decision_NEVER h105 n0 (Nat.le_trans Z0 K105.1) g_b5 o105_0 o105_1 o105_2 o105_3 o105_4 c117 c121 c122 c123 c118 c119 c120 c124 c125 c126 c106 c107 c108 c109 c113 c114 c115 hco hbc (own_ln _)) hZ (hw _ (List.mem_of_getElem? (i := 131) rfl)) (hw _ (List.mem_of_getElem? (i := 7) rfl)) (by decide) (by decide)) q131a q131c (g := (mkF m 138 #[.val (.long u0), .second, .val (.long u1), .second, .val (.long u2), .second, .val (.long u3), .second, .val (.long u4), .second, .val (.int u5), .val (.long am), .second, .val (.long pe), .second, .val (.long bu), .second, .val (.long co), .second, .val (.ref b5), .val (.int (1 : Int32)), .val (.int (1 : Int32)), .unset] [(.long co), (.long u4), (.ref b5)])) rfl (by rw [hml]; rfl) (Steps.refl _) (argsL := [(.long u4), (.long co)]) (rest := []) (lenOf pd_28JJ29Z rfl) rfl (by show 2 * 0 + _ ≤ _; exact Nat.le_of_eq rfl) (hb hby at_138) (fun _ _ => ⟨rfl, e127, (by decide : 9 + 2 ≤ _), (by decide : 69 + 4 ≤ _)⟩)
        dsimp only [Pt.U, Pt.locs, Pt.cells, Pt.slots] at X131 l131 y131 z131 st131 hQ131
        subst l131 y131 z131
        obtain ⟨h131, e131⟩ : ∃ z, T131.heap = z := ⟨_, rfl⟩
        rw [e131] at hQ131
        obtain ⟨rfl, N131q, Kc131⟩ := hQ131
        have N131 := Fr.app N127 N131q
        have hk := Nat.le_trans hk Kc131.1
        have c132 := own_sta_keep c106 Kc131 (allS (own_ns o105_0) all0)
        have c133 := c107.keep Kc131
        have c134 := c108.keep Kc131 (ninS ne_a_Uint128_ZERO_b5 nin0)
        have c135 := c109.keep Kc131 (ninS ne_a_Uint128_ZERO_b5 nin0)
        have c136 := own_sta_keep c110 Kc131 (allS (own_ns o105_0) all0)
        have c137 := c111.keep Kc131
        have c138 := c112.keep Kc131 (ninS ne_a_Decision_CONFORMS_b5 nin0)
        have c139 := own_sta_keep c113 Kc131 (allS (own_ns o105_0) all0)
        have c140 := c114.keep Kc131
        have c141 := c115.keep Kc131 (ninS ne_a_Decision_NEVER_b5 nin0)
        have c142 := o105_0.keep Kc131
        have c143 := c117.keep Kc131
        have c144 := c118.keep Kc131
        have c145 := c119.keep Kc131 (ninS (Ne.symm ne_b5_b41) nin0)
        have c146 := c120.keep Kc131 (ninS (Ne.symm ne_b5_b41) nin0)
        have c147 := c121.keep Kc131 (ninS (Ne.symm ne_b5_b21) nin0)
        have c148 := c122.keep Kc131 (ninS (Ne.symm ne_b5_b21) nin0)
        have c149 := c123.keep Kc131 (ninS (Ne.symm ne_b5_b21) nin0)
        have c150 := c124.keep Kc131
        have c151 := c125.keep Kc131 (ninS (own_ne_cls c150 c142 (by decide)) nin0)
        have c152 := c126.keep Kc131 (ninS (own_ne_cls c150 c142 (by decide)) nin0)
        have K131 := K105.trans Kc131 (allS (Or.inr sz_b5) all0)
        refine Wp.go st131 ?_
        show Wp p e below _ (T131.setTop (mkF m 141 #[.val (.long u0), .second, .val (.long u1), .second, .val (.long u2), .second, .val (.long u3), .second, .val (.long u4), .second, .val (.int u5), .val (.long am), .second, .val (.long pe), .second, .val (.long bu), .second, .val (.long co), .second, .val (.ref b5), .val (.int (1 : Int32)), .val (.int (1 : Int32)), .unset] [(.int (0 : Int32))]))
        refine Wp.step (fun t k => XS.istore X131.here hx rfl (hb hby at_141) rfl (l' := #[.val (.long u0), .second, .val (.long u1), .second, .val (.long u2), .second, .val (.long u3), .second, .val (.long u4), .second, .val (.int u5), .val (.long am), .second, .val (.long pe), .second, .val (.long bu), .second, .val (.long co), .second, .val (.ref b5), .val (.int (1 : Int32)), .val (.int (1 : Int32)), .val (.int (0 : Int32))]) rfl k) ?_
        show Wp p e below _ (T131.setTop (mkF m 143 #[.val (.long u0), .second, .val (.long u1), .second, .val (.long u2), .second, .val (.long u3), .second, .val (.long u4), .second, .val (.int u5), .val (.long am), .second, .val (.long pe), .second, .val (.long bu), .second, .val (.long co), .second, .val (.ref b5), .val (.int (1 : Int32)), .val (.int (1 : Int32)), .val (.int (0 : Int32))] []))
        refine Wp.step (fun t k => XS.iload X131.here hx rfl (hb hby at_143) rfl k) ?_
        show Wp p e below _ (T131.setTop (mkF m 145 #[.val (.long u0), .second, .val (.long u1), .second, .val (.long u2), .second, .val (.long u3), .second, .val (.long u4), .second, .val (.int u5), .val (.long am), .second, .val (.long pe), .second, .val (.long bu), .second, .val (.long co), .second, .val (.ref b5), .val (.int (1 : Int32)), .val (.int (1 : Int32)), .val (.int (0 : Int32))] [(.int (0 : Int32))]))
        refine Wp.step (fun t k => XS.iload X131.here hx rfl (hb hby at_145) rfl k) ?_
        show Wp p e below _ (T131.setTop (mkF m 147 #[.val (.long u0), .second, .val (.long u1), .second, .val (.long u2), .second, .val (.long u3), .second, .val (.long u4), .second, .val (.int u5), .val (.long am), .second, .val (.long pe), .second, .val (.long bu), .second, .val (.long co), .second, .val (.ref b5), .val (.int (1 : Int32)), .val (.int (1 : Int32)), .val (.int (0 : Int32))] [(.int (1 : Int32)), (.int (0 : Int32))]))
        refine Wp.step (fun t k => XS.ifYes X131.here hx rfl (pc0 := 147) (pc' := 154) rfl (hb hby at_147) rfl ((if0 _ _).trans (feq (show ¬ ((1 : Int32) = (0 : Int32)) by decide)).2) (by decide) (by decide) k) ?_
        show Wp p e below _ (T131.setTop (mkF m 154 #[.val (.long u0), .second, .val (.long u1), .second, .val (.long u2), .second, .val (.long u3), .second, .val (.long u4), .second, .val (.int u5), .val (.long am), .second, .val (.long pe), .second, .val (.long bu), .second, .val (.long co), .second, .val (.ref b5), .val (.int (1 : Int32)), .val (.int (1 : Int32)), .val (.int (0 : Int32))] [(.int (0 : Int32))]))
        refine Wp.step (fun t k => XS.iconst X131.here hx rfl (hb hby at_154) k) ?_
        show Wp p e below _ (T131.setTop (mkF m 155 #[.val (.long u0), .second, .val (.long u1), .second, .val (.long u2), .second, .val (.long u3), .second, .val (.long u4), .second, .val (.int u5), .val (.long am), .second, .val (.long pe), .second, .val (.long bu), .second, .val (.long co), .second, .val (.ref b5), .val (.int (1 : Int32)), .val (.int (1 : Int32)), .val (.int (0 : Int32))] [(.int (0 : Int32)), (.int (0 : Int32))]))
        refine Wp.step (fun t k => XS.icmpNo X131.here hx rfl (hb hby at_155) rfl (teq (show (0 : Int32) = (0 : Int32) by decide)).2 k) ?_
        show Wp p e below _ (T131.setTop (mkF m 158 #[.val (.long u0), .second, .val (.long u1), .second, .val (.long u2), .second, .val (.long u3), .second, .val (.long u4), .second, .val (.int u5), .val (.long am), .second, .val (.long pe), .second, .val (.long bu), .second, .val (.long co), .second, .val (.ref b5), .val (.int (1 : Int32)), .val (.int (1 : Int32)), .val (.int (0 : Int32))] []))
        refine Wp.step (fun t k => XS.iconst X131.here hx rfl (hb hby at_158) k) ?_
        show Wp p e below _ (T131.setTop (mkF m 159 #[.val (.long u0), .second, .val (.long u1), .second, .val (.long u2), .second, .val (.long u3), .second, .val (.long u4), .second, .val (.int u5), .val (.long am), .second, .val (.long pe), .second, .val (.long bu), .second, .val (.long co), .second, .val (.ref b5), .val (.int (1 : Int32)), .val (.int (1 : Int32)), .val (.int (0 : Int32))] [(.int (1 : Int32))]))
        refine Wp.step (fun t k => XS.goto X131.here hx rfl (pc0 := 159) (pc' := 163) rfl (hb hby at_159) (by decide) (by decide) k) ?_
        show Wp p e below _ (T131.setTop (mkF m 163 #[.val (.long u0), .second, .val (.long u1), .second, .val (.long u2), .second, .val (.long u3), .second, .val (.long u4), .second, .val (.int u5), .val (.long am), .second, .val (.long pe), .second, .val (.long bu), .second, .val (.long co), .second, .val (.ref b5), .val (.int (1 : Int32)), .val (.int (1 : Int32)), .val (.int (0 : Int32))] [(.int (1 : Int32))]))
        refine Wp.retNW X131 hS (own_hk e131 hk) hx (t := .boolean) Bd.returns (by simp) (hb hby at_163) hlk ?_ (by decide) (by decide)
        show Q0 Z u0 u1 u2 u3 u4 u5 a_Uint128_ZERO a_Decision_CONFORMS a_Decision_NEVER h0 n0 (some (.int (nar .boolean (1 : Int32)))) T131.heap _
        rw [e131]
        exact ⟨rfl, N131⟩
    · obtain ⟨cq155, kq155, q155a, q155b, q155c⟩ := isOf hZ e105 o105_0
      obtain ⟨_, _, ⟨T155, L155, k155, n155⟩, -, X155, ⟨Lc155, hQ155, l155, y155, z155⟩, st155⟩ := X105.virtualBack hx (y := (⟨"com/example/gentle_bucket/gentlebucket/Meter", "neverFits", "(J)Z"⟩ : MethodName)) (z := (⟨"com/example/gentle_bucket/gentlebucket/Meter", "neverFits", "(J)Z"⟩ : MethodName)) hown (mvT hZ (hw _ (List.mem_of_getElem? (i := 117) rfl))) (mvT hZ (hw _ (List.mem_of_getElem? (i := 118) rfl))) (notFace_of_selects (args := #[]) (mvT hZ (hw _ (List.mem_of_getElem? (i := 120) rfl)))) (mvT hZ (hw _ (List.mem_of_getElem? (i := 120) rfl))) (mvT hZ (hw _ (List.mem_of_getElem? (i := 119) rfl))) (by decide) (backOf (W := 0) (rm19 l Z a0 hw [] b5 co b21 bu h105 n0 (Nat.le_trans Z0 K105.1) o105_2 c117 c123 ) hZ (hw _ (List.mem_of_getElem? (i := 121) rfl)) (hw _ (List.mem_of_getElem? (i := 7) rfl)) (by decide) (by decide)) q155a q155c (g := (mkF m 94 #[.val (.long u0), .second, .val (.long u1), .second, .val (.long u2), .second, .val (.long u3), .second, .val (.long u4), .second, .val (.int u5), .val (.long am), .second, .val (.long pe), .second, .val (.long bu), .second, .val (.long co), .second, .val (.ref b5), .unset, .unset, .unset] [(.long co), (.ref b5)])) rfl (by rw [hml]; rfl) (Steps.refl _) (argsL := [(.long co)]) (rest := []) (lenOf pd_28J29Z rfl) rfl (by show 2 * 0 + _ ≤ _; exact Nat.le_of_eq rfl) (hb hby at_94) (fun _ _ => ⟨rfl, e105, (by decide : 9 + 0 ≤ _), (by decide : 69 + 0 ≤ _)⟩)
      dsimp only [Pt.U, Pt.locs, Pt.cells, Pt.slots] at X155 l155 y155 z155 st155 hQ155
      subst l155 y155 z155
      obtain ⟨rfl, N155q, e155⟩ := hQ155
      have N155 := Fr.app N105 N155q
      refine Wp.go st155 ?_
      show Wp p e below _ (T155.setTop (mkF m 97 #[.val (.long u0), .second, .val (.long u1), .second, .val (.long u2), .second, .val (.long u3), .second, .val (.long u4), .second, .val (.int u5), .val (.long am), .second, .val (.long pe), .second, .val (.long bu), .second, .val (.long co), .second, .val (.ref b5), .unset, .unset, .unset] [(.int (own_nf co bu))]))
      rw [show (own_nf co bu) = (0 : Int32) from (by rw [own_nf, if_neg hbc])]
      refine Wp.step (fun t k => XS.istore X155.here hx rfl (hb hby at_97) rfl (l' := #[.val (.long u0), .second, .val (.long u1), .second, .val (.long u2), .second, .val (.long u3), .second, .val (.long u4), .second, .val (.int u5), .val (.long am), .second, .val (.long pe), .second, .val (.long bu), .second, .val (.long co), .second, .val (.ref b5), .val (.int (0 : Int32)), .unset, .unset]) rfl k) ?_
      show Wp p e below _ (T155.setTop (mkF m 99 #[.val (.long u0), .second, .val (.long u1), .second, .val (.long u2), .second, .val (.long u3), .second, .val (.long u4), .second, .val (.int u5), .val (.long am), .second, .val (.long pe), .second, .val (.long bu), .second, .val (.long co), .second, .val (.ref b5), .val (.int (0 : Int32)), .unset, .unset] []))
      refine Wp.step (fun t k => XS.lload X155.here hx rfl (hb hby at_99) rfl k) ?_
      show Wp p e below _ (T155.setTop (mkF m 101 #[.val (.long u0), .second, .val (.long u1), .second, .val (.long u2), .second, .val (.long u3), .second, .val (.long u4), .second, .val (.int u5), .val (.long am), .second, .val (.long pe), .second, .val (.long bu), .second, .val (.long co), .second, .val (.ref b5), .val (.int (0 : Int32)), .unset, .unset] [(.long co)]))
      refine Wp.step (fun t k => XS.lload X155.here hx rfl (hb hby at_101) rfl k) ?_
      show Wp p e below _ (T155.setTop (mkF m 103 #[.val (.long u0), .second, .val (.long u1), .second, .val (.long u2), .second, .val (.long u3), .second, .val (.long u4), .second, .val (.int u5), .val (.long am), .second, .val (.long pe), .second, .val (.long bu), .second, .val (.long co), .second, .val (.ref b5), .val (.int (0 : Int32)), .unset, .unset] [(.long bu), (.long co)]))
      refine Wp.step (fun t k => XS.lcmp X155.here hx rfl (hb hby at_103) rfl k) ?_
      show Wp p e below _ (T155.setTop (mkF m 104 #[.val (.long u0), .second, .val (.long u1), .second, .val (.long u2), .second, .val (.long u3), .second, .val (.long u4), .second, .val (.int u5), .val (.long am), .second, .val (.long pe), .second, .val (.long bu), .second, .val (.long co), .second, .val (.ref b5), .val (.int (0 : Int32)), .unset, .unset] [(.int (lcmpW co bu))]))
      refine Wp.step (fun t k => XS.ifYes X155.here hx rfl (pc0 := 104) (pc' := 111) rfl (hb hby at_104) rfl ((if0 _ _).trans (flt (show ¬ ((0 : Int32) < (lcmpW co bu)) from (fun q => hbc ((lw_gt _ _).mp q)))).2.2.2) (by decide) (by decide) k) ?_
      show Wp p e below _ (T155.setTop (mkF m 111 #[.val (.long u0), .second, .val (.long u1), .second, .val (.long u2), .second, .val (.long u3), .second, .val (.long u4), .second, .val (.int u5), .val (.long am), .second, .val (.long pe), .second, .val (.long bu), .second, .val (.long co), .second, .val (.ref b5), .val (.int (0 : Int32)), .unset, .unset] []))
      refine Wp.step (fun t k => XS.iconst X155.here hx rfl (hb hby at_111) k) ?_
      show Wp p e below _ (T155.setTop (mkF m 112 #[.val (.long u0), .second, .val (.long u1), .second, .val (.long u2), .second, .val (.long u3), .second, .val (.long u4), .second, .val (.int u5), .val (.long am), .second, .val (.long pe), .second, .val (.long bu), .second, .val (.long co), .second, .val (.ref b5), .val (.int (0 : Int32)), .unset, .unset] [(.int (0 : Int32))]))
      refine Wp.step (fun t k => XS.istore X155.here hx rfl (hb hby at_112) rfl (l' := #[.val (.long u0), .second, .val (.long u1), .second, .val (.long u2), .second, .val (.long u3), .second, .val (.long u4), .second, .val (.int u5), .val (.long am), .second, .val (.long pe), .second, .val (.long bu), .second, .val (.long co), .second, .val (.ref b5), .val (.int (0 : Int32)), .val (.int (0 : Int32)), .unset]) rfl k) ?_
      show Wp p e below _ (T155.setTop (mkF m 114 #[.val (.long u0), .second, .val (.long u1), .second, .val (.long u2), .second, .val (.long u3), .second, .val (.long u4), .second, .val (.int u5), .val (.long am), .second, .val (.long pe), .second, .val (.long bu), .second, .val (.long co), .second, .val (.ref b5), .val (.int (0 : Int32)), .val (.int (0 : Int32)), .unset] []))
      refine Wp.step (fun t k => XS.iload X155.here hx rfl (hb hby at_114) rfl k) ?_
      show Wp p e below _ (T155.setTop (mkF m 116 #[.val (.long u0), .second, .val (.long u1), .second, .val (.long u2), .second, .val (.long u3), .second, .val (.long u4), .second, .val (.int u5), .val (.long am), .second, .val (.long pe), .second, .val (.long bu), .second, .val (.long co), .second, .val (.ref b5), .val (.int (0 : Int32)), .val (.int (0 : Int32)), .unset] [(.int (0 : Int32))]))
      refine Wp.step (fun t k => XS.iload X155.here hx rfl (hb hby at_116) rfl k) ?_
      show Wp p e below _ (T155.setTop (mkF m 118 #[.val (.long u0), .second, .val (.long u1), .second, .val (.long u2), .second, .val (.long u3), .second, .val (.long u4), .second, .val (.int u5), .val (.long am), .second, .val (.long pe), .second, .val (.long bu), .second, .val (.long co), .second, .val (.ref b5), .val (.int (0 : Int32)), .val (.int (0 : Int32)), .unset] [(.int (0 : Int32)), (.int (0 : Int32))]))
      refine Wp.step (fun t k => XS.icmpYes X155.here hx rfl (pc0 := 118) (pc' := 123) rfl (hb hby at_118) rfl (teq (show (0 : Int32) = (0 : Int32) by decide)).1 (by decide) (by decide) k) ?_
      show Wp p e below _ (T155.setTop (mkF m 123 #[.val (.long u0), .second, .val (.long u1), .second, .val (.long u2), .second, .val (.long u3), .second, .val (.long u4), .second, .val (.int u5), .val (.long am), .second, .val (.long pe), .second, .val (.long bu), .second, .val (.long co), .second, .val (.ref b5), .val (.int (0 : Int32)), .val (.int (0 : Int32)), .unset] []))
      refine Wp.step (fun t k => XS.lload X155.here hx rfl (hb hby at_123) rfl k) ?_
      show Wp p e below _ (T155.setTop (mkF m 125 #[.val (.long u0), .second, .val (.long u1), .second, .val (.long u2), .second, .val (.long u3), .second, .val (.long u4), .second, .val (.int u5), .val (.long am), .second, .val (.long pe), .second, .val (.long bu), .second, .val (.long co), .second, .val (.ref b5), .val (.int (0 : Int32)), .val (.int (0 : Int32)), .unset] [(.long co)]))
      refine Wp.step (fun t k => XS.lconst X155.here hx rfl (hb hby at_125) k) ?_
      show Wp p e below _ (T155.setTop (mkF m 126 #[.val (.long u0), .second, .val (.long u1), .second, .val (.long u2), .second, .val (.long u3), .second, .val (.long u4), .second, .val (.int u5), .val (.long am), .second, .val (.long pe), .second, .val (.long bu), .second, .val (.long co), .second, .val (.ref b5), .val (.int (0 : Int32)), .val (.int (0 : Int32)), .unset] [(.long (1 : Int64)), (.long co)]))
      refine Wp.step (fun t k => XS.lcmp X155.here hx rfl (hb hby at_126) rfl k) ?_
      show Wp p e below _ (T155.setTop (mkF m 127 #[.val (.long u0), .second, .val (.long u1), .second, .val (.long u2), .second, .val (.long u3), .second, .val (.long u4), .second, .val (.int u5), .val (.long am), .second, .val (.long pe), .second, .val (.long bu), .second, .val (.long co), .second, .val (.ref b5), .val (.int (0 : Int32)), .val (.int (0 : Int32)), .unset] [(.int (lcmpW co (1 : Int64)))]))
      by_cases hc158 : (lcmpW co (1 : Int64)) < (0 : Int32)
      · refine Wp.step (fun t k => XS.ifNo X155.here hx rfl (hb hby at_127) rfl ((if0 _ _).trans (tlt hc158).2.1) k) ?_
        show Wp p e below _ (T155.setTop (mkF m 130 #[.val (.long u0), .second, .val (.long u1), .second, .val (.long u2), .second, .val (.long u3), .second, .val (.long u4), .second, .val (.int u5), .val (.long am), .second, .val (.long pe), .second, .val (.long bu), .second, .val (.long co), .second, .val (.ref b5), .val (.int (0 : Int32)), .val (.int (0 : Int32)), .unset] []))
        refine Wp.step (fun t k => XS.iconst X155.here hx rfl (hb hby at_130) k) ?_
        show Wp p e below _ (T155.setTop (mkF m 131 #[.val (.long u0), .second, .val (.long u1), .second, .val (.long u2), .second, .val (.long u3), .second, .val (.long u4), .second, .val (.int u5), .val (.long am), .second, .val (.long pe), .second, .val (.long bu), .second, .val (.long co), .second, .val (.ref b5), .val (.int (0 : Int32)), .val (.int (0 : Int32)), .unset] [(.int (1 : Int32))]))
        refine Wp.retNW X155 hS (own_hk e155 hk) hx (t := .boolean) Bd.returns (by simp) (hb hby at_131) hlk ?_ (by decide) (by decide)
        show Q0 Z u0 u1 u2 u3 u4 u5 a_Uint128_ZERO a_Decision_CONFORMS a_Decision_NEVER h0 n0 (some (.int (nar .boolean (1 : Int32)))) T155.heap _
        rw [e155]
        exact ⟨rfl, N155⟩
      · refine Wp.step (fun t k => XS.ifYes X155.here hx rfl (pc0 := 127) (pc' := 132) rfl (hb hby at_127) rfl ((if0 _ _).trans (flt hc158).2.1) (by decide) (by decide) k) ?_
        show Wp p e below _ (T155.setTop (mkF m 132 #[.val (.long u0), .second, .val (.long u1), .second, .val (.long u2), .second, .val (.long u3), .second, .val (.long u4), .second, .val (.int u5), .val (.long am), .second, .val (.long pe), .second, .val (.long bu), .second, .val (.long co), .second, .val (.ref b5), .val (.int (0 : Int32)), .val (.int (0 : Int32)), .unset] []))
        have hco : ¬ co < 1 := fun q => hc158 ((lw_lt _ _).mpr q)
        refine Wp.step (fun t k => XS.aload X155.here hx rfl (hb hby at_132) rfl rfl k) ?_
        show Wp p e below _ (T155.setTop (mkF m 134 #[.val (.long u0), .second, .val (.long u1), .second, .val (.long u2), .second, .val (.long u3), .second, .val (.long u4), .second, .val (.int u5), .val (.long am), .second, .val (.long pe), .second, .val (.long bu), .second, .val (.long co), .second, .val (.ref b5), .val (.int (0 : Int32)), .val (.int (0 : Int32)), .unset] [(.ref b5)]))
        refine Wp.step (fun t k => XS.lload X155.here hx rfl (hb hby at_134) rfl k) ?_
        show Wp p e below _ (T155.setTop (mkF m 136 #[.val (.long u0), .second, .val (.long u1), .second, .val (.long u2), .second, .val (.long u3), .second, .val (.long u4), .second, .val (.int u5), .val (.long am), .second, .val (.long pe), .second, .val (.long bu), .second, .val (.long co), .second, .val (.ref b5), .val (.int (0 : Int32)), .val (.int (0 : Int32)), .unset] [(.long u4), (.ref b5)]))
        refine Wp.step (fun t k => XS.lload X155.here hx rfl (hb hby at_136) rfl k) ?_
        show Wp p e below _ (T155.setTop (mkF m 138 #[.val (.long u0), .second, .val (.long u1), .second, .val (.long u2), .second, .val (.long u3), .second, .val (.long u4), .second, .val (.int u5), .val (.long am), .second, .val (.long pe), .second, .val (.long bu), .second, .val (.long co), .second, .val (.ref b5), .val (.int (0 : Int32)), .val (.int (0 : Int32)), .unset] [(.long co), (.long u4), (.ref b5)]))
        obtain ⟨cq159, kq159, q159a, q159b, q159c⟩ := isOf hZ e155 o105_0
        obtain ⟨_, _, ⟨T159, L159, k159, n159⟩, -, X159, ⟨Lc159, hQ159, l159, y159, z159⟩, st159⟩ := X155.virtualBack hx (y := (⟨"com/example/gentle_bucket/gentlebucket/Meter", "offer", "(JJ)Z"⟩ : MethodName)) (z := (⟨"com/example/gentle_bucket/gentlebucket/Meter", "offer", "(JJ)Z"⟩ : MethodName)) hown (mvT hZ (hw _ (List.mem_of_getElem? (i := 127) rfl))) (mvT hZ (hw _ (List.mem_of_getElem? (i := 128) rfl))) (notFace_of_selects (args := #[]) (mvT hZ (hw _ (List.mem_of_getElem? (i := 130) rfl)))) (mvT hZ (hw _ (List.mem_of_getElem? (i := 130) rfl))) (mvT hZ (hw _ (List.mem_of_getElem? (i := 129) rfl))) (by decide) (backOf (W := 0) (rm21_f l Z a0 hw [] b5 u4 co (-9223372036854775808 : Int64) b21 b41 r0_85 am pe bu (own_ph bu pe) (bu * pe) a_Uint128_ZERO a_Decision_CONFORMS h105 n0 (Nat.le_trans Z0 K105.1) g_b5 o105_0 o105_1 o105_2 o105_3 o105_4 c117 c121 c122 c123 c118 c119 c120 c124 c125 c126 c106 c107 c108 c109 c110 c111 c112 hco hbc hP hB (own_depth hB hP) (own_ln _)) hZ (hw _ (List.mem_of_getElem? (i := 131) rfl)) (hw _ (List.mem_of_getElem? (i := 7) rfl)) (by decide) (by decide)) q159a q159c (g := (mkF m 138 #[.val (.long u0), .second, .val (.long u1), .second, .val (.long u2), .second, .val (.long u3), .second, .val (.long u4), .second, .val (.int u5), .val (.long am), .second, .val (.long pe), .second, .val (.long bu), .second, .val (.long co), .second, .val (.ref b5), .val (.int (0 : Int32)), .val (.int (0 : Int32)), .unset] [(.long co), (.long u4), (.ref b5)])) rfl (by rw [hml]; rfl) (Steps.refl _) (argsL := [(.long u4), (.long co)]) (rest := []) (lenOf pd_28JJ29Z rfl) rfl (by show 2 * 0 + _ ≤ _; exact Nat.le_of_eq rfl) (hb hby at_138) (fun _ _ => ⟨rfl, e155, (by decide : 9 + 12 ≤ _), (by decide : 69 + 24 ≤ _)⟩)
        dsimp only [Pt.U, Pt.locs, Pt.cells, Pt.slots] at X159 l159 y159 z159 st159 hQ159
        subst l159 y159 z159
        obtain ⟨h159, e159⟩ : ∃ z, T159.heap = z := ⟨_, rfl⟩
        rw [e159] at hQ159
        obtain ⟨rfl, N159q, Kc159⟩ := hQ159
        have N159 := Fr.app N155 N159q
        have hk := Nat.le_trans hk Kc159.1
        have c160 := own_sta_keep c106 Kc159 (allS (own_ns o105_0) all0)
        have c161 := c107.keep Kc159
        have c162 := c108.keep Kc159 (ninS ne_a_Uint128_ZERO_b5 nin0)
        have c163 := c109.keep Kc159 (ninS ne_a_Uint128_ZERO_b5 nin0)
        have c164 := own_sta_keep c110 Kc159 (allS (own_ns o105_0) all0)
        have c165 := c111.keep Kc159
        have c166 := c112.keep Kc159 (ninS ne_a_Decision_CONFORMS_b5 nin0)
        have c167 := own_sta_keep c113 Kc159 (allS (own_ns o105_0) all0)
        have c168 := c114.keep Kc159
        have c169 := c115.keep Kc159 (ninS ne_a_Decision_NEVER_b5 nin0)
        have c170 := o105_0.keep Kc159
        have c171 := c117.keep Kc159
        have c172 := c118.keep Kc159
        have c173 := c119.keep Kc159 (ninS (Ne.symm ne_b5_b41) nin0)
        have c174 := c120.keep Kc159 (ninS (Ne.symm ne_b5_b41) nin0)
        have c175 := c121.keep Kc159 (ninS (Ne.symm ne_b5_b21) nin0)
        have c176 := c122.keep Kc159 (ninS (Ne.symm ne_b5_b21) nin0)
        have c177 := c123.keep Kc159 (ninS (Ne.symm ne_b5_b21) nin0)
        have c178 := c124.keep Kc159
        have c179 := c125.keep Kc159 (ninS (own_ne_cls c178 c170 (by decide)) nin0)
        have c180 := c126.keep Kc159 (ninS (own_ne_cls c178 c170 (by decide)) nin0)
        have K159 := K105.trans Kc159 (allS (Or.inr sz_b5) all0)
        refine Wp.go st159 ?_
        show Wp p e below _ (T159.setTop (mkF m 141 #[.val (.long u0), .second, .val (.long u1), .second, .val (.long u2), .second, .val (.long u3), .second, .val (.long u4), .second, .val (.int u5), .val (.long am), .second, .val (.long pe), .second, .val (.long bu), .second, .val (.long co), .second, .val (.ref b5), .val (.int (0 : Int32)), .val (.int (0 : Int32)), .unset] [(.int (1 : Int32))]))
        refine Wp.step (fun t k => XS.istore X159.here hx rfl (hb hby at_141) rfl (l' := #[.val (.long u0), .second, .val (.long u1), .second, .val (.long u2), .second, .val (.long u3), .second, .val (.long u4), .second, .val (.int u5), .val (.long am), .second, .val (.long pe), .second, .val (.long bu), .second, .val (.long co), .second, .val (.ref b5), .val (.int (0 : Int32)), .val (.int (0 : Int32)), .val (.int (1 : Int32))]) rfl k) ?_
        show Wp p e below _ (T159.setTop (mkF m 143 #[.val (.long u0), .second, .val (.long u1), .second, .val (.long u2), .second, .val (.long u3), .second, .val (.long u4), .second, .val (.int u5), .val (.long am), .second, .val (.long pe), .second, .val (.long bu), .second, .val (.long co), .second, .val (.ref b5), .val (.int (0 : Int32)), .val (.int (0 : Int32)), .val (.int (1 : Int32))] []))
        refine Wp.step (fun t k => XS.iload X159.here hx rfl (hb hby at_143) rfl k) ?_
        show Wp p e below _ (T159.setTop (mkF m 145 #[.val (.long u0), .second, .val (.long u1), .second, .val (.long u2), .second, .val (.long u3), .second, .val (.long u4), .second, .val (.int u5), .val (.long am), .second, .val (.long pe), .second, .val (.long bu), .second, .val (.long co), .second, .val (.ref b5), .val (.int (0 : Int32)), .val (.int (0 : Int32)), .val (.int (1 : Int32))] [(.int (1 : Int32))]))
        refine Wp.step (fun t k => XS.iload X159.here hx rfl (hb hby at_145) rfl k) ?_
        show Wp p e below _ (T159.setTop (mkF m 147 #[.val (.long u0), .second, .val (.long u1), .second, .val (.long u2), .second, .val (.long u3), .second, .val (.long u4), .second, .val (.int u5), .val (.long am), .second, .val (.long pe), .second, .val (.long bu), .second, .val (.long co), .second, .val (.ref b5), .val (.int (0 : Int32)), .val (.int (0 : Int32)), .val (.int (1 : Int32))] [(.int (0 : Int32)), (.int (1 : Int32))]))
        refine Wp.step (fun t k => XS.ifNo X159.here hx rfl (hb hby at_147) rfl ((if0 _ _).trans (teq (show (0 : Int32) = (0 : Int32) by decide)).2) k) ?_
        show Wp p e below _ (T159.setTop (mkF m 150 #[.val (.long u0), .second, .val (.long u1), .second, .val (.long u2), .second, .val (.long u3), .second, .val (.long u4), .second, .val (.int u5), .val (.long am), .second, .val (.long pe), .second, .val (.long bu), .second, .val (.long co), .second, .val (.ref b5), .val (.int (0 : Int32)), .val (.int (0 : Int32)), .val (.int (1 : Int32))] [(.int (1 : Int32))]))
        refine Wp.step (fun t k => XS.iconst X159.here hx rfl (hb hby at_150) k) ?_
        show Wp p e below _ (T159.setTop (mkF m 151 #[.val (.long u0), .second, .val (.long u1), .second, .val (.long u2), .second, .val (.long u3), .second, .val (.long u4), .second, .val (.int u5), .val (.long am), .second, .val (.long pe), .second, .val (.long bu), .second, .val (.long co), .second, .val (.ref b5), .val (.int (0 : Int32)), .val (.int (0 : Int32)), .val (.int (1 : Int32))] [(.int (1 : Int32)), (.int (1 : Int32))]))
        refine Wp.step (fun t k => XS.goto X159.here hx rfl (pc0 := 151) (pc' := 155) rfl (hb hby at_151) (by decide) (by decide) k) ?_
        show Wp p e below _ (T159.setTop (mkF m 155 #[.val (.long u0), .second, .val (.long u1), .second, .val (.long u2), .second, .val (.long u3), .second, .val (.long u4), .second, .val (.int u5), .val (.long am), .second, .val (.long pe), .second, .val (.long bu), .second, .val (.long co), .second, .val (.ref b5), .val (.int (0 : Int32)), .val (.int (0 : Int32)), .val (.int (1 : Int32))] [(.int (1 : Int32)), (.int (1 : Int32))]))
        refine Wp.step (fun t k => XS.icmpNo X159.here hx rfl (hb hby at_155) rfl (teq (show (1 : Int32) = (1 : Int32) by decide)).2 k) ?_
        show Wp p e below _ (T159.setTop (mkF m 158 #[.val (.long u0), .second, .val (.long u1), .second, .val (.long u2), .second, .val (.long u3), .second, .val (.long u4), .second, .val (.int u5), .val (.long am), .second, .val (.long pe), .second, .val (.long bu), .second, .val (.long co), .second, .val (.ref b5), .val (.int (0 : Int32)), .val (.int (0 : Int32)), .val (.int (1 : Int32))] []))
        refine Wp.step (fun t k => XS.iconst X159.here hx rfl (hb hby at_158) k) ?_
        show Wp p e below _ (T159.setTop (mkF m 159 #[.val (.long u0), .second, .val (.long u1), .second, .val (.long u2), .second, .val (.long u3), .second, .val (.long u4), .second, .val (.int u5), .val (.long am), .second, .val (.long pe), .second, .val (.long bu), .second, .val (.long co), .second, .val (.ref b5), .val (.int (0 : Int32)), .val (.int (0 : Int32)), .val (.int (1 : Int32))] [(.int (1 : Int32))]))
        refine Wp.step (fun t k => XS.goto X159.here hx rfl (pc0 := 159) (pc' := 163) rfl (hb hby at_159) (by decide) (by decide) k) ?_
        show Wp p e below _ (T159.setTop (mkF m 163 #[.val (.long u0), .second, .val (.long u1), .second, .val (.long u2), .second, .val (.long u3), .second, .val (.long u4), .second, .val (.int u5), .val (.long am), .second, .val (.long pe), .second, .val (.long bu), .second, .val (.long co), .second, .val (.ref b5), .val (.int (0 : Int32)), .val (.int (0 : Int32)), .val (.int (1 : Int32))] [(.int (1 : Int32))]))
        refine Wp.retNW X159 hS (own_hk e159 hk) hx (t := .boolean) Bd.returns (by simp) (hb hby at_163) hlk ?_ (by decide) (by decide)
        show Q0 Z u0 u1 u2 u3 u4 u5 a_Uint128_ZERO a_Decision_CONFORMS a_Decision_NEVER h0 n0 (some (.int (nar .boolean (1 : Int32)))) T159.heap _
        rw [e159]
        exact ⟨rfl, N159⟩
  by_cases hc183 : (u5 &&& (1 : Int32)) = (0 : Int32)
  · refine Wp.step (fun t k => XS.ifYes X3.here hx rfl (pc0 := 38) (pc' := 57) rfl (hb hby at_38) rfl ((if0 _ _).trans (teq hc183).1) (by decide) (by decide) k) ?_
    show Wp p e below _ (T3.setTop (mkF m 57 #[.val (.long u0), .second, .val (.long u1), .second, .val (.long u2), .second, .val (.long u3), .second, .val (.long u4), .second, .val (.int u5), .val (.long am), .second, .val (.long pe), .second, .val (.long bu), .second, .unset, .unset, .unset, .unset, .unset, .unset] []))
    refine Wp.step (fun t k => XS.lload X3.here hx rfl (hb hby at_57) rfl k) ?_
    show Wp p e below _ (T3.setTop (mkF m 59 #[.val (.long u0), .second, .val (.long u1), .second, .val (.long u2), .second, .val (.long u3), .second, .val (.long u4), .second, .val (.int u5), .val (.long am), .second, .val (.long pe), .second, .val (.long bu), .second, .unset, .unset, .unset, .unset, .unset, .unset] [(.long u3)]))
    exact kont4 u3
  · refine Wp.step (fun t k => XS.ifNo X3.here hx rfl (hb hby at_38) rfl ((if0 _ _).trans (feq hc183).1) k) ?_
    show Wp p e below _ (T3.setTop (mkF m 41 #[.val (.long u0), .second, .val (.long u1), .second, .val (.long u2), .second, .val (.long u3), .second, .val (.long u4), .second, .val (.int u5), .val (.long am), .second, .val (.long pe), .second, .val (.long bu), .second, .unset, .unset, .unset, .unset, .unset, .unset] []))
    refine Wp.step (fun t k => XS.lload X3.here hx rfl (hb hby at_41) rfl k) ?_
    show Wp p e below _ (T3.setTop (mkF m 43 #[.val (.long u0), .second, .val (.long u1), .second, .val (.long u2), .second, .val (.long u3), .second, .val (.long u4), .second, .val (.int u5), .val (.long am), .second, .val (.long pe), .second, .val (.long bu), .second, .unset, .unset, .unset, .unset, .unset, .unset] [(.long bu)]))
    refine Wp.step (fun t k => XS.lload X3.here hx rfl (hb hby at_43) rfl k) ?_
    show Wp p e below _ (T3.setTop (mkF m 45 #[.val (.long u0), .second, .val (.long u1), .second, .val (.long u2), .second, .val (.long u3), .second, .val (.long u4), .second, .val (.int u5), .val (.long am), .second, .val (.long pe), .second, .val (.long bu), .second, .unset, .unset, .unset, .unset, .unset, .unset] [(.long u3), (.long bu)]))
    refine Wp.step (X3.ldc2Long hx hown (mvT hZ (hw _ (List.mem_of_getElem? (i := 239) rfl))) (g := (mkF m 45 #[.val (.long u0), .second, .val (.long u1), .second, .val (.long u2), .second, .val (.long u3), .second, .val (.long u4), .second, .val (.int u5), .val (.long am), .second, .val (.long pe), .second, .val (.long bu), .second, .unset, .unset, .unset, .unset, .unset, .unset] [(.long u3), (.long bu)])) rfl (hb hby at_45)) ?_
    show Wp p e below _ (T3.setTop (mkF m 48 #[.val (.long u0), .second, .val (.long u1), .second, .val (.long u2), .second, .val (.long u3), .second, .val (.long u4), .second, .val (.int u5), .val (.long am), .second, .val (.long pe), .second, .val (.long bu), .second, .unset, .unset, .unset, .unset, .unset, .unset] [(.long (3 : Int64)), (.long u3), (.long bu)]))
    refine Wp.step (fun t k => XS.land X3.here hx rfl (hb hby at_48) rfl k) ?_
    show Wp p e below _ (T3.setTop (mkF m 49 #[.val (.long u0), .second, .val (.long u1), .second, .val (.long u2), .second, .val (.long u3), .second, .val (.long u4), .second, .val (.int u5), .val (.long am), .second, .val (.long pe), .second, .val (.long bu), .second, .unset, .unset, .unset, .unset, .unset, .unset] [(.long (u3 &&& (3 : Int64))), (.long bu)]))
    refine Wp.step (fun t k => XS.ladd X3.here hx rfl (hb hby at_49) rfl k) ?_
    show Wp p e below _ (T3.setTop (mkF m 50 #[.val (.long u0), .second, .val (.long u1), .second, .val (.long u2), .second, .val (.long u3), .second, .val (.long u4), .second, .val (.int u5), .val (.long am), .second, .val (.long pe), .second, .val (.long bu), .second, .unset, .unset, .unset, .unset, .unset, .unset] [(.long (bu + (u3 &&& (3 : Int64))))]))
    refine Wp.step (X3.ldc2Long hx hown (mvT hZ (hw _ (List.mem_of_getElem? (i := 240) rfl))) (g := (mkF m 50 #[.val (.long u0), .second, .val (.long u1), .second, .val (.long u2), .second, .val (.long u3), .second, .val (.long u4), .second, .val (.int u5), .val (.long am), .second, .val (.long pe), .second, .val (.long bu), .second, .unset, .unset, .unset, .unset, .unset, .unset] [(.long (bu + (u3 &&& (3 : Int64))))])) rfl (hb hby at_50)) ?_
    show Wp p e below _ (T3.setTop (mkF m 53 #[.val (.long u0), .second, .val (.long u1), .second, .val (.long u2), .second, .val (.long u3), .second, .val (.long u4), .second, .val (.int u5), .val (.long am), .second, .val (.long pe), .second, .val (.long bu), .second, .unset, .unset, .unset, .unset, .unset, .unset] [(.long (2 : Int64)), (.long (bu + (u3 &&& (3 : Int64))))]))
    refine Wp.step (fun t k => XS.lsub X3.here hx rfl (hb hby at_53) rfl k) ?_
    show Wp p e below _ (T3.setTop (mkF m 54 #[.val (.long u0), .second, .val (.long u1), .second, .val (.long u2), .second, .val (.long u3), .second, .val (.long u4), .second, .val (.int u5), .val (.long am), .second, .val (.long pe), .second, .val (.long bu), .second, .unset, .unset, .unset, .unset, .unset, .unset] [(.long ((bu + (u3 &&& (3 : Int64))) - (2 : Int64)))]))
    refine Wp.step (fun t k => XS.goto X3.here hx rfl (pc0 := 54) (pc' := 59) rfl (hb hby at_54) (by decide) (by decide) k) ?_
    show Wp p e below _ (T3.setTop (mkF m 59 #[.val (.long u0), .second, .val (.long u1), .second, .val (.long u2), .second, .val (.long u3), .second, .val (.long u4), .second, .val (.int u5), .val (.long am), .second, .val (.long pe), .second, .val (.long bu), .second, .unset, .unset, .unset, .unset, .unset, .unset] [(.long ((bu + (u3 &&& (3 : Int64))) - (2 : Int64)))]))
    exact kont4 ((bu + (u3 &&& (3 : Int64))) - (2 : Int64))
set_option maxRecDepth 65536 in
set_option maxHeartbeats 40000000 in
theorem comes_1 {Post : Tables → Env → Array Value → State → Outcome → State → Prop} (hpost : ∀ tb e args s v u, (limb_1_1.after args s (.returned v) u = true ∧ limb_1_2.after args s (.returned v) u = true ∧ True) → ReturnedEndW s (.returned v) u (Jvm.fieldLocs frame_1_writes args s ++ Jvm.arrayLocs frame_1_arrays args s ++ Jvm.staticLocs frame_1_statics s) 48 2240 → Post tb e args s (.returned v) u) :
    ArmFor flags0 classFile x code maxLocals ret World_1 tables_1 room_1 Calls_1 rest_1 Pre_1 Post := by
  intro l hfl _ _ p e ha hc hk s m args below hf hA hF happ hP
  obtain ⟨hcalls, hrest, hpre⟩ := hP
  obtain ⟨-, -, -, hnamed, -, -, -, hat⟩ := (Spec.applies_iff hf).mp happ
  obtain ⟨hg, hn⟩ := and_e (Cond.before_iff.mp (show (Jvm.Cond.and given_1 narrow_1).before args s = true from hpre))
  obtain ⟨hcnt, hr0⟩ := and_e hg
  obtain ⟨hi0, hr1⟩ := and_e hr0
  obtain ⟨hi1, hr2⟩ := and_e hr1
  obtain ⟨hi2, hr3⟩ := and_e hr2
  obtain ⟨hi3, hr4⟩ := and_e hr3
  obtain ⟨hi4, hi5⟩ := and_e hr4
  obtain ⟨w0, w1, w2, w3, w4, w5, rfl⟩ : ∃ w0 w1 w2 w3 w4 w5 : Value, args = #[w0, w1, w2, w3, w4, w5] := by
    have hs : args.size = 6 := by simpa [Cond.value, given_1] using hcnt
    obtain ⟨L⟩ := args
    match L, hs with
    | [w0, w1, w2, w3, w4, w5], _ => exact ⟨w0, w1, w2, w3, w4, w5, rfl⟩
  have hw := fun d (hd : d ∈ tables_1) => atoms_spec (ws := Jvm.Cond.code x code maxLocals ret :: tables_1) hat d (List.mem_cons_of_mem _ hd)
  have hfit : Fit s := fun {y c} hc i hi => by
    obtain ⟨ha, rfl⟩ := Array.getElem?_eq_some_iff.mp hc
    have q := List.all_eq_true.mp ((Array.all_eq_true_iff_forall_mem.mp hF) _ (Array.getElem_mem ha)) i (List.mem_range.mpr hi)
    simpa [Array.getElem?_eq_getElem hi] using q
  obtain ⟨i0, ei0⟩ := isL_v hi0
  obtain rfl : w0 = (.long i0) := Option.some.inj ei0
  obtain ⟨i1, ei1⟩ := isL_v hi1
  obtain rfl : w1 = (.long i1) := Option.some.inj ei1
  obtain ⟨i2, ei2⟩ := isL_v hi2
  obtain rfl : w2 = (.long i2) := Option.some.inj ei2
  obtain ⟨i3, ei3⟩ := isL_v hi3
  obtain rfl : w3 = (.long i3) := Option.some.inj ei3
  obtain ⟨i4, ei4⟩ := isL_v hi4
  obtain rfl : w4 = (.long i4) := Option.some.inj ei4
  obtain ⟨i5, ei5⟩ := is_v hi5
  obtain rfl : w5 = (.int i5) := Option.some.inj ei5
  obtain ⟨nn0, nr0⟩ := and_e hn
  obtain ⟨a_Uint128_ZERO, ev_a_Uint128_ZERO⟩ := exa_v nn0
  have E_a_Uint128_ZERO := Exa.start ev_a_Uint128_ZERO nn0
  have S_a_Uint128_ZERO := Sta.start ev_a_Uint128_ZERO (Or.inr ⟨(hw _ (List.mem_of_getElem? (i := 54) rfl)), (hw _ (List.mem_of_getElem? (i := 190) rfl))⟩)
  obtain ⟨nn1, nr1⟩ := and_e nr0
  have F_high_a_Uint128_ZERO := own_fldJ ev_a_Uint128_ZERO nn1
  obtain ⟨nn2, nr2⟩ := and_e nr1
  have F_low_a_Uint128_ZERO := own_fldJ ev_a_Uint128_ZERO nn2
  obtain ⟨nn3, nr3⟩ := and_e nr2
  obtain ⟨a_Decision_CONFORMS, ev_a_Decision_CONFORMS⟩ := exa_v nn3
  have E_a_Decision_CONFORMS := Exa.start ev_a_Decision_CONFORMS nn3
  have S_a_Decision_CONFORMS := Sta.start ev_a_Decision_CONFORMS (Or.inr ⟨(hw _ (List.mem_of_getElem? (i := 224) rfl)), (hw _ (List.mem_of_getElem? (i := 225) rfl))⟩)
  obtain ⟨nn4, nr4⟩ := and_e nr3
  have F_waitNanos_a_Decision_CONFORMS := own_fldJ ev_a_Decision_CONFORMS nn4
  obtain ⟨nn5, nr5⟩ := and_e nr4
  obtain ⟨a_Decision_NEVER, ev_a_Decision_NEVER⟩ := exa_v nn5
  have E_a_Decision_NEVER := Exa.start ev_a_Decision_NEVER nn5
  have S_a_Decision_NEVER := Sta.start ev_a_Decision_NEVER (Or.inr ⟨(hw _ (List.mem_of_getElem? (i := 224) rfl)), (hw _ (List.mem_of_getElem? (i := 238) rfl))⟩)
  have F_waitNanos_a_Decision_NEVER := own_fldJ ev_a_Decision_NEVER nr5
  obtain ⟨n, o, h1, h2, h3, _, L, rfl, ⟨rfl, N⟩, hq⟩ := rm0 l s _ hw tables_1 i0 i1 i2 i3 i4 i5 a_Uint128_ZERO a_Decision_CONFORMS a_Decision_NEVER s.heap s.heap.size (Nat.le_refl _) S_a_Uint128_ZERO E_a_Uint128_ZERO F_high_a_Uint128_ZERO F_low_a_Uint128_ZERO S_a_Decision_CONFORMS E_a_Decision_CONFORMS F_waitNanos_a_Decision_CONFORMS S_a_Decision_NEVER E_a_Decision_NEVER F_waitNanos_a_Decision_NEVER p e ha hc hk s m _ below hf ((Spec.applies_iff_loose hf).mp happ).1 ⟨rfl, State.Warmed39.refl s, rfl⟩ trivial
  refine ⟨n, _, h1, h2, h3, hpost _ _ _ _ _ _ ⟨Cond.after_iff.mpr rfl, Cond.after_iff.mpr (eq_i res_at (Term.int_eval (1)) rfl), trivial⟩ ⟨hq.1, hq.2.1, hq.2.2.1, (hq.2.2.2.sift fun y hy => Or.inr (N y hy)).mono (by decide) (by decide)⟩⟩
theorem main_1_1 : Claimed_1_1 := comes_1 fun _ _ _ _ _ _ h hF => ⟨h.1, hF⟩
theorem main_1_2 : Claimed_1_2 := comes_1 fun _ _ _ _ _ _ h hF => ⟨h.2.1, hF⟩
end Jvm.Pilot.@@N@@
namespace Jvm.Pilot.@@N@@
open Jvm Jvm.ClassFile Sem Op Lib Jvm.Free Jvm.Stand Jvm.Pilot.@@N@@.Jvm.D
/-! MADE BY PROGRAM (witnessworld.py) out of the Statement's table words and the real class files: 24 classes; the members and pool entries that the words name. The judged class is class 1, her method 1. -/
namespace start1
open Jvm.ClassFile
def u (s : String) : CpInfo := .utf8 (stringToUtf16 s)
/-- a pool by its gaps: so many unusable entries, then the entry; so many at the end -/
def gap : Nat → List CpInfo → List CpInfo
  | 0, r => r
  | n + 1, r => .unusable :: gap n r
def poolList (es : List (Nat × CpInfo)) (last : Nat) : List CpInfo := es.foldr (fun e r => gap e.1 (e.2 :: r)) (gap last [])
def pool (es : List (Nat × CpInfo)) (last : Nat) : Array CpInfo := ⟨poolList es last⟩
def fileOf (pool : Array CpInfo) (this : Nat) (attrs : Array Attribute := #[]) (ms : Array MethodInfo := #[]) (fl : Nat := 33) (sup : Nat := 0) (ifs : Array Nat := #[]) (fds : Array FieldInfo := #[]) : ClassFile where
  minorVersion := 0
  majorVersion := 65
  constantPool := pool
  accessFlags := fl
  thisClass := this
  superClass := sup
  interfaces := ifs
  fields := fds
  methods := ms
  attributes := attrs
def plain (name : String) (sup : Option ClassId) : Class where
  name := name
  kind := .ordinary
  loader := none
  accessFlags := 33
  super := sup
  interfaces := #[]
  cf := none
  fields := #[]
  methods := #[]
  instanceTypes := #[]
  staticTypes := #[]
  resolved := #[]
  callSites := []
  init := .initialized
  statics := none
  mirror := none

def pool0 : Array CpInfo := pool [(5, u "<init>"), (0, u "()V"), (1, .class_ 10), (1, u "java/lang/Object")] 113

def k0c0 : Code := { maxStack := 0, maxLocals := 1, code := object_method_1_code, exceptionTable := #[], attributes := #[] }
def k0m0 : Method := { name := "<init>", desc := "()V", sig := { parameters := [], returnType := none }, accessFlags := 1, code := some k0c0 }
/-- java/lang/Object -/
def k0 : Class := { plain "java/lang/Object" none with
  accessFlags := 33
  interfaces := #[]
  cf := some (fileOf pool0 8 #[] #[{ accessFlags := 1, nameIndex := 5, descriptorIndex := 6, attributes := #[] }] 33 0 #[] #[])
  fields := #[]
  methods := #[k0m0]
  instanceTypes := #[]
  staticTypes := #[]
  resolved := Array.replicate 124 none
  statics := none }

def pool1 : Array CpInfo := pool [(2, .class_ 4), (1, u "java/lang/Object"), (0, u "<init>"), (0, u "()V"), (2, .long 9223372036854775807), (1, .methodref 12 13), (0, .class_ 14), (0, .nameAndType 15 16), (0, u "java/lang/Math"), (0, u "max"), (0, u "(JJ)J"), (0, .long 3), (1, .long 2), (1, .class_ 22), (0, u "com/example/gentle_bucket/gentlebucket/Meter"), (0, .class_ 24), (0, u "com/example/gentle_bucket/gentlebucket/Contract"), (0, .class_ 26), (0, u "com/example/gentle_bucket/gentlebucket/Rate"), (0, .methodref 25 28), (0, .nameAndType 5 29), (0, u "(JJ)V"), (0, .methodref 23 31), (0, .nameAndType 5 32), (0, u "(Lcom/example/gentle_bucket/gentlebucket/Rate;J)V"), (0, .methodref 21 34), (0, .nameAndType 5 35), (0, u "(Lcom/example/gentle_bucket/gentlebucket/Contract;)V"), (0, .methodref 21 37), (0, .nameAndType 38 39), (0, u "neverFits"), (0, u "(J)Z"), (0, .methodref 21 41), (0, .nameAndType 42 43), (0, u "offer"), (0, u "(JJ)Z"), (0, .class_ 45), (0, u "com/example/gentle_bucket/gentlebucket/MeterNeverFitsPinLaw"), (2, u "law"), (0, u "(JJJJJI)Z")] 3

def k1m0 : Method := { name := "<init>", desc := "()V", sig := { parameters := [], returnType := none }, accessFlags := 2, code := none }
def k1c1 : Code := { maxStack := 10, maxLocals := 23, code := code, exceptionTable := #[], attributes := #[] }
def k1m1 : Method := { name := "law", desc := "(JJJJJI)Z", sig := { parameters := [.long, .long, .long, .long, .long, .int], returnType := some .boolean }, accessFlags := 9, code := some k1c1 }
/-- com/example/gentle_bucket/gentlebucket/MeterNeverFitsPinLaw -/
def k1 : Class := { plain "com/example/gentle_bucket/gentlebucket/MeterNeverFitsPinLaw" (some 0) with
  accessFlags := 49
  interfaces := #[]
  cf := some (fileOf pool1 44 #[] #[{ accessFlags := 2, nameIndex := 5, descriptorIndex := 6, attributes := #[] }, { accessFlags := 9, nameIndex := 48, descriptorIndex := 49, attributes := #[] }] 49 2 #[] #[])
  fields := #[]
  methods := #[k1m0, k1m1]
  instanceTypes := #[]
  staticTypes := #[]
  resolved := Array.replicate 53 none
  statics := none }

def pool2 : Array CpInfo := pool [(1, .class_ 2), (0, u "java/lang/Math"), (1, .class_ 6), (1, u "java/lang/Object"), (0, u "<init>"), (0, u "()V"), (89, .class_ 100), (1, u "java/lang/Math$RandomNumberGeneratorHolder"), (20, u "(JJ)J"), (16, .long 4294967295), (3, u "multiplyHigh"), (29, u "negativeZeroFloatBits"), (0, u "J"), (2, u "negativeZeroDoubleBits"), (21, u "max"), (46, u "$assertionsDisabled"), (0, u "Z"), (91, u "twoToTheDoubleScaleDown"), (0, u "D"), (4, u "twoToTheDoubleScaleUp"), (9, u "E"), (3, u "PI"), (2, u "TAU"), (2, u "DEGREES_TO_RADIANS"), (0, u "RADIANS_TO_DEGREES")] 94

def k2m0 : Method := { name := "<init>", desc := "()V", sig := { parameters := [], returnType := none }, accessFlags := 2, code := none }
def k2c1 : Code := { maxStack := 6, maxLocals := 20, code := jdk_29_method_45_code, exceptionTable := #[], attributes := #[] }
def k2m1 : Method := { name := "multiplyHigh", desc := "(JJ)J", sig := { parameters := [.long, .long], returnType := some .long }, accessFlags := 9, code := some k2c1 }
def k2c2 : Code := { maxStack := 4, maxLocals := 4, code := jdk_29_method_66_code, exceptionTable := #[], attributes := #[] }
def k2m2 : Method := { name := "max", desc := "(JJ)J", sig := { parameters := [.long, .long], returnType := some .long }, accessFlags := 9, code := some k2c2 }
/-- java/lang/Math -/
def k2 : Class := { plain "java/lang/Math" (some 0) with
  accessFlags := 49
  interfaces := #[]
  cf := some (fileOf pool2 1 #[.nestMembers #[98]] #[{ accessFlags := 2, nameIndex := 7, descriptorIndex := 8, attributes := #[] }, { accessFlags := 9, nameIndex := 142, descriptorIndex := 121, attributes := #[] }, { accessFlags := 9, nameIndex := 198, descriptorIndex := 121, attributes := #[] }] 49 4 #[] #[{ accessFlags := 25, nameIndex := 354, descriptorIndex := 339, attributes := #[] }, { accessFlags := 25, nameIndex := 358, descriptorIndex := 339, attributes := #[] }, { accessFlags := 25, nameIndex := 361, descriptorIndex := 339, attributes := #[] }, { accessFlags := 26, nameIndex := 364, descriptorIndex := 339, attributes := #[] }, { accessFlags := 26, nameIndex := 365, descriptorIndex := 339, attributes := #[] }, { accessFlags := 26, nameIndex := 172, descriptorIndex := 173, attributes := #[] }, { accessFlags := 26, nameIndex := 176, descriptorIndex := 173, attributes := #[] }, { accessFlags := 8, nameIndex := 344, descriptorIndex := 339, attributes := #[] }, { accessFlags := 8, nameIndex := 338, descriptorIndex := 339, attributes := #[] }, { accessFlags := 4120, nameIndex := 245, descriptorIndex := 246, attributes := #[] }])
  fields := #[{ name := "E", type := .double, accessFlags := 25, slot := 0, constantValue := 0 }, { name := "PI", type := .double, accessFlags := 25, slot := 1, constantValue := 0 }, { name := "TAU", type := .double, accessFlags := 25, slot := 2, constantValue := 0 }, { name := "DEGREES_TO_RADIANS", type := .double, accessFlags := 26, slot := 3, constantValue := 0 }, { name := "RADIANS_TO_DEGREES", type := .double, accessFlags := 26, slot := 4, constantValue := 0 }, { name := "negativeZeroFloatBits", type := .long, accessFlags := 26, slot := 5, constantValue := 0 }, { name := "negativeZeroDoubleBits", type := .long, accessFlags := 26, slot := 6, constantValue := 0 }, { name := "twoToTheDoubleScaleUp", type := .double, accessFlags := 8, slot := 7, constantValue := 0 }, { name := "twoToTheDoubleScaleDown", type := .double, accessFlags := 8, slot := 8, constantValue := 0 }, { name := "$assertionsDisabled", type := .boolean, accessFlags := 4120, slot := 9, constantValue := 0 }]
  methods := #[k2m0, k2m1, k2m2]
  instanceTypes := #[]
  staticTypes := #[.double, .double, .double, .double, .double, .long, .long, .double, .double, .boolean]
  resolved := Array.replicate 460 none
  statics := none }

def pool3 : Array CpInfo := pool [(1, .methodref 2 3), (0, .class_ 4), (0, .nameAndType 5 6), (0, u "java/lang/Object"), (0, u "<init>"), (0, u "()V"), (36, .methodref 44 45), (0, .class_ 46), (0, .nameAndType 47 48), (0, u "com/example/gentle_bucket/gentlebucket/Bucket"), (0, u "waitNanos"), (0, u "(JJ)J"), (0, .methodref 44 50), (0, .nameAndType 51 52), (0, u "add"), (0, u "(JJ)V"), (0, .fieldref 54 55), (0, .class_ 56), (0, .nameAndType 57 58), (0, u "com/example/gentle_bucket/gentlebucket/Decision"), (0, u "CONFORMS"), (0, u "Lcom/example/gentle_bucket/gentlebucket/Decision;"), (0, .methodref 44 60), (0, .nameAndType 61 62), (0, u "neverFits"), (0, u "(J)Z"), (0, .fieldref 54 64), (0, .nameAndType 65 58), (0, u "NEVER"), (33, u "decide"), (0, u "(JJ)Lcom/example/gentle_bucket/gentlebucket/Decision;")] 7

def k3c0 : Code := { maxStack := 1, maxLocals := 1, code := prog_2_method_1_code, exceptionTable := #[], attributes := #[] }
def k3m0 : Method := { name := "<init>", desc := "()V", sig := { parameters := [], returnType := none }, accessFlags := 0, code := some k3c0 }
def k3c1 : Code := { maxStack := 5, maxLocals := 8, code := prog_2_method_3_code, exceptionTable := #[], attributes := #[] }
def k3m1 : Method := { name := "decide", desc := "(JJ)Lcom/example/gentle_bucket/gentlebucket/Decision;", sig := { parameters := [.long, .long], returnType := some (.object "com/example/gentle_bucket/gentlebucket/Decision") }, accessFlags := 0, code := some k3c1 }
def k3m2 : Method := { name := "waitNanos", desc := "(JJ)J", sig := { parameters := [.long, .long], returnType := some .long }, accessFlags := 1024, code := none }
def k3m3 : Method := { name := "neverFits", desc := "(J)Z", sig := { parameters := [.long], returnType := some .boolean }, accessFlags := 1024, code := none }
def k3m4 : Method := { name := "add", desc := "(JJ)V", sig := { parameters := [.long, .long], returnType := none }, accessFlags := 1024, code := none }
/-- com/example/gentle_bucket/gentlebucket/Bucket -/
def k3 : Class := { plain "com/example/gentle_bucket/gentlebucket/Bucket" (some 0) with
  accessFlags := 1056
  interfaces := #[]
  cf := some (fileOf pool3 44 #[] #[{ accessFlags := 0, nameIndex := 5, descriptorIndex := 6, attributes := #[] }, { accessFlags := 0, nameIndex := 99, descriptorIndex := 100, attributes := #[] }, { accessFlags := 1024, nameIndex := 47, descriptorIndex := 48, attributes := #[] }, { accessFlags := 1024, nameIndex := 61, descriptorIndex := 62, attributes := #[] }, { accessFlags := 1024, nameIndex := 51, descriptorIndex := 52, attributes := #[] }] 1056 2 #[] #[])
  fields := #[]
  methods := #[k3m0, k3m1, k3m2, k3m3, k3m4]
  instanceTypes := #[]
  staticTypes := #[]
  resolved := Array.replicate 108 none
  statics := none }

def pool4 : Array CpInfo := pool [(1, .class_ 2), (0, u "com/example/gentle_bucket/gentlebucket/Contract"), (2, u "<init>"), (2, .class_ 10), (1, u "com/example/gentle_bucket/gentlebucket/Meter"), (0, u "(Lcom/example/gentle_bucket/gentlebucket/Contract;)V"), (0, .methodref 13 14), (0, .class_ 15), (0, .nameAndType 5 16), (0, u "com/example/gentle_bucket/gentlebucket/Bucket"), (0, u "()V"), (2, .long 9223372036854775808), (1, .fieldref 8 22), (0, .nameAndType 23 24), (0, u "levelNanos"), (0, u "J"), (0, .string 26), (0, u "contract"), (0, .methodref 28 29), (0, .class_ 30), (0, .nameAndType 31 32), (0, u "java/util/Objects"), (0, u "requireNonNull"), (0, u "(Ljava/lang/Object;Ljava/lang/String;)Ljava/lang/Object;"), (0, .fieldref 8 34), (0, .nameAndType 26 35), (0, u "Lcom/example/gentle_bucket/gentlebucket/Contract;"), (0, .methodref 8 37), (0, .nameAndType 38 39), (0, u "decide"), (0, u "(JJ)Lcom/example/gentle_bucket/gentlebucket/Decision;"), (0, .methodref 41 42), (0, .class_ 43), (0, .nameAndType 44 45), (0, u "com/example/gentle_bucket/gentlebucket/Decision"), (0, u "conforms"), (0, u "()Z"), (0, .methodref 47 48), (0, .class_ 49), (0, .nameAndType 50 51), (0, u "com/example/gentle_bucket/gentlebucket/Asks"), (0, u "checkCost"), (0, u "(J)V"), (0, .methodref 8 53), (0, .nameAndType 54 51), (0, u "drainUntil"), (0, .methodref 8 56), (0, .nameAndType 57 58), (0, u "neverFits"), (0, u "(J)Z"), (0, .long 9223372036854775807), (1, .methodref 8 62), (0, .nameAndType 63 64), (0, u "level"), (0, u "()Lcom/example/gentle_bucket/gentlebucket/Uint128;"), (0, .methodref 1 66), (0, .nameAndType 67 68), (0, u "rate"), (0, u "()Lcom/example/gentle_bucket/gentlebucket/Rate;"), (0, .methodref 70 71), (0, .class_ 72), (0, .nameAndType 73 74), (0, u "com/example/gentle_bucket/gentlebucket/Rate"), (0, u "periodNanos"), (0, u "()J"), (0, .methodref 76 77), (0, .class_ 78), (0, .nameAndType 79 80), (0, u "com/example/gentle_bucket/gentlebucket/Uint128"), (0, u "product"), (0, u "(JJ)Lcom/example/gentle_bucket/gentlebucket/Uint128;"), (0, .methodref 76 82), (0, .nameAndType 83 84), (0, u "plus"), (0, u "(Lcom/example/gentle_bucket/gentlebucket/Uint128;)Lcom/example/gentle_bucket/gentlebucket/Uint128;"), (0, .methodref 1 86), (0, .nameAndType 87 64), (0, u "depth"), (0, .methodref 76 89), (0, .nameAndType 90 91), (0, u "compareTo"), (0, u "(Lcom/example/gentle_bucket/gentlebucket/Uint128;)I"), (0, .fieldref 76 93), (0, .nameAndType 94 95), (0, u "ZERO"), (0, u "Lcom/example/gentle_bucket/gentlebucket/Uint128;"), (3, .methodref 70 100), (0, .nameAndType 101 74), (0, u "amount"), (3, u "(J)Lcom/example/gentle_bucket/gentlebucket/Uint128;"), (0, .methodref 76 107), (0, .nameAndType 108 74), (0, u "toLongSaturated"), (0, .methodref 1 110), (0, .nameAndType 111 74), (0, u "burst"), (0, .methodref 8 113), (0, .nameAndType 114 105), (0, u "levelAt"), (0, .methodref 8 116), (0, .nameAndType 117 118), (0, u "setLevel"), (0, u "(Lcom/example/gentle_bucket/gentlebucket/Uint128;)V"), (0, .fieldref 8 120), (0, .nameAndType 121 24), (0, u "levelHigh"), (0, .fieldref 8 123), (0, .nameAndType 124 24), (0, u "levelLow"), (0, .methodref 76 126), (0, .nameAndType 127 80), (0, u "of"), (0, .methodref 76 129), (0, .nameAndType 130 74), (0, u "high"), (0, .methodref 76 132), (0, .nameAndType 133 74), (0, u "low"), (6, u "offer"), (0, u "(JJ)Z"), (0, u "waitNanos"), (0, u "(JJ)J"), (2, u "add"), (0, u "(JJ)V")] 3

def k4c0 : Code := { maxStack := 3, maxLocals := 2, code := prog_12_method_2_code, exceptionTable := #[], attributes := #[] }
def k4m0 : Method := { name := "<init>", desc := "(Lcom/example/gentle_bucket/gentlebucket/Contract;)V", sig := { parameters := [(.object "com/example/gentle_bucket/gentlebucket/Contract")], returnType := none }, accessFlags := 1, code := some k4c0 }
def k4c1 : Code := { maxStack := 5, maxLocals := 5, code := prog_12_method_3_code, exceptionTable := #[], attributes := #[] }
def k4m1 : Method := { name := "offer", desc := "(JJ)Z", sig := { parameters := [.long, .long], returnType := some .boolean }, accessFlags := 1, code := some k4c1 }
def k4c2 : Code := { maxStack := 7, maxLocals := 9, code := prog_12_method_4_code, exceptionTable := #[], attributes := #[] }
def k4m2 : Method := { name := "waitNanos", desc := "(JJ)J", sig := { parameters := [.long, .long], returnType := some .long }, accessFlags := 0, code := some k4c2 }
def k4c3 : Code := { maxStack := 4, maxLocals := 3, code := prog_12_method_5_code, exceptionTable := #[], attributes := #[] }
def k4m3 : Method := { name := "neverFits", desc := "(J)Z", sig := { parameters := [.long], returnType := some .boolean }, accessFlags := 0, code := some k4c3 }
def k4c4 : Code := { maxStack := 6, maxLocals := 5, code := prog_12_method_8_code, exceptionTable := #[], attributes := #[] }
def k4m4 : Method := { name := "add", desc := "(JJ)V", sig := { parameters := [.long, .long], returnType := none }, accessFlags := 0, code := some k4c4 }
def k4c5 : Code := { maxStack := 4, maxLocals := 3, code := prog_12_method_9_code, exceptionTable := #[], attributes := #[] }
def k4m5 : Method := { name := "drainUntil", desc := "(J)V", sig := { parameters := [.long], returnType := none }, accessFlags := 2, code := some k4c5 }
def k4c6 : Code := { maxStack := 6, maxLocals := 5, code := prog_12_method_10_code, exceptionTable := #[], attributes := #[] }
def k4m6 : Method := { name := "levelAt", desc := "(J)Lcom/example/gentle_bucket/gentlebucket/Uint128;", sig := { parameters := [.long], returnType := some (.object "com/example/gentle_bucket/gentlebucket/Uint128") }, accessFlags := 2, code := some k4c6 }
def k4c7 : Code := { maxStack := 4, maxLocals := 1, code := prog_12_method_11_code, exceptionTable := #[], attributes := #[] }
def k4m7 : Method := { name := "level", desc := "()Lcom/example/gentle_bucket/gentlebucket/Uint128;", sig := { parameters := [], returnType := some (.object "com/example/gentle_bucket/gentlebucket/Uint128") }, accessFlags := 2, code := some k4c7 }
def k4c8 : Code := { maxStack := 3, maxLocals := 2, code := prog_12_method_12_code, exceptionTable := #[], attributes := #[] }
def k4m8 : Method := { name := "setLevel", desc := "(Lcom/example/gentle_bucket/gentlebucket/Uint128;)V", sig := { parameters := [(.object "com/example/gentle_bucket/gentlebucket/Uint128")], returnType := none }, accessFlags := 2, code := some k4c8 }
/-- com/example/gentle_bucket/gentlebucket/Meter -/
def k4 : Class := { plain "com/example/gentle_bucket/gentlebucket/Meter" (some 3) with
  accessFlags := 33
  interfaces := #[]
  cf := some (fileOf pool4 8 #[] #[{ accessFlags := 1, nameIndex := 5, descriptorIndex := 11, attributes := #[] }, { accessFlags := 1, nameIndex := 140, descriptorIndex := 141, attributes := #[] }, { accessFlags := 0, nameIndex := 142, descriptorIndex := 143, attributes := #[] }, { accessFlags := 0, nameIndex := 57, descriptorIndex := 58, attributes := #[] }, { accessFlags := 0, nameIndex := 146, descriptorIndex := 147, attributes := #[] }, { accessFlags := 2, nameIndex := 54, descriptorIndex := 51, attributes := #[] }, { accessFlags := 2, nameIndex := 114, descriptorIndex := 105, attributes := #[] }, { accessFlags := 2, nameIndex := 63, descriptorIndex := 64, attributes := #[] }, { accessFlags := 2, nameIndex := 117, descriptorIndex := 118, attributes := #[] }] 33 13 #[] #[{ accessFlags := 18, nameIndex := 26, descriptorIndex := 35, attributes := #[] }, { accessFlags := 2, nameIndex := 121, descriptorIndex := 24, attributes := #[] }, { accessFlags := 2, nameIndex := 124, descriptorIndex := 24, attributes := #[] }, { accessFlags := 2, nameIndex := 23, descriptorIndex := 24, attributes := #[] }])
  fields := #[{ name := "contract", type := (.object "com/example/gentle_bucket/gentlebucket/Contract"), accessFlags := 18, slot := 0, constantValue := 0 }, { name := "levelHigh", type := .long, accessFlags := 2, slot := 1, constantValue := 0 }, { name := "levelLow", type := .long, accessFlags := 2, slot := 2, constantValue := 0 }, { name := "levelNanos", type := .long, accessFlags := 2, slot := 3, constantValue := 0 }]
  methods := #[k4m0, k4m1, k4m2, k4m3, k4m4, k4m5, k4m6, k4m7, k4m8]
  instanceTypes := #[(.object "com/example/gentle_bucket/gentlebucket/Contract"), .long, .long, .long]
  staticTypes := #[]
  resolved := Array.replicate 151 none
  statics := none }

def pool5 : Array CpInfo := pool [(1, .methodref 2 3), (0, .class_ 4), (0, .nameAndType 5 6), (0, u "com/example/gentle_bucket/gentlebucket/Contract"), (0, u "atLeastOne"), (0, u "(J)J"), (0, .string 8), (0, u "rate"), (0, .methodref 10 11), (0, .class_ 12), (0, .nameAndType 13 14), (0, u "java/util/Objects"), (0, u "requireNonNull"), (0, u "(Ljava/lang/Object;Ljava/lang/String;)Ljava/lang/Object;"), (0, .class_ 16), (0, u "com/example/gentle_bucket/gentlebucket/Rate"), (0, .methodref 15 18), (0, .nameAndType 19 20), (0, u "periodNanos"), (0, u "()J"), (0, .methodref 22 23), (0, .class_ 24), (0, .nameAndType 25 26), (0, u "com/example/gentle_bucket/gentlebucket/Uint128"), (0, u "product"), (0, u "(JJ)Lcom/example/gentle_bucket/gentlebucket/Uint128;"), (0, .methodref 2 28), (0, .nameAndType 29 30), (0, u "<init>"), (0, u "(Lcom/example/gentle_bucket/gentlebucket/Rate;Lcom/example/gentle_bucket/gentlebucket/Uint128;)V"), (0, .methodref 32 33), (0, .class_ 34), (0, .nameAndType 29 35), (0, u "java/lang/Object"), (0, u "()V"), (0, .fieldref 2 37), (0, .nameAndType 8 38), (0, u "Lcom/example/gentle_bucket/gentlebucket/Rate;"), (0, .fieldref 2 40), (0, .nameAndType 41 42), (0, u "depth"), (0, u "Lcom/example/gentle_bucket/gentlebucket/Uint128;"), (0, .methodref 22 44), (0, .nameAndType 45 46), (0, u "dividedRoundingDown"), (0, u "(J)Lcom/example/gentle_bucket/gentlebucket/Uint128;"), (0, .methodref 22 48), (0, .nameAndType 49 20), (0, u "toLongSaturated"), (0, .fieldref 2 51), (0, .nameAndType 52 53), (0, u "burst"), (0, u "J"), (69, u "(Lcom/example/gentle_bucket/gentlebucket/Rate;J)V"), (5, u "()Lcom/example/gentle_bucket/gentlebucket/Rate;"), (4, u "()Lcom/example/gentle_bucket/gentlebucket/Uint128;")] 27

def k5c0 : Code := { maxStack := 6, maxLocals := 4, code := prog_3_method_1_code, exceptionTable := #[], attributes := #[] }
def k5m0 : Method := { name := "<init>", desc := "(Lcom/example/gentle_bucket/gentlebucket/Rate;J)V", sig := { parameters := [(.object "com/example/gentle_bucket/gentlebucket/Rate"), .long], returnType := none }, accessFlags := 1, code := some k5c0 }
def k5c1 : Code := { maxStack := 4, maxLocals := 3, code := prog_3_method_2_code, exceptionTable := #[], attributes := #[] }
def k5m1 : Method := { name := "<init>", desc := "(Lcom/example/gentle_bucket/gentlebucket/Rate;Lcom/example/gentle_bucket/gentlebucket/Uint128;)V", sig := { parameters := [(.object "com/example/gentle_bucket/gentlebucket/Rate"), (.object "com/example/gentle_bucket/gentlebucket/Uint128")], returnType := none }, accessFlags := 2, code := some k5c1 }
def k5c2 : Code := { maxStack := 1, maxLocals := 1, code := prog_3_method_4_code, exceptionTable := #[], attributes := #[] }
def k5m2 : Method := { name := "rate", desc := "()Lcom/example/gentle_bucket/gentlebucket/Rate;", sig := { parameters := [], returnType := some (.object "com/example/gentle_bucket/gentlebucket/Rate") }, accessFlags := 1, code := some k5c2 }
def k5c3 : Code := { maxStack := 2, maxLocals := 1, code := prog_3_method_5_code, exceptionTable := #[], attributes := #[] }
def k5m3 : Method := { name := "burst", desc := "()J", sig := { parameters := [], returnType := some .long }, accessFlags := 1, code := some k5c3 }
def k5c4 : Code := { maxStack := 1, maxLocals := 1, code := prog_3_method_9_code, exceptionTable := #[], attributes := #[] }
def k5m4 : Method := { name := "depth", desc := "()Lcom/example/gentle_bucket/gentlebucket/Uint128;", sig := { parameters := [], returnType := some (.object "com/example/gentle_bucket/gentlebucket/Uint128") }, accessFlags := 0, code := some k5c4 }
def k5c5 : Code := { maxStack := 4, maxLocals := 2, code := prog_3_method_12_code, exceptionTable := #[], attributes := #[] }
def k5m5 : Method := { name := "atLeastOne", desc := "(J)J", sig := { parameters := [.long], returnType := some .long }, accessFlags := 10, code := some k5c5 }
/-- com/example/gentle_bucket/gentlebucket/Contract -/
def k5 : Class := { plain "com/example/gentle_bucket/gentlebucket/Contract" (some 0) with
  accessFlags := 33
  interfaces := #[]
  cf := some (fileOf pool5 2 #[] #[{ accessFlags := 1, nameIndex := 29, descriptorIndex := 123, attributes := #[] }, { accessFlags := 2, nameIndex := 29, descriptorIndex := 30, attributes := #[] }, { accessFlags := 1, nameIndex := 8, descriptorIndex := 129, attributes := #[] }, { accessFlags := 1, nameIndex := 52, descriptorIndex := 20, attributes := #[] }, { accessFlags := 0, nameIndex := 41, descriptorIndex := 134, attributes := #[] }, { accessFlags := 10, nameIndex := 5, descriptorIndex := 6, attributes := #[] }] 33 32 #[] #[{ accessFlags := 18, nameIndex := 8, descriptorIndex := 38, attributes := #[] }, { accessFlags := 18, nameIndex := 52, descriptorIndex := 53, attributes := #[] }, { accessFlags := 18, nameIndex := 41, descriptorIndex := 42, attributes := #[] }])
  fields := #[{ name := "rate", type := (.object "com/example/gentle_bucket/gentlebucket/Rate"), accessFlags := 18, slot := 0, constantValue := 0 }, { name := "burst", type := .long, accessFlags := 18, slot := 1, constantValue := 0 }, { name := "depth", type := (.object "com/example/gentle_bucket/gentlebucket/Uint128"), accessFlags := 18, slot := 2, constantValue := 0 }]
  methods := #[k5m0, k5m1, k5m2, k5m3, k5m4, k5m5]
  instanceTypes := #[(.object "com/example/gentle_bucket/gentlebucket/Rate"), .long, (.object "com/example/gentle_bucket/gentlebucket/Uint128")]
  staticTypes := #[]
  resolved := Array.replicate 162 none
  statics := none }

def pool6 : Array CpInfo := pool [(1, .methodref 2 3), (0, .class_ 4), (0, .nameAndType 5 6), (0, u "java/lang/Object"), (0, u "<init>"), (0, u "()V"), (0, .methodref 8 9), (0, .class_ 10), (0, .nameAndType 11 12), (0, u "com/example/gentle_bucket/gentlebucket/Rate"), (0, u "refusal"), (0, u "(JJ)Ljava/lang/String;"), (9, .fieldref 8 23), (0, .nameAndType 24 25), (0, u "amount"), (0, u "J"), (0, .fieldref 8 27), (0, .nameAndType 28 25), (0, u "periodNanos"), (37, u "(JJ)V"), (34, u "()J")] 22

def k6c0 : Code := { maxStack := 7, maxLocals := 6, code := prog_15_method_1_code, exceptionTable := #[], attributes := #[] }
def k6m0 : Method := { name := "<init>", desc := "(JJ)V", sig := { parameters := [.long, .long], returnType := none }, accessFlags := 1, code := some k6c0 }
def k6c1 : Code := { maxStack := 2, maxLocals := 1, code := prog_15_method_3_code, exceptionTable := #[], attributes := #[] }
def k6m1 : Method := { name := "amount", desc := "()J", sig := { parameters := [], returnType := some .long }, accessFlags := 1, code := some k6c1 }
def k6c2 : Code := { maxStack := 2, maxLocals := 1, code := prog_15_method_4_code, exceptionTable := #[], attributes := #[] }
def k6m2 : Method := { name := "periodNanos", desc := "()J", sig := { parameters := [], returnType := some .long }, accessFlags := 1, code := some k6c2 }
def k6c3 : Code := { maxStack := 4, maxLocals := 5, code := prog_15_method_6_code, exceptionTable := #[], attributes := #[] }
def k6m3 : Method := { name := "refusal", desc := "(JJ)Ljava/lang/String;", sig := { parameters := [.long, .long], returnType := some (.object "java/lang/String") }, accessFlags := 10, code := some k6c3 }
/-- com/example/gentle_bucket/gentlebucket/Rate -/
def k6 : Class := { plain "com/example/gentle_bucket/gentlebucket/Rate" (some 0) with
  accessFlags := 33
  interfaces := #[]
  cf := some (fileOf pool6 8 #[] #[{ accessFlags := 1, nameIndex := 5, descriptorIndex := 66, attributes := #[] }, { accessFlags := 1, nameIndex := 24, descriptorIndex := 101, attributes := #[] }, { accessFlags := 1, nameIndex := 28, descriptorIndex := 101, attributes := #[] }, { accessFlags := 10, nameIndex := 11, descriptorIndex := 12, attributes := #[] }] 33 2 #[] #[{ accessFlags := 18, nameIndex := 24, descriptorIndex := 25, attributes := #[] }, { accessFlags := 18, nameIndex := 28, descriptorIndex := 25, attributes := #[] }])
  fields := #[{ name := "amount", type := .long, accessFlags := 18, slot := 0, constantValue := 0 }, { name := "periodNanos", type := .long, accessFlags := 18, slot := 1, constantValue := 0 }]
  methods := #[k6m0, k6m1, k6m2, k6m3]
  instanceTypes := #[.long, .long]
  staticTypes := #[]
  resolved := Array.replicate 124 none
  statics := none }

def pool7 : Array CpInfo := pool [(1, .class_ 2), (0, u "java/io/Serializable"), (0, .class_ 4), (0, u "java/lang/Object")] 2

/-- java/io/Serializable -/
def k7 : Class := { plain "java/io/Serializable" (some 0) with
  accessFlags := 1537
  interfaces := #[]
  cf := some (fileOf pool7 1 #[] #[] 1537 3 #[] #[])
  fields := #[]
  methods := #[]
  instanceTypes := #[]
  staticTypes := #[]
  resolved := Array.replicate 7 none
  statics := none }

def pool8 : Array CpInfo := pool [(1, .class_ 2), (0, u "java/lang/Comparable"), (0, .class_ 4), (0, u "java/lang/Object")] 7

/-- java/lang/Comparable -/
def k8 : Class := { plain "java/lang/Comparable" (some 0) with
  accessFlags := 1537
  interfaces := #[]
  cf := some (fileOf pool8 1 #[] #[] 1537 3 #[] #[])
  fields := #[]
  methods := #[]
  instanceTypes := #[]
  staticTypes := #[]
  resolved := Array.replicate 12 none
  statics := none }

def pool9 : Array CpInfo := pool [(2, .class_ 4), (1, u "java/lang/CharSequence"), (42, .class_ 48), (0, u "java/lang/CharSequence$1CodePointIterator"), (10, .class_ 60), (0, u "java/lang/CharSequence$1CharIterator"), (5, .class_ 67), (0, u "java/lang/Object")] 63

/-- java/lang/CharSequence -/
def k9 : Class := { plain "java/lang/CharSequence" (some 0) with
  accessFlags := 1537
  interfaces := #[]
  cf := some (fileOf pool9 2 #[.nestMembers #[47, 59]] #[] 1537 66 #[] #[])
  fields := #[]
  methods := #[]
  instanceTypes := #[]
  staticTypes := #[]
  resolved := Array.replicate 131 none
  statics := none }

def pool10 : Array CpInfo := pool [(1, .class_ 2), (0, u "java/lang/constant/Constable"), (0, .class_ 4), (0, u "java/lang/Object")] 6

/-- java/lang/constant/Constable -/
def k10 : Class := { plain "java/lang/constant/Constable" (some 0) with
  accessFlags := 1537
  interfaces := #[]
  cf := some (fileOf pool10 1 #[] #[] 1537 3 #[] #[])
  fields := #[]
  methods := #[]
  instanceTypes := #[]
  staticTypes := #[]
  resolved := Array.replicate 11 none
  statics := none }

def pool11 : Array CpInfo := pool [(1, .class_ 2), (0, u "java/lang/constant/ConstantDesc"), (0, .class_ 4), (0, u "java/lang/Object")] 32

/-- java/lang/constant/ConstantDesc -/
def k11 : Class := { plain "java/lang/constant/ConstantDesc" (some 0) with
  accessFlags := 1537
  interfaces := #[]
  cf := some (fileOf pool11 1 #[] #[] 1537 3 #[] #[])
  fields := #[]
  methods := #[]
  instanceTypes := #[]
  staticTypes := #[]
  resolved := Array.replicate 37 none
  statics := none }

def pool12 : Array CpInfo := pool [(2, .class_ 4), (1, u "java/lang/Object"), (0, u "<init>"), (0, u "()V"), (3, .class_ 12), (1, u "java/lang/String"), (0, u "value"), (0, u "[B"), (2, u "coder"), (0, u "B"), (2, u "hash"), (0, u "I"), (2, u "hashIsZero"), (0, u "Z"), (13, u "COMPACT_STRINGS"), (534, .class_ 576), (0, u "java/lang/CharSequence"), (22, u "CASE_INSENSITIVE_ORDER"), (0, u "Ljava/util/Comparator;"), (500, u "serialPersistentFields"), (0, u "[Ljava/io/ObjectStreamField;"), (0, .class_ 1104), (0, u "java/lang/String$CaseInsensitiveComparator"), (1, .class_ 1107), (0, u "java/io/Serializable"), (0, .class_ 1109), (0, u "java/lang/Comparable"), (0, .class_ 1111), (0, u "java/lang/constant/Constable"), (0, .class_ 1113), (0, u "java/lang/constant/ConstantDesc"), (2, u "serialVersionUID"), (0, u "J"), (3, u "REPL"), (0, u "C"), (2, u "LATIN1"), (1, u "UTF16")] 323

def k12m0 : Method := { name := "<init>", desc := "()V", sig := { parameters := [], returnType := none }, accessFlags := 1, code := none }
/-- java/lang/String -/
def k12 : Class := { plain "java/lang/String" (some 0) with
  accessFlags := 49
  interfaces := #[7, 8, 9, 10, 11]
  cf := some (fileOf pool12 10 #[.nestMembers #[1103]] #[{ accessFlags := 1, nameIndex := 5, descriptorIndex := 6, attributes := #[] }] 49 2 #[1106, 1108, 575, 1110, 1112] #[{ accessFlags := 18, nameIndex := 13, descriptorIndex := 14, attributes := #[] }, { accessFlags := 18, nameIndex := 17, descriptorIndex := 18, attributes := #[] }, { accessFlags := 2, nameIndex := 21, descriptorIndex := 22, attributes := #[] }, { accessFlags := 2, nameIndex := 25, descriptorIndex := 26, attributes := #[] }, { accessFlags := 26, nameIndex := 1116, descriptorIndex := 1117, attributes := #[] }, { accessFlags := 24, nameIndex := 40, descriptorIndex := 26, attributes := #[] }, { accessFlags := 26, nameIndex := 1101, descriptorIndex := 1102, attributes := #[] }, { accessFlags := 26, nameIndex := 1121, descriptorIndex := 1122, attributes := #[] }, { accessFlags := 25, nameIndex := 599, descriptorIndex := 600, attributes := #[] }, { accessFlags := 24, nameIndex := 1125, descriptorIndex := 18, attributes := #[] }, { accessFlags := 24, nameIndex := 1127, descriptorIndex := 18, attributes := #[] }])
  fields := #[{ name := "value", type := (.array .byte), accessFlags := 18, slot := 0, constantValue := 0 }, { name := "coder", type := .byte, accessFlags := 18, slot := 1, constantValue := 0 }, { name := "hash", type := .int, accessFlags := 2, slot := 2, constantValue := 0 }, { name := "hashIsZero", type := .boolean, accessFlags := 2, slot := 3, constantValue := 0 }, { name := "serialVersionUID", type := .long, accessFlags := 26, slot := 0, constantValue := 0 }, { name := "COMPACT_STRINGS", type := .boolean, accessFlags := 24, slot := 1, constantValue := 0 }, { name := "serialPersistentFields", type := (.array (.object "java/io/ObjectStreamField")), accessFlags := 26, slot := 2, constantValue := 0 }, { name := "REPL", type := .char, accessFlags := 26, slot := 3, constantValue := 0 }, { name := "CASE_INSENSITIVE_ORDER", type := (.object "java/util/Comparator"), accessFlags := 25, slot := 4, constantValue := 0 }, { name := "LATIN1", type := .byte, accessFlags := 24, slot := 5, constantValue := 0 }, { name := "UTF16", type := .byte, accessFlags := 24, slot := 6, constantValue := 0 }]
  methods := #[k12m0]
  instanceTypes := #[(.array .byte), .byte, .int, .boolean]
  staticTypes := #[.long, .boolean, (.array (.object "java/io/ObjectStreamField")), .char, (.object "java/util/Comparator"), .byte, .byte]
  resolved := Array.replicate 1451 none
  statics := none }

def pool13 : Array CpInfo := pool [(2, .class_ 4), (1, u "java/lang/Object"), (0, u "<init>"), (0, u "()V"), (35, .class_ 44), (1, u "java/util/Objects"), (0, u "requireNonNull"), (48, u "(Ljava/lang/Object;Ljava/lang/String;)Ljava/lang/Object;")] 89

def k13m0 : Method := { name := "<init>", desc := "()V", sig := { parameters := [], returnType := none }, accessFlags := 2, code := none }
def k13c1 : Code := { maxStack := 3, maxLocals := 2, code := jdk_31_method_11_code, exceptionTable := #[], attributes := #[] }
def k13m1 : Method := { name := "requireNonNull", desc := "(Ljava/lang/Object;Ljava/lang/String;)Ljava/lang/Object;", sig := { parameters := [(.object "java/lang/Object"), (.object "java/lang/String")], returnType := some (.object "java/lang/Object") }, accessFlags := 9, code := some k13c1 }
/-- java/util/Objects -/
def k13 : Class := { plain "java/util/Objects" (some 0) with
  accessFlags := 49
  interfaces := #[]
  cf := some (fileOf pool13 42 #[] #[{ accessFlags := 2, nameIndex := 5, descriptorIndex := 6, attributes := #[] }, { accessFlags := 9, nameIndex := 45, descriptorIndex := 94, attributes := #[] }] 49 2 #[] #[])
  fields := #[]
  methods := #[k13m0, k13m1]
  instanceTypes := #[]
  staticTypes := #[]
  resolved := Array.replicate 184 none
  statics := none }

def pool14 : Array CpInfo := pool [(1, .methodref 2 3), (0, .class_ 4), (0, .nameAndType 5 6), (0, u "java/lang/Object"), (0, u "<init>"), (0, u "()V"), (0, .fieldref 8 9), (0, .class_ 10), (0, .nameAndType 11 12), (0, u "com/example/gentle_bucket/gentlebucket/Uint128"), (0, u "high"), (0, u "J"), (0, .fieldref 8 14), (0, .nameAndType 15 12), (0, u "low"), (0, .methodref 8 17), (0, .nameAndType 5 18), (0, u "(JJ)V"), (0, .methodref 20 21), (0, .class_ 22), (0, .nameAndType 23 24), (0, u "java/lang/Math"), (0, u "multiplyHigh"), (0, u "(JJ)J"), (0, .methodref 26 27), (0, .class_ 28), (0, .nameAndType 29 30), (0, u "java/lang/Long"), (0, u "compareUnsigned"), (0, u "(JJ)I"), (9, u "compareTo"), (0, u "(Lcom/example/gentle_bucket/gentlebucket/Uint128;)I"), (2, .methodref 8 45), (0, .nameAndType 46 47), (0, u "divided"), (0, u "(JZ)Lcom/example/gentle_bucket/gentlebucket/Uint128;"), (7, .methodref 26 56), (0, .nameAndType 57 24), (0, u "divideUnsigned"), (2, u "ONE"), (0, u "Lcom/example/gentle_bucket/gentlebucket/Uint128;"), (0, .methodref 8 63), (0, .nameAndType 64 65), (0, u "plus"), (0, u "(Lcom/example/gentle_bucket/gentlebucket/Uint128;)Lcom/example/gentle_bucket/gentlebucket/Uint128;"), (19, .long 9223372036854775807), (3, u "ZERO"), (0, .class_ 91), (0, u "java/lang/Comparable"), (2, u "of"), (0, u "(JJ)Lcom/example/gentle_bucket/gentlebucket/Uint128;"), (0, u "()J"), (0, u "product"), (3, u "(J)Lcom/example/gentle_bucket/gentlebucket/Uint128;"), (0, u "dividedRoundingDown"), (2, u "toLongSaturated")] 22

def k14c0 : Code := { maxStack := 3, maxLocals := 5, code := prog_17_method_1_code, exceptionTable := #[], attributes := #[] }
def k14m0 : Method := { name := "<init>", desc := "(JJ)V", sig := { parameters := [.long, .long], returnType := none }, accessFlags := 2, code := some k14c0 }
def k14c1 : Code := { maxStack := 6, maxLocals := 4, code := prog_17_method_2_code, exceptionTable := #[], attributes := #[] }
def k14m1 : Method := { name := "of", desc := "(JJ)Lcom/example/gentle_bucket/gentlebucket/Uint128;", sig := { parameters := [.long, .long], returnType := some (.object "com/example/gentle_bucket/gentlebucket/Uint128") }, accessFlags := 8, code := some k14c1 }
def k14c2 : Code := { maxStack := 2, maxLocals := 1, code := prog_17_method_3_code, exceptionTable := #[], attributes := #[] }
def k14m2 : Method := { name := "high", desc := "()J", sig := { parameters := [], returnType := some .long }, accessFlags := 0, code := some k14c2 }
def k14c3 : Code := { maxStack := 2, maxLocals := 1, code := prog_17_method_4_code, exceptionTable := #[], attributes := #[] }
def k14m3 : Method := { name := "low", desc := "()J", sig := { parameters := [], returnType := some .long }, accessFlags := 0, code := some k14c3 }
def k14c4 : Code := { maxStack := 8, maxLocals := 6, code := prog_17_method_5_code, exceptionTable := #[], attributes := #[] }
def k14m4 : Method := { name := "product", desc := "(JJ)Lcom/example/gentle_bucket/gentlebucket/Uint128;", sig := { parameters := [.long, .long], returnType := some (.object "com/example/gentle_bucket/gentlebucket/Uint128") }, accessFlags := 8, code := some k14c4 }
def k14c5 : Code := { maxStack := 6, maxLocals := 10, code := prog_17_method_6_code, exceptionTable := #[], attributes := #[] }
def k14m5 : Method := { name := "plus", desc := "(Lcom/example/gentle_bucket/gentlebucket/Uint128;)Lcom/example/gentle_bucket/gentlebucket/Uint128;", sig := { parameters := [(.object "com/example/gentle_bucket/gentlebucket/Uint128")], returnType := some (.object "com/example/gentle_bucket/gentlebucket/Uint128") }, accessFlags := 0, code := some k14c5 }
def k14c6 : Code := { maxStack := 4, maxLocals := 3, code := prog_17_method_9_code, exceptionTable := #[], attributes := #[] }
def k14m6 : Method := { name := "dividedRoundingDown", desc := "(J)Lcom/example/gentle_bucket/gentlebucket/Uint128;", sig := { parameters := [.long], returnType := some (.object "com/example/gentle_bucket/gentlebucket/Uint128") }, accessFlags := 0, code := some k14c6 }
def k14c7 : Code := { maxStack := 6, maxLocals := 11, code := prog_17_method_10_code, exceptionTable := #[], attributes := #[] }
def k14m7 : Method := { name := "divided", desc := "(JZ)Lcom/example/gentle_bucket/gentlebucket/Uint128;", sig := { parameters := [.long, .boolean], returnType := some (.object "com/example/gentle_bucket/gentlebucket/Uint128") }, accessFlags := 2, code := some k14c7 }
def k14c8 : Code := { maxStack := 4, maxLocals := 1, code := prog_17_method_12_code, exceptionTable := #[], attributes := #[] }
def k14m8 : Method := { name := "toLongSaturated", desc := "()J", sig := { parameters := [], returnType := some .long }, accessFlags := 0, code := some k14c8 }
def k14c9 : Code := { maxStack := 4, maxLocals := 3, code := prog_17_method_13_code, exceptionTable := #[], attributes := #[] }
def k14m9 : Method := { name := "compareTo", desc := "(Lcom/example/gentle_bucket/gentlebucket/Uint128;)I", sig := { parameters := [(.object "com/example/gentle_bucket/gentlebucket/Uint128")], returnType := some .int }, accessFlags := 1, code := some k14c9 }
/-- com/example/gentle_bucket/gentlebucket/Uint128 -/
def k14 : Class := { plain "com/example/gentle_bucket/gentlebucket/Uint128" (some 0) with
  accessFlags := 32
  interfaces := #[8]
  cf := some (fileOf pool14 8 #[] #[{ accessFlags := 2, nameIndex := 5, descriptorIndex := 18, attributes := #[] }, { accessFlags := 8, nameIndex := 94, descriptorIndex := 95, attributes := #[] }, { accessFlags := 0, nameIndex := 11, descriptorIndex := 96, attributes := #[] }, { accessFlags := 0, nameIndex := 15, descriptorIndex := 96, attributes := #[] }, { accessFlags := 8, nameIndex := 97, descriptorIndex := 95, attributes := #[] }, { accessFlags := 0, nameIndex := 64, descriptorIndex := 65, attributes := #[] }, { accessFlags := 0, nameIndex := 102, descriptorIndex := 101, attributes := #[] }, { accessFlags := 2, nameIndex := 46, descriptorIndex := 47, attributes := #[] }, { accessFlags := 0, nameIndex := 105, descriptorIndex := 96, attributes := #[] }, { accessFlags := 1, nameIndex := 40, descriptorIndex := 41, attributes := #[] }] 32 2 #[90] #[{ accessFlags := 24, nameIndex := 89, descriptorIndex := 61, attributes := #[] }, { accessFlags := 26, nameIndex := 60, descriptorIndex := 61, attributes := #[] }, { accessFlags := 18, nameIndex := 11, descriptorIndex := 12, attributes := #[] }, { accessFlags := 18, nameIndex := 15, descriptorIndex := 12, attributes := #[] }])
  fields := #[{ name := "ZERO", type := (.object "com/example/gentle_bucket/gentlebucket/Uint128"), accessFlags := 24, slot := 0, constantValue := 0 }, { name := "ONE", type := (.object "com/example/gentle_bucket/gentlebucket/Uint128"), accessFlags := 26, slot := 1, constantValue := 0 }, { name := "high", type := .long, accessFlags := 18, slot := 0, constantValue := 0 }, { name := "low", type := .long, accessFlags := 18, slot := 1, constantValue := 0 }]
  methods := #[k14m0, k14m1, k14m2, k14m3, k14m4, k14m5, k14m6, k14m7, k14m8, k14m9]
  instanceTypes := #[.long, .long]
  staticTypes := #[(.object "com/example/gentle_bucket/gentlebucket/Uint128"), (.object "com/example/gentle_bucket/gentlebucket/Uint128")]
  resolved := Array.replicate 128 none
  statics := some 0 }

def pool15 : Array CpInfo := pool [(2, .class_ 4), (1, u "java/lang/Object"), (0, u "<init>"), (0, u "()V"), (1, .class_ 10), (1, u "java/lang/Number"), (2, .class_ 14), (0, u "java/io/Serializable"), (0, u "serialVersionUID"), (0, u "J")] 20

def k15m0 : Method := { name := "<init>", desc := "()V", sig := { parameters := [], returnType := none }, accessFlags := 1, code := none }
/-- java/lang/Number -/
def k15 : Class := { plain "java/lang/Number" (some 0) with
  accessFlags := 1057
  interfaces := #[7]
  cf := some (fileOf pool15 8 #[] #[{ accessFlags := 1, nameIndex := 5, descriptorIndex := 6, attributes := #[] }] 1057 2 #[13] #[{ accessFlags := 26, nameIndex := 15, descriptorIndex := 16, attributes := #[] }])
  fields := #[{ name := "serialVersionUID", type := .long, accessFlags := 26, slot := 0, constantValue := 0 }]
  methods := #[k15m0]
  instanceTypes := #[]
  staticTypes := #[.long]
  resolved := Array.replicate 37 none
  statics := none }

def pool16 : Array CpInfo := pool [(1, .class_ 2), (0, u "java/lang/Long"), (165, .long 9223372036854775808), (66, .class_ 237), (1, u "java/lang/Long$LongCache"), (33, .class_ 272), (0, u "java/lang/Number"), (2, u "value"), (0, u "J"), (25, .methodref 1 303), (0, .nameAndType 304 305), (0, u "compare"), (0, u "(JJ)I"), (0, .long 18446744073709551615), (26, u "(JJ)J"), (27, u "TYPE"), (0, u "Ljava/lang/Class;"), (0, .class_ 364), (0, u "java/lang/Comparable"), (0, .class_ 366), (0, u "java/lang/constant/Constable"), (0, .class_ 368), (0, u "java/lang/constant/ConstantDesc"), (0, u "MIN_VALUE"), (1, u "MAX_VALUE"), (4, u "SIZE"), (0, u "I"), (1, u "BYTES"), (1, u "serialVersionUID"), (87, u "compareUnsigned"), (0, u "divideUnsigned")] 53

def k16c0 : Code := { maxStack := 4, maxLocals := 4, code := jdk_35_method_42_code, exceptionTable := #[], attributes := #[] }
def k16m0 : Method := { name := "compare", desc := "(JJ)I", sig := { parameters := [.long, .long], returnType := some .int }, accessFlags := 9, code := some k16c0 }
def k16c1 : Code := { maxStack := 6, maxLocals := 4, code := jdk_35_method_43_code, exceptionTable := #[], attributes := #[] }
def k16m1 : Method := { name := "compareUnsigned", desc := "(JJ)I", sig := { parameters := [.long, .long], returnType := some .int }, accessFlags := 9, code := some k16c1 }
def k16c2 : Code := { maxStack := 8, maxLocals := 8, code := jdk_35_method_44_code, exceptionTable := #[], attributes := #[] }
def k16m2 : Method := { name := "divideUnsigned", desc := "(JJ)J", sig := { parameters := [.long, .long], returnType := some .long }, accessFlags := 9, code := some k16c2 }
/-- java/lang/Long -/
def k16 : Class := { plain "java/lang/Long" (some 15) with
  accessFlags := 49
  interfaces := #[8, 10, 11]
  cf := some (fileOf pool16 1 #[.nestMembers #[235]] #[{ accessFlags := 9, nameIndex := 304, descriptorIndex := 305, attributes := #[] }, { accessFlags := 9, nameIndex := 469, descriptorIndex := 305, attributes := #[] }, { accessFlags := 9, nameIndex := 470, descriptorIndex := 333, attributes := #[] }] 49 271 #[363, 365, 367] #[{ accessFlags := 25, nameIndex := 369, descriptorIndex := 276, attributes := #[] }, { accessFlags := 25, nameIndex := 371, descriptorIndex := 276, attributes := #[] }, { accessFlags := 25, nameIndex := 361, descriptorIndex := 362, attributes := #[] }, { accessFlags := 18, nameIndex := 275, descriptorIndex := 276, attributes := #[] }, { accessFlags := 25, nameIndex := 376, descriptorIndex := 377, attributes := #[] }, { accessFlags := 25, nameIndex := 379, descriptorIndex := 377, attributes := #[] }, { accessFlags := 26, nameIndex := 381, descriptorIndex := 276, attributes := #[] }])
  fields := #[{ name := "MIN_VALUE", type := .long, accessFlags := 25, slot := 0, constantValue := 0 }, { name := "MAX_VALUE", type := .long, accessFlags := 25, slot := 1, constantValue := 0 }, { name := "TYPE", type := (.object "java/lang/Class"), accessFlags := 25, slot := 2, constantValue := 0 }, { name := "value", type := .long, accessFlags := 18, slot := 0, constantValue := 0 }, { name := "SIZE", type := .int, accessFlags := 25, slot := 3, constantValue := 0 }, { name := "BYTES", type := .int, accessFlags := 25, slot := 4, constantValue := 0 }, { name := "serialVersionUID", type := .long, accessFlags := 26, slot := 5, constantValue := 0 }]
  methods := #[k16m0, k16m1, k16m2]
  instanceTypes := #[.long]
  staticTypes := #[.long, .long, (.object "java/lang/Class"), .int, .int, .long]
  resolved := Array.replicate 524 none
  statics := none }

def pool17 : Array CpInfo := pool [(2, .class_ 4), (1, u "java/lang/Object"), (0, u "<init>"), (0, u "()V"), (18, .class_ 26), (0, u "com/example/gentle_bucket/gentlebucket/Asks"), (2, u "checkCost"), (0, u "(J)V")] 25

def k17m0 : Method := { name := "<init>", desc := "()V", sig := { parameters := [], returnType := none }, accessFlags := 2, code := none }
def k17c1 : Code := { maxStack := 4, maxLocals := 2, code := prog_1_method_2_code, exceptionTable := #[], attributes := #[] }
def k17m1 : Method := { name := "checkCost", desc := "(J)V", sig := { parameters := [.long], returnType := none }, accessFlags := 9, code := some k17c1 }
/-- com/example/gentle_bucket/gentlebucket/Asks -/
def k17 : Class := { plain "com/example/gentle_bucket/gentlebucket/Asks" (some 0) with
  accessFlags := 33
  interfaces := #[]
  cf := some (fileOf pool17 25 #[] #[{ accessFlags := 2, nameIndex := 5, descriptorIndex := 6, attributes := #[] }, { accessFlags := 9, nameIndex := 29, descriptorIndex := 30, attributes := #[] }] 33 2 #[] #[])
  fields := #[]
  methods := #[k17m0, k17m1]
  instanceTypes := #[]
  staticTypes := #[]
  resolved := Array.replicate 56 none
  statics := none }

def pool18 : Array CpInfo := pool [(2, .class_ 4), (1, u "java/lang/Object"), (2, .fieldref 8 9), (0, .class_ 10), (0, .nameAndType 11 12), (0, u "com/example/gentle_bucket/gentlebucket/Decision"), (0, u "waitNanos"), (0, u "J"), (2, u "never"), (0, u "Z"), (2, u "storeFailed"), (15, u "conforms"), (0, u "()Z"), (11, u "CONFORMS"), (0, u "Lcom/example/gentle_bucket/gentlebucket/Decision;"), (6, u "NEVER")] 36

def k18c0 : Code := { maxStack := 4, maxLocals := 1, code := prog_4_method_4_code, exceptionTable := #[], attributes := #[] }
def k18m0 : Method := { name := "conforms", desc := "()Z", sig := { parameters := [], returnType := some .boolean }, accessFlags := 1, code := some k18c0 }
/-- com/example/gentle_bucket/gentlebucket/Decision -/
def k18 : Class := { plain "com/example/gentle_bucket/gentlebucket/Decision" (some 0) with
  accessFlags := 33
  interfaces := #[]
  cf := some (fileOf pool18 8 #[] #[{ accessFlags := 1, nameIndex := 35, descriptorIndex := 36, attributes := #[] }] 33 2 #[] #[{ accessFlags := 25, nameIndex := 48, descriptorIndex := 49, attributes := #[] }, { accessFlags := 25, nameIndex := 56, descriptorIndex := 49, attributes := #[] }, { accessFlags := 18, nameIndex := 11, descriptorIndex := 12, attributes := #[] }, { accessFlags := 18, nameIndex := 15, descriptorIndex := 16, attributes := #[] }, { accessFlags := 18, nameIndex := 19, descriptorIndex := 16, attributes := #[] }])
  fields := #[{ name := "CONFORMS", type := (.object "com/example/gentle_bucket/gentlebucket/Decision"), accessFlags := 25, slot := 0, constantValue := 0 }, { name := "NEVER", type := (.object "com/example/gentle_bucket/gentlebucket/Decision"), accessFlags := 25, slot := 1, constantValue := 0 }, { name := "waitNanos", type := .long, accessFlags := 18, slot := 0, constantValue := 0 }, { name := "never", type := .boolean, accessFlags := 18, slot := 1, constantValue := 0 }, { name := "storeFailed", type := .boolean, accessFlags := 18, slot := 2, constantValue := 0 }]
  methods := #[k18m0]
  instanceTypes := #[.long, .boolean, .boolean]
  staticTypes := #[(.object "com/example/gentle_bucket/gentlebucket/Decision"), (.object "com/example/gentle_bucket/gentlebucket/Decision")]
  resolved := Array.replicate 93 none
  statics := some 1 }

def pool19 : Array CpInfo := pool [(1, u "java/lang/Cloneable"), (0, .class_ 1), (0, u "java/lang/Object"), (0, .class_ 3)] 3

/-- java/lang/Cloneable -/
def k19 : Class := { plain "java/lang/Cloneable" (some 0) with
  accessFlags := 1537
  interfaces := #[]
  cf := some (fileOf pool19 2 #[] #[] 1537 4 #[] #[])
  fields := #[]
  methods := #[]
  instanceTypes := #[]
  staticTypes := #[]
  resolved := Array.replicate 8 none
  statics := none }

/-- the primitive byte -/
def k20 : Class := { plain "byte" none with kind := .primitive 'B', accessFlags := 0x411 }
/-- [B -/
def k21 : Class := { plain "[B" (some 0) with kind := .array 20 .byte, interfaces := #[19, 7], accessFlags := 1041 }

/-- the primitive int -/
def k22 : Class := { plain "int" none with kind := .primitive 'I', accessFlags := 0x411 }
/-- [I -/
def k23 : Class := { plain "[I" (some 0) with kind := .array 22 .int, interfaces := #[19, 7], accessFlags := 1041 }

def heap : Heap := #[{ cls := 14, slots := #[.ref 2, .null], vm := .statics 14 },
  { cls := 18, slots := #[.ref 3, .ref 4], vm := .statics 18 },
  { cls := 14, slots := #[.long 0, .long 0], vm := .none },
  { cls := 18, slots := #[.long 0, .int 0, .int 0], vm := .none },
  { cls := 18, slots := #[.long 9223372036854775807, .int 1, .int 0], vm := .none }]
def classes : Array Class := #[k0, k1, k2, k3, k4, k5, k6, k7, k8, k9, k10, k11, k12, k13, k14, k15, k16, k17, k18, k19, k20, k21, k22, k23]
def interned : List (Array UInt16 × Addr) := []
def slotsUsed : Nat := 12
def theMethod : MethodId := ⟨1, 1⟩
def args0 : Array Value := #[.long 5, .long 7, .long 6, .long 3, .long 10, .int 2]
def aboutOver (below : List Frame) : State where
  vm := { classes := classes, interned := interned.toArray }
  heap := heap
  slotsUsed := slotsUsed
  threads := #[{ frames := .invoking theMethod args0 :: below }]
def below0 : List Frame := [.native { method := ⟨0, 0⟩, args := #[] }]
def about1 : State := aboutOver below0
def p0 : Program := .bare "" "" ""
def e0 : Env := launch0.env 0 0 0
theorem w_frames : about1.frames = Frame.invoking theMethod args0 :: below0 := rfl
set_option maxRecDepth 65536 in
theorem w_args : argsFit about1.vm theMethod args0 = true := by decide +kernel
set_option maxRecDepth 65536 in
theorem w_heap : heapFits about1 = true := by decide +kernel
set_option maxRecDepth 65536 in
theorem w_runnable : about1.curStatus? = some .runnable := by decide +kernel
set_option maxRecDepth 65536 in
theorem w_alone : about1.alone = true := by decide +kernel
set_option maxRecDepth 65536 in
theorem w_named : about1.methodNamed? x = some theMethod := by decide +kernel
set_option maxRecDepth 65536 in
theorem w_hears : about1.hears theMethod below0 = true := by decide +kernel
set_option maxRecDepth 65536 in
theorem w_ripe : about1.ripe theMethod args0 below0 = true := by decide +kernel
theorem w_running : about1.status = .running := rfl
set_option maxRecDepth 65536 in
theorem w_room : about1.hasRoom e0.platform room_1 = true :=
  launch0.hasRoom_least _ room_1 (by decide +kernel) (by decide +kernel) (by decide +kernel) (by decide +kernel) (by decide +kernel) (by decide +kernel)
theorem allAtoms_all (ts : List Jvm.Cond) (a : Array Jvm.Value) (st : Jvm.State) : (allAtoms ts).before a st = ts.all (fun c => c.before a st) := by
  induction ts with
  | nil => rfl
  | cons c t ih =>
    show (Jvm.Cond.and c (allAtoms t)).before a st = _
    rw [Jvm.Cond.before_and, ih, List.all_cons]
def words1 : List Jvm.Cond := Jvm.Cond.code x code maxLocals ret :: tables_1
/-- a 'code' word, met by the world's own term for the bytes: nothing is compared byte by byte -/
theorem code_word {y : MethodName} {bytes : ByteArray} {mx : Nat} {rt : Option FieldType} {a : Array Value} {s : State} {m : MethodId} {meth : Method} {c : Code} (h1 : s.methodNamed? y = some m) (h2 : s.vm.method? m = some meth) (h3 : meth.code = some c) (h4 : c.code = bytes)
    (h5 : (c.maxLocals == mx && c.exceptionTable.isEmpty && decide (c.maxStack ≤ mostOperands) && decide (meth.sig.returnType = rt) && !meth.locks && decide (parseMethodDescriptor y.desc = some meth.sig)) = true) : (Jvm.Cond.code y bytes mx rt).before a s = true := by
  simp only [Bool.and_eq_true, beq_iff_eq, Bool.not_eq_true', decide_eq_true_eq] at h5
  obtain ⟨⟨⟨⟨⟨g1, g2⟩, g3⟩, g4⟩, g5⟩, g6⟩ := h5
  simp [Cond.before, Cond.holds, Cond.value, h1, h2, h3, h4, g1, g2, g3, g4, g5, g6]
def isCode : Jvm.Cond → Bool
  | .code _ _ _ _ => true
  | _ => false
theorem all_split {L : List Jvm.Cond} {P : Jvm.Cond → Bool} (h1 : L.all (fun c => isCode c || P c) = true) (h2 : ∀ c ∈ L.filter isCode, P c = true) : L.all P = true := by
  refine List.all_eq_true.mpr fun c hc => ?_
  have h := List.all_eq_true.mp h1 c hc
  rcases Bool.eq_false_or_eq_true (isCode c) with hi | hi
  · exact h2 c (List.mem_filter.mpr ⟨hc, hi⟩)
  · simpa [hi] using h
set_option maxRecDepth 65536 in
theorem w_c0 : (Jvm.Cond.code x code maxLocals ret).before args0 about1 = true := code_word (m := ⟨1, 1⟩) (meth := k1m1) (c := k1c1) (by decide +kernel) rfl rfl rfl (by decide +kernel)
set_option maxRecDepth 65536 in
theorem w_c1 : (Jvm.Cond.code ({ cls := "java/lang/Math", name := "max", desc := "(JJ)J" } : Jvm.MethodName) jdk_29_method_66_code (4 : Nat) (Option.some Jvm.ClassFile.FieldType.long)).before args0 about1 = true := code_word (m := ⟨2, 2⟩) (meth := k2m2) (c := k2c2) (by decide +kernel) rfl rfl rfl (by decide +kernel)
set_option maxRecDepth 65536 in
theorem w_c2 : (Jvm.Cond.code ({ cls := "com/example/gentle_bucket/gentlebucket/Rate", name := "<init>", desc := "(JJ)V" } : Jvm.MethodName) prog_15_method_1_code (6 : Nat) (Option.none : Option Jvm.ClassFile.FieldType)).before args0 about1 = true := code_word (m := ⟨6, 0⟩) (meth := k6m0) (c := k6c0) (by decide +kernel) rfl rfl rfl (by decide +kernel)
set_option maxRecDepth 65536 in
theorem w_c3 : (Jvm.Cond.code ({ cls := "java/lang/Object", name := "<init>", desc := "()V" } : Jvm.MethodName) object_method_1_code (1 : Nat) (Option.none : Option Jvm.ClassFile.FieldType)).before args0 about1 = true := code_word (m := ⟨0, 0⟩) (meth := k0m0) (c := k0c0) (by decide +kernel) rfl rfl rfl (by decide +kernel)
set_option maxRecDepth 65536 in
theorem w_c4 : (Jvm.Cond.code ({ cls := "com/example/gentle_bucket/gentlebucket/Rate", name := "refusal", desc := "(JJ)Ljava/lang/String;" } : Jvm.MethodName) prog_15_method_6_code (5 : Nat) (Option.some (Jvm.ClassFile.FieldType.object "java/lang/String"))).before args0 about1 = true := code_word (m := ⟨6, 3⟩) (meth := k6m3) (c := k6c3) (by decide +kernel) rfl rfl rfl (by decide +kernel)
set_option maxRecDepth 65536 in
theorem w_c5 : (Jvm.Cond.code ({ cls := "com/example/gentle_bucket/gentlebucket/Contract", name := "<init>", desc := "(Lcom/example/gentle_bucket/gentlebucket/Rate;J)V" } : Jvm.MethodName) prog_3_method_1_code (4 : Nat) (Option.none : Option Jvm.ClassFile.FieldType)).before args0 about1 = true := code_word (m := ⟨5, 0⟩) (meth := k5m0) (c := k5c0) (by decide +kernel) rfl rfl rfl (by decide +kernel)
set_option maxRecDepth 65536 in
theorem w_c6 : (Jvm.Cond.code ({ cls := "com/example/gentle_bucket/gentlebucket/Contract", name := "atLeastOne", desc := "(J)J" } : Jvm.MethodName) prog_3_method_12_code (2 : Nat) (Option.some Jvm.ClassFile.FieldType.long)).before args0 about1 = true := code_word (m := ⟨5, 5⟩) (meth := k5m5) (c := k5c5) (by decide +kernel) rfl rfl rfl (by decide +kernel)
set_option maxRecDepth 65536 in
theorem w_c7 : (Jvm.Cond.code ({ cls := "java/util/Objects", name := "requireNonNull", desc := "(Ljava/lang/Object;Ljava/lang/String;)Ljava/lang/Object;" } : Jvm.MethodName) jdk_31_method_11_code (2 : Nat) (Option.some (Jvm.ClassFile.FieldType.object "java/lang/Object"))).before args0 about1 = true := code_word (m := ⟨13, 1⟩) (meth := k13m1) (c := k13c1) (by decide +kernel) rfl rfl rfl (by decide +kernel)
set_option maxRecDepth 65536 in
theorem w_c8 : (Jvm.Cond.code ({ cls := "com/example/gentle_bucket/gentlebucket/Rate", name := "periodNanos", desc := "()J" } : Jvm.MethodName) prog_15_method_4_code (1 : Nat) (Option.some Jvm.ClassFile.FieldType.long)).before args0 about1 = true := code_word (m := ⟨6, 2⟩) (meth := k6m2) (c := k6c2) (by decide +kernel) rfl rfl rfl (by decide +kernel)
set_option maxRecDepth 65536 in
theorem w_c9 : (Jvm.Cond.code ({ cls := "com/example/gentle_bucket/gentlebucket/Uint128", name := "product", desc := "(JJ)Lcom/example/gentle_bucket/gentlebucket/Uint128;" } : Jvm.MethodName) prog_17_method_5_code (6 : Nat) (Option.some (Jvm.ClassFile.FieldType.object "com/example/gentle_bucket/gentlebucket/Uint128"))).before args0 about1 = true := code_word (m := ⟨14, 4⟩) (meth := k14m4) (c := k14c4) (by decide +kernel) rfl rfl rfl (by decide +kernel)
set_option maxRecDepth 65536 in
theorem w_c10 : (Jvm.Cond.code ({ cls := "java/lang/Math", name := "multiplyHigh", desc := "(JJ)J" } : Jvm.MethodName) jdk_29_method_45_code (20 : Nat) (Option.some Jvm.ClassFile.FieldType.long)).before args0 about1 = true := code_word (m := ⟨2, 1⟩) (meth := k2m1) (c := k2c1) (by decide +kernel) rfl rfl rfl (by decide +kernel)
set_option maxRecDepth 65536 in
theorem w_c11 : (Jvm.Cond.code ({ cls := "com/example/gentle_bucket/gentlebucket/Uint128", name := "<init>", desc := "(JJ)V" } : Jvm.MethodName) prog_17_method_1_code (5 : Nat) (Option.none : Option Jvm.ClassFile.FieldType)).before args0 about1 = true := code_word (m := ⟨14, 0⟩) (meth := k14m0) (c := k14c0) (by decide +kernel) rfl rfl rfl (by decide +kernel)
set_option maxRecDepth 65536 in
theorem w_c12 : (Jvm.Cond.code ({ cls := "com/example/gentle_bucket/gentlebucket/Contract", name := "<init>", desc := "(Lcom/example/gentle_bucket/gentlebucket/Rate;Lcom/example/gentle_bucket/gentlebucket/Uint128;)V" } : Jvm.MethodName) prog_3_method_2_code (3 : Nat) (Option.none : Option Jvm.ClassFile.FieldType)).before args0 about1 = true := code_word (m := ⟨5, 1⟩) (meth := k5m1) (c := k5c1) (by decide +kernel) rfl rfl rfl (by decide +kernel)
set_option maxRecDepth 65536 in
theorem w_c13 : (Jvm.Cond.code ({ cls := "com/example/gentle_bucket/gentlebucket/Uint128", name := "dividedRoundingDown", desc := "(J)Lcom/example/gentle_bucket/gentlebucket/Uint128;" } : Jvm.MethodName) prog_17_method_9_code (3 : Nat) (Option.some (Jvm.ClassFile.FieldType.object "com/example/gentle_bucket/gentlebucket/Uint128"))).before args0 about1 = true := code_word (m := ⟨14, 6⟩) (meth := k14m6) (c := k14c6) (by decide +kernel) rfl rfl rfl (by decide +kernel)
set_option maxRecDepth 65536 in
theorem w_c14 : (Jvm.Cond.code ({ cls := "com/example/gentle_bucket/gentlebucket/Uint128", name := "divided", desc := "(JZ)Lcom/example/gentle_bucket/gentlebucket/Uint128;" } : Jvm.MethodName) prog_17_method_10_code (11 : Nat) (Option.some (Jvm.ClassFile.FieldType.object "com/example/gentle_bucket/gentlebucket/Uint128"))).before args0 about1 = true := code_word (m := ⟨14, 7⟩) (meth := k14m7) (c := k14c7) (by decide +kernel) rfl rfl rfl (by decide +kernel)
set_option maxRecDepth 65536 in
theorem w_c15 : (Jvm.Cond.code ({ cls := "java/lang/Long", name := "divideUnsigned", desc := "(JJ)J" } : Jvm.MethodName) jdk_35_method_44_code (8 : Nat) (Option.some Jvm.ClassFile.FieldType.long)).before args0 about1 = true := code_word (m := ⟨16, 2⟩) (meth := k16m2) (c := k16c2) (by decide +kernel) rfl rfl rfl (by decide +kernel)
set_option maxRecDepth 65536 in
theorem w_c16 : (Jvm.Cond.code ({ cls := "com/example/gentle_bucket/gentlebucket/Uint128", name := "toLongSaturated", desc := "()J" } : Jvm.MethodName) prog_17_method_12_code (1 : Nat) (Option.some Jvm.ClassFile.FieldType.long)).before args0 about1 = true := code_word (m := ⟨14, 8⟩) (meth := k14m8) (c := k14c8) (by decide +kernel) rfl rfl rfl (by decide +kernel)
set_option maxRecDepth 65536 in
theorem w_c17 : (Jvm.Cond.code ({ cls := "com/example/gentle_bucket/gentlebucket/Meter", name := "<init>", desc := "(Lcom/example/gentle_bucket/gentlebucket/Contract;)V" } : Jvm.MethodName) prog_12_method_2_code (2 : Nat) (Option.none : Option Jvm.ClassFile.FieldType)).before args0 about1 = true := code_word (m := ⟨4, 0⟩) (meth := k4m0) (c := k4c0) (by decide +kernel) rfl rfl rfl (by decide +kernel)
set_option maxRecDepth 65536 in
theorem w_c18 : (Jvm.Cond.code ({ cls := "com/example/gentle_bucket/gentlebucket/Bucket", name := "<init>", desc := "()V" } : Jvm.MethodName) prog_2_method_1_code (1 : Nat) (Option.none : Option Jvm.ClassFile.FieldType)).before args0 about1 = true := code_word (m := ⟨3, 0⟩) (meth := k3m0) (c := k3c0) (by decide +kernel) rfl rfl rfl (by decide +kernel)
set_option maxRecDepth 65536 in
theorem w_c19 : (Jvm.Cond.code ({ cls := "com/example/gentle_bucket/gentlebucket/Meter", name := "neverFits", desc := "(J)Z" } : Jvm.MethodName) prog_12_method_5_code (3 : Nat) (Option.some Jvm.ClassFile.FieldType.boolean)).before args0 about1 = true := code_word (m := ⟨4, 3⟩) (meth := k4m3) (c := k4c3) (by decide +kernel) rfl rfl rfl (by decide +kernel)
set_option maxRecDepth 65536 in
theorem w_c20 : (Jvm.Cond.code ({ cls := "com/example/gentle_bucket/gentlebucket/Contract", name := "burst", desc := "()J" } : Jvm.MethodName) prog_3_method_5_code (1 : Nat) (Option.some Jvm.ClassFile.FieldType.long)).before args0 about1 = true := code_word (m := ⟨5, 3⟩) (meth := k5m3) (c := k5c3) (by decide +kernel) rfl rfl rfl (by decide +kernel)
set_option maxRecDepth 65536 in
theorem w_c21 : (Jvm.Cond.code ({ cls := "com/example/gentle_bucket/gentlebucket/Meter", name := "offer", desc := "(JJ)Z" } : Jvm.MethodName) prog_12_method_3_code (5 : Nat) (Option.some Jvm.ClassFile.FieldType.boolean)).before args0 about1 = true := code_word (m := ⟨4, 1⟩) (meth := k4m1) (c := k4c1) (by decide +kernel) rfl rfl rfl (by decide +kernel)
set_option maxRecDepth 65536 in
theorem w_c22 : (Jvm.Cond.code ({ cls := "com/example/gentle_bucket/gentlebucket/Bucket", name := "decide", desc := "(JJ)Lcom/example/gentle_bucket/gentlebucket/Decision;" } : Jvm.MethodName) prog_2_method_3_code (8 : Nat) (Option.some (Jvm.ClassFile.FieldType.object "com/example/gentle_bucket/gentlebucket/Decision"))).before args0 about1 = true := code_word (m := ⟨3, 1⟩) (meth := k3m1) (c := k3c1) (by decide +kernel) rfl rfl rfl (by decide +kernel)
set_option maxRecDepth 65536 in
theorem w_c23 : (Jvm.Cond.code ({ cls := "com/example/gentle_bucket/gentlebucket/Meter", name := "waitNanos", desc := "(JJ)J" } : Jvm.MethodName) prog_12_method_4_code (9 : Nat) (Option.some Jvm.ClassFile.FieldType.long)).before args0 about1 = true := code_word (m := ⟨4, 2⟩) (meth := k4m2) (c := k4c2) (by decide +kernel) rfl rfl rfl (by decide +kernel)
set_option maxRecDepth 65536 in
theorem w_c24 : (Jvm.Cond.code ({ cls := "com/example/gentle_bucket/gentlebucket/Asks", name := "checkCost", desc := "(J)V" } : Jvm.MethodName) prog_1_method_2_code (2 : Nat) (Option.none : Option Jvm.ClassFile.FieldType)).before args0 about1 = true := code_word (m := ⟨17, 1⟩) (meth := k17m1) (c := k17c1) (by decide +kernel) rfl rfl rfl (by decide +kernel)
set_option maxRecDepth 65536 in
theorem w_c25 : (Jvm.Cond.code ({ cls := "com/example/gentle_bucket/gentlebucket/Meter", name := "drainUntil", desc := "(J)V" } : Jvm.MethodName) prog_12_method_9_code (3 : Nat) (Option.none : Option Jvm.ClassFile.FieldType)).before args0 about1 = true := code_word (m := ⟨4, 5⟩) (meth := k4m5) (c := k4c5) (by decide +kernel) rfl rfl rfl (by decide +kernel)
set_option maxRecDepth 65536 in
theorem w_c26 : (Jvm.Cond.code ({ cls := "com/example/gentle_bucket/gentlebucket/Meter", name := "levelAt", desc := "(J)Lcom/example/gentle_bucket/gentlebucket/Uint128;" } : Jvm.MethodName) prog_12_method_10_code (5 : Nat) (Option.some (Jvm.ClassFile.FieldType.object "com/example/gentle_bucket/gentlebucket/Uint128"))).before args0 about1 = true := code_word (m := ⟨4, 6⟩) (meth := k4m6) (c := k4c6) (by decide +kernel) rfl rfl rfl (by decide +kernel)
set_option maxRecDepth 65536 in
theorem w_c27 : (Jvm.Cond.code ({ cls := "com/example/gentle_bucket/gentlebucket/Contract", name := "rate", desc := "()Lcom/example/gentle_bucket/gentlebucket/Rate;" } : Jvm.MethodName) prog_3_method_4_code (1 : Nat) (Option.some (Jvm.ClassFile.FieldType.object "com/example/gentle_bucket/gentlebucket/Rate"))).before args0 about1 = true := code_word (m := ⟨5, 2⟩) (meth := k5m2) (c := k5c2) (by decide +kernel) rfl rfl rfl (by decide +kernel)
set_option maxRecDepth 65536 in
theorem w_c28 : (Jvm.Cond.code ({ cls := "com/example/gentle_bucket/gentlebucket/Rate", name := "amount", desc := "()J" } : Jvm.MethodName) prog_15_method_3_code (1 : Nat) (Option.some Jvm.ClassFile.FieldType.long)).before args0 about1 = true := code_word (m := ⟨6, 1⟩) (meth := k6m1) (c := k6c1) (by decide +kernel) rfl rfl rfl (by decide +kernel)
set_option maxRecDepth 65536 in
theorem w_c29 : (Jvm.Cond.code ({ cls := "com/example/gentle_bucket/gentlebucket/Meter", name := "level", desc := "()Lcom/example/gentle_bucket/gentlebucket/Uint128;" } : Jvm.MethodName) prog_12_method_11_code (1 : Nat) (Option.some (Jvm.ClassFile.FieldType.object "com/example/gentle_bucket/gentlebucket/Uint128"))).before args0 about1 = true := code_word (m := ⟨4, 7⟩) (meth := k4m7) (c := k4c7) (by decide +kernel) rfl rfl rfl (by decide +kernel)
set_option maxRecDepth 65536 in
theorem w_c30 : (Jvm.Cond.code ({ cls := "com/example/gentle_bucket/gentlebucket/Uint128", name := "of", desc := "(JJ)Lcom/example/gentle_bucket/gentlebucket/Uint128;" } : Jvm.MethodName) prog_17_method_2_code (4 : Nat) (Option.some (Jvm.ClassFile.FieldType.object "com/example/gentle_bucket/gentlebucket/Uint128"))).before args0 about1 = true := code_word (m := ⟨14, 1⟩) (meth := k14m1) (c := k14c1) (by decide +kernel) rfl rfl rfl (by decide +kernel)
set_option maxRecDepth 65536 in
theorem w_c31 : (Jvm.Cond.code ({ cls := "com/example/gentle_bucket/gentlebucket/Uint128", name := "compareTo", desc := "(Lcom/example/gentle_bucket/gentlebucket/Uint128;)I" } : Jvm.MethodName) prog_17_method_13_code (3 : Nat) (Option.some Jvm.ClassFile.FieldType.int)).before args0 about1 = true := code_word (m := ⟨14, 9⟩) (meth := k14m9) (c := k14c9) (by decide +kernel) rfl rfl rfl (by decide +kernel)
set_option maxRecDepth 65536 in
theorem w_c32 : (Jvm.Cond.code ({ cls := "java/lang/Long", name := "compareUnsigned", desc := "(JJ)I" } : Jvm.MethodName) jdk_35_method_43_code (4 : Nat) (Option.some Jvm.ClassFile.FieldType.int)).before args0 about1 = true := code_word (m := ⟨16, 1⟩) (meth := k16m1) (c := k16c1) (by decide +kernel) rfl rfl rfl (by decide +kernel)
set_option maxRecDepth 65536 in
theorem w_c33 : (Jvm.Cond.code ({ cls := "java/lang/Long", name := "compare", desc := "(JJ)I" } : Jvm.MethodName) jdk_35_method_42_code (4 : Nat) (Option.some Jvm.ClassFile.FieldType.int)).before args0 about1 = true := code_word (m := ⟨16, 0⟩) (meth := k16m0) (c := k16c0) (by decide +kernel) rfl rfl rfl (by decide +kernel)
set_option maxRecDepth 65536 in
theorem w_c34 : (Jvm.Cond.code ({ cls := "com/example/gentle_bucket/gentlebucket/Meter", name := "setLevel", desc := "(Lcom/example/gentle_bucket/gentlebucket/Uint128;)V" } : Jvm.MethodName) prog_12_method_12_code (2 : Nat) (Option.none : Option Jvm.ClassFile.FieldType)).before args0 about1 = true := code_word (m := ⟨4, 8⟩) (meth := k4m8) (c := k4c8) (by decide +kernel) rfl rfl rfl (by decide +kernel)
set_option maxRecDepth 65536 in
theorem w_c35 : (Jvm.Cond.code ({ cls := "com/example/gentle_bucket/gentlebucket/Uint128", name := "high", desc := "()J" } : Jvm.MethodName) prog_17_method_3_code (1 : Nat) (Option.some Jvm.ClassFile.FieldType.long)).before args0 about1 = true := code_word (m := ⟨14, 2⟩) (meth := k14m2) (c := k14c2) (by decide +kernel) rfl rfl rfl (by decide +kernel)
set_option maxRecDepth 65536 in
theorem w_c36 : (Jvm.Cond.code ({ cls := "com/example/gentle_bucket/gentlebucket/Uint128", name := "low", desc := "()J" } : Jvm.MethodName) prog_17_method_4_code (1 : Nat) (Option.some Jvm.ClassFile.FieldType.long)).before args0 about1 = true := code_word (m := ⟨14, 3⟩) (meth := k14m3) (c := k14c3) (by decide +kernel) rfl rfl rfl (by decide +kernel)
set_option maxRecDepth 65536 in
theorem w_c37 : (Jvm.Cond.code ({ cls := "com/example/gentle_bucket/gentlebucket/Uint128", name := "plus", desc := "(Lcom/example/gentle_bucket/gentlebucket/Uint128;)Lcom/example/gentle_bucket/gentlebucket/Uint128;" } : Jvm.MethodName) prog_17_method_6_code (10 : Nat) (Option.some (Jvm.ClassFile.FieldType.object "com/example/gentle_bucket/gentlebucket/Uint128"))).before args0 about1 = true := code_word (m := ⟨14, 5⟩) (meth := k14m5) (c := k14c5) (by decide +kernel) rfl rfl rfl (by decide +kernel)
set_option maxRecDepth 65536 in
theorem w_c38 : (Jvm.Cond.code ({ cls := "com/example/gentle_bucket/gentlebucket/Contract", name := "depth", desc := "()Lcom/example/gentle_bucket/gentlebucket/Uint128;" } : Jvm.MethodName) prog_3_method_9_code (1 : Nat) (Option.some (Jvm.ClassFile.FieldType.object "com/example/gentle_bucket/gentlebucket/Uint128"))).before args0 about1 = true := code_word (m := ⟨5, 4⟩) (meth := k5m4) (c := k5c4) (by decide +kernel) rfl rfl rfl (by decide +kernel)
set_option maxRecDepth 65536 in
theorem w_c39 : (Jvm.Cond.code ({ cls := "com/example/gentle_bucket/gentlebucket/Meter", name := "add", desc := "(JJ)V" } : Jvm.MethodName) prog_12_method_8_code (5 : Nat) (Option.none : Option Jvm.ClassFile.FieldType)).before args0 about1 = true := code_word (m := ⟨4, 4⟩) (meth := k4m4) (c := k4c4) (by decide +kernel) rfl rfl rfl (by decide +kernel)
set_option maxRecDepth 65536 in
theorem w_c40 : (Jvm.Cond.code ({ cls := "com/example/gentle_bucket/gentlebucket/Decision", name := "conforms", desc := "()Z" } : Jvm.MethodName) prog_4_method_4_code (1 : Nat) (Option.some Jvm.ClassFile.FieldType.boolean)).before args0 about1 = true := code_word (m := ⟨18, 0⟩) (meth := k18m0) (c := k18c0) (by decide +kernel) rfl rfl rfl (by decide +kernel)
def codes1 : List Jvm.Cond := [Jvm.Cond.code x code maxLocals ret, Jvm.Cond.code ({ cls := "java/lang/Math", name := "max", desc := "(JJ)J" } : Jvm.MethodName) jdk_29_method_66_code (4 : Nat) (Option.some Jvm.ClassFile.FieldType.long), Jvm.Cond.code ({ cls := "com/example/gentle_bucket/gentlebucket/Rate", name := "<init>", desc := "(JJ)V" } : Jvm.MethodName) prog_15_method_1_code (6 : Nat) (Option.none : Option Jvm.ClassFile.FieldType), Jvm.Cond.code ({ cls := "java/lang/Object", name := "<init>", desc := "()V" } : Jvm.MethodName) object_method_1_code (1 : Nat) (Option.none : Option Jvm.ClassFile.FieldType), Jvm.Cond.code ({ cls := "com/example/gentle_bucket/gentlebucket/Rate", name := "refusal", desc := "(JJ)Ljava/lang/String;" } : Jvm.MethodName) prog_15_method_6_code (5 : Nat) (Option.some (Jvm.ClassFile.FieldType.object "java/lang/String")), Jvm.Cond.code ({ cls := "com/example/gentle_bucket/gentlebucket/Contract", name := "<init>", desc := "(Lcom/example/gentle_bucket/gentlebucket/Rate;J)V" } : Jvm.MethodName) prog_3_method_1_code (4 : Nat) (Option.none : Option Jvm.ClassFile.FieldType), Jvm.Cond.code ({ cls := "com/example/gentle_bucket/gentlebucket/Contract", name := "atLeastOne", desc := "(J)J" } : Jvm.MethodName) prog_3_method_12_code (2 : Nat) (Option.some Jvm.ClassFile.FieldType.long), Jvm.Cond.code ({ cls := "java/util/Objects", name := "requireNonNull", desc := "(Ljava/lang/Object;Ljava/lang/String;)Ljava/lang/Object;" } : Jvm.MethodName) jdk_31_method_11_code (2 : Nat) (Option.some (Jvm.ClassFile.FieldType.object "java/lang/Object")), Jvm.Cond.code ({ cls := "com/example/gentle_bucket/gentlebucket/Rate", name := "periodNanos", desc := "()J" } : Jvm.MethodName) prog_15_method_4_code (1 : Nat) (Option.some Jvm.ClassFile.FieldType.long), Jvm.Cond.code ({ cls := "com/example/gentle_bucket/gentlebucket/Uint128", name := "product", desc := "(JJ)Lcom/example/gentle_bucket/gentlebucket/Uint128;" } : Jvm.MethodName) prog_17_method_5_code (6 : Nat) (Option.some (Jvm.ClassFile.FieldType.object "com/example/gentle_bucket/gentlebucket/Uint128")), Jvm.Cond.code ({ cls := "java/lang/Math", name := "multiplyHigh", desc := "(JJ)J" } : Jvm.MethodName) jdk_29_method_45_code (20 : Nat) (Option.some Jvm.ClassFile.FieldType.long), Jvm.Cond.code ({ cls := "com/example/gentle_bucket/gentlebucket/Uint128", name := "<init>", desc := "(JJ)V" } : Jvm.MethodName) prog_17_method_1_code (5 : Nat) (Option.none : Option Jvm.ClassFile.FieldType), Jvm.Cond.code ({ cls := "com/example/gentle_bucket/gentlebucket/Contract", name := "<init>", desc := "(Lcom/example/gentle_bucket/gentlebucket/Rate;Lcom/example/gentle_bucket/gentlebucket/Uint128;)V" } : Jvm.MethodName) prog_3_method_2_code (3 : Nat) (Option.none : Option Jvm.ClassFile.FieldType), Jvm.Cond.code ({ cls := "com/example/gentle_bucket/gentlebucket/Uint128", name := "dividedRoundingDown", desc := "(J)Lcom/example/gentle_bucket/gentlebucket/Uint128;" } : Jvm.MethodName) prog_17_method_9_code (3 : Nat) (Option.some (Jvm.ClassFile.FieldType.object "com/example/gentle_bucket/gentlebucket/Uint128")), Jvm.Cond.code ({ cls := "com/example/gentle_bucket/gentlebucket/Uint128", name := "divided", desc := "(JZ)Lcom/example/gentle_bucket/gentlebucket/Uint128;" } : Jvm.MethodName) prog_17_method_10_code (11 : Nat) (Option.some (Jvm.ClassFile.FieldType.object "com/example/gentle_bucket/gentlebucket/Uint128")), Jvm.Cond.code ({ cls := "java/lang/Long", name := "divideUnsigned", desc := "(JJ)J" } : Jvm.MethodName) jdk_35_method_44_code (8 : Nat) (Option.some Jvm.ClassFile.FieldType.long), Jvm.Cond.code ({ cls := "com/example/gentle_bucket/gentlebucket/Uint128", name := "toLongSaturated", desc := "()J" } : Jvm.MethodName) prog_17_method_12_code (1 : Nat) (Option.some Jvm.ClassFile.FieldType.long), Jvm.Cond.code ({ cls := "com/example/gentle_bucket/gentlebucket/Meter", name := "<init>", desc := "(Lcom/example/gentle_bucket/gentlebucket/Contract;)V" } : Jvm.MethodName) prog_12_method_2_code (2 : Nat) (Option.none : Option Jvm.ClassFile.FieldType), Jvm.Cond.code ({ cls := "com/example/gentle_bucket/gentlebucket/Bucket", name := "<init>", desc := "()V" } : Jvm.MethodName) prog_2_method_1_code (1 : Nat) (Option.none : Option Jvm.ClassFile.FieldType), Jvm.Cond.code ({ cls := "com/example/gentle_bucket/gentlebucket/Meter", name := "neverFits", desc := "(J)Z" } : Jvm.MethodName) prog_12_method_5_code (3 : Nat) (Option.some Jvm.ClassFile.FieldType.boolean), Jvm.Cond.code ({ cls := "com/example/gentle_bucket/gentlebucket/Contract", name := "burst", desc := "()J" } : Jvm.MethodName) prog_3_method_5_code (1 : Nat) (Option.some Jvm.ClassFile.FieldType.long), Jvm.Cond.code ({ cls := "com/example/gentle_bucket/gentlebucket/Meter", name := "offer", desc := "(JJ)Z" } : Jvm.MethodName) prog_12_method_3_code (5 : Nat) (Option.some Jvm.ClassFile.FieldType.boolean), Jvm.Cond.code ({ cls := "com/example/gentle_bucket/gentlebucket/Bucket", name := "decide", desc := "(JJ)Lcom/example/gentle_bucket/gentlebucket/Decision;" } : Jvm.MethodName) prog_2_method_3_code (8 : Nat) (Option.some (Jvm.ClassFile.FieldType.object "com/example/gentle_bucket/gentlebucket/Decision")), Jvm.Cond.code ({ cls := "com/example/gentle_bucket/gentlebucket/Meter", name := "waitNanos", desc := "(JJ)J" } : Jvm.MethodName) prog_12_method_4_code (9 : Nat) (Option.some Jvm.ClassFile.FieldType.long), Jvm.Cond.code ({ cls := "com/example/gentle_bucket/gentlebucket/Asks", name := "checkCost", desc := "(J)V" } : Jvm.MethodName) prog_1_method_2_code (2 : Nat) (Option.none : Option Jvm.ClassFile.FieldType), Jvm.Cond.code ({ cls := "com/example/gentle_bucket/gentlebucket/Meter", name := "drainUntil", desc := "(J)V" } : Jvm.MethodName) prog_12_method_9_code (3 : Nat) (Option.none : Option Jvm.ClassFile.FieldType), Jvm.Cond.code ({ cls := "com/example/gentle_bucket/gentlebucket/Meter", name := "levelAt", desc := "(J)Lcom/example/gentle_bucket/gentlebucket/Uint128;" } : Jvm.MethodName) prog_12_method_10_code (5 : Nat) (Option.some (Jvm.ClassFile.FieldType.object "com/example/gentle_bucket/gentlebucket/Uint128")), Jvm.Cond.code ({ cls := "com/example/gentle_bucket/gentlebucket/Contract", name := "rate", desc := "()Lcom/example/gentle_bucket/gentlebucket/Rate;" } : Jvm.MethodName) prog_3_method_4_code (1 : Nat) (Option.some (Jvm.ClassFile.FieldType.object "com/example/gentle_bucket/gentlebucket/Rate")), Jvm.Cond.code ({ cls := "com/example/gentle_bucket/gentlebucket/Rate", name := "amount", desc := "()J" } : Jvm.MethodName) prog_15_method_3_code (1 : Nat) (Option.some Jvm.ClassFile.FieldType.long), Jvm.Cond.code ({ cls := "com/example/gentle_bucket/gentlebucket/Meter", name := "level", desc := "()Lcom/example/gentle_bucket/gentlebucket/Uint128;" } : Jvm.MethodName) prog_12_method_11_code (1 : Nat) (Option.some (Jvm.ClassFile.FieldType.object "com/example/gentle_bucket/gentlebucket/Uint128")), Jvm.Cond.code ({ cls := "com/example/gentle_bucket/gentlebucket/Uint128", name := "of", desc := "(JJ)Lcom/example/gentle_bucket/gentlebucket/Uint128;" } : Jvm.MethodName) prog_17_method_2_code (4 : Nat) (Option.some (Jvm.ClassFile.FieldType.object "com/example/gentle_bucket/gentlebucket/Uint128")), Jvm.Cond.code ({ cls := "com/example/gentle_bucket/gentlebucket/Uint128", name := "compareTo", desc := "(Lcom/example/gentle_bucket/gentlebucket/Uint128;)I" } : Jvm.MethodName) prog_17_method_13_code (3 : Nat) (Option.some Jvm.ClassFile.FieldType.int), Jvm.Cond.code ({ cls := "java/lang/Long", name := "compareUnsigned", desc := "(JJ)I" } : Jvm.MethodName) jdk_35_method_43_code (4 : Nat) (Option.some Jvm.ClassFile.FieldType.int), Jvm.Cond.code ({ cls := "java/lang/Long", name := "compare", desc := "(JJ)I" } : Jvm.MethodName) jdk_35_method_42_code (4 : Nat) (Option.some Jvm.ClassFile.FieldType.int), Jvm.Cond.code ({ cls := "com/example/gentle_bucket/gentlebucket/Meter", name := "setLevel", desc := "(Lcom/example/gentle_bucket/gentlebucket/Uint128;)V" } : Jvm.MethodName) prog_12_method_12_code (2 : Nat) (Option.none : Option Jvm.ClassFile.FieldType), Jvm.Cond.code ({ cls := "com/example/gentle_bucket/gentlebucket/Uint128", name := "high", desc := "()J" } : Jvm.MethodName) prog_17_method_3_code (1 : Nat) (Option.some Jvm.ClassFile.FieldType.long), Jvm.Cond.code ({ cls := "com/example/gentle_bucket/gentlebucket/Uint128", name := "low", desc := "()J" } : Jvm.MethodName) prog_17_method_4_code (1 : Nat) (Option.some Jvm.ClassFile.FieldType.long), Jvm.Cond.code ({ cls := "com/example/gentle_bucket/gentlebucket/Uint128", name := "plus", desc := "(Lcom/example/gentle_bucket/gentlebucket/Uint128;)Lcom/example/gentle_bucket/gentlebucket/Uint128;" } : Jvm.MethodName) prog_17_method_6_code (10 : Nat) (Option.some (Jvm.ClassFile.FieldType.object "com/example/gentle_bucket/gentlebucket/Uint128")), Jvm.Cond.code ({ cls := "com/example/gentle_bucket/gentlebucket/Contract", name := "depth", desc := "()Lcom/example/gentle_bucket/gentlebucket/Uint128;" } : Jvm.MethodName) prog_3_method_9_code (1 : Nat) (Option.some (Jvm.ClassFile.FieldType.object "com/example/gentle_bucket/gentlebucket/Uint128")), Jvm.Cond.code ({ cls := "com/example/gentle_bucket/gentlebucket/Meter", name := "add", desc := "(JJ)V" } : Jvm.MethodName) prog_12_method_8_code (5 : Nat) (Option.none : Option Jvm.ClassFile.FieldType), Jvm.Cond.code ({ cls := "com/example/gentle_bucket/gentlebucket/Decision", name := "conforms", desc := "()Z" } : Jvm.MethodName) prog_4_method_4_code (1 : Nat) (Option.some Jvm.ClassFile.FieldType.boolean)]
set_option maxRecDepth 65536 in
theorem codes_eq : words1.filter isCode = codes1 := rfl
theorem w_codes : ∀ c ∈ words1.filter isCode, c.before args0 about1 = true := by
  rw [codes_eq]
  intro c hc
  simp only [codes1, List.mem_cons, List.not_mem_nil, or_false] at hc
  rcases hc with rfl | rfl | rfl | rfl | rfl | rfl | rfl | rfl | rfl | rfl | rfl | rfl | rfl | rfl | rfl | rfl | rfl | rfl | rfl | rfl | rfl | rfl | rfl | rfl | rfl | rfl | rfl | rfl | rfl | rfl | rfl | rfl | rfl | rfl | rfl | rfl | rfl | rfl | rfl | rfl | rfl
  · exact w_c0
  · exact w_c1
  · exact w_c2
  · exact w_c3
  · exact w_c4
  · exact w_c5
  · exact w_c6
  · exact w_c7
  · exact w_c8
  · exact w_c9
  · exact w_c10
  · exact w_c11
  · exact w_c12
  · exact w_c13
  · exact w_c14
  · exact w_c15
  · exact w_c16
  · exact w_c17
  · exact w_c18
  · exact w_c19
  · exact w_c20
  · exact w_c21
  · exact w_c22
  · exact w_c23
  · exact w_c24
  · exact w_c25
  · exact w_c26
  · exact w_c27
  · exact w_c28
  · exact w_c29
  · exact w_c30
  · exact w_c31
  · exact w_c32
  · exact w_c33
  · exact w_c34
  · exact w_c35
  · exact w_c36
  · exact w_c37
  · exact w_c38
  · exact w_c39
  · exact w_c40
set_option maxRecDepth 65536 in
theorem w_t1 : (words1.take 24).all (fun c => isCode c || c.before args0 about1) = true := by decide +kernel
set_option maxRecDepth 65536 in
theorem w_t2 : ((words1.drop 24).take 24).all (fun c => isCode c || c.before args0 about1) = true := by decide +kernel
set_option maxRecDepth 65536 in
theorem w_t3 : (((words1.drop 24).drop 24).take 24).all (fun c => isCode c || c.before args0 about1) = true := by decide +kernel
set_option maxRecDepth 65536 in
theorem w_t4 : ((((words1.drop 24).drop 24).drop 24).take 24).all (fun c => isCode c || c.before args0 about1) = true := by decide +kernel
set_option maxRecDepth 65536 in
theorem w_t5 : (((((words1.drop 24).drop 24).drop 24).drop 24).take 24).all (fun c => isCode c || c.before args0 about1) = true := by decide +kernel
set_option maxRecDepth 65536 in
theorem w_t6 : ((((((words1.drop 24).drop 24).drop 24).drop 24).drop 24).take 24).all (fun c => isCode c || c.before args0 about1) = true := by decide +kernel
set_option maxRecDepth 65536 in
theorem w_t7 : (((((((words1.drop 24).drop 24).drop 24).drop 24).drop 24).drop 24).take 24).all (fun c => isCode c || c.before args0 about1) = true := by decide +kernel
set_option maxRecDepth 65536 in
theorem w_t8 : ((((((((words1.drop 24).drop 24).drop 24).drop 24).drop 24).drop 24).drop 24).take 24).all (fun c => isCode c || c.before args0 about1) = true := by decide +kernel
set_option maxRecDepth 65536 in
theorem w_t9 : (((((((((words1.drop 24).drop 24).drop 24).drop 24).drop 24).drop 24).drop 24).drop 24).take 24).all (fun c => isCode c || c.before args0 about1) = true := by decide +kernel
set_option maxRecDepth 65536 in
theorem w_t10 : ((((((((((words1.drop 24).drop 24).drop 24).drop 24).drop 24).drop 24).drop 24).drop 24).drop 24).take 24).all (fun c => isCode c || c.before args0 about1) = true := by decide +kernel
set_option maxRecDepth 65536 in
theorem w_t11 : ((((((((((words1.drop 24).drop 24).drop 24).drop 24).drop 24).drop 24).drop 24).drop 24).drop 24).drop 24).all (fun c => isCode c || c.before args0 about1) = true := by decide +kernel
theorem w_tables : (allAtoms (Jvm.Cond.code x code maxLocals ret :: tables_1)).before args0 about1 = true := by
  rw [allAtoms_all]
  show words1.all (fun c => c.before args0 about1) = true
  refine all_split ?_ w_codes
  rw [← List.take_append_drop 24 words1, List.all_append, w_t1, ← List.take_append_drop 24 (words1.drop 24), List.all_append, w_t2, ← List.take_append_drop 24 ((words1.drop 24).drop 24), List.all_append, w_t3, ← List.take_append_drop 24 (((words1.drop 24).drop 24).drop 24), List.all_append, w_t4, ← List.take_append_drop 24 ((((words1.drop 24).drop 24).drop 24).drop 24), List.all_append, w_t5, ← List.take_append_drop 24 (((((words1.drop 24).drop 24).drop 24).drop 24).drop 24), List.all_append, w_t6, ← List.take_append_drop 24 ((((((words1.drop 24).drop 24).drop 24).drop 24).drop 24).drop 24), List.all_append, w_t7, ← List.take_append_drop 24 (((((((words1.drop 24).drop 24).drop 24).drop 24).drop 24).drop 24).drop 24), List.all_append, w_t8, ← List.take_append_drop 24 ((((((((words1.drop 24).drop 24).drop 24).drop 24).drop 24).drop 24).drop 24).drop 24), List.all_append, w_t9, ← List.take_append_drop 24 (((((((((words1.drop 24).drop 24).drop 24).drop 24).drop 24).drop 24).drop 24).drop 24).drop 24), List.all_append, w_t10, w_t11]
  rfl
set_option maxRecDepth 65536 in
theorem w_case : (Jvm.Cond.and given_1 narrow_1).before args0 about1 = true := by decide +kernel
theorem w_applies : (headSpec (Jvm.Cond.code x code maxLocals ret :: tables_1) room_1).applies x e0.platform about1 = true :=
  (Spec.applies_iff w_frames).mpr ⟨w_running, w_runnable, w_alone, w_named, w_hears, w_ripe, w_room, w_tables⟩
theorem atStart : AtStart classFile x code maxLocals ret World_1 tables_1 room_1 Calls_1 rest_1 Pre_1 launch0 p0 e0 about1 theMethod args0 below0 :=
  ⟨lists_1, trivial, launch0.admits_env _ _ _, launch0.least_env, fairChoices_fair.cas, fairChoices_fair.clock, w_frames, w_args, w_heap, w_applies, trivial, trivial, w_case⟩
end start1
theorem witness_1 : WitnessClaimed_1 := ⟨start1.p0, start1.e0, start1.about1, start1.theMethod, start1.args0, start1.below0, start1.atStart⟩
end Jvm.Pilot.@@N@@
