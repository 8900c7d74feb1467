import JvmDerived
import JvmDerived.Pilot.@@N@@Statement
import JvmDerived.Pilot.@@N@@Code
set_option linter.unusedVariables false
set_option linter.unusedSimpArgs false
namespace Jvm.Pilot.@@N@@
open Jvm Jvm.ClassFile Sem Op Lib Jvm.Free Jvm.Stand Jvm.LawKit Jvm.RoadKit Bundle Jvm.Pilot.@@N@@.Jvm.D
/-! a run from here comes to the end of the invocation, and Q holds there -/
section OwnWp
variable {p : Program} {l : Launch} {e : Env} {R : Room} {s : State} {m : MethodId} {args : Array Value} {below : List Frame} {meth : Method} {c : Code} {T : State} {locs : List Loc} {cells slots : Nat}
def Wp (p : Program) (e : Env) (below : List Frame) (Q : Outcome → State → Prop) (A : State) : Prop := ∃ s₂ o, Steps p.tables e below A s₂ ∧ s₂.status = .running ∧ Ended s₂ below o ∧ Q o s₂
def Out (s : State) (Q : Option Value → Heap → List Loc → Prop) (k n : Nat) (o : Outcome) (t : State) : Prop := ∃ v L, o = .returned v ∧ Q v t.heap L ∧ FrameEnd s o t L k n
theorem Wp.step {Q : Outcome → State → Prop} {A B : State} (h : ∀ t, Steps p.tables e below B t → Steps p.tables e below A t) (k : Wp p e below Q B) : Wp p e below Q A := by
  obtain ⟨s₂, o, h1, h2⟩ := k; exact ⟨s₂, o, h _ h1, h2⟩
theorem Wp.go {Q : Outcome → State → Prop} {A B : State} (h : Steps p.tables e below A B) (k : Wp p e below Q B) : Wp p e below Q A := Wp.step (fun _ q => h.trans q) k
theorem Wp.out (X : Stand p l e R s m args below meth c T locs cells slots) {A : State} {v : Option Value} {Q : Option Value → Heap → List Loc → Prop} {k n : Nat} (hv : meth.sig.returnType = none → v = none) (hlk : meth.locks = false)
    (hs : ∀ fs, (∀ (f : JFrame) (acts : List Action), f.method = m → f.locked = none → f.entered = [] → (doReturn e (T.setTop f) acts v).1 = T.setFrames fs) → Steps p.tables e below A (T.setFrames fs)) (hQ : Q v T.heap locs) (hk : cells ≤ k) (hn : slots ≤ n) : Wp p e below (Out s Q k n) A := by
  obtain ⟨fs, hr, hrun, hended, hW, hsame⟩ := X.leave (v := v) hv hlk
  exact ⟨_, _, hs fs hr, hrun, hended, _, _, rfl, hQ, ⟨_, rfl⟩, hW, hsame.mono hk hn⟩
theorem Wp.retV (X : Stand p l e R s m args below meth c T locs cells slots) (hx : p.tables.exec = Jvm.exec) {pc : Nat} {Ls : Array Slot} {Q : Option Value → Heap → List Loc → Prop} {k n : Nat} (hret : meth.sig.returnType = none) (hd : decode c.code pc = .ok (.return_, 1)) (hlk : meth.locks = false)
    (hQ : Q none T.heap locs) (hk : cells ≤ k) (hn : slots ≤ n) : Wp p e below (Out s Q k n) (T.setTop (mkF m pc Ls [])) := Wp.out X (fun _ => rfl) hlk (fun fs hr => X.returnOut hx hret hd hr) hQ hk hn
theorem Wp.retN (X : Stand p l e R s m args below meth c T locs cells slots) (hx : p.tables.exec = Jvm.exec) {pc : Nat} {Ls : Array Slot} {z : Int32} {rest : List Value} {t : FieldType} {Q : Option Value → Heap → List Loc → Prop} {k n : Nat} (hret : meth.sig.returnType = some t) (ht : t = .boolean ∨ t = .byte ∨ t = .char ∨ t = .short) (hd : decode c.code pc = .ok (.ireturn, 1)) (hlk : meth.locks = false)
    (hQ : Q (some (.int (nar t z))) T.heap locs) (hk : cells ≤ k) (hn : slots ≤ n) : Wp p e below (Out s Q k n) (T.setTop (mkF m pc Ls (.int z :: rest))) := Wp.out X (fun h => by rw [hret] at h; cases h) hlk (fun fs hr => Jvm.RoadKit.retN X hx hret ht hd hr) hQ hk hn
theorem Wp.retI (X : Stand p l e R s m args below meth c T locs cells slots) (hx : p.tables.exec = Jvm.exec) {pc : Nat} {Ls : Array Slot} {z : Int32} {rest : List Value} {Q : Option Value → Heap → List Loc → Prop} {k n : Nat} (hret : meth.sig.returnType = some .int) (hd : decode c.code pc = .ok (.ireturn, 1)) (hlk : meth.locks = false)
    (hQ : Q (some (.int z)) T.heap locs) (hk : cells ≤ k) (hn : slots ≤ n) : Wp p e below (Out s Q k n) (T.setTop (mkF m pc Ls (.int z :: rest))) := Wp.out X (fun h => by rw [hret] at h; cases h) hlk (fun fs hr => Jvm.RoadKit.retOut X hx hret rfl (Or.inl ⟨rfl, Or.inl rfl, z, rfl⟩) hd hr) hQ hk hn
theorem Wp.retJ (X : Stand p l e R s m args below meth c T locs cells slots) (hx : p.tables.exec = Jvm.exec) {pc : Nat} {Ls : Array Slot} {z : Int64} {rest : List Value} {Q : Option Value → Heap → List Loc → Prop} {k n : Nat} (hret : meth.sig.returnType = some .long) (hd : decode c.code pc = .ok (.lreturn, 1)) (hlk : meth.locks = false)
    (hQ : Q (some (.long z)) T.heap locs) (hk : cells ≤ k) (hn : slots ≤ n) : Wp p e below (Out s Q k n) (T.setTop (mkF m pc Ls (.long z :: rest))) := Wp.out X (fun h => by rw [hret] at h; cases h) hlk (fun fs hr => Jvm.RoadKit.retOut X hx hret rfl (Or.inr (Or.inl ⟨rfl, rfl, z, rfl⟩)) hd hr) hQ hk hn
theorem Wp.retA (X : Stand p l e R s m args below meth c T locs cells slots) (hx : p.tables.exec = Jvm.exec) {pc : Nat} {Ls : Array Slot} {w : Value} {rest : List Value} {t : FieldType} {Q : Option Value → Heap → List Loc → Prop} {k n : Nat} (hret : meth.sig.returnType = some t) (hw : w.isRef = true) (hd : decode c.code pc = .ok (.areturn, 1)) (hlk : meth.locks = false)
    (hQ : Q (some w) T.heap locs) (hk : cells ≤ k) (hn : slots ≤ n) (ht : t.isReference = true := by rfl) : Wp p e below (Out s Q k n) (T.setTop (mkF m pc Ls (w :: rest))) := Wp.out X (fun h => by rw [hret] at h; cases h) hlk (fun fs hr => Jvm.RoadKit.retOut X hx hret (by cases t <;> first | (cases ht; done) | (cases w <;> first | (cases hw; done) | rfl)) (Or.inr (Or.inr (Or.inr (Or.inr ⟨rfl, ht, hw⟩)))) hd hr) hQ hk hn
end OwnWp
section OwnXD
variable {tb : Tables} [Ours tb] {e : Env} {below : List Frame} {T target : State} {m : MethodId} {c : Code} {g : JFrame}
theorem own_i2d (h : At T m c below) (hx : tb.exec = Jvm.exec) (hg : g.method = m) {x : Int32} {rest : List Value} (hd : decode c.code g.pc = .ok (.i2d, 1)) (hs : g.stack = .int x :: rest)
    (hr : Steps tb e below (T.setTop { g with pc := g.pc + 1, stack := .double (FP.i2d x) :: rest }) target) : Steps tb e below (T.setTop g) target := by
  subst hg
  jvm_step h [h.top, hx, hd, hs]
  exact hr
theorem own_dloadN (h : At T m c below) (hx : tb.exec = Jvm.exec) (hg : g.method = m) {k : Fin 4} {v : UInt64} (hd : decode c.code g.pc = .ok (.dload_n k, 1)) (hl : g.locals[k.val]? = some (.val (.double v)))
    (hr : Steps tb e below (T.setTop { g with pc := g.pc + 1, stack := .double v :: g.stack }) target) : Steps tb e below (T.setTop g) target := by
  subst hg
  jvm_step h [h.top, hx, hd, hl]
  exact hr
theorem own_dload (h : At T m c below) (hx : tb.exec = Jvm.exec) (hg : g.method = m) {k : Nat} {v : UInt64} (hd : decode c.code g.pc = .ok (.dload k, 2)) (hl : g.locals[k]? = some (.val (.double v)))
    (hr : Steps tb e below (T.setTop { g with pc := g.pc + 2, stack := .double v :: g.stack }) target) : Steps tb e below (T.setTop g) target := by
  subst hg
  jvm_step h [h.top, hx, hd, hl]
  exact hr
theorem own_dstoreN (h : At T m c below) (hx : tb.exec = Jvm.exec) (hg : g.method = m) {k : Fin 4} {x : UInt64} {rest : List Value} {l' : Array Slot} (hd : decode c.code g.pc = .ok (.dstore_n k, 1)) (hs : g.stack = .double x :: rest) (hl : storeLocals g.locals k.val (.double x) = some l')
    (hr : Steps tb e below (T.setTop { g with pc := g.pc + 1, locals := l', stack := rest }) target) : Steps tb e below (T.setTop g) target := by
  subst hg
  jvm_step h [h.top, hx, hd, hs, hl]
  exact hr
theorem own_dstore (h : At T m c below) (hx : tb.exec = Jvm.exec) (hg : g.method = m) {k : Nat} {x : UInt64} {rest : List Value} {l' : Array Slot} (hd : decode c.code g.pc = .ok (.dstore k, 2)) (hs : g.stack = .double x :: rest) (hl : storeLocals g.locals k (.double x) = some l')
    (hr : Steps tb e below (T.setTop { g with pc := g.pc + 2, locals := l', stack := rest }) target) : Steps tb e below (T.setTop g) target := by
  subst hg
  jvm_step h [h.top, hx, hd, hs, hl]
  exact hr
theorem own_dcmp (h : At T m c below) (hx : tb.exec = Jvm.exec) (hg : g.method = m) {op : CmpOp} {x y : UInt64} {rest : List Value} (hd : decode c.code g.pc = .ok (.dcmp op, 1)) (hs : g.stack = .double y :: .double x :: rest)
    (hr : Steps tb e below (T.setTop { g with pc := g.pc + 1, stack := .int (cmpValue (FP.dcmp x y) op) :: rest }) target) : Steps tb e below (T.setTop g) target := by
  subst hg
  jvm_step h [h.top, hx, hd, hs, dcmp.wp_sem]
  exact hr
theorem own_ddiv (h : At T m c below) (hx : tb.exec = Jvm.exec) (hg : g.method = m) {x y : UInt64} {rest : List Value} (hd : decode c.code g.pc = .ok (.ddiv, 1)) (hs : g.stack = .double y :: .double x :: rest) (hn : FP.ddiv x y &&& 0x7fffffffffffffff ≤ 0x7ff0000000000000)
    (hr : Steps tb e below (T.setTop { g with pc := g.pc + 1, stack := .double (FP.ddiv x y) :: rest }) target) : Steps tb e below (T.setTop g) target := by
  subst hg
  obtain ⟨gm, gpc, gl, gs, glk, gen, gmr⟩ := g
  dsimp only at hs
  subst hs
  jvm_step h [h.top, hx, hd, Op.ddiv.at_number h.top hn]
  exact hr
end OwnXD
/-! the double a is exactly n / 2^k -/
def own_val (a : UInt64) (n : Int) (k : Nat) : Prop := ∃ (s : Bool) (c : Nat) (q : Int), FP.Core.val64 a = FP.Core.Datum.fin s c q ∧ ∀ e : Int, e ≤ q → e ≤ -(k : Int) → FP.Core.signed s (FP.Core.inUnits c q e) = n * (2 ^ (-(k : Int) - e).toNat : Nat)
theorem own_inU (c : Nat) (q e : Int) : FP.Core.inUnits c q e = c * 2 ^ (q - e).toNat := rfl
theorem own_sg (s : Bool) (c : Nat) : FP.Core.signed s c = if s then -(c : Int) else (c : Int) := rfl
theorem own_quot (f : FP.Core.Fmt) (s t : Bool) (c d : Nat) (q r : Int) : FP.Core.quotient f (.fin s c q) (.fin t d r) = if d = 0 then (if c = 0 then .nan else .inf (s != t)) else FP.Core.roundRatio f (s != t) c d (q - r) := rfl
theorem own_cmpI (x y : Int) : compare x y = if x < y then .lt else if x = y then .eq else .gt := rfl
theorem own_cmp_scale (x y : Int) (p : Nat) (hp : 0 < p) : compare (x * p) (y * p) = compare x y := by
  have hp' : (0 : Int) < p := by omega
  simp only [own_cmpI]
  by_cases h1 : x < y
  · rw [if_pos h1, if_pos (Int.mul_lt_mul_of_pos_right h1 hp')]
  · rw [if_neg h1, if_neg (fun q => h1 (Int.lt_of_mul_lt_mul_right q (Int.le_of_lt hp')))]
    by_cases h2 : x = y
    · rw [if_pos h2, if_pos (by rw [h2])]
    · rw [if_neg h2, if_neg (fun q => h2 (Int.eq_of_mul_eq_mul_right (by omega) q))]
theorem own_cmp {a b : UInt64} {n1 n2 : Int} {k : Nat} (A : own_val a n1 k) (B : own_val b n2 k) : FP.dcmp a b = some (compare n1 n2) := by
  obtain ⟨s, c, q, h1, h2⟩ := A
  obtain ⟨t, d, r, g1, g2⟩ := B
  have e0 : FP.dcmp a b = FP.Core.order (FP.Core.val64 a) (FP.Core.val64 b) := rfl
  rw [e0, h1, g1]
  show some (compare _ _) = _
  have hE1 : min (min q r) (-(k : Int)) ≤ min q r := by omega
  have u1 := FP.Core.inUnits_move c (q := q) (r := min q r) (e := min (min q r) (-(k : Int))) hE1 (by omega)
  have u2 := FP.Core.inUnits_move d (q := r) (r := min q r) (e := min (min q r) (-(k : Int))) hE1 (by omega)
  have v1 := h2 (min (min q r) (-(k : Int))) (by omega) (by omega)
  have v2 := g2 (min (min q r) (-(k : Int))) (by omega) (by omega)
  rw [u1, FP.Core.signed_mul] at v1
  rw [u2, FP.Core.signed_mul] at v2
  rw [← own_cmp_scale _ _ _ (Nat.two_pow_pos (min q r - min (min q r) (-(k : Int))).toNat), v1, v2, own_cmp_scale _ _ _ (Nat.two_pow_pos _)]
theorem own_ord_lt (n1 n2 : Int) (op : CmpOp) : cmpValue (some (compare n1 n2)) op < 0 ↔ n1 < n2 := by
  simp only [own_cmpI]
  by_cases h1 : n1 < n2
  · rw [if_pos h1]; exact ⟨fun _ => h1, fun _ => by cases op <;> decide⟩
  · rw [if_neg h1]
    by_cases h2 : n1 = n2
    · rw [if_pos h2]; exact ⟨fun q => absurd q (by cases op <;> decide), fun q => absurd q h1⟩
    · rw [if_neg h2]; exact ⟨fun q => absurd q (by cases op <;> decide), fun q => absurd q h1⟩
theorem own_ord_gt (n1 n2 : Int) (op : CmpOp) : 0 < cmpValue (some (compare n1 n2)) op ↔ n2 < n1 := by
  simp only [own_cmpI]
  by_cases h1 : n1 < n2
  · rw [if_pos h1]; exact ⟨fun q => absurd q (by cases op <;> decide), fun q => absurd q (by omega)⟩
  · rw [if_neg h1]
    by_cases h2 : n1 = n2
    · rw [if_pos h2]; exact ⟨fun q => absurd q (by cases op <;> decide), fun q => absurd q (by omega)⟩
    · rw [if_neg h2]; exact ⟨fun _ => by omega, fun _ => by cases op <;> decide⟩
theorem own_i2d_fin (i : Int32) (h0 : i.toInt ≠ 0) : FP.Core.val64 (FP.i2d i) = .fin (decide (i.toInt < 0)) (i.toInt.natAbs * 2 ^ (52 - i.toInt.natAbs.log2)) ((i.toInt.natAbs.log2 : Int) - 52) ∧ i.toInt.natAbs.log2 ≤ 31 := by
  have r := rng32 i
  have hn : i.toInt.natAbs ≠ 0 := by omega
  have hlt : i.toInt.natAbs < 2 ^ 32 := by omega
  have hl : i.toInt.natAbs.log2 ≤ 31 := by
    have := (Nat.log2_lt hn).mpr hlt
    omega
  have p1 : 2 ^ i.toInt.natAbs.log2 ≤ i.toInt.natAbs := Nat.log2_self_le hn
  have p2 : i.toInt.natAbs < 2 ^ (i.toInt.natAbs.log2 + 1) := Nat.lt_log2_self
  refine ⟨?_, hl⟩
  have e0 : FP.Core.val64 (FP.i2d i) = FP.Core.round FP.Core.b64 (FP.Core.ofInt i.toInt) := FP.Core.val64_i2d i
  rw [e0]
  generalize hA : i.toInt.natAbs = A at *
  generalize hL : A.log2 = L at *
  show FP.Core.roundRatio FP.Core.b64 (decide (i.toInt < 0)) i.toInt.natAbs 1 0 = _
  rw [hA]
  have ep : 2 ^ L * 2 ^ (52 - L) = 2 ^ 52 := by rw [← Nat.pow_add]; congr 1; omega
  have ep1 : 2 ^ (L + 1) * 2 ^ (52 - L) = 2 ^ 53 := by rw [← Nat.pow_add]; congr 1; omega
  have hpos : 0 < 2 ^ (52 - L) := Nat.two_pow_pos _
  refine FP.Core.roundRatio_exact FP.Core.good_b64 (by decide) ⟨?_, ?_, ?_, Or.inr ?_⟩ ?_
  · show A * 2 ^ (52 - L) < 2 ^ 53
    rw [← ep1]; exact Nat.mul_lt_mul_of_pos_right p2 hpos
  · show (FP.Core.Fmt.qmin FP.Core.b64) ≤ _
    have : FP.Core.Fmt.qmin FP.Core.b64 = -1074 := by decide
    rw [this]; omega
  · have : FP.Core.Fmt.qmax FP.Core.b64 = 971 := by decide
    rw [this]; omega
  · have : FP.Core.Fmt.tails FP.Core.b64 = 2 ^ 52 := by decide
    rw [this, ← ep]; exact Nat.mul_le_mul_right _ p1
  · have z1 : ((0 : Int) - ((L : Int) - 52)).toNat = 52 - L := by omega
    have z2 : (((L : Int) - 52) - 0).toNat = 0 := by omega
    rw [z1, z2, Nat.pow_zero, Nat.mul_one, Nat.mul_one]
theorem own_i2d_val (i : Int32) : own_val (FP.i2d i) i.toInt 0 := by
  by_cases h0 : i.toInt = 0
  · have e0 : FP.Core.val64 (FP.i2d i) = FP.Core.round FP.Core.b64 (FP.Core.ofInt i.toInt) := FP.Core.val64_i2d i
    rw [h0] at e0
    refine ⟨false, 0, FP.Core.b64.qmin, e0.trans (by decide +kernel), fun e _ _ => ?_⟩
    rw [h0]; rw [own_inU, own_sg]; simp
  · obtain ⟨e1, hl⟩ := own_i2d_fin i h0
    refine ⟨_, _, _, e1, fun e he hk => ?_⟩
    generalize hL : i.toInt.natAbs.log2 = L at *
    rw [own_inU]
    have e2 : i.toInt.natAbs * 2 ^ (52 - L) * 2 ^ ((L : Int) - 52 - e).toNat = i.toInt.natAbs * 2 ^ (-((0 : Nat) : Int) - e).toNat := by
      rw [Nat.mul_assoc, ← Nat.pow_add]; congr 2; omega
    rw [e2, FP.Core.signed_mul]
    congr 1
    rw [own_sg]
    by_cases hs : i.toInt < 0
    · simp [hs]; omega
    · simp [hs]; omega
theorem own_const {a : UInt64} {s : Bool} {n j : Nat} (h : FP.Core.val64 a = .fin s (n * 2 ^ j) (-(j : Int))) : own_val a (FP.Core.signed s n) 0 := by
  refine ⟨_, _, _, h, fun e he hk => ?_⟩
  rw [own_inU]
  have e2 : n * 2 ^ j * 2 ^ (-(j : Int) - e).toNat = n * 2 ^ (-((0 : Nat) : Int) - e).toNat := by
    rw [Nat.mul_assoc, ← Nat.pow_add]; congr 2; omega
  rw [e2, FP.Core.signed_mul]
theorem own_val_up {a : UInt64} {n : Int} (A : own_val a n 0) : own_val a (n * 256) 8 := by
  obtain ⟨s, c, q, h1, h2⟩ := A
  refine ⟨s, c, q, h1, fun e he hk => ?_⟩
  rw [h2 e he (by omega), Int.mul_assoc]
  congr 1
  have : (-((0 : Nat) : Int) - e).toNat = 8 + (-((8 : Nat) : Int) - e).toNat := by omega
  rw [this, Nat.pow_add]; simp
theorem own_c180 : own_val 4640537203540230144 180 0 := own_const (s := false) (n := 180) (j := 45) (by decide +kernel)
theorem own_cm180 : own_val 13863909240395005952 (-180) 0 := own_const (s := true) (n := 180) (j := 45) (by decide +kernel)
theorem own_c90 : own_val 4636033603912859648 90 0 := own_const (s := false) (n := 90) (j := 46) (by decide +kernel)
theorem own_cm90 : own_val 13859405640767635456 (-90) 0 := own_const (s := true) (n := 90) (j := 46) (by decide +kernel)
theorem own_div256 (i : Int32) : own_val (FP.ddiv (FP.i2d i) 4643211215818981376) i.toInt 8 := by
  have hq : FP.Core.val64 4643211215818981376 = .fin false (2 ^ 52) (-44) := by decide +kernel
  have ed : FP.Core.val64 (FP.ddiv (FP.i2d i) 4643211215818981376) = FP.Core.quotient FP.Core.b64 (FP.Core.val64 (FP.i2d i)) (FP.Core.val64 4643211215818981376) := FP.Core.val64_ddiv _ _
  rw [hq] at ed
  by_cases h0 : i.toInt = 0
  · have e0 : FP.Core.val64 (FP.i2d i) = FP.Core.round FP.Core.b64 (FP.Core.ofInt i.toInt) := FP.Core.val64_i2d i
    rw [h0] at e0
    rw [e0] at ed
    refine ⟨false, 0, FP.Core.b64.qmin, ed.trans (by decide +kernel), fun e _ _ => ?_⟩
    rw [h0]; rw [own_inU, own_sg]; simp
  · obtain ⟨e1, hl⟩ := own_i2d_fin i h0
    have r := rng32 i
    have hn : i.toInt.natAbs ≠ 0 := by omega
    have p1 : 2 ^ i.toInt.natAbs.log2 ≤ i.toInt.natAbs := Nat.log2_self_le hn
    have p2 : i.toInt.natAbs < 2 ^ (i.toInt.natAbs.log2 + 1) := Nat.lt_log2_self
    rw [e1] at ed
    generalize hA : i.toInt.natAbs = A at *
    generalize hL : A.log2 = L at *
    have ep : 2 ^ L * 2 ^ (52 - L) = 2 ^ 52 := by rw [← Nat.pow_add]; congr 1; omega
    have ep1 : 2 ^ (L + 1) * 2 ^ (52 - L) = 2 ^ 53 := by rw [← Nat.pow_add]; congr 1; omega
    have hpos : 0 < 2 ^ (52 - L) := Nat.two_pow_pos _
    have eq : FP.Core.quotient FP.Core.b64 (.fin (decide (i.toInt < 0)) (A * 2 ^ (52 - L)) ((L : Int) - 52)) (.fin false (2 ^ 52) (-44)) = .fin (decide (i.toInt < 0)) (A * 2 ^ (52 - L)) ((L : Int) - 60) := by
      have u : FP.Core.quotient FP.Core.b64 (.fin (decide (i.toInt < 0)) (A * 2 ^ (52 - L)) ((L : Int) - 52)) (.fin false (2 ^ 52) (-44)) = FP.Core.roundRatio FP.Core.b64 (decide (i.toInt < 0) != false) (A * 2 ^ (52 - L)) (2 ^ 52) (((L : Int) - 52) - (-44)) := by
        rw [own_quot, if_neg (by decide)]
      rw [u, Bool.bne_false]
      refine FP.Core.roundRatio_exact FP.Core.good_b64 (by decide) ⟨?_, ?_, ?_, Or.inr ?_⟩ ?_
      · show A * 2 ^ (52 - L) < 2 ^ 53
        rw [← ep1]; exact Nat.mul_lt_mul_of_pos_right p2 hpos
      · have : FP.Core.Fmt.qmin FP.Core.b64 = -1074 := by decide
        rw [this]; omega
      · have : FP.Core.Fmt.qmax FP.Core.b64 = 971 := by decide
        rw [this]; omega
      · have : FP.Core.Fmt.tails FP.Core.b64 = 2 ^ 52 := by decide
        rw [this, ← ep]; exact Nat.mul_le_mul_right _ p1
      · have z1 : (((L : Int) - 52) - (-44) - ((L : Int) - 60)).toNat = 52 := by omega
        have z2 : (((L : Int) - 60) - (((L : Int) - 52) - (-44))).toNat = 0 := by omega
        rw [z1, z2, Nat.pow_zero, Nat.mul_one]
    rw [eq] at ed
    refine ⟨_, _, _, ed, fun e he hk => ?_⟩
    rw [own_inU]
    have e2 : A * 2 ^ (52 - L) * 2 ^ ((L : Int) - 60 - e).toNat = A * 2 ^ (-((8 : Nat) : Int) - e).toNat := by
      rw [Nat.mul_assoc, ← Nat.pow_add]; congr 2; omega
    rw [e2, FP.Core.signed_mul]
    congr 1
    rw [own_sg]
    by_cases hs : i.toInt < 0
    · simp [hs]; omega
    · simp [hs]; omega
theorem own_noNaN (i : Int32) : FP.ddiv (FP.i2d i) 4643211215818981376 &&& 0x7fffffffffffffff ≤ 0x7ff0000000000000 := Jvm.Free.Fl.ddiv_out (Jvm.Free.Fl.i2d_fin i).noNaN (by unfold Jvm.Free.Fl.Fin64; decide) (by unfold Jvm.Free.Fl.Nz64; decide)

def own_min (u v : Int32) : Int32 := if v < u then v else u
def own_max (u v : Int32) : Int32 := if u < v then v else u
def own_inP (n1 n2 n3 n4 m1 m2 : Int) : Prop := ((n1 ≤ n3 ∧ n1 ≤ m1 ∧ m1 ≤ n3) ∨ (n3 < n1 ∧ (n1 ≤ m1 ∨ m1 ≤ n3))) ∧ n2 ≤ m2 ∧ m2 ≤ n4
theorem own_gtV {a b : UInt64} {n1 n2 : Int} {k : Nat} {op : CmpOp} (A : own_val a n1 k) (B : own_val b n2 k) : (0 : Int32) < cmpValue (FP.dcmp a b) op ↔ n2 < n1 := by
  rw [own_cmp A B]; exact own_ord_gt _ _ _
theorem own_rem (x y : Int32) (k : Int) (hy : y.toInt = k + 1) (hk : 0 ≤ k) (h0 : 0 ≤ x.toInt) : 0 ≤ (x % y).toInt ∧ (x % y).toInt ≤ k := by
  have q := (c_irem x y (k + 1) hy).1 h0
  rw [q]
  have := Int.emod_nonneg x.toInt (show k + 1 ≠ 0 by omega); have := Int.emod_lt_of_pos x.toInt (show 0 < k + 1 by omega)
  omega
theorem own_arg (p y c : Int32) (k d : Int) (hy : y.toInt = k + 1) (hc : c.toInt = d) (hk : 0 ≤ k) (hk2 : k < 1000) (hd : 0 ≤ d) (hd2 : d < 1000) : -d ≤ (((p &&& (2147483647 : Int32)) % y) - c).toInt ∧ (((p &&& (2147483647 : Int32)) % y) - c).toInt ≤ k - d := by
  have a := own_rem (p &&& 2147483647) y k hy hk (c_and p 2147483647 (by decide)).1
  have b := c_isub ((p &&& (2147483647 : Int32)) % y) c; have r := rng32 (((p &&& (2147483647 : Int32)) % y) - c)
  omega
theorem own_mm (a b : Int32) : (own_min a b).toInt ≤ (own_max a b).toInt ∧ ((own_min a b).toInt = a.toInt ∨ (own_min a b).toInt = b.toInt) ∧ ((own_max a b).toInt = a.toInt ∨ (own_max a b).toInt = b.toInt) := by
  unfold own_min own_max
  by_cases h1 : b < a
  · have h2 : ¬ a < b := by rw [Int32.lt_iff_toInt_lt] at h1 ⊢; omega
    rw [if_pos h1, if_neg h2]; rw [Int32.lt_iff_toInt_lt] at h1; omega
  · by_cases h2 : a < b
    · rw [if_neg h1, if_pos h2]; rw [Int32.lt_iff_toInt_lt] at h2; omega
    · rw [if_neg h1, if_neg h2]; omega
theorem d1_0 : decode jdk_29_method_69_code 0 = .ok (.iload_n 0, 1) := by decide +kernel
theorem d1_1 : decode jdk_29_method_69_code 1 = .ok (.iload_n 1, 1) := by decide +kernel
theorem d1_2 : decode jdk_29_method_69_code 2 = .ok (.if_icmp .gt 7, 3) := by decide +kernel
theorem d1_5 : decode jdk_29_method_69_code 5 = .ok (.iload_n 0, 1) := by decide +kernel
theorem d1_6 : decode jdk_29_method_69_code 6 = .ok (.goto 4, 3) := by decide +kernel
theorem d1_9 : decode jdk_29_method_69_code 9 = .ok (.iload_n 1, 1) := by decide +kernel
theorem d1_10 : decode jdk_29_method_69_code 10 = .ok (.ireturn, 1) := by decide +kernel
theorem ef_1_00 (m : MethodId) (x0 : Int32) (x1 : Int32) : entryFrame m #[(.int x0), (.int x1)] 2 = mkF m 0 #[.val (.int x0), .val (.int x1)] [] := by first | (simp [entryFrame, mkF, argsToLocals, Value.category]; done) | rfl
def Q1 (Z : State) (u0 : Int32) (u1 : Int32) (h0 : Heap) (n0 : Nat) (v : Option Value) (h : Heap) (L : List Loc) : Prop := v = some (.int (own_min u0 u1)) ∧ Fr n0 L ∧ h = h0
set_option maxRecDepth 65536 in
set_option maxHeartbeats 40000000 in
theorem rm1 (l : Launch) (Z : State) (a0 : Array Value) (hw : ∀ d ∈ tables_1, d.before a0 Z = true) (ws : List Jvm.Cond) (u0 : Int32) (u1 : Int32) (h0 : Heap) (n0 : Nat) (Z0 : n0 ≤ h0.size) :
    MetFree l (⟨"java/lang/Math", "min", "(II)I"⟩ : MethodName) (head1 (Jvm.Cond.code (⟨"java/lang/Math", "min", "(II)I"⟩ : MethodName) jdk_29_method_69_code 2 (some .int) :: ws) ({ frames := 0, cells := 0, slots := 0, locals := 0 } : Room)) (fun a U => a = #[(.int u0), (.int u1)] ∧ Z.Warmed39 U.vm ∧ U.heap = h0) (fun _ _ _ _ _ => True) (fun _ U o U' => ∃ v L, o = .returned v ∧ Q1 Z u0 u1 h0 n0 v U'.heap L ∧ FrameEnd U o U' L ({ frames := 0, cells := 0, slots := 0, locals := 0 } : Room).cells ({ frames := 0, cells := 0, slots := 0, locals := 0 } : Room).slots) := by
  refine MetFree.of_bodySF (Jvm.Free.JP.mathPlain rfl (by decide +kernel)) hisR ?_
  intro p e s m args below meth c s₁ Bd hml0 hP hK
  obtain ⟨rfl, hZ, hh⟩ := hP
  have hx := Bd.exec
  have hby := Bd.bytes
  have hlk : meth.locks = false := Bd.notSynchronized
  have hml : c.maxLocals = 2 := hml0
  have hown : s.vm.findClass "java/lang/Math" = some m.cls := findClass_of_methodNamed Bd.named
  have hnm := (name_of_methodNamed Bd.named Bd.method).1
  have X0 : Stand p l e ({ frames := 0, cells := 0, slots := 0, locals := 0 } : Room) s m #[(.int u0), (.int u1)] below meth c s₁ [] 0 0 := Stand.of_body Bd
  have e0 : s₁.heap = h0 := by rw [← hh, Bd.state]; rfl
  have N0 := Fr.nil n0
  have K0 : Keep h0 h0 [] := Keep.refl h0 _
  show Wp p e below (Out s (Q1 Z u0 u1 h0 n0) ({ frames := 0, cells := 0, slots := 0, locals := 0 } : Room).cells ({ frames := 0, cells := 0, slots := 0, locals := 0 } : Room).slots) (s₁.setTop (entryFrame m #[(.int u0), (.int u1)] 2))
  rw [ef_1_00]
  show Wp p e below _ (s₁.setTop (mkF m 0 #[.val (.int u0), .val (.int u1)] []))
  refine Wp.step (fun t k => XS.iloadN X0.here hx rfl (hb hby d1_0) rfl k) ?_
  show Wp p e below _ (s₁.setTop (mkF m 1 #[.val (.int u0), .val (.int u1)] [(.int u0)]))
  refine Wp.step (fun t k => XS.iloadN X0.here hx rfl (hb hby d1_1) rfl k) ?_
  show Wp p e below _ (s₁.setTop (mkF m 2 #[.val (.int u0), .val (.int u1)] [(.int u1), (.int u0)]))
  by_cases hc1 : u1 < u0
  · refine Wp.step (fun t k => XS.icmpYes X0.here hx rfl (pc0 := 2) (pc' := 9) rfl (hb hby d1_2) rfl (tlt hc1).2.2.1 (by decide) (by decide) k) ?_
    show Wp p e below _ (s₁.setTop (mkF m 9 #[.val (.int u0), .val (.int u1)] []))
    refine Wp.step (fun t k => XS.iloadN X0.here hx rfl (hb hby d1_9) rfl k) ?_
    show Wp p e below _ (s₁.setTop (mkF m 10 #[.val (.int u0), .val (.int u1)] [(.int u1)]))
    refine Wp.retI X0 hx Bd.returns (hb hby d1_10) hlk ?_ (by decide) (by decide)
    show Q1 Z u0 u1 h0 n0 (some (.int u1)) s₁.heap _
    rw [e0]
    exact ⟨by rw [own_min, if_pos hc1], N0, rfl⟩
  · refine Wp.step (fun t k => XS.icmpNo X0.here hx rfl (hb hby d1_2) rfl (flt hc1).2.2.1 k) ?_
    show Wp p e below _ (s₁.setTop (mkF m 5 #[.val (.int u0), .val (.int u1)] []))
    refine Wp.step (fun t k => XS.iloadN X0.here hx rfl (hb hby d1_5) rfl k) ?_
    show Wp p e below _ (s₁.setTop (mkF m 6 #[.val (.int u0), .val (.int u1)] [(.int u0)]))
    refine Wp.step (fun t k => XS.goto X0.here hx rfl (pc0 := 6) (pc' := 10) rfl (hb hby d1_6) (by decide) (by decide) k) ?_
    show Wp p e below _ (s₁.setTop (mkF m 10 #[.val (.int u0), .val (.int u1)] [(.int u0)]))
    refine Wp.retI X0 hx Bd.returns (hb hby d1_10) hlk ?_ (by decide) (by decide)
    show Q1 Z u0 u1 h0 n0 (some (.int u0)) s₁.heap _
    rw [e0]
    exact ⟨by rw [own_min, if_neg hc1], N0, rfl⟩
theorem d2_0 : decode jdk_29_method_65_code 0 = .ok (.iload_n 0, 1) := by decide +kernel
theorem d2_1 : decode jdk_29_method_65_code 1 = .ok (.iload_n 1, 1) := by decide +kernel
theorem d2_2 : decode jdk_29_method_65_code 2 = .ok (.if_icmp .lt 7, 3) := by decide +kernel
theorem d2_5 : decode jdk_29_method_65_code 5 = .ok (.iload_n 0, 1) := by decide +kernel
theorem d2_6 : decode jdk_29_method_65_code 6 = .ok (.goto 4, 3) := by decide +kernel
theorem d2_9 : decode jdk_29_method_65_code 9 = .ok (.iload_n 1, 1) := by decide +kernel
theorem d2_10 : decode jdk_29_method_65_code 10 = .ok (.ireturn, 1) := by decide +kernel
theorem ef_2_00 (m : MethodId) (x0 : Int32) (x1 : Int32) : entryFrame m #[(.int x0), (.int x1)] 2 = mkF m 0 #[.val (.int x0), .val (.int x1)] [] := by first | (simp [entryFrame, mkF, argsToLocals, Value.category]; done) | rfl
def Q2 (Z : State) (u0 : Int32) (u1 : Int32) (h0 : Heap) (n0 : Nat) (v : Option Value) (h : Heap) (L : List Loc) : Prop := v = some (.int (own_max u0 u1)) ∧ Fr n0 L ∧ h = h0
set_option maxRecDepth 65536 in
set_option maxHeartbeats 40000000 in
theorem rm2 (l : Launch) (Z : State) (a0 : Array Value) (hw : ∀ d ∈ tables_1, d.before a0 Z = true) (ws : List Jvm.Cond) (u0 : Int32) (u1 : Int32) (h0 : Heap) (n0 : Nat) (Z0 : n0 ≤ h0.size) :
    MetFree l (⟨"java/lang/Math", "max", "(II)I"⟩ : MethodName) (head1 (Jvm.Cond.code (⟨"java/lang/Math", "max", "(II)I"⟩ : MethodName) jdk_29_method_65_code 2 (some .int) :: ws) ({ frames := 0, cells := 0, slots := 0, locals := 0 } : Room)) (fun a U => a = #[(.int u0), (.int u1)] ∧ Z.Warmed39 U.vm ∧ U.heap = h0) (fun _ _ _ _ _ => True) (fun _ U o U' => ∃ v L, o = .returned v ∧ Q2 Z u0 u1 h0 n0 v U'.heap L ∧ FrameEnd U o U' L ({ frames := 0, cells := 0, slots := 0, locals := 0 } : Room).cells ({ frames := 0, cells := 0, slots := 0, locals := 0 } : Room).slots) := by
  refine MetFree.of_bodySF (Jvm.Free.JP.mathPlain rfl (by decide +kernel)) hisR ?_
  intro p e s m args below meth c s₁ Bd hml0 hP hK
  obtain ⟨rfl, hZ, hh⟩ := hP
  have hx := Bd.exec
  have hby := Bd.bytes
  have hlk : meth.locks = false := Bd.notSynchronized
  have hml : c.maxLocals = 2 := hml0
  have hown : s.vm.findClass "java/lang/Math" = some m.cls := findClass_of_methodNamed Bd.named
  have hnm := (name_of_methodNamed Bd.named Bd.method).1
  have X0 : Stand p l e ({ frames := 0, cells := 0, slots := 0, locals := 0 } : Room) s m #[(.int u0), (.int u1)] below meth c s₁ [] 0 0 := Stand.of_body Bd
  have e0 : s₁.heap = h0 := by rw [← hh, Bd.state]; rfl
  have N0 := Fr.nil n0
  have K0 : Keep h0 h0 [] := Keep.refl h0 _
  show Wp p e below (Out s (Q2 Z u0 u1 h0 n0) ({ frames := 0, cells := 0, slots := 0, locals := 0 } : Room).cells ({ frames := 0, cells := 0, slots := 0, locals := 0 } : Room).slots) (s₁.setTop (entryFrame m #[(.int u0), (.int u1)] 2))
  rw [ef_2_00]
  show Wp p e below _ (s₁.setTop (mkF m 0 #[.val (.int u0), .val (.int u1)] []))
  refine Wp.step (fun t k => XS.iloadN X0.here hx rfl (hb hby d2_0) rfl k) ?_
  show Wp p e below _ (s₁.setTop (mkF m 1 #[.val (.int u0), .val (.int u1)] [(.int u0)]))
  refine Wp.step (fun t k => XS.iloadN X0.here hx rfl (hb hby d2_1) rfl k) ?_
  show Wp p e below _ (s₁.setTop (mkF m 2 #[.val (.int u0), .val (.int u1)] [(.int u1), (.int u0)]))
  by_cases hc1 : u0 < u1
  · refine Wp.step (fun t k => XS.icmpYes X0.here hx rfl (pc0 := 2) (pc' := 9) rfl (hb hby d2_2) rfl (tlt hc1).1 (by decide) (by decide) k) ?_
    show Wp p e below _ (s₁.setTop (mkF m 9 #[.val (.int u0), .val (.int u1)] []))
    refine Wp.step (fun t k => XS.iloadN X0.here hx rfl (hb hby d2_9) rfl k) ?_
    show Wp p e below _ (s₁.setTop (mkF m 10 #[.val (.int u0), .val (.int u1)] [(.int u1)]))
    refine Wp.retI X0 hx Bd.returns (hb hby d2_10) hlk ?_ (by decide) (by decide)
    show Q2 Z u0 u1 h0 n0 (some (.int u1)) s₁.heap _
    rw [e0]
    exact ⟨by rw [own_max, if_pos hc1], N0, rfl⟩
  · refine Wp.step (fun t k => XS.icmpNo X0.here hx rfl (hb hby d2_2) rfl (flt hc1).1 k) ?_
    show Wp p e below _ (s₁.setTop (mkF m 5 #[.val (.int u0), .val (.int u1)] []))
    refine Wp.step (fun t k => XS.iloadN X0.here hx rfl (hb hby d2_5) rfl k) ?_
    show Wp p e below _ (s₁.setTop (mkF m 6 #[.val (.int u0), .val (.int u1)] [(.int u0)]))
    refine Wp.step (fun t k => XS.goto X0.here hx rfl (pc0 := 6) (pc' := 10) rfl (hb hby d2_6) (by decide) (by decide) k) ?_
    show Wp p e below _ (s₁.setTop (mkF m 10 #[.val (.int u0), .val (.int u1)] [(.int u0)]))
    refine Wp.retI X0 hx Bd.returns (hb hby d2_10) hlk ?_ (by decide) (by decide)
    show Q2 Z u0 u1 h0 n0 (some (.int u0)) s₁.heap _
    rw [e0]
    exact ⟨by rw [own_max, if_neg hc1], N0, rfl⟩
theorem d6_0 : decode prog_53_method_2_code 0 = .ok (.dload_n 0, 1) := by decide +kernel
theorem d6_1 : decode prog_53_method_2_code 1 = .ok (.ldc2_w 7, 3) := by decide +kernel
theorem d6_4 : decode prog_53_method_2_code 4 = .ok (.dcmp .l, 1) := by decide +kernel
theorem d6_5 : decode prog_53_method_2_code 5 = .ok (.ifCond .lt 11, 3) := by decide +kernel
theorem d6_8 : decode prog_53_method_2_code 8 = .ok (.dload_n 0, 1) := by decide +kernel
theorem d6_9 : decode prog_53_method_2_code 9 = .ok (.ldc2_w 9, 3) := by decide +kernel
theorem d6_12 : decode prog_53_method_2_code 12 = .ok (.dcmp .g, 1) := by decide +kernel
theorem d6_13 : decode prog_53_method_2_code 13 = .ok (.ifCond .le 17, 3) := by decide +kernel
theorem d6_30 : decode prog_53_method_2_code 30 = .ok (.dload_n 2, 1) := by decide +kernel
theorem d6_31 : decode prog_53_method_2_code 31 = .ok (.ldc2_w 20, 3) := by decide +kernel
theorem d6_34 : decode prog_53_method_2_code 34 = .ok (.dcmp .l, 1) := by decide +kernel
theorem d6_35 : decode prog_53_method_2_code 35 = .ok (.ifCond .lt 11, 3) := by decide +kernel
theorem d6_38 : decode prog_53_method_2_code 38 = .ok (.dload_n 2, 1) := by decide +kernel
theorem d6_39 : decode prog_53_method_2_code 39 = .ok (.ldc2_w 22, 3) := by decide +kernel
theorem d6_42 : decode prog_53_method_2_code 42 = .ok (.dcmp .g, 1) := by decide +kernel
theorem d6_43 : decode prog_53_method_2_code 43 = .ok (.ifCond .le 17, 3) := by decide +kernel
theorem d6_60 : decode prog_53_method_2_code 60 = .ok (.return_, 1) := by decide +kernel
theorem pn_com_example_luoshu_luoshu_util_Positions : plainName "com/example/luoshu/luoshu/util/Positions" = true := by first | (simp [plainName, overriddenIn]; done) | decide +kernel
theorem ef_6_00 (m : MethodId) (x0 : UInt64) (x1 : UInt64) : entryFrame m #[(.double x0), (.double x1)] 4 = mkF m 0 #[.val (.double x0), .second, .val (.double x1), .second] [] := by first | (simp [entryFrame, mkF, argsToLocals, Value.category]; done) | rfl
def Q6 (Z : State) (u0 : UInt64) (u1 : UInt64) (n1 : Int) (n2 : Int) (h0 : Heap) (n0 : Nat) (v : Option Value) (h : Heap) (L : List Loc) : Prop := v = none ∧ Fr n0 L ∧ h = h0
set_option maxRecDepth 65536 in
set_option maxHeartbeats 40000000 in
theorem rm6 (l : Launch) (Z : State) (a0 : Array Value) (hw : ∀ d ∈ tables_1, d.before a0 Z = true) (ws : List Jvm.Cond) (u0 : UInt64) (u1 : UInt64) (n1 : Int) (n2 : Int) (h0 : Heap) (n0 : Nat) (Z0 : n0 ≤ h0.size) (V1 : own_val u0 n1 0) (V2 : own_val u1 n2 0) (b1 : -180 ≤ n1 ∧ n1 ≤ 180) (b2 : -90 ≤ n2 ∧ n2 ≤ 90) :
    MetFree l (⟨"com/example/luoshu/luoshu/util/Positions", "requireValid", "(DD)V"⟩ : MethodName) (head1 (Jvm.Cond.code (⟨"com/example/luoshu/luoshu/util/Positions", "requireValid", "(DD)V"⟩ : MethodName) prog_53_method_2_code 4 none :: ws) ({ frames := 0, cells := 0, slots := 0, locals := 0 } : Room)) (fun a U => a = #[(.double u0), (.double u1)] ∧ Z.Warmed39 U.vm ∧ U.heap = h0) (fun _ _ _ _ _ => True) (fun _ U o U' => ∃ v L, o = .returned v ∧ Q6 Z u0 u1 n1 n2 h0 n0 v U'.heap L ∧ FrameEnd U o U' L ({ frames := 0, cells := 0, slots := 0, locals := 0 } : Room).cells ({ frames := 0, cells := 0, slots := 0, locals := 0 } : Room).slots) := by
  refine MetFree.of_bodySF (plainFor_of_name pn_com_example_luoshu_luoshu_util_Positions) hisR ?_
  intro p e s m args below meth c s₁ Bd hml0 hP hK
  obtain ⟨rfl, hZ, hh⟩ := hP
  have hx := Bd.exec
  have hby := Bd.bytes
  have hlk : meth.locks = false := Bd.notSynchronized
  have hml : c.maxLocals = 4 := hml0
  have hown : s.vm.findClass "com/example/luoshu/luoshu/util/Positions" = some m.cls := findClass_of_methodNamed Bd.named
  have hnm := (name_of_methodNamed Bd.named Bd.method).1
  have X0 : Stand p l e ({ frames := 0, cells := 0, slots := 0, locals := 0 } : Room) s m #[(.double u0), (.double u1)] below meth c s₁ [] 0 0 := Stand.of_body Bd
  have e0 : s₁.heap = h0 := by rw [← hh, Bd.state]; rfl
  have N0 := Fr.nil n0
  have K0 : Keep h0 h0 [] := Keep.refl h0 _
  show Wp p e below (Out s (Q6 Z u0 u1 n1 n2 h0 n0) ({ frames := 0, cells := 0, slots := 0, locals := 0 } : Room).cells ({ frames := 0, cells := 0, slots := 0, locals := 0 } : Room).slots) (s₁.setTop (entryFrame m #[(.double u0), (.double u1)] 4))
  rw [ef_6_00]
  show Wp p e below _ (s₁.setTop (mkF m 0 #[.val (.double u0), .second, .val (.double u1), .second] []))
  refine Wp.step (fun t k => own_dloadN X0.here hx rfl (hb hby d6_0) rfl k) ?_
  show Wp p e below _ (s₁.setTop (mkF m 1 #[.val (.double u0), .second, .val (.double u1), .second] [(.double u0)]))
  refine Wp.step (X0.ldc2DoubleC hx hown (mvT hZ (hw _ (List.mem_of_getElem? (i := 26) rfl))) (g := (mkF m 1 #[.val (.double u0), .second, .val (.double u1), .second] [(.double u0)])) rfl (hb hby d6_1)) ?_
  show Wp p e below _ (s₁.setTop (mkF m 4 #[.val (.double u0), .second, .val (.double u1), .second] [(.double (13863909240395005952 : UInt64)), (.double u0)]))
  refine Wp.step (fun t k => own_dcmp X0.here hx rfl (hb hby d6_4) rfl k) ?_
  show Wp p e below _ (s₁.setTop (mkF m 5 #[.val (.double u0), .second, .val (.double u1), .second] [(.int (cmpValue (FP.dcmp u0 (13863909240395005952 : UInt64)) .l))]))
  refine Wp.step (fun t k => XS.ifNo X0.here hx rfl (hb hby d6_5) rfl ((if0 _ _).trans (flt (show ¬ ((cmpValue (FP.dcmp u0 (13863909240395005952 : UInt64)) .l) < (0 : Int32)) from (fun q => absurd ((own_ord_lt _ _ _).mp (own_cmp V1 own_cm180 ▸ q)) (by omega)))).1) k) ?_
  show Wp p e below _ (s₁.setTop (mkF m 8 #[.val (.double u0), .second, .val (.double u1), .second] []))
  refine Wp.step (fun t k => own_dloadN X0.here hx rfl (hb hby d6_8) rfl k) ?_
  show Wp p e below _ (s₁.setTop (mkF m 9 #[.val (.double u0), .second, .val (.double u1), .second] [(.double u0)]))
  refine Wp.step (X0.ldc2DoubleC hx hown (mvT hZ (hw _ (List.mem_of_getElem? (i := 27) rfl))) (g := (mkF m 9 #[.val (.double u0), .second, .val (.double u1), .second] [(.double u0)])) rfl (hb hby d6_9)) ?_
  show Wp p e below _ (s₁.setTop (mkF m 12 #[.val (.double u0), .second, .val (.double u1), .second] [(.double (4640537203540230144 : UInt64)), (.double u0)]))
  refine Wp.step (fun t k => own_dcmp X0.here hx rfl (hb hby d6_12) rfl k) ?_
  show Wp p e below _ (s₁.setTop (mkF m 13 #[.val (.double u0), .second, .val (.double u1), .second] [(.int (cmpValue (FP.dcmp u0 (4640537203540230144 : UInt64)) .g))]))
  refine Wp.step (fun t k => XS.ifYes X0.here hx rfl (pc0 := 13) (pc' := 30) rfl (hb hby d6_13) rfl ((if0 _ _).trans (flt (show ¬ ((0 : Int32) < (cmpValue (FP.dcmp u0 (4640537203540230144 : UInt64)) .g)) from (fun q => absurd ((own_ord_gt _ _ _).mp (own_cmp V1 own_c180 ▸ q)) (by omega)))).2.2.2) (by decide) (by decide) k) ?_
  show Wp p e below _ (s₁.setTop (mkF m 30 #[.val (.double u0), .second, .val (.double u1), .second] []))
  refine Wp.step (fun t k => own_dloadN X0.here hx rfl (hb hby d6_30) rfl k) ?_
  show Wp p e below _ (s₁.setTop (mkF m 31 #[.val (.double u0), .second, .val (.double u1), .second] [(.double u1)]))
  refine Wp.step (X0.ldc2DoubleC hx hown (mvT hZ (hw _ (List.mem_of_getElem? (i := 28) rfl))) (g := (mkF m 31 #[.val (.double u0), .second, .val (.double u1), .second] [(.double u1)])) rfl (hb hby d6_31)) ?_
  show Wp p e below _ (s₁.setTop (mkF m 34 #[.val (.double u0), .second, .val (.double u1), .second] [(.double (13859405640767635456 : UInt64)), (.double u1)]))
  refine Wp.step (fun t k => own_dcmp X0.here hx rfl (hb hby d6_34) rfl k) ?_
  show Wp p e below _ (s₁.setTop (mkF m 35 #[.val (.double u0), .second, .val (.double u1), .second] [(.int (cmpValue (FP.dcmp u1 (13859405640767635456 : UInt64)) .l))]))
  refine Wp.step (fun t k => XS.ifNo X0.here hx rfl (hb hby d6_35) rfl ((if0 _ _).trans (flt (show ¬ ((cmpValue (FP.dcmp u1 (13859405640767635456 : UInt64)) .l) < (0 : Int32)) from (fun q => absurd ((own_ord_lt _ _ _).mp (own_cmp V2 own_cm90 ▸ q)) (by omega)))).1) k) ?_
  show Wp p e below _ (s₁.setTop (mkF m 38 #[.val (.double u0), .second, .val (.double u1), .second] []))
  refine Wp.step (fun t k => own_dloadN X0.here hx rfl (hb hby d6_38) rfl k) ?_
  show Wp p e below _ (s₁.setTop (mkF m 39 #[.val (.double u0), .second, .val (.double u1), .second] [(.double u1)]))
  refine Wp.step (X0.ldc2DoubleC hx hown (mvT hZ (hw _ (List.mem_of_getElem? (i := 29) rfl))) (g := (mkF m 39 #[.val (.double u0), .second, .val (.double u1), .second] [(.double u1)])) rfl (hb hby d6_39)) ?_
  show Wp p e below _ (s₁.setTop (mkF m 42 #[.val (.double u0), .second, .val (.double u1), .second] [(.double (4636033603912859648 : UInt64)), (.double u1)]))
  refine Wp.step (fun t k => own_dcmp X0.here hx rfl (hb hby d6_42) rfl k) ?_
  show Wp p e below _ (s₁.setTop (mkF m 43 #[.val (.double u0), .second, .val (.double u1), .second] [(.int (cmpValue (FP.dcmp u1 (4636033603912859648 : UInt64)) .g))]))
  refine Wp.step (fun t k => XS.ifYes X0.here hx rfl (pc0 := 43) (pc' := 60) rfl (hb hby d6_43) rfl ((if0 _ _).trans (flt (show ¬ ((0 : Int32) < (cmpValue (FP.dcmp u1 (4636033603912859648 : UInt64)) .g)) from (fun q => absurd ((own_ord_gt _ _ _).mp (own_cmp V2 own_c90 ▸ q)) (by omega)))).2.2.2) (by decide) (by decide) k) ?_
  show Wp p e below _ (s₁.setTop (mkF m 60 #[.val (.double u0), .second, .val (.double u1), .second] []))
  refine Wp.retV X0 hx Bd.returns (hb hby d6_60) hlk ?_ (by decide) (by decide)
  show Q6 Z u0 u1 n1 n2 h0 n0 none s₁.heap _
  rw [e0]
  exact ⟨rfl, N0, rfl⟩
theorem d4_0 : decode jdk_30_method_1_code 0 = .ok (.aload_n 0, 1) := by decide +kernel
theorem d4_1 : decode jdk_30_method_1_code 1 = .ok (.invokespecial 1, 3) := by decide +kernel
theorem d4_4 : decode jdk_30_method_1_code 4 = .ok (.return_, 1) := by decide +kernel
theorem pn_java_lang_Record : plainName "java/lang/Record" = true := by first | (simp [plainName, overriddenIn]; done) | decide +kernel
theorem ef_4_0 (m : MethodId) (x0 : Addr) : entryFrame m #[(.ref x0)] 1 = mkF m 0 #[.val (.ref x0)] [] := by first | (simp [entryFrame, mkF, argsToLocals, Value.category]; done) | rfl
def Q4 (Z : State) (d0 : Addr) (h0 : Heap) (n0 : Nat) (v : Option Value) (h : Heap) (L : List Loc) : Prop := v = none ∧ Fr n0 L ∧ h = h0
set_option maxRecDepth 65536 in
set_option maxHeartbeats 40000000 in
theorem rm4 (l : Launch) (Z : State) (a0 : Array Value) (hw : ∀ d ∈ tables_1, d.before a0 Z = true) (ws : List Jvm.Cond) (d0 : Addr) (h0 : Heap) (n0 : Nat) (Z0 : n0 ≤ h0.size) :
    MetFree l (⟨"java/lang/Record", "<init>", "()V"⟩ : MethodName) (head1 (Jvm.Cond.code (⟨"java/lang/Record", "<init>", "()V"⟩ : MethodName) jdk_30_method_1_code 1 none :: ws) ({ frames := 1, cells := 0, slots := 0, locals := 12 } : Room)) (fun a U => a = #[(.ref d0)] ∧ Z.Warmed39 U.vm ∧ U.heap = h0) (fun _ _ _ _ _ => True) (fun _ U o U' => ∃ v L, o = .returned v ∧ Q4 Z d0 h0 n0 v U'.heap L ∧ FrameEnd U o U' L ({ frames := 1, cells := 0, slots := 0, locals := 12 } : Room).cells ({ frames := 1, cells := 0, slots := 0, locals := 12 } : Room).slots) := by
  refine MetFree.of_bodySF (plainFor_of_name pn_java_lang_Record) hisR ?_
  intro p e s m args below meth c s₁ Bd hml0 hP hK
  obtain ⟨rfl, hZ, hh⟩ := hP
  have hx := Bd.exec
  have hby := Bd.bytes
  have hlk : meth.locks = false := Bd.notSynchronized
  have hml : c.maxLocals = 1 := hml0
  have hown : s.vm.findClass "java/lang/Record" = some m.cls := findClass_of_methodNamed Bd.named
  have hnm := (name_of_methodNamed Bd.named Bd.method).1
  have X0 : Stand p l e ({ frames := 1, cells := 0, slots := 0, locals := 12 } : Room) s m #[(.ref d0)] below meth c s₁ [] 0 0 := Stand.of_body Bd
  have e0 : s₁.heap = h0 := by rw [← hh, Bd.state]; rfl
  have N0 := Fr.nil n0
  have K0 : Keep h0 h0 [] := Keep.refl h0 _
  show Wp p e below (Out s (Q4 Z d0 h0 n0) ({ frames := 1, cells := 0, slots := 0, locals := 12 } : Room).cells ({ frames := 1, cells := 0, slots := 0, locals := 12 } : Room).slots) (s₁.setTop (entryFrame m #[(.ref d0)] 1))
  rw [ef_4_0]
  show Wp p e below _ (s₁.setTop (mkF m 0 #[.val (.ref d0)] []))
  refine Wp.step (fun t k => XS.aloadN X0.here hx rfl (hb hby d4_0) rfl rfl k) ?_
  show Wp p e below _ (s₁.setTop (mkF m 1 #[.val (.ref d0)] [(.ref d0)]))
  obtain ⟨T1, X1, e1, st1⟩ := initO X0 hx hZ hown (hw _ (List.mem_of_getElem? (i := 19) rfl)) (hw _ (List.mem_of_getElem? (i := 20) rfl)) (hw _ (List.mem_of_getElem? (i := 21) rfl)) e0 (g := (mkF m 1 #[.val (.ref d0)] [(.ref d0)])) rfl (by rw [hml]; rfl) rfl (hb hby d4_1) (by decide) (W := 0) (by show 2 * 0 + _ ≤ _; exact Nat.le_of_eq rfl) (by decide)
  refine Wp.step st1 ?_
  show Wp p e below _ (T1.setTop (mkF m 4 #[.val (.ref d0)] []))
  refine Wp.retV X1 hx Bd.returns (hb hby d4_4) hlk ?_ (by decide) (by decide)
  show Q4 Z d0 h0 n0 none T1.heap _
  rw [e1]
  exact ⟨rfl, N0, rfl⟩
theorem pd_2829V : parseMethodDescriptor "()V" = some ⟨[], none⟩ := by decide +kernel
theorem pd_28DD29V : parseMethodDescriptor "(DD)V" = some ⟨[.double, .double], none⟩ := by decide +kernel
theorem d3_0 : decode prog_7_method_1_code 0 = .ok (.aload_n 0, 1) := by decide +kernel
theorem d3_1 : decode prog_7_method_1_code 1 = .ok (.invokespecial 1, 3) := by decide +kernel
theorem d3_4 : decode prog_7_method_1_code 4 = .ok (.dload_n 1, 1) := by decide +kernel
theorem d3_5 : decode prog_7_method_1_code 5 = .ok (.dload_n 3, 1) := by decide +kernel
theorem d3_6 : decode prog_7_method_1_code 6 = .ok (.invokestatic 7, 3) := by decide +kernel
theorem d3_9 : decode prog_7_method_1_code 9 = .ok (.dload 5, 2) := by decide +kernel
theorem d3_11 : decode prog_7_method_1_code 11 = .ok (.dload 7, 2) := by decide +kernel
theorem d3_13 : decode prog_7_method_1_code 13 = .ok (.invokestatic 7, 3) := by decide +kernel
theorem d3_16 : decode prog_7_method_1_code 16 = .ok (.dload_n 3, 1) := by decide +kernel
theorem d3_17 : decode prog_7_method_1_code 17 = .ok (.dload 7, 2) := by decide +kernel
theorem d3_19 : decode prog_7_method_1_code 19 = .ok (.dcmp .l, 1) := by decide +kernel
theorem d3_20 : decode prog_7_method_1_code 20 = .ok (.ifCond .le 19, 3) := by decide +kernel
theorem d3_39 : decode prog_7_method_1_code 39 = .ok (.aload_n 0, 1) := by decide +kernel
theorem d3_40 : decode prog_7_method_1_code 40 = .ok (.dload_n 1, 1) := by decide +kernel
theorem d3_41 : decode prog_7_method_1_code 41 = .ok (.putfield 22, 3) := by decide +kernel
theorem d3_44 : decode prog_7_method_1_code 44 = .ok (.aload_n 0, 1) := by decide +kernel
theorem d3_45 : decode prog_7_method_1_code 45 = .ok (.dload_n 3, 1) := by decide +kernel
theorem d3_46 : decode prog_7_method_1_code 46 = .ok (.putfield 28, 3) := by decide +kernel
theorem d3_49 : decode prog_7_method_1_code 49 = .ok (.aload_n 0, 1) := by decide +kernel
theorem d3_50 : decode prog_7_method_1_code 50 = .ok (.dload 5, 2) := by decide +kernel
theorem d3_52 : decode prog_7_method_1_code 52 = .ok (.putfield 31, 3) := by decide +kernel
theorem d3_55 : decode prog_7_method_1_code 55 = .ok (.aload_n 0, 1) := by decide +kernel
theorem d3_56 : decode prog_7_method_1_code 56 = .ok (.dload 7, 2) := by decide +kernel
theorem d3_58 : decode prog_7_method_1_code 58 = .ok (.putfield 34, 3) := by decide +kernel
theorem d3_61 : decode prog_7_method_1_code 61 = .ok (.return_, 1) := by decide +kernel
theorem pn_com_example_luoshu_luoshu_query_Box : plainName "com/example/luoshu/luoshu/query/Box" = true := by first | (simp [plainName, overriddenIn]; done) | decide +kernel
theorem ef_3_00000 (m : MethodId) (x0 : Addr) (x1 : UInt64) (x2 : UInt64) (x3 : UInt64) (x4 : UInt64) : entryFrame m #[(.ref x0), (.double x1), (.double x2), (.double x3), (.double x4)] 9 = mkF m 0 #[.val (.ref x0), .val (.double x1), .second, .val (.double x2), .second, .val (.double x3), .second, .val (.double x4), .second] [] := by first | (simp [entryFrame, mkF, argsToLocals, Value.category]; done) | rfl
def Q3 (Z : State) (d0 : Addr) (u0 : UInt64) (u1 : UInt64) (u2 : UInt64) (u3 : UInt64) (n1 : Int) (n2 : Int) (n3 : Int) (n4 : Int) (h0 : Heap) (n0 : Nat) (v : Option Value) (h : Heap) (L : List Loc) : Prop := v = none ∧ Fr n0 L ∧ Keep h0 h [d0] ∧ Exa Z h d0 "com/example/luoshu/luoshu/query/Box" ∧ Fld Z h d0 "com/example/luoshu/luoshu/query/Box" "west" "D" (.double u0) ∧ Fld Z h d0 "com/example/luoshu/luoshu/query/Box" "south" "D" (.double u1) ∧ Fld Z h d0 "com/example/luoshu/luoshu/query/Box" "east" "D" (.double u2) ∧ Fld Z h d0 "com/example/luoshu/luoshu/query/Box" "north" "D" (.double u3)
set_option maxRecDepth 65536 in
set_option maxHeartbeats 40000000 in
theorem rm3 (l : Launch) (Z : State) (a0 : Array Value) (hw : ∀ d ∈ tables_1, d.before a0 Z = true) (ws : List Jvm.Cond) (d0 : Addr) (u0 : UInt64) (u1 : UInt64) (u2 : UInt64) (u3 : UInt64) (n1 : Int) (n2 : Int) (n3 : Int) (n4 : Int) (h0 : Heap) (n0 : Nat) (Z0 : n0 ≤ h0.size) (g_d0 : n0 ≤ d0) (E_d0 : Exa Z h0 d0 "com/example/luoshu/luoshu/query/Box") (F_west_d0 : Fld Z h0 d0 "com/example/luoshu/luoshu/query/Box" "west" "D" (.double (0 : UInt64))) (F_south_d0 : Fld Z h0 d0 "com/example/luoshu/luoshu/query/Box" "south" "D" (.double (0 : UInt64))) (F_east_d0 : Fld Z h0 d0 "com/example/luoshu/luoshu/query/Box" "east" "D" (.double (0 : UInt64))) (F_north_d0 : Fld Z h0 d0 "com/example/luoshu/luoshu/query/Box" "north" "D" (.double (0 : UInt64))) (V0 : own_val u0 n1 0) (V1 : own_val u1 n2 0) (V2 : own_val u2 n3 0) (V3 : own_val u3 n4 0) (b1 : -180 ≤ n1 ∧ n1 ≤ 180) (b2 : -90 ≤ n2 ∧ n2 ≤ 90) (b3 : -180 ≤ n3 ∧ n3 ≤ 180) (b4 : -90 ≤ n4 ∧ n4 ≤ 90) (b5 : n2 ≤ n4) :
    MetFree l (⟨"com/example/luoshu/luoshu/query/Box", "<init>", "(DDDD)V"⟩ : MethodName) (head1 (Jvm.Cond.code (⟨"com/example/luoshu/luoshu/query/Box", "<init>", "(DDDD)V"⟩ : MethodName) prog_7_method_1_code 9 none :: ws) ({ frames := 2, cells := 0, slots := 0, locals := 24 } : Room)) (fun a U => a = #[(.ref d0), (.double u0), (.double u1), (.double u2), (.double u3)] ∧ Z.Warmed39 U.vm ∧ U.heap = h0) (fun _ _ _ _ _ => True) (fun _ U o U' => ∃ v L, o = .returned v ∧ Q3 Z d0 u0 u1 u2 u3 n1 n2 n3 n4 h0 n0 v U'.heap L ∧ FrameEnd U o U' L ({ frames := 2, cells := 0, slots := 0, locals := 24 } : Room).cells ({ frames := 2, cells := 0, slots := 0, locals := 24 } : Room).slots) := by
  refine MetFree.of_bodySF (plainFor_of_name pn_com_example_luoshu_luoshu_query_Box) hisR ?_
  intro p e s m args below meth c s₁ Bd hml0 hP hK
  obtain ⟨rfl, hZ, hh⟩ := hP
  have hx := Bd.exec
  have hby := Bd.bytes
  have hlk : meth.locks = false := Bd.notSynchronized
  have hml : c.maxLocals = 9 := hml0
  have hown : s.vm.findClass "com/example/luoshu/luoshu/query/Box" = some m.cls := findClass_of_methodNamed Bd.named
  have hnm := (name_of_methodNamed Bd.named Bd.method).1
  have X0 : Stand p l e ({ frames := 2, cells := 0, slots := 0, locals := 24 } : Room) s m #[(.ref d0), (.double u0), (.double u1), (.double u2), (.double u3)] below meth c s₁ [] 0 0 := Stand.of_body Bd
  have e0 : s₁.heap = h0 := by rw [← hh, Bd.state]; rfl
  have N0 := Fr.nil n0
  have K0 : Keep h0 h0 [d0] := Keep.refl h0 _
  show Wp p e below (Out s (Q3 Z d0 u0 u1 u2 u3 n1 n2 n3 n4 h0 n0) ({ frames := 2, cells := 0, slots := 0, locals := 24 } : Room).cells ({ frames := 2, cells := 0, slots := 0, locals := 24 } : Room).slots) (s₁.setTop (entryFrame m #[(.ref d0), (.double u0), (.double u1), (.double u2), (.double u3)] 9))
  rw [ef_3_00000]
  show Wp p e below _ (s₁.setTop (mkF m 0 #[.val (.ref d0), .val (.double u0), .second, .val (.double u1), .second, .val (.double u2), .second, .val (.double u3), .second] []))
  refine Wp.step (fun t k => XS.aloadN X0.here hx rfl (hb hby d3_0) rfl rfl k) ?_
  show Wp p e below _ (s₁.setTop (mkF m 1 #[.val (.ref d0), .val (.double u0), .second, .val (.double u1), .second, .val (.double u2), .second, .val (.double u3), .second] [(.ref d0)]))
  obtain ⟨_, _, ⟨T1, L1, k1, n1⟩, -, X1, ⟨Lc1, hQ1, l1, y1, z1⟩, st1⟩ := X0.specialBack hx (y := (⟨"java/lang/Record", "<init>", "()V"⟩ : MethodName)) rfl hown (mvT hZ (hw _ (List.mem_of_getElem? (i := 14) rfl))) (mvT hZ (hw _ (List.mem_of_getElem? (i := 15) rfl))) (mvT hZ (hw _ (List.mem_of_getElem? (i := 18) rfl))) (by decide) (backOf (W := 0) (rm4 l Z a0 hw [] d0 h0 n0 (Nat.le_trans Z0 K0.1)) hZ (hw _ (List.mem_of_getElem? (i := 18) rfl)) (hw _ (List.mem_of_getElem? (i := 17) rfl)) (by decide) (by decide)) (g := (mkF m 1 #[.val (.ref d0), .val (.double u0), .second, .val (.double u1), .second, .val (.double u2), .second, .val (.double u3), .second] [(.ref d0)])) rfl (by rw [hml]; rfl) (Steps.refl _) (a := d0) (argsL := []) (rest := []) (lenOf pd_2829V rfl) rfl (by show 2 * 0 + _ ≤ _; exact Nat.le_of_eq rfl) (hb hby d3_1) (fun _ _ => ⟨rfl, e0, (by decide : 0 + 0 ≤ _), (by decide : 0 + 0 ≤ _)⟩)
  dsimp only [Pt.U, Pt.locs, Pt.cells, Pt.slots] at X1 l1 y1 z1 st1 hQ1
  subst l1 y1 z1
  obtain ⟨rfl, N1q, e1⟩ := hQ1
  have N1 := Fr.app N0 N1q
  refine Wp.go st1 ?_
  show Wp p e below _ (T1.setTop (mkF m 4 #[.val (.ref d0), .val (.double u0), .second, .val (.double u1), .second, .val (.double u2), .second, .val (.double u3), .second] []))
  refine Wp.step (fun t k => own_dloadN X1.here hx rfl (hb hby d3_4) rfl k) ?_
  show Wp p e below _ (T1.setTop (mkF m 5 #[.val (.ref d0), .val (.double u0), .second, .val (.double u1), .second, .val (.double u2), .second, .val (.double u3), .second] [(.double u0)]))
  refine Wp.step (fun t k => own_dloadN X1.here hx rfl (hb hby d3_5) rfl k) ?_
  show Wp p e below _ (T1.setTop (mkF m 6 #[.val (.ref d0), .val (.double u0), .second, .val (.double u1), .second, .val (.double u2), .second, .val (.double u3), .second] [(.double u1), (.double u0)]))
  obtain ⟨_, _, ⟨T2, L2, k2, n2⟩, -, X2, ⟨Lc2, hQ2, l2, y2, z2⟩, st2⟩ := Jvm.LawKit.callS X1 hx (y := (⟨"com/example/luoshu/luoshu/util/Positions", "requireValid", "(DD)V"⟩ : MethodName)) hown (mvT hZ (hw _ (List.mem_of_getElem? (i := 22) rfl))) (mvT hZ (hw _ (List.mem_of_getElem? (i := 23) rfl))) (mvT hZ (hw _ (List.mem_of_getElem? (i := 24) rfl))) (mvT hZ (hw _ (List.mem_of_getElem? (i := 25) rfl))) (by decide) (backOf (W := 0) (rm6 l Z a0 hw [] u0 u1 n1 n2 h0 n0 (Nat.le_trans Z0 K0.1) V0 V1 b1 b2) hZ (hw _ (List.mem_of_getElem? (i := 25) rfl)) (hw _ (List.mem_of_getElem? (i := 24) rfl)) (by decide) (by decide)) (g := (mkF m 6 #[.val (.ref d0), .val (.double u0), .second, .val (.double u1), .second, .val (.double u2), .second, .val (.double u3), .second] [(.double u1), (.double u0)])) rfl (by rw [hml]; rfl) (argsL := [(.double u0), (.double u1)]) (rest := []) (lenOf pd_28DD29V rfl) rfl (by show 2 * 0 + _ ≤ _; exact Nat.le_of_eq rfl) (hb hby d3_6) (fun _ _ => ⟨rfl, e1, (by decide : 0 + 0 ≤ _), (by decide : 0 + 0 ≤ _)⟩)
  dsimp only [Pt.U, Pt.locs, Pt.cells, Pt.slots] at X2 l2 y2 z2 st2 hQ2
  subst l2 y2 z2
  obtain ⟨rfl, N2q, e2⟩ := hQ2
  have N2 := Fr.app N1 N2q
  refine Wp.step st2 ?_
  show Wp p e below _ (T2.setTop (mkF m 9 #[.val (.ref d0), .val (.double u0), .second, .val (.double u1), .second, .val (.double u2), .second, .val (.double u3), .second] []))
  refine Wp.step (fun t k => own_dload X2.here hx rfl (hb hby d3_9) rfl k) ?_
  show Wp p e below _ (T2.setTop (mkF m 11 #[.val (.ref d0), .val (.double u0), .second, .val (.double u1), .second, .val (.double u2), .second, .val (.double u3), .second] [(.double u2)]))
  refine Wp.step (fun t k => own_dload X2.here hx rfl (hb hby d3_11) rfl k) ?_
  show Wp p e below _ (T2.setTop (mkF m 13 #[.val (.ref d0), .val (.double u0), .second, .val (.double u1), .second, .val (.double u2), .second, .val (.double u3), .second] [(.double u3), (.double u2)]))
  obtain ⟨_, _, ⟨T3, L3, k3, n3⟩, -, X3, ⟨Lc3, hQ3, l3, y3, z3⟩, st3⟩ := Jvm.LawKit.callS X2 hx (y := (⟨"com/example/luoshu/luoshu/util/Positions", "requireValid", "(DD)V"⟩ : MethodName)) hown (mvT hZ (hw _ (List.mem_of_getElem? (i := 22) rfl))) (mvT hZ (hw _ (List.mem_of_getElem? (i := 23) rfl))) (mvT hZ (hw _ (List.mem_of_getElem? (i := 24) rfl))) (mvT hZ (hw _ (List.mem_of_getElem? (i := 25) rfl))) (by decide) (backOf (W := 0) (rm6 l Z a0 hw [] u2 u3 n3 n4 h0 n0 (Nat.le_trans Z0 K0.1) V2 V3 b3 b4) hZ (hw _ (List.mem_of_getElem? (i := 25) rfl)) (hw _ (List.mem_of_getElem? (i := 24) rfl)) (by decide) (by decide)) (g := (mkF m 13 #[.val (.ref d0), .val (.double u0), .second, .val (.double u1), .second, .val (.double u2), .second, .val (.double u3), .second] [(.double u3), (.double u2)])) rfl (by rw [hml]; rfl) (argsL := [(.double u2), (.double u3)]) (rest := []) (lenOf pd_28DD29V rfl) rfl (by show 2 * 0 + _ ≤ _; exact Nat.le_of_eq rfl) (hb hby d3_13) (fun _ _ => ⟨rfl, e2, (by decide : 0 + 0 ≤ _), (by decide : 0 + 0 ≤ _)⟩)
  dsimp only [Pt.U, Pt.locs, Pt.cells, Pt.slots] at X3 l3 y3 z3 st3 hQ3
  subst l3 y3 z3
  obtain ⟨rfl, N3q, e3⟩ := hQ3
  have N3 := Fr.app N2 N3q
  refine Wp.step st3 ?_
  show Wp p e below _ (T3.setTop (mkF m 16 #[.val (.ref d0), .val (.double u0), .second, .val (.double u1), .second, .val (.double u2), .second, .val (.double u3), .second] []))
  refine Wp.step (fun t k => own_dloadN X3.here hx rfl (hb hby d3_16) rfl k) ?_
  show Wp p e below _ (T3.setTop (mkF m 17 #[.val (.ref d0), .val (.double u0), .second, .val (.double u1), .second, .val (.double u2), .second, .val (.double u3), .second] [(.double u1)]))
  refine Wp.step (fun t k => own_dload X3.here hx rfl (hb hby d3_17) rfl k) ?_
  show Wp p e below _ (T3.setTop (mkF m 19 #[.val (.ref d0), .val (.double u0), .second, .val (.double u1), .second, .val (.double u2), .second, .val (.double u3), .second] [(.double u3), (.double u1)]))
  refine Wp.step (fun t k => own_dcmp X3.here hx rfl (hb hby d3_19) rfl k) ?_
  show Wp p e below _ (T3.setTop (mkF m 20 #[.val (.ref d0), .val (.double u0), .second, .val (.double u1), .second, .val (.double u2), .second, .val (.double u3), .second] [(.int (cmpValue (FP.dcmp u1 u3) .l))]))
  refine Wp.step (fun t k => XS.ifYes X3.here hx rfl (pc0 := 20) (pc' := 39) rfl (hb hby d3_20) rfl ((if0 _ _).trans (flt (show ¬ ((0 : Int32) < (cmpValue (FP.dcmp u1 u3) .l)) from (fun q => absurd ((own_gtV V1 V3).mp q) (by omega)))).2.2.2) (by decide) (by decide) k) ?_
  show Wp p e below _ (T3.setTop (mkF m 39 #[.val (.ref d0), .val (.double u0), .second, .val (.double u1), .second, .val (.double u2), .second, .val (.double u3), .second] []))
  refine Wp.step (fun t k => XS.aloadN X3.here hx rfl (hb hby d3_39) rfl rfl k) ?_
  show Wp p e below _ (T3.setTop (mkF m 40 #[.val (.ref d0), .val (.double u0), .second, .val (.double u1), .second, .val (.double u2), .second, .val (.double u3), .second] [(.ref d0)]))
  refine Wp.step (fun t k => own_dloadN X3.here hx rfl (hb hby d3_40) rfl k) ?_
  show Wp p e below _ (T3.setTop (mkF m 41 #[.val (.ref d0), .val (.double u0), .second, .val (.double u1), .second, .val (.double u2), .second, .val (.double u3), .second] [(.double u0), (.ref d0)]))
  obtain ⟨T5, h5, X5, e5, W5, st5⟩ := putF X3 hx hZ hown (host := "") (Or.inl (hw _ (List.mem_of_getElem? (i := 30) rfl))) Via.refl e3 F_west_d0 E_d0 (Or.inr ⟨(hw _ (List.mem_of_getElem? (i := 31) rfl)), rfl, hnm⟩) (hw _ (List.mem_of_getElem? (i := 9) rfl)) (ty := .double) (by decide) rfl rfl (g := (mkF m 41 #[.val (.ref d0), .val (.double u0), .second, .val (.double u1), .second, .val (.double u2), .second, .val (.double u3), .second] [(.double u0), (.ref d0)])) rfl rfl (hb hby d3_41)
  have c6 := E_d0.wr W5
  have c7 := F_south_d0.other W5 (Or.inr (slot_ne (Or.inr (hw _ (List.mem_of_getElem? (i := 33) rfl))) (Or.inr (hw _ (List.mem_of_getElem? (i := 31) rfl))) (by decide) (t := .double) (t' := .double) (by decide) (by decide)))
  have c8 := F_east_d0.other W5 (Or.inr (slot_ne (Or.inr (hw _ (List.mem_of_getElem? (i := 35) rfl))) (Or.inr (hw _ (List.mem_of_getElem? (i := 31) rfl))) (by decide) (t := .double) (t' := .double) (by decide) (by decide)))
  have c9 := F_north_d0.other W5 (Or.inr (slot_ne (Or.inr (hw _ (List.mem_of_getElem? (i := 37) rfl))) (Or.inr (hw _ (List.mem_of_getElem? (i := 31) rfl))) (by decide) (t := .double) (t' := .double) (by decide) (by decide)))
  have c10 := F_west_d0.same W5
  have K11 := K0.wr W5 (Or.inl (List.mem_of_getElem? (i := 0) rfl))
  have N5 := Fr.snoc X5 N3 g_d0
  refine Wp.step st5 ?_
  show Wp p e below _ (T5.setTop (mkF m 44 #[.val (.ref d0), .val (.double u0), .second, .val (.double u1), .second, .val (.double u2), .second, .val (.double u3), .second] []))
  refine Wp.step (fun t k => XS.aloadN X5.here hx rfl (hb hby d3_44) rfl rfl k) ?_
  show Wp p e below _ (T5.setTop (mkF m 45 #[.val (.ref d0), .val (.double u0), .second, .val (.double u1), .second, .val (.double u2), .second, .val (.double u3), .second] [(.ref d0)]))
  refine Wp.step (fun t k => own_dloadN X5.here hx rfl (hb hby d3_45) rfl k) ?_
  show Wp p e below _ (T5.setTop (mkF m 46 #[.val (.ref d0), .val (.double u0), .second, .val (.double u1), .second, .val (.double u2), .second, .val (.double u3), .second] [(.double u1), (.ref d0)]))
  obtain ⟨T12, h12, X12, e12, W12, st12⟩ := putF X5 hx hZ hown (host := "") (Or.inl (hw _ (List.mem_of_getElem? (i := 32) rfl))) Via.refl e5 c7 c6 (Or.inr ⟨(hw _ (List.mem_of_getElem? (i := 33) rfl)), rfl, hnm⟩) (hw _ (List.mem_of_getElem? (i := 9) rfl)) (ty := .double) (by decide) rfl rfl (g := (mkF m 46 #[.val (.ref d0), .val (.double u0), .second, .val (.double u1), .second, .val (.double u2), .second, .val (.double u3), .second] [(.double u1), (.ref d0)])) rfl rfl (hb hby d3_46)
  have c13 := c6.wr W12
  have c14 := c10.other W12 (Or.inr (slot_ne (Or.inr (hw _ (List.mem_of_getElem? (i := 31) rfl))) (Or.inr (hw _ (List.mem_of_getElem? (i := 33) rfl))) (by decide) (t := .double) (t' := .double) (by decide) (by decide)))
  have c15 := c8.other W12 (Or.inr (slot_ne (Or.inr (hw _ (List.mem_of_getElem? (i := 35) rfl))) (Or.inr (hw _ (List.mem_of_getElem? (i := 33) rfl))) (by decide) (t := .double) (t' := .double) (by decide) (by decide)))
  have c16 := c9.other W12 (Or.inr (slot_ne (Or.inr (hw _ (List.mem_of_getElem? (i := 37) rfl))) (Or.inr (hw _ (List.mem_of_getElem? (i := 33) rfl))) (by decide) (t := .double) (t' := .double) (by decide) (by decide)))
  have c17 := c7.same W12
  have K18 := K11.wr W12 (Or.inl (List.mem_of_getElem? (i := 0) rfl))
  have N12 := Fr.snoc X12 N5 g_d0
  refine Wp.step st12 ?_
  show Wp p e below _ (T12.setTop (mkF m 49 #[.val (.ref d0), .val (.double u0), .second, .val (.double u1), .second, .val (.double u2), .second, .val (.double u3), .second] []))
  refine Wp.step (fun t k => XS.aloadN X12.here hx rfl (hb hby d3_49) rfl rfl k) ?_
  show Wp p e below _ (T12.setTop (mkF m 50 #[.val (.ref d0), .val (.double u0), .second, .val (.double u1), .second, .val (.double u2), .second, .val (.double u3), .second] [(.ref d0)]))
  refine Wp.step (fun t k => own_dload X12.here hx rfl (hb hby d3_50) rfl k) ?_
  show Wp p e below _ (T12.setTop (mkF m 52 #[.val (.ref d0), .val (.double u0), .second, .val (.double u1), .second, .val (.double u2), .second, .val (.double u3), .second] [(.double u2), (.ref d0)]))
  obtain ⟨T19, h19, X19, e19, W19, st19⟩ := putF X12 hx hZ hown (host := "") (Or.inl (hw _ (List.mem_of_getElem? (i := 34) rfl))) Via.refl e12 c15 c13 (Or.inr ⟨(hw _ (List.mem_of_getElem? (i := 35) rfl)), rfl, hnm⟩) (hw _ (List.mem_of_getElem? (i := 9) rfl)) (ty := .double) (by decide) rfl rfl (g := (mkF m 52 #[.val (.ref d0), .val (.double u0), .second, .val (.double u1), .second, .val (.double u2), .second, .val (.double u3), .second] [(.double u2), (.ref d0)])) rfl rfl (hb hby d3_52)
  have c20 := c13.wr W19
  have c21 := c14.other W19 (Or.inr (slot_ne (Or.inr (hw _ (List.mem_of_getElem? (i := 31) rfl))) (Or.inr (hw _ (List.mem_of_getElem? (i := 35) rfl))) (by decide) (t := .double) (t' := .double) (by decide) (by decide)))
  have c22 := c17.other W19 (Or.inr (slot_ne (Or.inr (hw _ (List.mem_of_getElem? (i := 33) rfl))) (Or.inr (hw _ (List.mem_of_getElem? (i := 35) rfl))) (by decide) (t := .double) (t' := .double) (by decide) (by decide)))
  have c23 := c16.other W19 (Or.inr (slot_ne (Or.inr (hw _ (List.mem_of_getElem? (i := 37) rfl))) (Or.inr (hw _ (List.mem_of_getElem? (i := 35) rfl))) (by decide) (t := .double) (t' := .double) (by decide) (by decide)))
  have c24 := c15.same W19
  have K25 := K18.wr W19 (Or.inl (List.mem_of_getElem? (i := 0) rfl))
  have N19 := Fr.snoc X19 N12 g_d0
  refine Wp.step st19 ?_
  show Wp p e below _ (T19.setTop (mkF m 55 #[.val (.ref d0), .val (.double u0), .second, .val (.double u1), .second, .val (.double u2), .second, .val (.double u3), .second] []))
  refine Wp.step (fun t k => XS.aloadN X19.here hx rfl (hb hby d3_55) rfl rfl k) ?_
  show Wp p e below _ (T19.setTop (mkF m 56 #[.val (.ref d0), .val (.double u0), .second, .val (.double u1), .second, .val (.double u2), .second, .val (.double u3), .second] [(.ref d0)]))
  refine Wp.step (fun t k => own_dload X19.here hx rfl (hb hby d3_56) rfl k) ?_
  show Wp p e below _ (T19.setTop (mkF m 58 #[.val (.ref d0), .val (.double u0), .second, .val (.double u1), .second, .val (.double u2), .second, .val (.double u3), .second] [(.double u3), (.ref d0)]))
  obtain ⟨T26, h26, X26, e26, W26, st26⟩ := putF X19 hx hZ hown (host := "") (Or.inl (hw _ (List.mem_of_getElem? (i := 36) rfl))) Via.refl e19 c23 c20 (Or.inr ⟨(hw _ (List.mem_of_getElem? (i := 37) rfl)), rfl, hnm⟩) (hw _ (List.mem_of_getElem? (i := 9) rfl)) (ty := .double) (by decide) rfl rfl (g := (mkF m 58 #[.val (.ref d0), .val (.double u0), .second, .val (.double u1), .second, .val (.double u2), .second, .val (.double u3), .second] [(.double u3), (.ref d0)])) rfl rfl (hb hby d3_58)
  have c27 := c20.wr W26
  have c28 := c21.other W26 (Or.inr (slot_ne (Or.inr (hw _ (List.mem_of_getElem? (i := 31) rfl))) (Or.inr (hw _ (List.mem_of_getElem? (i := 37) rfl))) (by decide) (t := .double) (t' := .double) (by decide) (by decide)))
  have c29 := c22.other W26 (Or.inr (slot_ne (Or.inr (hw _ (List.mem_of_getElem? (i := 33) rfl))) (Or.inr (hw _ (List.mem_of_getElem? (i := 37) rfl))) (by decide) (t := .double) (t' := .double) (by decide) (by decide)))
  have c30 := c24.other W26 (Or.inr (slot_ne (Or.inr (hw _ (List.mem_of_getElem? (i := 35) rfl))) (Or.inr (hw _ (List.mem_of_getElem? (i := 37) rfl))) (by decide) (t := .double) (t' := .double) (by decide) (by decide)))
  have c31 := c23.same W26
  have K32 := K25.wr W26 (Or.inl (List.mem_of_getElem? (i := 0) rfl))
  have N26 := Fr.snoc X26 N19 g_d0
  refine Wp.step st26 ?_
  show Wp p e below _ (T26.setTop (mkF m 61 #[.val (.ref d0), .val (.double u0), .second, .val (.double u1), .second, .val (.double u2), .second, .val (.double u3), .second] []))
  refine Wp.retV X26 hx Bd.returns (hb hby d3_61) hlk ?_ (by decide) (by decide)
  show Q3 Z d0 u0 u1 u2 u3 n1 n2 n3 n4 h0 n0 none T26.heap _
  rw [e26]
  exact ⟨rfl, N26, K32, c27, c28, c29, c30, c31⟩
theorem d7_0 : decode prog_7_method_2_code 0 = .ok (.aload_n 0, 1) := by decide +kernel
theorem d7_1 : decode prog_7_method_2_code 1 = .ok (.getfield 22, 3) := by decide +kernel
theorem d7_4 : decode prog_7_method_2_code 4 = .ok (.aload_n 0, 1) := by decide +kernel
theorem d7_5 : decode prog_7_method_2_code 5 = .ok (.getfield 31, 3) := by decide +kernel
theorem d7_8 : decode prog_7_method_2_code 8 = .ok (.dcmp .g, 1) := by decide +kernel
theorem d7_9 : decode prog_7_method_2_code 9 = .ok (.ifCond .gt 29, 3) := by decide +kernel
theorem d7_12 : decode prog_7_method_2_code 12 = .ok (.aload_n 0, 1) := by decide +kernel
theorem d7_13 : decode prog_7_method_2_code 13 = .ok (.getfield 22, 3) := by decide +kernel
theorem d7_16 : decode prog_7_method_2_code 16 = .ok (.dload_n 1, 1) := by decide +kernel
theorem d7_17 : decode prog_7_method_2_code 17 = .ok (.dcmp .g, 1) := by decide +kernel
theorem d7_18 : decode prog_7_method_2_code 18 = .ok (.ifCond .gt 16, 3) := by decide +kernel
theorem d7_21 : decode prog_7_method_2_code 21 = .ok (.dload_n 1, 1) := by decide +kernel
theorem d7_22 : decode prog_7_method_2_code 22 = .ok (.aload_n 0, 1) := by decide +kernel
theorem d7_23 : decode prog_7_method_2_code 23 = .ok (.getfield 31, 3) := by decide +kernel
theorem d7_26 : decode prog_7_method_2_code 26 = .ok (.dcmp .g, 1) := by decide +kernel
theorem d7_27 : decode prog_7_method_2_code 27 = .ok (.ifCond .gt 7, 3) := by decide +kernel
theorem d7_30 : decode prog_7_method_2_code 30 = .ok (.iconst 1, 1) := by decide +kernel
theorem d7_31 : decode prog_7_method_2_code 31 = .ok (.goto 30, 3) := by decide +kernel
theorem d7_34 : decode prog_7_method_2_code 34 = .ok (.iconst 0, 1) := by decide +kernel
theorem d7_35 : decode prog_7_method_2_code 35 = .ok (.goto 26, 3) := by decide +kernel
theorem d7_38 : decode prog_7_method_2_code 38 = .ok (.aload_n 0, 1) := by decide +kernel
theorem d7_39 : decode prog_7_method_2_code 39 = .ok (.getfield 22, 3) := by decide +kernel
theorem d7_42 : decode prog_7_method_2_code 42 = .ok (.dload_n 1, 1) := by decide +kernel
theorem d7_43 : decode prog_7_method_2_code 43 = .ok (.dcmp .g, 1) := by decide +kernel
theorem d7_44 : decode prog_7_method_2_code 44 = .ok (.ifCond .le 12, 3) := by decide +kernel
theorem d7_47 : decode prog_7_method_2_code 47 = .ok (.dload_n 1, 1) := by decide +kernel
theorem d7_48 : decode prog_7_method_2_code 48 = .ok (.aload_n 0, 1) := by decide +kernel
theorem d7_49 : decode prog_7_method_2_code 49 = .ok (.getfield 31, 3) := by decide +kernel
theorem d7_52 : decode prog_7_method_2_code 52 = .ok (.dcmp .g, 1) := by decide +kernel
theorem d7_53 : decode prog_7_method_2_code 53 = .ok (.ifCond .gt 7, 3) := by decide +kernel
theorem d7_56 : decode prog_7_method_2_code 56 = .ok (.iconst 1, 1) := by decide +kernel
theorem d7_57 : decode prog_7_method_2_code 57 = .ok (.goto 4, 3) := by decide +kernel
theorem d7_60 : decode prog_7_method_2_code 60 = .ok (.iconst 0, 1) := by decide +kernel
theorem d7_61 : decode prog_7_method_2_code 61 = .ok (.istore 5, 2) := by decide +kernel
theorem d7_63 : decode prog_7_method_2_code 63 = .ok (.iload 5, 2) := by decide +kernel
theorem d7_65 : decode prog_7_method_2_code 65 = .ok (.ifCond .eq 25, 3) := by decide +kernel
theorem d7_68 : decode prog_7_method_2_code 68 = .ok (.aload_n 0, 1) := by decide +kernel
theorem d7_69 : decode prog_7_method_2_code 69 = .ok (.getfield 28, 3) := by decide +kernel
theorem d7_72 : decode prog_7_method_2_code 72 = .ok (.dload_n 3, 1) := by decide +kernel
theorem d7_73 : decode prog_7_method_2_code 73 = .ok (.dcmp .g, 1) := by decide +kernel
theorem d7_74 : decode prog_7_method_2_code 74 = .ok (.ifCond .gt 16, 3) := by decide +kernel
theorem d7_77 : decode prog_7_method_2_code 77 = .ok (.dload_n 3, 1) := by decide +kernel
theorem d7_78 : decode prog_7_method_2_code 78 = .ok (.aload_n 0, 1) := by decide +kernel
theorem d7_79 : decode prog_7_method_2_code 79 = .ok (.getfield 34, 3) := by decide +kernel
theorem d7_82 : decode prog_7_method_2_code 82 = .ok (.dcmp .g, 1) := by decide +kernel
theorem d7_83 : decode prog_7_method_2_code 83 = .ok (.ifCond .gt 7, 3) := by decide +kernel
theorem d7_86 : decode prog_7_method_2_code 86 = .ok (.iconst 1, 1) := by decide +kernel
theorem d7_87 : decode prog_7_method_2_code 87 = .ok (.goto 4, 3) := by decide +kernel
theorem d7_90 : decode prog_7_method_2_code 90 = .ok (.iconst 0, 1) := by decide +kernel
theorem d7_91 : decode prog_7_method_2_code 91 = .ok (.ireturn, 1) := by decide +kernel
theorem ef_7_000 (m : MethodId) (x0 : Addr) (x1 : UInt64) (x2 : UInt64) : entryFrame m #[(.ref x0), (.double x1), (.double x2)] 6 = mkF m 0 #[.val (.ref x0), .val (.double x1), .second, .val (.double x2), .second, .unset] [] := by first | (simp [entryFrame, mkF, argsToLocals, Value.category]; done) | rfl
def Q7 (Z : State) (d0 : Addr) (u0 : UInt64) (u1 : UInt64) (f1 : UInt64) (f2 : UInt64) (f3 : UInt64) (f4 : UInt64) (n1 : Int) (n2 : Int) (n3 : Int) (n4 : Int) (m1 : Int) (m2 : Int) (h0 : Heap) (n0 : Nat) (v : Option Value) (h : Heap) (L : List Loc) : Prop := ∃ r0 : Int32, v = some (.int r0) ∧ ((own_inP n1 n2 n3 n4 m1 m2 → r0 = 1) ∧ (¬ own_inP n1 n2 n3 n4 m1 m2 → r0 = 0)) ∧ Fr n0 L ∧ h = h0
set_option maxRecDepth 65536 in
set_option maxHeartbeats 40000000 in
theorem rm7 (l : Launch) (Z : State) (a0 : Array Value) (hw : ∀ d ∈ tables_1, d.before a0 Z = true) (ws : List Jvm.Cond) (d0 : Addr) (u0 : UInt64) (u1 : UInt64) (f1 : UInt64) (f2 : UInt64) (f3 : UInt64) (f4 : UInt64) (n1 : Int) (n2 : Int) (n3 : Int) (n4 : Int) (m1 : Int) (m2 : Int) (h0 : Heap) (n0 : Nat) (Z0 : n0 ≤ h0.size) (F_west : Fld Z h0 d0 "com/example/luoshu/luoshu/query/Box" "west" "D" (.double f1)) (F_south : Fld Z h0 d0 "com/example/luoshu/luoshu/query/Box" "south" "D" (.double f2)) (F_east : Fld Z h0 d0 "com/example/luoshu/luoshu/query/Box" "east" "D" (.double f3)) (F_north : Fld Z h0 d0 "com/example/luoshu/luoshu/query/Box" "north" "D" (.double f4)) (V1 : own_val f1 n1 0) (V2 : own_val f2 n2 0) (V3 : own_val f3 n3 0) (V4 : own_val f4 n4 0) (W1 : own_val u0 m1 0) (W2 : own_val u1 m2 0) :
    MetFree l (⟨"com/example/luoshu/luoshu/query/Box", "contains", "(DD)Z"⟩ : MethodName) (head1 (Jvm.Cond.code (⟨"com/example/luoshu/luoshu/query/Box", "contains", "(DD)Z"⟩ : MethodName) prog_7_method_2_code 6 (some .boolean) :: ws) ({ frames := 0, cells := 0, slots := 0, locals := 0 } : Room)) (fun a U => a = #[(.ref d0), (.double u0), (.double u1)] ∧ Z.Warmed39 U.vm ∧ U.heap = h0) (fun _ _ _ _ _ => True) (fun _ U o U' => ∃ v L, o = .returned v ∧ Q7 Z d0 u0 u1 f1 f2 f3 f4 n1 n2 n3 n4 m1 m2 h0 n0 v U'.heap L ∧ FrameEnd U o U' L ({ frames := 0, cells := 0, slots := 0, locals := 0 } : Room).cells ({ frames := 0, cells := 0, slots := 0, locals := 0 } : Room).slots) := by
  refine MetFree.of_bodySF (plainFor_of_name pn_com_example_luoshu_luoshu_query_Box) hisR ?_
  intro p e s m args below meth c s₁ Bd hml0 hP hK
  obtain ⟨rfl, hZ, hh⟩ := hP
  have hx := Bd.exec
  have hby := Bd.bytes
  have hlk : meth.locks = false := Bd.notSynchronized
  have hml : c.maxLocals = 6 := hml0
  have hown : s.vm.findClass "com/example/luoshu/luoshu/query/Box" = some m.cls := findClass_of_methodNamed Bd.named
  have hnm := (name_of_methodNamed Bd.named Bd.method).1
  have X0 : Stand p l e ({ frames := 0, cells := 0, slots := 0, locals := 0 } : Room) s m #[(.ref d0), (.double u0), (.double u1)] below meth c s₁ [] 0 0 := Stand.of_body Bd
  have e0 : s₁.heap = h0 := by rw [← hh, Bd.state]; rfl
  have N0 := Fr.nil n0
  have K0 : Keep h0 h0 [] := Keep.refl h0 _
  show Wp p e below (Out s (Q7 Z d0 u0 u1 f1 f2 f3 f4 n1 n2 n3 n4 m1 m2 h0 n0) ({ frames := 0, cells := 0, slots := 0, locals := 0 } : Room).cells ({ frames := 0, cells := 0, slots := 0, locals := 0 } : Room).slots) (s₁.setTop (entryFrame m #[(.ref d0), (.double u0), (.double u1)] 6))
  rw [ef_7_000]
  show Wp p e below _ (s₁.setTop (mkF m 0 #[.val (.ref d0), .val (.double u0), .second, .val (.double u1), .second, .unset] []))
  refine Wp.step (fun t k => XS.aloadN X0.here hx rfl (hb hby d7_0) rfl rfl k) ?_
  show Wp p e below _ (s₁.setTop (mkF m 1 #[.val (.ref d0), .val (.double u0), .second, .val (.double u1), .second, .unset] [(.ref d0)]))
  obtain ⟨T1, X1, e1, st1⟩ := getF X0 hx hZ hown (host := "") (Or.inl (hw _ (List.mem_of_getElem? (i := 30) rfl))) Via.refl e0 F_west (g := (mkF m 1 #[.val (.ref d0), .val (.double u0), .second, .val (.double u1), .second, .unset] [(.ref d0)])) rfl rfl (hb hby d7_1)
  refine Wp.step st1 ?_
  show Wp p e below _ (T1.setTop (mkF m 4 #[.val (.ref d0), .val (.double u0), .second, .val (.double u1), .second, .unset] [(.double f1)]))
  refine Wp.step (fun t k => XS.aloadN X1.here hx rfl (hb hby d7_4) rfl rfl k) ?_
  show Wp p e below _ (T1.setTop (mkF m 5 #[.val (.ref d0), .val (.double u0), .second, .val (.double u1), .second, .unset] [(.ref d0), (.double f1)]))
  obtain ⟨T2, X2, e2, st2⟩ := getF X1 hx hZ hown (host := "") (Or.inl (hw _ (List.mem_of_getElem? (i := 34) rfl))) Via.refl e1 F_east (g := (mkF m 5 #[.val (.ref d0), .val (.double u0), .second, .val (.double u1), .second, .unset] [(.ref d0), (.double f1)])) rfl rfl (hb hby d7_5)
  refine Wp.step st2 ?_
  show Wp p e below _ (T2.setTop (mkF m 8 #[.val (.ref d0), .val (.double u0), .second, .val (.double u1), .second, .unset] [(.double f3), (.double f1)]))
  refine Wp.step (fun t k => own_dcmp X2.here hx rfl (hb hby d7_8) rfl k) ?_
  show Wp p e below _ (T2.setTop (mkF m 9 #[.val (.ref d0), .val (.double u0), .second, .val (.double u1), .second, .unset] [(.int (cmpValue (FP.dcmp f1 f3) .g))]))
  by_cases hc3 : (0 : Int32) < (cmpValue (FP.dcmp f1 f3) .g)
  · refine Wp.step (fun t k => XS.ifYes X2.here hx rfl (pc0 := 9) (pc' := 38) rfl (hb hby d7_9) rfl ((if0 _ _).trans (tlt hc3).2.2.1) (by decide) (by decide) k) ?_
    show Wp p e below _ (T2.setTop (mkF m 38 #[.val (.ref d0), .val (.double u0), .second, .val (.double u1), .second, .unset] []))
    refine Wp.step (fun t k => XS.aloadN X2.here hx rfl (hb hby d7_38) rfl rfl k) ?_
    show Wp p e below _ (T2.setTop (mkF m 39 #[.val (.ref d0), .val (.double u0), .second, .val (.double u1), .second, .unset] [(.ref d0)]))
    obtain ⟨T4, X4, e4, st4⟩ := getF X2 hx hZ hown (host := "") (Or.inl (hw _ (List.mem_of_getElem? (i := 30) rfl))) Via.refl e2 F_west (g := (mkF m 39 #[.val (.ref d0), .val (.double u0), .second, .val (.double u1), .second, .unset] [(.ref d0)])) rfl rfl (hb hby d7_39)
    refine Wp.step st4 ?_
    show Wp p e below _ (T4.setTop (mkF m 42 #[.val (.ref d0), .val (.double u0), .second, .val (.double u1), .second, .unset] [(.double f1)]))
    refine Wp.step (fun t k => own_dloadN X4.here hx rfl (hb hby d7_42) rfl k) ?_
    show Wp p e below _ (T4.setTop (mkF m 43 #[.val (.ref d0), .val (.double u0), .second, .val (.double u1), .second, .unset] [(.double u0), (.double f1)]))
    refine Wp.step (fun t k => own_dcmp X4.here hx rfl (hb hby d7_43) rfl k) ?_
    show Wp p e below _ (T4.setTop (mkF m 44 #[.val (.ref d0), .val (.double u0), .second, .val (.double u1), .second, .unset] [(.int (cmpValue (FP.dcmp f1 u0) .g))]))
    by_cases hc5 : (0 : Int32) < (cmpValue (FP.dcmp f1 u0) .g)
    · refine Wp.step (fun t k => XS.ifNo X4.here hx rfl (hb hby d7_44) rfl ((if0 _ _).trans (tlt hc5).2.2.2) k) ?_
      show Wp p e below _ (T4.setTop (mkF m 47 #[.val (.ref d0), .val (.double u0), .second, .val (.double u1), .second, .unset] []))
      refine Wp.step (fun t k => own_dloadN X4.here hx rfl (hb hby d7_47) rfl k) ?_
      show Wp p e below _ (T4.setTop (mkF m 48 #[.val (.ref d0), .val (.double u0), .second, .val (.double u1), .second, .unset] [(.double u0)]))
      refine Wp.step (fun t k => XS.aloadN X4.here hx rfl (hb hby d7_48) rfl rfl k) ?_
      show Wp p e below _ (T4.setTop (mkF m 49 #[.val (.ref d0), .val (.double u0), .second, .val (.double u1), .second, .unset] [(.ref d0), (.double u0)]))
      obtain ⟨T6, X6, e6, st6⟩ := getF X4 hx hZ hown (host := "") (Or.inl (hw _ (List.mem_of_getElem? (i := 34) rfl))) Via.refl e4 F_east (g := (mkF m 49 #[.val (.ref d0), .val (.double u0), .second, .val (.double u1), .second, .unset] [(.ref d0), (.double u0)])) rfl rfl (hb hby d7_49)
      refine Wp.step st6 ?_
      show Wp p e below _ (T6.setTop (mkF m 52 #[.val (.ref d0), .val (.double u0), .second, .val (.double u1), .second, .unset] [(.double f3), (.double u0)]))
      refine Wp.step (fun t k => own_dcmp X6.here hx rfl (hb hby d7_52) rfl k) ?_
      show Wp p e below _ (T6.setTop (mkF m 53 #[.val (.ref d0), .val (.double u0), .second, .val (.double u1), .second, .unset] [(.int (cmpValue (FP.dcmp u0 f3) .g))]))
      by_cases hc7 : (0 : Int32) < (cmpValue (FP.dcmp u0 f3) .g)
      · refine Wp.step (fun t k => XS.ifYes X6.here hx rfl (pc0 := 53) (pc' := 60) rfl (hb hby d7_53) rfl ((if0 _ _).trans (tlt hc7).2.2.1) (by decide) (by decide) k) ?_
        show Wp p e below _ (T6.setTop (mkF m 60 #[.val (.ref d0), .val (.double u0), .second, .val (.double u1), .second, .unset] []))
        refine Wp.step (fun t k => XS.iconst X6.here hx rfl (hb hby d7_60) k) ?_
        show Wp p e below _ (T6.setTop (mkF m 61 #[.val (.ref d0), .val (.double u0), .second, .val (.double u1), .second, .unset] [(.int (0 : Int32))]))
        refine Wp.step (fun t k => XS.istore X6.here hx rfl (hb hby d7_61) rfl (l' := #[.val (.ref d0), .val (.double u0), .second, .val (.double u1), .second, .val (.int (0 : Int32))]) rfl k) ?_
        show Wp p e below _ (T6.setTop (mkF m 63 #[.val (.ref d0), .val (.double u0), .second, .val (.double u1), .second, .val (.int (0 : Int32))] []))
        refine Wp.step (fun t k => XS.iload X6.here hx rfl (hb hby d7_63) rfl k) ?_
        show Wp p e below _ (T6.setTop (mkF m 65 #[.val (.ref d0), .val (.double u0), .second, .val (.double u1), .second, .val (.int (0 : Int32))] [(.int (0 : Int32))]))
        refine Wp.step (fun t k => XS.ifYes X6.here hx rfl (pc0 := 65) (pc' := 90) rfl (hb hby d7_65) rfl ((if0 _ _).trans (teq (show (0 : Int32) = (0 : Int32) by decide)).1) (by decide) (by decide) k) ?_
        show Wp p e below _ (T6.setTop (mkF m 90 #[.val (.ref d0), .val (.double u0), .second, .val (.double u1), .second, .val (.int (0 : Int32))] []))
        refine Wp.step (fun t k => XS.iconst X6.here hx rfl (hb hby d7_90) k) ?_
        show Wp p e below _ (T6.setTop (mkF m 91 #[.val (.ref d0), .val (.double u0), .second, .val (.double u1), .second, .val (.int (0 : Int32))] [(.int (0 : Int32))]))
        refine Wp.retN X6 hx (t := .boolean) Bd.returns (by simp) (hb hby d7_91) hlk ?_ (by decide) (by decide)
        show Q7 Z d0 u0 u1 f1 f2 f3 f4 n1 n2 n3 n4 m1 m2 h0 n0 (some (.int (nar .boolean (0 : Int32)))) T6.heap _
        rw [e6]
        have t9 : n3 < n1 := (own_gtV V1 V3).mp hc3
        have t44 : m1 < n1 := (own_gtV V1 W1).mp hc5
        have t53 : n3 < m1 := (own_gtV W1 V3).mp hc7
        exact ⟨(0 : Int32), rfl, ⟨fun q => absurd q (by unfold own_inP; omega), fun _ => rfl⟩, N0, rfl⟩
      · refine Wp.step (fun t k => XS.ifNo X6.here hx rfl (hb hby d7_53) rfl ((if0 _ _).trans (flt hc7).2.2.1) k) ?_
        show Wp p e below _ (T6.setTop (mkF m 56 #[.val (.ref d0), .val (.double u0), .second, .val (.double u1), .second, .unset] []))
        refine Wp.step (fun t k => XS.iconst X6.here hx rfl (hb hby d7_56) k) ?_
        show Wp p e below _ (T6.setTop (mkF m 57 #[.val (.ref d0), .val (.double u0), .second, .val (.double u1), .second, .unset] [(.int (1 : Int32))]))
        refine Wp.step (fun t k => XS.goto X6.here hx rfl (pc0 := 57) (pc' := 61) rfl (hb hby d7_57) (by decide) (by decide) k) ?_
        show Wp p e below _ (T6.setTop (mkF m 61 #[.val (.ref d0), .val (.double u0), .second, .val (.double u1), .second, .unset] [(.int (1 : Int32))]))
        refine Wp.step (fun t k => XS.istore X6.here hx rfl (hb hby d7_61) rfl (l' := #[.val (.ref d0), .val (.double u0), .second, .val (.double u1), .second, .val (.int (1 : Int32))]) rfl k) ?_
        show Wp p e below _ (T6.setTop (mkF m 63 #[.val (.ref d0), .val (.double u0), .second, .val (.double u1), .second, .val (.int (1 : Int32))] []))
        refine Wp.step (fun t k => XS.iload X6.here hx rfl (hb hby d7_63) rfl k) ?_
        show Wp p e below _ (T6.setTop (mkF m 65 #[.val (.ref d0), .val (.double u0), .second, .val (.double u1), .second, .val (.int (1 : Int32))] [(.int (1 : Int32))]))
        refine Wp.step (fun t k => XS.ifNo X6.here hx rfl (hb hby d7_65) rfl ((if0 _ _).trans (feq (show ¬ ((1 : Int32) = (0 : Int32)) by decide)).1) k) ?_
        show Wp p e below _ (T6.setTop (mkF m 68 #[.val (.ref d0), .val (.double u0), .second, .val (.double u1), .second, .val (.int (1 : Int32))] []))
        refine Wp.step (fun t k => XS.aloadN X6.here hx rfl (hb hby d7_68) rfl rfl k) ?_
        show Wp p e below _ (T6.setTop (mkF m 69 #[.val (.ref d0), .val (.double u0), .second, .val (.double u1), .second, .val (.int (1 : Int32))] [(.ref d0)]))
        obtain ⟨T10, X10, e10, st10⟩ := getF X6 hx hZ hown (host := "") (Or.inl (hw _ (List.mem_of_getElem? (i := 32) rfl))) Via.refl e6 F_south (g := (mkF m 69 #[.val (.ref d0), .val (.double u0), .second, .val (.double u1), .second, .val (.int (1 : Int32))] [(.ref d0)])) rfl rfl (hb hby d7_69)
        refine Wp.step st10 ?_
        show Wp p e below _ (T10.setTop (mkF m 72 #[.val (.ref d0), .val (.double u0), .second, .val (.double u1), .second, .val (.int (1 : Int32))] [(.double f2)]))
        refine Wp.step (fun t k => own_dloadN X10.here hx rfl (hb hby d7_72) rfl k) ?_
        show Wp p e below _ (T10.setTop (mkF m 73 #[.val (.ref d0), .val (.double u0), .second, .val (.double u1), .second, .val (.int (1 : Int32))] [(.double u1), (.double f2)]))
        refine Wp.step (fun t k => own_dcmp X10.here hx rfl (hb hby d7_73) rfl k) ?_
        show Wp p e below _ (T10.setTop (mkF m 74 #[.val (.ref d0), .val (.double u0), .second, .val (.double u1), .second, .val (.int (1 : Int32))] [(.int (cmpValue (FP.dcmp f2 u1) .g))]))
        by_cases hc11 : (0 : Int32) < (cmpValue (FP.dcmp f2 u1) .g)
        · refine Wp.step (fun t k => XS.ifYes X10.here hx rfl (pc0 := 74) (pc' := 90) rfl (hb hby d7_74) rfl ((if0 _ _).trans (tlt hc11).2.2.1) (by decide) (by decide) k) ?_
          show Wp p e below _ (T10.setTop (mkF m 90 #[.val (.ref d0), .val (.double u0), .second, .val (.double u1), .second, .val (.int (1 : Int32))] []))
          refine Wp.step (fun t k => XS.iconst X10.here hx rfl (hb hby d7_90) k) ?_
          show Wp p e below _ (T10.setTop (mkF m 91 #[.val (.ref d0), .val (.double u0), .second, .val (.double u1), .second, .val (.int (1 : Int32))] [(.int (0 : Int32))]))
          refine Wp.retN X10 hx (t := .boolean) Bd.returns (by simp) (hb hby d7_91) hlk ?_ (by decide) (by decide)
          show Q7 Z d0 u0 u1 f1 f2 f3 f4 n1 n2 n3 n4 m1 m2 h0 n0 (some (.int (nar .boolean (0 : Int32)))) T10.heap _
          rw [e10]
          have t9 : n3 < n1 := (own_gtV V1 V3).mp hc3
          have t44 : m1 < n1 := (own_gtV V1 W1).mp hc5
          have t53 : ¬ (n3 < m1) := fun q => hc7 ((own_gtV W1 V3).mpr q)
          have t74 : m2 < n2 := (own_gtV V2 W2).mp hc11
          exact ⟨(0 : Int32), rfl, ⟨fun q => absurd q (by unfold own_inP; omega), fun _ => rfl⟩, N0, rfl⟩
        · refine Wp.step (fun t k => XS.ifNo X10.here hx rfl (hb hby d7_74) rfl ((if0 _ _).trans (flt hc11).2.2.1) k) ?_
          show Wp p e below _ (T10.setTop (mkF m 77 #[.val (.ref d0), .val (.double u0), .second, .val (.double u1), .second, .val (.int (1 : Int32))] []))
          refine Wp.step (fun t k => own_dloadN X10.here hx rfl (hb hby d7_77) rfl k) ?_
          show Wp p e below _ (T10.setTop (mkF m 78 #[.val (.ref d0), .val (.double u0), .second, .val (.double u1), .second, .val (.int (1 : Int32))] [(.double u1)]))
          refine Wp.step (fun t k => XS.aloadN X10.here hx rfl (hb hby d7_78) rfl rfl k) ?_
          show Wp p e below _ (T10.setTop (mkF m 79 #[.val (.ref d0), .val (.double u0), .second, .val (.double u1), .second, .val (.int (1 : Int32))] [(.ref d0), (.double u1)]))
          obtain ⟨T12, X12, e12, st12⟩ := getF X10 hx hZ hown (host := "") (Or.inl (hw _ (List.mem_of_getElem? (i := 36) rfl))) Via.refl e10 F_north (g := (mkF m 79 #[.val (.ref d0), .val (.double u0), .second, .val (.double u1), .second, .val (.int (1 : Int32))] [(.ref d0), (.double u1)])) rfl rfl (hb hby d7_79)
          refine Wp.step st12 ?_
          show Wp p e below _ (T12.setTop (mkF m 82 #[.val (.ref d0), .val (.double u0), .second, .val (.double u1), .second, .val (.int (1 : Int32))] [(.double f4), (.double u1)]))
          refine Wp.step (fun t k => own_dcmp X12.here hx rfl (hb hby d7_82) rfl k) ?_
          show Wp p e below _ (T12.setTop (mkF m 83 #[.val (.ref d0), .val (.double u0), .second, .val (.double u1), .second, .val (.int (1 : Int32))] [(.int (cmpValue (FP.dcmp u1 f4) .g))]))
          by_cases hc13 : (0 : Int32) < (cmpValue (FP.dcmp u1 f4) .g)
          · refine Wp.step (fun t k => XS.ifYes X12.here hx rfl (pc0 := 83) (pc' := 90) rfl (hb hby d7_83) rfl ((if0 _ _).trans (tlt hc13).2.2.1) (by decide) (by decide) k) ?_
            show Wp p e below _ (T12.setTop (mkF m 90 #[.val (.ref d0), .val (.double u0), .second, .val (.double u1), .second, .val (.int (1 : Int32))] []))
            refine Wp.step (fun t k => XS.iconst X12.here hx rfl (hb hby d7_90) k) ?_
            show Wp p e below _ (T12.setTop (mkF m 91 #[.val (.ref d0), .val (.double u0), .second, .val (.double u1), .second, .val (.int (1 : Int32))] [(.int (0 : Int32))]))
            refine Wp.retN X12 hx (t := .boolean) Bd.returns (by simp) (hb hby d7_91) hlk ?_ (by decide) (by decide)
            show Q7 Z d0 u0 u1 f1 f2 f3 f4 n1 n2 n3 n4 m1 m2 h0 n0 (some (.int (nar .boolean (0 : Int32)))) T12.heap _
            rw [e12]
            have t9 : n3 < n1 := (own_gtV V1 V3).mp hc3
            have t44 : m1 < n1 := (own_gtV V1 W1).mp hc5
            have t53 : ¬ (n3 < m1) := fun q => hc7 ((own_gtV W1 V3).mpr q)
            have t74 : ¬ (m2 < n2) := fun q => hc11 ((own_gtV V2 W2).mpr q)
            have t83 : n4 < m2 := (own_gtV W2 V4).mp hc13
            exact ⟨(0 : Int32), rfl, ⟨fun q => absurd q (by unfold own_inP; omega), fun _ => rfl⟩, N0, rfl⟩
          · refine Wp.step (fun t k => XS.ifNo X12.here hx rfl (hb hby d7_83) rfl ((if0 _ _).trans (flt hc13).2.2.1) k) ?_
            show Wp p e below _ (T12.setTop (mkF m 86 #[.val (.ref d0), .val (.double u0), .second, .val (.double u1), .second, .val (.int (1 : Int32))] []))
            refine Wp.step (fun t k => XS.iconst X12.here hx rfl (hb hby d7_86) k) ?_
            show Wp p e below _ (T12.setTop (mkF m 87 #[.val (.ref d0), .val (.double u0), .second, .val (.double u1), .second, .val (.int (1 : Int32))] [(.int (1 : Int32))]))
            refine Wp.step (fun t k => XS.goto X12.here hx rfl (pc0 := 87) (pc' := 91) rfl (hb hby d7_87) (by decide) (by decide) k) ?_
            show Wp p e below _ (T12.setTop (mkF m 91 #[.val (.ref d0), .val (.double u0), .second, .val (.double u1), .second, .val (.int (1 : Int32))] [(.int (1 : Int32))]))
            refine Wp.retN X12 hx (t := .boolean) Bd.returns (by simp) (hb hby d7_91) hlk ?_ (by decide) (by decide)
            show Q7 Z d0 u0 u1 f1 f2 f3 f4 n1 n2 n3 n4 m1 m2 h0 n0 (some (.int (nar .boolean (1 : Int32)))) T12.heap _
            rw [e12]
            have t9 : n3 < n1 := (own_gtV V1 V3).mp hc3
            have t44 : m1 < n1 := (own_gtV V1 W1).mp hc5
            have t53 : ¬ (n3 < m1) := fun q => hc7 ((own_gtV W1 V3).mpr q)
            have t74 : ¬ (m2 < n2) := fun q => hc11 ((own_gtV V2 W2).mpr q)
            have t83 : ¬ (n4 < m2) := fun q => hc13 ((own_gtV W2 V4).mpr q)
            exact ⟨(1 : Int32), rfl, ⟨fun _ => rfl, fun q => absurd (show own_inP n1 n2 n3 n4 m1 m2 by unfold own_inP; omega) q⟩, N0, rfl⟩
    · refine Wp.step (fun t k => XS.ifYes X4.here hx rfl (pc0 := 44) (pc' := 56) rfl (hb hby d7_44) rfl ((if0 _ _).trans (flt hc5).2.2.2) (by decide) (by decide) k) ?_
      show Wp p e below _ (T4.setTop (mkF m 56 #[.val (.ref d0), .val (.double u0), .second, .val (.double u1), .second, .unset] []))
      refine Wp.step (fun t k => XS.iconst X4.here hx rfl (hb hby d7_56) k) ?_
      show Wp p e below _ (T4.setTop (mkF m 57 #[.val (.ref d0), .val (.double u0), .second, .val (.double u1), .second, .unset] [(.int (1 : Int32))]))
      refine Wp.step (fun t k => XS.goto X4.here hx rfl (pc0 := 57) (pc' := 61) rfl (hb hby d7_57) (by decide) (by decide) k) ?_
      show Wp p e below _ (T4.setTop (mkF m 61 #[.val (.ref d0), .val (.double u0), .second, .val (.double u1), .second, .unset] [(.int (1 : Int32))]))
      refine Wp.step (fun t k => XS.istore X4.here hx rfl (hb hby d7_61) rfl (l' := #[.val (.ref d0), .val (.double u0), .second, .val (.double u1), .second, .val (.int (1 : Int32))]) rfl k) ?_
      show Wp p e below _ (T4.setTop (mkF m 63 #[.val (.ref d0), .val (.double u0), .second, .val (.double u1), .second, .val (.int (1 : Int32))] []))
      refine Wp.step (fun t k => XS.iload X4.here hx rfl (hb hby d7_63) rfl k) ?_
      show Wp p e below _ (T4.setTop (mkF m 65 #[.val (.ref d0), .val (.double u0), .second, .val (.double u1), .second, .val (.int (1 : Int32))] [(.int (1 : Int32))]))
      refine Wp.step (fun t k => XS.ifNo X4.here hx rfl (hb hby d7_65) rfl ((if0 _ _).trans (feq (show ¬ ((1 : Int32) = (0 : Int32)) by decide)).1) k) ?_
      show Wp p e below _ (T4.setTop (mkF m 68 #[.val (.ref d0), .val (.double u0), .second, .val (.double u1), .second, .val (.int (1 : Int32))] []))
      refine Wp.step (fun t k => XS.aloadN X4.here hx rfl (hb hby d7_68) rfl rfl k) ?_
      show Wp p e below _ (T4.setTop (mkF m 69 #[.val (.ref d0), .val (.double u0), .second, .val (.double u1), .second, .val (.int (1 : Int32))] [(.ref d0)]))
      obtain ⟨T15, X15, e15, st15⟩ := getF X4 hx hZ hown (host := "") (Or.inl (hw _ (List.mem_of_getElem? (i := 32) rfl))) Via.refl e4 F_south (g := (mkF m 69 #[.val (.ref d0), .val (.double u0), .second, .val (.double u1), .second, .val (.int (1 : Int32))] [(.ref d0)])) rfl rfl (hb hby d7_69)
      refine Wp.step st15 ?_
      show Wp p e below _ (T15.setTop (mkF m 72 #[.val (.ref d0), .val (.double u0), .second, .val (.double u1), .second, .val (.int (1 : Int32))] [(.double f2)]))
      refine Wp.step (fun t k => own_dloadN X15.here hx rfl (hb hby d7_72) rfl k) ?_
      show Wp p e below _ (T15.setTop (mkF m 73 #[.val (.ref d0), .val (.double u0), .second, .val (.double u1), .second, .val (.int (1 : Int32))] [(.double u1), (.double f2)]))
      refine Wp.step (fun t k => own_dcmp X15.here hx rfl (hb hby d7_73) rfl k) ?_
      show Wp p e below _ (T15.setTop (mkF m 74 #[.val (.ref d0), .val (.double u0), .second, .val (.double u1), .second, .val (.int (1 : Int32))] [(.int (cmpValue (FP.dcmp f2 u1) .g))]))
      by_cases hc16 : (0 : Int32) < (cmpValue (FP.dcmp f2 u1) .g)
      · refine Wp.step (fun t k => XS.ifYes X15.here hx rfl (pc0 := 74) (pc' := 90) rfl (hb hby d7_74) rfl ((if0 _ _).trans (tlt hc16).2.2.1) (by decide) (by decide) k) ?_
        show Wp p e below _ (T15.setTop (mkF m 90 #[.val (.ref d0), .val (.double u0), .second, .val (.double u1), .second, .val (.int (1 : Int32))] []))
        refine Wp.step (fun t k => XS.iconst X15.here hx rfl (hb hby d7_90) k) ?_
        show Wp p e below _ (T15.setTop (mkF m 91 #[.val (.ref d0), .val (.double u0), .second, .val (.double u1), .second, .val (.int (1 : Int32))] [(.int (0 : Int32))]))
        refine Wp.retN X15 hx (t := .boolean) Bd.returns (by simp) (hb hby d7_91) hlk ?_ (by decide) (by decide)
        show Q7 Z d0 u0 u1 f1 f2 f3 f4 n1 n2 n3 n4 m1 m2 h0 n0 (some (.int (nar .boolean (0 : Int32)))) T15.heap _
        rw [e15]
        have t9 : n3 < n1 := (own_gtV V1 V3).mp hc3
        have t44 : ¬ (m1 < n1) := fun q => hc5 ((own_gtV V1 W1).mpr q)
        have t74 : m2 < n2 := (own_gtV V2 W2).mp hc16
        exact ⟨(0 : Int32), rfl, ⟨fun q => absurd q (by unfold own_inP; omega), fun _ => rfl⟩, N0, rfl⟩
      · refine Wp.step (fun t k => XS.ifNo X15.here hx rfl (hb hby d7_74) rfl ((if0 _ _).trans (flt hc16).2.2.1) k) ?_
        show Wp p e below _ (T15.setTop (mkF m 77 #[.val (.ref d0), .val (.double u0), .second, .val (.double u1), .second, .val (.int (1 : Int32))] []))
        refine Wp.step (fun t k => own_dloadN X15.here hx rfl (hb hby d7_77) rfl k) ?_
        show Wp p e below _ (T15.setTop (mkF m 78 #[.val (.ref d0), .val (.double u0), .second, .val (.double u1), .second, .val (.int (1 : Int32))] [(.double u1)]))
        refine Wp.step (fun t k => XS.aloadN X15.here hx rfl (hb hby d7_78) rfl rfl k) ?_
        show Wp p e below _ (T15.setTop (mkF m 79 #[.val (.ref d0), .val (.double u0), .second, .val (.double u1), .second, .val (.int (1 : Int32))] [(.ref d0), (.double u1)]))
        obtain ⟨T17, X17, e17, st17⟩ := getF X15 hx hZ hown (host := "") (Or.inl (hw _ (List.mem_of_getElem? (i := 36) rfl))) Via.refl e15 F_north (g := (mkF m 79 #[.val (.ref d0), .val (.double u0), .second, .val (.double u1), .second, .val (.int (1 : Int32))] [(.ref d0), (.double u1)])) rfl rfl (hb hby d7_79)
        refine Wp.step st17 ?_
        show Wp p e below _ (T17.setTop (mkF m 82 #[.val (.ref d0), .val (.double u0), .second, .val (.double u1), .second, .val (.int (1 : Int32))] [(.double f4), (.double u1)]))
        refine Wp.step (fun t k => own_dcmp X17.here hx rfl (hb hby d7_82) rfl k) ?_
        show Wp p e below _ (T17.setTop (mkF m 83 #[.val (.ref d0), .val (.double u0), .second, .val (.double u1), .second, .val (.int (1 : Int32))] [(.int (cmpValue (FP.dcmp u1 f4) .g))]))
        by_cases hc18 : (0 : Int32) < (cmpValue (FP.dcmp u1 f4) .g)
        · refine Wp.step (fun t k => XS.ifYes X17.here hx rfl (pc0 := 83) (pc' := 90) rfl (hb hby d7_83) rfl ((if0 _ _).trans (tlt hc18).2.2.1) (by decide) (by decide) k) ?_
          show Wp p e below _ (T17.setTop (mkF m 90 #[.val (.ref d0), .val (.double u0), .second, .val (.double u1), .second, .val (.int (1 : Int32))] []))
          refine Wp.step (fun t k => XS.iconst X17.here hx rfl (hb hby d7_90) k) ?_
          show Wp p e below _ (T17.setTop (mkF m 91 #[.val (.ref d0), .val (.double u0), .second, .val (.double u1), .second, .val (.int (1 : Int32))] [(.int (0 : Int32))]))
          refine Wp.retN X17 hx (t := .boolean) Bd.returns (by simp) (hb hby d7_91) hlk ?_ (by decide) (by decide)
          show Q7 Z d0 u0 u1 f1 f2 f3 f4 n1 n2 n3 n4 m1 m2 h0 n0 (some (.int (nar .boolean (0 : Int32)))) T17.heap _
          rw [e17]
          have t9 : n3 < n1 := (own_gtV V1 V3).mp hc3
          have t44 : ¬ (m1 < n1) := fun q => hc5 ((own_gtV V1 W1).mpr q)
          have t74 : ¬ (m2 < n2) := fun q => hc16 ((own_gtV V2 W2).mpr q)
          have t83 : n4 < m2 := (own_gtV W2 V4).mp hc18
          exact ⟨(0 : Int32), rfl, ⟨fun q => absurd q (by unfold own_inP; omega), fun _ => rfl⟩, N0, rfl⟩
        · refine Wp.step (fun t k => XS.ifNo X17.here hx rfl (hb hby d7_83) rfl ((if0 _ _).trans (flt hc18).2.2.1) k) ?_
          show Wp p e below _ (T17.setTop (mkF m 86 #[.val (.ref d0), .val (.double u0), .second, .val (.double u1), .second, .val (.int (1 : Int32))] []))
          refine Wp.step (fun t k => XS.iconst X17.here hx rfl (hb hby d7_86) k) ?_
          show Wp p e below _ (T17.setTop (mkF m 87 #[.val (.ref d0), .val (.double u0), .second, .val (.double u1), .second, .val (.int (1 : Int32))] [(.int (1 : Int32))]))
          refine Wp.step (fun t k => XS.goto X17.here hx rfl (pc0 := 87) (pc' := 91) rfl (hb hby d7_87) (by decide) (by decide) k) ?_
          show Wp p e below _ (T17.setTop (mkF m 91 #[.val (.ref d0), .val (.double u0), .second, .val (.double u1), .second, .val (.int (1 : Int32))] [(.int (1 : Int32))]))
          refine Wp.retN X17 hx (t := .boolean) Bd.returns (by simp) (hb hby d7_91) hlk ?_ (by decide) (by decide)
          show Q7 Z d0 u0 u1 f1 f2 f3 f4 n1 n2 n3 n4 m1 m2 h0 n0 (some (.int (nar .boolean (1 : Int32)))) T17.heap _
          rw [e17]
          have t9 : n3 < n1 := (own_gtV V1 V3).mp hc3
          have t44 : ¬ (m1 < n1) := fun q => hc5 ((own_gtV V1 W1).mpr q)
          have t74 : ¬ (m2 < n2) := fun q => hc16 ((own_gtV V2 W2).mpr q)
          have t83 : ¬ (n4 < m2) := fun q => hc18 ((own_gtV W2 V4).mpr q)
          exact ⟨(1 : Int32), rfl, ⟨fun _ => rfl, fun q => absurd (show own_inP n1 n2 n3 n4 m1 m2 by unfold own_inP; omega) q⟩, N0, rfl⟩
  · refine Wp.step (fun t k => XS.ifNo X2.here hx rfl (hb hby d7_9) rfl ((if0 _ _).trans (flt hc3).2.2.1) k) ?_
    show Wp p e below _ (T2.setTop (mkF m 12 #[.val (.ref d0), .val (.double u0), .second, .val (.double u1), .second, .unset] []))
    refine Wp.step (fun t k => XS.aloadN X2.here hx rfl (hb hby d7_12) rfl rfl k) ?_
    show Wp p e below _ (T2.setTop (mkF m 13 #[.val (.ref d0), .val (.double u0), .second, .val (.double u1), .second, .unset] [(.ref d0)]))
    obtain ⟨T19, X19, e19, st19⟩ := getF X2 hx hZ hown (host := "") (Or.inl (hw _ (List.mem_of_getElem? (i := 30) rfl))) Via.refl e2 F_west (g := (mkF m 13 #[.val (.ref d0), .val (.double u0), .second, .val (.double u1), .second, .unset] [(.ref d0)])) rfl rfl (hb hby d7_13)
    refine Wp.step st19 ?_
    show Wp p e below _ (T19.setTop (mkF m 16 #[.val (.ref d0), .val (.double u0), .second, .val (.double u1), .second, .unset] [(.double f1)]))
    refine Wp.step (fun t k => own_dloadN X19.here hx rfl (hb hby d7_16) rfl k) ?_
    show Wp p e below _ (T19.setTop (mkF m 17 #[.val (.ref d0), .val (.double u0), .second, .val (.double u1), .second, .unset] [(.double u0), (.double f1)]))
    refine Wp.step (fun t k => own_dcmp X19.here hx rfl (hb hby d7_17) rfl k) ?_
    show Wp p e below _ (T19.setTop (mkF m 18 #[.val (.ref d0), .val (.double u0), .second, .val (.double u1), .second, .unset] [(.int (cmpValue (FP.dcmp f1 u0) .g))]))
    by_cases hc20 : (0 : Int32) < (cmpValue (FP.dcmp f1 u0) .g)
    · refine Wp.step (fun t k => XS.ifYes X19.here hx rfl (pc0 := 18) (pc' := 34) rfl (hb hby d7_18) rfl ((if0 _ _).trans (tlt hc20).2.2.1) (by decide) (by decide) k) ?_
      show Wp p e below _ (T19.setTop (mkF m 34 #[.val (.ref d0), .val (.double u0), .second, .val (.double u1), .second, .unset] []))
      refine Wp.step (fun t k => XS.iconst X19.here hx rfl (hb hby d7_34) k) ?_
      show Wp p e below _ (T19.setTop (mkF m 35 #[.val (.ref d0), .val (.double u0), .second, .val (.double u1), .second, .unset] [(.int (0 : Int32))]))
      refine Wp.step (fun t k => XS.goto X19.here hx rfl (pc0 := 35) (pc' := 61) rfl (hb hby d7_35) (by decide) (by decide) k) ?_
      show Wp p e below _ (T19.setTop (mkF m 61 #[.val (.ref d0), .val (.double u0), .second, .val (.double u1), .second, .unset] [(.int (0 : Int32))]))
      refine Wp.step (fun t k => XS.istore X19.here hx rfl (hb hby d7_61) rfl (l' := #[.val (.ref d0), .val (.double u0), .second, .val (.double u1), .second, .val (.int (0 : Int32))]) rfl k) ?_
      show Wp p e below _ (T19.setTop (mkF m 63 #[.val (.ref d0), .val (.double u0), .second, .val (.double u1), .second, .val (.int (0 : Int32))] []))
      refine Wp.step (fun t k => XS.iload X19.here hx rfl (hb hby d7_63) rfl k) ?_
      show Wp p e below _ (T19.setTop (mkF m 65 #[.val (.ref d0), .val (.double u0), .second, .val (.double u1), .second, .val (.int (0 : Int32))] [(.int (0 : Int32))]))
      refine Wp.step (fun t k => XS.ifYes X19.here hx rfl (pc0 := 65) (pc' := 90) rfl (hb hby d7_65) rfl ((if0 _ _).trans (teq (show (0 : Int32) = (0 : Int32) by decide)).1) (by decide) (by decide) k) ?_
      show Wp p e below _ (T19.setTop (mkF m 90 #[.val (.ref d0), .val (.double u0), .second, .val (.double u1), .second, .val (.int (0 : Int32))] []))
      refine Wp.step (fun t k => XS.iconst X19.here hx rfl (hb hby d7_90) k) ?_
      show Wp p e below _ (T19.setTop (mkF m 91 #[.val (.ref d0), .val (.double u0), .second, .val (.double u1), .second, .val (.int (0 : Int32))] [(.int (0 : Int32))]))
      refine Wp.retN X19 hx (t := .boolean) Bd.returns (by simp) (hb hby d7_91) hlk ?_ (by decide) (by decide)
      show Q7 Z d0 u0 u1 f1 f2 f3 f4 n1 n2 n3 n4 m1 m2 h0 n0 (some (.int (nar .boolean (0 : Int32)))) T19.heap _
      rw [e19]
      have t9 : ¬ (n3 < n1) := fun q => hc3 ((own_gtV V1 V3).mpr q)
      have t18 : m1 < n1 := (own_gtV V1 W1).mp hc20
      exact ⟨(0 : Int32), rfl, ⟨fun q => absurd q (by unfold own_inP; omega), fun _ => rfl⟩, N0, rfl⟩
    · refine Wp.step (fun t k => XS.ifNo X19.here hx rfl (hb hby d7_18) rfl ((if0 _ _).trans (flt hc20).2.2.1) k) ?_
      show Wp p e below _ (T19.setTop (mkF m 21 #[.val (.ref d0), .val (.double u0), .second, .val (.double u1), .second, .unset] []))
      refine Wp.step (fun t k => own_dloadN X19.here hx rfl (hb hby d7_21) rfl k) ?_
      show Wp p e below _ (T19.setTop (mkF m 22 #[.val (.ref d0), .val (.double u0), .second, .val (.double u1), .second, .unset] [(.double u0)]))
      refine Wp.step (fun t k => XS.aloadN X19.here hx rfl (hb hby d7_22) rfl rfl k) ?_
      show Wp p e below _ (T19.setTop (mkF m 23 #[.val (.ref d0), .val (.double u0), .second, .val (.double u1), .second, .unset] [(.ref d0), (.double u0)]))
      obtain ⟨T22, X22, e22, st22⟩ := getF X19 hx hZ hown (host := "") (Or.inl (hw _ (List.mem_of_getElem? (i := 34) rfl))) Via.refl e19 F_east (g := (mkF m 23 #[.val (.ref d0), .val (.double u0), .second, .val (.double u1), .second, .unset] [(.ref d0), (.double u0)])) rfl rfl (hb hby d7_23)
      refine Wp.step st22 ?_
      show Wp p e below _ (T22.setTop (mkF m 26 #[.val (.ref d0), .val (.double u0), .second, .val (.double u1), .second, .unset] [(.double f3), (.double u0)]))
      refine Wp.step (fun t k => own_dcmp X22.here hx rfl (hb hby d7_26) rfl k) ?_
      show Wp p e below _ (T22.setTop (mkF m 27 #[.val (.ref d0), .val (.double u0), .second, .val (.double u1), .second, .unset] [(.int (cmpValue (FP.dcmp u0 f3) .g))]))
      by_cases hc23 : (0 : Int32) < (cmpValue (FP.dcmp u0 f3) .g)
      · refine Wp.step (fun t k => XS.ifYes X22.here hx rfl (pc0 := 27) (pc' := 34) rfl (hb hby d7_27) rfl ((if0 _ _).trans (tlt hc23).2.2.1) (by decide) (by decide) k) ?_
        show Wp p e below _ (T22.setTop (mkF m 34 #[.val (.ref d0), .val (.double u0), .second, .val (.double u1), .second, .unset] []))
        refine Wp.step (fun t k => XS.iconst X22.here hx rfl (hb hby d7_34) k) ?_
        show Wp p e below _ (T22.setTop (mkF m 35 #[.val (.ref d0), .val (.double u0), .second, .val (.double u1), .second, .unset] [(.int (0 : Int32))]))
        refine Wp.step (fun t k => XS.goto X22.here hx rfl (pc0 := 35) (pc' := 61) rfl (hb hby d7_35) (by decide) (by decide) k) ?_
        show Wp p e below _ (T22.setTop (mkF m 61 #[.val (.ref d0), .val (.double u0), .second, .val (.double u1), .second, .unset] [(.int (0 : Int32))]))
        refine Wp.step (fun t k => XS.istore X22.here hx rfl (hb hby d7_61) rfl (l' := #[.val (.ref d0), .val (.double u0), .second, .val (.double u1), .second, .val (.int (0 : Int32))]) rfl k) ?_
        show Wp p e below _ (T22.setTop (mkF m 63 #[.val (.ref d0), .val (.double u0), .second, .val (.double u1), .second, .val (.int (0 : Int32))] []))
        refine Wp.step (fun t k => XS.iload X22.here hx rfl (hb hby d7_63) rfl k) ?_
        show Wp p e below _ (T22.setTop (mkF m 65 #[.val (.ref d0), .val (.double u0), .second, .val (.double u1), .second, .val (.int (0 : Int32))] [(.int (0 : Int32))]))
        refine Wp.step (fun t k => XS.ifYes X22.here hx rfl (pc0 := 65) (pc' := 90) rfl (hb hby d7_65) rfl ((if0 _ _).trans (teq (show (0 : Int32) = (0 : Int32) by decide)).1) (by decide) (by decide) k) ?_
        show Wp p e below _ (T22.setTop (mkF m 90 #[.val (.ref d0), .val (.double u0), .second, .val (.double u1), .second, .val (.int (0 : Int32))] []))
        refine Wp.step (fun t k => XS.iconst X22.here hx rfl (hb hby d7_90) k) ?_
        show Wp p e below _ (T22.setTop (mkF m 91 #[.val (.ref d0), .val (.double u0), .second, .val (.double u1), .second, .val (.int (0 : Int32))] [(.int (0 : Int32))]))
        refine Wp.retN X22 hx (t := .boolean) Bd.returns (by simp) (hb hby d7_91) hlk ?_ (by decide) (by decide)
        show Q7 Z d0 u0 u1 f1 f2 f3 f4 n1 n2 n3 n4 m1 m2 h0 n0 (some (.int (nar .boolean (0 : Int32)))) T22.heap _
        rw [e22]
        have t9 : ¬ (n3 < n1) := fun q => hc3 ((own_gtV V1 V3).mpr q)
        have t18 : ¬ (m1 < n1) := fun q => hc20 ((own_gtV V1 W1).mpr q)
        have t27 : n3 < m1 := (own_gtV W1 V3).mp hc23
        exact ⟨(0 : Int32), rfl, ⟨fun q => absurd q (by unfold own_inP; omega), fun _ => rfl⟩, N0, rfl⟩
      · refine Wp.step (fun t k => XS.ifNo X22.here hx rfl (hb hby d7_27) rfl ((if0 _ _).trans (flt hc23).2.2.1) k) ?_
        show Wp p e below _ (T22.setTop (mkF m 30 #[.val (.ref d0), .val (.double u0), .second, .val (.double u1), .second, .unset] []))
        refine Wp.step (fun t k => XS.iconst X22.here hx rfl (hb hby d7_30) k) ?_
        show Wp p e below _ (T22.setTop (mkF m 31 #[.val (.ref d0), .val (.double u0), .second, .val (.double u1), .second, .unset] [(.int (1 : Int32))]))
        refine Wp.step (fun t k => XS.goto X22.here hx rfl (pc0 := 31) (pc' := 61) rfl (hb hby d7_31) (by decide) (by decide) k) ?_
        show Wp p e below _ (T22.setTop (mkF m 61 #[.val (.ref d0), .val (.double u0), .second, .val (.double u1), .second, .unset] [(.int (1 : Int32))]))
        refine Wp.step (fun t k => XS.istore X22.here hx rfl (hb hby d7_61) rfl (l' := #[.val (.ref d0), .val (.double u0), .second, .val (.double u1), .second, .val (.int (1 : Int32))]) rfl k) ?_
        show Wp p e below _ (T22.setTop (mkF m 63 #[.val (.ref d0), .val (.double u0), .second, .val (.double u1), .second, .val (.int (1 : Int32))] []))
        refine Wp.step (fun t k => XS.iload X22.here hx rfl (hb hby d7_63) rfl k) ?_
        show Wp p e below _ (T22.setTop (mkF m 65 #[.val (.ref d0), .val (.double u0), .second, .val (.double u1), .second, .val (.int (1 : Int32))] [(.int (1 : Int32))]))
        refine Wp.step (fun t k => XS.ifNo X22.here hx rfl (hb hby d7_65) rfl ((if0 _ _).trans (feq (show ¬ ((1 : Int32) = (0 : Int32)) by decide)).1) k) ?_
        show Wp p e below _ (T22.setTop (mkF m 68 #[.val (.ref d0), .val (.double u0), .second, .val (.double u1), .second, .val (.int (1 : Int32))] []))
        refine Wp.step (fun t k => XS.aloadN X22.here hx rfl (hb hby d7_68) rfl rfl k) ?_
        show Wp p e below _ (T22.setTop (mkF m 69 #[.val (.ref d0), .val (.double u0), .second, .val (.double u1), .second, .val (.int (1 : Int32))] [(.ref d0)]))
        obtain ⟨T26, X26, e26, st26⟩ := getF X22 hx hZ hown (host := "") (Or.inl (hw _ (List.mem_of_getElem? (i := 32) rfl))) Via.refl e22 F_south (g := (mkF m 69 #[.val (.ref d0), .val (.double u0), .second, .val (.double u1), .second, .val (.int (1 : Int32))] [(.ref d0)])) rfl rfl (hb hby d7_69)
        refine Wp.step st26 ?_
        show Wp p e below _ (T26.setTop (mkF m 72 #[.val (.ref d0), .val (.double u0), .second, .val (.double u1), .second, .val (.int (1 : Int32))] [(.double f2)]))
        refine Wp.step (fun t k => own_dloadN X26.here hx rfl (hb hby d7_72) rfl k) ?_
        show Wp p e below _ (T26.setTop (mkF m 73 #[.val (.ref d0), .val (.double u0), .second, .val (.double u1), .second, .val (.int (1 : Int32))] [(.double u1), (.double f2)]))
        refine Wp.step (fun t k => own_dcmp X26.here hx rfl (hb hby d7_73) rfl k) ?_
        show Wp p e below _ (T26.setTop (mkF m 74 #[.val (.ref d0), .val (.double u0), .second, .val (.double u1), .second, .val (.int (1 : Int32))] [(.int (cmpValue (FP.dcmp f2 u1) .g))]))
        by_cases hc27 : (0 : Int32) < (cmpValue (FP.dcmp f2 u1) .g)
        · refine Wp.step (fun t k => XS.ifYes X26.here hx rfl (pc0 := 74) (pc' := 90) rfl (hb hby d7_74) rfl ((if0 _ _).trans (tlt hc27).2.2.1) (by decide) (by decide) k) ?_
          show Wp p e below _ (T26.setTop (mkF m 90 #[.val (.ref d0), .val (.double u0), .second, .val (.double u1), .second, .val (.int (1 : Int32))] []))
          refine Wp.step (fun t k => XS.iconst X26.here hx rfl (hb hby d7_90) k) ?_
          show Wp p e below _ (T26.setTop (mkF m 91 #[.val (.ref d0), .val (.double u0), .second, .val (.double u1), .second, .val (.int (1 : Int32))] [(.int (0 : Int32))]))
          refine Wp.retN X26 hx (t := .boolean) Bd.returns (by simp) (hb hby d7_91) hlk ?_ (by decide) (by decide)
          show Q7 Z d0 u0 u1 f1 f2 f3 f4 n1 n2 n3 n4 m1 m2 h0 n0 (some (.int (nar .boolean (0 : Int32)))) T26.heap _
          rw [e26]
          have t9 : ¬ (n3 < n1) := fun q => hc3 ((own_gtV V1 V3).mpr q)
          have t18 : ¬ (m1 < n1) := fun q => hc20 ((own_gtV V1 W1).mpr q)
          have t27 : ¬ (n3 < m1) := fun q => hc23 ((own_gtV W1 V3).mpr q)
          have t74 : m2 < n2 := (own_gtV V2 W2).mp hc27
          exact ⟨(0 : Int32), rfl, ⟨fun q => absurd q (by unfold own_inP; omega), fun _ => rfl⟩, N0, rfl⟩
        · refine Wp.step (fun t k => XS.ifNo X26.here hx rfl (hb hby d7_74) rfl ((if0 _ _).trans (flt hc27).2.2.1) k) ?_
          show Wp p e below _ (T26.setTop (mkF m 77 #[.val (.ref d0), .val (.double u0), .second, .val (.double u1), .second, .val (.int (1 : Int32))] []))
          refine Wp.step (fun t k => own_dloadN X26.here hx rfl (hb hby d7_77) rfl k) ?_
          show Wp p e below _ (T26.setTop (mkF m 78 #[.val (.ref d0), .val (.double u0), .second, .val (.double u1), .second, .val (.int (1 : Int32))] [(.double u1)]))
          refine Wp.step (fun t k => XS.aloadN X26.here hx rfl (hb hby d7_78) rfl rfl k) ?_
          show Wp p e below _ (T26.setTop (mkF m 79 #[.val (.ref d0), .val (.double u0), .second, .val (.double u1), .second, .val (.int (1 : Int32))] [(.ref d0), (.double u1)]))
          obtain ⟨T28, X28, e28, st28⟩ := getF X26 hx hZ hown (host := "") (Or.inl (hw _ (List.mem_of_getElem? (i := 36) rfl))) Via.refl e26 F_north (g := (mkF m 79 #[.val (.ref d0), .val (.double u0), .second, .val (.double u1), .second, .val (.int (1 : Int32))] [(.ref d0), (.double u1)])) rfl rfl (hb hby d7_79)
          refine Wp.step st28 ?_
          show Wp p e below _ (T28.setTop (mkF m 82 #[.val (.ref d0), .val (.double u0), .second, .val (.double u1), .second, .val (.int (1 : Int32))] [(.double f4), (.double u1)]))
          refine Wp.step (fun t k => own_dcmp X28.here hx rfl (hb hby d7_82) rfl k) ?_
          show Wp p e below _ (T28.setTop (mkF m 83 #[.val (.ref d0), .val (.double u0), .second, .val (.double u1), .second, .val (.int (1 : Int32))] [(.int (cmpValue (FP.dcmp u1 f4) .g))]))
          by_cases hc29 : (0 : Int32) < (cmpValue (FP.dcmp u1 f4) .g)
          · refine Wp.step (fun t k => XS.ifYes X28.here hx rfl (pc0 := 83) (pc' := 90) rfl (hb hby d7_83) rfl ((if0 _ _).trans (tlt hc29).2.2.1) (by decide) (by decide) k) ?_
            show Wp p e below _ (T28.setTop (mkF m 90 #[.val (.ref d0), .val (.double u0), .second, .val (.double u1), .second, .val (.int (1 : Int32))] []))
            refine Wp.step (fun t k => XS.iconst X28.here hx rfl (hb hby d7_90) k) ?_
            show Wp p e below _ (T28.setTop (mkF m 91 #[.val (.ref d0), .val (.double u0), .second, .val (.double u1), .second, .val (.int (1 : Int32))] [(.int (0 : Int32))]))
            refine Wp.retN X28 hx (t := .boolean) Bd.returns (by simp) (hb hby d7_91) hlk ?_ (by decide) (by decide)
            show Q7 Z d0 u0 u1 f1 f2 f3 f4 n1 n2 n3 n4 m1 m2 h0 n0 (some (.int (nar .boolean (0 : Int32)))) T28.heap _
            rw [e28]
            have t9 : ¬ (n3 < n1) := fun q => hc3 ((own_gtV V1 V3).mpr q)
            have t18 : ¬ (m1 < n1) := fun q => hc20 ((own_gtV V1 W1).mpr q)
            have t27 : ¬ (n3 < m1) := fun q => hc23 ((own_gtV W1 V3).mpr q)
            have t74 : ¬ (m2 < n2) := fun q => hc27 ((own_gtV V2 W2).mpr q)
            have t83 : n4 < m2 := (own_gtV W2 V4).mp hc29
            exact ⟨(0 : Int32), rfl, ⟨fun q => absurd q (by unfold own_inP; omega), fun _ => rfl⟩, N0, rfl⟩
          · refine Wp.step (fun t k => XS.ifNo X28.here hx rfl (hb hby d7_83) rfl ((if0 _ _).trans (flt hc29).2.2.1) k) ?_
            show Wp p e below _ (T28.setTop (mkF m 86 #[.val (.ref d0), .val (.double u0), .second, .val (.double u1), .second, .val (.int (1 : Int32))] []))
            refine Wp.step (fun t k => XS.iconst X28.here hx rfl (hb hby d7_86) k) ?_
            show Wp p e below _ (T28.setTop (mkF m 87 #[.val (.ref d0), .val (.double u0), .second, .val (.double u1), .second, .val (.int (1 : Int32))] [(.int (1 : Int32))]))
            refine Wp.step (fun t k => XS.goto X28.here hx rfl (pc0 := 87) (pc' := 91) rfl (hb hby d7_87) (by decide) (by decide) k) ?_
            show Wp p e below _ (T28.setTop (mkF m 91 #[.val (.ref d0), .val (.double u0), .second, .val (.double u1), .second, .val (.int (1 : Int32))] [(.int (1 : Int32))]))
            refine Wp.retN X28 hx (t := .boolean) Bd.returns (by simp) (hb hby d7_91) hlk ?_ (by decide) (by decide)
            show Q7 Z d0 u0 u1 f1 f2 f3 f4 n1 n2 n3 n4 m1 m2 h0 n0 (some (.int (nar .boolean (1 : Int32)))) T28.heap _
            rw [e28]
            have t9 : ¬ (n3 < n1) := fun q => hc3 ((own_gtV V1 V3).mpr q)
            have t18 : ¬ (m1 < n1) := fun q => hc20 ((own_gtV V1 W1).mpr q)
            have t27 : ¬ (n3 < m1) := fun q => hc23 ((own_gtV W1 V3).mpr q)
            have t74 : ¬ (m2 < n2) := fun q => hc27 ((own_gtV V2 W2).mpr q)
            have t83 : ¬ (n4 < m2) := fun q => hc29 ((own_gtV W2 V4).mpr q)
            exact ⟨(1 : Int32), rfl, ⟨fun _ => rfl, fun q => absurd (show own_inP n1 n2 n3 n4 m1 m2 by unfold own_inP; omega) q⟩, N0, rfl⟩
theorem pd_28II29I : parseMethodDescriptor "(II)I" = some ⟨[.int, .int], some .int⟩ := by decide +kernel
theorem pd_28DDDD29V : parseMethodDescriptor "(DDDD)V" = some ⟨[.double, .double, .double, .double], none⟩ := by decide +kernel
theorem pd_28DD29Z : parseMethodDescriptor "(DD)Z" = some ⟨[.double, .double], some .boolean⟩ := by decide +kernel
theorem pn_com_example_luoshu_luoshu_query_BoxContainsPinLaw : plainName "com/example/luoshu/luoshu/query/BoxContainsPinLaw" = true := by first | (simp [plainName, overriddenIn]; done) | decide +kernel
theorem ef_0_000000 (m : MethodId) (x0 : Int32) (x1 : Int32) (x2 : Int32) (x3 : Int32) (x4 : Int32) (x5 : Int32) : entryFrame m #[(.int x0), (.int x1), (.int x2), (.int x3), (.int x4), (.int x5)] maxLocals = mkF m 0 #[.val (.int x0), .val (.int x1), .val (.int x2), .val (.int x3), .val (.int x4), .val (.int x5), .unset, .unset, .unset, .unset, .unset, .unset, .unset, .unset, .unset, .unset, .unset, .unset, .unset, .unset] [] := by first | (simp [entryFrame, mkF, argsToLocals, Value.category, maxLocals]; done) | rfl
def Q0 (Z : State) (p0 : Int32) (p1 : Int32) (p2 : Int32) (p3 : Int32) (p4 : Int32) (p5 : Int32) (h0 : Heap) (n0 : Nat) (v : Option Value) (h : Heap) (L : List Loc) : Prop := v = some (.int 1) ∧ Fr n0 L
set_option maxRecDepth 65536 in
set_option maxHeartbeats 40000000 in
theorem rm0 (l : Launch) (Z : State) (a0 : Array Value) (hw : ∀ d ∈ tables_1, d.before a0 Z = true) (ws : List Jvm.Cond) (p0 : Int32) (p1 : Int32) (p2 : Int32) (p3 : Int32) (p4 : Int32) (p5 : Int32) (h0 : Heap) (n0 : Nat) (Z0 : n0 ≤ h0.size) :
    MetFree l x (head1 (Jvm.Cond.code x code maxLocals ret :: ws) room_1) (fun a U => a = #[(.int p0), (.int p1), (.int p2), (.int p3), (.int p4), (.int p5)] ∧ Z.Warmed39 U.vm ∧ U.heap = h0) (fun _ _ _ _ _ => True) (fun _ U o U' => ∃ v L, o = .returned v ∧ Q0 Z p0 p1 p2 p3 p4 p5 h0 n0 v U'.heap L ∧ FrameEnd U o U' L room_1.cells room_1.slots) := by
  refine MetFree.of_bodySF (plainFor_of_name pn_com_example_luoshu_luoshu_query_BoxContainsPinLaw) hisR ?_
  intro p e s m args below meth c s₁ Bd hml0 hP hK
  obtain ⟨rfl, hZ, hh⟩ := hP
  have hx := Bd.exec
  have hby := Bd.bytes
  have hlk : meth.locks = false := Bd.notSynchronized
  have hml : c.maxLocals = 20 := hml0
  have hown : s.vm.findClass "com/example/luoshu/luoshu/query/BoxContainsPinLaw" = some m.cls := findClass_of_methodNamed Bd.named
  have hnm := (name_of_methodNamed Bd.named Bd.method).1
  have X0 : Stand p l e room_1 s m #[(.int p0), (.int p1), (.int p2), (.int p3), (.int p4), (.int p5)] below meth c s₁ [] 0 0 := Stand.of_body Bd
  have e0 : s₁.heap = h0 := by rw [← hh, Bd.state]; rfl
  have N0 := Fr.nil n0
  have K0 : Keep h0 h0 [] := Keep.refl h0 _
  show Wp p e below (Out s (Q0 Z p0 p1 p2 p3 p4 p5 h0 n0) room_1.cells room_1.slots) (s₁.setTop (entryFrame m #[(.int p0), (.int p1), (.int p2), (.int p3), (.int p4), (.int p5)] maxLocals))
  rw [ef_0_000000]
  show Wp p e below _ (s₁.setTop (mkF m 0 #[.val (.int p0), .val (.int p1), .val (.int p2), .val (.int p3), .val (.int p4), .val (.int p5), .unset, .unset, .unset, .unset, .unset, .unset, .unset, .unset, .unset, .unset, .unset, .unset, .unset, .unset] []))
  refine Wp.step (fun t k => XS.iloadN X0.here hx rfl (hb hby at_0) rfl k) ?_
  show Wp p e below _ (s₁.setTop (mkF m 1 #[.val (.int p0), .val (.int p1), .val (.int p2), .val (.int p3), .val (.int p4), .val (.int p5), .unset, .unset, .unset, .unset, .unset, .unset, .unset, .unset, .unset, .unset, .unset, .unset, .unset, .unset] [(.int p0)]))
  refine Wp.step (X0.ldcInt hx hown (mvT hZ (hw _ (List.mem_of_getElem? (i := 0) rfl))) (g := (mkF m 1 #[.val (.int p0), .val (.int p1), .val (.int p2), .val (.int p3), .val (.int p4), .val (.int p5), .unset, .unset, .unset, .unset, .unset, .unset, .unset, .unset, .unset, .unset, .unset, .unset, .unset, .unset] [(.int p0)])) rfl (hb hby at_1)) ?_
  show Wp p e below _ (s₁.setTop (mkF m 3 #[.val (.int p0), .val (.int p1), .val (.int p2), .val (.int p3), .val (.int p4), .val (.int p5), .unset, .unset, .unset, .unset, .unset, .unset, .unset, .unset, .unset, .unset, .unset, .unset, .unset, .unset] [(.int (2147483647 : Int32)), (.int p0)]))
  refine Wp.step (fun t k => XS.iand X0.here hx rfl (hb hby at_3) rfl k) ?_
  show Wp p e below _ (s₁.setTop (mkF m 4 #[.val (.int p0), .val (.int p1), .val (.int p2), .val (.int p3), .val (.int p4), .val (.int p5), .unset, .unset, .unset, .unset, .unset, .unset, .unset, .unset, .unset, .unset, .unset, .unset, .unset, .unset] [(.int (p0 &&& (2147483647 : Int32)))]))
  refine Wp.step (fun t k => XS.sipush X0.here hx rfl (hb hby at_4) k) ?_
  show Wp p e below _ (s₁.setTop (mkF m 7 #[.val (.int p0), .val (.int p1), .val (.int p2), .val (.int p3), .val (.int p4), .val (.int p5), .unset, .unset, .unset, .unset, .unset, .unset, .unset, .unset, .unset, .unset, .unset, .unset, .unset, .unset] [(.int (361 : Int32)), (.int (p0 &&& (2147483647 : Int32)))]))
  refine Wp.step (fun t k => Jvm.RoadKit.iremM X0 hx rfl (hb hby at_7) rfl (by decide) k) ?_
  show Wp p e below _ (s₁.setTop (mkF m 8 #[.val (.int p0), .val (.int p1), .val (.int p2), .val (.int p3), .val (.int p4), .val (.int p5), .unset, .unset, .unset, .unset, .unset, .unset, .unset, .unset, .unset, .unset, .unset, .unset, .unset, .unset] [(.int ((p0 &&& (2147483647 : Int32)) % (361 : Int32)))]))
  refine Wp.step (fun t k => XS.sipush X0.here hx rfl (hb hby at_8) k) ?_
  show Wp p e below _ (s₁.setTop (mkF m 11 #[.val (.int p0), .val (.int p1), .val (.int p2), .val (.int p3), .val (.int p4), .val (.int p5), .unset, .unset, .unset, .unset, .unset, .unset, .unset, .unset, .unset, .unset, .unset, .unset, .unset, .unset] [(.int (180 : Int32)), (.int ((p0 &&& (2147483647 : Int32)) % (361 : Int32)))]))
  refine Wp.step (fun t k => XS.isub X0.here hx rfl (hb hby at_11) rfl k) ?_
  show Wp p e below _ (s₁.setTop (mkF m 12 #[.val (.int p0), .val (.int p1), .val (.int p2), .val (.int p3), .val (.int p4), .val (.int p5), .unset, .unset, .unset, .unset, .unset, .unset, .unset, .unset, .unset, .unset, .unset, .unset, .unset, .unset] [(.int (((p0 &&& (2147483647 : Int32)) % (361 : Int32)) - (180 : Int32)))]))
  generalize hz_zw : (((p0 &&& (2147483647 : Int32)) % (361 : Int32)) - (180 : Int32)) = zw
  refine Wp.step (fun t k => XS.istore X0.here hx rfl (hb hby at_12) rfl (l' := #[.val (.int p0), .val (.int p1), .val (.int p2), .val (.int p3), .val (.int p4), .val (.int p5), .val (.int zw), .unset, .unset, .unset, .unset, .unset, .unset, .unset, .unset, .unset, .unset, .unset, .unset, .unset]) rfl k) ?_
  show Wp p e below _ (s₁.setTop (mkF m 14 #[.val (.int p0), .val (.int p1), .val (.int p2), .val (.int p3), .val (.int p4), .val (.int p5), .val (.int zw), .unset, .unset, .unset, .unset, .unset, .unset, .unset, .unset, .unset, .unset, .unset, .unset, .unset] []))
  refine Wp.step (fun t k => XS.iloadN X0.here hx rfl (hb hby at_14) rfl k) ?_
  show Wp p e below _ (s₁.setTop (mkF m 15 #[.val (.int p0), .val (.int p1), .val (.int p2), .val (.int p3), .val (.int p4), .val (.int p5), .val (.int zw), .unset, .unset, .unset, .unset, .unset, .unset, .unset, .unset, .unset, .unset, .unset, .unset, .unset] [(.int p1)]))
  refine Wp.step (X0.ldcInt hx hown (mvT hZ (hw _ (List.mem_of_getElem? (i := 0) rfl))) (g := (mkF m 15 #[.val (.int p0), .val (.int p1), .val (.int p2), .val (.int p3), .val (.int p4), .val (.int p5), .val (.int zw), .unset, .unset, .unset, .unset, .unset, .unset, .unset, .unset, .unset, .unset, .unset, .unset, .unset] [(.int p1)])) rfl (hb hby at_15)) ?_
  show Wp p e below _ (s₁.setTop (mkF m 17 #[.val (.int p0), .val (.int p1), .val (.int p2), .val (.int p3), .val (.int p4), .val (.int p5), .val (.int zw), .unset, .unset, .unset, .unset, .unset, .unset, .unset, .unset, .unset, .unset, .unset, .unset, .unset] [(.int (2147483647 : Int32)), (.int p1)]))
  refine Wp.step (fun t k => XS.iand X0.here hx rfl (hb hby at_17) rfl k) ?_
  show Wp p e below _ (s₁.setTop (mkF m 18 #[.val (.int p0), .val (.int p1), .val (.int p2), .val (.int p3), .val (.int p4), .val (.int p5), .val (.int zw), .unset, .unset, .unset, .unset, .unset, .unset, .unset, .unset, .unset, .unset, .unset, .unset, .unset] [(.int (p1 &&& (2147483647 : Int32)))]))
  refine Wp.step (fun t k => XS.sipush X0.here hx rfl (hb hby at_18) k) ?_
  show Wp p e below _ (s₁.setTop (mkF m 21 #[.val (.int p0), .val (.int p1), .val (.int p2), .val (.int p3), .val (.int p4), .val (.int p5), .val (.int zw), .unset, .unset, .unset, .unset, .unset, .unset, .unset, .unset, .unset, .unset, .unset, .unset, .unset] [(.int (361 : Int32)), (.int (p1 &&& (2147483647 : Int32)))]))
  refine Wp.step (fun t k => Jvm.RoadKit.iremM X0 hx rfl (hb hby at_21) rfl (by decide) k) ?_
  show Wp p e below _ (s₁.setTop (mkF m 22 #[.val (.int p0), .val (.int p1), .val (.int p2), .val (.int p3), .val (.int p4), .val (.int p5), .val (.int zw), .unset, .unset, .unset, .unset, .unset, .unset, .unset, .unset, .unset, .unset, .unset, .unset, .unset] [(.int ((p1 &&& (2147483647 : Int32)) % (361 : Int32)))]))
  refine Wp.step (fun t k => XS.sipush X0.here hx rfl (hb hby at_22) k) ?_
  show Wp p e below _ (s₁.setTop (mkF m 25 #[.val (.int p0), .val (.int p1), .val (.int p2), .val (.int p3), .val (.int p4), .val (.int p5), .val (.int zw), .unset, .unset, .unset, .unset, .unset, .unset, .unset, .unset, .unset, .unset, .unset, .unset, .unset] [(.int (180 : Int32)), (.int ((p1 &&& (2147483647 : Int32)) % (361 : Int32)))]))
  refine Wp.step (fun t k => XS.isub X0.here hx rfl (hb hby at_25) rfl k) ?_
  show Wp p e below _ (s₁.setTop (mkF m 26 #[.val (.int p0), .val (.int p1), .val (.int p2), .val (.int p3), .val (.int p4), .val (.int p5), .val (.int zw), .unset, .unset, .unset, .unset, .unset, .unset, .unset, .unset, .unset, .unset, .unset, .unset, .unset] [(.int (((p1 &&& (2147483647 : Int32)) % (361 : Int32)) - (180 : Int32)))]))
  generalize hz_ze : (((p1 &&& (2147483647 : Int32)) % (361 : Int32)) - (180 : Int32)) = ze
  refine Wp.step (fun t k => XS.istore X0.here hx rfl (hb hby at_26) rfl (l' := #[.val (.int p0), .val (.int p1), .val (.int p2), .val (.int p3), .val (.int p4), .val (.int p5), .val (.int zw), .val (.int ze), .unset, .unset, .unset, .unset, .unset, .unset, .unset, .unset, .unset, .unset, .unset, .unset]) rfl k) ?_
  show Wp p e below _ (s₁.setTop (mkF m 28 #[.val (.int p0), .val (.int p1), .val (.int p2), .val (.int p3), .val (.int p4), .val (.int p5), .val (.int zw), .val (.int ze), .unset, .unset, .unset, .unset, .unset, .unset, .unset, .unset, .unset, .unset, .unset, .unset] []))
  refine Wp.step (fun t k => XS.iloadN X0.here hx rfl (hb hby at_28) rfl k) ?_
  show Wp p e below _ (s₁.setTop (mkF m 29 #[.val (.int p0), .val (.int p1), .val (.int p2), .val (.int p3), .val (.int p4), .val (.int p5), .val (.int zw), .val (.int ze), .unset, .unset, .unset, .unset, .unset, .unset, .unset, .unset, .unset, .unset, .unset, .unset] [(.int p2)]))
  refine Wp.step (X0.ldcInt hx hown (mvT hZ (hw _ (List.mem_of_getElem? (i := 0) rfl))) (g := (mkF m 29 #[.val (.int p0), .val (.int p1), .val (.int p2), .val (.int p3), .val (.int p4), .val (.int p5), .val (.int zw), .val (.int ze), .unset, .unset, .unset, .unset, .unset, .unset, .unset, .unset, .unset, .unset, .unset, .unset] [(.int p2)])) rfl (hb hby at_29)) ?_
  show Wp p e below _ (s₁.setTop (mkF m 31 #[.val (.int p0), .val (.int p1), .val (.int p2), .val (.int p3), .val (.int p4), .val (.int p5), .val (.int zw), .val (.int ze), .unset, .unset, .unset, .unset, .unset, .unset, .unset, .unset, .unset, .unset, .unset, .unset] [(.int (2147483647 : Int32)), (.int p2)]))
  refine Wp.step (fun t k => XS.iand X0.here hx rfl (hb hby at_31) rfl k) ?_
  show Wp p e below _ (s₁.setTop (mkF m 32 #[.val (.int p0), .val (.int p1), .val (.int p2), .val (.int p3), .val (.int p4), .val (.int p5), .val (.int zw), .val (.int ze), .unset, .unset, .unset, .unset, .unset, .unset, .unset, .unset, .unset, .unset, .unset, .unset] [(.int (p2 &&& (2147483647 : Int32)))]))
  refine Wp.step (fun t k => XS.sipush X0.here hx rfl (hb hby at_32) k) ?_
  show Wp p e below _ (s₁.setTop (mkF m 35 #[.val (.int p0), .val (.int p1), .val (.int p2), .val (.int p3), .val (.int p4), .val (.int p5), .val (.int zw), .val (.int ze), .unset, .unset, .unset, .unset, .unset, .unset, .unset, .unset, .unset, .unset, .unset, .unset] [(.int (181 : Int32)), (.int (p2 &&& (2147483647 : Int32)))]))
  refine Wp.step (fun t k => Jvm.RoadKit.iremM X0 hx rfl (hb hby at_35) rfl (by decide) k) ?_
  show Wp p e below _ (s₁.setTop (mkF m 36 #[.val (.int p0), .val (.int p1), .val (.int p2), .val (.int p3), .val (.int p4), .val (.int p5), .val (.int zw), .val (.int ze), .unset, .unset, .unset, .unset, .unset, .unset, .unset, .unset, .unset, .unset, .unset, .unset] [(.int ((p2 &&& (2147483647 : Int32)) % (181 : Int32)))]))
  refine Wp.step (fun t k => XS.bipush X0.here hx rfl (hb hby at_36) k) ?_
  show Wp p e below _ (s₁.setTop (mkF m 38 #[.val (.int p0), .val (.int p1), .val (.int p2), .val (.int p3), .val (.int p4), .val (.int p5), .val (.int zw), .val (.int ze), .unset, .unset, .unset, .unset, .unset, .unset, .unset, .unset, .unset, .unset, .unset, .unset] [(.int (90 : Int32)), (.int ((p2 &&& (2147483647 : Int32)) % (181 : Int32)))]))
  refine Wp.step (fun t k => XS.isub X0.here hx rfl (hb hby at_38) rfl k) ?_
  show Wp p e below _ (s₁.setTop (mkF m 39 #[.val (.int p0), .val (.int p1), .val (.int p2), .val (.int p3), .val (.int p4), .val (.int p5), .val (.int zw), .val (.int ze), .unset, .unset, .unset, .unset, .unset, .unset, .unset, .unset, .unset, .unset, .unset, .unset] [(.int (((p2 &&& (2147483647 : Int32)) % (181 : Int32)) - (90 : Int32)))]))
  generalize hz_zs0 : (((p2 &&& (2147483647 : Int32)) % (181 : Int32)) - (90 : Int32)) = zs0
  refine Wp.step (fun t k => XS.istore X0.here hx rfl (hb hby at_39) rfl (l' := #[.val (.int p0), .val (.int p1), .val (.int p2), .val (.int p3), .val (.int p4), .val (.int p5), .val (.int zw), .val (.int ze), .val (.int zs0), .unset, .unset, .unset, .unset, .unset, .unset, .unset, .unset, .unset, .unset, .unset]) rfl k) ?_
  show Wp p e below _ (s₁.setTop (mkF m 41 #[.val (.int p0), .val (.int p1), .val (.int p2), .val (.int p3), .val (.int p4), .val (.int p5), .val (.int zw), .val (.int ze), .val (.int zs0), .unset, .unset, .unset, .unset, .unset, .unset, .unset, .unset, .unset, .unset, .unset] []))
  refine Wp.step (fun t k => XS.iloadN X0.here hx rfl (hb hby at_41) rfl k) ?_
  show Wp p e below _ (s₁.setTop (mkF m 42 #[.val (.int p0), .val (.int p1), .val (.int p2), .val (.int p3), .val (.int p4), .val (.int p5), .val (.int zw), .val (.int ze), .val (.int zs0), .unset, .unset, .unset, .unset, .unset, .unset, .unset, .unset, .unset, .unset, .unset] [(.int p3)]))
  refine Wp.step (X0.ldcInt hx hown (mvT hZ (hw _ (List.mem_of_getElem? (i := 0) rfl))) (g := (mkF m 42 #[.val (.int p0), .val (.int p1), .val (.int p2), .val (.int p3), .val (.int p4), .val (.int p5), .val (.int zw), .val (.int ze), .val (.int zs0), .unset, .unset, .unset, .unset, .unset, .unset, .unset, .unset, .unset, .unset, .unset] [(.int p3)])) rfl (hb hby at_42)) ?_
  show Wp p e below _ (s₁.setTop (mkF m 44 #[.val (.int p0), .val (.int p1), .val (.int p2), .val (.int p3), .val (.int p4), .val (.int p5), .val (.int zw), .val (.int ze), .val (.int zs0), .unset, .unset, .unset, .unset, .unset, .unset, .unset, .unset, .unset, .unset, .unset] [(.int (2147483647 : Int32)), (.int p3)]))
  refine Wp.step (fun t k => XS.iand X0.here hx rfl (hb hby at_44) rfl k) ?_
  show Wp p e below _ (s₁.setTop (mkF m 45 #[.val (.int p0), .val (.int p1), .val (.int p2), .val (.int p3), .val (.int p4), .val (.int p5), .val (.int zw), .val (.int ze), .val (.int zs0), .unset, .unset, .unset, .unset, .unset, .unset, .unset, .unset, .unset, .unset, .unset] [(.int (p3 &&& (2147483647 : Int32)))]))
  refine Wp.step (fun t k => XS.sipush X0.here hx rfl (hb hby at_45) k) ?_
  show Wp p e below _ (s₁.setTop (mkF m 48 #[.val (.int p0), .val (.int p1), .val (.int p2), .val (.int p3), .val (.int p4), .val (.int p5), .val (.int zw), .val (.int ze), .val (.int zs0), .unset, .unset, .unset, .unset, .unset, .unset, .unset, .unset, .unset, .unset, .unset] [(.int (181 : Int32)), (.int (p3 &&& (2147483647 : Int32)))]))
  refine Wp.step (fun t k => Jvm.RoadKit.iremM X0 hx rfl (hb hby at_48) rfl (by decide) k) ?_
  show Wp p e below _ (s₁.setTop (mkF m 49 #[.val (.int p0), .val (.int p1), .val (.int p2), .val (.int p3), .val (.int p4), .val (.int p5), .val (.int zw), .val (.int ze), .val (.int zs0), .unset, .unset, .unset, .unset, .unset, .unset, .unset, .unset, .unset, .unset, .unset] [(.int ((p3 &&& (2147483647 : Int32)) % (181 : Int32)))]))
  refine Wp.step (fun t k => XS.bipush X0.here hx rfl (hb hby at_49) k) ?_
  show Wp p e below _ (s₁.setTop (mkF m 51 #[.val (.int p0), .val (.int p1), .val (.int p2), .val (.int p3), .val (.int p4), .val (.int p5), .val (.int zw), .val (.int ze), .val (.int zs0), .unset, .unset, .unset, .unset, .unset, .unset, .unset, .unset, .unset, .unset, .unset] [(.int (90 : Int32)), (.int ((p3 &&& (2147483647 : Int32)) % (181 : Int32)))]))
  refine Wp.step (fun t k => XS.isub X0.here hx rfl (hb hby at_51) rfl k) ?_
  show Wp p e below _ (s₁.setTop (mkF m 52 #[.val (.int p0), .val (.int p1), .val (.int p2), .val (.int p3), .val (.int p4), .val (.int p5), .val (.int zw), .val (.int ze), .val (.int zs0), .unset, .unset, .unset, .unset, .unset, .unset, .unset, .unset, .unset, .unset, .unset] [(.int (((p3 &&& (2147483647 : Int32)) % (181 : Int32)) - (90 : Int32)))]))
  generalize hz_zn0 : (((p3 &&& (2147483647 : Int32)) % (181 : Int32)) - (90 : Int32)) = zn0
  refine Wp.step (fun t k => XS.istore X0.here hx rfl (hb hby at_52) rfl (l' := #[.val (.int p0), .val (.int p1), .val (.int p2), .val (.int p3), .val (.int p4), .val (.int p5), .val (.int zw), .val (.int ze), .val (.int zs0), .val (.int zn0), .unset, .unset, .unset, .unset, .unset, .unset, .unset, .unset, .unset, .unset]) rfl k) ?_
  show Wp p e below _ (s₁.setTop (mkF m 54 #[.val (.int p0), .val (.int p1), .val (.int p2), .val (.int p3), .val (.int p4), .val (.int p5), .val (.int zw), .val (.int ze), .val (.int zs0), .val (.int zn0), .unset, .unset, .unset, .unset, .unset, .unset, .unset, .unset, .unset, .unset] []))
  refine Wp.step (fun t k => XS.iload X0.here hx rfl (hb hby at_54) rfl k) ?_
  show Wp p e below _ (s₁.setTop (mkF m 56 #[.val (.int p0), .val (.int p1), .val (.int p2), .val (.int p3), .val (.int p4), .val (.int p5), .val (.int zw), .val (.int ze), .val (.int zs0), .val (.int zn0), .unset, .unset, .unset, .unset, .unset, .unset, .unset, .unset, .unset, .unset] [(.int zs0)]))
  refine Wp.step (fun t k => XS.iload X0.here hx rfl (hb hby at_56) rfl k) ?_
  show Wp p e below _ (s₁.setTop (mkF m 58 #[.val (.int p0), .val (.int p1), .val (.int p2), .val (.int p3), .val (.int p4), .val (.int p5), .val (.int zw), .val (.int ze), .val (.int zs0), .val (.int zn0), .unset, .unset, .unset, .unset, .unset, .unset, .unset, .unset, .unset, .unset] [(.int zn0), (.int zs0)]))
  obtain ⟨_, _, ⟨T1, L1, k1, n1⟩, -, X1, ⟨Lc1, hQ1, l1, y1, z1⟩, st1⟩ := Jvm.LawKit.callS X0 hx (y := (⟨"java/lang/Math", "min", "(II)I"⟩ : MethodName)) hown (mvT hZ (hw _ (List.mem_of_getElem? (i := 1) rfl))) (mvT hZ (hw _ (List.mem_of_getElem? (i := 2) rfl))) (mvT hZ (hw _ (List.mem_of_getElem? (i := 3) rfl))) (mvT hZ (hw _ (List.mem_of_getElem? (i := 4) rfl))) (by decide) (backOf (W := 0) (rm1 l Z a0 hw [] zs0 zn0  h0 n0 (Nat.le_trans Z0 K0.1) ) hZ (hw _ (List.mem_of_getElem? (i := 4) rfl)) (hw _ (List.mem_of_getElem? (i := 3) rfl)) (by decide) (by decide)) (g := (mkF m 58 #[.val (.int p0), .val (.int p1), .val (.int p2), .val (.int p3), .val (.int p4), .val (.int p5), .val (.int zw), .val (.int ze), .val (.int zs0), .val (.int zn0), .unset, .unset, .unset, .unset, .unset, .unset, .unset, .unset, .unset, .unset] [(.int zn0), (.int zs0)])) rfl (by rw [hml]; rfl) (argsL := [(.int zs0), (.int zn0)]) (rest := []) (lenOf pd_28II29I rfl) rfl (by show 2 * 0 + _ ≤ _; exact Nat.le_of_eq rfl) (hb hby at_58) (fun _ _ => ⟨rfl, e0, (by decide : 0 + 0 ≤ _), (by decide : 0 + 0 ≤ _)⟩)
  dsimp only [Pt.U, Pt.locs, Pt.cells, Pt.slots] at X1 l1 y1 z1 st1 hQ1
  subst l1 y1 z1
  obtain ⟨rfl, N1q, e1⟩ := hQ1
  have N1 := Fr.app N0 N1q
  refine Wp.step st1 ?_
  show Wp p e below _ (T1.setTop (mkF m 61 #[.val (.int p0), .val (.int p1), .val (.int p2), .val (.int p3), .val (.int p4), .val (.int p5), .val (.int zw), .val (.int ze), .val (.int zs0), .val (.int zn0), .unset, .unset, .unset, .unset, .unset, .unset, .unset, .unset, .unset, .unset] [(.int (own_min zs0 zn0))]))
  generalize hz_zs : (own_min zs0 zn0) = zs
  refine Wp.step (fun t k => XS.istore X1.here hx rfl (hb hby at_61) rfl (l' := #[.val (.int p0), .val (.int p1), .val (.int p2), .val (.int p3), .val (.int p4), .val (.int p5), .val (.int zw), .val (.int ze), .val (.int zs0), .val (.int zn0), .val (.int zs), .unset, .unset, .unset, .unset, .unset, .unset, .unset, .unset, .unset]) rfl k) ?_
  show Wp p e below _ (T1.setTop (mkF m 63 #[.val (.int p0), .val (.int p1), .val (.int p2), .val (.int p3), .val (.int p4), .val (.int p5), .val (.int zw), .val (.int ze), .val (.int zs0), .val (.int zn0), .val (.int zs), .unset, .unset, .unset, .unset, .unset, .unset, .unset, .unset, .unset] []))
  refine Wp.step (fun t k => XS.iload X1.here hx rfl (hb hby at_63) rfl k) ?_
  show Wp p e below _ (T1.setTop (mkF m 65 #[.val (.int p0), .val (.int p1), .val (.int p2), .val (.int p3), .val (.int p4), .val (.int p5), .val (.int zw), .val (.int ze), .val (.int zs0), .val (.int zn0), .val (.int zs), .unset, .unset, .unset, .unset, .unset, .unset, .unset, .unset, .unset] [(.int zs0)]))
  refine Wp.step (fun t k => XS.iload X1.here hx rfl (hb hby at_65) rfl k) ?_
  show Wp p e below _ (T1.setTop (mkF m 67 #[.val (.int p0), .val (.int p1), .val (.int p2), .val (.int p3), .val (.int p4), .val (.int p5), .val (.int zw), .val (.int ze), .val (.int zs0), .val (.int zn0), .val (.int zs), .unset, .unset, .unset, .unset, .unset, .unset, .unset, .unset, .unset] [(.int zn0), (.int zs0)]))
  obtain ⟨_, _, ⟨T2, L2, k2, n2⟩, -, X2, ⟨Lc2, hQ2, l2, y2, z2⟩, st2⟩ := Jvm.LawKit.callS X1 hx (y := (⟨"java/lang/Math", "max", "(II)I"⟩ : MethodName)) hown (mvT hZ (hw _ (List.mem_of_getElem? (i := 5) rfl))) (mvT hZ (hw _ (List.mem_of_getElem? (i := 6) rfl))) (mvT hZ (hw _ (List.mem_of_getElem? (i := 3) rfl))) (mvT hZ (hw _ (List.mem_of_getElem? (i := 7) rfl))) (by decide) (backOf (W := 0) (rm2 l Z a0 hw [] zs0 zn0  h0 n0 (Nat.le_trans Z0 K0.1) ) hZ (hw _ (List.mem_of_getElem? (i := 7) rfl)) (hw _ (List.mem_of_getElem? (i := 3) rfl)) (by decide) (by decide)) (g := (mkF m 67 #[.val (.int p0), .val (.int p1), .val (.int p2), .val (.int p3), .val (.int p4), .val (.int p5), .val (.int zw), .val (.int ze), .val (.int zs0), .val (.int zn0), .val (.int zs), .unset, .unset, .unset, .unset, .unset, .unset, .unset, .unset, .unset] [(.int zn0), (.int zs0)])) rfl (by rw [hml]; rfl) (argsL := [(.int zs0), (.int zn0)]) (rest := []) (lenOf pd_28II29I rfl) rfl (by show 2 * 0 + _ ≤ _; exact Nat.le_of_eq rfl) (hb hby at_67) (fun _ _ => ⟨rfl, e1, (by decide : 0 + 0 ≤ _), (by decide : 0 + 0 ≤ _)⟩)
  dsimp only [Pt.U, Pt.locs, Pt.cells, Pt.slots] at X2 l2 y2 z2 st2 hQ2
  subst l2 y2 z2
  obtain ⟨rfl, N2q, e2⟩ := hQ2
  have N2 := Fr.app N1 N2q
  refine Wp.step st2 ?_
  show Wp p e below _ (T2.setTop (mkF m 70 #[.val (.int p0), .val (.int p1), .val (.int p2), .val (.int p3), .val (.int p4), .val (.int p5), .val (.int zw), .val (.int ze), .val (.int zs0), .val (.int zn0), .val (.int zs), .unset, .unset, .unset, .unset, .unset, .unset, .unset, .unset, .unset] [(.int (own_max zs0 zn0))]))
  generalize hz_zn : (own_max zs0 zn0) = zn
  refine Wp.step (fun t k => XS.istore X2.here hx rfl (hb hby at_70) rfl (l' := #[.val (.int p0), .val (.int p1), .val (.int p2), .val (.int p3), .val (.int p4), .val (.int p5), .val (.int zw), .val (.int ze), .val (.int zs0), .val (.int zn0), .val (.int zs), .val (.int zn), .unset, .unset, .unset, .unset, .unset, .unset, .unset, .unset]) rfl k) ?_
  show Wp p e below _ (T2.setTop (mkF m 72 #[.val (.int p0), .val (.int p1), .val (.int p2), .val (.int p3), .val (.int p4), .val (.int p5), .val (.int zw), .val (.int ze), .val (.int zs0), .val (.int zn0), .val (.int zs), .val (.int zn), .unset, .unset, .unset, .unset, .unset, .unset, .unset, .unset] []))
  refine Wp.step (fun t k => XS.iload X2.here hx rfl (hb hby at_72) rfl k) ?_
  show Wp p e below _ (T2.setTop (mkF m 74 #[.val (.int p0), .val (.int p1), .val (.int p2), .val (.int p3), .val (.int p4), .val (.int p5), .val (.int zw), .val (.int ze), .val (.int zs0), .val (.int zn0), .val (.int zs), .val (.int zn), .unset, .unset, .unset, .unset, .unset, .unset, .unset, .unset] [(.int p4)]))
  refine Wp.step (X2.ldcInt hx hown (mvT hZ (hw _ (List.mem_of_getElem? (i := 0) rfl))) (g := (mkF m 74 #[.val (.int p0), .val (.int p1), .val (.int p2), .val (.int p3), .val (.int p4), .val (.int p5), .val (.int zw), .val (.int ze), .val (.int zs0), .val (.int zn0), .val (.int zs), .val (.int zn), .unset, .unset, .unset, .unset, .unset, .unset, .unset, .unset] [(.int p4)])) rfl (hb hby at_74)) ?_
  show Wp p e below _ (T2.setTop (mkF m 76 #[.val (.int p0), .val (.int p1), .val (.int p2), .val (.int p3), .val (.int p4), .val (.int p5), .val (.int zw), .val (.int ze), .val (.int zs0), .val (.int zn0), .val (.int zs), .val (.int zn), .unset, .unset, .unset, .unset, .unset, .unset, .unset, .unset] [(.int (2147483647 : Int32)), (.int p4)]))
  refine Wp.step (fun t k => XS.iand X2.here hx rfl (hb hby at_76) rfl k) ?_
  show Wp p e below _ (T2.setTop (mkF m 77 #[.val (.int p0), .val (.int p1), .val (.int p2), .val (.int p3), .val (.int p4), .val (.int p5), .val (.int zw), .val (.int ze), .val (.int zs0), .val (.int zn0), .val (.int zs), .val (.int zn), .unset, .unset, .unset, .unset, .unset, .unset, .unset, .unset] [(.int (p4 &&& (2147483647 : Int32)))]))
  refine Wp.step (fun t k => XS.sipush X2.here hx rfl (hb hby at_77) k) ?_
  show Wp p e below _ (T2.setTop (mkF m 80 #[.val (.int p0), .val (.int p1), .val (.int p2), .val (.int p3), .val (.int p4), .val (.int p5), .val (.int zw), .val (.int ze), .val (.int zs0), .val (.int zn0), .val (.int zs), .val (.int zn), .unset, .unset, .unset, .unset, .unset, .unset, .unset, .unset] [(.int (361 : Int32)), (.int (p4 &&& (2147483647 : Int32)))]))
  refine Wp.step (fun t k => Jvm.RoadKit.iremM X2 hx rfl (hb hby at_80) rfl (by decide) k) ?_
  show Wp p e below _ (T2.setTop (mkF m 81 #[.val (.int p0), .val (.int p1), .val (.int p2), .val (.int p3), .val (.int p4), .val (.int p5), .val (.int zw), .val (.int ze), .val (.int zs0), .val (.int zn0), .val (.int zs), .val (.int zn), .unset, .unset, .unset, .unset, .unset, .unset, .unset, .unset] [(.int ((p4 &&& (2147483647 : Int32)) % (361 : Int32)))]))
  refine Wp.step (fun t k => XS.sipush X2.here hx rfl (hb hby at_81) k) ?_
  show Wp p e below _ (T2.setTop (mkF m 84 #[.val (.int p0), .val (.int p1), .val (.int p2), .val (.int p3), .val (.int p4), .val (.int p5), .val (.int zw), .val (.int ze), .val (.int zs0), .val (.int zn0), .val (.int zs), .val (.int zn), .unset, .unset, .unset, .unset, .unset, .unset, .unset, .unset] [(.int (180 : Int32)), (.int ((p4 &&& (2147483647 : Int32)) % (361 : Int32)))]))
  refine Wp.step (fun t k => XS.isub X2.here hx rfl (hb hby at_84) rfl k) ?_
  show Wp p e below _ (T2.setTop (mkF m 85 #[.val (.int p0), .val (.int p1), .val (.int p2), .val (.int p3), .val (.int p4), .val (.int p5), .val (.int zw), .val (.int ze), .val (.int zs0), .val (.int zn0), .val (.int zs), .val (.int zn), .unset, .unset, .unset, .unset, .unset, .unset, .unset, .unset] [(.int (((p4 &&& (2147483647 : Int32)) % (361 : Int32)) - (180 : Int32)))]))
  generalize hz_zx : (((p4 &&& (2147483647 : Int32)) % (361 : Int32)) - (180 : Int32)) = zx
  refine Wp.step (fun t k => XS.istore X2.here hx rfl (hb hby at_85) rfl (l' := #[.val (.int p0), .val (.int p1), .val (.int p2), .val (.int p3), .val (.int p4), .val (.int p5), .val (.int zw), .val (.int ze), .val (.int zs0), .val (.int zn0), .val (.int zs), .val (.int zn), .val (.int zx), .unset, .unset, .unset, .unset, .unset, .unset, .unset]) rfl k) ?_
  show Wp p e below _ (T2.setTop (mkF m 87 #[.val (.int p0), .val (.int p1), .val (.int p2), .val (.int p3), .val (.int p4), .val (.int p5), .val (.int zw), .val (.int ze), .val (.int zs0), .val (.int zn0), .val (.int zs), .val (.int zn), .val (.int zx), .unset, .unset, .unset, .unset, .unset, .unset, .unset] []))
  refine Wp.step (fun t k => XS.iload X2.here hx rfl (hb hby at_87) rfl k) ?_
  show Wp p e below _ (T2.setTop (mkF m 89 #[.val (.int p0), .val (.int p1), .val (.int p2), .val (.int p3), .val (.int p4), .val (.int p5), .val (.int zw), .val (.int ze), .val (.int zs0), .val (.int zn0), .val (.int zs), .val (.int zn), .val (.int zx), .unset, .unset, .unset, .unset, .unset, .unset, .unset] [(.int p5)]))
  refine Wp.step (X2.ldcInt hx hown (mvT hZ (hw _ (List.mem_of_getElem? (i := 0) rfl))) (g := (mkF m 89 #[.val (.int p0), .val (.int p1), .val (.int p2), .val (.int p3), .val (.int p4), .val (.int p5), .val (.int zw), .val (.int ze), .val (.int zs0), .val (.int zn0), .val (.int zs), .val (.int zn), .val (.int zx), .unset, .unset, .unset, .unset, .unset, .unset, .unset] [(.int p5)])) rfl (hb hby at_89)) ?_
  show Wp p e below _ (T2.setTop (mkF m 91 #[.val (.int p0), .val (.int p1), .val (.int p2), .val (.int p3), .val (.int p4), .val (.int p5), .val (.int zw), .val (.int ze), .val (.int zs0), .val (.int zn0), .val (.int zs), .val (.int zn), .val (.int zx), .unset, .unset, .unset, .unset, .unset, .unset, .unset] [(.int (2147483647 : Int32)), (.int p5)]))
  refine Wp.step (fun t k => XS.iand X2.here hx rfl (hb hby at_91) rfl k) ?_
  show Wp p e below _ (T2.setTop (mkF m 92 #[.val (.int p0), .val (.int p1), .val (.int p2), .val (.int p3), .val (.int p4), .val (.int p5), .val (.int zw), .val (.int ze), .val (.int zs0), .val (.int zn0), .val (.int zs), .val (.int zn), .val (.int zx), .unset, .unset, .unset, .unset, .unset, .unset, .unset] [(.int (p5 &&& (2147483647 : Int32)))]))
  refine Wp.step (fun t k => XS.sipush X2.here hx rfl (hb hby at_92) k) ?_
  show Wp p e below _ (T2.setTop (mkF m 95 #[.val (.int p0), .val (.int p1), .val (.int p2), .val (.int p3), .val (.int p4), .val (.int p5), .val (.int zw), .val (.int ze), .val (.int zs0), .val (.int zn0), .val (.int zs), .val (.int zn), .val (.int zx), .unset, .unset, .unset, .unset, .unset, .unset, .unset] [(.int (201 : Int32)), (.int (p5 &&& (2147483647 : Int32)))]))
  refine Wp.step (fun t k => Jvm.RoadKit.iremM X2 hx rfl (hb hby at_95) rfl (by decide) k) ?_
  show Wp p e below _ (T2.setTop (mkF m 96 #[.val (.int p0), .val (.int p1), .val (.int p2), .val (.int p3), .val (.int p4), .val (.int p5), .val (.int zw), .val (.int ze), .val (.int zs0), .val (.int zn0), .val (.int zs), .val (.int zn), .val (.int zx), .unset, .unset, .unset, .unset, .unset, .unset, .unset] [(.int ((p5 &&& (2147483647 : Int32)) % (201 : Int32)))]))
  refine Wp.step (fun t k => XS.bipush X2.here hx rfl (hb hby at_96) k) ?_
  show Wp p e below _ (T2.setTop (mkF m 98 #[.val (.int p0), .val (.int p1), .val (.int p2), .val (.int p3), .val (.int p4), .val (.int p5), .val (.int zw), .val (.int ze), .val (.int zs0), .val (.int zn0), .val (.int zs), .val (.int zn), .val (.int zx), .unset, .unset, .unset, .unset, .unset, .unset, .unset] [(.int (100 : Int32)), (.int ((p5 &&& (2147483647 : Int32)) % (201 : Int32)))]))
  refine Wp.step (fun t k => XS.isub X2.here hx rfl (hb hby at_98) rfl k) ?_
  show Wp p e below _ (T2.setTop (mkF m 99 #[.val (.int p0), .val (.int p1), .val (.int p2), .val (.int p3), .val (.int p4), .val (.int p5), .val (.int zw), .val (.int ze), .val (.int zs0), .val (.int zn0), .val (.int zs), .val (.int zn), .val (.int zx), .unset, .unset, .unset, .unset, .unset, .unset, .unset] [(.int (((p5 &&& (2147483647 : Int32)) % (201 : Int32)) - (100 : Int32)))]))
  generalize hz_zy : (((p5 &&& (2147483647 : Int32)) % (201 : Int32)) - (100 : Int32)) = zy
  refine Wp.step (fun t k => XS.istore X2.here hx rfl (hb hby at_99) rfl (l' := #[.val (.int p0), .val (.int p1), .val (.int p2), .val (.int p3), .val (.int p4), .val (.int p5), .val (.int zw), .val (.int ze), .val (.int zs0), .val (.int zn0), .val (.int zs), .val (.int zn), .val (.int zx), .val (.int zy), .unset, .unset, .unset, .unset, .unset, .unset]) rfl k) ?_
  show Wp p e below _ (T2.setTop (mkF m 101 #[.val (.int p0), .val (.int p1), .val (.int p2), .val (.int p3), .val (.int p4), .val (.int p5), .val (.int zw), .val (.int ze), .val (.int zs0), .val (.int zn0), .val (.int zs), .val (.int zn), .val (.int zx), .val (.int zy), .unset, .unset, .unset, .unset, .unset, .unset] []))
  have B_zw := own_arg p0 361 180 360 180 (by decide) (by decide) (by decide) (by decide) (by decide) (by decide)
  rw [hz_zw] at B_zw
  have B_ze := own_arg p1 361 180 360 180 (by decide) (by decide) (by decide) (by decide) (by decide) (by decide)
  rw [hz_ze] at B_ze
  have B_zs0 := own_arg p2 181 90 180 90 (by decide) (by decide) (by decide) (by decide) (by decide) (by decide)
  rw [hz_zs0] at B_zs0
  have B_zn0 := own_arg p3 181 90 180 90 (by decide) (by decide) (by decide) (by decide) (by decide) (by decide)
  rw [hz_zn0] at B_zn0
  have B_zx := own_arg p4 361 180 360 180 (by decide) (by decide) (by decide) (by decide) (by decide) (by decide)
  rw [hz_zx] at B_zx
  have B_zy := own_arg p5 201 100 200 100 (by decide) (by decide) (by decide) (by decide) (by decide) (by decide)
  rw [hz_zy] at B_zy
  have B_m := own_mm zs0 zn0
  rw [hz_zs, hz_zn] at B_m
  obtain ⟨T3, h3, X3, e3, E3, A3, D3, -, st3⟩ := newO X2 hx hZ hown (hw _ (List.mem_of_getElem? (i := 8) rfl)) (hw _ (List.mem_of_getElem? (i := 9) rfl)) (hw _ (List.mem_of_getElem? (i := 10) rfl)) e2 (g := (mkF m 101 #[.val (.int p0), .val (.int p1), .val (.int p2), .val (.int p3), .val (.int p4), .val (.int p5), .val (.int zw), .val (.int ze), .val (.int zs0), .val (.int zn0), .val (.int zs), .val (.int zn), .val (.int zx), .val (.int zy), .unset, .unset, .unset, .unset, .unset, .unset] [])) rfl (hb hby at_101) (by decide) (by decide)
  obtain ⟨b3, g3⟩ : ∃ z, z = h0.size := ⟨_, rfl⟩
  rw [← g3] at A3 D3 st3
  have g_b3 : n0 ≤ b3 := Nat.le_trans (Nat.le_trans Z0 K0.1) (Nat.le_of_eq g3.symm)
  have sz_b3 : h0.size ≤ b3 := Nat.le_trans K0.1 (Nat.le_of_eq g3.symm)
  have K4 := K0.ext E3
  have c5 : Fld Z h3 b3 "com/example/luoshu/luoshu/query/Box" "west" "D" (.double (0 : UInt64)) := D3 (Or.inr (hw _ (List.mem_of_getElem? (i := 31) rfl))) (ty := .double) (by decide)
  have c6 : Fld Z h3 b3 "com/example/luoshu/luoshu/query/Box" "south" "D" (.double (0 : UInt64)) := D3 (Or.inr (hw _ (List.mem_of_getElem? (i := 33) rfl))) (ty := .double) (by decide)
  have c7 : Fld Z h3 b3 "com/example/luoshu/luoshu/query/Box" "east" "D" (.double (0 : UInt64)) := D3 (Or.inr (hw _ (List.mem_of_getElem? (i := 35) rfl))) (ty := .double) (by decide)
  have c8 : Fld Z h3 b3 "com/example/luoshu/luoshu/query/Box" "north" "D" (.double (0 : UInt64)) := D3 (Or.inr (hw _ (List.mem_of_getElem? (i := 37) rfl))) (ty := .double) (by decide)
  refine Wp.step st3 ?_
  show Wp p e below _ (T3.setTop (mkF m 104 #[.val (.int p0), .val (.int p1), .val (.int p2), .val (.int p3), .val (.int p4), .val (.int p5), .val (.int zw), .val (.int ze), .val (.int zs0), .val (.int zn0), .val (.int zs), .val (.int zn), .val (.int zx), .val (.int zy), .unset, .unset, .unset, .unset, .unset, .unset] [(.ref b3)]))
  refine Wp.step (fun t k => XS.dup X3.here hx rfl (hb hby at_104) rfl rfl k) ?_
  show Wp p e below _ (T3.setTop (mkF m 105 #[.val (.int p0), .val (.int p1), .val (.int p2), .val (.int p3), .val (.int p4), .val (.int p5), .val (.int zw), .val (.int ze), .val (.int zs0), .val (.int zn0), .val (.int zs), .val (.int zn), .val (.int zx), .val (.int zy), .unset, .unset, .unset, .unset, .unset, .unset] [(.ref b3), (.ref b3)]))
  refine Wp.step (fun t k => XS.iload X3.here hx rfl (hb hby at_105) rfl k) ?_
  show Wp p e below _ (T3.setTop (mkF m 107 #[.val (.int p0), .val (.int p1), .val (.int p2), .val (.int p3), .val (.int p4), .val (.int p5), .val (.int zw), .val (.int ze), .val (.int zs0), .val (.int zn0), .val (.int zs), .val (.int zn), .val (.int zx), .val (.int zy), .unset, .unset, .unset, .unset, .unset, .unset] [(.int zw), (.ref b3), (.ref b3)]))
  refine Wp.step (fun t k => own_i2d X3.here hx rfl (hb hby at_107) rfl k) ?_
  show Wp p e below _ (T3.setTop (mkF m 108 #[.val (.int p0), .val (.int p1), .val (.int p2), .val (.int p3), .val (.int p4), .val (.int p5), .val (.int zw), .val (.int ze), .val (.int zs0), .val (.int zn0), .val (.int zs), .val (.int zn), .val (.int zx), .val (.int zy), .unset, .unset, .unset, .unset, .unset, .unset] [(.double (FP.i2d zw)), (.ref b3), (.ref b3)]))
  refine Wp.step (fun t k => XS.iload X3.here hx rfl (hb hby at_108) rfl k) ?_
  show Wp p e below _ (T3.setTop (mkF m 110 #[.val (.int p0), .val (.int p1), .val (.int p2), .val (.int p3), .val (.int p4), .val (.int p5), .val (.int zw), .val (.int ze), .val (.int zs0), .val (.int zn0), .val (.int zs), .val (.int zn), .val (.int zx), .val (.int zy), .unset, .unset, .unset, .unset, .unset, .unset] [(.int zs), (.double (FP.i2d zw)), (.ref b3), (.ref b3)]))
  refine Wp.step (fun t k => own_i2d X3.here hx rfl (hb hby at_110) rfl k) ?_
  show Wp p e below _ (T3.setTop (mkF m 111 #[.val (.int p0), .val (.int p1), .val (.int p2), .val (.int p3), .val (.int p4), .val (.int p5), .val (.int zw), .val (.int ze), .val (.int zs0), .val (.int zn0), .val (.int zs), .val (.int zn), .val (.int zx), .val (.int zy), .unset, .unset, .unset, .unset, .unset, .unset] [(.double (FP.i2d zs)), (.double (FP.i2d zw)), (.ref b3), (.ref b3)]))
  refine Wp.step (fun t k => XS.iload X3.here hx rfl (hb hby at_111) rfl k) ?_
  show Wp p e below _ (T3.setTop (mkF m 113 #[.val (.int p0), .val (.int p1), .val (.int p2), .val (.int p3), .val (.int p4), .val (.int p5), .val (.int zw), .val (.int ze), .val (.int zs0), .val (.int zn0), .val (.int zs), .val (.int zn), .val (.int zx), .val (.int zy), .unset, .unset, .unset, .unset, .unset, .unset] [(.int ze), (.double (FP.i2d zs)), (.double (FP.i2d zw)), (.ref b3), (.ref b3)]))
  refine Wp.step (fun t k => own_i2d X3.here hx rfl (hb hby at_113) rfl k) ?_
  show Wp p e below _ (T3.setTop (mkF m 114 #[.val (.int p0), .val (.int p1), .val (.int p2), .val (.int p3), .val (.int p4), .val (.int p5), .val (.int zw), .val (.int ze), .val (.int zs0), .val (.int zn0), .val (.int zs), .val (.int zn), .val (.int zx), .val (.int zy), .unset, .unset, .unset, .unset, .unset, .unset] [(.double (FP.i2d ze)), (.double (FP.i2d zs)), (.double (FP.i2d zw)), (.ref b3), (.ref b3)]))
  refine Wp.step (fun t k => XS.iload X3.here hx rfl (hb hby at_114) rfl k) ?_
  show Wp p e below _ (T3.setTop (mkF m 116 #[.val (.int p0), .val (.int p1), .val (.int p2), .val (.int p3), .val (.int p4), .val (.int p5), .val (.int zw), .val (.int ze), .val (.int zs0), .val (.int zn0), .val (.int zs), .val (.int zn), .val (.int zx), .val (.int zy), .unset, .unset, .unset, .unset, .unset, .unset] [(.int zn), (.double (FP.i2d ze)), (.double (FP.i2d zs)), (.double (FP.i2d zw)), (.ref b3), (.ref b3)]))
  refine Wp.step (fun t k => own_i2d X3.here hx rfl (hb hby at_116) rfl k) ?_
  show Wp p e below _ (T3.setTop (mkF m 117 #[.val (.int p0), .val (.int p1), .val (.int p2), .val (.int p3), .val (.int p4), .val (.int p5), .val (.int zw), .val (.int ze), .val (.int zs0), .val (.int zn0), .val (.int zs), .val (.int zn), .val (.int zx), .val (.int zy), .unset, .unset, .unset, .unset, .unset, .unset] [(.double (FP.i2d zn)), (.double (FP.i2d ze)), (.double (FP.i2d zs)), (.double (FP.i2d zw)), (.ref b3), (.ref b3)]))
  obtain ⟨_, _, ⟨T9, L9, k9, n9⟩, -, X9, ⟨Lc9, hQ9, l9, y9, z9⟩, st9⟩ := X3.specialBack hx (y := (⟨"com/example/luoshu/luoshu/query/Box", "<init>", "(DDDD)V"⟩ : MethodName)) rfl hown (mvT hZ (hw _ (List.mem_of_getElem? (i := 11) rfl))) (mvT hZ (hw _ (List.mem_of_getElem? (i := 12) rfl))) (mvT hZ (hw _ (List.mem_of_getElem? (i := 13) rfl))) (by decide) (backOf (W := 1) (rm3 l Z a0 hw [] b3 (FP.i2d zw) (FP.i2d zs) (FP.i2d ze) (FP.i2d zn) (zw.toInt) (zs.toInt) (ze.toInt) (zn.toInt) h3 n0 (Nat.le_trans Z0 K4.1) g_b3 A3 c5 c6 c7 c8 (own_i2d_val zw) (own_i2d_val zs) (own_i2d_val ze) (own_i2d_val zn) (by omega) (by omega) (by omega) (by omega) (by omega)) hZ (hw _ (List.mem_of_getElem? (i := 13) rfl)) (hw _ (List.mem_of_getElem? (i := 10) rfl)) (by decide) (by decide)) (g := (mkF m 117 #[.val (.int p0), .val (.int p1), .val (.int p2), .val (.int p3), .val (.int p4), .val (.int p5), .val (.int zw), .val (.int ze), .val (.int zs0), .val (.int zn0), .val (.int zs), .val (.int zn), .val (.int zx), .val (.int zy), .unset, .unset, .unset, .unset, .unset, .unset] [(.double (FP.i2d zn)), (.double (FP.i2d ze)), (.double (FP.i2d zs)), (.double (FP.i2d zw)), (.ref b3), (.ref b3)])) rfl (by rw [hml]; rfl) (Steps.refl _) (a := b3) (argsL := [(.double (FP.i2d zw)), (.double (FP.i2d zs)), (.double (FP.i2d ze)), (.double (FP.i2d zn))]) (rest := [(.ref b3)]) (lenOf pd_28DDDD29V rfl) rfl (by show 2 * 0 + _ ≤ _; exact Nat.le_of_eq rfl) (hb hby at_117) (fun _ _ => ⟨rfl, e3, (by decide : 1 + 0 ≤ _), (by decide : 4 + 0 ≤ _)⟩)
  dsimp only [Pt.U, Pt.locs, Pt.cells, Pt.slots] at X9 l9 y9 z9 st9 hQ9
  subst l9 y9 z9
  obtain ⟨h9, e9⟩ : ∃ z, T9.heap = z := ⟨_, rfl⟩
  rw [e9] at hQ9
  obtain ⟨rfl, N9q, Kc9, cE9, c9_west, c9_south, c9_east, c9_north⟩ := hQ9
  have N9 := Fr.app N2 N9q
  have c10 := A3.keep Kc9
  have K9 := K4.trans Kc9 (allS (Or.inr sz_b3) all0)
  refine Wp.go st9 ?_
  show Wp p e below _ (T9.setTop (mkF m 120 #[.val (.int p0), .val (.int p1), .val (.int p2), .val (.int p3), .val (.int p4), .val (.int p5), .val (.int zw), .val (.int ze), .val (.int zs0), .val (.int zn0), .val (.int zs), .val (.int zn), .val (.int zx), .val (.int zy), .unset, .unset, .unset, .unset, .unset, .unset] [(.ref b3)]))
  refine Wp.step (fun t k => XS.astore X9.here hx rfl (hb hby at_120) rfl rfl (l' := #[.val (.int p0), .val (.int p1), .val (.int p2), .val (.int p3), .val (.int p4), .val (.int p5), .val (.int zw), .val (.int ze), .val (.int zs0), .val (.int zn0), .val (.int zs), .val (.int zn), .val (.int zx), .val (.int zy), .val (.ref b3), .unset, .unset, .unset, .unset, .unset]) rfl k) ?_
  show Wp p e below _ (T9.setTop (mkF m 122 #[.val (.int p0), .val (.int p1), .val (.int p2), .val (.int p3), .val (.int p4), .val (.int p5), .val (.int zw), .val (.int ze), .val (.int zs0), .val (.int zn0), .val (.int zs), .val (.int zn), .val (.int zx), .val (.int zy), .val (.ref b3), .unset, .unset, .unset, .unset, .unset] []))
  have kont11 : ∀ (jv15 : Int32) (hjv15 : jv15 = 0 ↔ ¬ (zs.toInt ≤ zy.toInt ∧ zy.toInt ≤ zn.toInt)), Wp p e below (Out s (Q0 Z p0 p1 p2 p3 p4 p5 h0 n0) room_1.cells room_1.slots) (T9.setTop (mkF m 143 #[.val (.int p0), .val (.int p1), .val (.int p2), .val (.int p3), .val (.int p4), .val (.int p5), .val (.int zw), .val (.int ze), .val (.int zs0), .val (.int zn0), .val (.int zs), .val (.int zn), .val (.int zx), .val (.int zy), .val (.ref b3), .val (.int jv15), .unset, .unset, .unset, .unset] [])) := by
    intro jv15 hjv15
    have kont12 : ∀ (jv16 : Int32) (hjv16 : jv16 = 0 ↔ ¬ (zw.toInt ≤ zx.toInt ∧ zx.toInt ≤ ze.toInt)), Wp p e below (Out s (Q0 Z p0 p1 p2 p3 p4 p5 h0 n0) room_1.cells room_1.slots) (T9.setTop (mkF m 164 #[.val (.int p0), .val (.int p1), .val (.int p2), .val (.int p3), .val (.int p4), .val (.int p5), .val (.int zw), .val (.int ze), .val (.int zs0), .val (.int zn0), .val (.int zs), .val (.int zn), .val (.int zx), .val (.int zy), .val (.ref b3), .val (.int jv15), .val (.int jv16), .unset, .unset, .unset] [])) := by
      intro jv16 hjv16
      have kont13 : ∀ (jv17 : Int32) (hjv17 : jv17 = 0 ↔ ¬ (ze.toInt < zw.toInt ∧ zw.toInt ≤ zx.toInt ∧ zx.toInt ≤ 180)), Wp p e below (Out s (Q0 Z p0 p1 p2 p3 p4 p5 h0 n0) room_1.cells room_1.slots) (T9.setTop (mkF m 193 #[.val (.int p0), .val (.int p1), .val (.int p2), .val (.int p3), .val (.int p4), .val (.int p5), .val (.int zw), .val (.int ze), .val (.int zs0), .val (.int zn0), .val (.int zs), .val (.int zn), .val (.int zx), .val (.int zy), .val (.ref b3), .val (.int jv15), .val (.int jv16), .val (.int jv17), .unset, .unset] [])) := by
        intro jv17 hjv17
        have kont14 : ∀ (jv18 : Int32) (hjv18 : jv18 = 0 ↔ ¬ (ze.toInt < zw.toInt ∧ -180 ≤ zx.toInt ∧ zx.toInt ≤ ze.toInt)), Wp p e below (Out s (Q0 Z p0 p1 p2 p3 p4 p5 h0 n0) room_1.cells room_1.slots) (T9.setTop (mkF m 222 #[.val (.int p0), .val (.int p1), .val (.int p2), .val (.int p3), .val (.int p4), .val (.int p5), .val (.int zw), .val (.int ze), .val (.int zs0), .val (.int zn0), .val (.int zs), .val (.int zn), .val (.int zx), .val (.int zy), .val (.ref b3), .val (.int jv15), .val (.int jv16), .val (.int jv17), .val (.int jv18), .unset] [])) := by
          intro jv18 hjv18
          have kont15 : ∀ (jv19 : Int32) (he19 : (jv19 = 1 ∧ ((zs.toInt ≤ zy.toInt ∧ zy.toInt ≤ zn.toInt) ∧ ((zw.toInt ≤ zx.toInt ∧ zx.toInt ≤ ze.toInt) ∨ (ze.toInt < zw.toInt ∧ zw.toInt ≤ zx.toInt ∧ zx.toInt ≤ 180) ∨ (ze.toInt < zw.toInt ∧ -180 ≤ zx.toInt ∧ zx.toInt ≤ ze.toInt)))) ∨ (jv19 = 0 ∧ ¬ ((zs.toInt ≤ zy.toInt ∧ zy.toInt ≤ zn.toInt) ∧ ((zw.toInt ≤ zx.toInt ∧ zx.toInt ≤ ze.toInt) ∨ (ze.toInt < zw.toInt ∧ zw.toInt ≤ zx.toInt ∧ zx.toInt ≤ 180) ∨ (ze.toInt < zw.toInt ∧ -180 ≤ zx.toInt ∧ zx.toInt ≤ ze.toInt))))), Wp p e below (Out s (Q0 Z p0 p1 p2 p3 p4 p5 h0 n0) room_1.cells room_1.slots) (T9.setTop (mkF m 249 #[.val (.int p0), .val (.int p1), .val (.int p2), .val (.int p3), .val (.int p4), .val (.int p5), .val (.int zw), .val (.int ze), .val (.int zs0), .val (.int zn0), .val (.int zs), .val (.int zn), .val (.int zx), .val (.int zy), .val (.ref b3), .val (.int jv15), .val (.int jv16), .val (.int jv17), .val (.int jv18), .val (.int jv19)] [])) := by
            intro jv19 he19
            refine Wp.step (fun t k => XS.aload X9.here hx rfl (hb hby at_249) rfl rfl k) ?_
            show Wp p e below _ (T9.setTop (mkF m 251 #[.val (.int p0), .val (.int p1), .val (.int p2), .val (.int p3), .val (.int p4), .val (.int p5), .val (.int zw), .val (.int ze), .val (.int zs0), .val (.int zn0), .val (.int zs), .val (.int zn), .val (.int zx), .val (.int zy), .val (.ref b3), .val (.int jv15), .val (.int jv16), .val (.int jv17), .val (.int jv18), .val (.int jv19)] [(.ref b3)]))
            refine Wp.step (fun t k => XS.iload X9.here hx rfl (hb hby at_251) rfl k) ?_
            show Wp p e below _ (T9.setTop (mkF m 253 #[.val (.int p0), .val (.int p1), .val (.int p2), .val (.int p3), .val (.int p4), .val (.int p5), .val (.int zw), .val (.int ze), .val (.int zs0), .val (.int zn0), .val (.int zs), .val (.int zn), .val (.int zx), .val (.int zy), .val (.ref b3), .val (.int jv15), .val (.int jv16), .val (.int jv17), .val (.int jv18), .val (.int jv19)] [(.int zx), (.ref b3)]))
            refine Wp.step (fun t k => own_i2d X9.here hx rfl (hb hby at_253) rfl k) ?_
            show Wp p e below _ (T9.setTop (mkF m 254 #[.val (.int p0), .val (.int p1), .val (.int p2), .val (.int p3), .val (.int p4), .val (.int p5), .val (.int zw), .val (.int ze), .val (.int zs0), .val (.int zn0), .val (.int zs), .val (.int zn), .val (.int zx), .val (.int zy), .val (.ref b3), .val (.int jv15), .val (.int jv16), .val (.int jv17), .val (.int jv18), .val (.int jv19)] [(.double (FP.i2d zx)), (.ref b3)]))
            refine Wp.step (fun t k => XS.iload X9.here hx rfl (hb hby at_254) rfl k) ?_
            show Wp p e below _ (T9.setTop (mkF m 256 #[.val (.int p0), .val (.int p1), .val (.int p2), .val (.int p3), .val (.int p4), .val (.int p5), .val (.int zw), .val (.int ze), .val (.int zs0), .val (.int zn0), .val (.int zs), .val (.int zn), .val (.int zx), .val (.int zy), .val (.ref b3), .val (.int jv15), .val (.int jv16), .val (.int jv17), .val (.int jv18), .val (.int jv19)] [(.int zy), (.double (FP.i2d zx)), (.ref b3)]))
            refine Wp.step (fun t k => own_i2d X9.here hx rfl (hb hby at_256) rfl k) ?_
            show Wp p e below _ (T9.setTop (mkF m 257 #[.val (.int p0), .val (.int p1), .val (.int p2), .val (.int p3), .val (.int p4), .val (.int p5), .val (.int zw), .val (.int ze), .val (.int zs0), .val (.int zn0), .val (.int zs), .val (.int zn), .val (.int zx), .val (.int zy), .val (.ref b3), .val (.int jv15), .val (.int jv16), .val (.int jv17), .val (.int jv18), .val (.int jv19)] [(.double (FP.i2d zy)), (.double (FP.i2d zx)), (.ref b3)]))
            obtain ⟨cq16, kq16, q16a, q16b, q16c⟩ := isOf hZ e9 cE9
            obtain ⟨_, _, ⟨T16, L16, k16, n16⟩, -, X16, ⟨Lc16, hQ16, l16, y16, z16⟩, st16⟩ := X9.virtualBack hx (y := (⟨"com/example/luoshu/luoshu/query/Box", "contains", "(DD)Z"⟩ : MethodName)) (z := (⟨"com/example/luoshu/luoshu/query/Box", "contains", "(DD)Z"⟩ : MethodName)) hown (mvT hZ (hw _ (List.mem_of_getElem? (i := 38) rfl))) (mvT hZ (hw _ (List.mem_of_getElem? (i := 39) rfl))) (notFace_of_selects (args := #[]) (mvT hZ (hw _ (List.mem_of_getElem? (i := 41) rfl)))) (mvT hZ (hw _ (List.mem_of_getElem? (i := 41) rfl))) (mvT hZ (hw _ (List.mem_of_getElem? (i := 40) rfl))) (by decide) (backOf (W := 0) (rm7 l Z a0 hw [] b3 (FP.i2d zx) (FP.i2d zy) (FP.i2d zw) (FP.i2d zs) (FP.i2d ze) (FP.i2d zn) (zw.toInt) (zs.toInt) (ze.toInt) (zn.toInt) zx.toInt zy.toInt h9 n0 (Nat.le_trans Z0 K9.1) c9_west c9_south c9_east c9_north (own_i2d_val zw) (own_i2d_val zs) (own_i2d_val ze) (own_i2d_val zn) (own_i2d_val zx) (own_i2d_val zy)) hZ (hw _ (List.mem_of_getElem? (i := 42) rfl)) (hw _ (List.mem_of_getElem? (i := 10) rfl)) (by decide) (by decide)) q16a q16c (g := (mkF m 257 #[.val (.int p0), .val (.int p1), .val (.int p2), .val (.int p3), .val (.int p4), .val (.int p5), .val (.int zw), .val (.int ze), .val (.int zs0), .val (.int zn0), .val (.int zs), .val (.int zn), .val (.int zx), .val (.int zy), .val (.ref b3), .val (.int jv15), .val (.int jv16), .val (.int jv17), .val (.int jv18), .val (.int jv19)] [(.double (FP.i2d zy)), (.double (FP.i2d zx)), (.ref b3)])) rfl (by rw [hml]; rfl) (Steps.refl _) (argsL := [(.double (FP.i2d zx)), (.double (FP.i2d zy))]) (rest := []) (lenOf pd_28DD29Z rfl) rfl (by show 2 * 0 + _ ≤ _; exact Nat.le_of_eq rfl) (hb hby at_257) (fun _ _ => ⟨rfl, e9, (by decide : 1 + 0 ≤ _), (by decide : 4 + 0 ≤ _)⟩)
            dsimp only [Pt.U, Pt.locs, Pt.cells, Pt.slots] at X16 l16 y16 z16 st16 hQ16
            subst l16 y16 z16
            obtain ⟨r0, rfl, ⟨hr1, hr0⟩, N16q, e16⟩ := hQ16
            have N16 := Fr.app N9 N16q
            have hin : own_inP zw.toInt zs.toInt ze.toInt zn.toInt zx.toInt zy.toInt ↔ ((zs.toInt ≤ zy.toInt ∧ zy.toInt ≤ zn.toInt) ∧ ((zw.toInt ≤ zx.toInt ∧ zx.toInt ≤ ze.toInt) ∨ (ze.toInt < zw.toInt ∧ zw.toInt ≤ zx.toInt ∧ zx.toInt ≤ 180) ∨ (ze.toInt < zw.toInt ∧ -180 ≤ zx.toInt ∧ zx.toInt ≤ ze.toInt))) := by unfold own_inP; omega
            have hre : r0 = jv19 := by
              rcases he19 with ⟨q1, q2⟩ | ⟨q1, q2⟩
              · rw [hr1 (hin.mpr q2), q1]
              · rw [hr0 (fun q => q2 (hin.mp q)), q1]
            refine Wp.go st16 ?_
            show Wp p e below _ (T16.setTop (mkF m 260 #[.val (.int p0), .val (.int p1), .val (.int p2), .val (.int p3), .val (.int p4), .val (.int p5), .val (.int zw), .val (.int ze), .val (.int zs0), .val (.int zn0), .val (.int zs), .val (.int zn), .val (.int zx), .val (.int zy), .val (.ref b3), .val (.int jv15), .val (.int jv16), .val (.int jv17), .val (.int jv18), .val (.int jv19)] [(.int r0)]))
            refine Wp.step (fun t k => XS.iload X16.here hx rfl (hb hby at_260) rfl k) ?_
            show Wp p e below _ (T16.setTop (mkF m 262 #[.val (.int p0), .val (.int p1), .val (.int p2), .val (.int p3), .val (.int p4), .val (.int p5), .val (.int zw), .val (.int ze), .val (.int zs0), .val (.int zn0), .val (.int zs), .val (.int zn), .val (.int zx), .val (.int zy), .val (.ref b3), .val (.int jv15), .val (.int jv16), .val (.int jv17), .val (.int jv18), .val (.int jv19)] [(.int jv19), (.int r0)]))
            refine Wp.step (fun t k => XS.icmpNo X16.here hx rfl (hb hby at_262) rfl (teq (show r0 = jv19 from hre)).2 k) ?_
            show Wp p e below _ (T16.setTop (mkF m 265 #[.val (.int p0), .val (.int p1), .val (.int p2), .val (.int p3), .val (.int p4), .val (.int p5), .val (.int zw), .val (.int ze), .val (.int zs0), .val (.int zn0), .val (.int zs), .val (.int zn), .val (.int zx), .val (.int zy), .val (.ref b3), .val (.int jv15), .val (.int jv16), .val (.int jv17), .val (.int jv18), .val (.int jv19)] []))
            refine Wp.step (fun t k => XS.iconst X16.here hx rfl (hb hby at_265) k) ?_
            show Wp p e below _ (T16.setTop (mkF m 266 #[.val (.int p0), .val (.int p1), .val (.int p2), .val (.int p3), .val (.int p4), .val (.int p5), .val (.int zw), .val (.int ze), .val (.int zs0), .val (.int zn0), .val (.int zs), .val (.int zn), .val (.int zx), .val (.int zy), .val (.ref b3), .val (.int jv15), .val (.int jv16), .val (.int jv17), .val (.int jv18), .val (.int jv19)] [(.int (1 : Int32))]))
            refine Wp.step (fun t k => XS.goto X16.here hx rfl (pc0 := 266) (pc' := 270) rfl (hb hby at_266) (by decide) (by decide) k) ?_
            show Wp p e below _ (T16.setTop (mkF m 270 #[.val (.int p0), .val (.int p1), .val (.int p2), .val (.int p3), .val (.int p4), .val (.int p5), .val (.int zw), .val (.int ze), .val (.int zs0), .val (.int zn0), .val (.int zs), .val (.int zn), .val (.int zx), .val (.int zy), .val (.ref b3), .val (.int jv15), .val (.int jv16), .val (.int jv17), .val (.int jv18), .val (.int jv19)] [(.int (1 : Int32))]))
            refine Wp.retN X16 hx (t := .boolean) Bd.returns (by simp) (hb hby at_270) hlk ?_ (by decide) (by decide)
            show Q0 Z p0 p1 p2 p3 p4 p5 h0 n0 (some (.int (nar .boolean (1 : Int32)))) T16.heap _
            rw [e16]
            exact ⟨rfl, N16⟩
          refine Wp.step (fun t k => XS.iload X9.here hx rfl (hb hby at_222) rfl k) ?_
          show Wp p e below _ (T9.setTop (mkF m 224 #[.val (.int p0), .val (.int p1), .val (.int p2), .val (.int p3), .val (.int p4), .val (.int p5), .val (.int zw), .val (.int ze), .val (.int zs0), .val (.int zn0), .val (.int zs), .val (.int zn), .val (.int zx), .val (.int zy), .val (.ref b3), .val (.int jv15), .val (.int jv16), .val (.int jv17), .val (.int jv18), .unset] [(.int jv15)]))
          by_cases hc18 : jv15 = (0 : Int32)
          · refine Wp.step (fun t k => XS.ifYes X9.here hx rfl (pc0 := 224) (pc' := 246) rfl (hb hby at_224) rfl ((if0 _ _).trans (teq hc18).1) (by decide) (by decide) k) ?_
            show Wp p e below _ (T9.setTop (mkF m 246 #[.val (.int p0), .val (.int p1), .val (.int p2), .val (.int p3), .val (.int p4), .val (.int p5), .val (.int zw), .val (.int ze), .val (.int zs0), .val (.int zn0), .val (.int zs), .val (.int zn), .val (.int zx), .val (.int zy), .val (.ref b3), .val (.int jv15), .val (.int jv16), .val (.int jv17), .val (.int jv18), .unset] []))
            refine Wp.step (fun t k => XS.iconst X9.here hx rfl (hb hby at_246) k) ?_
            show Wp p e below _ (T9.setTop (mkF m 247 #[.val (.int p0), .val (.int p1), .val (.int p2), .val (.int p3), .val (.int p4), .val (.int p5), .val (.int zw), .val (.int ze), .val (.int zs0), .val (.int zn0), .val (.int zs), .val (.int zn), .val (.int zx), .val (.int zy), .val (.ref b3), .val (.int jv15), .val (.int jv16), .val (.int jv17), .val (.int jv18), .unset] [(.int (0 : Int32))]))
            refine Wp.step (fun t k => XS.istore X9.here hx rfl (hb hby at_247) rfl (l' := #[.val (.int p0), .val (.int p1), .val (.int p2), .val (.int p3), .val (.int p4), .val (.int p5), .val (.int zw), .val (.int ze), .val (.int zs0), .val (.int zn0), .val (.int zs), .val (.int zn), .val (.int zx), .val (.int zy), .val (.ref b3), .val (.int jv15), .val (.int jv16), .val (.int jv17), .val (.int jv18), .val (.int (0 : Int32))]) rfl k) ?_
            show Wp p e below _ (T9.setTop (mkF m 249 #[.val (.int p0), .val (.int p1), .val (.int p2), .val (.int p3), .val (.int p4), .val (.int p5), .val (.int zw), .val (.int ze), .val (.int zs0), .val (.int zn0), .val (.int zs), .val (.int zn), .val (.int zx), .val (.int zy), .val (.ref b3), .val (.int jv15), .val (.int jv16), .val (.int jv17), .val (.int jv18), .val (.int (0 : Int32))] []))
            have gjv15 : ¬ (zs.toInt ≤ zy.toInt ∧ zy.toInt ≤ zn.toInt) := hjv15.mp hc18
            exact kont15 (0 : Int32) (Or.inr ⟨rfl, show ¬ ((zs.toInt ≤ zy.toInt ∧ zy.toInt ≤ zn.toInt) ∧ ((zw.toInt ≤ zx.toInt ∧ zx.toInt ≤ ze.toInt) ∨ (ze.toInt < zw.toInt ∧ zw.toInt ≤ zx.toInt ∧ zx.toInt ≤ 180) ∨ (ze.toInt < zw.toInt ∧ -180 ≤ zx.toInt ∧ zx.toInt ≤ ze.toInt))) by omega⟩)
          · refine Wp.step (fun t k => XS.ifNo X9.here hx rfl (hb hby at_224) rfl ((if0 _ _).trans (feq hc18).1) k) ?_
            show Wp p e below _ (T9.setTop (mkF m 227 #[.val (.int p0), .val (.int p1), .val (.int p2), .val (.int p3), .val (.int p4), .val (.int p5), .val (.int zw), .val (.int ze), .val (.int zs0), .val (.int zn0), .val (.int zs), .val (.int zn), .val (.int zx), .val (.int zy), .val (.ref b3), .val (.int jv15), .val (.int jv16), .val (.int jv17), .val (.int jv18), .unset] []))
            refine Wp.step (fun t k => XS.iload X9.here hx rfl (hb hby at_227) rfl k) ?_
            show Wp p e below _ (T9.setTop (mkF m 229 #[.val (.int p0), .val (.int p1), .val (.int p2), .val (.int p3), .val (.int p4), .val (.int p5), .val (.int zw), .val (.int ze), .val (.int zs0), .val (.int zn0), .val (.int zs), .val (.int zn), .val (.int zx), .val (.int zy), .val (.ref b3), .val (.int jv15), .val (.int jv16), .val (.int jv17), .val (.int jv18), .unset] [(.int jv16)]))
            by_cases hc19 : jv16 = (0 : Int32)
            · refine Wp.step (fun t k => XS.ifNo X9.here hx rfl (hb hby at_229) rfl ((if0 _ _).trans (teq hc19).2) k) ?_
              show Wp p e below _ (T9.setTop (mkF m 232 #[.val (.int p0), .val (.int p1), .val (.int p2), .val (.int p3), .val (.int p4), .val (.int p5), .val (.int zw), .val (.int ze), .val (.int zs0), .val (.int zn0), .val (.int zs), .val (.int zn), .val (.int zx), .val (.int zy), .val (.ref b3), .val (.int jv15), .val (.int jv16), .val (.int jv17), .val (.int jv18), .unset] []))
              refine Wp.step (fun t k => XS.iload X9.here hx rfl (hb hby at_232) rfl k) ?_
              show Wp p e below _ (T9.setTop (mkF m 234 #[.val (.int p0), .val (.int p1), .val (.int p2), .val (.int p3), .val (.int p4), .val (.int p5), .val (.int zw), .val (.int ze), .val (.int zs0), .val (.int zn0), .val (.int zs), .val (.int zn), .val (.int zx), .val (.int zy), .val (.ref b3), .val (.int jv15), .val (.int jv16), .val (.int jv17), .val (.int jv18), .unset] [(.int jv17)]))
              by_cases hc20 : jv17 = (0 : Int32)
              · refine Wp.step (fun t k => XS.ifNo X9.here hx rfl (hb hby at_234) rfl ((if0 _ _).trans (teq hc20).2) k) ?_
                show Wp p e below _ (T9.setTop (mkF m 237 #[.val (.int p0), .val (.int p1), .val (.int p2), .val (.int p3), .val (.int p4), .val (.int p5), .val (.int zw), .val (.int ze), .val (.int zs0), .val (.int zn0), .val (.int zs), .val (.int zn), .val (.int zx), .val (.int zy), .val (.ref b3), .val (.int jv15), .val (.int jv16), .val (.int jv17), .val (.int jv18), .unset] []))
                refine Wp.step (fun t k => XS.iload X9.here hx rfl (hb hby at_237) rfl k) ?_
                show Wp p e below _ (T9.setTop (mkF m 239 #[.val (.int p0), .val (.int p1), .val (.int p2), .val (.int p3), .val (.int p4), .val (.int p5), .val (.int zw), .val (.int ze), .val (.int zs0), .val (.int zn0), .val (.int zs), .val (.int zn), .val (.int zx), .val (.int zy), .val (.ref b3), .val (.int jv15), .val (.int jv16), .val (.int jv17), .val (.int jv18), .unset] [(.int jv18)]))
                by_cases hc21 : jv18 = (0 : Int32)
                · refine Wp.step (fun t k => XS.ifYes X9.here hx rfl (pc0 := 239) (pc' := 246) rfl (hb hby at_239) rfl ((if0 _ _).trans (teq hc21).1) (by decide) (by decide) k) ?_
                  show Wp p e below _ (T9.setTop (mkF m 246 #[.val (.int p0), .val (.int p1), .val (.int p2), .val (.int p3), .val (.int p4), .val (.int p5), .val (.int zw), .val (.int ze), .val (.int zs0), .val (.int zn0), .val (.int zs), .val (.int zn), .val (.int zx), .val (.int zy), .val (.ref b3), .val (.int jv15), .val (.int jv16), .val (.int jv17), .val (.int jv18), .unset] []))
                  refine Wp.step (fun t k => XS.iconst X9.here hx rfl (hb hby at_246) k) ?_
                  show Wp p e below _ (T9.setTop (mkF m 247 #[.val (.int p0), .val (.int p1), .val (.int p2), .val (.int p3), .val (.int p4), .val (.int p5), .val (.int zw), .val (.int ze), .val (.int zs0), .val (.int zn0), .val (.int zs), .val (.int zn), .val (.int zx), .val (.int zy), .val (.ref b3), .val (.int jv15), .val (.int jv16), .val (.int jv17), .val (.int jv18), .unset] [(.int (0 : Int32))]))
                  refine Wp.step (fun t k => XS.istore X9.here hx rfl (hb hby at_247) rfl (l' := #[.val (.int p0), .val (.int p1), .val (.int p2), .val (.int p3), .val (.int p4), .val (.int p5), .val (.int zw), .val (.int ze), .val (.int zs0), .val (.int zn0), .val (.int zs), .val (.int zn), .val (.int zx), .val (.int zy), .val (.ref b3), .val (.int jv15), .val (.int jv16), .val (.int jv17), .val (.int jv18), .val (.int (0 : Int32))]) rfl k) ?_
                  show Wp p e below _ (T9.setTop (mkF m 249 #[.val (.int p0), .val (.int p1), .val (.int p2), .val (.int p3), .val (.int p4), .val (.int p5), .val (.int zw), .val (.int ze), .val (.int zs0), .val (.int zn0), .val (.int zs), .val (.int zn), .val (.int zx), .val (.int zy), .val (.ref b3), .val (.int jv15), .val (.int jv16), .val (.int jv17), .val (.int jv18), .val (.int (0 : Int32))] []))
                  have gjv15 : (zs.toInt ≤ zy.toInt ∧ zy.toInt ≤ zn.toInt) := Classical.byContradiction fun q => hc18 (hjv15.mpr q)
                  have gjv16 : ¬ (zw.toInt ≤ zx.toInt ∧ zx.toInt ≤ ze.toInt) := hjv16.mp hc19
                  have gjv17 : ¬ (ze.toInt < zw.toInt ∧ zw.toInt ≤ zx.toInt ∧ zx.toInt ≤ 180) := hjv17.mp hc20
                  have gjv18 : ¬ (ze.toInt < zw.toInt ∧ -180 ≤ zx.toInt ∧ zx.toInt ≤ ze.toInt) := hjv18.mp hc21
                  exact kont15 (0 : Int32) (Or.inr ⟨rfl, show ¬ ((zs.toInt ≤ zy.toInt ∧ zy.toInt ≤ zn.toInt) ∧ ((zw.toInt ≤ zx.toInt ∧ zx.toInt ≤ ze.toInt) ∨ (ze.toInt < zw.toInt ∧ zw.toInt ≤ zx.toInt ∧ zx.toInt ≤ 180) ∨ (ze.toInt < zw.toInt ∧ -180 ≤ zx.toInt ∧ zx.toInt ≤ ze.toInt))) by omega⟩)
                · refine Wp.step (fun t k => XS.ifNo X9.here hx rfl (hb hby at_239) rfl ((if0 _ _).trans (feq hc21).1) k) ?_
                  show Wp p e below _ (T9.setTop (mkF m 242 #[.val (.int p0), .val (.int p1), .val (.int p2), .val (.int p3), .val (.int p4), .val (.int p5), .val (.int zw), .val (.int ze), .val (.int zs0), .val (.int zn0), .val (.int zs), .val (.int zn), .val (.int zx), .val (.int zy), .val (.ref b3), .val (.int jv15), .val (.int jv16), .val (.int jv17), .val (.int jv18), .unset] []))
                  refine Wp.step (fun t k => XS.iconst X9.here hx rfl (hb hby at_242) k) ?_
                  show Wp p e below _ (T9.setTop (mkF m 243 #[.val (.int p0), .val (.int p1), .val (.int p2), .val (.int p3), .val (.int p4), .val (.int p5), .val (.int zw), .val (.int ze), .val (.int zs0), .val (.int zn0), .val (.int zs), .val (.int zn), .val (.int zx), .val (.int zy), .val (.ref b3), .val (.int jv15), .val (.int jv16), .val (.int jv17), .val (.int jv18), .unset] [(.int (1 : Int32))]))
                  refine Wp.step (fun t k => XS.goto X9.here hx rfl (pc0 := 243) (pc' := 247) rfl (hb hby at_243) (by decide) (by decide) k) ?_
                  show Wp p e below _ (T9.setTop (mkF m 247 #[.val (.int p0), .val (.int p1), .val (.int p2), .val (.int p3), .val (.int p4), .val (.int p5), .val (.int zw), .val (.int ze), .val (.int zs0), .val (.int zn0), .val (.int zs), .val (.int zn), .val (.int zx), .val (.int zy), .val (.ref b3), .val (.int jv15), .val (.int jv16), .val (.int jv17), .val (.int jv18), .unset] [(.int (1 : Int32))]))
                  refine Wp.step (fun t k => XS.istore X9.here hx rfl (hb hby at_247) rfl (l' := #[.val (.int p0), .val (.int p1), .val (.int p2), .val (.int p3), .val (.int p4), .val (.int p5), .val (.int zw), .val (.int ze), .val (.int zs0), .val (.int zn0), .val (.int zs), .val (.int zn), .val (.int zx), .val (.int zy), .val (.ref b3), .val (.int jv15), .val (.int jv16), .val (.int jv17), .val (.int jv18), .val (.int (1 : Int32))]) rfl k) ?_
                  show Wp p e below _ (T9.setTop (mkF m 249 #[.val (.int p0), .val (.int p1), .val (.int p2), .val (.int p3), .val (.int p4), .val (.int p5), .val (.int zw), .val (.int ze), .val (.int zs0), .val (.int zn0), .val (.int zs), .val (.int zn), .val (.int zx), .val (.int zy), .val (.ref b3), .val (.int jv15), .val (.int jv16), .val (.int jv17), .val (.int jv18), .val (.int (1 : Int32))] []))
                  have gjv15 : (zs.toInt ≤ zy.toInt ∧ zy.toInt ≤ zn.toInt) := Classical.byContradiction fun q => hc18 (hjv15.mpr q)
                  have gjv16 : ¬ (zw.toInt ≤ zx.toInt ∧ zx.toInt ≤ ze.toInt) := hjv16.mp hc19
                  have gjv17 : ¬ (ze.toInt < zw.toInt ∧ zw.toInt ≤ zx.toInt ∧ zx.toInt ≤ 180) := hjv17.mp hc20
                  have gjv18 : (ze.toInt < zw.toInt ∧ -180 ≤ zx.toInt ∧ zx.toInt ≤ ze.toInt) := Classical.byContradiction fun q => hc21 (hjv18.mpr q)
                  exact kont15 (1 : Int32) (Or.inl ⟨rfl, show ((zs.toInt ≤ zy.toInt ∧ zy.toInt ≤ zn.toInt) ∧ ((zw.toInt ≤ zx.toInt ∧ zx.toInt ≤ ze.toInt) ∨ (ze.toInt < zw.toInt ∧ zw.toInt ≤ zx.toInt ∧ zx.toInt ≤ 180) ∨ (ze.toInt < zw.toInt ∧ -180 ≤ zx.toInt ∧ zx.toInt ≤ ze.toInt))) by omega⟩)
              · refine Wp.step (fun t k => XS.ifYes X9.here hx rfl (pc0 := 234) (pc' := 242) rfl (hb hby at_234) rfl ((if0 _ _).trans (feq hc20).2) (by decide) (by decide) k) ?_
                show Wp p e below _ (T9.setTop (mkF m 242 #[.val (.int p0), .val (.int p1), .val (.int p2), .val (.int p3), .val (.int p4), .val (.int p5), .val (.int zw), .val (.int ze), .val (.int zs0), .val (.int zn0), .val (.int zs), .val (.int zn), .val (.int zx), .val (.int zy), .val (.ref b3), .val (.int jv15), .val (.int jv16), .val (.int jv17), .val (.int jv18), .unset] []))
                refine Wp.step (fun t k => XS.iconst X9.here hx rfl (hb hby at_242) k) ?_
                show Wp p e below _ (T9.setTop (mkF m 243 #[.val (.int p0), .val (.int p1), .val (.int p2), .val (.int p3), .val (.int p4), .val (.int p5), .val (.int zw), .val (.int ze), .val (.int zs0), .val (.int zn0), .val (.int zs), .val (.int zn), .val (.int zx), .val (.int zy), .val (.ref b3), .val (.int jv15), .val (.int jv16), .val (.int jv17), .val (.int jv18), .unset] [(.int (1 : Int32))]))
                refine Wp.step (fun t k => XS.goto X9.here hx rfl (pc0 := 243) (pc' := 247) rfl (hb hby at_243) (by decide) (by decide) k) ?_
                show Wp p e below _ (T9.setTop (mkF m 247 #[.val (.int p0), .val (.int p1), .val (.int p2), .val (.int p3), .val (.int p4), .val (.int p5), .val (.int zw), .val (.int ze), .val (.int zs0), .val (.int zn0), .val (.int zs), .val (.int zn), .val (.int zx), .val (.int zy), .val (.ref b3), .val (.int jv15), .val (.int jv16), .val (.int jv17), .val (.int jv18), .unset] [(.int (1 : Int32))]))
                refine Wp.step (fun t k => XS.istore X9.here hx rfl (hb hby at_247) rfl (l' := #[.val (.int p0), .val (.int p1), .val (.int p2), .val (.int p3), .val (.int p4), .val (.int p5), .val (.int zw), .val (.int ze), .val (.int zs0), .val (.int zn0), .val (.int zs), .val (.int zn), .val (.int zx), .val (.int zy), .val (.ref b3), .val (.int jv15), .val (.int jv16), .val (.int jv17), .val (.int jv18), .val (.int (1 : Int32))]) rfl k) ?_
                show Wp p e below _ (T9.setTop (mkF m 249 #[.val (.int p0), .val (.int p1), .val (.int p2), .val (.int p3), .val (.int p4), .val (.int p5), .val (.int zw), .val (.int ze), .val (.int zs0), .val (.int zn0), .val (.int zs), .val (.int zn), .val (.int zx), .val (.int zy), .val (.ref b3), .val (.int jv15), .val (.int jv16), .val (.int jv17), .val (.int jv18), .val (.int (1 : Int32))] []))
                have gjv15 : (zs.toInt ≤ zy.toInt ∧ zy.toInt ≤ zn.toInt) := Classical.byContradiction fun q => hc18 (hjv15.mpr q)
                have gjv16 : ¬ (zw.toInt ≤ zx.toInt ∧ zx.toInt ≤ ze.toInt) := hjv16.mp hc19
                have gjv17 : (ze.toInt < zw.toInt ∧ zw.toInt ≤ zx.toInt ∧ zx.toInt ≤ 180) := Classical.byContradiction fun q => hc20 (hjv17.mpr q)
                exact kont15 (1 : Int32) (Or.inl ⟨rfl, show ((zs.toInt ≤ zy.toInt ∧ zy.toInt ≤ zn.toInt) ∧ ((zw.toInt ≤ zx.toInt ∧ zx.toInt ≤ ze.toInt) ∨ (ze.toInt < zw.toInt ∧ zw.toInt ≤ zx.toInt ∧ zx.toInt ≤ 180) ∨ (ze.toInt < zw.toInt ∧ -180 ≤ zx.toInt ∧ zx.toInt ≤ ze.toInt))) by omega⟩)
            · refine Wp.step (fun t k => XS.ifYes X9.here hx rfl (pc0 := 229) (pc' := 242) rfl (hb hby at_229) rfl ((if0 _ _).trans (feq hc19).2) (by decide) (by decide) k) ?_
              show Wp p e below _ (T9.setTop (mkF m 242 #[.val (.int p0), .val (.int p1), .val (.int p2), .val (.int p3), .val (.int p4), .val (.int p5), .val (.int zw), .val (.int ze), .val (.int zs0), .val (.int zn0), .val (.int zs), .val (.int zn), .val (.int zx), .val (.int zy), .val (.ref b3), .val (.int jv15), .val (.int jv16), .val (.int jv17), .val (.int jv18), .unset] []))
              refine Wp.step (fun t k => XS.iconst X9.here hx rfl (hb hby at_242) k) ?_
              show Wp p e below _ (T9.setTop (mkF m 243 #[.val (.int p0), .val (.int p1), .val (.int p2), .val (.int p3), .val (.int p4), .val (.int p5), .val (.int zw), .val (.int ze), .val (.int zs0), .val (.int zn0), .val (.int zs), .val (.int zn), .val (.int zx), .val (.int zy), .val (.ref b3), .val (.int jv15), .val (.int jv16), .val (.int jv17), .val (.int jv18), .unset] [(.int (1 : Int32))]))
              refine Wp.step (fun t k => XS.goto X9.here hx rfl (pc0 := 243) (pc' := 247) rfl (hb hby at_243) (by decide) (by decide) k) ?_
              show Wp p e below _ (T9.setTop (mkF m 247 #[.val (.int p0), .val (.int p1), .val (.int p2), .val (.int p3), .val (.int p4), .val (.int p5), .val (.int zw), .val (.int ze), .val (.int zs0), .val (.int zn0), .val (.int zs), .val (.int zn), .val (.int zx), .val (.int zy), .val (.ref b3), .val (.int jv15), .val (.int jv16), .val (.int jv17), .val (.int jv18), .unset] [(.int (1 : Int32))]))
              refine Wp.step (fun t k => XS.istore X9.here hx rfl (hb hby at_247) rfl (l' := #[.val (.int p0), .val (.int p1), .val (.int p2), .val (.int p3), .val (.int p4), .val (.int p5), .val (.int zw), .val (.int ze), .val (.int zs0), .val (.int zn0), .val (.int zs), .val (.int zn), .val (.int zx), .val (.int zy), .val (.ref b3), .val (.int jv15), .val (.int jv16), .val (.int jv17), .val (.int jv18), .val (.int (1 : Int32))]) rfl k) ?_
              show Wp p e below _ (T9.setTop (mkF m 249 #[.val (.int p0), .val (.int p1), .val (.int p2), .val (.int p3), .val (.int p4), .val (.int p5), .val (.int zw), .val (.int ze), .val (.int zs0), .val (.int zn0), .val (.int zs), .val (.int zn), .val (.int zx), .val (.int zy), .val (.ref b3), .val (.int jv15), .val (.int jv16), .val (.int jv17), .val (.int jv18), .val (.int (1 : Int32))] []))
              have gjv15 : (zs.toInt ≤ zy.toInt ∧ zy.toInt ≤ zn.toInt) := Classical.byContradiction fun q => hc18 (hjv15.mpr q)
              have gjv16 : (zw.toInt ≤ zx.toInt ∧ zx.toInt ≤ ze.toInt) := Classical.byContradiction fun q => hc19 (hjv16.mpr q)
              exact kont15 (1 : Int32) (Or.inl ⟨rfl, show ((zs.toInt ≤ zy.toInt ∧ zy.toInt ≤ zn.toInt) ∧ ((zw.toInt ≤ zx.toInt ∧ zx.toInt ≤ ze.toInt) ∨ (ze.toInt < zw.toInt ∧ zw.toInt ≤ zx.toInt ∧ zx.toInt ≤ 180) ∨ (ze.toInt < zw.toInt ∧ -180 ≤ zx.toInt ∧ zx.toInt ≤ ze.toInt))) by omega⟩)
        refine Wp.step (fun t k => XS.iload X9.here hx rfl (hb hby at_193) rfl k) ?_
        show Wp p e below _ (T9.setTop (mkF m 195 #[.val (.int p0), .val (.int p1), .val (.int p2), .val (.int p3), .val (.int p4), .val (.int p5), .val (.int zw), .val (.int ze), .val (.int zs0), .val (.int zn0), .val (.int zs), .val (.int zn), .val (.int zx), .val (.int zy), .val (.ref b3), .val (.int jv15), .val (.int jv16), .val (.int jv17), .unset, .unset] [(.int zw)]))
        refine Wp.step (fun t k => XS.iload X9.here hx rfl (hb hby at_195) rfl k) ?_
        show Wp p e below _ (T9.setTop (mkF m 197 #[.val (.int p0), .val (.int p1), .val (.int p2), .val (.int p3), .val (.int p4), .val (.int p5), .val (.int zw), .val (.int ze), .val (.int zs0), .val (.int zn0), .val (.int zs), .val (.int zn), .val (.int zx), .val (.int zy), .val (.ref b3), .val (.int jv15), .val (.int jv16), .val (.int jv17), .unset, .unset] [(.int ze), (.int zw)]))
        by_cases hc22 : ze < zw
        · refine Wp.step (fun t k => XS.icmpNo X9.here hx rfl (hb hby at_197) rfl (tlt hc22).2.2.2 k) ?_
          show Wp p e below _ (T9.setTop (mkF m 200 #[.val (.int p0), .val (.int p1), .val (.int p2), .val (.int p3), .val (.int p4), .val (.int p5), .val (.int zw), .val (.int ze), .val (.int zs0), .val (.int zn0), .val (.int zs), .val (.int zn), .val (.int zx), .val (.int zy), .val (.ref b3), .val (.int jv15), .val (.int jv16), .val (.int jv17), .unset, .unset] []))
          refine Wp.step (fun t k => XS.sipush X9.here hx rfl (hb hby at_200) k) ?_
          show Wp p e below _ (T9.setTop (mkF m 203 #[.val (.int p0), .val (.int p1), .val (.int p2), .val (.int p3), .val (.int p4), .val (.int p5), .val (.int zw), .val (.int ze), .val (.int zs0), .val (.int zn0), .val (.int zs), .val (.int zn), .val (.int zx), .val (.int zy), .val (.ref b3), .val (.int jv15), .val (.int jv16), .val (.int jv17), .unset, .unset] [(.int (-180 : Int32))]))
          refine Wp.step (fun t k => XS.iload X9.here hx rfl (hb hby at_203) rfl k) ?_
          show Wp p e below _ (T9.setTop (mkF m 205 #[.val (.int p0), .val (.int p1), .val (.int p2), .val (.int p3), .val (.int p4), .val (.int p5), .val (.int zw), .val (.int ze), .val (.int zs0), .val (.int zn0), .val (.int zs), .val (.int zn), .val (.int zx), .val (.int zy), .val (.ref b3), .val (.int jv15), .val (.int jv16), .val (.int jv17), .unset, .unset] [(.int zx), (.int (-180 : Int32))]))
          by_cases hc23 : zx < (-180 : Int32)
          · refine Wp.step (fun t k => XS.icmpYes X9.here hx rfl (pc0 := 205) (pc' := 219) rfl (hb hby at_205) rfl (tlt hc23).2.2.1 (by decide) (by decide) k) ?_
            show Wp p e below _ (T9.setTop (mkF m 219 #[.val (.int p0), .val (.int p1), .val (.int p2), .val (.int p3), .val (.int p4), .val (.int p5), .val (.int zw), .val (.int ze), .val (.int zs0), .val (.int zn0), .val (.int zs), .val (.int zn), .val (.int zx), .val (.int zy), .val (.ref b3), .val (.int jv15), .val (.int jv16), .val (.int jv17), .unset, .unset] []))
            refine Wp.step (fun t k => XS.iconst X9.here hx rfl (hb hby at_219) k) ?_
            show Wp p e below _ (T9.setTop (mkF m 220 #[.val (.int p0), .val (.int p1), .val (.int p2), .val (.int p3), .val (.int p4), .val (.int p5), .val (.int zw), .val (.int ze), .val (.int zs0), .val (.int zn0), .val (.int zs), .val (.int zn), .val (.int zx), .val (.int zy), .val (.ref b3), .val (.int jv15), .val (.int jv16), .val (.int jv17), .unset, .unset] [(.int (0 : Int32))]))
            refine Wp.step (fun t k => XS.istore X9.here hx rfl (hb hby at_220) rfl (l' := #[.val (.int p0), .val (.int p1), .val (.int p2), .val (.int p3), .val (.int p4), .val (.int p5), .val (.int zw), .val (.int ze), .val (.int zs0), .val (.int zn0), .val (.int zs), .val (.int zn), .val (.int zx), .val (.int zy), .val (.ref b3), .val (.int jv15), .val (.int jv16), .val (.int jv17), .val (.int (0 : Int32)), .unset]) rfl k) ?_
            show Wp p e below _ (T9.setTop (mkF m 222 #[.val (.int p0), .val (.int p1), .val (.int p2), .val (.int p3), .val (.int p4), .val (.int p5), .val (.int zw), .val (.int ze), .val (.int zs0), .val (.int zn0), .val (.int zs), .val (.int zn), .val (.int zx), .val (.int zy), .val (.ref b3), .val (.int jv15), .val (.int jv16), .val (.int jv17), .val (.int (0 : Int32)), .unset] []))
            exact kont14 (0 : Int32) ⟨fun _ => show ¬ (ze.toInt < zw.toInt ∧ -180 ≤ zx.toInt ∧ zx.toInt ≤ ze.toInt) from (by simp only [Int32.lt_iff_toInt_lt] at hc22 hc23; have k1 : (180 : Int32).toInt = 180 := (by decide); have k2 : (-180 : Int32).toInt = -180 := (by decide); omega), fun _ => rfl⟩
          · refine Wp.step (fun t k => XS.icmpNo X9.here hx rfl (hb hby at_205) rfl (flt hc23).2.2.1 k) ?_
            show Wp p e below _ (T9.setTop (mkF m 208 #[.val (.int p0), .val (.int p1), .val (.int p2), .val (.int p3), .val (.int p4), .val (.int p5), .val (.int zw), .val (.int ze), .val (.int zs0), .val (.int zn0), .val (.int zs), .val (.int zn), .val (.int zx), .val (.int zy), .val (.ref b3), .val (.int jv15), .val (.int jv16), .val (.int jv17), .unset, .unset] []))
            refine Wp.step (fun t k => XS.iload X9.here hx rfl (hb hby at_208) rfl k) ?_
            show Wp p e below _ (T9.setTop (mkF m 210 #[.val (.int p0), .val (.int p1), .val (.int p2), .val (.int p3), .val (.int p4), .val (.int p5), .val (.int zw), .val (.int ze), .val (.int zs0), .val (.int zn0), .val (.int zs), .val (.int zn), .val (.int zx), .val (.int zy), .val (.ref b3), .val (.int jv15), .val (.int jv16), .val (.int jv17), .unset, .unset] [(.int zx)]))
            refine Wp.step (fun t k => XS.iload X9.here hx rfl (hb hby at_210) rfl k) ?_
            show Wp p e below _ (T9.setTop (mkF m 212 #[.val (.int p0), .val (.int p1), .val (.int p2), .val (.int p3), .val (.int p4), .val (.int p5), .val (.int zw), .val (.int ze), .val (.int zs0), .val (.int zn0), .val (.int zs), .val (.int zn), .val (.int zx), .val (.int zy), .val (.ref b3), .val (.int jv15), .val (.int jv16), .val (.int jv17), .unset, .unset] [(.int ze), (.int zx)]))
            by_cases hc24 : ze < zx
            · refine Wp.step (fun t k => XS.icmpYes X9.here hx rfl (pc0 := 212) (pc' := 219) rfl (hb hby at_212) rfl (tlt hc24).2.2.1 (by decide) (by decide) k) ?_
              show Wp p e below _ (T9.setTop (mkF m 219 #[.val (.int p0), .val (.int p1), .val (.int p2), .val (.int p3), .val (.int p4), .val (.int p5), .val (.int zw), .val (.int ze), .val (.int zs0), .val (.int zn0), .val (.int zs), .val (.int zn), .val (.int zx), .val (.int zy), .val (.ref b3), .val (.int jv15), .val (.int jv16), .val (.int jv17), .unset, .unset] []))
              refine Wp.step (fun t k => XS.iconst X9.here hx rfl (hb hby at_219) k) ?_
              show Wp p e below _ (T9.setTop (mkF m 220 #[.val (.int p0), .val (.int p1), .val (.int p2), .val (.int p3), .val (.int p4), .val (.int p5), .val (.int zw), .val (.int ze), .val (.int zs0), .val (.int zn0), .val (.int zs), .val (.int zn), .val (.int zx), .val (.int zy), .val (.ref b3), .val (.int jv15), .val (.int jv16), .val (.int jv17), .unset, .unset] [(.int (0 : Int32))]))
              refine Wp.step (fun t k => XS.istore X9.here hx rfl (hb hby at_220) rfl (l' := #[.val (.int p0), .val (.int p1), .val (.int p2), .val (.int p3), .val (.int p4), .val (.int p5), .val (.int zw), .val (.int ze), .val (.int zs0), .val (.int zn0), .val (.int zs), .val (.int zn), .val (.int zx), .val (.int zy), .val (.ref b3), .val (.int jv15), .val (.int jv16), .val (.int jv17), .val (.int (0 : Int32)), .unset]) rfl k) ?_
              show Wp p e below _ (T9.setTop (mkF m 222 #[.val (.int p0), .val (.int p1), .val (.int p2), .val (.int p3), .val (.int p4), .val (.int p5), .val (.int zw), .val (.int ze), .val (.int zs0), .val (.int zn0), .val (.int zs), .val (.int zn), .val (.int zx), .val (.int zy), .val (.ref b3), .val (.int jv15), .val (.int jv16), .val (.int jv17), .val (.int (0 : Int32)), .unset] []))
              exact kont14 (0 : Int32) ⟨fun _ => show ¬ (ze.toInt < zw.toInt ∧ -180 ≤ zx.toInt ∧ zx.toInt ≤ ze.toInt) from (by simp only [Int32.lt_iff_toInt_lt] at hc22 hc23 hc24; have k1 : (180 : Int32).toInt = 180 := (by decide); have k2 : (-180 : Int32).toInt = -180 := (by decide); omega), fun _ => rfl⟩
            · refine Wp.step (fun t k => XS.icmpNo X9.here hx rfl (hb hby at_212) rfl (flt hc24).2.2.1 k) ?_
              show Wp p e below _ (T9.setTop (mkF m 215 #[.val (.int p0), .val (.int p1), .val (.int p2), .val (.int p3), .val (.int p4), .val (.int p5), .val (.int zw), .val (.int ze), .val (.int zs0), .val (.int zn0), .val (.int zs), .val (.int zn), .val (.int zx), .val (.int zy), .val (.ref b3), .val (.int jv15), .val (.int jv16), .val (.int jv17), .unset, .unset] []))
              refine Wp.step (fun t k => XS.iconst X9.here hx rfl (hb hby at_215) k) ?_
              show Wp p e below _ (T9.setTop (mkF m 216 #[.val (.int p0), .val (.int p1), .val (.int p2), .val (.int p3), .val (.int p4), .val (.int p5), .val (.int zw), .val (.int ze), .val (.int zs0), .val (.int zn0), .val (.int zs), .val (.int zn), .val (.int zx), .val (.int zy), .val (.ref b3), .val (.int jv15), .val (.int jv16), .val (.int jv17), .unset, .unset] [(.int (1 : Int32))]))
              refine Wp.step (fun t k => XS.goto X9.here hx rfl (pc0 := 216) (pc' := 220) rfl (hb hby at_216) (by decide) (by decide) k) ?_
              show Wp p e below _ (T9.setTop (mkF m 220 #[.val (.int p0), .val (.int p1), .val (.int p2), .val (.int p3), .val (.int p4), .val (.int p5), .val (.int zw), .val (.int ze), .val (.int zs0), .val (.int zn0), .val (.int zs), .val (.int zn), .val (.int zx), .val (.int zy), .val (.ref b3), .val (.int jv15), .val (.int jv16), .val (.int jv17), .unset, .unset] [(.int (1 : Int32))]))
              refine Wp.step (fun t k => XS.istore X9.here hx rfl (hb hby at_220) rfl (l' := #[.val (.int p0), .val (.int p1), .val (.int p2), .val (.int p3), .val (.int p4), .val (.int p5), .val (.int zw), .val (.int ze), .val (.int zs0), .val (.int zn0), .val (.int zs), .val (.int zn), .val (.int zx), .val (.int zy), .val (.ref b3), .val (.int jv15), .val (.int jv16), .val (.int jv17), .val (.int (1 : Int32)), .unset]) rfl k) ?_
              show Wp p e below _ (T9.setTop (mkF m 222 #[.val (.int p0), .val (.int p1), .val (.int p2), .val (.int p3), .val (.int p4), .val (.int p5), .val (.int zw), .val (.int ze), .val (.int zs0), .val (.int zn0), .val (.int zs), .val (.int zn), .val (.int zx), .val (.int zy), .val (.ref b3), .val (.int jv15), .val (.int jv16), .val (.int jv17), .val (.int (1 : Int32)), .unset] []))
              exact kont14 (1 : Int32) ⟨fun q => absurd q (by decide), fun q => absurd (show (ze.toInt < zw.toInt ∧ -180 ≤ zx.toInt ∧ zx.toInt ≤ ze.toInt) from (by simp only [Int32.lt_iff_toInt_lt] at hc22 hc23 hc24; have k1 : (180 : Int32).toInt = 180 := (by decide); have k2 : (-180 : Int32).toInt = -180 := (by decide); omega)) q⟩
        · refine Wp.step (fun t k => XS.icmpYes X9.here hx rfl (pc0 := 197) (pc' := 219) rfl (hb hby at_197) rfl (flt hc22).2.2.2 (by decide) (by decide) k) ?_
          show Wp p e below _ (T9.setTop (mkF m 219 #[.val (.int p0), .val (.int p1), .val (.int p2), .val (.int p3), .val (.int p4), .val (.int p5), .val (.int zw), .val (.int ze), .val (.int zs0), .val (.int zn0), .val (.int zs), .val (.int zn), .val (.int zx), .val (.int zy), .val (.ref b3), .val (.int jv15), .val (.int jv16), .val (.int jv17), .unset, .unset] []))
          refine Wp.step (fun t k => XS.iconst X9.here hx rfl (hb hby at_219) k) ?_
          show Wp p e below _ (T9.setTop (mkF m 220 #[.val (.int p0), .val (.int p1), .val (.int p2), .val (.int p3), .val (.int p4), .val (.int p5), .val (.int zw), .val (.int ze), .val (.int zs0), .val (.int zn0), .val (.int zs), .val (.int zn), .val (.int zx), .val (.int zy), .val (.ref b3), .val (.int jv15), .val (.int jv16), .val (.int jv17), .unset, .unset] [(.int (0 : Int32))]))
          refine Wp.step (fun t k => XS.istore X9.here hx rfl (hb hby at_220) rfl (l' := #[.val (.int p0), .val (.int p1), .val (.int p2), .val (.int p3), .val (.int p4), .val (.int p5), .val (.int zw), .val (.int ze), .val (.int zs0), .val (.int zn0), .val (.int zs), .val (.int zn), .val (.int zx), .val (.int zy), .val (.ref b3), .val (.int jv15), .val (.int jv16), .val (.int jv17), .val (.int (0 : Int32)), .unset]) rfl k) ?_
          show Wp p e below _ (T9.setTop (mkF m 222 #[.val (.int p0), .val (.int p1), .val (.int p2), .val (.int p3), .val (.int p4), .val (.int p5), .val (.int zw), .val (.int ze), .val (.int zs0), .val (.int zn0), .val (.int zs), .val (.int zn), .val (.int zx), .val (.int zy), .val (.ref b3), .val (.int jv15), .val (.int jv16), .val (.int jv17), .val (.int (0 : Int32)), .unset] []))
          exact kont14 (0 : Int32) ⟨fun _ => show ¬ (ze.toInt < zw.toInt ∧ -180 ≤ zx.toInt ∧ zx.toInt ≤ ze.toInt) from (by simp only [Int32.lt_iff_toInt_lt] at hc22; have k1 : (180 : Int32).toInt = 180 := (by decide); have k2 : (-180 : Int32).toInt = -180 := (by decide); omega), fun _ => rfl⟩
      refine Wp.step (fun t k => XS.iload X9.here hx rfl (hb hby at_164) rfl k) ?_
      show Wp p e below _ (T9.setTop (mkF m 166 #[.val (.int p0), .val (.int p1), .val (.int p2), .val (.int p3), .val (.int p4), .val (.int p5), .val (.int zw), .val (.int ze), .val (.int zs0), .val (.int zn0), .val (.int zs), .val (.int zn), .val (.int zx), .val (.int zy), .val (.ref b3), .val (.int jv15), .val (.int jv16), .unset, .unset, .unset] [(.int zw)]))
      refine Wp.step (fun t k => XS.iload X9.here hx rfl (hb hby at_166) rfl k) ?_
      show Wp p e below _ (T9.setTop (mkF m 168 #[.val (.int p0), .val (.int p1), .val (.int p2), .val (.int p3), .val (.int p4), .val (.int p5), .val (.int zw), .val (.int ze), .val (.int zs0), .val (.int zn0), .val (.int zs), .val (.int zn), .val (.int zx), .val (.int zy), .val (.ref b3), .val (.int jv15), .val (.int jv16), .unset, .unset, .unset] [(.int ze), (.int zw)]))
      by_cases hc25 : ze < zw
      · refine Wp.step (fun t k => XS.icmpNo X9.here hx rfl (hb hby at_168) rfl (tlt hc25).2.2.2 k) ?_
        show Wp p e below _ (T9.setTop (mkF m 171 #[.val (.int p0), .val (.int p1), .val (.int p2), .val (.int p3), .val (.int p4), .val (.int p5), .val (.int zw), .val (.int ze), .val (.int zs0), .val (.int zn0), .val (.int zs), .val (.int zn), .val (.int zx), .val (.int zy), .val (.ref b3), .val (.int jv15), .val (.int jv16), .unset, .unset, .unset] []))
        refine Wp.step (fun t k => XS.iload X9.here hx rfl (hb hby at_171) rfl k) ?_
        show Wp p e below _ (T9.setTop (mkF m 173 #[.val (.int p0), .val (.int p1), .val (.int p2), .val (.int p3), .val (.int p4), .val (.int p5), .val (.int zw), .val (.int ze), .val (.int zs0), .val (.int zn0), .val (.int zs), .val (.int zn), .val (.int zx), .val (.int zy), .val (.ref b3), .val (.int jv15), .val (.int jv16), .unset, .unset, .unset] [(.int zw)]))
        refine Wp.step (fun t k => XS.iload X9.here hx rfl (hb hby at_173) rfl k) ?_
        show Wp p e below _ (T9.setTop (mkF m 175 #[.val (.int p0), .val (.int p1), .val (.int p2), .val (.int p3), .val (.int p4), .val (.int p5), .val (.int zw), .val (.int ze), .val (.int zs0), .val (.int zn0), .val (.int zs), .val (.int zn), .val (.int zx), .val (.int zy), .val (.ref b3), .val (.int jv15), .val (.int jv16), .unset, .unset, .unset] [(.int zx), (.int zw)]))
        by_cases hc26 : zx < zw
        · refine Wp.step (fun t k => XS.icmpYes X9.here hx rfl (pc0 := 175) (pc' := 190) rfl (hb hby at_175) rfl (tlt hc26).2.2.1 (by decide) (by decide) k) ?_
          show Wp p e below _ (T9.setTop (mkF m 190 #[.val (.int p0), .val (.int p1), .val (.int p2), .val (.int p3), .val (.int p4), .val (.int p5), .val (.int zw), .val (.int ze), .val (.int zs0), .val (.int zn0), .val (.int zs), .val (.int zn), .val (.int zx), .val (.int zy), .val (.ref b3), .val (.int jv15), .val (.int jv16), .unset, .unset, .unset] []))
          refine Wp.step (fun t k => XS.iconst X9.here hx rfl (hb hby at_190) k) ?_
          show Wp p e below _ (T9.setTop (mkF m 191 #[.val (.int p0), .val (.int p1), .val (.int p2), .val (.int p3), .val (.int p4), .val (.int p5), .val (.int zw), .val (.int ze), .val (.int zs0), .val (.int zn0), .val (.int zs), .val (.int zn), .val (.int zx), .val (.int zy), .val (.ref b3), .val (.int jv15), .val (.int jv16), .unset, .unset, .unset] [(.int (0 : Int32))]))
          refine Wp.step (fun t k => XS.istore X9.here hx rfl (hb hby at_191) rfl (l' := #[.val (.int p0), .val (.int p1), .val (.int p2), .val (.int p3), .val (.int p4), .val (.int p5), .val (.int zw), .val (.int ze), .val (.int zs0), .val (.int zn0), .val (.int zs), .val (.int zn), .val (.int zx), .val (.int zy), .val (.ref b3), .val (.int jv15), .val (.int jv16), .val (.int (0 : Int32)), .unset, .unset]) rfl k) ?_
          show Wp p e below _ (T9.setTop (mkF m 193 #[.val (.int p0), .val (.int p1), .val (.int p2), .val (.int p3), .val (.int p4), .val (.int p5), .val (.int zw), .val (.int ze), .val (.int zs0), .val (.int zn0), .val (.int zs), .val (.int zn), .val (.int zx), .val (.int zy), .val (.ref b3), .val (.int jv15), .val (.int jv16), .val (.int (0 : Int32)), .unset, .unset] []))
          exact kont13 (0 : Int32) ⟨fun _ => show ¬ (ze.toInt < zw.toInt ∧ zw.toInt ≤ zx.toInt ∧ zx.toInt ≤ 180) from (by simp only [Int32.lt_iff_toInt_lt] at hc25 hc26; have k1 : (180 : Int32).toInt = 180 := (by decide); have k2 : (-180 : Int32).toInt = -180 := (by decide); omega), fun _ => rfl⟩
        · refine Wp.step (fun t k => XS.icmpNo X9.here hx rfl (hb hby at_175) rfl (flt hc26).2.2.1 k) ?_
          show Wp p e below _ (T9.setTop (mkF m 178 #[.val (.int p0), .val (.int p1), .val (.int p2), .val (.int p3), .val (.int p4), .val (.int p5), .val (.int zw), .val (.int ze), .val (.int zs0), .val (.int zn0), .val (.int zs), .val (.int zn), .val (.int zx), .val (.int zy), .val (.ref b3), .val (.int jv15), .val (.int jv16), .unset, .unset, .unset] []))
          refine Wp.step (fun t k => XS.iload X9.here hx rfl (hb hby at_178) rfl k) ?_
          show Wp p e below _ (T9.setTop (mkF m 180 #[.val (.int p0), .val (.int p1), .val (.int p2), .val (.int p3), .val (.int p4), .val (.int p5), .val (.int zw), .val (.int ze), .val (.int zs0), .val (.int zn0), .val (.int zs), .val (.int zn), .val (.int zx), .val (.int zy), .val (.ref b3), .val (.int jv15), .val (.int jv16), .unset, .unset, .unset] [(.int zx)]))
          refine Wp.step (fun t k => XS.sipush X9.here hx rfl (hb hby at_180) k) ?_
          show Wp p e below _ (T9.setTop (mkF m 183 #[.val (.int p0), .val (.int p1), .val (.int p2), .val (.int p3), .val (.int p4), .val (.int p5), .val (.int zw), .val (.int ze), .val (.int zs0), .val (.int zn0), .val (.int zs), .val (.int zn), .val (.int zx), .val (.int zy), .val (.ref b3), .val (.int jv15), .val (.int jv16), .unset, .unset, .unset] [(.int (180 : Int32)), (.int zx)]))
          by_cases hc27 : (180 : Int32) < zx
          · refine Wp.step (fun t k => XS.icmpYes X9.here hx rfl (pc0 := 183) (pc' := 190) rfl (hb hby at_183) rfl (tlt hc27).2.2.1 (by decide) (by decide) k) ?_
            show Wp p e below _ (T9.setTop (mkF m 190 #[.val (.int p0), .val (.int p1), .val (.int p2), .val (.int p3), .val (.int p4), .val (.int p5), .val (.int zw), .val (.int ze), .val (.int zs0), .val (.int zn0), .val (.int zs), .val (.int zn), .val (.int zx), .val (.int zy), .val (.ref b3), .val (.int jv15), .val (.int jv16), .unset, .unset, .unset] []))
            refine Wp.step (fun t k => XS.iconst X9.here hx rfl (hb hby at_190) k) ?_
            show Wp p e below _ (T9.setTop (mkF m 191 #[.val (.int p0), .val (.int p1), .val (.int p2), .val (.int p3), .val (.int p4), .val (.int p5), .val (.int zw), .val (.int ze), .val (.int zs0), .val (.int zn0), .val (.int zs), .val (.int zn), .val (.int zx), .val (.int zy), .val (.ref b3), .val (.int jv15), .val (.int jv16), .unset, .unset, .unset] [(.int (0 : Int32))]))
            refine Wp.step (fun t k => XS.istore X9.here hx rfl (hb hby at_191) rfl (l' := #[.val (.int p0), .val (.int p1), .val (.int p2), .val (.int p3), .val (.int p4), .val (.int p5), .val (.int zw), .val (.int ze), .val (.int zs0), .val (.int zn0), .val (.int zs), .val (.int zn), .val (.int zx), .val (.int zy), .val (.ref b3), .val (.int jv15), .val (.int jv16), .val (.int (0 : Int32)), .unset, .unset]) rfl k) ?_
            show Wp p e below _ (T9.setTop (mkF m 193 #[.val (.int p0), .val (.int p1), .val (.int p2), .val (.int p3), .val (.int p4), .val (.int p5), .val (.int zw), .val (.int ze), .val (.int zs0), .val (.int zn0), .val (.int zs), .val (.int zn), .val (.int zx), .val (.int zy), .val (.ref b3), .val (.int jv15), .val (.int jv16), .val (.int (0 : Int32)), .unset, .unset] []))
            exact kont13 (0 : Int32) ⟨fun _ => show ¬ (ze.toInt < zw.toInt ∧ zw.toInt ≤ zx.toInt ∧ zx.toInt ≤ 180) from (by simp only [Int32.lt_iff_toInt_lt] at hc25 hc26 hc27; have k1 : (180 : Int32).toInt = 180 := (by decide); have k2 : (-180 : Int32).toInt = -180 := (by decide); omega), fun _ => rfl⟩
          · refine Wp.step (fun t k => XS.icmpNo X9.here hx rfl (hb hby at_183) rfl (flt hc27).2.2.1 k) ?_
            show Wp p e below _ (T9.setTop (mkF m 186 #[.val (.int p0), .val (.int p1), .val (.int p2), .val (.int p3), .val (.int p4), .val (.int p5), .val (.int zw), .val (.int ze), .val (.int zs0), .val (.int zn0), .val (.int zs), .val (.int zn), .val (.int zx), .val (.int zy), .val (.ref b3), .val (.int jv15), .val (.int jv16), .unset, .unset, .unset] []))
            refine Wp.step (fun t k => XS.iconst X9.here hx rfl (hb hby at_186) k) ?_
            show Wp p e below _ (T9.setTop (mkF m 187 #[.val (.int p0), .val (.int p1), .val (.int p2), .val (.int p3), .val (.int p4), .val (.int p5), .val (.int zw), .val (.int ze), .val (.int zs0), .val (.int zn0), .val (.int zs), .val (.int zn), .val (.int zx), .val (.int zy), .val (.ref b3), .val (.int jv15), .val (.int jv16), .unset, .unset, .unset] [(.int (1 : Int32))]))
            refine Wp.step (fun t k => XS.goto X9.here hx rfl (pc0 := 187) (pc' := 191) rfl (hb hby at_187) (by decide) (by decide) k) ?_
            show Wp p e below _ (T9.setTop (mkF m 191 #[.val (.int p0), .val (.int p1), .val (.int p2), .val (.int p3), .val (.int p4), .val (.int p5), .val (.int zw), .val (.int ze), .val (.int zs0), .val (.int zn0), .val (.int zs), .val (.int zn), .val (.int zx), .val (.int zy), .val (.ref b3), .val (.int jv15), .val (.int jv16), .unset, .unset, .unset] [(.int (1 : Int32))]))
            refine Wp.step (fun t k => XS.istore X9.here hx rfl (hb hby at_191) rfl (l' := #[.val (.int p0), .val (.int p1), .val (.int p2), .val (.int p3), .val (.int p4), .val (.int p5), .val (.int zw), .val (.int ze), .val (.int zs0), .val (.int zn0), .val (.int zs), .val (.int zn), .val (.int zx), .val (.int zy), .val (.ref b3), .val (.int jv15), .val (.int jv16), .val (.int (1 : Int32)), .unset, .unset]) rfl k) ?_
            show Wp p e below _ (T9.setTop (mkF m 193 #[.val (.int p0), .val (.int p1), .val (.int p2), .val (.int p3), .val (.int p4), .val (.int p5), .val (.int zw), .val (.int ze), .val (.int zs0), .val (.int zn0), .val (.int zs), .val (.int zn), .val (.int zx), .val (.int zy), .val (.ref b3), .val (.int jv15), .val (.int jv16), .val (.int (1 : Int32)), .unset, .unset] []))
            exact kont13 (1 : Int32) ⟨fun q => absurd q (by decide), fun q => absurd (show (ze.toInt < zw.toInt ∧ zw.toInt ≤ zx.toInt ∧ zx.toInt ≤ 180) from (by simp only [Int32.lt_iff_toInt_lt] at hc25 hc26 hc27; have k1 : (180 : Int32).toInt = 180 := (by decide); have k2 : (-180 : Int32).toInt = -180 := (by decide); omega)) q⟩
      · refine Wp.step (fun t k => XS.icmpYes X9.here hx rfl (pc0 := 168) (pc' := 190) rfl (hb hby at_168) rfl (flt hc25).2.2.2 (by decide) (by decide) k) ?_
        show Wp p e below _ (T9.setTop (mkF m 190 #[.val (.int p0), .val (.int p1), .val (.int p2), .val (.int p3), .val (.int p4), .val (.int p5), .val (.int zw), .val (.int ze), .val (.int zs0), .val (.int zn0), .val (.int zs), .val (.int zn), .val (.int zx), .val (.int zy), .val (.ref b3), .val (.int jv15), .val (.int jv16), .unset, .unset, .unset] []))
        refine Wp.step (fun t k => XS.iconst X9.here hx rfl (hb hby at_190) k) ?_
        show Wp p e below _ (T9.setTop (mkF m 191 #[.val (.int p0), .val (.int p1), .val (.int p2), .val (.int p3), .val (.int p4), .val (.int p5), .val (.int zw), .val (.int ze), .val (.int zs0), .val (.int zn0), .val (.int zs), .val (.int zn), .val (.int zx), .val (.int zy), .val (.ref b3), .val (.int jv15), .val (.int jv16), .unset, .unset, .unset] [(.int (0 : Int32))]))
        refine Wp.step (fun t k => XS.istore X9.here hx rfl (hb hby at_191) rfl (l' := #[.val (.int p0), .val (.int p1), .val (.int p2), .val (.int p3), .val (.int p4), .val (.int p5), .val (.int zw), .val (.int ze), .val (.int zs0), .val (.int zn0), .val (.int zs), .val (.int zn), .val (.int zx), .val (.int zy), .val (.ref b3), .val (.int jv15), .val (.int jv16), .val (.int (0 : Int32)), .unset, .unset]) rfl k) ?_
        show Wp p e below _ (T9.setTop (mkF m 193 #[.val (.int p0), .val (.int p1), .val (.int p2), .val (.int p3), .val (.int p4), .val (.int p5), .val (.int zw), .val (.int ze), .val (.int zs0), .val (.int zn0), .val (.int zs), .val (.int zn), .val (.int zx), .val (.int zy), .val (.ref b3), .val (.int jv15), .val (.int jv16), .val (.int (0 : Int32)), .unset, .unset] []))
        exact kont13 (0 : Int32) ⟨fun _ => show ¬ (ze.toInt < zw.toInt ∧ zw.toInt ≤ zx.toInt ∧ zx.toInt ≤ 180) from (by simp only [Int32.lt_iff_toInt_lt] at hc25; have k1 : (180 : Int32).toInt = 180 := (by decide); have k2 : (-180 : Int32).toInt = -180 := (by decide); omega), fun _ => rfl⟩
    refine Wp.step (fun t k => XS.iload X9.here hx rfl (hb hby at_143) rfl k) ?_
    show Wp p e below _ (T9.setTop (mkF m 145 #[.val (.int p0), .val (.int p1), .val (.int p2), .val (.int p3), .val (.int p4), .val (.int p5), .val (.int zw), .val (.int ze), .val (.int zs0), .val (.int zn0), .val (.int zs), .val (.int zn), .val (.int zx), .val (.int zy), .val (.ref b3), .val (.int jv15), .unset, .unset, .unset, .unset] [(.int zw)]))
    refine Wp.step (fun t k => XS.iload X9.here hx rfl (hb hby at_145) rfl k) ?_
    show Wp p e below _ (T9.setTop (mkF m 147 #[.val (.int p0), .val (.int p1), .val (.int p2), .val (.int p3), .val (.int p4), .val (.int p5), .val (.int zw), .val (.int ze), .val (.int zs0), .val (.int zn0), .val (.int zs), .val (.int zn), .val (.int zx), .val (.int zy), .val (.ref b3), .val (.int jv15), .unset, .unset, .unset, .unset] [(.int zx), (.int zw)]))
    by_cases hc28 : zx < zw
    · refine Wp.step (fun t k => XS.icmpYes X9.here hx rfl (pc0 := 147) (pc' := 161) rfl (hb hby at_147) rfl (tlt hc28).2.2.1 (by decide) (by decide) k) ?_
      show Wp p e below _ (T9.setTop (mkF m 161 #[.val (.int p0), .val (.int p1), .val (.int p2), .val (.int p3), .val (.int p4), .val (.int p5), .val (.int zw), .val (.int ze), .val (.int zs0), .val (.int zn0), .val (.int zs), .val (.int zn), .val (.int zx), .val (.int zy), .val (.ref b3), .val (.int jv15), .unset, .unset, .unset, .unset] []))
      refine Wp.step (fun t k => XS.iconst X9.here hx rfl (hb hby at_161) k) ?_
      show Wp p e below _ (T9.setTop (mkF m 162 #[.val (.int p0), .val (.int p1), .val (.int p2), .val (.int p3), .val (.int p4), .val (.int p5), .val (.int zw), .val (.int ze), .val (.int zs0), .val (.int zn0), .val (.int zs), .val (.int zn), .val (.int zx), .val (.int zy), .val (.ref b3), .val (.int jv15), .unset, .unset, .unset, .unset] [(.int (0 : Int32))]))
      refine Wp.step (fun t k => XS.istore X9.here hx rfl (hb hby at_162) rfl (l' := #[.val (.int p0), .val (.int p1), .val (.int p2), .val (.int p3), .val (.int p4), .val (.int p5), .val (.int zw), .val (.int ze), .val (.int zs0), .val (.int zn0), .val (.int zs), .val (.int zn), .val (.int zx), .val (.int zy), .val (.ref b3), .val (.int jv15), .val (.int (0 : Int32)), .unset, .unset, .unset]) rfl k) ?_
      show Wp p e below _ (T9.setTop (mkF m 164 #[.val (.int p0), .val (.int p1), .val (.int p2), .val (.int p3), .val (.int p4), .val (.int p5), .val (.int zw), .val (.int ze), .val (.int zs0), .val (.int zn0), .val (.int zs), .val (.int zn), .val (.int zx), .val (.int zy), .val (.ref b3), .val (.int jv15), .val (.int (0 : Int32)), .unset, .unset, .unset] []))
      exact kont12 (0 : Int32) ⟨fun _ => show ¬ (zw.toInt ≤ zx.toInt ∧ zx.toInt ≤ ze.toInt) from (by simp only [Int32.lt_iff_toInt_lt] at hc28; have k1 : (180 : Int32).toInt = 180 := (by decide); have k2 : (-180 : Int32).toInt = -180 := (by decide); omega), fun _ => rfl⟩
    · refine Wp.step (fun t k => XS.icmpNo X9.here hx rfl (hb hby at_147) rfl (flt hc28).2.2.1 k) ?_
      show Wp p e below _ (T9.setTop (mkF m 150 #[.val (.int p0), .val (.int p1), .val (.int p2), .val (.int p3), .val (.int p4), .val (.int p5), .val (.int zw), .val (.int ze), .val (.int zs0), .val (.int zn0), .val (.int zs), .val (.int zn), .val (.int zx), .val (.int zy), .val (.ref b3), .val (.int jv15), .unset, .unset, .unset, .unset] []))
      refine Wp.step (fun t k => XS.iload X9.here hx rfl (hb hby at_150) rfl k) ?_
      show Wp p e below _ (T9.setTop (mkF m 152 #[.val (.int p0), .val (.int p1), .val (.int p2), .val (.int p3), .val (.int p4), .val (.int p5), .val (.int zw), .val (.int ze), .val (.int zs0), .val (.int zn0), .val (.int zs), .val (.int zn), .val (.int zx), .val (.int zy), .val (.ref b3), .val (.int jv15), .unset, .unset, .unset, .unset] [(.int zx)]))
      refine Wp.step (fun t k => XS.iload X9.here hx rfl (hb hby at_152) rfl k) ?_
      show Wp p e below _ (T9.setTop (mkF m 154 #[.val (.int p0), .val (.int p1), .val (.int p2), .val (.int p3), .val (.int p4), .val (.int p5), .val (.int zw), .val (.int ze), .val (.int zs0), .val (.int zn0), .val (.int zs), .val (.int zn), .val (.int zx), .val (.int zy), .val (.ref b3), .val (.int jv15), .unset, .unset, .unset, .unset] [(.int ze), (.int zx)]))
      by_cases hc29 : ze < zx
      · refine Wp.step (fun t k => XS.icmpYes X9.here hx rfl (pc0 := 154) (pc' := 161) rfl (hb hby at_154) rfl (tlt hc29).2.2.1 (by decide) (by decide) k) ?_
        show Wp p e below _ (T9.setTop (mkF m 161 #[.val (.int p0), .val (.int p1), .val (.int p2), .val (.int p3), .val (.int p4), .val (.int p5), .val (.int zw), .val (.int ze), .val (.int zs0), .val (.int zn0), .val (.int zs), .val (.int zn), .val (.int zx), .val (.int zy), .val (.ref b3), .val (.int jv15), .unset, .unset, .unset, .unset] []))
        refine Wp.step (fun t k => XS.iconst X9.here hx rfl (hb hby at_161) k) ?_
        show Wp p e below _ (T9.setTop (mkF m 162 #[.val (.int p0), .val (.int p1), .val (.int p2), .val (.int p3), .val (.int p4), .val (.int p5), .val (.int zw), .val (.int ze), .val (.int zs0), .val (.int zn0), .val (.int zs), .val (.int zn), .val (.int zx), .val (.int zy), .val (.ref b3), .val (.int jv15), .unset, .unset, .unset, .unset] [(.int (0 : Int32))]))
        refine Wp.step (fun t k => XS.istore X9.here hx rfl (hb hby at_162) rfl (l' := #[.val (.int p0), .val (.int p1), .val (.int p2), .val (.int p3), .val (.int p4), .val (.int p5), .val (.int zw), .val (.int ze), .val (.int zs0), .val (.int zn0), .val (.int zs), .val (.int zn), .val (.int zx), .val (.int zy), .val (.ref b3), .val (.int jv15), .val (.int (0 : Int32)), .unset, .unset, .unset]) rfl k) ?_
        show Wp p e below _ (T9.setTop (mkF m 164 #[.val (.int p0), .val (.int p1), .val (.int p2), .val (.int p3), .val (.int p4), .val (.int p5), .val (.int zw), .val (.int ze), .val (.int zs0), .val (.int zn0), .val (.int zs), .val (.int zn), .val (.int zx), .val (.int zy), .val (.ref b3), .val (.int jv15), .val (.int (0 : Int32)), .unset, .unset, .unset] []))
        exact kont12 (0 : Int32) ⟨fun _ => show ¬ (zw.toInt ≤ zx.toInt ∧ zx.toInt ≤ ze.toInt) from (by simp only [Int32.lt_iff_toInt_lt] at hc28 hc29; have k1 : (180 : Int32).toInt = 180 := (by decide); have k2 : (-180 : Int32).toInt = -180 := (by decide); omega), fun _ => rfl⟩
      · refine Wp.step (fun t k => XS.icmpNo X9.here hx rfl (hb hby at_154) rfl (flt hc29).2.2.1 k) ?_
        show Wp p e below _ (T9.setTop (mkF m 157 #[.val (.int p0), .val (.int p1), .val (.int p2), .val (.int p3), .val (.int p4), .val (.int p5), .val (.int zw), .val (.int ze), .val (.int zs0), .val (.int zn0), .val (.int zs), .val (.int zn), .val (.int zx), .val (.int zy), .val (.ref b3), .val (.int jv15), .unset, .unset, .unset, .unset] []))
        refine Wp.step (fun t k => XS.iconst X9.here hx rfl (hb hby at_157) k) ?_
        show Wp p e below _ (T9.setTop (mkF m 158 #[.val (.int p0), .val (.int p1), .val (.int p2), .val (.int p3), .val (.int p4), .val (.int p5), .val (.int zw), .val (.int ze), .val (.int zs0), .val (.int zn0), .val (.int zs), .val (.int zn), .val (.int zx), .val (.int zy), .val (.ref b3), .val (.int jv15), .unset, .unset, .unset, .unset] [(.int (1 : Int32))]))
        refine Wp.step (fun t k => XS.goto X9.here hx rfl (pc0 := 158) (pc' := 162) rfl (hb hby at_158) (by decide) (by decide) k) ?_
        show Wp p e below _ (T9.setTop (mkF m 162 #[.val (.int p0), .val (.int p1), .val (.int p2), .val (.int p3), .val (.int p4), .val (.int p5), .val (.int zw), .val (.int ze), .val (.int zs0), .val (.int zn0), .val (.int zs), .val (.int zn), .val (.int zx), .val (.int zy), .val (.ref b3), .val (.int jv15), .unset, .unset, .unset, .unset] [(.int (1 : Int32))]))
        refine Wp.step (fun t k => XS.istore X9.here hx rfl (hb hby at_162) rfl (l' := #[.val (.int p0), .val (.int p1), .val (.int p2), .val (.int p3), .val (.int p4), .val (.int p5), .val (.int zw), .val (.int ze), .val (.int zs0), .val (.int zn0), .val (.int zs), .val (.int zn), .val (.int zx), .val (.int zy), .val (.ref b3), .val (.int jv15), .val (.int (1 : Int32)), .unset, .unset, .unset]) rfl k) ?_
        show Wp p e below _ (T9.setTop (mkF m 164 #[.val (.int p0), .val (.int p1), .val (.int p2), .val (.int p3), .val (.int p4), .val (.int p5), .val (.int zw), .val (.int ze), .val (.int zs0), .val (.int zn0), .val (.int zs), .val (.int zn), .val (.int zx), .val (.int zy), .val (.ref b3), .val (.int jv15), .val (.int (1 : Int32)), .unset, .unset, .unset] []))
        exact kont12 (1 : Int32) ⟨fun q => absurd q (by decide), fun q => absurd (show (zw.toInt ≤ zx.toInt ∧ zx.toInt ≤ ze.toInt) from (by simp only [Int32.lt_iff_toInt_lt] at hc28 hc29; have k1 : (180 : Int32).toInt = 180 := (by decide); have k2 : (-180 : Int32).toInt = -180 := (by decide); omega)) q⟩
  refine Wp.step (fun t k => XS.iload X9.here hx rfl (hb hby at_122) rfl k) ?_
  show Wp p e below _ (T9.setTop (mkF m 124 #[.val (.int p0), .val (.int p1), .val (.int p2), .val (.int p3), .val (.int p4), .val (.int p5), .val (.int zw), .val (.int ze), .val (.int zs0), .val (.int zn0), .val (.int zs), .val (.int zn), .val (.int zx), .val (.int zy), .val (.ref b3), .unset, .unset, .unset, .unset, .unset] [(.int zs)]))
  refine Wp.step (fun t k => XS.iload X9.here hx rfl (hb hby at_124) rfl k) ?_
  show Wp p e below _ (T9.setTop (mkF m 126 #[.val (.int p0), .val (.int p1), .val (.int p2), .val (.int p3), .val (.int p4), .val (.int p5), .val (.int zw), .val (.int ze), .val (.int zs0), .val (.int zn0), .val (.int zs), .val (.int zn), .val (.int zx), .val (.int zy), .val (.ref b3), .unset, .unset, .unset, .unset, .unset] [(.int zy), (.int zs)]))
  by_cases hc30 : zy < zs
  · refine Wp.step (fun t k => XS.icmpYes X9.here hx rfl (pc0 := 126) (pc' := 140) rfl (hb hby at_126) rfl (tlt hc30).2.2.1 (by decide) (by decide) k) ?_
    show Wp p e below _ (T9.setTop (mkF m 140 #[.val (.int p0), .val (.int p1), .val (.int p2), .val (.int p3), .val (.int p4), .val (.int p5), .val (.int zw), .val (.int ze), .val (.int zs0), .val (.int zn0), .val (.int zs), .val (.int zn), .val (.int zx), .val (.int zy), .val (.ref b3), .unset, .unset, .unset, .unset, .unset] []))
    refine Wp.step (fun t k => XS.iconst X9.here hx rfl (hb hby at_140) k) ?_
    show Wp p e below _ (T9.setTop (mkF m 141 #[.val (.int p0), .val (.int p1), .val (.int p2), .val (.int p3), .val (.int p4), .val (.int p5), .val (.int zw), .val (.int ze), .val (.int zs0), .val (.int zn0), .val (.int zs), .val (.int zn), .val (.int zx), .val (.int zy), .val (.ref b3), .unset, .unset, .unset, .unset, .unset] [(.int (0 : Int32))]))
    refine Wp.step (fun t k => XS.istore X9.here hx rfl (hb hby at_141) rfl (l' := #[.val (.int p0), .val (.int p1), .val (.int p2), .val (.int p3), .val (.int p4), .val (.int p5), .val (.int zw), .val (.int ze), .val (.int zs0), .val (.int zn0), .val (.int zs), .val (.int zn), .val (.int zx), .val (.int zy), .val (.ref b3), .val (.int (0 : Int32)), .unset, .unset, .unset, .unset]) rfl k) ?_
    show Wp p e below _ (T9.setTop (mkF m 143 #[.val (.int p0), .val (.int p1), .val (.int p2), .val (.int p3), .val (.int p4), .val (.int p5), .val (.int zw), .val (.int ze), .val (.int zs0), .val (.int zn0), .val (.int zs), .val (.int zn), .val (.int zx), .val (.int zy), .val (.ref b3), .val (.int (0 : Int32)), .unset, .unset, .unset, .unset] []))
    exact kont11 (0 : Int32) ⟨fun _ => show ¬ (zs.toInt ≤ zy.toInt ∧ zy.toInt ≤ zn.toInt) from (by simp only [Int32.lt_iff_toInt_lt] at hc30; have k1 : (180 : Int32).toInt = 180 := (by decide); have k2 : (-180 : Int32).toInt = -180 := (by decide); omega), fun _ => rfl⟩
  · refine Wp.step (fun t k => XS.icmpNo X9.here hx rfl (hb hby at_126) rfl (flt hc30).2.2.1 k) ?_
    show Wp p e below _ (T9.setTop (mkF m 129 #[.val (.int p0), .val (.int p1), .val (.int p2), .val (.int p3), .val (.int p4), .val (.int p5), .val (.int zw), .val (.int ze), .val (.int zs0), .val (.int zn0), .val (.int zs), .val (.int zn), .val (.int zx), .val (.int zy), .val (.ref b3), .unset, .unset, .unset, .unset, .unset] []))
    refine Wp.step (fun t k => XS.iload X9.here hx rfl (hb hby at_129) rfl k) ?_
    show Wp p e below _ (T9.setTop (mkF m 131 #[.val (.int p0), .val (.int p1), .val (.int p2), .val (.int p3), .val (.int p4), .val (.int p5), .val (.int zw), .val (.int ze), .val (.int zs0), .val (.int zn0), .val (.int zs), .val (.int zn), .val (.int zx), .val (.int zy), .val (.ref b3), .unset, .unset, .unset, .unset, .unset] [(.int zy)]))
    refine Wp.step (fun t k => XS.iload X9.here hx rfl (hb hby at_131) rfl k) ?_
    show Wp p e below _ (T9.setTop (mkF m 133 #[.val (.int p0), .val (.int p1), .val (.int p2), .val (.int p3), .val (.int p4), .val (.int p5), .val (.int zw), .val (.int ze), .val (.int zs0), .val (.int zn0), .val (.int zs), .val (.int zn), .val (.int zx), .val (.int zy), .val (.ref b3), .unset, .unset, .unset, .unset, .unset] [(.int zn), (.int zy)]))
    by_cases hc31 : zn < zy
    · refine Wp.step (fun t k => XS.icmpYes X9.here hx rfl (pc0 := 133) (pc' := 140) rfl (hb hby at_133) rfl (tlt hc31).2.2.1 (by decide) (by decide) k) ?_
      show Wp p e below _ (T9.setTop (mkF m 140 #[.val (.int p0), .val (.int p1), .val (.int p2), .val (.int p3), .val (.int p4), .val (.int p5), .val (.int zw), .val (.int ze), .val (.int zs0), .val (.int zn0), .val (.int zs), .val (.int zn), .val (.int zx), .val (.int zy), .val (.ref b3), .unset, .unset, .unset, .unset, .unset] []))
      refine Wp.step (fun t k => XS.iconst X9.here hx rfl (hb hby at_140) k) ?_
      show Wp p e below _ (T9.setTop (mkF m 141 #[.val (.int p0), .val (.int p1), .val (.int p2), .val (.int p3), .val (.int p4), .val (.int p5), .val (.int zw), .val (.int ze), .val (.int zs0), .val (.int zn0), .val (.int zs), .val (.int zn), .val (.int zx), .val (.int zy), .val (.ref b3), .unset, .unset, .unset, .unset, .unset] [(.int (0 : Int32))]))
      refine Wp.step (fun t k => XS.istore X9.here hx rfl (hb hby at_141) rfl (l' := #[.val (.int p0), .val (.int p1), .val (.int p2), .val (.int p3), .val (.int p4), .val (.int p5), .val (.int zw), .val (.int ze), .val (.int zs0), .val (.int zn0), .val (.int zs), .val (.int zn), .val (.int zx), .val (.int zy), .val (.ref b3), .val (.int (0 : Int32)), .unset, .unset, .unset, .unset]) rfl k) ?_
      show Wp p e below _ (T9.setTop (mkF m 143 #[.val (.int p0), .val (.int p1), .val (.int p2), .val (.int p3), .val (.int p4), .val (.int p5), .val (.int zw), .val (.int ze), .val (.int zs0), .val (.int zn0), .val (.int zs), .val (.int zn), .val (.int zx), .val (.int zy), .val (.ref b3), .val (.int (0 : Int32)), .unset, .unset, .unset, .unset] []))
      exact kont11 (0 : Int32) ⟨fun _ => show ¬ (zs.toInt ≤ zy.toInt ∧ zy.toInt ≤ zn.toInt) from (by simp only [Int32.lt_iff_toInt_lt] at hc30 hc31; have k1 : (180 : Int32).toInt = 180 := (by decide); have k2 : (-180 : Int32).toInt = -180 := (by decide); omega), fun _ => rfl⟩
    · refine Wp.step (fun t k => XS.icmpNo X9.here hx rfl (hb hby at_133) rfl (flt hc31).2.2.1 k) ?_
      show Wp p e below _ (T9.setTop (mkF m 136 #[.val (.int p0), .val (.int p1), .val (.int p2), .val (.int p3), .val (.int p4), .val (.int p5), .val (.int zw), .val (.int ze), .val (.int zs0), .val (.int zn0), .val (.int zs), .val (.int zn), .val (.int zx), .val (.int zy), .val (.ref b3), .unset, .unset, .unset, .unset, .unset] []))
      refine Wp.step (fun t k => XS.iconst X9.here hx rfl (hb hby at_136) k) ?_
      show Wp p e below _ (T9.setTop (mkF m 137 #[.val (.int p0), .val (.int p1), .val (.int p2), .val (.int p3), .val (.int p4), .val (.int p5), .val (.int zw), .val (.int ze), .val (.int zs0), .val (.int zn0), .val (.int zs), .val (.int zn), .val (.int zx), .val (.int zy), .val (.ref b3), .unset, .unset, .unset, .unset, .unset] [(.int (1 : Int32))]))
      refine Wp.step (fun t k => XS.goto X9.here hx rfl (pc0 := 137) (pc' := 141) rfl (hb hby at_137) (by decide) (by decide) k) ?_
      show Wp p e below _ (T9.setTop (mkF m 141 #[.val (.int p0), .val (.int p1), .val (.int p2), .val (.int p3), .val (.int p4), .val (.int p5), .val (.int zw), .val (.int ze), .val (.int zs0), .val (.int zn0), .val (.int zs), .val (.int zn), .val (.int zx), .val (.int zy), .val (.ref b3), .unset, .unset, .unset, .unset, .unset] [(.int (1 : Int32))]))
      refine Wp.step (fun t k => XS.istore X9.here hx rfl (hb hby at_141) rfl (l' := #[.val (.int p0), .val (.int p1), .val (.int p2), .val (.int p3), .val (.int p4), .val (.int p5), .val (.int zw), .val (.int ze), .val (.int zs0), .val (.int zn0), .val (.int zs), .val (.int zn), .val (.int zx), .val (.int zy), .val (.ref b3), .val (.int (1 : Int32)), .unset, .unset, .unset, .unset]) rfl k) ?_
      show Wp p e below _ (T9.setTop (mkF m 143 #[.val (.int p0), .val (.int p1), .val (.int p2), .val (.int p3), .val (.int p4), .val (.int p5), .val (.int zw), .val (.int ze), .val (.int zs0), .val (.int zn0), .val (.int zs), .val (.int zn), .val (.int zx), .val (.int zy), .val (.ref b3), .val (.int (1 : Int32)), .unset, .unset, .unset, .unset] []))
      exact kont11 (1 : Int32) ⟨fun q => absurd q (by decide), fun q => absurd (show (zs.toInt ≤ zy.toInt ∧ zy.toInt ≤ zn.toInt) from (by simp only [Int32.lt_iff_toInt_lt] at hc30 hc31; have k1 : (180 : Int32).toInt = 180 := (by decide); have k2 : (-180 : Int32).toInt = -180 := (by decide); omega)) q⟩
set_option maxRecDepth 65536 in
set_option maxHeartbeats 40000000 in
theorem comes_1 {Post : Tables → Env → Array Value → State → Outcome → State → Prop} (hpost : ∀ tb e args s v u, (limb_1_1.after args s (.returned v) u = true ∧ limb_1_2.after args s (.returned v) u = true ∧ True) → FrameEnd s (.returned v) u (Jvm.fieldLocs frame_1_writes args s ++ Jvm.arrayLocs frame_1_arrays args s ++ Jvm.staticLocs frame_1_statics s) 16 128 → Post tb e args s (.returned v) u) :
    ArmFor flags0 classFile x code maxLocals ret World_1 tables_1 room_1 Calls_1 rest_1 Pre_1 Post := by
  intro l hfl _ _ p e ha hc hk s m args below hf hA hF happ hP
  obtain ⟨hcalls, hrest, hpre⟩ := hP
  obtain ⟨-, -, -, hnamed, -, -, -, hat⟩ := (Spec.applies_iff hf).mp happ
  obtain ⟨hg, hn⟩ := and_e (Cond.before_iff.mp (show (Jvm.Cond.and given_1 narrow_1).before args s = true from hpre))
  obtain ⟨hcnt, hr0⟩ := and_e hg
  obtain ⟨hi0, hr1⟩ := and_e hr0
  obtain ⟨hi1, hr2⟩ := and_e hr1
  obtain ⟨hi2, hr3⟩ := and_e hr2
  obtain ⟨hi3, hr4⟩ := and_e hr3
  obtain ⟨hi4, hi5⟩ := and_e hr4
  obtain ⟨w0, w1, w2, w3, w4, w5, rfl⟩ : ∃ w0 w1 w2 w3 w4 w5 : Value, args = #[w0, w1, w2, w3, w4, w5] := by
    have hs : args.size = 6 := by simpa [Cond.value, given_1] using hcnt
    obtain ⟨L⟩ := args
    match L, hs with
    | [w0, w1, w2, w3, w4, w5], _ => exact ⟨w0, w1, w2, w3, w4, w5, rfl⟩
  have hw := fun d (hd : d ∈ tables_1) => atoms_spec (ws := Jvm.Cond.code x code maxLocals ret :: tables_1) hat d (List.mem_cons_of_mem _ hd)
  have hfit : Fit s := fun {y c} hc i hi => by
    obtain ⟨ha, rfl⟩ := Array.getElem?_eq_some_iff.mp hc
    have q := List.all_eq_true.mp ((Array.all_eq_true_iff_forall_mem.mp hF) _ (Array.getElem_mem ha)) i (List.mem_range.mpr hi)
    simpa [Array.getElem?_eq_getElem hi] using q
  obtain ⟨i0, ei0⟩ := is_v hi0
  obtain rfl : w0 = (.int i0) := Option.some.inj ei0
  obtain ⟨i1, ei1⟩ := is_v hi1
  obtain rfl : w1 = (.int i1) := Option.some.inj ei1
  obtain ⟨i2, ei2⟩ := is_v hi2
  obtain rfl : w2 = (.int i2) := Option.some.inj ei2
  obtain ⟨i3, ei3⟩ := is_v hi3
  obtain rfl : w3 = (.int i3) := Option.some.inj ei3
  obtain ⟨i4, ei4⟩ := is_v hi4
  obtain rfl : w4 = (.int i4) := Option.some.inj ei4
  obtain ⟨i5, ei5⟩ := is_v hi5
  obtain rfl : w5 = (.int i5) := Option.some.inj ei5
  obtain ⟨n, o, h1, h2, h3, _, L, rfl, ⟨rfl, N⟩, hq⟩ := rm0 l s _ hw tables_1 i0 i1 i2 i3 i4 i5 s.heap s.heap.size (Nat.le_refl _)  p e ha hc hk s m _ below hf ((Spec.applies_iff_loose hf).mp happ).1 ⟨rfl, State.Warmed39.refl s, rfl⟩ trivial
  refine ⟨n, _, h1, h2, h3, hpost _ _ _ _ _ _ ⟨Cond.after_iff.mpr rfl, Cond.after_iff.mpr (eq_i res_at (Term.int_eval (1)) rfl), trivial⟩ ⟨hq.1, hq.2.1, (hq.2.2.sift fun y hy => Or.inr (N y hy)).mono (by decide) (by decide)⟩⟩
theorem main_1_1 : Claimed_1_1 := comes_1 fun _ _ _ _ _ _ h hF => ⟨h.1, hF⟩
theorem main_1_2 : Claimed_1_2 := comes_1 fun _ _ _ _ _ _ h hF => ⟨h.2.1, hF⟩
end Jvm.Pilot.@@N@@
namespace Jvm.Pilot.@@N@@
open Jvm Jvm.ClassFile Sem Op Lib Jvm.Free Jvm.Stand Jvm.Pilot.@@N@@.Jvm.D
/-! MADE BY PROGRAM (witnessworld.py) out of the Statement's table words and the real class files: 13 classes; the members and pool entries that the words name. The judged class is class 1, her method 1. -/
namespace start1
open Jvm.ClassFile
def u (s : String) : CpInfo := .utf8 (stringToUtf16 s)
/-- a pool by its gaps: so many unusable entries, then the entry; so many at the end -/
def gap : Nat → List CpInfo → List CpInfo
  | 0, r => r
  | n + 1, r => .unusable :: gap n r
def poolList (es : List (Nat × CpInfo)) (last : Nat) : List CpInfo := es.foldr (fun e r => gap e.1 (e.2 :: r)) (gap last [])
def pool (es : List (Nat × CpInfo)) (last : Nat) : Array CpInfo := ⟨poolList es last⟩
def fileOf (pool : Array CpInfo) (this : Nat) (attrs : Array Attribute := #[]) (ms : Array MethodInfo := #[]) (fl : Nat := 33) (sup : Nat := 0) (ifs : Array Nat := #[]) (fds : Array FieldInfo := #[]) : ClassFile where
  minorVersion := 0
  majorVersion := 65
  constantPool := pool
  accessFlags := fl
  thisClass := this
  superClass := sup
  interfaces := ifs
  fields := fds
  methods := ms
  attributes := attrs
def plain (name : String) (sup : Option ClassId) : Class where
  name := name
  kind := .ordinary
  loader := none
  accessFlags := 33
  super := sup
  interfaces := #[]
  cf := none
  fields := #[]
  methods := #[]
  instanceTypes := #[]
  staticTypes := #[]
  resolved := #[]
  callSites := []
  init := .initialized
  statics := none
  mirror := none

def pool0 : Array CpInfo := pool [(5, u "<init>"), (0, u "()V"), (1, .class_ 10), (1, u "java/lang/Object")] 113

def k0c0 : Code := { maxStack := 0, maxLocals := 1, code := object_method_1_code, exceptionTable := #[], attributes := #[] }
def k0m0 : Method := { name := "<init>", desc := "()V", sig := { parameters := [], returnType := none }, accessFlags := 1, code := some k0c0 }
/-- java/lang/Object -/
def k0 : Class := { plain "java/lang/Object" none with
  accessFlags := 33
  interfaces := #[]
  cf := some (fileOf pool0 8 #[] #[{ accessFlags := 1, nameIndex := 5, descriptorIndex := 6, attributes := #[] }] 33 0 #[] #[])
  fields := #[]
  methods := #[k0m0]
  instanceTypes := #[]
  staticTypes := #[]
  resolved := Array.replicate 124 none
  statics := none }

def pool1 : Array CpInfo := pool [(2, .class_ 4), (1, u "java/lang/Object"), (0, u "<init>"), (0, u "()V"), (0, .integer 2147483647), (0, .methodref 9 10), (0, .class_ 11), (0, .nameAndType 12 13), (0, u "java/lang/Math"), (0, u "min"), (0, u "(II)I"), (0, .methodref 9 15), (0, .nameAndType 16 13), (0, u "max"), (0, .class_ 18), (0, u "com/example/luoshu/luoshu/query/Box"), (0, .methodref 17 20), (0, .nameAndType 5 21), (0, u "(DDDD)V"), (0, .methodref 17 23), (0, .nameAndType 24 25), (0, u "contains"), (0, u "(DD)Z"), (0, .class_ 27), (0, u "com/example/luoshu/luoshu/query/BoxContainsPinLaw"), (2, u "law"), (0, u "(IIIIII)Z")] 3

def k1m0 : Method := { name := "<init>", desc := "()V", sig := { parameters := [], returnType := none }, accessFlags := 1, code := none }
def k1c1 : Code := { maxStack := 10, maxLocals := 20, code := code, exceptionTable := #[], attributes := #[] }
def k1m1 : Method := { name := "law", desc := "(IIIIII)Z", sig := { parameters := [.int, .int, .int, .int, .int, .int], returnType := some .boolean }, accessFlags := 9, code := some k1c1 }
/-- com/example/luoshu/luoshu/query/BoxContainsPinLaw -/
def k1 : Class := { plain "com/example/luoshu/luoshu/query/BoxContainsPinLaw" (some 0) with
  accessFlags := 49
  interfaces := #[]
  cf := some (fileOf pool1 26 #[] #[{ accessFlags := 1, nameIndex := 5, descriptorIndex := 6, attributes := #[] }, { accessFlags := 9, nameIndex := 30, descriptorIndex := 31, attributes := #[] }] 49 2 #[] #[])
  fields := #[]
  methods := #[k1m0, k1m1]
  instanceTypes := #[]
  staticTypes := #[]
  resolved := Array.replicate 35 none
  statics := none }

def pool2 : Array CpInfo := pool [(1, .class_ 2), (0, u "java/lang/Math"), (1, .class_ 6), (1, u "java/lang/Object"), (0, u "<init>"), (0, u "()V"), (89, .class_ 100), (1, u "java/lang/Math$RandomNumberGeneratorHolder"), (71, u "negativeZeroFloatBits"), (0, u "J"), (2, u "negativeZeroDoubleBits"), (21, u "max"), (2, u "min"), (43, u "$assertionsDisabled"), (0, u "Z"), (88, u "(II)I"), (2, u "twoToTheDoubleScaleDown"), (0, u "D"), (4, u "twoToTheDoubleScaleUp"), (9, u "E"), (3, u "PI"), (2, u "TAU"), (2, u "DEGREES_TO_RADIANS"), (0, u "RADIANS_TO_DEGREES")] 94

def k2m0 : Method := { name := "<init>", desc := "()V", sig := { parameters := [], returnType := none }, accessFlags := 2, code := none }
def k2c1 : Code := { maxStack := 2, maxLocals := 2, code := jdk_29_method_65_code, exceptionTable := #[], attributes := #[] }
def k2m1 : Method := { name := "max", desc := "(II)I", sig := { parameters := [.int, .int], returnType := some .int }, accessFlags := 9, code := some k2c1 }
def k2c2 : Code := { maxStack := 2, maxLocals := 2, code := jdk_29_method_69_code, exceptionTable := #[], attributes := #[] }
def k2m2 : Method := { name := "min", desc := "(II)I", sig := { parameters := [.int, .int], returnType := some .int }, accessFlags := 9, code := some k2c2 }
/-- java/lang/Math -/
def k2 : Class := { plain "java/lang/Math" (some 0) with
  accessFlags := 49
  interfaces := #[]
  cf := some (fileOf pool2 1 #[.nestMembers #[98]] #[{ accessFlags := 2, nameIndex := 7, descriptorIndex := 8, attributes := #[] }, { accessFlags := 9, nameIndex := 198, descriptorIndex := 335, attributes := #[] }, { accessFlags := 9, nameIndex := 201, descriptorIndex := 335, attributes := #[] }] 49 4 #[] #[{ accessFlags := 25, nameIndex := 354, descriptorIndex := 339, attributes := #[] }, { accessFlags := 25, nameIndex := 358, descriptorIndex := 339, attributes := #[] }, { accessFlags := 25, nameIndex := 361, descriptorIndex := 339, attributes := #[] }, { accessFlags := 26, nameIndex := 364, descriptorIndex := 339, attributes := #[] }, { accessFlags := 26, nameIndex := 365, descriptorIndex := 339, attributes := #[] }, { accessFlags := 26, nameIndex := 172, descriptorIndex := 173, attributes := #[] }, { accessFlags := 26, nameIndex := 176, descriptorIndex := 173, attributes := #[] }, { accessFlags := 8, nameIndex := 344, descriptorIndex := 339, attributes := #[] }, { accessFlags := 8, nameIndex := 338, descriptorIndex := 339, attributes := #[] }, { accessFlags := 4120, nameIndex := 245, descriptorIndex := 246, attributes := #[] }])
  fields := #[{ name := "E", type := .double, accessFlags := 25, slot := 0, constantValue := 0 }, { name := "PI", type := .double, accessFlags := 25, slot := 1, constantValue := 0 }, { name := "TAU", type := .double, accessFlags := 25, slot := 2, constantValue := 0 }, { name := "DEGREES_TO_RADIANS", type := .double, accessFlags := 26, slot := 3, constantValue := 0 }, { name := "RADIANS_TO_DEGREES", type := .double, accessFlags := 26, slot := 4, constantValue := 0 }, { name := "negativeZeroFloatBits", type := .long, accessFlags := 26, slot := 5, constantValue := 0 }, { name := "negativeZeroDoubleBits", type := .long, accessFlags := 26, slot := 6, constantValue := 0 }, { name := "twoToTheDoubleScaleUp", type := .double, accessFlags := 8, slot := 7, constantValue := 0 }, { name := "twoToTheDoubleScaleDown", type := .double, accessFlags := 8, slot := 8, constantValue := 0 }, { name := "$assertionsDisabled", type := .boolean, accessFlags := 4120, slot := 9, constantValue := 0 }]
  methods := #[k2m0, k2m1, k2m2]
  instanceTypes := #[]
  staticTypes := #[.double, .double, .double, .double, .double, .long, .long, .double, .double, .boolean]
  resolved := Array.replicate 460 none
  statics := none }

def pool3 : Array CpInfo := pool [(1, .methodref 2 3), (0, .class_ 4), (0, .nameAndType 5 6), (0, u "java/lang/Object"), (0, u "<init>"), (0, u "()V"), (0, .class_ 8), (0, u "java/lang/Record")] 13

def k3c0 : Code := { maxStack := 1, maxLocals := 1, code := jdk_30_method_1_code, exceptionTable := #[], attributes := #[] }
def k3m0 : Method := { name := "<init>", desc := "()V", sig := { parameters := [], returnType := none }, accessFlags := 4, code := some k3c0 }
/-- java/lang/Record -/
def k3 : Class := { plain "java/lang/Record" (some 0) with
  accessFlags := 1057
  interfaces := #[]
  cf := some (fileOf pool3 7 #[] #[{ accessFlags := 4, nameIndex := 5, descriptorIndex := 6, attributes := #[] }] 1057 2 #[] #[])
  fields := #[]
  methods := #[k3m0]
  instanceTypes := #[]
  staticTypes := #[]
  resolved := Array.replicate 22 none
  statics := none }

def pool4 : Array CpInfo := pool [(1, .class_ 2), (0, u "com/example/luoshu/luoshu/query/Region"), (0, .class_ 4), (0, u "java/lang/Object")] 17

/-- com/example/luoshu/luoshu/query/Region -/
def k4 : Class := { plain "com/example/luoshu/luoshu/query/Region" (some 0) with
  accessFlags := 1537
  interfaces := #[]
  cf := some (fileOf pool4 1 #[] #[] 1537 3 #[] #[])
  fields := #[]
  methods := #[]
  instanceTypes := #[]
  staticTypes := #[]
  resolved := Array.replicate 22 none
  statics := none }

def pool5 : Array CpInfo := pool [(1, .methodref 2 3), (0, .class_ 4), (0, .nameAndType 5 6), (0, u "java/lang/Record"), (0, u "<init>"), (0, u "()V"), (0, .methodref 8 9), (0, .class_ 10), (0, .nameAndType 11 12), (0, u "com/example/luoshu/luoshu/util/Positions"), (0, u "requireValid"), (0, u "(DD)V"), (9, .fieldref 23 24), (0, .class_ 25), (0, .nameAndType 26 27), (0, u "com/example/luoshu/luoshu/query/Box"), (0, u "west"), (0, u "D"), (0, .fieldref 23 29), (0, .nameAndType 30 27), (0, u "south"), (0, .fieldref 23 32), (0, .nameAndType 33 27), (0, u "east"), (0, .fieldref 23 35), (0, .nameAndType 36 27), (0, u "north"), (56, u "(DDDD)V"), (2, u "WORLD"), (0, u "Lcom/example/luoshu/luoshu/query/Box;"), (0, .class_ 99), (0, u "com/example/luoshu/luoshu/query/Region"), (4, u "contains"), (0, u "(DD)Z")] 42

def k5c0 : Code := { maxStack := 6, maxLocals := 9, code := prog_7_method_1_code, exceptionTable := #[], attributes := #[] }
def k5m0 : Method := { name := "<init>", desc := "(DDDD)V", sig := { parameters := [.double, .double, .double, .double], returnType := none }, accessFlags := 1, code := some k5c0 }
def k5c1 : Code := { maxStack := 4, maxLocals := 6, code := prog_7_method_2_code, exceptionTable := #[], attributes := #[] }
def k5m1 : Method := { name := "contains", desc := "(DD)Z", sig := { parameters := [.double, .double], returnType := some .boolean }, accessFlags := 1, code := some k5c1 }
/-- com/example/luoshu/luoshu/query/Box -/
def k5 : Class := { plain "com/example/luoshu/luoshu/query/Box" (some 3) with
  accessFlags := 49
  interfaces := #[4]
  cf := some (fileOf pool5 23 #[] #[{ accessFlags := 1, nameIndex := 5, descriptorIndex := 93, attributes := #[] }, { accessFlags := 1, nameIndex := 104, descriptorIndex := 105, attributes := #[] }] 49 2 #[98] #[{ accessFlags := 18, nameIndex := 26, descriptorIndex := 27, attributes := #[] }, { accessFlags := 18, nameIndex := 30, descriptorIndex := 27, attributes := #[] }, { accessFlags := 18, nameIndex := 33, descriptorIndex := 27, attributes := #[] }, { accessFlags := 18, nameIndex := 36, descriptorIndex := 27, attributes := #[] }, { accessFlags := 25, nameIndex := 96, descriptorIndex := 97, attributes := #[] }])
  fields := #[{ name := "west", type := .double, accessFlags := 18, slot := 0, constantValue := 0 }, { name := "south", type := .double, accessFlags := 18, slot := 1, constantValue := 0 }, { name := "east", type := .double, accessFlags := 18, slot := 2, constantValue := 0 }, { name := "north", type := .double, accessFlags := 18, slot := 3, constantValue := 0 }, { name := "WORLD", type := (.object "com/example/luoshu/luoshu/query/Box"), accessFlags := 25, slot := 0, constantValue := 0 }]
  methods := #[k5m0, k5m1]
  instanceTypes := #[.double, .double, .double, .double]
  staticTypes := #[(.object "com/example/luoshu/luoshu/query/Box")]
  resolved := Array.replicate 148 none
  statics := none }

def pool6 : Array CpInfo := pool [(2, .class_ 4), (1, u "java/lang/Object"), (0, u "<init>"), (0, u "()V"), (0, .double 13863909240395005952), (1, .double 4640537203540230144), (10, .double 13859405640767635456), (1, .double 4636033603912859648), (16, .class_ 40), (0, u "com/example/luoshu/luoshu/util/Positions"), (14, u "EARTH_RADIUS"), (0, u "D"), (5, u "requireValid"), (0, u "(DD)V")] 22

def k6m0 : Method := { name := "<init>", desc := "()V", sig := { parameters := [], returnType := none }, accessFlags := 2, code := none }
def k6c1 : Code := { maxStack := 4, maxLocals := 4, code := prog_53_method_2_code, exceptionTable := #[], attributes := #[] }
def k6m1 : Method := { name := "requireValid", desc := "(DD)V", sig := { parameters := [.double, .double], returnType := none }, accessFlags := 9, code := some k6c1 }
/-- com/example/luoshu/luoshu/util/Positions -/
def k6 : Class := { plain "com/example/luoshu/luoshu/util/Positions" (some 0) with
  accessFlags := 49
  interfaces := #[]
  cf := some (fileOf pool6 39 #[] #[{ accessFlags := 2, nameIndex := 5, descriptorIndex := 6, attributes := #[] }, { accessFlags := 9, nameIndex := 62, descriptorIndex := 63, attributes := #[] }] 49 2 #[] #[{ accessFlags := 25, nameIndex := 55, descriptorIndex := 56, attributes := #[] }])
  fields := #[{ name := "EARTH_RADIUS", type := .double, accessFlags := 25, slot := 0, constantValue := 0 }]
  methods := #[k6m0, k6m1]
  instanceTypes := #[]
  staticTypes := #[.double]
  resolved := Array.replicate 86 none
  statics := none }

def pool7 : Array CpInfo := pool [(1, u "java/lang/Cloneable"), (0, .class_ 1), (0, u "java/lang/Object"), (0, .class_ 3)] 3

/-- java/lang/Cloneable -/
def k7 : Class := { plain "java/lang/Cloneable" (some 0) with
  accessFlags := 1537
  interfaces := #[]
  cf := some (fileOf pool7 2 #[] #[] 1537 4 #[] #[])
  fields := #[]
  methods := #[]
  instanceTypes := #[]
  staticTypes := #[]
  resolved := Array.replicate 8 none
  statics := none }

def pool8 : Array CpInfo := pool [(1, u "java/io/Serializable"), (0, .class_ 1), (0, u "java/lang/Object"), (0, .class_ 3)] 3

/-- java/io/Serializable -/
def k8 : Class := { plain "java/io/Serializable" (some 0) with
  accessFlags := 1537
  interfaces := #[]
  cf := some (fileOf pool8 2 #[] #[] 1537 4 #[] #[])
  fields := #[]
  methods := #[]
  instanceTypes := #[]
  staticTypes := #[]
  resolved := Array.replicate 8 none
  statics := none }

/-- the primitive byte -/
def k9 : Class := { plain "byte" none with kind := .primitive 'B', accessFlags := 0x411 }
/-- [B -/
def k10 : Class := { plain "[B" (some 0) with kind := .array 9 .byte, interfaces := #[7, 8], accessFlags := 1041 }

/-- the primitive int -/
def k11 : Class := { plain "int" none with kind := .primitive 'I', accessFlags := 0x411 }
/-- [I -/
def k12 : Class := { plain "[I" (some 0) with kind := .array 11 .int, interfaces := #[7, 8], accessFlags := 1041 }

def heap : Heap := #[]
def classes : Array Class := #[k0, k1, k2, k3, k4, k5, k6, k7, k8, k9, k10, k11, k12]
def interned : List (Array UInt16 × Addr) := []
def slotsUsed : Nat := 0
def theMethod : MethodId := ⟨1, 1⟩
def args0 : Array Value := #[.int 5, .int 300, .int 7, .int 8, .int 9, .int 10]
def aboutOver (below : List Frame) : State where
  vm := { classes := classes, interned := interned.toArray }
  heap := heap
  slotsUsed := slotsUsed
  threads := #[{ frames := .invoking theMethod args0 :: below }]
def below0 : List Frame := [.native { method := ⟨0, 0⟩, args := #[] }]
def about1 : State := aboutOver below0
def p0 : Program := .bare "" "" ""
def e0 : Env := launch0.env 0 0 0
theorem w_frames : about1.frames = Frame.invoking theMethod args0 :: below0 := rfl
set_option maxRecDepth 65536 in
theorem w_args : argsFit about1.vm theMethod args0 = true := by decide +kernel
set_option maxRecDepth 65536 in
theorem w_heap : heapFits about1 = true := by decide +kernel
set_option maxRecDepth 65536 in
theorem w_runnable : about1.curStatus? = some .runnable := by decide +kernel
set_option maxRecDepth 65536 in
theorem w_alone : about1.alone = true := by decide +kernel
set_option maxRecDepth 65536 in
theorem w_named : about1.methodNamed? x = some theMethod := by decide +kernel
set_option maxRecDepth 65536 in
theorem w_hears : about1.hears theMethod below0 = true := by decide +kernel
set_option maxRecDepth 65536 in
theorem w_ripe : about1.ripe theMethod args0 below0 = true := by decide +kernel
theorem w_running : about1.status = .running := rfl
set_option maxRecDepth 65536 in
theorem w_room : about1.hasRoom e0.platform room_1 = true :=
  launch0.hasRoom_least _ room_1 (by decide +kernel) (by decide +kernel) (by decide +kernel) (by decide +kernel) (by decide +kernel) (by decide +kernel)
theorem allAtoms_all (ts : List Jvm.Cond) (a : Array Jvm.Value) (st : Jvm.State) : (allAtoms ts).before a st = ts.all (fun c => c.before a st) := by
  induction ts with
  | nil => rfl
  | cons c t ih =>
    show (Jvm.Cond.and c (allAtoms t)).before a st = _
    rw [Jvm.Cond.before_and, ih, List.all_cons]
def words1 : List Jvm.Cond := Jvm.Cond.code x code maxLocals ret :: tables_1
/-- a 'code' word, met by the world's own term for the bytes: nothing is compared byte by byte -/
theorem code_word {y : MethodName} {bytes : ByteArray} {mx : Nat} {rt : Option FieldType} {a : Array Value} {s : State} {m : MethodId} {meth : Method} {c : Code} (h1 : s.methodNamed? y = some m) (h2 : s.vm.method? m = some meth) (h3 : meth.code = some c) (h4 : c.code = bytes)
    (h5 : (c.maxLocals == mx && c.exceptionTable.isEmpty && decide (c.maxStack ≤ mostOperands) && decide (meth.sig.returnType = rt) && !meth.locks && decide (parseMethodDescriptor y.desc = some meth.sig)) = true) : (Jvm.Cond.code y bytes mx rt).before a s = true := by
  simp only [Bool.and_eq_true, beq_iff_eq, Bool.not_eq_true', decide_eq_true_eq] at h5
  obtain ⟨⟨⟨⟨⟨g1, g2⟩, g3⟩, g4⟩, g5⟩, g6⟩ := h5
  simp [Cond.before, Cond.holds, Cond.value, h1, h2, h3, h4, g1, g2, g3, g4, g5, g6]
def isCode : Jvm.Cond → Bool
  | .code _ _ _ _ => true
  | _ => false
theorem all_split {L : List Jvm.Cond} {P : Jvm.Cond → Bool} (h1 : L.all (fun c => isCode c || P c) = true) (h2 : ∀ c ∈ L.filter isCode, P c = true) : L.all P = true := by
  refine List.all_eq_true.mpr fun c hc => ?_
  have h := List.all_eq_true.mp h1 c hc
  rcases Bool.eq_false_or_eq_true (isCode c) with hi | hi
  · exact h2 c (List.mem_filter.mpr ⟨hc, hi⟩)
  · simpa [hi] using h
set_option maxRecDepth 65536 in
theorem w_c0 : (Jvm.Cond.code x code maxLocals ret).before args0 about1 = true := code_word (m := ⟨1, 1⟩) (meth := k1m1) (c := k1c1) (by decide +kernel) rfl rfl rfl (by decide +kernel)
set_option maxRecDepth 65536 in
theorem w_c1 : (Jvm.Cond.code ({ cls := "java/lang/Math", name := "min", desc := "(II)I" } : Jvm.MethodName) jdk_29_method_69_code (2 : Nat) (Option.some Jvm.ClassFile.FieldType.int)).before args0 about1 = true := code_word (m := ⟨2, 2⟩) (meth := k2m2) (c := k2c2) (by decide +kernel) rfl rfl rfl (by decide +kernel)
set_option maxRecDepth 65536 in
theorem w_c2 : (Jvm.Cond.code ({ cls := "java/lang/Math", name := "max", desc := "(II)I" } : Jvm.MethodName) jdk_29_method_65_code (2 : Nat) (Option.some Jvm.ClassFile.FieldType.int)).before args0 about1 = true := code_word (m := ⟨2, 1⟩) (meth := k2m1) (c := k2c1) (by decide +kernel) rfl rfl rfl (by decide +kernel)
set_option maxRecDepth 65536 in
theorem w_c3 : (Jvm.Cond.code ({ cls := "com/example/luoshu/luoshu/query/Box", name := "<init>", desc := "(DDDD)V" } : Jvm.MethodName) prog_7_method_1_code (9 : Nat) (Option.none : Option Jvm.ClassFile.FieldType)).before args0 about1 = true := code_word (m := ⟨5, 0⟩) (meth := k5m0) (c := k5c0) (by decide +kernel) rfl rfl rfl (by decide +kernel)
set_option maxRecDepth 65536 in
theorem w_c4 : (Jvm.Cond.code ({ cls := "java/lang/Record", name := "<init>", desc := "()V" } : Jvm.MethodName) jdk_30_method_1_code (1 : Nat) (Option.none : Option Jvm.ClassFile.FieldType)).before args0 about1 = true := code_word (m := ⟨3, 0⟩) (meth := k3m0) (c := k3c0) (by decide +kernel) rfl rfl rfl (by decide +kernel)
set_option maxRecDepth 65536 in
theorem w_c5 : (Jvm.Cond.code ({ cls := "java/lang/Object", name := "<init>", desc := "()V" } : Jvm.MethodName) object_method_1_code (1 : Nat) (Option.none : Option Jvm.ClassFile.FieldType)).before args0 about1 = true := code_word (m := ⟨0, 0⟩) (meth := k0m0) (c := k0c0) (by decide +kernel) rfl rfl rfl (by decide +kernel)
set_option maxRecDepth 65536 in
theorem w_c6 : (Jvm.Cond.code ({ cls := "com/example/luoshu/luoshu/util/Positions", name := "requireValid", desc := "(DD)V" } : Jvm.MethodName) prog_53_method_2_code (4 : Nat) (Option.none : Option Jvm.ClassFile.FieldType)).before args0 about1 = true := code_word (m := ⟨6, 1⟩) (meth := k6m1) (c := k6c1) (by decide +kernel) rfl rfl rfl (by decide +kernel)
set_option maxRecDepth 65536 in
theorem w_c7 : (Jvm.Cond.code ({ cls := "com/example/luoshu/luoshu/query/Box", name := "contains", desc := "(DD)Z" } : Jvm.MethodName) prog_7_method_2_code (6 : Nat) (Option.some Jvm.ClassFile.FieldType.boolean)).before args0 about1 = true := code_word (m := ⟨5, 1⟩) (meth := k5m1) (c := k5c1) (by decide +kernel) rfl rfl rfl (by decide +kernel)
def codes1 : List Jvm.Cond := [Jvm.Cond.code x code maxLocals ret, Jvm.Cond.code ({ cls := "java/lang/Math", name := "min", desc := "(II)I" } : Jvm.MethodName) jdk_29_method_69_code (2 : Nat) (Option.some Jvm.ClassFile.FieldType.int), Jvm.Cond.code ({ cls := "java/lang/Math", name := "max", desc := "(II)I" } : Jvm.MethodName) jdk_29_method_65_code (2 : Nat) (Option.some Jvm.ClassFile.FieldType.int), Jvm.Cond.code ({ cls := "com/example/luoshu/luoshu/query/Box", name := "<init>", desc := "(DDDD)V" } : Jvm.MethodName) prog_7_method_1_code (9 : Nat) (Option.none : Option Jvm.ClassFile.FieldType), Jvm.Cond.code ({ cls := "java/lang/Record", name := "<init>", desc := "()V" } : Jvm.MethodName) jdk_30_method_1_code (1 : Nat) (Option.none : Option Jvm.ClassFile.FieldType), Jvm.Cond.code ({ cls := "java/lang/Object", name := "<init>", desc := "()V" } : Jvm.MethodName) object_method_1_code (1 : Nat) (Option.none : Option Jvm.ClassFile.FieldType), Jvm.Cond.code ({ cls := "com/example/luoshu/luoshu/util/Positions", name := "requireValid", desc := "(DD)V" } : Jvm.MethodName) prog_53_method_2_code (4 : Nat) (Option.none : Option Jvm.ClassFile.FieldType), Jvm.Cond.code ({ cls := "com/example/luoshu/luoshu/query/Box", name := "contains", desc := "(DD)Z" } : Jvm.MethodName) prog_7_method_2_code (6 : Nat) (Option.some Jvm.ClassFile.FieldType.boolean)]
set_option maxRecDepth 65536 in
theorem codes_eq : words1.filter isCode = codes1 := rfl
theorem w_codes : ∀ c ∈ words1.filter isCode, c.before args0 about1 = true := by
  rw [codes_eq]
  intro c hc
  simp only [codes1, List.mem_cons, List.not_mem_nil, or_false] at hc
  rcases hc with rfl | rfl | rfl | rfl | rfl | rfl | rfl | rfl
  · exact w_c0
  · exact w_c1
  · exact w_c2
  · exact w_c3
  · exact w_c4
  · exact w_c5
  · exact w_c6
  · exact w_c7
set_option maxRecDepth 65536 in
theorem w_t1 : (words1.take 24).all (fun c => isCode c || c.before args0 about1) = true := by decide +kernel
set_option maxRecDepth 65536 in
theorem w_t2 : (words1.drop 24).all (fun c => isCode c || c.before args0 about1) = true := by decide +kernel
theorem w_tables : (allAtoms (Jvm.Cond.code x code maxLocals ret :: tables_1)).before args0 about1 = true := by
  rw [allAtoms_all]
  show words1.all (fun c => c.before args0 about1) = true
  refine all_split ?_ w_codes
  rw [← List.take_append_drop 24 words1, List.all_append, w_t1, w_t2]
  rfl
set_option maxRecDepth 65536 in
theorem w_case : (Jvm.Cond.and given_1 narrow_1).before args0 about1 = true := by decide +kernel
theorem w_applies : (headSpec (Jvm.Cond.code x code maxLocals ret :: tables_1) room_1).applies x e0.platform about1 = true :=
  (Spec.applies_iff w_frames).mpr ⟨w_running, w_runnable, w_alone, w_named, w_hears, w_ripe, w_room, w_tables⟩
theorem atStart : AtStart classFile x code maxLocals ret World_1 tables_1 room_1 Calls_1 rest_1 Pre_1 launch0 p0 e0 about1 theMethod args0 below0 :=
  ⟨lists_1, trivial, launch0.admits_env _ _ _, launch0.least_env, fairChoices_fair.cas, fairChoices_fair.clock, w_frames, w_args, w_heap, w_applies, trivial, trivial, w_case⟩
end start1
theorem witness_1 : WitnessClaimed_1 := ⟨start1.p0, start1.e0, start1.about1, start1.theMethod, start1.args0, start1.below0, start1.atStart⟩
end Jvm.Pilot.@@N@@
