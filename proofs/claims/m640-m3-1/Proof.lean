import JvmDerived
import JvmDerived.Pilot.@@N@@Statement
import JvmDerived.Pilot.@@N@@Code
set_option linter.unusedVariables false
set_option linter.unusedSimpArgs false
namespace Jvm.Pilot.@@N@@
open Jvm Jvm.ClassFile Sem Op Lib Jvm.Free Jvm.Stand Jvm.LawKit Jvm.RoadKit Bundle Jvm.Pilot.@@N@@.Jvm.D
/-! a run from here comes to the end of the invocation, and Q holds there -/
section OwnWp
variable {p : Program} {l : Launch} {e : Env} {R : Room} {s : State} {m : MethodId} {args : Array Value} {below : List Frame} {meth : Method} {c : Code} {T : State} {locs : List Loc} {cells slots : Nat}
def Wp (p : Program) (e : Env) (below : List Frame) (Q : Outcome → State → Prop) (A : State) : Prop := ∃ s₂ o, Steps p.tables e below A s₂ ∧ s₂.status = .running ∧ Ended s₂ below o ∧ Q o s₂
def Out (s : State) (Q : Option Value → Heap → List Loc → Prop) (k n : Nat) (o : Outcome) (t : State) : Prop := ∃ v L, o = .returned v ∧ Q v t.heap L ∧ FrameEnd s o t L k n
theorem Wp.step {Q : Outcome → State → Prop} {A B : State} (h : ∀ t, Steps p.tables e below B t → Steps p.tables e below A t) (k : Wp p e below Q B) : Wp p e below Q A := by
  obtain ⟨s₂, o, h1, h2⟩ := k; exact ⟨s₂, o, h _ h1, h2⟩
theorem Wp.go {Q : Outcome → State → Prop} {A B : State} (h : Steps p.tables e below A B) (k : Wp p e below Q B) : Wp p e below Q A := Wp.step (fun _ q => h.trans q) k
theorem Wp.out (X : Stand p l e R s m args below meth c T locs cells slots) {A : State} {v : Option Value} {Q : Option Value → Heap → List Loc → Prop} {k n : Nat} (hv : meth.sig.returnType = none → v = none) (hlk : meth.locks = false)
    (hs : ∀ fs, (∀ (f : JFrame) (acts : List Action), f.method = m → f.locked = none → f.entered = [] → (doReturn e (T.setTop f) acts v).1 = T.setFrames fs) → Steps p.tables e below A (T.setFrames fs)) (hQ : Q v T.heap locs) (hk : cells ≤ k) (hn : slots ≤ n) : Wp p e below (Out s Q k n) A := by
  obtain ⟨fs, hr, hrun, hended, hW, hsame⟩ := X.leave (v := v) hv hlk
  exact ⟨_, _, hs fs hr, hrun, hended, _, _, rfl, hQ, ⟨_, rfl⟩, hW, hsame.mono hk hn⟩
theorem Wp.retV (X : Stand p l e R s m args below meth c T locs cells slots) (hx : p.tables.exec = Jvm.exec) {pc : Nat} {Ls : Array Slot} {Q : Option Value → Heap → List Loc → Prop} {k n : Nat} (hret : meth.sig.returnType = none) (hd : decode c.code pc = .ok (.return_, 1)) (hlk : meth.locks = false)
    (hQ : Q none T.heap locs) (hk : cells ≤ k) (hn : slots ≤ n) : Wp p e below (Out s Q k n) (T.setTop (mkF m pc Ls [])) := Wp.out X (fun _ => rfl) hlk (fun fs hr => X.returnOut hx hret hd hr) hQ hk hn
theorem Wp.retN (X : Stand p l e R s m args below meth c T locs cells slots) (hx : p.tables.exec = Jvm.exec) {pc : Nat} {Ls : Array Slot} {z : Int32} {rest : List Value} {t : FieldType} {Q : Option Value → Heap → List Loc → Prop} {k n : Nat} (hret : meth.sig.returnType = some t) (ht : t = .boolean ∨ t = .byte ∨ t = .char ∨ t = .short) (hd : decode c.code pc = .ok (.ireturn, 1)) (hlk : meth.locks = false)
    (hQ : Q (some (.int (nar t z))) T.heap locs) (hk : cells ≤ k) (hn : slots ≤ n) : Wp p e below (Out s Q k n) (T.setTop (mkF m pc Ls (.int z :: rest))) := Wp.out X (fun h => by rw [hret] at h; cases h) hlk (fun fs hr => Jvm.RoadKit.retN X hx hret ht hd hr) hQ hk hn
theorem Wp.retI (X : Stand p l e R s m args below meth c T locs cells slots) (hx : p.tables.exec = Jvm.exec) {pc : Nat} {Ls : Array Slot} {z : Int32} {rest : List Value} {Q : Option Value → Heap → List Loc → Prop} {k n : Nat} (hret : meth.sig.returnType = some .int) (hd : decode c.code pc = .ok (.ireturn, 1)) (hlk : meth.locks = false)
    (hQ : Q (some (.int z)) T.heap locs) (hk : cells ≤ k) (hn : slots ≤ n) : Wp p e below (Out s Q k n) (T.setTop (mkF m pc Ls (.int z :: rest))) := Wp.out X (fun h => by rw [hret] at h; cases h) hlk (fun fs hr => Jvm.RoadKit.retOut X hx hret rfl (Or.inl ⟨rfl, Or.inl rfl, z, rfl⟩) hd hr) hQ hk hn
theorem Wp.retJ (X : Stand p l e R s m args below meth c T locs cells slots) (hx : p.tables.exec = Jvm.exec) {pc : Nat} {Ls : Array Slot} {z : Int64} {rest : List Value} {Q : Option Value → Heap → List Loc → Prop} {k n : Nat} (hret : meth.sig.returnType = some .long) (hd : decode c.code pc = .ok (.lreturn, 1)) (hlk : meth.locks = false)
    (hQ : Q (some (.long z)) T.heap locs) (hk : cells ≤ k) (hn : slots ≤ n) : Wp p e below (Out s Q k n) (T.setTop (mkF m pc Ls (.long z :: rest))) := Wp.out X (fun h => by rw [hret] at h; cases h) hlk (fun fs hr => Jvm.RoadKit.retOut X hx hret rfl (Or.inr (Or.inl ⟨rfl, rfl, z, rfl⟩)) hd hr) hQ hk hn
theorem Wp.retA (X : Stand p l e R s m args below meth c T locs cells slots) (hx : p.tables.exec = Jvm.exec) {pc : Nat} {Ls : Array Slot} {w : Value} {rest : List Value} {t : FieldType} {Q : Option Value → Heap → List Loc → Prop} {k n : Nat} (hret : meth.sig.returnType = some t) (hw : w.isRef = true) (hd : decode c.code pc = .ok (.areturn, 1)) (hlk : meth.locks = false)
    (hQ : Q (some w) T.heap locs) (hk : cells ≤ k) (hn : slots ≤ n) (ht : t.isReference = true := by rfl) : Wp p e below (Out s Q k n) (T.setTop (mkF m pc Ls (w :: rest))) := Wp.out X (fun h => by rw [hret] at h; cases h) hlk (fun fs hr => Jvm.RoadKit.retOut X hx hret (by cases t <;> first | (cases ht; done) | (cases w <;> first | (cases hw; done) | rfl)) (Or.inr (Or.inr (Or.inr (Or.inr ⟨rfl, ht, hw⟩)))) hd hr) hQ hk hn
end OwnWp
section OwnXD
variable {tb : Tables} [Ours tb] {e : Env} {below : List Frame} {T target : State} {m : MethodId} {c : Code} {g : JFrame}
theorem own_i2d (h : At T m c below) (hx : tb.exec = Jvm.exec) (hg : g.method = m) {x : Int32} {rest : List Value} (hd : decode c.code g.pc = .ok (.i2d, 1)) (hs : g.stack = .int x :: rest)
    (hr : Steps tb e below (T.setTop { g with pc := g.pc + 1, stack := .double (FP.i2d x) :: rest }) target) : Steps tb e below (T.setTop g) target := by
  subst hg
  jvm_step h [h.top, hx, hd, hs]
  exact hr
theorem own_dloadN (h : At T m c below) (hx : tb.exec = Jvm.exec) (hg : g.method = m) {k : Fin 4} {v : UInt64} (hd : decode c.code g.pc = .ok (.dload_n k, 1)) (hl : g.locals[k.val]? = some (.val (.double v)))
    (hr : Steps tb e below (T.setTop { g with pc := g.pc + 1, stack := .double v :: g.stack }) target) : Steps tb e below (T.setTop g) target := by
  subst hg
  jvm_step h [h.top, hx, hd, hl]
  exact hr
theorem own_dload (h : At T m c below) (hx : tb.exec = Jvm.exec) (hg : g.method = m) {k : Nat} {v : UInt64} (hd : decode c.code g.pc = .ok (.dload k, 2)) (hl : g.locals[k]? = some (.val (.double v)))
    (hr : Steps tb e below (T.setTop { g with pc := g.pc + 2, stack := .double v :: g.stack }) target) : Steps tb e below (T.setTop g) target := by
  subst hg
  jvm_step h [h.top, hx, hd, hl]
  exact hr
theorem own_dstoreN (h : At T m c below) (hx : tb.exec = Jvm.exec) (hg : g.method = m) {k : Fin 4} {x : UInt64} {rest : List Value} {l' : Array Slot} (hd : decode c.code g.pc = .ok (.dstore_n k, 1)) (hs : g.stack = .double x :: rest) (hl : storeLocals g.locals k.val (.double x) = some l')
    (hr : Steps tb e below (T.setTop { g with pc := g.pc + 1, locals := l', stack := rest }) target) : Steps tb e below (T.setTop g) target := by
  subst hg
  jvm_step h [h.top, hx, hd, hs, hl]
  exact hr
theorem own_dstore (h : At T m c below) (hx : tb.exec = Jvm.exec) (hg : g.method = m) {k : Nat} {x : UInt64} {rest : List Value} {l' : Array Slot} (hd : decode c.code g.pc = .ok (.dstore k, 2)) (hs : g.stack = .double x :: rest) (hl : storeLocals g.locals k (.double x) = some l')
    (hr : Steps tb e below (T.setTop { g with pc := g.pc + 2, locals := l', stack := rest }) target) : Steps tb e below (T.setTop g) target := by
  subst hg
  jvm_step h [h.top, hx, hd, hs, hl]
  exact hr
theorem own_dcmp (h : At T m c below) (hx : tb.exec = Jvm.exec) (hg : g.method = m) {op : CmpOp} {x y : UInt64} {rest : List Value} (hd : decode c.code g.pc = .ok (.dcmp op, 1)) (hs : g.stack = .double y :: .double x :: rest)
    (hr : Steps tb e below (T.setTop { g with pc := g.pc + 1, stack := .int (cmpValue (FP.dcmp x y) op) :: rest }) target) : Steps tb e below (T.setTop g) target := by
  subst hg
  jvm_step h [h.top, hx, hd, hs, dcmp.wp_sem]
  exact hr
theorem own_ddiv (h : At T m c below) (hx : tb.exec = Jvm.exec) (hg : g.method = m) {x y : UInt64} {rest : List Value} (hd : decode c.code g.pc = .ok (.ddiv, 1)) (hs : g.stack = .double y :: .double x :: rest) (hn : FP.ddiv x y &&& 0x7fffffffffffffff ≤ 0x7ff0000000000000)
    (hr : Steps tb e below (T.setTop { g with pc := g.pc + 1, stack := .double (FP.ddiv x y) :: rest }) target) : Steps tb e below (T.setTop g) target := by
  subst hg
  obtain ⟨gm, gpc, gl, gs, glk, gen, gmr⟩ := g
  dsimp only at hs
  subst hs
  jvm_step h [h.top, hx, hd, Op.ddiv.at_number h.top hn]
  exact hr
end OwnXD
/-! the double a is exactly n / 2^k -/
def own_val (a : UInt64) (n : Int) (k : Nat) : Prop := ∃ (s : Bool) (c : Nat) (q : Int), FP.Core.val64 a = FP.Core.Datum.fin s c q ∧ ∀ e : Int, e ≤ q → e ≤ -(k : Int) → FP.Core.signed s (FP.Core.inUnits c q e) = n * (2 ^ (-(k : Int) - e).toNat : Nat)
theorem own_inU (c : Nat) (q e : Int) : FP.Core.inUnits c q e = c * 2 ^ (q - e).toNat := rfl
theorem own_sg (s : Bool) (c : Nat) : FP.Core.signed s c = if s then -(c : Int) else (c : Int) := rfl
theorem own_quot (f : FP.Core.Fmt) (s t : Bool) (c d : Nat) (q r : Int) : FP.Core.quotient f (.fin s c q) (.fin t d r) = if d = 0 then (if c = 0 then .nan else .inf (s != t)) else FP.Core.roundRatio f (s != t) c d (q - r) := rfl
theorem own_cmpI (x y : Int) : compare x y = if x < y then .lt else if x = y then .eq else .gt := rfl
theorem own_cmp_scale (x y : Int) (p : Nat) (hp : 0 < p) : compare (x * p) (y * p) = compare x y := by
  have hp' : (0 : Int) < p := by omega
  simp only [own_cmpI]
  by_cases h1 : x < y
  · rw [if_pos h1, if_pos (Int.mul_lt_mul_of_pos_right h1 hp')]
  · rw [if_neg h1, if_neg (fun q => h1 (Int.lt_of_mul_lt_mul_right q (Int.le_of_lt hp')))]
    by_cases h2 : x = y
    · rw [if_pos h2, if_pos (by rw [h2])]
    · rw [if_neg h2, if_neg (fun q => h2 (Int.eq_of_mul_eq_mul_right (by omega) q))]
theorem own_cmp {a b : UInt64} {n1 n2 : Int} {k : Nat} (A : own_val a n1 k) (B : own_val b n2 k) : FP.dcmp a b = some (compare n1 n2) := by
  obtain ⟨s, c, q, h1, h2⟩ := A
  obtain ⟨t, d, r, g1, g2⟩ := B
  have e0 : FP.dcmp a b = FP.Core.order (FP.Core.val64 a) (FP.Core.val64 b) := rfl
  rw [e0, h1, g1]
  show some (compare _ _) = _
  have hE1 : min (min q r) (-(k : Int)) ≤ min q r := by omega
  have u1 := FP.Core.inUnits_move c (q := q) (r := min q r) (e := min (min q r) (-(k : Int))) hE1 (by omega)
  have u2 := FP.Core.inUnits_move d (q := r) (r := min q r) (e := min (min q r) (-(k : Int))) hE1 (by omega)
  have v1 := h2 (min (min q r) (-(k : Int))) (by omega) (by omega)
  have v2 := g2 (min (min q r) (-(k : Int))) (by omega) (by omega)
  rw [u1, FP.Core.signed_mul] at v1
  rw [u2, FP.Core.signed_mul] at v2
  rw [← own_cmp_scale _ _ _ (Nat.two_pow_pos (min q r - min (min q r) (-(k : Int))).toNat), v1, v2, own_cmp_scale _ _ _ (Nat.two_pow_pos _)]
theorem own_ord_lt (n1 n2 : Int) (op : CmpOp) : cmpValue (some (compare n1 n2)) op < 0 ↔ n1 < n2 := by
  simp only [own_cmpI]
  by_cases h1 : n1 < n2
  · rw [if_pos h1]; exact ⟨fun _ => h1, fun _ => by cases op <;> decide⟩
  · rw [if_neg h1]
    by_cases h2 : n1 = n2
    · rw [if_pos h2]; exact ⟨fun q => absurd q (by cases op <;> decide), fun q => absurd q h1⟩
    · rw [if_neg h2]; exact ⟨fun q => absurd q (by cases op <;> decide), fun q => absurd q h1⟩
theorem own_ord_gt (n1 n2 : Int) (op : CmpOp) : 0 < cmpValue (some (compare n1 n2)) op ↔ n2 < n1 := by
  simp only [own_cmpI]
  by_cases h1 : n1 < n2
  · rw [if_pos h1]; exact ⟨fun q => absurd q (by cases op <;> decide), fun q => absurd q (by omega)⟩
  · rw [if_neg h1]
    by_cases h2 : n1 = n2
    · rw [if_pos h2]; exact ⟨fun q => absurd q (by cases op <;> decide), fun q => absurd q (by omega)⟩
    · rw [if_neg h2]; exact ⟨fun _ => by omega, fun _ => by cases op <;> decide⟩
theorem own_i2d_fin (i : Int32) (h0 : i.toInt ≠ 0) : FP.Core.val64 (FP.i2d i) = .fin (decide (i.toInt < 0)) (i.toInt.natAbs * 2 ^ (52 - i.toInt.natAbs.log2)) ((i.toInt.natAbs.log2 : Int) - 52) ∧ i.toInt.natAbs.log2 ≤ 31 := by
  have r := rng32 i
  have hn : i.toInt.natAbs ≠ 0 := by omega
  have hlt : i.toInt.natAbs < 2 ^ 32 := by omega
  have hl : i.toInt.natAbs.log2 ≤ 31 := by
    have := (Nat.log2_lt hn).mpr hlt
    omega
  have p1 : 2 ^ i.toInt.natAbs.log2 ≤ i.toInt.natAbs := Nat.log2_self_le hn
  have p2 : i.toInt.natAbs < 2 ^ (i.toInt.natAbs.log2 + 1) := Nat.lt_log2_self
  refine ⟨?_, hl⟩
  have e0 : FP.Core.val64 (FP.i2d i) = FP.Core.round FP.Core.b64 (FP.Core.ofInt i.toInt) := FP.Core.val64_i2d i
  rw [e0]
  generalize hA : i.toInt.natAbs = A at *
  generalize hL : A.log2 = L at *
  show FP.Core.roundRatio FP.Core.b64 (decide (i.toInt < 0)) i.toInt.natAbs 1 0 = _
  rw [hA]
  have ep : 2 ^ L * 2 ^ (52 - L) = 2 ^ 52 := by rw [← Nat.pow_add]; congr 1; omega
  have ep1 : 2 ^ (L + 1) * 2 ^ (52 - L) = 2 ^ 53 := by rw [← Nat.pow_add]; congr 1; omega
  have hpos : 0 < 2 ^ (52 - L) := Nat.two_pow_pos _
  refine FP.Core.roundRatio_exact FP.Core.good_b64 (by decide) ⟨?_, ?_, ?_, Or.inr ?_⟩ ?_
  · show A * 2 ^ (52 - L) < 2 ^ 53
    rw [← ep1]; exact Nat.mul_lt_mul_of_pos_right p2 hpos
  · show (FP.Core.Fmt.qmin FP.Core.b64) ≤ _
    have : FP.Core.Fmt.qmin FP.Core.b64 = -1074 := by decide
    rw [this]; omega
  · have : FP.Core.Fmt.qmax FP.Core.b64 = 971 := by decide
    rw [this]; omega
  · have : FP.Core.Fmt.tails FP.Core.b64 = 2 ^ 52 := by decide
    rw [this, ← ep]; exact Nat.mul_le_mul_right _ p1
  · have z1 : ((0 : Int) - ((L : Int) - 52)).toNat = 52 - L := by omega
    have z2 : (((L : Int) - 52) - 0).toNat = 0 := by omega
    rw [z1, z2, Nat.pow_zero, Nat.mul_one, Nat.mul_one]
theorem own_i2d_val (i : Int32) : own_val (FP.i2d i) i.toInt 0 := by
  by_cases h0 : i.toInt = 0
  · have e0 : FP.Core.val64 (FP.i2d i) = FP.Core.round FP.Core.b64 (FP.Core.ofInt i.toInt) := FP.Core.val64_i2d i
    rw [h0] at e0
    refine ⟨false, 0, FP.Core.b64.qmin, e0.trans (by decide +kernel), fun e _ _ => ?_⟩
    rw [h0]; rw [own_inU, own_sg]; simp
  · obtain ⟨e1, hl⟩ := own_i2d_fin i h0
    refine ⟨_, _, _, e1, fun e he hk => ?_⟩
    generalize hL : i.toInt.natAbs.log2 = L at *
    rw [own_inU]
    have e2 : i.toInt.natAbs * 2 ^ (52 - L) * 2 ^ ((L : Int) - 52 - e).toNat = i.toInt.natAbs * 2 ^ (-((0 : Nat) : Int) - e).toNat := by
      rw [Nat.mul_assoc, ← Nat.pow_add]; congr 2; omega
    rw [e2, FP.Core.signed_mul]
    congr 1
    rw [own_sg]
    by_cases hs : i.toInt < 0
    · simp [hs]; omega
    · simp [hs]; omega
theorem own_const {a : UInt64} {s : Bool} {n j : Nat} (h : FP.Core.val64 a = .fin s (n * 2 ^ j) (-(j : Int))) : own_val a (FP.Core.signed s n) 0 := by
  refine ⟨_, _, _, h, fun e he hk => ?_⟩
  rw [own_inU]
  have e2 : n * 2 ^ j * 2 ^ (-(j : Int) - e).toNat = n * 2 ^ (-((0 : Nat) : Int) - e).toNat := by
    rw [Nat.mul_assoc, ← Nat.pow_add]; congr 2; omega
  rw [e2, FP.Core.signed_mul]
theorem own_val_up {a : UInt64} {n : Int} (A : own_val a n 0) : own_val a (n * 256) 8 := by
  obtain ⟨s, c, q, h1, h2⟩ := A
  refine ⟨s, c, q, h1, fun e he hk => ?_⟩
  rw [h2 e he (by omega), Int.mul_assoc]
  congr 1
  have : (-((0 : Nat) : Int) - e).toNat = 8 + (-((8 : Nat) : Int) - e).toNat := by omega
  rw [this, Nat.pow_add]; simp
theorem own_c180 : own_val 4640537203540230144 180 0 := own_const (s := false) (n := 180) (j := 45) (by decide +kernel)
theorem own_cm180 : own_val 13863909240395005952 (-180) 0 := own_const (s := true) (n := 180) (j := 45) (by decide +kernel)
theorem own_c90 : own_val 4636033603912859648 90 0 := own_const (s := false) (n := 90) (j := 46) (by decide +kernel)
theorem own_cm90 : own_val 13859405640767635456 (-90) 0 := own_const (s := true) (n := 90) (j := 46) (by decide +kernel)
theorem own_div256 (i : Int32) : own_val (FP.ddiv (FP.i2d i) 4643211215818981376) i.toInt 8 := by
  have hq : FP.Core.val64 4643211215818981376 = .fin false (2 ^ 52) (-44) := by decide +kernel
  have ed : FP.Core.val64 (FP.ddiv (FP.i2d i) 4643211215818981376) = FP.Core.quotient FP.Core.b64 (FP.Core.val64 (FP.i2d i)) (FP.Core.val64 4643211215818981376) := FP.Core.val64_ddiv _ _
  rw [hq] at ed
  by_cases h0 : i.toInt = 0
  · have e0 : FP.Core.val64 (FP.i2d i) = FP.Core.round FP.Core.b64 (FP.Core.ofInt i.toInt) := FP.Core.val64_i2d i
    rw [h0] at e0
    rw [e0] at ed
    refine ⟨false, 0, FP.Core.b64.qmin, ed.trans (by decide +kernel), fun e _ _ => ?_⟩
    rw [h0]; rw [own_inU, own_sg]; simp
  · obtain ⟨e1, hl⟩ := own_i2d_fin i h0
    have r := rng32 i
    have hn : i.toInt.natAbs ≠ 0 := by omega
    have p1 : 2 ^ i.toInt.natAbs.log2 ≤ i.toInt.natAbs := Nat.log2_self_le hn
    have p2 : i.toInt.natAbs < 2 ^ (i.toInt.natAbs.log2 + 1) := Nat.lt_log2_self
    rw [e1] at ed
    generalize hA : i.toInt.natAbs = A at *
    generalize hL : A.log2 = L at *
    have ep : 2 ^ L * 2 ^ (52 - L) = 2 ^ 52 := by rw [← Nat.pow_add]; congr 1; omega
    have ep1 : 2 ^ (L + 1) * 2 ^ (52 - L) = 2 ^ 53 := by rw [← Nat.pow_add]; congr 1; omega
    have hpos : 0 < 2 ^ (52 - L) := Nat.two_pow_pos _
    have eq : FP.Core.quotient FP.Core.b64 (.fin (decide (i.toInt < 0)) (A * 2 ^ (52 - L)) ((L : Int) - 52)) (.fin false (2 ^ 52) (-44)) = .fin (decide (i.toInt < 0)) (A * 2 ^ (52 - L)) ((L : Int) - 60) := by
      have u : FP.Core.quotient FP.Core.b64 (.fin (decide (i.toInt < 0)) (A * 2 ^ (52 - L)) ((L : Int) - 52)) (.fin false (2 ^ 52) (-44)) = FP.Core.roundRatio FP.Core.b64 (decide (i.toInt < 0) != false) (A * 2 ^ (52 - L)) (2 ^ 52) (((L : Int) - 52) - (-44)) := by
        rw [own_quot, if_neg (by decide)]
      rw [u, Bool.bne_false]
      refine FP.Core.roundRatio_exact FP.Core.good_b64 (by decide) ⟨?_, ?_, ?_, Or.inr ?_⟩ ?_
      · show A * 2 ^ (52 - L) < 2 ^ 53
        rw [← ep1]; exact Nat.mul_lt_mul_of_pos_right p2 hpos
      · have : FP.Core.Fmt.qmin FP.Core.b64 = -1074 := by decide
        rw [this]; omega
      · have : FP.Core.Fmt.qmax FP.Core.b64 = 971 := by decide
        rw [this]; omega
      · have : FP.Core.Fmt.tails FP.Core.b64 = 2 ^ 52 := by decide
        rw [this, ← ep]; exact Nat.mul_le_mul_right _ p1
      · have z1 : (((L : Int) - 52) - (-44) - ((L : Int) - 60)).toNat = 52 := by omega
        have z2 : (((L : Int) - 60) - (((L : Int) - 52) - (-44))).toNat = 0 := by omega
        rw [z1, z2, Nat.pow_zero, Nat.mul_one]
    rw [eq] at ed
    refine ⟨_, _, _, ed, fun e he hk => ?_⟩
    rw [own_inU]
    have e2 : A * 2 ^ (52 - L) * 2 ^ ((L : Int) - 60 - e).toNat = A * 2 ^ (-((8 : Nat) : Int) - e).toNat := by
      rw [Nat.mul_assoc, ← Nat.pow_add]; congr 2; omega
    rw [e2, FP.Core.signed_mul]
    congr 1
    rw [own_sg]
    by_cases hs : i.toInt < 0
    · simp [hs]; omega
    · simp [hs]; omega
theorem own_noNaN (i : Int32) : FP.ddiv (FP.i2d i) 4643211215818981376 &&& 0x7fffffffffffffff ≤ 0x7ff0000000000000 := Jvm.Free.Fl.ddiv_out (Jvm.Free.Fl.i2d_fin i).noNaN (by unfold Jvm.Free.Fl.Fin64; decide) (by unfold Jvm.Free.Fl.Nz64; decide)

theorem d1_0 : decode prog_52_method_2_code 0 = .ok (.dload_n 0, 1) := by decide +kernel
theorem d1_1 : decode prog_52_method_2_code 1 = .ok (.ldc2_w 7, 3) := by decide +kernel
theorem d1_4 : decode prog_52_method_2_code 4 = .ok (.dcmp .l, 1) := by decide +kernel
theorem d1_5 : decode prog_52_method_2_code 5 = .ok (.ifCond .lt 11, 3) := by decide +kernel
theorem d1_8 : decode prog_52_method_2_code 8 = .ok (.dload_n 0, 1) := by decide +kernel
theorem d1_9 : decode prog_52_method_2_code 9 = .ok (.ldc2_w 9, 3) := by decide +kernel
theorem d1_12 : decode prog_52_method_2_code 12 = .ok (.dcmp .g, 1) := by decide +kernel
theorem d1_13 : decode prog_52_method_2_code 13 = .ok (.ifCond .le 17, 3) := by decide +kernel
theorem d1_30 : decode prog_52_method_2_code 30 = .ok (.dload_n 2, 1) := by decide +kernel
theorem d1_31 : decode prog_52_method_2_code 31 = .ok (.ldc2_w 20, 3) := by decide +kernel
theorem d1_34 : decode prog_52_method_2_code 34 = .ok (.dcmp .l, 1) := by decide +kernel
theorem d1_35 : decode prog_52_method_2_code 35 = .ok (.ifCond .lt 11, 3) := by decide +kernel
theorem d1_38 : decode prog_52_method_2_code 38 = .ok (.dload_n 2, 1) := by decide +kernel
theorem d1_39 : decode prog_52_method_2_code 39 = .ok (.ldc2_w 22, 3) := by decide +kernel
theorem d1_42 : decode prog_52_method_2_code 42 = .ok (.dcmp .g, 1) := by decide +kernel
theorem d1_43 : decode prog_52_method_2_code 43 = .ok (.ifCond .le 17, 3) := by decide +kernel
theorem d1_60 : decode prog_52_method_2_code 60 = .ok (.return_, 1) := by decide +kernel
theorem pn_com_example_luoshu_luoshu_util_Positions : plainName "com/example/luoshu/luoshu/util/Positions" = true := by first | (simp [plainName, overriddenIn]; done) | decide +kernel
theorem ef_1_00 (m : MethodId) (x0 : UInt64) (x1 : UInt64) : entryFrame m #[(.double x0), (.double x1)] 4 = mkF m 0 #[.val (.double x0), .second, .val (.double x1), .second] [] := by first | (simp [entryFrame, mkF, argsToLocals, Value.category]; done) | rfl
def Q1 (Z : State) (u0 : UInt64) (u1 : UInt64) (n1 : Int) (n2 : Int) (h0 : Heap) (n0 : Nat) (v : Option Value) (h : Heap) (L : List Loc) : Prop := v = none ∧ Fr n0 L ∧ h = h0
set_option maxRecDepth 65536 in
set_option maxHeartbeats 40000000 in
theorem rm1 (l : Launch) (Z : State) (a0 : Array Value) (hw : ∀ d ∈ tables_1, d.before a0 Z = true) (ws : List Jvm.Cond) (u0 : UInt64) (u1 : UInt64) (n1 : Int) (n2 : Int) (h0 : Heap) (n0 : Nat) (Z0 : n0 ≤ h0.size) (V1 : own_val u0 n1 8) (V2 : own_val u1 n2 8) (b1 : -46080 ≤ n1 ∧ n1 ≤ 46080) (b2 : -23040 ≤ n2 ∧ n2 ≤ 23040) :
    MetFree l (⟨"com/example/luoshu/luoshu/util/Positions", "requireValid", "(DD)V"⟩ : MethodName) (head1 (Jvm.Cond.code (⟨"com/example/luoshu/luoshu/util/Positions", "requireValid", "(DD)V"⟩ : MethodName) prog_52_method_2_code 4 none :: ws) ({ frames := 0, cells := 0, slots := 0, locals := 0 } : Room)) (fun a U => a = #[(.double u0), (.double u1)] ∧ Z.Warmed39 U.vm ∧ U.heap = h0) (fun _ _ _ _ _ => True) (fun _ U o U' => ∃ v L, o = .returned v ∧ Q1 Z u0 u1 n1 n2 h0 n0 v U'.heap L ∧ FrameEnd U o U' L ({ frames := 0, cells := 0, slots := 0, locals := 0 } : Room).cells ({ frames := 0, cells := 0, slots := 0, locals := 0 } : Room).slots) := by
  refine MetFree.of_bodySF (plainFor_of_name pn_com_example_luoshu_luoshu_util_Positions) hisR ?_
  intro p e s m args below meth c s₁ Bd hml0 hP hK
  obtain ⟨rfl, hZ, hh⟩ := hP
  have hx := Bd.exec
  have hby := Bd.bytes
  have hlk : meth.locks = false := Bd.notSynchronized
  have hml : c.maxLocals = 4 := hml0
  have hown : s.vm.findClass "com/example/luoshu/luoshu/util/Positions" = some m.cls := findClass_of_methodNamed Bd.named
  have hnm := (name_of_methodNamed Bd.named Bd.method).1
  have X0 : Stand p l e ({ frames := 0, cells := 0, slots := 0, locals := 0 } : Room) s m #[(.double u0), (.double u1)] below meth c s₁ [] 0 0 := Stand.of_body Bd
  have e0 : s₁.heap = h0 := by rw [← hh, Bd.state]; rfl
  have N0 := Fr.nil n0
  have K0 : Keep h0 h0 [] := Keep.refl h0 _
  show Wp p e below (Out s (Q1 Z u0 u1 n1 n2 h0 n0) ({ frames := 0, cells := 0, slots := 0, locals := 0 } : Room).cells ({ frames := 0, cells := 0, slots := 0, locals := 0 } : Room).slots) (s₁.setTop (entryFrame m #[(.double u0), (.double u1)] 4))
  rw [ef_1_00]
  show Wp p e below _ (s₁.setTop (mkF m 0 #[.val (.double u0), .second, .val (.double u1), .second] []))
  refine Wp.step (fun t k => own_dloadN X0.here hx rfl (hb hby d1_0) rfl k) ?_
  show Wp p e below _ (s₁.setTop (mkF m 1 #[.val (.double u0), .second, .val (.double u1), .second] [(.double u0)]))
  refine Wp.step (X0.ldc2DoubleC hx hown (mvT hZ (hw _ (List.mem_of_getElem? (i := 6) rfl))) (g := (mkF m 1 #[.val (.double u0), .second, .val (.double u1), .second] [(.double u0)])) rfl (hb hby d1_1)) ?_
  show Wp p e below _ (s₁.setTop (mkF m 4 #[.val (.double u0), .second, .val (.double u1), .second] [(.double (13863909240395005952 : UInt64)), (.double u0)]))
  refine Wp.step (fun t k => own_dcmp X0.here hx rfl (hb hby d1_4) rfl k) ?_
  show Wp p e below _ (s₁.setTop (mkF m 5 #[.val (.double u0), .second, .val (.double u1), .second] [(.int (cmpValue (FP.dcmp u0 (13863909240395005952 : UInt64)) .l))]))
  refine Wp.step (fun t k => XS.ifNo X0.here hx rfl (hb hby d1_5) rfl ((if0 _ _).trans (flt (show ¬ ((cmpValue (FP.dcmp u0 (13863909240395005952 : UInt64)) .l) < (0 : Int32)) from (fun q => absurd ((own_ord_lt _ _ _).mp (own_cmp V1 (own_val_up own_cm180) ▸ q)) (by omega)))).1) k) ?_
  show Wp p e below _ (s₁.setTop (mkF m 8 #[.val (.double u0), .second, .val (.double u1), .second] []))
  refine Wp.step (fun t k => own_dloadN X0.here hx rfl (hb hby d1_8) rfl k) ?_
  show Wp p e below _ (s₁.setTop (mkF m 9 #[.val (.double u0), .second, .val (.double u1), .second] [(.double u0)]))
  refine Wp.step (X0.ldc2DoubleC hx hown (mvT hZ (hw _ (List.mem_of_getElem? (i := 7) rfl))) (g := (mkF m 9 #[.val (.double u0), .second, .val (.double u1), .second] [(.double u0)])) rfl (hb hby d1_9)) ?_
  show Wp p e below _ (s₁.setTop (mkF m 12 #[.val (.double u0), .second, .val (.double u1), .second] [(.double (4640537203540230144 : UInt64)), (.double u0)]))
  refine Wp.step (fun t k => own_dcmp X0.here hx rfl (hb hby d1_12) rfl k) ?_
  show Wp p e below _ (s₁.setTop (mkF m 13 #[.val (.double u0), .second, .val (.double u1), .second] [(.int (cmpValue (FP.dcmp u0 (4640537203540230144 : UInt64)) .g))]))
  refine Wp.step (fun t k => XS.ifYes X0.here hx rfl (pc0 := 13) (pc' := 30) rfl (hb hby d1_13) rfl ((if0 _ _).trans (flt (show ¬ ((0 : Int32) < (cmpValue (FP.dcmp u0 (4640537203540230144 : UInt64)) .g)) from (fun q => absurd ((own_ord_gt _ _ _).mp (own_cmp V1 (own_val_up own_c180) ▸ q)) (by omega)))).2.2.2) (by decide) (by decide) k) ?_
  show Wp p e below _ (s₁.setTop (mkF m 30 #[.val (.double u0), .second, .val (.double u1), .second] []))
  refine Wp.step (fun t k => own_dloadN X0.here hx rfl (hb hby d1_30) rfl k) ?_
  show Wp p e below _ (s₁.setTop (mkF m 31 #[.val (.double u0), .second, .val (.double u1), .second] [(.double u1)]))
  refine Wp.step (X0.ldc2DoubleC hx hown (mvT hZ (hw _ (List.mem_of_getElem? (i := 8) rfl))) (g := (mkF m 31 #[.val (.double u0), .second, .val (.double u1), .second] [(.double u1)])) rfl (hb hby d1_31)) ?_
  show Wp p e below _ (s₁.setTop (mkF m 34 #[.val (.double u0), .second, .val (.double u1), .second] [(.double (13859405640767635456 : UInt64)), (.double u1)]))
  refine Wp.step (fun t k => own_dcmp X0.here hx rfl (hb hby d1_34) rfl k) ?_
  show Wp p e below _ (s₁.setTop (mkF m 35 #[.val (.double u0), .second, .val (.double u1), .second] [(.int (cmpValue (FP.dcmp u1 (13859405640767635456 : UInt64)) .l))]))
  refine Wp.step (fun t k => XS.ifNo X0.here hx rfl (hb hby d1_35) rfl ((if0 _ _).trans (flt (show ¬ ((cmpValue (FP.dcmp u1 (13859405640767635456 : UInt64)) .l) < (0 : Int32)) from (fun q => absurd ((own_ord_lt _ _ _).mp (own_cmp V2 (own_val_up own_cm90) ▸ q)) (by omega)))).1) k) ?_
  show Wp p e below _ (s₁.setTop (mkF m 38 #[.val (.double u0), .second, .val (.double u1), .second] []))
  refine Wp.step (fun t k => own_dloadN X0.here hx rfl (hb hby d1_38) rfl k) ?_
  show Wp p e below _ (s₁.setTop (mkF m 39 #[.val (.double u0), .second, .val (.double u1), .second] [(.double u1)]))
  refine Wp.step (X0.ldc2DoubleC hx hown (mvT hZ (hw _ (List.mem_of_getElem? (i := 9) rfl))) (g := (mkF m 39 #[.val (.double u0), .second, .val (.double u1), .second] [(.double u1)])) rfl (hb hby d1_39)) ?_
  show Wp p e below _ (s₁.setTop (mkF m 42 #[.val (.double u0), .second, .val (.double u1), .second] [(.double (4636033603912859648 : UInt64)), (.double u1)]))
  refine Wp.step (fun t k => own_dcmp X0.here hx rfl (hb hby d1_42) rfl k) ?_
  show Wp p e below _ (s₁.setTop (mkF m 43 #[.val (.double u0), .second, .val (.double u1), .second] [(.int (cmpValue (FP.dcmp u1 (4636033603912859648 : UInt64)) .g))]))
  refine Wp.step (fun t k => XS.ifYes X0.here hx rfl (pc0 := 43) (pc' := 60) rfl (hb hby d1_43) rfl ((if0 _ _).trans (flt (show ¬ ((0 : Int32) < (cmpValue (FP.dcmp u1 (4636033603912859648 : UInt64)) .g)) from (fun q => absurd ((own_ord_gt _ _ _).mp (own_cmp V2 (own_val_up own_c90) ▸ q)) (by omega)))).2.2.2) (by decide) (by decide) k) ?_
  show Wp p e below _ (s₁.setTop (mkF m 60 #[.val (.double u0), .second, .val (.double u1), .second] []))
  refine Wp.retV X0 hx Bd.returns (hb hby d1_60) hlk ?_ (by decide) (by decide)
  show Q1 Z u0 u1 n1 n2 h0 n0 none s₁.heap _
  rw [e0]
  exact ⟨rfl, N0, rfl⟩
theorem own_rem (x y : Int32) (k : Int) (hy : y.toInt = k + 1) (hk : 0 ≤ k) : -k ≤ (x % y).toInt ∧ (x % y).toInt ≤ k := by
  rw [Int32.toInt_mod, hy]
  have := tmod_bounds (a := x.toInt) (M := k + 1) (by omega)
  omega
theorem pd_28DD29V : parseMethodDescriptor "(DD)V" = some ⟨[.double, .double], none⟩ := by decide +kernel
theorem pn_com_example_luoshu_luoshu_util_PositionsRequireValidPinLaw : plainName "com/example/luoshu/luoshu/util/PositionsRequireValidPinLaw" = true := by first | (simp [plainName, overriddenIn]; done) | decide +kernel
theorem ef_0_00 (m : MethodId) (x0 : Int32) (x1 : Int32) : entryFrame m #[(.int x0), (.int x1)] maxLocals = mkF m 0 #[.val (.int x0), .val (.int x1), .unset, .unset, .unset, .unset] [] := by first | (simp [entryFrame, mkF, argsToLocals, Value.category, maxLocals]; done) | rfl
def Q0 (Z : State) (p0 : Int32) (p1 : Int32) (h0 : Heap) (n0 : Nat) (v : Option Value) (h : Heap) (L : List Loc) : Prop := v = some (.int 1) ∧ Fr n0 L
set_option maxRecDepth 65536 in
set_option maxHeartbeats 40000000 in
theorem rm0 (l : Launch) (Z : State) (a0 : Array Value) (hw : ∀ d ∈ tables_1, d.before a0 Z = true) (ws : List Jvm.Cond) (p0 : Int32) (p1 : Int32) (h0 : Heap) (n0 : Nat) (Z0 : n0 ≤ h0.size) :
    MetFree l x (head1 (Jvm.Cond.code x code maxLocals ret :: ws) room_1) (fun a U => a = #[(.int p0), (.int p1)] ∧ Z.Warmed39 U.vm ∧ U.heap = h0) (fun _ _ _ _ _ => True) (fun _ U o U' => ∃ v L, o = .returned v ∧ Q0 Z p0 p1 h0 n0 v U'.heap L ∧ FrameEnd U o U' L room_1.cells room_1.slots) := by
  refine MetFree.of_bodySF (plainFor_of_name pn_com_example_luoshu_luoshu_util_PositionsRequireValidPinLaw) hisR ?_
  intro p e s m args below meth c s₁ Bd hml0 hP hK
  obtain ⟨rfl, hZ, hh⟩ := hP
  have hx := Bd.exec
  have hby := Bd.bytes
  have hlk : meth.locks = false := Bd.notSynchronized
  have hml : c.maxLocals = 6 := hml0
  have hown : s.vm.findClass "com/example/luoshu/luoshu/util/PositionsRequireValidPinLaw" = some m.cls := findClass_of_methodNamed Bd.named
  have hnm := (name_of_methodNamed Bd.named Bd.method).1
  have X0 : Stand p l e room_1 s m #[(.int p0), (.int p1)] below meth c s₁ [] 0 0 := Stand.of_body Bd
  have e0 : s₁.heap = h0 := by rw [← hh, Bd.state]; rfl
  have N0 := Fr.nil n0
  have K0 : Keep h0 h0 [] := Keep.refl h0 _
  show Wp p e below (Out s (Q0 Z p0 p1 h0 n0) room_1.cells room_1.slots) (s₁.setTop (entryFrame m #[(.int p0), (.int p1)] maxLocals))
  rw [ef_0_00]
  show Wp p e below _ (s₁.setTop (mkF m 0 #[.val (.int p0), .val (.int p1), .unset, .unset, .unset, .unset] []))
  refine Wp.step (fun t k => XS.iloadN X0.here hx rfl (hb hby at_0) rfl k) ?_
  show Wp p e below _ (s₁.setTop (mkF m 1 #[.val (.int p0), .val (.int p1), .unset, .unset, .unset, .unset] [(.int p0)]))
  refine Wp.step (X0.ldcInt hx hown (mvT hZ (hw _ (List.mem_of_getElem? (i := 0) rfl))) (g := (mkF m 1 #[.val (.int p0), .val (.int p1), .unset, .unset, .unset, .unset] [(.int p0)])) rfl (hb hby at_1)) ?_
  show Wp p e below _ (s₁.setTop (mkF m 3 #[.val (.int p0), .val (.int p1), .unset, .unset, .unset, .unset] [(.int (46081 : Int32)), (.int p0)]))
  refine Wp.step (fun t k => Jvm.RoadKit.iremM X0 hx rfl (hb hby at_3) rfl (by decide) k) ?_
  show Wp p e below _ (s₁.setTop (mkF m 4 #[.val (.int p0), .val (.int p1), .unset, .unset, .unset, .unset] [(.int (p0 % (46081 : Int32)))]))
  refine Wp.step (fun t k => own_i2d X0.here hx rfl (hb hby at_4) rfl k) ?_
  show Wp p e below _ (s₁.setTop (mkF m 5 #[.val (.int p0), .val (.int p1), .unset, .unset, .unset, .unset] [(.double (FP.i2d (p0 % (46081 : Int32))))]))
  refine Wp.step (X0.ldc2DoubleC hx hown (mvT hZ (hw _ (List.mem_of_getElem? (i := 1) rfl))) (g := (mkF m 5 #[.val (.int p0), .val (.int p1), .unset, .unset, .unset, .unset] [(.double (FP.i2d (p0 % (46081 : Int32))))])) rfl (hb hby at_5)) ?_
  show Wp p e below _ (s₁.setTop (mkF m 8 #[.val (.int p0), .val (.int p1), .unset, .unset, .unset, .unset] [(.double (4643211215818981376 : UInt64)), (.double (FP.i2d (p0 % (46081 : Int32))))]))
  refine Wp.step (fun t k => own_ddiv X0.here hx rfl (hb hby at_8) rfl (own_noNaN _) k) ?_
  show Wp p e below _ (s₁.setTop (mkF m 9 #[.val (.int p0), .val (.int p1), .unset, .unset, .unset, .unset] [(.double (FP.ddiv (FP.i2d (p0 % (46081 : Int32))) (4643211215818981376 : UInt64)))]))
  refine Wp.step (fun t k => own_dstoreN X0.here hx rfl (hb hby at_9) rfl (l' := #[.val (.int p0), .val (.int p1), .val (.double (FP.ddiv (FP.i2d (p0 % (46081 : Int32))) (4643211215818981376 : UInt64))), .second, .unset, .unset]) rfl k) ?_
  show Wp p e below _ (s₁.setTop (mkF m 10 #[.val (.int p0), .val (.int p1), .val (.double (FP.ddiv (FP.i2d (p0 % (46081 : Int32))) (4643211215818981376 : UInt64))), .second, .unset, .unset] []))
  refine Wp.step (fun t k => XS.iloadN X0.here hx rfl (hb hby at_10) rfl k) ?_
  show Wp p e below _ (s₁.setTop (mkF m 11 #[.val (.int p0), .val (.int p1), .val (.double (FP.ddiv (FP.i2d (p0 % (46081 : Int32))) (4643211215818981376 : UInt64))), .second, .unset, .unset] [(.int p1)]))
  refine Wp.step (fun t k => XS.sipush X0.here hx rfl (hb hby at_11) k) ?_
  show Wp p e below _ (s₁.setTop (mkF m 14 #[.val (.int p0), .val (.int p1), .val (.double (FP.ddiv (FP.i2d (p0 % (46081 : Int32))) (4643211215818981376 : UInt64))), .second, .unset, .unset] [(.int (23041 : Int32)), (.int p1)]))
  refine Wp.step (fun t k => Jvm.RoadKit.iremM X0 hx rfl (hb hby at_14) rfl (by decide) k) ?_
  show Wp p e below _ (s₁.setTop (mkF m 15 #[.val (.int p0), .val (.int p1), .val (.double (FP.ddiv (FP.i2d (p0 % (46081 : Int32))) (4643211215818981376 : UInt64))), .second, .unset, .unset] [(.int (p1 % (23041 : Int32)))]))
  refine Wp.step (fun t k => own_i2d X0.here hx rfl (hb hby at_15) rfl k) ?_
  show Wp p e below _ (s₁.setTop (mkF m 16 #[.val (.int p0), .val (.int p1), .val (.double (FP.ddiv (FP.i2d (p0 % (46081 : Int32))) (4643211215818981376 : UInt64))), .second, .unset, .unset] [(.double (FP.i2d (p1 % (23041 : Int32))))]))
  refine Wp.step (X0.ldc2DoubleC hx hown (mvT hZ (hw _ (List.mem_of_getElem? (i := 1) rfl))) (g := (mkF m 16 #[.val (.int p0), .val (.int p1), .val (.double (FP.ddiv (FP.i2d (p0 % (46081 : Int32))) (4643211215818981376 : UInt64))), .second, .unset, .unset] [(.double (FP.i2d (p1 % (23041 : Int32))))])) rfl (hb hby at_16)) ?_
  show Wp p e below _ (s₁.setTop (mkF m 19 #[.val (.int p0), .val (.int p1), .val (.double (FP.ddiv (FP.i2d (p0 % (46081 : Int32))) (4643211215818981376 : UInt64))), .second, .unset, .unset] [(.double (4643211215818981376 : UInt64)), (.double (FP.i2d (p1 % (23041 : Int32))))]))
  refine Wp.step (fun t k => own_ddiv X0.here hx rfl (hb hby at_19) rfl (own_noNaN _) k) ?_
  show Wp p e below _ (s₁.setTop (mkF m 20 #[.val (.int p0), .val (.int p1), .val (.double (FP.ddiv (FP.i2d (p0 % (46081 : Int32))) (4643211215818981376 : UInt64))), .second, .unset, .unset] [(.double (FP.ddiv (FP.i2d (p1 % (23041 : Int32))) (4643211215818981376 : UInt64)))]))
  refine Wp.step (fun t k => own_dstore X0.here hx rfl (hb hby at_20) rfl (l' := #[.val (.int p0), .val (.int p1), .val (.double (FP.ddiv (FP.i2d (p0 % (46081 : Int32))) (4643211215818981376 : UInt64))), .second, .val (.double (FP.ddiv (FP.i2d (p1 % (23041 : Int32))) (4643211215818981376 : UInt64))), .second]) rfl k) ?_
  show Wp p e below _ (s₁.setTop (mkF m 22 #[.val (.int p0), .val (.int p1), .val (.double (FP.ddiv (FP.i2d (p0 % (46081 : Int32))) (4643211215818981376 : UInt64))), .second, .val (.double (FP.ddiv (FP.i2d (p1 % (23041 : Int32))) (4643211215818981376 : UInt64))), .second] []))
  refine Wp.step (fun t k => own_dloadN X0.here hx rfl (hb hby at_22) rfl k) ?_
  show Wp p e below _ (s₁.setTop (mkF m 23 #[.val (.int p0), .val (.int p1), .val (.double (FP.ddiv (FP.i2d (p0 % (46081 : Int32))) (4643211215818981376 : UInt64))), .second, .val (.double (FP.ddiv (FP.i2d (p1 % (23041 : Int32))) (4643211215818981376 : UInt64))), .second] [(.double (FP.ddiv (FP.i2d (p0 % (46081 : Int32))) (4643211215818981376 : UInt64)))]))
  refine Wp.step (fun t k => own_dload X0.here hx rfl (hb hby at_23) rfl k) ?_
  show Wp p e below _ (s₁.setTop (mkF m 25 #[.val (.int p0), .val (.int p1), .val (.double (FP.ddiv (FP.i2d (p0 % (46081 : Int32))) (4643211215818981376 : UInt64))), .second, .val (.double (FP.ddiv (FP.i2d (p1 % (23041 : Int32))) (4643211215818981376 : UInt64))), .second] [(.double (FP.ddiv (FP.i2d (p1 % (23041 : Int32))) (4643211215818981376 : UInt64))), (.double (FP.ddiv (FP.i2d (p0 % (46081 : Int32))) (4643211215818981376 : UInt64)))]))
  obtain ⟨_, _, ⟨T1, L1, k1, n1⟩, -, X1, ⟨Lc1, hQ1, l1, y1, z1⟩, st1⟩ := Jvm.LawKit.callS X0 hx (y := (⟨"com/example/luoshu/luoshu/util/Positions", "requireValid", "(DD)V"⟩ : MethodName)) hown (mvT hZ (hw _ (List.mem_of_getElem? (i := 2) rfl))) (mvT hZ (hw _ (List.mem_of_getElem? (i := 3) rfl))) (mvT hZ (hw _ (List.mem_of_getElem? (i := 4) rfl))) (mvT hZ (hw _ (List.mem_of_getElem? (i := 5) rfl))) (by decide) (backOf (W := 0) (rm1 l Z a0 hw [] (FP.ddiv (FP.i2d (p0 % (46081 : Int32))) (4643211215818981376 : UInt64)) (FP.ddiv (FP.i2d (p1 % (23041 : Int32))) (4643211215818981376 : UInt64)) (p0 % (46081 : Int32)).toInt (p1 % (23041 : Int32)).toInt h0 n0 Z0 (own_div256 _) (own_div256 _) (own_rem _ _ 46080 (by decide) (by decide)) (own_rem _ _ 23040 (by decide) (by decide))) hZ (hw _ (List.mem_of_getElem? (i := 5) rfl)) (hw _ (List.mem_of_getElem? (i := 4) rfl)) (by decide) (by decide)) (g := (mkF m 25 #[.val (.int p0), .val (.int p1), .val (.double (FP.ddiv (FP.i2d (p0 % (46081 : Int32))) (4643211215818981376 : UInt64))), .second, .val (.double (FP.ddiv (FP.i2d (p1 % (23041 : Int32))) (4643211215818981376 : UInt64))), .second] [(.double (FP.ddiv (FP.i2d (p1 % (23041 : Int32))) (4643211215818981376 : UInt64))), (.double (FP.ddiv (FP.i2d (p0 % (46081 : Int32))) (4643211215818981376 : UInt64)))])) rfl (by rw [hml]; rfl) (argsL := [(.double (FP.ddiv (FP.i2d (p0 % (46081 : Int32))) (4643211215818981376 : UInt64))), (.double (FP.ddiv (FP.i2d (p1 % (23041 : Int32))) (4643211215818981376 : UInt64)))]) (rest := []) (lenOf pd_28DD29V rfl) rfl (by show 2 * 0 + _ ≤ _; exact Nat.le_of_eq rfl) (hb hby at_25) (fun _ _ => ⟨rfl, e0, (by decide : 0 + 0 ≤ _), (by decide : 0 + 0 ≤ _)⟩)
  dsimp only [Pt.U, Pt.locs, Pt.cells, Pt.slots] at X1 l1 y1 z1 st1 hQ1
  subst l1 y1 z1
  obtain ⟨rfl, N1q, e1⟩ := hQ1
  have N1 := Fr.app N0 N1q
  refine Wp.step st1 ?_
  show Wp p e below _ (T1.setTop (mkF m 28 #[.val (.int p0), .val (.int p1), .val (.double (FP.ddiv (FP.i2d (p0 % (46081 : Int32))) (4643211215818981376 : UInt64))), .second, .val (.double (FP.ddiv (FP.i2d (p1 % (23041 : Int32))) (4643211215818981376 : UInt64))), .second] []))
  refine Wp.step (fun t k => XS.iconst X1.here hx rfl (hb hby at_28) k) ?_
  show Wp p e below _ (T1.setTop (mkF m 29 #[.val (.int p0), .val (.int p1), .val (.double (FP.ddiv (FP.i2d (p0 % (46081 : Int32))) (4643211215818981376 : UInt64))), .second, .val (.double (FP.ddiv (FP.i2d (p1 % (23041 : Int32))) (4643211215818981376 : UInt64))), .second] [(.int (1 : Int32))]))
  refine Wp.retN X1 hx (t := .boolean) Bd.returns (by simp) (hb hby at_29) hlk ?_ (by decide) (by decide)
  show Q0 Z p0 p1 h0 n0 (some (.int (nar .boolean (1 : Int32)))) T1.heap _
  rw [e1]
  exact ⟨rfl, N1⟩
set_option maxRecDepth 65536 in
set_option maxHeartbeats 40000000 in
theorem comes_1 {Post : Tables → Env → Array Value → State → Outcome → State → Prop} (hpost : ∀ tb e args s v u, (limb_1_1.after args s (.returned v) u = true ∧ limb_1_2.after args s (.returned v) u = true ∧ True) → FrameEnd s (.returned v) u (Jvm.fieldLocs frame_1_writes args s ++ Jvm.arrayLocs frame_1_arrays args s ++ Jvm.staticLocs frame_1_statics s) 0 0 → Post tb e args s (.returned v) u) :
    ArmFor flags0 classFile x code maxLocals ret World_1 tables_1 room_1 Calls_1 rest_1 Pre_1 Post := by
  intro l hfl _ _ p e ha hc hk s m args below hf hA hF happ hP
  obtain ⟨hcalls, hrest, hpre⟩ := hP
  obtain ⟨-, -, -, hnamed, -, -, -, hat⟩ := (Spec.applies_iff hf).mp happ
  obtain ⟨hg, hn⟩ := and_e (Cond.before_iff.mp (show (Jvm.Cond.and given_1 narrow_1).before args s = true from hpre))
  obtain ⟨hcnt, hr0⟩ := and_e hg
  obtain ⟨hi0, hi1⟩ := and_e hr0
  obtain ⟨w0, w1, rfl⟩ : ∃ w0 w1 : Value, args = #[w0, w1] := by
    have hs : args.size = 2 := by simpa [Cond.value, given_1] using hcnt
    obtain ⟨L⟩ := args
    match L, hs with
    | [w0, w1], _ => exact ⟨w0, w1, rfl⟩
  have hw := fun d (hd : d ∈ tables_1) => atoms_spec (ws := Jvm.Cond.code x code maxLocals ret :: tables_1) hat d (List.mem_cons_of_mem _ hd)
  have hfit : Fit s := fun {y c} hc i hi => by
    obtain ⟨ha, rfl⟩ := Array.getElem?_eq_some_iff.mp hc
    have q := List.all_eq_true.mp ((Array.all_eq_true_iff_forall_mem.mp hF) _ (Array.getElem_mem ha)) i (List.mem_range.mpr hi)
    simpa [Array.getElem?_eq_getElem hi] using q
  obtain ⟨i0, ei0⟩ := is_v hi0
  obtain rfl : w0 = (.int i0) := Option.some.inj ei0
  obtain ⟨i1, ei1⟩ := is_v hi1
  obtain rfl : w1 = (.int i1) := Option.some.inj ei1
  obtain ⟨n, o, h1, h2, h3, _, L, rfl, ⟨rfl, N⟩, hq⟩ := rm0 l s _ hw tables_1 i0 i1 s.heap s.heap.size (Nat.le_refl _)  p e ha hc hk s m _ below hf ((Spec.applies_iff_loose hf).mp happ).1 ⟨rfl, State.Warmed39.refl s, rfl⟩ trivial
  refine ⟨n, _, h1, h2, h3, hpost _ _ _ _ _ _ ⟨Cond.after_iff.mpr rfl, Cond.after_iff.mpr (eq_i res_at (Term.int_eval (1)) rfl), trivial⟩ ⟨hq.1, hq.2.1, (hq.2.2.sift fun y hy => Or.inr (N y hy)).mono (by decide) (by decide)⟩⟩
theorem main_1_1 : Claimed_1_1 := comes_1 fun _ _ _ _ _ _ h hF => ⟨h.1, hF⟩
theorem main_1_2 : Claimed_1_2 := comes_1 fun _ _ _ _ _ _ h hF => ⟨h.2.1, hF⟩
end Jvm.Pilot.@@N@@
namespace Jvm.Pilot.@@N@@
open Jvm Jvm.ClassFile Sem Op Lib Jvm.Free Jvm.Stand Jvm.Pilot.@@N@@.Jvm.D
/-! MADE BY PROGRAM (witnessworld.py) out of the Statement's table words and the real class files: 9 classes; the members and pool entries that the words name. The judged class is class 1, her method 1. -/
namespace start1
open Jvm.ClassFile
def u (s : String) : CpInfo := .utf8 (stringToUtf16 s)
/-- a pool by its gaps: so many unusable entries, then the entry; so many at the end -/
def gap : Nat → List CpInfo → List CpInfo
  | 0, r => r
  | n + 1, r => .unusable :: gap n r
def poolList (es : List (Nat × CpInfo)) (last : Nat) : List CpInfo := es.foldr (fun e r => gap e.1 (e.2 :: r)) (gap last [])
def pool (es : List (Nat × CpInfo)) (last : Nat) : Array CpInfo := ⟨poolList es last⟩
def fileOf (pool : Array CpInfo) (this : Nat) (attrs : Array Attribute := #[]) (ms : Array MethodInfo := #[]) (fl : Nat := 33) (sup : Nat := 0) (ifs : Array Nat := #[]) (fds : Array FieldInfo := #[]) : ClassFile where
  minorVersion := 0
  majorVersion := 65
  constantPool := pool
  accessFlags := fl
  thisClass := this
  superClass := sup
  interfaces := ifs
  fields := fds
  methods := ms
  attributes := attrs
def plain (name : String) (sup : Option ClassId) : Class where
  name := name
  kind := .ordinary
  loader := none
  accessFlags := 33
  super := sup
  interfaces := #[]
  cf := none
  fields := #[]
  methods := #[]
  instanceTypes := #[]
  staticTypes := #[]
  resolved := #[]
  callSites := []
  init := .initialized
  statics := none
  mirror := none

def pool0 : Array CpInfo := pool [(5, u "<init>"), (0, u "()V"), (1, .class_ 10), (1, u "java/lang/Object")] 113

def k0m0 : Method := { name := "<init>", desc := "()V", sig := { parameters := [], returnType := none }, accessFlags := 1, code := none }
/-- java/lang/Object -/
def k0 : Class := { plain "java/lang/Object" none with
  accessFlags := 33
  interfaces := #[]
  cf := some (fileOf pool0 8 #[] #[{ accessFlags := 1, nameIndex := 5, descriptorIndex := 6, attributes := #[] }] 33 0 #[] #[])
  fields := #[]
  methods := #[k0m0]
  instanceTypes := #[]
  staticTypes := #[]
  resolved := Array.replicate 124 none
  statics := none }

def pool1 : Array CpInfo := pool [(2, .class_ 4), (1, u "java/lang/Object"), (0, u "<init>"), (0, u "()V"), (0, .integer 46081), (0, .double 4643211215818981376), (1, .methodref 11 12), (0, .class_ 13), (0, .nameAndType 14 15), (0, u "com/example/luoshu/luoshu/util/Positions"), (0, u "requireValid"), (0, u "(DD)V"), (0, .class_ 17), (0, u "com/example/luoshu/luoshu/util/PositionsRequireValidPinLaw"), (2, u "law"), (0, u "(II)Z")] 2

def k1m0 : Method := { name := "<init>", desc := "()V", sig := { parameters := [], returnType := none }, accessFlags := 2, code := none }
def k1c1 : Code := { maxStack := 4, maxLocals := 6, code := code, exceptionTable := #[], attributes := #[] }
def k1m1 : Method := { name := "law", desc := "(II)Z", sig := { parameters := [.int, .int], returnType := some .boolean }, accessFlags := 9, code := some k1c1 }
/-- com/example/luoshu/luoshu/util/PositionsRequireValidPinLaw -/
def k1 : Class := { plain "com/example/luoshu/luoshu/util/PositionsRequireValidPinLaw" (some 0) with
  accessFlags := 49
  interfaces := #[]
  cf := some (fileOf pool1 16 #[] #[{ accessFlags := 2, nameIndex := 5, descriptorIndex := 6, attributes := #[] }, { accessFlags := 9, nameIndex := 20, descriptorIndex := 21, attributes := #[] }] 49 2 #[] #[])
  fields := #[]
  methods := #[k1m0, k1m1]
  instanceTypes := #[]
  staticTypes := #[]
  resolved := Array.replicate 24 none
  statics := none }

def pool2 : Array CpInfo := pool [(2, .class_ 4), (1, u "java/lang/Object"), (0, u "<init>"), (0, u "()V"), (0, .double 13863909240395005952), (1, .double 4640537203540230144), (10, .double 13859405640767635456), (1, .double 4636033603912859648), (16, .class_ 40), (0, u "com/example/luoshu/luoshu/util/Positions"), (14, u "EARTH_RADIUS"), (0, u "D"), (5, u "requireValid"), (0, u "(DD)V")] 22

def k2m0 : Method := { name := "<init>", desc := "()V", sig := { parameters := [], returnType := none }, accessFlags := 2, code := none }
def k2c1 : Code := { maxStack := 4, maxLocals := 4, code := prog_52_method_2_code, exceptionTable := #[], attributes := #[] }
def k2m1 : Method := { name := "requireValid", desc := "(DD)V", sig := { parameters := [.double, .double], returnType := none }, accessFlags := 9, code := some k2c1 }
/-- com/example/luoshu/luoshu/util/Positions -/
def k2 : Class := { plain "com/example/luoshu/luoshu/util/Positions" (some 0) with
  accessFlags := 49
  interfaces := #[]
  cf := some (fileOf pool2 39 #[] #[{ accessFlags := 2, nameIndex := 5, descriptorIndex := 6, attributes := #[] }, { accessFlags := 9, nameIndex := 62, descriptorIndex := 63, attributes := #[] }] 49 2 #[] #[{ accessFlags := 25, nameIndex := 55, descriptorIndex := 56, attributes := #[] }])
  fields := #[{ name := "EARTH_RADIUS", type := .double, accessFlags := 25, slot := 0, constantValue := 0 }]
  methods := #[k2m0, k2m1]
  instanceTypes := #[]
  staticTypes := #[.double]
  resolved := Array.replicate 86 none
  statics := none }

def pool3 : Array CpInfo := pool [(1, u "java/lang/Cloneable"), (0, .class_ 1), (0, u "java/lang/Object"), (0, .class_ 3)] 3

/-- java/lang/Cloneable -/
def k3 : Class := { plain "java/lang/Cloneable" (some 0) with
  accessFlags := 1537
  interfaces := #[]
  cf := some (fileOf pool3 2 #[] #[] 1537 4 #[] #[])
  fields := #[]
  methods := #[]
  instanceTypes := #[]
  staticTypes := #[]
  resolved := Array.replicate 8 none
  statics := none }

def pool4 : Array CpInfo := pool [(1, u "java/io/Serializable"), (0, .class_ 1), (0, u "java/lang/Object"), (0, .class_ 3)] 3

/-- java/io/Serializable -/
def k4 : Class := { plain "java/io/Serializable" (some 0) with
  accessFlags := 1537
  interfaces := #[]
  cf := some (fileOf pool4 2 #[] #[] 1537 4 #[] #[])
  fields := #[]
  methods := #[]
  instanceTypes := #[]
  staticTypes := #[]
  resolved := Array.replicate 8 none
  statics := none }

/-- the primitive byte -/
def k5 : Class := { plain "byte" none with kind := .primitive 'B', accessFlags := 0x411 }
/-- [B -/
def k6 : Class := { plain "[B" (some 0) with kind := .array 5 .byte, interfaces := #[3, 4], accessFlags := 1041 }

/-- the primitive int -/
def k7 : Class := { plain "int" none with kind := .primitive 'I', accessFlags := 0x411 }
/-- [I -/
def k8 : Class := { plain "[I" (some 0) with kind := .array 7 .int, interfaces := #[3, 4], accessFlags := 1041 }

def heap : Heap := #[]
def classes : Array Class := #[k0, k1, k2, k3, k4, k5, k6, k7, k8]
def interned : List (Array UInt16 × Addr) := []
def slotsUsed : Nat := 0
def theMethod : MethodId := ⟨1, 1⟩
def args0 : Array Value := #[.int 5, .int 300]
def aboutOver (below : List Frame) : State where
  vm := { classes := classes, interned := interned.toArray }
  heap := heap
  slotsUsed := slotsUsed
  threads := #[{ frames := .invoking theMethod args0 :: below }]
def below0 : List Frame := [.native { method := ⟨0, 0⟩, args := #[] }]
def about1 : State := aboutOver below0
def p0 : Program := .bare "" "" ""
def e0 : Env := launch0.env 0 0 0
theorem w_frames : about1.frames = Frame.invoking theMethod args0 :: below0 := rfl
set_option maxRecDepth 65536 in
theorem w_args : argsFit about1.vm theMethod args0 = true := by decide +kernel
set_option maxRecDepth 65536 in
theorem w_heap : heapFits about1 = true := by decide +kernel
set_option maxRecDepth 65536 in
theorem w_runnable : about1.curStatus? = some .runnable := by decide +kernel
set_option maxRecDepth 65536 in
theorem w_alone : about1.alone = true := by decide +kernel
set_option maxRecDepth 65536 in
theorem w_named : about1.methodNamed? x = some theMethod := by decide +kernel
set_option maxRecDepth 65536 in
theorem w_hears : about1.hears theMethod below0 = true := by decide +kernel
set_option maxRecDepth 65536 in
theorem w_ripe : about1.ripe theMethod args0 below0 = true := by decide +kernel
theorem w_running : about1.status = .running := rfl
set_option maxRecDepth 65536 in
theorem w_room : about1.hasRoom e0.platform room_1 = true :=
  launch0.hasRoom_least _ room_1 (by decide +kernel) (by decide +kernel) (by decide +kernel) (by decide +kernel) (by decide +kernel) (by decide +kernel)
theorem allAtoms_all (ts : List Jvm.Cond) (a : Array Jvm.Value) (st : Jvm.State) : (allAtoms ts).before a st = ts.all (fun c => c.before a st) := by
  induction ts with
  | nil => rfl
  | cons c t ih =>
    show (Jvm.Cond.and c (allAtoms t)).before a st = _
    rw [Jvm.Cond.before_and, ih, List.all_cons]
def words1 : List Jvm.Cond := Jvm.Cond.code x code maxLocals ret :: tables_1
/-- a 'code' word, met by the world's own term for the bytes: nothing is compared byte by byte -/
theorem code_word {y : MethodName} {bytes : ByteArray} {mx : Nat} {rt : Option FieldType} {a : Array Value} {s : State} {m : MethodId} {meth : Method} {c : Code} (h1 : s.methodNamed? y = some m) (h2 : s.vm.method? m = some meth) (h3 : meth.code = some c) (h4 : c.code = bytes)
    (h5 : (c.maxLocals == mx && c.exceptionTable.isEmpty && decide (c.maxStack ≤ mostOperands) && decide (meth.sig.returnType = rt) && !meth.locks && decide (parseMethodDescriptor y.desc = some meth.sig)) = true) : (Jvm.Cond.code y bytes mx rt).before a s = true := by
  simp only [Bool.and_eq_true, beq_iff_eq, Bool.not_eq_true', decide_eq_true_eq] at h5
  obtain ⟨⟨⟨⟨⟨g1, g2⟩, g3⟩, g4⟩, g5⟩, g6⟩ := h5
  simp [Cond.before, Cond.holds, Cond.value, h1, h2, h3, h4, g1, g2, g3, g4, g5, g6]
def isCode : Jvm.Cond → Bool
  | .code _ _ _ _ => true
  | _ => false
theorem all_split {L : List Jvm.Cond} {P : Jvm.Cond → Bool} (h1 : L.all (fun c => isCode c || P c) = true) (h2 : ∀ c ∈ L.filter isCode, P c = true) : L.all P = true := by
  refine List.all_eq_true.mpr fun c hc => ?_
  have h := List.all_eq_true.mp h1 c hc
  rcases Bool.eq_false_or_eq_true (isCode c) with hi | hi
  · exact h2 c (List.mem_filter.mpr ⟨hc, hi⟩)
  · simpa [hi] using h
set_option maxRecDepth 65536 in
theorem w_c0 : (Jvm.Cond.code x code maxLocals ret).before args0 about1 = true := code_word (m := ⟨1, 1⟩) (meth := k1m1) (c := k1c1) (by decide +kernel) rfl rfl rfl (by decide +kernel)
set_option maxRecDepth 65536 in
theorem w_c1 : (Jvm.Cond.code ({ cls := "com/example/luoshu/luoshu/util/Positions", name := "requireValid", desc := "(DD)V" } : Jvm.MethodName) prog_52_method_2_code (4 : Nat) (Option.none : Option Jvm.ClassFile.FieldType)).before args0 about1 = true := code_word (m := ⟨2, 1⟩) (meth := k2m1) (c := k2c1) (by decide +kernel) rfl rfl rfl (by decide +kernel)
def codes1 : List Jvm.Cond := [Jvm.Cond.code x code maxLocals ret, Jvm.Cond.code ({ cls := "com/example/luoshu/luoshu/util/Positions", name := "requireValid", desc := "(DD)V" } : Jvm.MethodName) prog_52_method_2_code (4 : Nat) (Option.none : Option Jvm.ClassFile.FieldType)]
set_option maxRecDepth 65536 in
theorem codes_eq : words1.filter isCode = codes1 := rfl
theorem w_codes : ∀ c ∈ words1.filter isCode, c.before args0 about1 = true := by
  rw [codes_eq]
  intro c hc
  simp only [codes1, List.mem_cons, List.not_mem_nil, or_false] at hc
  rcases hc with rfl | rfl
  · exact w_c0
  · exact w_c1
set_option maxRecDepth 65536 in
theorem w_t1 : words1.all (fun c => isCode c || c.before args0 about1) = true := by decide +kernel
theorem w_tables : (allAtoms (Jvm.Cond.code x code maxLocals ret :: tables_1)).before args0 about1 = true := by
  rw [allAtoms_all]
  show words1.all (fun c => c.before args0 about1) = true
  refine all_split ?_ w_codes
  rw [w_t1]
set_option maxRecDepth 65536 in
theorem w_case : (Jvm.Cond.and given_1 narrow_1).before args0 about1 = true := by decide +kernel
theorem w_applies : (headSpec (Jvm.Cond.code x code maxLocals ret :: tables_1) room_1).applies x e0.platform about1 = true :=
  (Spec.applies_iff w_frames).mpr ⟨w_running, w_runnable, w_alone, w_named, w_hears, w_ripe, w_room, w_tables⟩
theorem atStart : AtStart classFile x code maxLocals ret World_1 tables_1 room_1 Calls_1 rest_1 Pre_1 launch0 p0 e0 about1 theMethod args0 below0 :=
  ⟨lists_1, trivial, launch0.admits_env _ _ _, launch0.least_env, fairChoices_fair.cas, fairChoices_fair.clock, w_frames, w_args, w_heap, w_applies, trivial, trivial, w_case⟩
end start1
theorem witness_1 : WitnessClaimed_1 := ⟨start1.p0, start1.e0, start1.about1, start1.theMethod, start1.args0, start1.below0, start1.atStart⟩
end Jvm.Pilot.@@N@@
