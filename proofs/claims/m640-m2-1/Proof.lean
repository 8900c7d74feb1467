import JvmDerived
import JvmDerived.Pilot.@@N@@Statement
import JvmDerived.Pilot.@@N@@Code
set_option linter.unusedVariables false
set_option linter.unusedSimpArgs false
namespace Jvm.Pilot.@@N@@
open Jvm Jvm.ClassFile Sem Op Lib Jvm.Free Jvm.Stand Jvm.LawKit Jvm.RoadKit Bundle Jvm.Pilot.@@N@@.Jvm.D
/-! a run from here comes to the end of the invocation, and Q holds there -/
section OwnWp
variable {p : Program} {l : Launch} {e : Env} {R : Room} {s : State} {m : MethodId} {args : Array Value} {below : List Frame} {meth : Method} {c : Code} {T : State} {locs : List Loc} {cells slots : Nat}
def Wp (p : Program) (e : Env) (below : List Frame) (Q : Outcome → State → Prop) (A : State) : Prop := ∃ s₂ o, Steps p.tables e below A s₂ ∧ s₂.status = .running ∧ Ended s₂ below o ∧ Q o s₂
def Out (s : State) (Q : Option Value → Heap → List Loc → Prop) (k n : Nat) (o : Outcome) (t : State) : Prop := ∃ v L, o = .returned v ∧ Q v t.heap L ∧ FrameEnd s o t L k n
theorem Wp.step {Q : Outcome → State → Prop} {A B : State} (h : ∀ t, Steps p.tables e below B t → Steps p.tables e below A t) (k : Wp p e below Q B) : Wp p e below Q A := by
  obtain ⟨s₂, o, h1, h2⟩ := k; exact ⟨s₂, o, h _ h1, h2⟩
theorem Wp.go {Q : Outcome → State → Prop} {A B : State} (h : Steps p.tables e below A B) (k : Wp p e below Q B) : Wp p e below Q A := Wp.step (fun _ q => h.trans q) k
theorem Wp.out (X : Stand p l e R s m args below meth c T locs cells slots) {A : State} {v : Option Value} {Q : Option Value → Heap → List Loc → Prop} {k n : Nat} (hv : meth.sig.returnType = none → v = none) (hlk : meth.locks = false)
    (hs : ∀ fs, (∀ (f : JFrame) (acts : List Action), f.method = m → f.locked = none → f.entered = [] → (doReturn e (T.setTop f) acts v).1 = T.setFrames fs) → Steps p.tables e below A (T.setFrames fs)) (hQ : Q v T.heap locs) (hk : cells ≤ k) (hn : slots ≤ n) : Wp p e below (Out s Q k n) A := by
  obtain ⟨fs, hr, hrun, hended, hW, hsame⟩ := X.leave (v := v) hv hlk
  exact ⟨_, _, hs fs hr, hrun, hended, _, _, rfl, hQ, ⟨_, rfl⟩, hW, hsame.mono hk hn⟩
theorem Wp.retV (X : Stand p l e R s m args below meth c T locs cells slots) (hx : p.tables.exec = Jvm.exec) {pc : Nat} {Ls : Array Slot} {Q : Option Value → Heap → List Loc → Prop} {k n : Nat} (hret : meth.sig.returnType = none) (hd : decode c.code pc = .ok (.return_, 1)) (hlk : meth.locks = false)
    (hQ : Q none T.heap locs) (hk : cells ≤ k) (hn : slots ≤ n) : Wp p e below (Out s Q k n) (T.setTop (mkF m pc Ls [])) := Wp.out X (fun _ => rfl) hlk (fun fs hr => X.returnOut hx hret hd hr) hQ hk hn
theorem Wp.retN (X : Stand p l e R s m args below meth c T locs cells slots) (hx : p.tables.exec = Jvm.exec) {pc : Nat} {Ls : Array Slot} {z : Int32} {rest : List Value} {t : FieldType} {Q : Option Value → Heap → List Loc → Prop} {k n : Nat} (hret : meth.sig.returnType = some t) (ht : t = .boolean ∨ t = .byte ∨ t = .char ∨ t = .short) (hd : decode c.code pc = .ok (.ireturn, 1)) (hlk : meth.locks = false)
    (hQ : Q (some (.int (nar t z))) T.heap locs) (hk : cells ≤ k) (hn : slots ≤ n) : Wp p e below (Out s Q k n) (T.setTop (mkF m pc Ls (.int z :: rest))) := Wp.out X (fun h => by rw [hret] at h; cases h) hlk (fun fs hr => Jvm.RoadKit.retN X hx hret ht hd hr) hQ hk hn
theorem Wp.retI (X : Stand p l e R s m args below meth c T locs cells slots) (hx : p.tables.exec = Jvm.exec) {pc : Nat} {Ls : Array Slot} {z : Int32} {rest : List Value} {Q : Option Value → Heap → List Loc → Prop} {k n : Nat} (hret : meth.sig.returnType = some .int) (hd : decode c.code pc = .ok (.ireturn, 1)) (hlk : meth.locks = false)
    (hQ : Q (some (.int z)) T.heap locs) (hk : cells ≤ k) (hn : slots ≤ n) : Wp p e below (Out s Q k n) (T.setTop (mkF m pc Ls (.int z :: rest))) := Wp.out X (fun h => by rw [hret] at h; cases h) hlk (fun fs hr => Jvm.RoadKit.retOut X hx hret rfl (Or.inl ⟨rfl, Or.inl rfl, z, rfl⟩) hd hr) hQ hk hn
theorem Wp.retJ (X : Stand p l e R s m args below meth c T locs cells slots) (hx : p.tables.exec = Jvm.exec) {pc : Nat} {Ls : Array Slot} {z : Int64} {rest : List Value} {Q : Option Value → Heap → List Loc → Prop} {k n : Nat} (hret : meth.sig.returnType = some .long) (hd : decode c.code pc = .ok (.lreturn, 1)) (hlk : meth.locks = false)
    (hQ : Q (some (.long z)) T.heap locs) (hk : cells ≤ k) (hn : slots ≤ n) : Wp p e below (Out s Q k n) (T.setTop (mkF m pc Ls (.long z :: rest))) := Wp.out X (fun h => by rw [hret] at h; cases h) hlk (fun fs hr => Jvm.RoadKit.retOut X hx hret rfl (Or.inr (Or.inl ⟨rfl, rfl, z, rfl⟩)) hd hr) hQ hk hn
theorem Wp.retA (X : Stand p l e R s m args below meth c T locs cells slots) (hx : p.tables.exec = Jvm.exec) {pc : Nat} {Ls : Array Slot} {w : Value} {rest : List Value} {t : FieldType} {Q : Option Value → Heap → List Loc → Prop} {k n : Nat} (hret : meth.sig.returnType = some t) (hw : w.isRef = true) (hd : decode c.code pc = .ok (.areturn, 1)) (hlk : meth.locks = false)
    (hQ : Q (some w) T.heap locs) (hk : cells ≤ k) (hn : slots ≤ n) (ht : t.isReference = true := by rfl) : Wp p e below (Out s Q k n) (T.setTop (mkF m pc Ls (w :: rest))) := Wp.out X (fun h => by rw [hret] at h; cases h) hlk (fun fs hr => Jvm.RoadKit.retOut X hx hret (by cases t <;> first | (cases ht; done) | (cases w <;> first | (cases hw; done) | rfl)) (Or.inr (Or.inr (Or.inr (Or.inr ⟨rfl, ht, hw⟩)))) hd hr) hQ hk hn
end OwnWp
def own_T : Nat → Nat → Nat
  | 0, _ => 0
  | k + 1, v => own_T k v + 4 ^ k * (v / 2 ^ k % 2)
theorem own_T_lt : ∀ k v, 3 * own_T k v < 4 ^ k
  | 0, v => by simp [own_T]
  | k + 1, v => by
    have h := own_T_lt k v
    have q : v / 2 ^ k % 2 ≤ 1 := by omega
    have r : 4 ^ k * (v / 2 ^ k % 2) ≤ 4 ^ k := by
      calc 4 ^ k * (v / 2 ^ k % 2) ≤ 4 ^ k * 1 := Nat.mul_le_mul_left _ q
        _ = 4 ^ k := Nat.mul_one _
    simp only [own_T, Nat.pow_succ]
    omega
theorem own_T_step : ∀ k c d, d < 2 → own_T (k + 1) (2 * c + d) = 4 * own_T k c + d
  | 0, c, d, hd => by simp [own_T]; omega
  | k + 1, c, d, hd => by
    have ih := own_T_step k c d hd
    have e : (2 * c + d) / 2 ^ (k + 1) = c / 2 ^ k := by
      rw [Nat.pow_succ', ← Nat.div_div_eq_div_mul]
      congr 1; omega
    rw [own_T, ih, e]
    have m4 : 4 ^ (k + 1) * (c / 2 ^ k % 2) = 4 * (4 ^ k * (c / 2 ^ k % 2)) := by rw [Nat.pow_succ', Nat.mul_assoc]
    rw [m4]
    simp only [own_T]
    omega
theorem own_T_zero : ∀ k, own_T k 0 = 0
  | 0 => rfl
  | k + 1 => by simp [own_T, own_T_zero k]
theorem own_or_add {a b k : Nat} (h : b < 2 ^ k) : b ||| 2 ^ k * a = b + 2 ^ k * a := by
  rw [Nat.or_comm, ← Nat.two_pow_add_eq_or_of_lt h a, Nat.add_comm]
def own_f (k : Nat) (m : BitVec 64) (x : BitVec 64) : BitVec 64 := (x ||| x <<< k) &&& m
theorem own_f_or (k : Nat) (m x y : BitVec 64) : own_f k m (x ||| y) = own_f k m x ||| own_f k m y := by
  unfold own_f
  ext i hi
  simp only [BitVec.getElem_and, BitVec.getElem_or, BitVec.getElem_shiftLeft]
  by_cases q : i < k
  · simp [q]; cases x[i] <;> cases y[i] <;> cases m[i] <;> rfl
  · simp [q]; cases x[i] <;> cases y[i] <;> cases m[i] <;> cases x[i-k] <;> cases y[i-k] <;> rfl
def own_sp (x : BitVec 64) : BitVec 64 := own_f 1 6148914691236517205#64 (own_f 2 3689348814741910323#64 (own_f 4 1085102592571150095#64 (own_f 8 71777214294589695#64 (own_f 16 281470681808895#64 x))))
theorem own_sp_or (x y : BitVec 64) : own_sp (x ||| y) = own_sp x ||| own_sp y := by
  unfold own_sp; rw [own_f_or, own_f_or, own_f_or, own_f_or, own_f_or]
theorem own_sp_base : ∀ k : Fin 32, own_sp (BitVec.ofNat 64 (2 ^ k.val)) = BitVec.ofNat 64 (4 ^ k.val) := by decide +kernel
theorem own_sp_zero : own_sp 0#64 = 0#64 := by decide +kernel
theorem own_sp_T (v : Nat) : ∀ k, k ≤ 32 → (own_sp (BitVec.ofNat 64 (v % 2 ^ k))).toNat = own_T k v
  | 0, _ => by simp [Nat.mod_one, own_sp_zero, own_T]
  | k + 1, hk => by
    have ih := own_sp_T v k (by omega)
    have lt := own_T_lt k v
    have e : v % 2 ^ (k + 1) = v % 2 ^ k + 2 ^ k * (v / 2 ^ k % 2) := Nat.mod_pow_succ
    have hlt : v % 2 ^ k < 2 ^ k := Nat.mod_lt _ (Nat.two_pow_pos k)
    have b01 : v / 2 ^ k % 2 = 0 ∨ v / 2 ^ k % 2 = 1 := by omega
    rw [own_T]
    rcases b01 with b | b
    · rw [e, b, Nat.mul_zero, Nat.add_zero, Nat.mul_zero, Nat.add_zero]; exact ih
    · rw [e, b, Nat.mul_one, Nat.mul_one]
      have o : v % 2 ^ k + 2 ^ k = v % 2 ^ k ||| 2 ^ k := by
        have := own_or_add (a := 1) hlt
        rw [Nat.mul_one] at this; exact this.symm
      rw [o, BitVec.ofNat_or, own_sp_or, BitVec.toNat_or, ih, own_sp_base ⟨k, by omega⟩]
      have p4 : (4 : Nat) ^ k = 2 ^ (2 * k) := by rw [Nat.pow_mul]
      have pl : 4 ^ k < 2 ^ 64 := by rw [p4]; exact Nat.pow_lt_pow_right (by omega) (by omega)
      rw [BitVec.toNat_ofNat, Nat.mod_eq_of_lt pl]
      have q := own_or_add (a := 1) (b := own_T k v) (k := 2 * k) (by rw [← p4]; omega)
      rw [Nat.mul_one, ← p4] at q
      exact q
theorem own_T_or (c r : Nat) : ∀ k, (2 * own_T k c) ||| own_T k r = 2 * own_T k c + own_T k r
  | 0 => by simp [own_T]
  | k + 1 => by
    have ih := own_T_or c r k
    have l1 := own_T_lt k c
    have l2 := own_T_lt k r
    have p4 : (4 : Nat) ^ k = 2 ^ (2 * k) := by rw [Nat.pow_mul]
    have b1 : c / 2 ^ k % 2 = 0 ∨ c / 2 ^ k % 2 = 1 := by omega
    have b2 : r / 2 ^ k % 2 = 0 ∨ r / 2 ^ k % 2 = 1 := by omega
    have h1 : 2 * own_T k c < 2 ^ (2 * k) := by rw [← p4]; omega
    have h2 : own_T k r < 2 ^ (2 * k) := by rw [← p4]; omega
    have h3 : 2 * own_T k c + own_T k r < 2 ^ (2 * k) := by rw [← p4]; omega
    simp only [own_T]
    rw [p4, Nat.mul_add]
    have e1 : 2 * (2 ^ (2 * k) * (c / 2 ^ k % 2)) = 2 ^ (2 * k) * (2 * (c / 2 ^ k % 2)) := by rw [Nat.mul_left_comm]
    rw [e1]
    conv => lhs; rw [← own_or_add h1, ← own_or_add h2]
    have e2 : ∀ a b x y : Nat, (a ||| x) ||| (b ||| y) = (a ||| b) ||| (x ||| y) := fun a b x y => by
      rw [Nat.or_assoc, ← Nat.or_assoc x b y, Nat.or_comm x b, Nat.or_assoc b x y, ← Nat.or_assoc]
    conv => lhs; rw [e2, ih]
    have e3 : 2 ^ (2 * k) * (2 * (c / 2 ^ k % 2)) ||| 2 ^ (2 * k) * (r / 2 ^ k % 2) = 2 ^ (2 * k) * (2 * (c / 2 ^ k % 2) + r / 2 ^ k % 2) := by
      rcases b1 with b1 | b1 <;> rcases b2 with b2 | b2 <;> rw [b1, b2]
      · simp
      · simp
      · simp
      · have := own_or_add (a := 1) (b := 1) (k := 1) (by omega)
        rw [Nat.mul_one, Nat.mul_one]
        have m1 : 2 ^ (2 * k) < 2 ^ (2 * k + 1) := Nat.pow_lt_pow_right (by omega) (by omega)
        have w := own_or_add (a := 1) m1
        rw [Nat.or_comm, show 2 ^ (2 * k) * 2 = 2 ^ (2 * k + 1) * 1 by rw [Nat.pow_succ]; omega, w]
        rw [Nat.pow_succ]; omega
    conv => lhs; rw [e3, own_or_add h3, Nat.mul_add]
    omega
def own_st (k : Int32) (m x : Int64) : Int64 := (x ||| (x <<< (k &&& 0x3f).toInt64)) &&& m
def own_spread (u : Int32) : Int64 := own_st 1 6148914691236517205 (own_st 2 3689348814741910323 (own_st 4 1085102592571150095 (own_st 8 71777214294589695 (own_st 16 281470681808895 (u.toInt64 &&& 4294967295)))))
def own_lon (u : Int32) : Int32 := (u * 5 + 1) / 2
def own_lat (u : Int32) : Int32 := u * 5 / 2
def own_loop (col row : Int32) : Nat → Int32 → Int64 → Int32 → Int32 → Int64
  | 0, b, B, lo, la => B
  | f + 1, b, B, lo, la => if b % 2 = 0 then own_loop col row f (b + 1) ((B <<< ((1 : Int32) &&& 0x3f).toInt64) ||| ((((col.toUInt32 >>> ((lo + (-1 : Int32)) &&& 31).toUInt32).toInt32) &&& (1 : Int32)).toInt64)) (lo + (-1 : Int32)) la
    else own_loop col row f (b + 1) ((B <<< ((1 : Int32) &&& 0x3f).toInt64) ||| ((((row.toUInt32 >>> ((la + (-1 : Int32)) &&& 31).toUInt32).toInt32) &&& (1 : Int32)).toInt64)) lo (la + (-1 : Int32))
theorem own_mul5 {pr : Int32} (h0 : 0 ≤ pr.toInt) (h1 : pr.toInt ≤ 12) : (pr * 5).toInt = 5 * pr.toInt := by
  have q := c_imul pr 5; have e : (5 : Int32).toInt = 5 := by decide
  have r := rng32 (pr * 5)
  rw [e] at q; omega
theorem own_end {b pr : Int32} (hb : b.toInt + (0 : Nat) = 5 * pr.toInt) (h0 : 0 ≤ pr.toInt) (h1 : pr.toInt ≤ 12) : ¬ b < pr * 5 := by
  rw [Int32.lt_iff_toInt_lt, own_mul5 h0 h1]; omega
theorem own_more {b pr : Int32} {f : Nat} (hb : b.toInt + (f + 1 : Nat) = 5 * pr.toInt) (h0 : 0 ≤ pr.toInt) (h1 : pr.toInt ≤ 12) : b < pr * 5 := by
  rw [Int32.lt_iff_toInt_lt, own_mul5 h0 h1]; omega
theorem own_inc {b pr : Int32} {f : Nat} (hb : b.toInt + (f + 1 : Nat) = 5 * pr.toInt) (hb0 : 0 ≤ b.toInt) (h1 : pr.toInt ≤ 12) : (b + 1).toInt = b.toInt + 1 := by
  have q := c_iadd b 1; have e : (1 : Int32).toInt = 1 := by decide
  have r := rng32 (b + 1)
  omega
theorem own_hb {b pr : Int32} {f : Nat} (hb : b.toInt + (f + 1 : Nat) = 5 * pr.toInt) (hb0 : 0 ≤ b.toInt) (h0 : 0 ≤ pr.toInt) (h1 : pr.toInt ≤ 12) : (b + 1).toInt + (f : Nat) = 5 * pr.toInt := by
  rw [own_inc hb hb0 h1]; omega
theorem own_hb0 {b pr : Int32} {f : Nat} (hb : b.toInt + (f + 1 : Nat) = 5 * pr.toInt) (hb0 : 0 ≤ b.toInt) (h0 : 0 ≤ pr.toInt) (h1 : pr.toInt ≤ 12) : 0 ≤ (b + 1).toInt := by
  rw [own_inc hb hb0 h1]; omega
theorem own_start {pr : Int32} (h0 : 0 ≤ pr.toInt) : (0 : Int32).toInt + ((5 * pr.toNatClampNeg : Nat) : Int) = 5 * pr.toInt := by
  have e : (0 : Int32).toInt = 0 := by decide
  have q : pr.toInt = (pr.toNatClampNeg : Int) := nat_of (by rw [Int32.lt_iff_toInt_lt, e]; omega)
  rw [e]; omega
theorem own_st_bv (k : Int32) (j : Nat) (m x : Int64) (hk : ((k &&& 0x3f).toInt64.toBitVec.smod 64).toNat = j) : (own_st k m x).toBitVec = own_f j m.toBitVec x.toBitVec := by
  unfold own_st own_f
  rw [Int64.toBitVec_and, Int64.toBitVec_or, Int64.toBitVec_shiftLeft, BitVec.shiftLeft_eq', hk]
theorem own_nat32 (u : Int32) : (u.toBitVec.toNat : Int) = u.toInt % 4294967296 := by
  have h : u.toInt = u.toBitVec.toInt := rfl
  rw [h, BitVec.toInt_eq_toNat_bmod]
  have lt := u.toBitVec.isLt
  have := Int.bmod_emod (x := (u.toBitVec.toNat : Int)) (m := 2 ^ 32)
  omega
theorem own_nat64 (u : Int64) : (u.toBitVec.toNat : Int) = u.toInt % 18446744073709551616 := by
  have h : u.toInt = u.toBitVec.toInt := rfl
  rw [h, BitVec.toInt_eq_toNat_bmod]
  have lt := u.toBitVec.isLt
  have := Int.bmod_emod (x := (u.toBitVec.toNat : Int)) (m := 2 ^ 64)
  omega
theorem own_spread_T (u : Int32) : (own_spread u).toBitVec.toNat = own_T 32 u.toBitVec.toNat := by
  have e : (own_spread u).toBitVec = own_sp (u.toInt64 &&& 4294967295).toBitVec := by
    unfold own_spread own_sp
    rw [own_st_bv 1 1 _ _ (by decide), own_st_bv 2 2 _ _ (by decide), own_st_bv 4 4 _ _ (by decide), own_st_bv 8 8 _ _ (by decide), own_st_bv 16 16 _ _ (by decide)]
    rfl
  have m : (u.toInt64 &&& 4294967295).toBitVec = BitVec.ofNat 64 (u.toBitVec.toNat % 2 ^ 32) := by
    apply BitVec.eq_of_toNat_eq
    have q := c_maskL u.toInt64 4294967295 32 (by decide) (by decide)
    have r := own_nat64 (u.toInt64 &&& 4294967295)
    have w := own_nat32 u
    rw [c_i2l] at q
    have lt := u.toBitVec.isLt
    rw [BitVec.toNat_ofNat]
    omega
  rw [e, m, own_sp_T _ 32 (Nat.le_refl _)]
theorem own_bit (col q : Int32) (k : Nat) (hq : q.toInt = k) (hk : k < 32) : ((((col.toUInt32 >>> (q &&& 31).toUInt32).toInt32) &&& (1 : Int32)).toInt64).toInt = ((col.toBitVec.toNat / 2 ^ k % 2 : Nat) : Int) := by
  rw [c_i2l, c_mask _ 1 1 (by decide) (by decide)]
  have hy : (col.toUInt32 >>> (q &&& 31).toUInt32).toInt32.toBitVec.toNat = col.toBitVec.toNat / 2 ^ k := by
    show (col.toUInt32 >>> (q &&& 31).toUInt32).toNat = _
    rw [UInt32.toNat_shiftRight, Nat.shiftRight_eq_div_pow]
    have e : (q &&& 31).toUInt32.toNat % 32 = k := by
      show (q &&& 31).toBitVec.toNat % 32 = k
      have a := own_nat32 (q &&& 31)
      have b := c_mask q 31 5 (by decide) (by decide)
      omega
    rw [e]; rfl
  have a := own_nat32 (col.toUInt32 >>> (q &&& 31).toUInt32).toInt32
  rw [hy] at a
  have : ((col.toBitVec.toNat / 2 ^ k % 2 : Nat) : Int) = ((col.toBitVec.toNat / 2 ^ k : Nat) : Int) % 2 := by omega
  rw [this, a]
  omega
theorem own_push (B d : Int64) (D : Nat) (hd : d.toInt = (D : Int)) (h1 : D < 2) (hB : B.toBitVec.toNat < 2 ^ 62) : ((B <<< ((1 : Int32) &&& 0x3f).toInt64) ||| d).toBitVec.toNat = 2 * B.toBitVec.toNat + D := by
  have e : (((1 : Int32) &&& 0x3f).toInt64.toBitVec.smod 64).toNat = 1 := by decide
  have dn : d.toBitVec.toNat = D := by have := own_nat64 d; omega
  rw [Int64.toBitVec_or, Int64.toBitVec_shiftLeft, BitVec.shiftLeft_eq', e, BitVec.toNat_or, BitVec.toNat_shiftLeft, dn, Nat.shiftLeft_eq, Nat.mod_eq_of_lt (by omega), Nat.or_comm]
  have := own_or_add (a := B.toBitVec.toNat) (b := D) (k := 1) (by omega)
  rw [Nat.pow_one] at this ⊢
  rw [Nat.mul_comm, this]; omega
theorem own_T31 {x : Nat} (h : x < 2 ^ 31) : own_T 32 x = own_T 31 x := by
  rw [own_T, Nat.div_eq_of_lt h]; simp
def own_Bn (c r lo la b : Nat) : Nat := if b % 2 = 0 then 2 * own_T 32 (c / 2 ^ (lo - b / 2)) + own_T 32 (r / 2 ^ (la - b / 2)) else own_T 32 (c / 2 ^ (lo - (b + 1) / 2)) + 2 * own_T 32 (r / 2 ^ (la - b / 2))
theorem own_halve {c k : Nat} (hk : 0 < k) : c / 2 ^ (k - 1) = 2 * (c / 2 ^ k) + c / 2 ^ (k - 1) % 2 := by
  have e : c / 2 ^ k = c / 2 ^ (k - 1) / 2 := by
    rw [Nat.div_div_eq_div_mul, ← Nat.pow_succ]; congr 2; omega
  rw [e]; omega
theorem own_T_small {x : Nat} (h : x < 2 ^ 30) : own_T 32 x < 2 ^ 60 := by
  have e : own_T 32 x = own_T 30 x := by
    rw [own_T, Nat.div_eq_of_lt (by omega), own_T, Nat.div_eq_of_lt (by omega)]; simp
  have := own_T_lt 30 x
  rw [e]; omega
theorem own_T_half {c k : Nat} (hc : c < 2 ^ 30) (hk : 0 < k) : own_T 32 (c / 2 ^ (k - 1)) = 4 * own_T 32 (c / 2 ^ k) + c / 2 ^ (k - 1) % 2 := by
  have l : c / 2 ^ k ≤ c := Nat.div_le_self _ _
  rw [own_halve hk, own_T_step 31 _ _ (by omega), ← own_T31 (by omega), ← own_halve hk]
theorem own_dec {q : Int32} {k : Nat} (h : q.toInt = (k : Int)) (h1 : 1 ≤ k) : (q + (-1 : Int32)).toInt = ((k - 1 : Nat) : Int) := by
  have a := c_iadd q (-1); have r := rng32 (q + (-1)); have r2 := rng32 q; have m1 : ((-1 : Int32)).toInt = -1 := by decide
  omega
theorem own_i1 {bI : Int32} {b : Nat} (e2 : bI.toInt = (b : Int)) (hb : b < 60) : (bI + 1).toInt = ((b + 1 : Nat) : Int) := by
  have q := c_iadd bI 1; have e : (1 : Int32).toInt = 1 := by decide
  have r := rng32 (bI + 1)
  omega
theorem own_par {bI : Int32} {b : Nat} (e2 : bI.toInt = (b : Int)) : bI % 2 = 0 ↔ b % 2 = 0 := by
  rw [← Int32.toInt_inj]
  have q := (c_irem bI 2 2 (by decide)).1 (by omega)
  have e : (0 : Int32).toInt = 0 := by decide
  rw [q, e]; omega
theorem own_hB {c r : Nat} (hc : c < 2 ^ 30) (hr : r < 2 ^ 30) (lo la b : Nat) : own_Bn c r lo la b < 2 ^ 62 := by
  have tc : ∀ k, own_T 32 (c / 2 ^ k) < 2 ^ 60 := fun k => own_T_small (Nat.lt_of_le_of_lt (Nat.div_le_self _ _) hc)
  have tr : ∀ k, own_T 32 (r / 2 ^ k) < 2 ^ 60 := fun k => own_T_small (Nat.lt_of_le_of_lt (Nat.div_le_self _ _) hr)
  unfold own_Bn
  split
  · have a := tc (lo - b / 2); have d := tr (la - b / 2)
    generalize own_T 32 (c / 2 ^ (lo - b / 2)) = A at *; generalize own_T 32 (r / 2 ^ (la - b / 2)) = D at *; clear tc tr; omega
  · have a := tc (lo - (b + 1) / 2); have d := tr (la - b / 2)
    generalize own_T 32 (c / 2 ^ (lo - (b + 1) / 2)) = A at *; generalize own_T 32 (r / 2 ^ (la - b / 2)) = D at *; clear tc tr; omega
theorem own_spec (col row : Int32) (n lo la : Nat) (hn : n ≤ 60) (hlo : lo = (n + 1) / 2) (hla : la = n / 2) (hc : col.toBitVec.toNat < 2 ^ 30) (hr : row.toBitVec.toNat < 2 ^ 30) :
    ∀ (f b : Nat) (bI : Int32) (B : Int64) (loI laI : Int32), b + f = n → bI.toInt = (b : Int) → B.toBitVec.toNat = own_Bn col.toBitVec.toNat row.toBitVec.toNat lo la b → loI.toInt = ((lo - (b + 1) / 2 : Nat) : Int) → laI.toInt = ((la - b / 2 : Nat) : Int) →
    (own_loop col row f bI B loI laI).toBitVec.toNat = own_Bn col.toBitVec.toNat row.toBitVec.toNat lo la n := by
  intro f
  induction f with
  | zero => intro b bI B loI laI e1 e2 e3 e4 e5; rw [show n = b by omega]; exact e3
  | succ f ih =>
    intro b bI B loI laI e1 e2 e3 e4 e5
    have i1 := own_i1 e2 (by omega)
    have par := own_par e2
    have hB : B.toBitVec.toNat < 2 ^ 62 := by rw [e3]; exact own_hB hc hr _ _ _
    rw [own_loop]
    by_cases hp : b % 2 = 0
    · rw [if_pos (par.mpr hp)]
      have hq : (loI + (-1 : Int32)).toInt = ((lo - b / 2 - 1 : Nat) : Int) := by
        rw [show (b + 1) / 2 = b / 2 by clear e3 e4 e5 hB; omega] at e4
        exact own_dec e4 (by clear e3 e4 e5 hB; omega)
      refine ih (b + 1) _ _ _ _ (by clear e3 e4 e5 hB; omega) i1 ?_ ?_ ?_
      · rw [own_push _ _ _ (own_bit col _ _ hq (by clear e3 e4 e5 hB; omega)) (Nat.mod_lt _ (by decide)) hB, e3]
        clear e3 e4 e5 hB hq ih
        unfold own_Bn
        rw [if_pos hp, if_neg (by omega), show (b + 1 + 1) / 2 = b / 2 + 1 by omega, show (b + 1) / 2 = b / 2 by omega, show lo - (b / 2 + 1) = lo - b / 2 - 1 by omega, own_T_half hc (by omega)]
        generalize own_T 32 (col.toBitVec.toNat / 2 ^ (lo - b / 2)) = A
        generalize own_T 32 (row.toBitVec.toNat / 2 ^ (la - b / 2)) = D
        generalize col.toBitVec.toNat / 2 ^ (lo - b / 2 - 1) % 2 = G
        omega
      · rw [hq, show lo - (b + 1 + 1) / 2 = lo - b / 2 - 1 by clear e3 e4 e5 hB; omega]
      · rw [e5, show la - (b + 1) / 2 = la - b / 2 by clear e3 e4 e5 hB; omega]
    · rw [if_neg (fun q => hp (par.mp q))]
      have hq : (laI + (-1 : Int32)).toInt = ((la - b / 2 - 1 : Nat) : Int) := own_dec e5 (by clear e3 e4 e5 hB; omega)
      refine ih (b + 1) _ _ _ _ (by clear e3 e4 e5 hB; omega) i1 ?_ ?_ ?_
      · rw [own_push _ _ _ (own_bit row _ _ hq (by clear e3 e4 e5 hB; omega)) (Nat.mod_lt _ (by decide)) hB, e3]
        clear e3 e4 e5 hB hq ih
        unfold own_Bn
        rw [if_neg hp, if_pos (by omega), show (b + 1) / 2 = b / 2 + 1 by omega, show la - (b / 2 + 1) = la - b / 2 - 1 by omega, own_T_half hr (by omega)]
        generalize own_T 32 (col.toBitVec.toNat / 2 ^ (lo - (b / 2 + 1))) = A
        generalize own_T 32 (row.toBitVec.toNat / 2 ^ (la - b / 2)) = D
        generalize row.toBitVec.toNat / 2 ^ (la - b / 2 - 1) % 2 = G
        omega
      · rw [e4, show lo - (b + 1 + 1) / 2 = lo - (b + 1) / 2 by clear e3 e4 e5 hB; omega]
      · rw [hq, show la - (b + 1) / 2 = la - b / 2 - 1 by clear e3 e4 e5 hB; omega]
theorem own_whole {k0 p1 p2 zc zr : Int32} (h0 : 0 ≤ k0.toInt) (h1 : k0.toInt ≤ 12) (hc : (p1 &&& (((1 : Int32) <<< ((((k0 * 5) + 1) / 2) &&& 31)) - 1)) = zc) (hr : (p2 &&& (((1 : Int32) <<< (((k0 * 5) / 2) &&& 31)) - 1)) = zr) :
    ∃ n : Nat, (n : Int) = 5 * k0.toInt ∧ n ≤ 60 ∧ (own_loop zc zr (5 * k0.toNatClampNeg) 0 0 (own_lon k0) (own_lat k0)).toBitVec.toNat = own_Bn zc.toBitVec.toNat zr.toBitVec.toNat ((n + 1) / 2) (n / 2) n ∧ zc.toBitVec.toNat < 2 ^ 30 ∧ zr.toBitVec.toNat < 2 ^ 30 := by
  have cases : ∃ j : Fin 13, k0 = Int32.ofNat j.val := ⟨⟨k0.toNatClampNeg, by
      have q := nat_of (j := k0) (by rw [Int32.lt_iff_toInt_lt]; have e : (0 : Int32).toInt = 0 := by decide
                                     omega)
      omega⟩, by
      have q := nat_of (j := k0) (by rw [Int32.lt_iff_toInt_lt]; have e : (0 : Int32).toInt = 0 := by decide
                                     omega)
      rw [← Int32.toInt_inj]; show k0.toInt = (Int32.ofNat k0.toNatClampNeg).toInt
      rw [show (Int32.ofNat k0.toNatClampNeg) = k0.toNatClampNeg.toInt32 from rfl, len_toInt (by omega)]; exact q⟩
  obtain ⟨j, rfl⟩ := cases
  have bound : ∀ j : Fin 13, ((((1 : Int32) <<< ((((Int32.ofNat j.val * 5) + 1) / 2) &&& 31)) - 1)).toInt = (2 ^ ((5 * j.val + 1) / 2) - 1 : Int) ∧ ((((1 : Int32) <<< (((Int32.ofNat j.val * 5) / 2) &&& 31)) - 1)).toInt = (2 ^ ((5 * j.val) / 2) - 1 : Int) ∧ (2 : Int) ^ ((5 * j.val + 1) / 2) ≤ 2 ^ 30 ∧ (2 : Int) ^ ((5 * j.val) / 2) ≤ 2 ^ 30 ∧ 1 ≤ (2 : Int) ^ ((5 * j.val + 1) / 2) ∧ 1 ≤ (2 : Int) ^ ((5 * j.val) / 2) ∧
      (Int32.ofNat j.val).toInt = (j.val : Int) ∧ (Int32.ofNat j.val).toNatClampNeg = j.val ∧ (own_lon (Int32.ofNat j.val)).toInt = (((5 * j.val + 1) / 2 : Nat) : Int) ∧ (own_lat (Int32.ofNat j.val)).toInt = (((5 * j.val) / 2 : Nat) : Int) := by decide +kernel
  obtain ⟨b1, b2, b3, b4, b5, b6, b7, b8, b9, b10⟩ := bound j
  have c1 := c_and p1 _ (by rw [b1]; omega : 0 ≤ ((((1 : Int32) <<< ((((Int32.ofNat j.val * 5) + 1) / 2) &&& 31)) - 1)).toInt)
  have c2 := c_and p2 _ (by rw [b2]; omega : 0 ≤ ((((1 : Int32) <<< (((Int32.ofNat j.val * 5) / 2) &&& 31)) - 1)).toInt)
  rw [hc, b1] at c1
  rw [hr, b2] at c2
  have n1 := own_nat32 zc
  have n2 := own_nat32 zr
  have l1 : zc.toBitVec.toNat < 2 ^ 30 := by omega
  have l2 : zr.toBitVec.toNat < 2 ^ 30 := by omega
  have l3 : (zc.toBitVec.toNat : Int) < 2 ^ ((5 * j.val + 1) / 2) := by omega
  have l4 : (zr.toBitVec.toNat : Int) < 2 ^ ((5 * j.val) / 2) := by omega
  refine ⟨5 * j.val, by rw [b7]; omega, by omega, ?_, l1, l2⟩
  rw [b8]
  refine own_spec zc zr (5 * j.val) _ _ (by omega) rfl rfl l1 l2 (5 * j.val) 0 0 0 _ _ (by omega) (by decide) ?_ ?_ ?_
  · unfold own_Bn
    rw [if_pos (by decide)]
    have d1 : zc.toBitVec.toNat / 2 ^ ((5 * j.val + 1) / 2 - 0 / 2) = 0 := Nat.div_eq_of_lt (by show _ < 2 ^ ((5 * j.val + 1) / 2); exact_mod_cast l3)
    have d2 : zr.toBitVec.toNat / 2 ^ ((5 * j.val) / 2 - 0 / 2) = 0 := Nat.div_eq_of_lt (by show _ < 2 ^ ((5 * j.val) / 2); exact_mod_cast l4)
    rw [d1, d2, own_T_zero]; decide
  · rw [b9]; congr 1
  · rw [b10]; congr 1
theorem own_even {k0 p1 p2 zc zr : Int32} (h0 : 0 ≤ k0.toInt) (h1 : k0.toInt ≤ 12) (hc : (p1 &&& (((1 : Int32) <<< ((((k0 * 5) + 1) / 2) &&& 31)) - 1)) = zc) (hr : (p2 &&& (((1 : Int32) <<< (((k0 * 5) / 2) &&& 31)) - 1)) = zr) (he : ((k0 * 5) % 2) = 0) : own_loop zc zr (5 * k0.toNatClampNeg) 0 0 (own_lon k0) (own_lat k0) = (own_spread zc <<< ((1 : Int32) &&& 0x3f).toInt64) ||| own_spread zr := by
  obtain ⟨n, e1, e2, e3, l1, l2⟩ := own_whole h0 h1 hc hr
  have par : n % 2 = 0 := by
    rw [← Int32.toInt_inj, (c_irem (k0 * 5) 2 2 (by decide)).1 (by rw [own_mul5 h0 h1]; omega), own_mul5 h0 h1] at he
    have e : (0 : Int32).toInt = 0 := by decide
    omega
  apply Int64.toBitVec_inj.mp
  apply BitVec.eq_of_toNat_eq
  rw [e3]; unfold own_Bn
  rw [if_pos par, show (n + 1) / 2 - n / 2 = 0 by omega, Nat.sub_self, Nat.pow_zero, Nat.div_one, Nat.div_one]
  have e : (((1 : Int32) &&& 0x3f).toInt64.toBitVec.smod 64).toNat = 1 := by decide
  have s1 := own_T_small l1
  rw [Int64.toBitVec_or, Int64.toBitVec_shiftLeft, BitVec.shiftLeft_eq', e, BitVec.toNat_or, BitVec.toNat_shiftLeft, own_spread_T, own_spread_T, Nat.shiftLeft_eq, Nat.pow_one, Nat.mod_eq_of_lt (by omega), Nat.mul_comm _ 2]
  exact (own_T_or _ _ 32).symm
theorem own_odd {k0 p1 p2 zc zr : Int32} (h0 : 0 ≤ k0.toInt) (h1 : k0.toInt ≤ 12) (hc : (p1 &&& (((1 : Int32) <<< ((((k0 * 5) + 1) / 2) &&& 31)) - 1)) = zc) (hr : (p2 &&& (((1 : Int32) <<< (((k0 * 5) / 2) &&& 31)) - 1)) = zr) (he : ¬ ((k0 * 5) % 2) = 0) : own_loop zc zr (5 * k0.toNatClampNeg) 0 0 (own_lon k0) (own_lat k0) = own_spread zc ||| (own_spread zr <<< ((1 : Int32) &&& 0x3f).toInt64) := by
  obtain ⟨n, e1, e2, e3, l1, l2⟩ := own_whole h0 h1 hc hr
  have par : ¬ n % 2 = 0 := by
    rw [← Int32.toInt_inj, (c_irem (k0 * 5) 2 2 (by decide)).1 (by rw [own_mul5 h0 h1]; omega), own_mul5 h0 h1] at he
    have e : (0 : Int32).toInt = 0 := by decide
    omega
  apply Int64.toBitVec_inj.mp
  apply BitVec.eq_of_toNat_eq
  rw [e3]; unfold own_Bn
  rw [if_neg par, Nat.sub_self, Nat.sub_self, Nat.pow_zero, Nat.div_one, Nat.div_one]
  have e : (((1 : Int32) &&& 0x3f).toInt64.toBitVec.smod 64).toNat = 1 := by decide
  have s1 := own_T_small l2
  rw [Int64.toBitVec_or, Int64.toBitVec_shiftLeft, BitVec.shiftLeft_eq', e, BitVec.toNat_or, BitVec.toNat_shiftLeft, own_spread_T, own_spread_T, Nat.shiftLeft_eq, Nat.pow_one, Nat.mod_eq_of_lt (by omega), Nat.mul_comm _ 2, Nat.or_comm, own_T_or]
  omega

theorem d1_0 : decode method_2_code 0 = .ok (.iload_n 0, 1) := by decide +kernel
theorem d1_1 : decode method_2_code 1 = .ok (.i2l, 1) := by decide +kernel
theorem d1_2 : decode method_2_code 2 = .ok (.ldc2_w 7, 3) := by decide +kernel
theorem d1_5 : decode method_2_code 5 = .ok (.land, 1) := by decide +kernel
theorem d1_6 : decode method_2_code 6 = .ok (.lstore_n 1, 1) := by decide +kernel
theorem d1_7 : decode method_2_code 7 = .ok (.lload_n 1, 1) := by decide +kernel
theorem d1_8 : decode method_2_code 8 = .ok (.lload_n 1, 1) := by decide +kernel
theorem d1_9 : decode method_2_code 9 = .ok (.bipush 16, 2) := by decide +kernel
theorem d1_11 : decode method_2_code 11 = .ok (.lshl, 1) := by decide +kernel
theorem d1_12 : decode method_2_code 12 = .ok (.lor, 1) := by decide +kernel
theorem d1_13 : decode method_2_code 13 = .ok (.ldc2_w 9, 3) := by decide +kernel
theorem d1_16 : decode method_2_code 16 = .ok (.land, 1) := by decide +kernel
theorem d1_17 : decode method_2_code 17 = .ok (.lstore_n 1, 1) := by decide +kernel
theorem d1_18 : decode method_2_code 18 = .ok (.lload_n 1, 1) := by decide +kernel
theorem d1_19 : decode method_2_code 19 = .ok (.lload_n 1, 1) := by decide +kernel
theorem d1_20 : decode method_2_code 20 = .ok (.bipush 8, 2) := by decide +kernel
theorem d1_22 : decode method_2_code 22 = .ok (.lshl, 1) := by decide +kernel
theorem d1_23 : decode method_2_code 23 = .ok (.lor, 1) := by decide +kernel
theorem d1_24 : decode method_2_code 24 = .ok (.ldc2_w 11, 3) := by decide +kernel
theorem d1_27 : decode method_2_code 27 = .ok (.land, 1) := by decide +kernel
theorem d1_28 : decode method_2_code 28 = .ok (.lstore_n 1, 1) := by decide +kernel
theorem d1_29 : decode method_2_code 29 = .ok (.lload_n 1, 1) := by decide +kernel
theorem d1_30 : decode method_2_code 30 = .ok (.lload_n 1, 1) := by decide +kernel
theorem d1_31 : decode method_2_code 31 = .ok (.iconst 4, 1) := by decide +kernel
theorem d1_32 : decode method_2_code 32 = .ok (.lshl, 1) := by decide +kernel
theorem d1_33 : decode method_2_code 33 = .ok (.lor, 1) := by decide +kernel
theorem d1_34 : decode method_2_code 34 = .ok (.ldc2_w 13, 3) := by decide +kernel
theorem d1_37 : decode method_2_code 37 = .ok (.land, 1) := by decide +kernel
theorem d1_38 : decode method_2_code 38 = .ok (.lstore_n 1, 1) := by decide +kernel
theorem d1_39 : decode method_2_code 39 = .ok (.lload_n 1, 1) := by decide +kernel
theorem d1_40 : decode method_2_code 40 = .ok (.lload_n 1, 1) := by decide +kernel
theorem d1_41 : decode method_2_code 41 = .ok (.iconst 2, 1) := by decide +kernel
theorem d1_42 : decode method_2_code 42 = .ok (.lshl, 1) := by decide +kernel
theorem d1_43 : decode method_2_code 43 = .ok (.lor, 1) := by decide +kernel
theorem d1_44 : decode method_2_code 44 = .ok (.ldc2_w 15, 3) := by decide +kernel
theorem d1_47 : decode method_2_code 47 = .ok (.land, 1) := by decide +kernel
theorem d1_48 : decode method_2_code 48 = .ok (.lstore_n 1, 1) := by decide +kernel
theorem d1_49 : decode method_2_code 49 = .ok (.lload_n 1, 1) := by decide +kernel
theorem d1_50 : decode method_2_code 50 = .ok (.lload_n 1, 1) := by decide +kernel
theorem d1_51 : decode method_2_code 51 = .ok (.iconst 1, 1) := by decide +kernel
theorem d1_52 : decode method_2_code 52 = .ok (.lshl, 1) := by decide +kernel
theorem d1_53 : decode method_2_code 53 = .ok (.lor, 1) := by decide +kernel
theorem d1_54 : decode method_2_code 54 = .ok (.ldc2_w 17, 3) := by decide +kernel
theorem d1_57 : decode method_2_code 57 = .ok (.land, 1) := by decide +kernel
theorem d1_58 : decode method_2_code 58 = .ok (.lstore_n 1, 1) := by decide +kernel
theorem d1_59 : decode method_2_code 59 = .ok (.lload_n 1, 1) := by decide +kernel
theorem d1_60 : decode method_2_code 60 = .ok (.lreturn, 1) := by decide +kernel
theorem pn_com_example_luoshu_luoshu_util_GeohashBitsPinLaw : plainName "com/example/luoshu/luoshu/util/GeohashBitsPinLaw" = true := by first | (simp [plainName, overriddenIn]; done) | decide +kernel
theorem ef_1_0 (m : MethodId) (x0 : Int32) : entryFrame m #[(.int x0)] 3 = mkF m 0 #[.val (.int x0), .unset, .unset] [] := by first | (simp [entryFrame, mkF, argsToLocals, Value.category]; done) | rfl
def Q1 (Z : State) (u0 : Int32) (h0 : Heap) (n0 : Nat) (v : Option Value) (h : Heap) (L : List Loc) : Prop := v = some (.long (own_spread u0)) ∧ Fr n0 L ∧ h = h0
set_option maxRecDepth 65536 in
set_option maxHeartbeats 40000000 in
theorem rm1 (l : Launch) (Z : State) (a0 : Array Value) (hw : ∀ d ∈ tables_1, d.before a0 Z = true) (ws : List Jvm.Cond) (u0 : Int32) (h0 : Heap) (n0 : Nat) (Z0 : n0 ≤ h0.size) :
    MetFree l (⟨"com/example/luoshu/luoshu/util/GeohashBitsPinLaw", "spread", "(I)J"⟩ : MethodName) (head1 (Jvm.Cond.code (⟨"com/example/luoshu/luoshu/util/GeohashBitsPinLaw", "spread", "(I)J"⟩ : MethodName) method_2_code 3 (some .long) :: ws) ({ frames := 0, cells := 0, slots := 0, locals := 0 } : Room)) (fun a U => a = #[(.int u0)] ∧ Z.Warmed39 U.vm ∧ U.heap = h0) (fun _ _ _ _ _ => True) (fun _ U o U' => ∃ v L, o = .returned v ∧ Q1 Z u0 h0 n0 v U'.heap L ∧ FrameEnd U o U' L ({ frames := 0, cells := 0, slots := 0, locals := 0 } : Room).cells ({ frames := 0, cells := 0, slots := 0, locals := 0 } : Room).slots) := by
  refine MetFree.of_bodySF (plainFor_of_name pn_com_example_luoshu_luoshu_util_GeohashBitsPinLaw) hisR ?_
  intro p e s m args below meth c s₁ Bd hml0 hP hK
  obtain ⟨rfl, hZ, hh⟩ := hP
  have hx := Bd.exec
  have hby := Bd.bytes
  have hlk : meth.locks = false := Bd.notSynchronized
  have hml : c.maxLocals = 3 := hml0
  have hown : s.vm.findClass "com/example/luoshu/luoshu/util/GeohashBitsPinLaw" = some m.cls := findClass_of_methodNamed Bd.named
  have hnm := (name_of_methodNamed Bd.named Bd.method).1
  have X0 : Stand p l e ({ frames := 0, cells := 0, slots := 0, locals := 0 } : Room) s m #[(.int u0)] below meth c s₁ [] 0 0 := Stand.of_body Bd
  have e0 : s₁.heap = h0 := by rw [← hh, Bd.state]; rfl
  have N0 := Fr.nil n0
  have K0 : Keep h0 h0 [] := Keep.refl h0 _
  show Wp p e below (Out s (Q1 Z u0 h0 n0) ({ frames := 0, cells := 0, slots := 0, locals := 0 } : Room).cells ({ frames := 0, cells := 0, slots := 0, locals := 0 } : Room).slots) (s₁.setTop (entryFrame m #[(.int u0)] 3))
  rw [ef_1_0]
  show Wp p e below _ (s₁.setTop (mkF m 0 #[.val (.int u0), .unset, .unset] []))
  refine Wp.step (fun t k => XS.iloadN X0.here hx rfl (hb hby d1_0) rfl k) ?_
  show Wp p e below _ (s₁.setTop (mkF m 1 #[.val (.int u0), .unset, .unset] [(.int u0)]))
  refine Wp.step (fun t k => XS.i2l X0.here hx rfl (hb hby d1_1) rfl k) ?_
  show Wp p e below _ (s₁.setTop (mkF m 2 #[.val (.int u0), .unset, .unset] [(.long (u0.toInt64))]))
  refine Wp.step (X0.ldc2Long hx hown (mvT hZ (hw _ (List.mem_of_getElem? (i := 5) rfl))) (g := (mkF m 2 #[.val (.int u0), .unset, .unset] [(.long (u0.toInt64))])) rfl (hb hby d1_2)) ?_
  show Wp p e below _ (s₁.setTop (mkF m 5 #[.val (.int u0), .unset, .unset] [(.long (4294967295 : Int64)), (.long (u0.toInt64))]))
  refine Wp.step (fun t k => XS.land X0.here hx rfl (hb hby d1_5) rfl k) ?_
  show Wp p e below _ (s₁.setTop (mkF m 6 #[.val (.int u0), .unset, .unset] [(.long ((u0.toInt64) &&& (4294967295 : Int64)))]))
  generalize hz_x0 : ((u0.toInt64) &&& (4294967295 : Int64)) = x0
  refine Wp.step (fun t k => XS.lstoreN X0.here hx rfl (hb hby d1_6) rfl (l' := #[.val (.int u0), .val (.long x0), .second]) rfl k) ?_
  show Wp p e below _ (s₁.setTop (mkF m 7 #[.val (.int u0), .val (.long x0), .second] []))
  refine Wp.step (fun t k => XS.lloadN X0.here hx rfl (hb hby d1_7) rfl k) ?_
  show Wp p e below _ (s₁.setTop (mkF m 8 #[.val (.int u0), .val (.long x0), .second] [(.long x0)]))
  refine Wp.step (fun t k => XS.lloadN X0.here hx rfl (hb hby d1_8) rfl k) ?_
  show Wp p e below _ (s₁.setTop (mkF m 9 #[.val (.int u0), .val (.long x0), .second] [(.long x0), (.long x0)]))
  refine Wp.step (fun t k => XS.bipush X0.here hx rfl (hb hby d1_9) k) ?_
  show Wp p e below _ (s₁.setTop (mkF m 11 #[.val (.int u0), .val (.long x0), .second] [(.int (16 : Int32)), (.long x0), (.long x0)]))
  refine Wp.step (fun t k => XS.lshl X0.here hx rfl (hb hby d1_11) rfl k) ?_
  show Wp p e below _ (s₁.setTop (mkF m 12 #[.val (.int u0), .val (.long x0), .second] [(.long (x0 <<< ((16 : Int32) &&& 0x3f).toInt64)), (.long x0)]))
  refine Wp.step (fun t k => XS.lor X0.here hx rfl (hb hby d1_12) rfl k) ?_
  show Wp p e below _ (s₁.setTop (mkF m 13 #[.val (.int u0), .val (.long x0), .second] [(.long (x0 ||| (x0 <<< ((16 : Int32) &&& 0x3f).toInt64)))]))
  refine Wp.step (X0.ldc2Long hx hown (mvT hZ (hw _ (List.mem_of_getElem? (i := 6) rfl))) (g := (mkF m 13 #[.val (.int u0), .val (.long x0), .second] [(.long (x0 ||| (x0 <<< ((16 : Int32) &&& 0x3f).toInt64)))])) rfl (hb hby d1_13)) ?_
  show Wp p e below _ (s₁.setTop (mkF m 16 #[.val (.int u0), .val (.long x0), .second] [(.long (281470681808895 : Int64)), (.long (x0 ||| (x0 <<< ((16 : Int32) &&& 0x3f).toInt64)))]))
  refine Wp.step (fun t k => XS.land X0.here hx rfl (hb hby d1_16) rfl k) ?_
  show Wp p e below _ (s₁.setTop (mkF m 17 #[.val (.int u0), .val (.long x0), .second] [(.long ((x0 ||| (x0 <<< ((16 : Int32) &&& 0x3f).toInt64)) &&& (281470681808895 : Int64)))]))
  generalize hz_x1 : ((x0 ||| (x0 <<< ((16 : Int32) &&& 0x3f).toInt64)) &&& (281470681808895 : Int64)) = x1
  refine Wp.step (fun t k => XS.lstoreN X0.here hx rfl (hb hby d1_17) rfl (l' := #[.val (.int u0), .val (.long x1), .second]) rfl k) ?_
  show Wp p e below _ (s₁.setTop (mkF m 18 #[.val (.int u0), .val (.long x1), .second] []))
  refine Wp.step (fun t k => XS.lloadN X0.here hx rfl (hb hby d1_18) rfl k) ?_
  show Wp p e below _ (s₁.setTop (mkF m 19 #[.val (.int u0), .val (.long x1), .second] [(.long x1)]))
  refine Wp.step (fun t k => XS.lloadN X0.here hx rfl (hb hby d1_19) rfl k) ?_
  show Wp p e below _ (s₁.setTop (mkF m 20 #[.val (.int u0), .val (.long x1), .second] [(.long x1), (.long x1)]))
  refine Wp.step (fun t k => XS.bipush X0.here hx rfl (hb hby d1_20) k) ?_
  show Wp p e below _ (s₁.setTop (mkF m 22 #[.val (.int u0), .val (.long x1), .second] [(.int (8 : Int32)), (.long x1), (.long x1)]))
  refine Wp.step (fun t k => XS.lshl X0.here hx rfl (hb hby d1_22) rfl k) ?_
  show Wp p e below _ (s₁.setTop (mkF m 23 #[.val (.int u0), .val (.long x1), .second] [(.long (x1 <<< ((8 : Int32) &&& 0x3f).toInt64)), (.long x1)]))
  refine Wp.step (fun t k => XS.lor X0.here hx rfl (hb hby d1_23) rfl k) ?_
  show Wp p e below _ (s₁.setTop (mkF m 24 #[.val (.int u0), .val (.long x1), .second] [(.long (x1 ||| (x1 <<< ((8 : Int32) &&& 0x3f).toInt64)))]))
  refine Wp.step (X0.ldc2Long hx hown (mvT hZ (hw _ (List.mem_of_getElem? (i := 7) rfl))) (g := (mkF m 24 #[.val (.int u0), .val (.long x1), .second] [(.long (x1 ||| (x1 <<< ((8 : Int32) &&& 0x3f).toInt64)))])) rfl (hb hby d1_24)) ?_
  show Wp p e below _ (s₁.setTop (mkF m 27 #[.val (.int u0), .val (.long x1), .second] [(.long (71777214294589695 : Int64)), (.long (x1 ||| (x1 <<< ((8 : Int32) &&& 0x3f).toInt64)))]))
  refine Wp.step (fun t k => XS.land X0.here hx rfl (hb hby d1_27) rfl k) ?_
  show Wp p e below _ (s₁.setTop (mkF m 28 #[.val (.int u0), .val (.long x1), .second] [(.long ((x1 ||| (x1 <<< ((8 : Int32) &&& 0x3f).toInt64)) &&& (71777214294589695 : Int64)))]))
  generalize hz_x2 : ((x1 ||| (x1 <<< ((8 : Int32) &&& 0x3f).toInt64)) &&& (71777214294589695 : Int64)) = x2
  refine Wp.step (fun t k => XS.lstoreN X0.here hx rfl (hb hby d1_28) rfl (l' := #[.val (.int u0), .val (.long x2), .second]) rfl k) ?_
  show Wp p e below _ (s₁.setTop (mkF m 29 #[.val (.int u0), .val (.long x2), .second] []))
  refine Wp.step (fun t k => XS.lloadN X0.here hx rfl (hb hby d1_29) rfl k) ?_
  show Wp p e below _ (s₁.setTop (mkF m 30 #[.val (.int u0), .val (.long x2), .second] [(.long x2)]))
  refine Wp.step (fun t k => XS.lloadN X0.here hx rfl (hb hby d1_30) rfl k) ?_
  show Wp p e below _ (s₁.setTop (mkF m 31 #[.val (.int u0), .val (.long x2), .second] [(.long x2), (.long x2)]))
  refine Wp.step (fun t k => XS.iconst X0.here hx rfl (hb hby d1_31) k) ?_
  show Wp p e below _ (s₁.setTop (mkF m 32 #[.val (.int u0), .val (.long x2), .second] [(.int (4 : Int32)), (.long x2), (.long x2)]))
  refine Wp.step (fun t k => XS.lshl X0.here hx rfl (hb hby d1_32) rfl k) ?_
  show Wp p e below _ (s₁.setTop (mkF m 33 #[.val (.int u0), .val (.long x2), .second] [(.long (x2 <<< ((4 : Int32) &&& 0x3f).toInt64)), (.long x2)]))
  refine Wp.step (fun t k => XS.lor X0.here hx rfl (hb hby d1_33) rfl k) ?_
  show Wp p e below _ (s₁.setTop (mkF m 34 #[.val (.int u0), .val (.long x2), .second] [(.long (x2 ||| (x2 <<< ((4 : Int32) &&& 0x3f).toInt64)))]))
  refine Wp.step (X0.ldc2Long hx hown (mvT hZ (hw _ (List.mem_of_getElem? (i := 8) rfl))) (g := (mkF m 34 #[.val (.int u0), .val (.long x2), .second] [(.long (x2 ||| (x2 <<< ((4 : Int32) &&& 0x3f).toInt64)))])) rfl (hb hby d1_34)) ?_
  show Wp p e below _ (s₁.setTop (mkF m 37 #[.val (.int u0), .val (.long x2), .second] [(.long (1085102592571150095 : Int64)), (.long (x2 ||| (x2 <<< ((4 : Int32) &&& 0x3f).toInt64)))]))
  refine Wp.step (fun t k => XS.land X0.here hx rfl (hb hby d1_37) rfl k) ?_
  show Wp p e below _ (s₁.setTop (mkF m 38 #[.val (.int u0), .val (.long x2), .second] [(.long ((x2 ||| (x2 <<< ((4 : Int32) &&& 0x3f).toInt64)) &&& (1085102592571150095 : Int64)))]))
  generalize hz_x3 : ((x2 ||| (x2 <<< ((4 : Int32) &&& 0x3f).toInt64)) &&& (1085102592571150095 : Int64)) = x3
  refine Wp.step (fun t k => XS.lstoreN X0.here hx rfl (hb hby d1_38) rfl (l' := #[.val (.int u0), .val (.long x3), .second]) rfl k) ?_
  show Wp p e below _ (s₁.setTop (mkF m 39 #[.val (.int u0), .val (.long x3), .second] []))
  refine Wp.step (fun t k => XS.lloadN X0.here hx rfl (hb hby d1_39) rfl k) ?_
  show Wp p e below _ (s₁.setTop (mkF m 40 #[.val (.int u0), .val (.long x3), .second] [(.long x3)]))
  refine Wp.step (fun t k => XS.lloadN X0.here hx rfl (hb hby d1_40) rfl k) ?_
  show Wp p e below _ (s₁.setTop (mkF m 41 #[.val (.int u0), .val (.long x3), .second] [(.long x3), (.long x3)]))
  refine Wp.step (fun t k => XS.iconst X0.here hx rfl (hb hby d1_41) k) ?_
  show Wp p e below _ (s₁.setTop (mkF m 42 #[.val (.int u0), .val (.long x3), .second] [(.int (2 : Int32)), (.long x3), (.long x3)]))
  refine Wp.step (fun t k => XS.lshl X0.here hx rfl (hb hby d1_42) rfl k) ?_
  show Wp p e below _ (s₁.setTop (mkF m 43 #[.val (.int u0), .val (.long x3), .second] [(.long (x3 <<< ((2 : Int32) &&& 0x3f).toInt64)), (.long x3)]))
  refine Wp.step (fun t k => XS.lor X0.here hx rfl (hb hby d1_43) rfl k) ?_
  show Wp p e below _ (s₁.setTop (mkF m 44 #[.val (.int u0), .val (.long x3), .second] [(.long (x3 ||| (x3 <<< ((2 : Int32) &&& 0x3f).toInt64)))]))
  refine Wp.step (X0.ldc2Long hx hown (mvT hZ (hw _ (List.mem_of_getElem? (i := 9) rfl))) (g := (mkF m 44 #[.val (.int u0), .val (.long x3), .second] [(.long (x3 ||| (x3 <<< ((2 : Int32) &&& 0x3f).toInt64)))])) rfl (hb hby d1_44)) ?_
  show Wp p e below _ (s₁.setTop (mkF m 47 #[.val (.int u0), .val (.long x3), .second] [(.long (3689348814741910323 : Int64)), (.long (x3 ||| (x3 <<< ((2 : Int32) &&& 0x3f).toInt64)))]))
  refine Wp.step (fun t k => XS.land X0.here hx rfl (hb hby d1_47) rfl k) ?_
  show Wp p e below _ (s₁.setTop (mkF m 48 #[.val (.int u0), .val (.long x3), .second] [(.long ((x3 ||| (x3 <<< ((2 : Int32) &&& 0x3f).toInt64)) &&& (3689348814741910323 : Int64)))]))
  generalize hz_x4 : ((x3 ||| (x3 <<< ((2 : Int32) &&& 0x3f).toInt64)) &&& (3689348814741910323 : Int64)) = x4
  refine Wp.step (fun t k => XS.lstoreN X0.here hx rfl (hb hby d1_48) rfl (l' := #[.val (.int u0), .val (.long x4), .second]) rfl k) ?_
  show Wp p e below _ (s₁.setTop (mkF m 49 #[.val (.int u0), .val (.long x4), .second] []))
  refine Wp.step (fun t k => XS.lloadN X0.here hx rfl (hb hby d1_49) rfl k) ?_
  show Wp p e below _ (s₁.setTop (mkF m 50 #[.val (.int u0), .val (.long x4), .second] [(.long x4)]))
  refine Wp.step (fun t k => XS.lloadN X0.here hx rfl (hb hby d1_50) rfl k) ?_
  show Wp p e below _ (s₁.setTop (mkF m 51 #[.val (.int u0), .val (.long x4), .second] [(.long x4), (.long x4)]))
  refine Wp.step (fun t k => XS.iconst X0.here hx rfl (hb hby d1_51) k) ?_
  show Wp p e below _ (s₁.setTop (mkF m 52 #[.val (.int u0), .val (.long x4), .second] [(.int (1 : Int32)), (.long x4), (.long x4)]))
  refine Wp.step (fun t k => XS.lshl X0.here hx rfl (hb hby d1_52) rfl k) ?_
  show Wp p e below _ (s₁.setTop (mkF m 53 #[.val (.int u0), .val (.long x4), .second] [(.long (x4 <<< ((1 : Int32) &&& 0x3f).toInt64)), (.long x4)]))
  refine Wp.step (fun t k => XS.lor X0.here hx rfl (hb hby d1_53) rfl k) ?_
  show Wp p e below _ (s₁.setTop (mkF m 54 #[.val (.int u0), .val (.long x4), .second] [(.long (x4 ||| (x4 <<< ((1 : Int32) &&& 0x3f).toInt64)))]))
  refine Wp.step (X0.ldc2Long hx hown (mvT hZ (hw _ (List.mem_of_getElem? (i := 10) rfl))) (g := (mkF m 54 #[.val (.int u0), .val (.long x4), .second] [(.long (x4 ||| (x4 <<< ((1 : Int32) &&& 0x3f).toInt64)))])) rfl (hb hby d1_54)) ?_
  show Wp p e below _ (s₁.setTop (mkF m 57 #[.val (.int u0), .val (.long x4), .second] [(.long (6148914691236517205 : Int64)), (.long (x4 ||| (x4 <<< ((1 : Int32) &&& 0x3f).toInt64)))]))
  refine Wp.step (fun t k => XS.land X0.here hx rfl (hb hby d1_57) rfl k) ?_
  show Wp p e below _ (s₁.setTop (mkF m 58 #[.val (.int u0), .val (.long x4), .second] [(.long ((x4 ||| (x4 <<< ((1 : Int32) &&& 0x3f).toInt64)) &&& (6148914691236517205 : Int64)))]))
  generalize hz_x5 : ((x4 ||| (x4 <<< ((1 : Int32) &&& 0x3f).toInt64)) &&& (6148914691236517205 : Int64)) = x5
  refine Wp.step (fun t k => XS.lstoreN X0.here hx rfl (hb hby d1_58) rfl (l' := #[.val (.int u0), .val (.long x5), .second]) rfl k) ?_
  show Wp p e below _ (s₁.setTop (mkF m 59 #[.val (.int u0), .val (.long x5), .second] []))
  refine Wp.step (fun t k => XS.lloadN X0.here hx rfl (hb hby d1_59) rfl k) ?_
  show Wp p e below _ (s₁.setTop (mkF m 60 #[.val (.int u0), .val (.long x5), .second] [(.long x5)]))
  refine Wp.retJ X0 hx Bd.returns (hb hby d1_60) hlk ?_ (by decide) (by decide)
  show Q1 Z u0 h0 n0 (some (.long x5)) s₁.heap _
  rw [e0]
  exact ⟨by rw [← hz_x5, ← hz_x4, ← hz_x3, ← hz_x2, ← hz_x1, ← hz_x0]; rfl, N0, rfl⟩
theorem d6_0 : decode prog_49_method_7_code 0 = .ok (.iload_n 0, 1) := by decide +kernel
theorem d6_1 : decode prog_49_method_7_code 1 = .ok (.iconst 5, 1) := by decide +kernel
theorem d6_2 : decode prog_49_method_7_code 2 = .ok (.imul, 1) := by decide +kernel
theorem d6_3 : decode prog_49_method_7_code 3 = .ok (.iconst 1, 1) := by decide +kernel
theorem d6_4 : decode prog_49_method_7_code 4 = .ok (.iadd, 1) := by decide +kernel
theorem d6_5 : decode prog_49_method_7_code 5 = .ok (.iconst 2, 1) := by decide +kernel
theorem d6_6 : decode prog_49_method_7_code 6 = .ok (.idiv, 1) := by decide +kernel
theorem d6_7 : decode prog_49_method_7_code 7 = .ok (.ireturn, 1) := by decide +kernel
theorem pn_com_example_luoshu_luoshu_util_Geohash_Cell : plainName "com/example/luoshu/luoshu/util/Geohash$Cell" = true := by first | (simp [plainName, overriddenIn]; done) | decide +kernel
theorem ef_6_0 (m : MethodId) (x0 : Int32) : entryFrame m #[(.int x0)] 1 = mkF m 0 #[.val (.int x0)] [] := by first | (simp [entryFrame, mkF, argsToLocals, Value.category]; done) | rfl
def Q6 (Z : State) (u0 : Int32) (h0 : Heap) (n0 : Nat) (v : Option Value) (h : Heap) (L : List Loc) : Prop := v = some (.int (own_lon u0)) ∧ Fr n0 L ∧ h = h0
set_option maxRecDepth 65536 in
set_option maxHeartbeats 40000000 in
theorem rm6 (l : Launch) (Z : State) (a0 : Array Value) (hw : ∀ d ∈ tables_1, d.before a0 Z = true) (ws : List Jvm.Cond) (u0 : Int32) (h0 : Heap) (n0 : Nat) (Z0 : n0 ≤ h0.size) :
    MetFree l (⟨"com/example/luoshu/luoshu/util/Geohash$Cell", "lonBits", "(I)I"⟩ : MethodName) (head1 (Jvm.Cond.code (⟨"com/example/luoshu/luoshu/util/Geohash$Cell", "lonBits", "(I)I"⟩ : MethodName) prog_49_method_7_code 1 (some .int) :: ws) ({ frames := 0, cells := 0, slots := 0, locals := 0 } : Room)) (fun a U => a = #[(.int u0)] ∧ Z.Warmed39 U.vm ∧ U.heap = h0) (fun _ _ _ _ _ => True) (fun _ U o U' => ∃ v L, o = .returned v ∧ Q6 Z u0 h0 n0 v U'.heap L ∧ FrameEnd U o U' L ({ frames := 0, cells := 0, slots := 0, locals := 0 } : Room).cells ({ frames := 0, cells := 0, slots := 0, locals := 0 } : Room).slots) := by
  refine MetFree.of_bodySF (plainFor_of_name pn_com_example_luoshu_luoshu_util_Geohash_Cell) hisR ?_
  intro p e s m args below meth c s₁ Bd hml0 hP hK
  obtain ⟨rfl, hZ, hh⟩ := hP
  have hx := Bd.exec
  have hby := Bd.bytes
  have hlk : meth.locks = false := Bd.notSynchronized
  have hml : c.maxLocals = 1 := hml0
  have hown : s.vm.findClass "com/example/luoshu/luoshu/util/Geohash$Cell" = some m.cls := findClass_of_methodNamed Bd.named
  have hnm := (name_of_methodNamed Bd.named Bd.method).1
  have X0 : Stand p l e ({ frames := 0, cells := 0, slots := 0, locals := 0 } : Room) s m #[(.int u0)] below meth c s₁ [] 0 0 := Stand.of_body Bd
  have e0 : s₁.heap = h0 := by rw [← hh, Bd.state]; rfl
  have N0 := Fr.nil n0
  have K0 : Keep h0 h0 [] := Keep.refl h0 _
  show Wp p e below (Out s (Q6 Z u0 h0 n0) ({ frames := 0, cells := 0, slots := 0, locals := 0 } : Room).cells ({ frames := 0, cells := 0, slots := 0, locals := 0 } : Room).slots) (s₁.setTop (entryFrame m #[(.int u0)] 1))
  rw [ef_6_0]
  show Wp p e below _ (s₁.setTop (mkF m 0 #[.val (.int u0)] []))
  refine Wp.step (fun t k => XS.iloadN X0.here hx rfl (hb hby d6_0) rfl k) ?_
  show Wp p e below _ (s₁.setTop (mkF m 1 #[.val (.int u0)] [(.int u0)]))
  refine Wp.step (fun t k => XS.iconst X0.here hx rfl (hb hby d6_1) k) ?_
  show Wp p e below _ (s₁.setTop (mkF m 2 #[.val (.int u0)] [(.int (5 : Int32)), (.int u0)]))
  refine Wp.step (fun t k => XS.imul X0.here hx rfl (hb hby d6_2) rfl k) ?_
  show Wp p e below _ (s₁.setTop (mkF m 3 #[.val (.int u0)] [(.int (u0 * (5 : Int32)))]))
  refine Wp.step (fun t k => XS.iconst X0.here hx rfl (hb hby d6_3) k) ?_
  show Wp p e below _ (s₁.setTop (mkF m 4 #[.val (.int u0)] [(.int (1 : Int32)), (.int (u0 * (5 : Int32)))]))
  refine Wp.step (fun t k => XS.iadd X0.here hx rfl (hb hby d6_4) rfl k) ?_
  show Wp p e below _ (s₁.setTop (mkF m 5 #[.val (.int u0)] [(.int ((u0 * (5 : Int32)) + (1 : Int32)))]))
  refine Wp.step (fun t k => XS.iconst X0.here hx rfl (hb hby d6_5) k) ?_
  show Wp p e below _ (s₁.setTop (mkF m 6 #[.val (.int u0)] [(.int (2 : Int32)), (.int ((u0 * (5 : Int32)) + (1 : Int32)))]))
  refine Wp.step (fun t k => XS.idiv X0.here hx rfl (hb hby d6_6) rfl (by decide) k) ?_
  show Wp p e below _ (s₁.setTop (mkF m 7 #[.val (.int u0)] [(.int (((u0 * (5 : Int32)) + (1 : Int32)) / (2 : Int32)))]))
  refine Wp.retI X0 hx Bd.returns (hb hby d6_7) hlk ?_ (by decide) (by decide)
  show Q6 Z u0 h0 n0 (some (.int (((u0 * (5 : Int32)) + (1 : Int32)) / (2 : Int32)))) s₁.heap _
  rw [e0]
  exact ⟨rfl, N0, rfl⟩
theorem d7_0 : decode prog_49_method_8_code 0 = .ok (.iload_n 0, 1) := by decide +kernel
theorem d7_1 : decode prog_49_method_8_code 1 = .ok (.iconst 5, 1) := by decide +kernel
theorem d7_2 : decode prog_49_method_8_code 2 = .ok (.imul, 1) := by decide +kernel
theorem d7_3 : decode prog_49_method_8_code 3 = .ok (.iconst 2, 1) := by decide +kernel
theorem d7_4 : decode prog_49_method_8_code 4 = .ok (.idiv, 1) := by decide +kernel
theorem d7_5 : decode prog_49_method_8_code 5 = .ok (.ireturn, 1) := by decide +kernel
theorem ef_7_0 (m : MethodId) (x0 : Int32) : entryFrame m #[(.int x0)] 1 = mkF m 0 #[.val (.int x0)] [] := by first | (simp [entryFrame, mkF, argsToLocals, Value.category]; done) | rfl
def Q7 (Z : State) (u0 : Int32) (h0 : Heap) (n0 : Nat) (v : Option Value) (h : Heap) (L : List Loc) : Prop := v = some (.int (own_lat u0)) ∧ Fr n0 L ∧ h = h0
set_option maxRecDepth 65536 in
set_option maxHeartbeats 40000000 in
theorem rm7 (l : Launch) (Z : State) (a0 : Array Value) (hw : ∀ d ∈ tables_1, d.before a0 Z = true) (ws : List Jvm.Cond) (u0 : Int32) (h0 : Heap) (n0 : Nat) (Z0 : n0 ≤ h0.size) :
    MetFree l (⟨"com/example/luoshu/luoshu/util/Geohash$Cell", "latBits", "(I)I"⟩ : MethodName) (head1 (Jvm.Cond.code (⟨"com/example/luoshu/luoshu/util/Geohash$Cell", "latBits", "(I)I"⟩ : MethodName) prog_49_method_8_code 1 (some .int) :: ws) ({ frames := 0, cells := 0, slots := 0, locals := 0 } : Room)) (fun a U => a = #[(.int u0)] ∧ Z.Warmed39 U.vm ∧ U.heap = h0) (fun _ _ _ _ _ => True) (fun _ U o U' => ∃ v L, o = .returned v ∧ Q7 Z u0 h0 n0 v U'.heap L ∧ FrameEnd U o U' L ({ frames := 0, cells := 0, slots := 0, locals := 0 } : Room).cells ({ frames := 0, cells := 0, slots := 0, locals := 0 } : Room).slots) := by
  refine MetFree.of_bodySF (plainFor_of_name pn_com_example_luoshu_luoshu_util_Geohash_Cell) hisR ?_
  intro p e s m args below meth c s₁ Bd hml0 hP hK
  obtain ⟨rfl, hZ, hh⟩ := hP
  have hx := Bd.exec
  have hby := Bd.bytes
  have hlk : meth.locks = false := Bd.notSynchronized
  have hml : c.maxLocals = 1 := hml0
  have hown : s.vm.findClass "com/example/luoshu/luoshu/util/Geohash$Cell" = some m.cls := findClass_of_methodNamed Bd.named
  have hnm := (name_of_methodNamed Bd.named Bd.method).1
  have X0 : Stand p l e ({ frames := 0, cells := 0, slots := 0, locals := 0 } : Room) s m #[(.int u0)] below meth c s₁ [] 0 0 := Stand.of_body Bd
  have e0 : s₁.heap = h0 := by rw [← hh, Bd.state]; rfl
  have N0 := Fr.nil n0
  have K0 : Keep h0 h0 [] := Keep.refl h0 _
  show Wp p e below (Out s (Q7 Z u0 h0 n0) ({ frames := 0, cells := 0, slots := 0, locals := 0 } : Room).cells ({ frames := 0, cells := 0, slots := 0, locals := 0 } : Room).slots) (s₁.setTop (entryFrame m #[(.int u0)] 1))
  rw [ef_7_0]
  show Wp p e below _ (s₁.setTop (mkF m 0 #[.val (.int u0)] []))
  refine Wp.step (fun t k => XS.iloadN X0.here hx rfl (hb hby d7_0) rfl k) ?_
  show Wp p e below _ (s₁.setTop (mkF m 1 #[.val (.int u0)] [(.int u0)]))
  refine Wp.step (fun t k => XS.iconst X0.here hx rfl (hb hby d7_1) k) ?_
  show Wp p e below _ (s₁.setTop (mkF m 2 #[.val (.int u0)] [(.int (5 : Int32)), (.int u0)]))
  refine Wp.step (fun t k => XS.imul X0.here hx rfl (hb hby d7_2) rfl k) ?_
  show Wp p e below _ (s₁.setTop (mkF m 3 #[.val (.int u0)] [(.int (u0 * (5 : Int32)))]))
  refine Wp.step (fun t k => XS.iconst X0.here hx rfl (hb hby d7_3) k) ?_
  show Wp p e below _ (s₁.setTop (mkF m 4 #[.val (.int u0)] [(.int (2 : Int32)), (.int (u0 * (5 : Int32)))]))
  refine Wp.step (fun t k => XS.idiv X0.here hx rfl (hb hby d7_4) rfl (by decide) k) ?_
  show Wp p e below _ (s₁.setTop (mkF m 5 #[.val (.int u0)] [(.int ((u0 * (5 : Int32)) / (2 : Int32)))]))
  refine Wp.retI X0 hx Bd.returns (hb hby d7_5) hlk ?_ (by decide) (by decide)
  show Q7 Z u0 h0 n0 (some (.int ((u0 * (5 : Int32)) / (2 : Int32)))) s₁.heap _
  rw [e0]
  exact ⟨rfl, N0, rfl⟩
theorem d3_0 : decode jdk_30_method_1_code 0 = .ok (.aload_n 0, 1) := by decide +kernel
theorem d3_1 : decode jdk_30_method_1_code 1 = .ok (.invokespecial 1, 3) := by decide +kernel
theorem d3_4 : decode jdk_30_method_1_code 4 = .ok (.return_, 1) := by decide +kernel
theorem pn_java_lang_Record : plainName "java/lang/Record" = true := by first | (simp [plainName, overriddenIn]; done) | decide +kernel
theorem ef_3_0 (m : MethodId) (x0 : Addr) : entryFrame m #[(.ref x0)] 1 = mkF m 0 #[.val (.ref x0)] [] := by first | (simp [entryFrame, mkF, argsToLocals, Value.category]; done) | rfl
def Q3 (Z : State) (d0 : Addr) (h0 : Heap) (n0 : Nat) (v : Option Value) (h : Heap) (L : List Loc) : Prop := v = none ∧ Fr n0 L ∧ h = h0
set_option maxRecDepth 65536 in
set_option maxHeartbeats 40000000 in
theorem rm3 (l : Launch) (Z : State) (a0 : Array Value) (hw : ∀ d ∈ tables_1, d.before a0 Z = true) (ws : List Jvm.Cond) (d0 : Addr) (h0 : Heap) (n0 : Nat) (Z0 : n0 ≤ h0.size) :
    MetFree l (⟨"java/lang/Record", "<init>", "()V"⟩ : MethodName) (head1 (Jvm.Cond.code (⟨"java/lang/Record", "<init>", "()V"⟩ : MethodName) jdk_30_method_1_code 1 none :: ws) ({ frames := 1, cells := 0, slots := 0, locals := 12 } : Room)) (fun a U => a = #[(.ref d0)] ∧ Z.Warmed39 U.vm ∧ U.heap = h0) (fun _ _ _ _ _ => True) (fun _ U o U' => ∃ v L, o = .returned v ∧ Q3 Z d0 h0 n0 v U'.heap L ∧ FrameEnd U o U' L ({ frames := 1, cells := 0, slots := 0, locals := 12 } : Room).cells ({ frames := 1, cells := 0, slots := 0, locals := 12 } : Room).slots) := by
  refine MetFree.of_bodySF (plainFor_of_name pn_java_lang_Record) hisR ?_
  intro p e s m args below meth c s₁ Bd hml0 hP hK
  obtain ⟨rfl, hZ, hh⟩ := hP
  have hx := Bd.exec
  have hby := Bd.bytes
  have hlk : meth.locks = false := Bd.notSynchronized
  have hml : c.maxLocals = 1 := hml0
  have hown : s.vm.findClass "java/lang/Record" = some m.cls := findClass_of_methodNamed Bd.named
  have hnm := (name_of_methodNamed Bd.named Bd.method).1
  have X0 : Stand p l e ({ frames := 1, cells := 0, slots := 0, locals := 12 } : Room) s m #[(.ref d0)] below meth c s₁ [] 0 0 := Stand.of_body Bd
  have e0 : s₁.heap = h0 := by rw [← hh, Bd.state]; rfl
  have N0 := Fr.nil n0
  have K0 : Keep h0 h0 [] := Keep.refl h0 _
  show Wp p e below (Out s (Q3 Z d0 h0 n0) ({ frames := 1, cells := 0, slots := 0, locals := 12 } : Room).cells ({ frames := 1, cells := 0, slots := 0, locals := 12 } : Room).slots) (s₁.setTop (entryFrame m #[(.ref d0)] 1))
  rw [ef_3_0]
  show Wp p e below _ (s₁.setTop (mkF m 0 #[.val (.ref d0)] []))
  refine Wp.step (fun t k => XS.aloadN X0.here hx rfl (hb hby d3_0) rfl rfl k) ?_
  show Wp p e below _ (s₁.setTop (mkF m 1 #[.val (.ref d0)] [(.ref d0)]))
  obtain ⟨T1, X1, e1, st1⟩ := initO X0 hx hZ hown (hw _ (List.mem_of_getElem? (i := 22) rfl)) (hw _ (List.mem_of_getElem? (i := 23) rfl)) (hw _ (List.mem_of_getElem? (i := 24) rfl)) e0 (g := (mkF m 1 #[.val (.ref d0)] [(.ref d0)])) rfl (by rw [hml]; rfl) rfl (hb hby d3_1) (by decide) (W := 0) (by show 2 * 0 + _ ≤ _; exact Nat.le_of_eq rfl) (by decide)
  refine Wp.step st1 ?_
  show Wp p e below _ (T1.setTop (mkF m 4 #[.val (.ref d0)] []))
  refine Wp.retV X1 hx Bd.returns (hb hby d3_4) hlk ?_ (by decide) (by decide)
  show Q3 Z d0 h0 n0 none T1.heap _
  rw [e1]
  exact ⟨rfl, N0, rfl⟩
theorem pd_2829V : parseMethodDescriptor "()V" = some ⟨[], none⟩ := by decide +kernel
theorem d2_0 : decode prog_49_method_1_code 0 = .ok (.aload_n 0, 1) := by decide +kernel
theorem d2_1 : decode prog_49_method_1_code 1 = .ok (.invokespecial 3, 3) := by decide +kernel
theorem d2_4 : decode prog_49_method_1_code 4 = .ok (.aload_n 0, 1) := by decide +kernel
theorem d2_5 : decode prog_49_method_1_code 5 = .ok (.iload_n 1, 1) := by decide +kernel
theorem d2_6 : decode prog_49_method_1_code 6 = .ok (.putfield 9, 3) := by decide +kernel
theorem d2_9 : decode prog_49_method_1_code 9 = .ok (.aload_n 0, 1) := by decide +kernel
theorem d2_10 : decode prog_49_method_1_code 10 = .ok (.iload_n 2, 1) := by decide +kernel
theorem d2_11 : decode prog_49_method_1_code 11 = .ok (.putfield 15, 3) := by decide +kernel
theorem d2_14 : decode prog_49_method_1_code 14 = .ok (.aload_n 0, 1) := by decide +kernel
theorem d2_15 : decode prog_49_method_1_code 15 = .ok (.iload_n 3, 1) := by decide +kernel
theorem d2_16 : decode prog_49_method_1_code 16 = .ok (.putfield 18, 3) := by decide +kernel
theorem d2_19 : decode prog_49_method_1_code 19 = .ok (.return_, 1) := by decide +kernel
theorem ef_2_0000 (m : MethodId) (x0 : Addr) (x1 : Int32) (x2 : Int32) (x3 : Int32) : entryFrame m #[(.ref x0), (.int x1), (.int x2), (.int x3)] 4 = mkF m 0 #[.val (.ref x0), .val (.int x1), .val (.int x2), .val (.int x3)] [] := by first | (simp [entryFrame, mkF, argsToLocals, Value.category]; done) | rfl
def Q2 (Z : State) (d0 : Addr) (u0 : Int32) (u1 : Int32) (u2 : Int32) (h0 : Heap) (n0 : Nat) (v : Option Value) (h : Heap) (L : List Loc) : Prop := v = none ∧ Fr n0 L ∧ Keep h0 h [d0] ∧ Exa Z h d0 "com/example/luoshu/luoshu/util/Geohash$Cell" ∧ Fld Z h d0 "com/example/luoshu/luoshu/util/Geohash$Cell" "precision" "I" (.int u0) ∧ Fld Z h d0 "com/example/luoshu/luoshu/util/Geohash$Cell" "column" "I" (.int u1) ∧ Fld Z h d0 "com/example/luoshu/luoshu/util/Geohash$Cell" "row" "I" (.int u2)
set_option maxRecDepth 65536 in
set_option maxHeartbeats 40000000 in
theorem rm2 (l : Launch) (Z : State) (a0 : Array Value) (hw : ∀ d ∈ tables_1, d.before a0 Z = true) (ws : List Jvm.Cond) (d0 : Addr) (u0 : Int32) (u1 : Int32) (u2 : Int32) (h0 : Heap) (n0 : Nat) (Z0 : n0 ≤ h0.size) (g_d0 : n0 ≤ d0) (E_d0 : Exa Z h0 d0 "com/example/luoshu/luoshu/util/Geohash$Cell") (F_precision_d0 : Fld Z h0 d0 "com/example/luoshu/luoshu/util/Geohash$Cell" "precision" "I" (.int (0 : Int32))) (F_column_d0 : Fld Z h0 d0 "com/example/luoshu/luoshu/util/Geohash$Cell" "column" "I" (.int (0 : Int32))) (F_row_d0 : Fld Z h0 d0 "com/example/luoshu/luoshu/util/Geohash$Cell" "row" "I" (.int (0 : Int32))) :
    MetFree l (⟨"com/example/luoshu/luoshu/util/Geohash$Cell", "<init>", "(III)V"⟩ : MethodName) (head1 (Jvm.Cond.code (⟨"com/example/luoshu/luoshu/util/Geohash$Cell", "<init>", "(III)V"⟩ : MethodName) prog_49_method_1_code 4 none :: ws) ({ frames := 2, cells := 0, slots := 0, locals := 24 } : Room)) (fun a U => a = #[(.ref d0), (.int u0), (.int u1), (.int u2)] ∧ Z.Warmed39 U.vm ∧ U.heap = h0) (fun _ _ _ _ _ => True) (fun _ U o U' => ∃ v L, o = .returned v ∧ Q2 Z d0 u0 u1 u2 h0 n0 v U'.heap L ∧ FrameEnd U o U' L ({ frames := 2, cells := 0, slots := 0, locals := 24 } : Room).cells ({ frames := 2, cells := 0, slots := 0, locals := 24 } : Room).slots) := by
  refine MetFree.of_bodySF (plainFor_of_name pn_com_example_luoshu_luoshu_util_Geohash_Cell) hisR ?_
  intro p e s m args below meth c s₁ Bd hml0 hP hK
  obtain ⟨rfl, hZ, hh⟩ := hP
  have hx := Bd.exec
  have hby := Bd.bytes
  have hlk : meth.locks = false := Bd.notSynchronized
  have hml : c.maxLocals = 4 := hml0
  have hown : s.vm.findClass "com/example/luoshu/luoshu/util/Geohash$Cell" = some m.cls := findClass_of_methodNamed Bd.named
  have hnm := (name_of_methodNamed Bd.named Bd.method).1
  have X0 : Stand p l e ({ frames := 2, cells := 0, slots := 0, locals := 24 } : Room) s m #[(.ref d0), (.int u0), (.int u1), (.int u2)] below meth c s₁ [] 0 0 := Stand.of_body Bd
  have e0 : s₁.heap = h0 := by rw [← hh, Bd.state]; rfl
  have N0 := Fr.nil n0
  have K0 : Keep h0 h0 [d0] := Keep.refl h0 _
  show Wp p e below (Out s (Q2 Z d0 u0 u1 u2 h0 n0) ({ frames := 2, cells := 0, slots := 0, locals := 24 } : Room).cells ({ frames := 2, cells := 0, slots := 0, locals := 24 } : Room).slots) (s₁.setTop (entryFrame m #[(.ref d0), (.int u0), (.int u1), (.int u2)] 4))
  rw [ef_2_0000]
  show Wp p e below _ (s₁.setTop (mkF m 0 #[.val (.ref d0), .val (.int u0), .val (.int u1), .val (.int u2)] []))
  refine Wp.step (fun t k => XS.aloadN X0.here hx rfl (hb hby d2_0) rfl rfl k) ?_
  show Wp p e below _ (s₁.setTop (mkF m 1 #[.val (.ref d0), .val (.int u0), .val (.int u1), .val (.int u2)] [(.ref d0)]))
  obtain ⟨_, _, ⟨T1, L1, k1, n1⟩, -, X1, ⟨Lc1, hQ1, l1, y1, z1⟩, st1⟩ := X0.specialBack hx (y := (⟨"java/lang/Record", "<init>", "()V"⟩ : MethodName)) rfl hown (mvT hZ (hw _ (List.mem_of_getElem? (i := 17) rfl))) (mvT hZ (hw _ (List.mem_of_getElem? (i := 18) rfl))) (mvT hZ (hw _ (List.mem_of_getElem? (i := 21) rfl))) (by decide) (backOf (W := 0) (rm3 l Z a0 hw [] d0 h0 n0 (Nat.le_trans Z0 K0.1)) hZ (hw _ (List.mem_of_getElem? (i := 21) rfl)) (hw _ (List.mem_of_getElem? (i := 20) rfl)) (by decide) (by decide)) (g := (mkF m 1 #[.val (.ref d0), .val (.int u0), .val (.int u1), .val (.int u2)] [(.ref d0)])) rfl (by rw [hml]; rfl) (Steps.refl _) (a := d0) (argsL := []) (rest := []) (lenOf pd_2829V rfl) rfl (by show 2 * 0 + _ ≤ _; exact Nat.le_of_eq rfl) (hb hby d2_1) (fun _ _ => ⟨rfl, e0, (by decide : 0 + 0 ≤ _), (by decide : 0 + 0 ≤ _)⟩)
  dsimp only [Pt.U, Pt.locs, Pt.cells, Pt.slots] at X1 l1 y1 z1 st1 hQ1
  subst l1 y1 z1
  obtain ⟨rfl, N1q, e1⟩ := hQ1
  have N1 := Fr.app N0 N1q
  refine Wp.go st1 ?_
  show Wp p e below _ (T1.setTop (mkF m 4 #[.val (.ref d0), .val (.int u0), .val (.int u1), .val (.int u2)] []))
  refine Wp.step (fun t k => XS.aloadN X1.here hx rfl (hb hby d2_4) rfl rfl k) ?_
  show Wp p e below _ (T1.setTop (mkF m 5 #[.val (.ref d0), .val (.int u0), .val (.int u1), .val (.int u2)] [(.ref d0)]))
  refine Wp.step (fun t k => XS.iloadN X1.here hx rfl (hb hby d2_5) rfl k) ?_
  show Wp p e below _ (T1.setTop (mkF m 6 #[.val (.ref d0), .val (.int u0), .val (.int u1), .val (.int u2)] [(.int u0), (.ref d0)]))
  obtain ⟨T2, h2, X2, e2, W2, st2⟩ := putF X1 hx hZ hown (host := "") (Or.inl (hw _ (List.mem_of_getElem? (i := 25) rfl))) Via.refl e1 F_precision_d0 E_d0 (Or.inr ⟨(hw _ (List.mem_of_getElem? (i := 26) rfl)), rfl, hnm⟩) (hw _ (List.mem_of_getElem? (i := 12) rfl)) (ty := .int) (by decide) rfl rfl (g := (mkF m 6 #[.val (.ref d0), .val (.int u0), .val (.int u1), .val (.int u2)] [(.int u0), (.ref d0)])) rfl rfl (hb hby d2_6)
  have c3 := E_d0.wr W2
  have c4 := F_column_d0.other W2 (Or.inr (slot_ne (Or.inr (hw _ (List.mem_of_getElem? (i := 28) rfl))) (Or.inr (hw _ (List.mem_of_getElem? (i := 26) rfl))) (by decide) (t := .int) (t' := .int) (by decide) (by decide)))
  have c5 := F_row_d0.other W2 (Or.inr (slot_ne (Or.inr (hw _ (List.mem_of_getElem? (i := 30) rfl))) (Or.inr (hw _ (List.mem_of_getElem? (i := 26) rfl))) (by decide) (t := .int) (t' := .int) (by decide) (by decide)))
  have c6 := F_precision_d0.same W2
  have K7 := K0.wr W2 (Or.inl (List.mem_of_getElem? (i := 0) rfl))
  have N2 := Fr.snoc X2 N1 g_d0
  refine Wp.step st2 ?_
  show Wp p e below _ (T2.setTop (mkF m 9 #[.val (.ref d0), .val (.int u0), .val (.int u1), .val (.int u2)] []))
  refine Wp.step (fun t k => XS.aloadN X2.here hx rfl (hb hby d2_9) rfl rfl k) ?_
  show Wp p e below _ (T2.setTop (mkF m 10 #[.val (.ref d0), .val (.int u0), .val (.int u1), .val (.int u2)] [(.ref d0)]))
  refine Wp.step (fun t k => XS.iloadN X2.here hx rfl (hb hby d2_10) rfl k) ?_
  show Wp p e below _ (T2.setTop (mkF m 11 #[.val (.ref d0), .val (.int u0), .val (.int u1), .val (.int u2)] [(.int u1), (.ref d0)]))
  obtain ⟨T8, h8, X8, e8, W8, st8⟩ := putF X2 hx hZ hown (host := "") (Or.inl (hw _ (List.mem_of_getElem? (i := 27) rfl))) Via.refl e2 c4 c3 (Or.inr ⟨(hw _ (List.mem_of_getElem? (i := 28) rfl)), rfl, hnm⟩) (hw _ (List.mem_of_getElem? (i := 12) rfl)) (ty := .int) (by decide) rfl rfl (g := (mkF m 11 #[.val (.ref d0), .val (.int u0), .val (.int u1), .val (.int u2)] [(.int u1), (.ref d0)])) rfl rfl (hb hby d2_11)
  have c9 := c3.wr W8
  have c10 := c6.other W8 (Or.inr (slot_ne (Or.inr (hw _ (List.mem_of_getElem? (i := 26) rfl))) (Or.inr (hw _ (List.mem_of_getElem? (i := 28) rfl))) (by decide) (t := .int) (t' := .int) (by decide) (by decide)))
  have c11 := c5.other W8 (Or.inr (slot_ne (Or.inr (hw _ (List.mem_of_getElem? (i := 30) rfl))) (Or.inr (hw _ (List.mem_of_getElem? (i := 28) rfl))) (by decide) (t := .int) (t' := .int) (by decide) (by decide)))
  have c12 := c4.same W8
  have K13 := K7.wr W8 (Or.inl (List.mem_of_getElem? (i := 0) rfl))
  have N8 := Fr.snoc X8 N2 g_d0
  refine Wp.step st8 ?_
  show Wp p e below _ (T8.setTop (mkF m 14 #[.val (.ref d0), .val (.int u0), .val (.int u1), .val (.int u2)] []))
  refine Wp.step (fun t k => XS.aloadN X8.here hx rfl (hb hby d2_14) rfl rfl k) ?_
  show Wp p e below _ (T8.setTop (mkF m 15 #[.val (.ref d0), .val (.int u0), .val (.int u1), .val (.int u2)] [(.ref d0)]))
  refine Wp.step (fun t k => XS.iloadN X8.here hx rfl (hb hby d2_15) rfl k) ?_
  show Wp p e below _ (T8.setTop (mkF m 16 #[.val (.ref d0), .val (.int u0), .val (.int u1), .val (.int u2)] [(.int u2), (.ref d0)]))
  obtain ⟨T14, h14, X14, e14, W14, st14⟩ := putF X8 hx hZ hown (host := "") (Or.inl (hw _ (List.mem_of_getElem? (i := 29) rfl))) Via.refl e8 c11 c9 (Or.inr ⟨(hw _ (List.mem_of_getElem? (i := 30) rfl)), rfl, hnm⟩) (hw _ (List.mem_of_getElem? (i := 12) rfl)) (ty := .int) (by decide) rfl rfl (g := (mkF m 16 #[.val (.ref d0), .val (.int u0), .val (.int u1), .val (.int u2)] [(.int u2), (.ref d0)])) rfl rfl (hb hby d2_16)
  have c15 := c9.wr W14
  have c16 := c10.other W14 (Or.inr (slot_ne (Or.inr (hw _ (List.mem_of_getElem? (i := 26) rfl))) (Or.inr (hw _ (List.mem_of_getElem? (i := 30) rfl))) (by decide) (t := .int) (t' := .int) (by decide) (by decide)))
  have c17 := c12.other W14 (Or.inr (slot_ne (Or.inr (hw _ (List.mem_of_getElem? (i := 28) rfl))) (Or.inr (hw _ (List.mem_of_getElem? (i := 30) rfl))) (by decide) (t := .int) (t' := .int) (by decide) (by decide)))
  have c18 := c11.same W14
  have K19 := K13.wr W14 (Or.inl (List.mem_of_getElem? (i := 0) rfl))
  have N14 := Fr.snoc X14 N8 g_d0
  refine Wp.step st14 ?_
  show Wp p e below _ (T14.setTop (mkF m 19 #[.val (.ref d0), .val (.int u0), .val (.int u1), .val (.int u2)] []))
  refine Wp.retV X14 hx Bd.returns (hb hby d2_19) hlk ?_ (by decide) (by decide)
  show Q2 Z d0 u0 u1 u2 h0 n0 none T14.heap _
  rw [e14]
  exact ⟨rfl, N14, K19, c15, c16, c17, c18⟩
theorem pd_28I29I : parseMethodDescriptor "(I)I" = some ⟨[.int], some .int⟩ := by decide +kernel
theorem d5_0 : decode prog_49_method_12_code 0 = .ok (.lconst 0, 1) := by decide +kernel
theorem d5_1 : decode prog_49_method_12_code 1 = .ok (.lstore_n 1, 1) := by decide +kernel
theorem d5_2 : decode prog_49_method_12_code 2 = .ok (.aload_n 0, 1) := by decide +kernel
theorem d5_3 : decode prog_49_method_12_code 3 = .ok (.getfield 9, 3) := by decide +kernel
theorem d5_6 : decode prog_49_method_12_code 6 = .ok (.invokestatic 25, 3) := by decide +kernel
theorem d5_9 : decode prog_49_method_12_code 9 = .ok (.istore_n 3, 1) := by decide +kernel
theorem d5_10 : decode prog_49_method_12_code 10 = .ok (.aload_n 0, 1) := by decide +kernel
theorem d5_11 : decode prog_49_method_12_code 11 = .ok (.getfield 9, 3) := by decide +kernel
theorem d5_14 : decode prog_49_method_12_code 14 = .ok (.invokestatic 37, 3) := by decide +kernel
theorem d5_17 : decode prog_49_method_12_code 17 = .ok (.istore 4, 2) := by decide +kernel
theorem d5_19 : decode prog_49_method_12_code 19 = .ok (.iconst 0, 1) := by decide +kernel
theorem d5_20 : decode prog_49_method_12_code 20 = .ok (.istore 5, 2) := by decide +kernel
theorem d5_22 : decode prog_49_method_12_code 22 = .ok (.iload 5, 2) := by decide +kernel
theorem d5_24 : decode prog_49_method_12_code 24 = .ok (.aload_n 0, 1) := by decide +kernel
theorem d5_25 : decode prog_49_method_12_code 25 = .ok (.getfield 9, 3) := by decide +kernel
theorem d5_28 : decode prog_49_method_12_code 28 = .ok (.iconst 5, 1) := by decide +kernel
theorem d5_29 : decode prog_49_method_12_code 29 = .ok (.imul, 1) := by decide +kernel
theorem d5_30 : decode prog_49_method_12_code 30 = .ok (.if_icmp .ge 50, 3) := by decide +kernel
theorem d5_33 : decode prog_49_method_12_code 33 = .ok (.iload 5, 2) := by decide +kernel
theorem d5_35 : decode prog_49_method_12_code 35 = .ok (.iconst 2, 1) := by decide +kernel
theorem d5_36 : decode prog_49_method_12_code 36 = .ok (.irem, 1) := by decide +kernel
theorem d5_37 : decode prog_49_method_12_code 37 = .ok (.ifCond .ne 15, 3) := by decide +kernel
theorem d5_40 : decode prog_49_method_12_code 40 = .ok (.aload_n 0, 1) := by decide +kernel
theorem d5_41 : decode prog_49_method_12_code 41 = .ok (.getfield 15, 3) := by decide +kernel
theorem d5_44 : decode prog_49_method_12_code 44 = .ok (.iinc 3 (-1), 3) := by decide +kernel
theorem d5_47 : decode prog_49_method_12_code 47 = .ok (.iload_n 3, 1) := by decide +kernel
theorem d5_48 : decode prog_49_method_12_code 48 = .ok (.iushr, 1) := by decide +kernel
theorem d5_49 : decode prog_49_method_12_code 49 = .ok (.goto 13, 3) := by decide +kernel
theorem d5_52 : decode prog_49_method_12_code 52 = .ok (.aload_n 0, 1) := by decide +kernel
theorem d5_53 : decode prog_49_method_12_code 53 = .ok (.getfield 18, 3) := by decide +kernel
theorem d5_56 : decode prog_49_method_12_code 56 = .ok (.iinc 4 (-1), 3) := by decide +kernel
theorem d5_59 : decode prog_49_method_12_code 59 = .ok (.iload 4, 2) := by decide +kernel
theorem d5_61 : decode prog_49_method_12_code 61 = .ok (.iushr, 1) := by decide +kernel
theorem d5_62 : decode prog_49_method_12_code 62 = .ok (.istore 6, 2) := by decide +kernel
theorem d5_64 : decode prog_49_method_12_code 64 = .ok (.lload_n 1, 1) := by decide +kernel
theorem d5_65 : decode prog_49_method_12_code 65 = .ok (.iconst 1, 1) := by decide +kernel
theorem d5_66 : decode prog_49_method_12_code 66 = .ok (.lshl, 1) := by decide +kernel
theorem d5_67 : decode prog_49_method_12_code 67 = .ok (.iload 6, 2) := by decide +kernel
theorem d5_69 : decode prog_49_method_12_code 69 = .ok (.iconst 1, 1) := by decide +kernel
theorem d5_70 : decode prog_49_method_12_code 70 = .ok (.iand, 1) := by decide +kernel
theorem d5_71 : decode prog_49_method_12_code 71 = .ok (.i2l, 1) := by decide +kernel
theorem d5_72 : decode prog_49_method_12_code 72 = .ok (.lor, 1) := by decide +kernel
theorem d5_73 : decode prog_49_method_12_code 73 = .ok (.lstore_n 1, 1) := by decide +kernel
theorem d5_74 : decode prog_49_method_12_code 74 = .ok (.iinc 5 1, 3) := by decide +kernel
theorem d5_77 : decode prog_49_method_12_code 77 = .ok (.goto (-55), 3) := by decide +kernel
theorem d5_80 : decode prog_49_method_12_code 80 = .ok (.lload_n 1, 1) := by decide +kernel
theorem d5_81 : decode prog_49_method_12_code 81 = .ok (.lreturn, 1) := by decide +kernel
theorem ef_5_0 (m : MethodId) (x0 : Addr) : entryFrame m #[(.ref x0)] 7 = mkF m 0 #[.val (.ref x0), .unset, .unset, .unset, .unset, .unset, .unset] [] := by first | (simp [entryFrame, mkF, argsToLocals, Value.category]; done) | rfl
def Q5 (Z : State) (d0 : Addr) (pr : Int32) (col : Int32) (row : Int32) (h0 : Heap) (n0 : Nat) (v : Option Value) (h : Heap) (L : List Loc) : Prop := v = some (.long (own_loop col row (5 * pr.toNatClampNeg) 0 0 (own_lon pr) (own_lat pr))) ∧ Fr n0 L ∧ h = h0
set_option maxRecDepth 65536 in
set_option maxHeartbeats 40000000 in
theorem rm5 (l : Launch) (Z : State) (a0 : Array Value) (hw : ∀ d ∈ tables_1, d.before a0 Z = true) (ws : List Jvm.Cond) (d0 : Addr) (pr : Int32) (col : Int32) (row : Int32) (h0 : Heap) (n0 : Nat) (Z0 : n0 ≤ h0.size) (F_precision : Fld Z h0 d0 "com/example/luoshu/luoshu/util/Geohash$Cell" "precision" "I" (.int pr)) (F_column : Fld Z h0 d0 "com/example/luoshu/luoshu/util/Geohash$Cell" "column" "I" (.int col)) (F_row : Fld Z h0 d0 "com/example/luoshu/luoshu/util/Geohash$Cell" "row" "I" (.int row)) (hpr0 : 0 ≤ pr.toInt) (hpr1 : pr.toInt ≤ 12) :
    MetFree l (⟨"com/example/luoshu/luoshu/util/Geohash$Cell", "bits", "()J"⟩ : MethodName) (head1 (Jvm.Cond.code (⟨"com/example/luoshu/luoshu/util/Geohash$Cell", "bits", "()J"⟩ : MethodName) prog_49_method_12_code 7 (some .long) :: ws) ({ frames := 1, cells := 0, slots := 0, locals := 12 } : Room)) (fun a U => a = #[(.ref d0)] ∧ Z.Warmed39 U.vm ∧ U.heap = h0) (fun _ _ _ _ _ => True) (fun _ U o U' => ∃ v L, o = .returned v ∧ Q5 Z d0 pr col row h0 n0 v U'.heap L ∧ FrameEnd U o U' L ({ frames := 1, cells := 0, slots := 0, locals := 12 } : Room).cells ({ frames := 1, cells := 0, slots := 0, locals := 12 } : Room).slots) := by
  refine MetFree.of_bodySF (plainFor_of_name pn_com_example_luoshu_luoshu_util_Geohash_Cell) hisR ?_
  intro p e s m args below meth c s₁ Bd hml0 hP hK
  obtain ⟨rfl, hZ, hh⟩ := hP
  have hx := Bd.exec
  have hby := Bd.bytes
  have hlk : meth.locks = false := Bd.notSynchronized
  have hml : c.maxLocals = 7 := hml0
  have hown : s.vm.findClass "com/example/luoshu/luoshu/util/Geohash$Cell" = some m.cls := findClass_of_methodNamed Bd.named
  have hnm := (name_of_methodNamed Bd.named Bd.method).1
  have X0 : Stand p l e ({ frames := 1, cells := 0, slots := 0, locals := 12 } : Room) s m #[(.ref d0)] below meth c s₁ [] 0 0 := Stand.of_body Bd
  have e0 : s₁.heap = h0 := by rw [← hh, Bd.state]; rfl
  have N0 := Fr.nil n0
  have K0 : Keep h0 h0 [] := Keep.refl h0 _
  show Wp p e below (Out s (Q5 Z d0 pr col row h0 n0) ({ frames := 1, cells := 0, slots := 0, locals := 12 } : Room).cells ({ frames := 1, cells := 0, slots := 0, locals := 12 } : Room).slots) (s₁.setTop (entryFrame m #[(.ref d0)] 7))
  rw [ef_5_0]
  show Wp p e below _ (s₁.setTop (mkF m 0 #[.val (.ref d0), .unset, .unset, .unset, .unset, .unset, .unset] []))
  refine Wp.step (fun t k => XS.lconst X0.here hx rfl (hb hby d5_0) k) ?_
  show Wp p e below _ (s₁.setTop (mkF m 1 #[.val (.ref d0), .unset, .unset, .unset, .unset, .unset, .unset] [(.long (0 : Int64))]))
  refine Wp.step (fun t k => XS.lstoreN X0.here hx rfl (hb hby d5_1) rfl (l' := #[.val (.ref d0), .val (.long (0 : Int64)), .second, .unset, .unset, .unset, .unset]) rfl k) ?_
  show Wp p e below _ (s₁.setTop (mkF m 2 #[.val (.ref d0), .val (.long (0 : Int64)), .second, .unset, .unset, .unset, .unset] []))
  refine Wp.step (fun t k => XS.aloadN X0.here hx rfl (hb hby d5_2) rfl rfl k) ?_
  show Wp p e below _ (s₁.setTop (mkF m 3 #[.val (.ref d0), .val (.long (0 : Int64)), .second, .unset, .unset, .unset, .unset] [(.ref d0)]))
  obtain ⟨T1, X1, e1, st1⟩ := getF X0 hx hZ hown (host := "") (Or.inl (hw _ (List.mem_of_getElem? (i := 25) rfl))) Via.refl e0 F_precision (g := (mkF m 3 #[.val (.ref d0), .val (.long (0 : Int64)), .second, .unset, .unset, .unset, .unset] [(.ref d0)])) rfl rfl (hb hby d5_3)
  refine Wp.step st1 ?_
  show Wp p e below _ (T1.setTop (mkF m 6 #[.val (.ref d0), .val (.long (0 : Int64)), .second, .unset, .unset, .unset, .unset] [(.int pr)]))
  obtain ⟨_, _, ⟨T2, L2, k2, n2⟩, -, X2, ⟨Lc2, hQ2, l2, y2, z2⟩, st2⟩ := Jvm.LawKit.callS X1 hx (y := (⟨"com/example/luoshu/luoshu/util/Geohash$Cell", "lonBits", "(I)I"⟩ : MethodName)) hown (mvT hZ (hw _ (List.mem_of_getElem? (i := 36) rfl))) (mvT hZ (hw _ (List.mem_of_getElem? (i := 37) rfl))) (mvT hZ (hw _ (List.mem_of_getElem? (i := 13) rfl))) (mvT hZ (hw _ (List.mem_of_getElem? (i := 38) rfl))) (by decide) (backOf (W := 0) (rm6 l Z a0 hw [] pr  h0 n0 (Nat.le_trans Z0 K0.1) ) hZ (hw _ (List.mem_of_getElem? (i := 38) rfl)) (hw _ (List.mem_of_getElem? (i := 13) rfl)) (by decide) (by decide)) (g := (mkF m 6 #[.val (.ref d0), .val (.long (0 : Int64)), .second, .unset, .unset, .unset, .unset] [(.int pr)])) rfl (by rw [hml]; rfl) (argsL := [(.int pr)]) (rest := []) (lenOf pd_28I29I rfl) rfl (by show 2 * 0 + _ ≤ _; exact Nat.le_of_eq rfl) (hb hby d5_6) (fun _ _ => ⟨rfl, e1, (by decide : 0 + 0 ≤ _), (by decide : 0 + 0 ≤ _)⟩)
  dsimp only [Pt.U, Pt.locs, Pt.cells, Pt.slots] at X2 l2 y2 z2 st2 hQ2
  subst l2 y2 z2
  obtain ⟨rfl, N2q, e2⟩ := hQ2
  have N2 := Fr.app N0 N2q
  refine Wp.step st2 ?_
  show Wp p e below _ (T2.setTop (mkF m 9 #[.val (.ref d0), .val (.long (0 : Int64)), .second, .unset, .unset, .unset, .unset] [(.int (own_lon pr))]))
  refine Wp.step (fun t k => XS.istoreN X2.here hx rfl (hb hby d5_9) rfl (l' := #[.val (.ref d0), .val (.long (0 : Int64)), .second, .val (.int (own_lon pr)), .unset, .unset, .unset]) rfl k) ?_
  show Wp p e below _ (T2.setTop (mkF m 10 #[.val (.ref d0), .val (.long (0 : Int64)), .second, .val (.int (own_lon pr)), .unset, .unset, .unset] []))
  refine Wp.step (fun t k => XS.aloadN X2.here hx rfl (hb hby d5_10) rfl rfl k) ?_
  show Wp p e below _ (T2.setTop (mkF m 11 #[.val (.ref d0), .val (.long (0 : Int64)), .second, .val (.int (own_lon pr)), .unset, .unset, .unset] [(.ref d0)]))
  obtain ⟨T3, X3, e3, st3⟩ := getF X2 hx hZ hown (host := "") (Or.inl (hw _ (List.mem_of_getElem? (i := 25) rfl))) Via.refl e2 F_precision (g := (mkF m 11 #[.val (.ref d0), .val (.long (0 : Int64)), .second, .val (.int (own_lon pr)), .unset, .unset, .unset] [(.ref d0)])) rfl rfl (hb hby d5_11)
  refine Wp.step st3 ?_
  show Wp p e below _ (T3.setTop (mkF m 14 #[.val (.ref d0), .val (.long (0 : Int64)), .second, .val (.int (own_lon pr)), .unset, .unset, .unset] [(.int pr)]))
  obtain ⟨_, _, ⟨T4, L4, k4, n4⟩, -, X4, ⟨Lc4, hQ4, l4, y4, z4⟩, st4⟩ := Jvm.LawKit.callS X3 hx (y := (⟨"com/example/luoshu/luoshu/util/Geohash$Cell", "latBits", "(I)I"⟩ : MethodName)) hown (mvT hZ (hw _ (List.mem_of_getElem? (i := 39) rfl))) (mvT hZ (hw _ (List.mem_of_getElem? (i := 40) rfl))) (mvT hZ (hw _ (List.mem_of_getElem? (i := 13) rfl))) (mvT hZ (hw _ (List.mem_of_getElem? (i := 41) rfl))) (by decide) (backOf (W := 0) (rm7 l Z a0 hw [] pr  h0 n0 (Nat.le_trans Z0 K0.1) ) hZ (hw _ (List.mem_of_getElem? (i := 41) rfl)) (hw _ (List.mem_of_getElem? (i := 13) rfl)) (by decide) (by decide)) (g := (mkF m 14 #[.val (.ref d0), .val (.long (0 : Int64)), .second, .val (.int (own_lon pr)), .unset, .unset, .unset] [(.int pr)])) rfl (by rw [hml]; rfl) (argsL := [(.int pr)]) (rest := []) (lenOf pd_28I29I rfl) rfl (by show 2 * 0 + _ ≤ _; exact Nat.le_of_eq rfl) (hb hby d5_14) (fun _ _ => ⟨rfl, e3, (by decide : 0 + 0 ≤ _), (by decide : 0 + 0 ≤ _)⟩)
  dsimp only [Pt.U, Pt.locs, Pt.cells, Pt.slots] at X4 l4 y4 z4 st4 hQ4
  subst l4 y4 z4
  obtain ⟨rfl, N4q, e4⟩ := hQ4
  have N4 := Fr.app N2 N4q
  refine Wp.step st4 ?_
  show Wp p e below _ (T4.setTop (mkF m 17 #[.val (.ref d0), .val (.long (0 : Int64)), .second, .val (.int (own_lon pr)), .unset, .unset, .unset] [(.int (own_lat pr))]))
  refine Wp.step (fun t k => XS.istore X4.here hx rfl (hb hby d5_17) rfl (l' := #[.val (.ref d0), .val (.long (0 : Int64)), .second, .val (.int (own_lon pr)), .val (.int (own_lat pr)), .unset, .unset]) rfl k) ?_
  show Wp p e below _ (T4.setTop (mkF m 19 #[.val (.ref d0), .val (.long (0 : Int64)), .second, .val (.int (own_lon pr)), .val (.int (own_lat pr)), .unset, .unset] []))
  refine Wp.step (fun t k => XS.iconst X4.here hx rfl (hb hby d5_19) k) ?_
  show Wp p e below _ (T4.setTop (mkF m 20 #[.val (.ref d0), .val (.long (0 : Int64)), .second, .val (.int (own_lon pr)), .val (.int (own_lat pr)), .unset, .unset] [(.int (0 : Int32))]))
  refine Wp.step (fun t k => XS.istore X4.here hx rfl (hb hby d5_20) rfl (l' := #[.val (.ref d0), .val (.long (0 : Int64)), .second, .val (.int (own_lon pr)), .val (.int (own_lat pr)), .val (.int (0 : Int32)), .unset]) rfl k) ?_
  show Wp p e below _ (T4.setTop (mkF m 22 #[.val (.ref d0), .val (.long (0 : Int64)), .second, .val (.int (own_lon pr)), .val (.int (own_lat pr)), .val (.int (0 : Int32)), .unset] []))
  have loop : ∀ (f : Nat) (b : Int32) (B : Int64) (lo la : Int32) (sl : Slot) (locs : List Loc) (cs ss : Nat) (T : State) (X : Stand p l e ({ frames := 1, cells := 0, slots := 0, locals := 12 } : Room) s m #[(.ref d0)] below meth c T locs cs ss) (eT : T.heap = h0) (NN : Fr n0 locs) (hcs : cs ≤ ({ frames := 1, cells := 0, slots := 0, locals := 12 } : Room).cells) (hss : ss ≤ ({ frames := 1, cells := 0, slots := 0, locals := 12 } : Room).slots) (hsl : One sl) (hbb : b.toInt + f = 5 * pr.toInt) (hb0 : 0 ≤ b.toInt) (hR : own_loop col row f b B lo la = (own_loop col row (5 * pr.toNatClampNeg) 0 0 (own_lon pr) (own_lat pr))), Wp p e below (Out s (Q5 Z d0 pr col row h0 n0) ({ frames := 1, cells := 0, slots := 0, locals := 12 } : Room).cells ({ frames := 1, cells := 0, slots := 0, locals := 12 } : Room).slots) (T.setTop (mkF m 22 #[.val (.ref d0), .val (.long B), .second, .val (.int lo), .val (.int la), .val (.int b), sl] [])) := by
    intro f
    induction f with
    | zero =>
      intro b B lo la sl locs cs ss T X eT NN hcs hss hsl hbb hb0 hR
      show Wp p e below _ (T.setTop (mkF m 22 #[.val (.ref d0), .val (.long B), .second, .val (.int lo), .val (.int la), .val (.int b), sl] []))
      refine Wp.step (fun t k => XS.iload X.here hx rfl (hb hby d5_22) rfl k) ?_
      show Wp p e below _ (T.setTop (mkF m 24 #[.val (.ref d0), .val (.long B), .second, .val (.int lo), .val (.int la), .val (.int b), sl] [(.int b)]))
      refine Wp.step (fun t k => XS.aloadN X.here hx rfl (hb hby d5_24) rfl rfl k) ?_
      show Wp p e below _ (T.setTop (mkF m 25 #[.val (.ref d0), .val (.long B), .second, .val (.int lo), .val (.int la), .val (.int b), sl] [(.ref d0), (.int b)]))
      obtain ⟨T5, X5, e5, st5⟩ := getF X hx hZ hown (host := "") (Or.inl (hw _ (List.mem_of_getElem? (i := 25) rfl))) Via.refl eT F_precision (g := (mkF m 25 #[.val (.ref d0), .val (.long B), .second, .val (.int lo), .val (.int la), .val (.int b), sl] [(.ref d0), (.int b)])) rfl rfl (hb hby d5_25)
      refine Wp.step st5 ?_
      show Wp p e below _ (T5.setTop (mkF m 28 #[.val (.ref d0), .val (.long B), .second, .val (.int lo), .val (.int la), .val (.int b), sl] [(.int pr), (.int b)]))
      refine Wp.step (fun t k => XS.iconst X5.here hx rfl (hb hby d5_28) k) ?_
      show Wp p e below _ (T5.setTop (mkF m 29 #[.val (.ref d0), .val (.long B), .second, .val (.int lo), .val (.int la), .val (.int b), sl] [(.int (5 : Int32)), (.int pr), (.int b)]))
      refine Wp.step (fun t k => XS.imul X5.here hx rfl (hb hby d5_29) rfl k) ?_
      show Wp p e below _ (T5.setTop (mkF m 30 #[.val (.ref d0), .val (.long B), .second, .val (.int lo), .val (.int la), .val (.int b), sl] [(.int (pr * (5 : Int32))), (.int b)]))
      refine Wp.step (fun t k => XS.icmpYes X5.here hx rfl (pc0 := 30) (pc' := 80) rfl (hb hby d5_30) rfl (flt (show ¬ (b < (pr * (5 : Int32))) from own_end hbb hpr0 hpr1)).2.1 (by decide) (by decide) k) ?_
      show Wp p e below _ (T5.setTop (mkF m 80 #[.val (.ref d0), .val (.long B), .second, .val (.int lo), .val (.int la), .val (.int b), sl] []))
      refine Wp.step (fun t k => XS.lloadN X5.here hx rfl (hb hby d5_80) rfl k) ?_
      show Wp p e below _ (T5.setTop (mkF m 81 #[.val (.ref d0), .val (.long B), .second, .val (.int lo), .val (.int la), .val (.int b), sl] [(.long B)]))
      refine Wp.retJ X5 hx Bd.returns (hb hby d5_81) hlk ?_ hcs hss
      show Q5 Z d0 pr col row h0 n0 (some (.long B)) T5.heap _
      rw [e5]
      exact ⟨by rw [← hR]; rfl, NN, rfl⟩
    | succ f ih =>
      intro b B lo la sl locs cs ss T X eT NN hcs hss hsl hbb hb0 hR
      show Wp p e below _ (T.setTop (mkF m 22 #[.val (.ref d0), .val (.long B), .second, .val (.int lo), .val (.int la), .val (.int b), sl] []))
      refine Wp.step (fun t k => XS.iload X.here hx rfl (hb hby d5_22) rfl k) ?_
      show Wp p e below _ (T.setTop (mkF m 24 #[.val (.ref d0), .val (.long B), .second, .val (.int lo), .val (.int la), .val (.int b), sl] [(.int b)]))
      refine Wp.step (fun t k => XS.aloadN X.here hx rfl (hb hby d5_24) rfl rfl k) ?_
      show Wp p e below _ (T.setTop (mkF m 25 #[.val (.ref d0), .val (.long B), .second, .val (.int lo), .val (.int la), .val (.int b), sl] [(.ref d0), (.int b)]))
      obtain ⟨T7, X7, e7, st7⟩ := getF X hx hZ hown (host := "") (Or.inl (hw _ (List.mem_of_getElem? (i := 25) rfl))) Via.refl eT F_precision (g := (mkF m 25 #[.val (.ref d0), .val (.long B), .second, .val (.int lo), .val (.int la), .val (.int b), sl] [(.ref d0), (.int b)])) rfl rfl (hb hby d5_25)
      refine Wp.step st7 ?_
      show Wp p e below _ (T7.setTop (mkF m 28 #[.val (.ref d0), .val (.long B), .second, .val (.int lo), .val (.int la), .val (.int b), sl] [(.int pr), (.int b)]))
      refine Wp.step (fun t k => XS.iconst X7.here hx rfl (hb hby d5_28) k) ?_
      show Wp p e below _ (T7.setTop (mkF m 29 #[.val (.ref d0), .val (.long B), .second, .val (.int lo), .val (.int la), .val (.int b), sl] [(.int (5 : Int32)), (.int pr), (.int b)]))
      refine Wp.step (fun t k => XS.imul X7.here hx rfl (hb hby d5_29) rfl k) ?_
      show Wp p e below _ (T7.setTop (mkF m 30 #[.val (.ref d0), .val (.long B), .second, .val (.int lo), .val (.int la), .val (.int b), sl] [(.int (pr * (5 : Int32))), (.int b)]))
      refine Wp.step (fun t k => XS.icmpNo X7.here hx rfl (hb hby d5_30) rfl (tlt (show b < (pr * (5 : Int32)) from own_more hbb hpr0 hpr1)).2.1 k) ?_
      show Wp p e below _ (T7.setTop (mkF m 33 #[.val (.ref d0), .val (.long B), .second, .val (.int lo), .val (.int la), .val (.int b), sl] []))
      refine Wp.step (fun t k => XS.iload X7.here hx rfl (hb hby d5_33) rfl k) ?_
      show Wp p e below _ (T7.setTop (mkF m 35 #[.val (.ref d0), .val (.long B), .second, .val (.int lo), .val (.int la), .val (.int b), sl] [(.int b)]))
      refine Wp.step (fun t k => XS.iconst X7.here hx rfl (hb hby d5_35) k) ?_
      show Wp p e below _ (T7.setTop (mkF m 36 #[.val (.ref d0), .val (.long B), .second, .val (.int lo), .val (.int la), .val (.int b), sl] [(.int (2 : Int32)), (.int b)]))
      refine Wp.step (fun t k => Jvm.RoadKit.iremM X7 hx rfl (hb hby d5_36) rfl (by decide) k) ?_
      show Wp p e below _ (T7.setTop (mkF m 37 #[.val (.ref d0), .val (.long B), .second, .val (.int lo), .val (.int la), .val (.int b), sl] [(.int (b % (2 : Int32)))]))
      by_cases hc9 : (b % (2 : Int32)) = (0 : Int32)
      · refine Wp.step (fun t k => XS.ifNo X7.here hx rfl (hb hby d5_37) rfl ((if0 _ _).trans (teq hc9).2) k) ?_
        show Wp p e below _ (T7.setTop (mkF m 40 #[.val (.ref d0), .val (.long B), .second, .val (.int lo), .val (.int la), .val (.int b), sl] []))
        refine Wp.step (fun t k => XS.aloadN X7.here hx rfl (hb hby d5_40) rfl rfl k) ?_
        show Wp p e below _ (T7.setTop (mkF m 41 #[.val (.ref d0), .val (.long B), .second, .val (.int lo), .val (.int la), .val (.int b), sl] [(.ref d0)]))
        obtain ⟨T10, X10, e10, st10⟩ := getF X7 hx hZ hown (host := "") (Or.inl (hw _ (List.mem_of_getElem? (i := 27) rfl))) Via.refl e7 F_column (g := (mkF m 41 #[.val (.ref d0), .val (.long B), .second, .val (.int lo), .val (.int la), .val (.int b), sl] [(.ref d0)])) rfl rfl (hb hby d5_41)
        refine Wp.step st10 ?_
        show Wp p e below _ (T10.setTop (mkF m 44 #[.val (.ref d0), .val (.long B), .second, .val (.int lo), .val (.int la), .val (.int b), sl] [(.int col)]))
        refine Wp.step (fun t k => XS.iinc X10.here hx rfl (hb hby d5_44) rfl (l' := #[.val (.ref d0), .val (.long B), .second, .val (.int (lo + (-1 : Int32))), .val (.int la), .val (.int b), sl]) rfl k) ?_
        show Wp p e below _ (T10.setTop (mkF m 47 #[.val (.ref d0), .val (.long B), .second, .val (.int (lo + (-1 : Int32))), .val (.int la), .val (.int b), sl] [(.int col)]))
        refine Wp.step (fun t k => XS.iloadN X10.here hx rfl (hb hby d5_47) rfl k) ?_
        show Wp p e below _ (T10.setTop (mkF m 48 #[.val (.ref d0), .val (.long B), .second, .val (.int (lo + (-1 : Int32))), .val (.int la), .val (.int b), sl] [(.int (lo + (-1 : Int32))), (.int col)]))
        refine Wp.step (fun t k => XS.iushr X10.here hx rfl (hb hby d5_48) rfl k) ?_
        show Wp p e below _ (T10.setTop (mkF m 49 #[.val (.ref d0), .val (.long B), .second, .val (.int (lo + (-1 : Int32))), .val (.int la), .val (.int b), sl] [(.int ((col.toUInt32 >>> ((lo + (-1 : Int32)) &&& 31).toUInt32).toInt32))]))
        refine Wp.step (fun t k => XS.goto X10.here hx rfl (pc0 := 49) (pc' := 62) rfl (hb hby d5_49) (by decide) (by decide) k) ?_
        show Wp p e below _ (T10.setTop (mkF m 62 #[.val (.ref d0), .val (.long B), .second, .val (.int (lo + (-1 : Int32))), .val (.int la), .val (.int b), sl] [(.int ((col.toUInt32 >>> ((lo + (-1 : Int32)) &&& 31).toUInt32).toInt32))]))
        refine Wp.step (fun t k => XS.istore X10.here hx rfl (hb hby d5_62) rfl (l' := #[.val (.ref d0), .val (.long B), .second, .val (.int (lo + (-1 : Int32))), .val (.int la), .val (.int b), .val (.int ((col.toUInt32 >>> ((lo + (-1 : Int32)) &&& 31).toUInt32).toInt32))]) (XS.store1 (o := sl) rfl hsl rfl) k) ?_
        show Wp p e below _ (T10.setTop (mkF m 64 #[.val (.ref d0), .val (.long B), .second, .val (.int (lo + (-1 : Int32))), .val (.int la), .val (.int b), .val (.int ((col.toUInt32 >>> ((lo + (-1 : Int32)) &&& 31).toUInt32).toInt32))] []))
        refine Wp.step (fun t k => XS.lloadN X10.here hx rfl (hb hby d5_64) rfl k) ?_
        show Wp p e below _ (T10.setTop (mkF m 65 #[.val (.ref d0), .val (.long B), .second, .val (.int (lo + (-1 : Int32))), .val (.int la), .val (.int b), .val (.int ((col.toUInt32 >>> ((lo + (-1 : Int32)) &&& 31).toUInt32).toInt32))] [(.long B)]))
        refine Wp.step (fun t k => XS.iconst X10.here hx rfl (hb hby d5_65) k) ?_
        show Wp p e below _ (T10.setTop (mkF m 66 #[.val (.ref d0), .val (.long B), .second, .val (.int (lo + (-1 : Int32))), .val (.int la), .val (.int b), .val (.int ((col.toUInt32 >>> ((lo + (-1 : Int32)) &&& 31).toUInt32).toInt32))] [(.int (1 : Int32)), (.long B)]))
        refine Wp.step (fun t k => XS.lshl X10.here hx rfl (hb hby d5_66) rfl k) ?_
        show Wp p e below _ (T10.setTop (mkF m 67 #[.val (.ref d0), .val (.long B), .second, .val (.int (lo + (-1 : Int32))), .val (.int la), .val (.int b), .val (.int ((col.toUInt32 >>> ((lo + (-1 : Int32)) &&& 31).toUInt32).toInt32))] [(.long (B <<< ((1 : Int32) &&& 0x3f).toInt64))]))
        refine Wp.step (fun t k => XS.iload X10.here hx rfl (hb hby d5_67) rfl k) ?_
        show Wp p e below _ (T10.setTop (mkF m 69 #[.val (.ref d0), .val (.long B), .second, .val (.int (lo + (-1 : Int32))), .val (.int la), .val (.int b), .val (.int ((col.toUInt32 >>> ((lo + (-1 : Int32)) &&& 31).toUInt32).toInt32))] [(.int ((col.toUInt32 >>> ((lo + (-1 : Int32)) &&& 31).toUInt32).toInt32)), (.long (B <<< ((1 : Int32) &&& 0x3f).toInt64))]))
        refine Wp.step (fun t k => XS.iconst X10.here hx rfl (hb hby d5_69) k) ?_
        show Wp p e below _ (T10.setTop (mkF m 70 #[.val (.ref d0), .val (.long B), .second, .val (.int (lo + (-1 : Int32))), .val (.int la), .val (.int b), .val (.int ((col.toUInt32 >>> ((lo + (-1 : Int32)) &&& 31).toUInt32).toInt32))] [(.int (1 : Int32)), (.int ((col.toUInt32 >>> ((lo + (-1 : Int32)) &&& 31).toUInt32).toInt32)), (.long (B <<< ((1 : Int32) &&& 0x3f).toInt64))]))
        refine Wp.step (fun t k => XS.iand X10.here hx rfl (hb hby d5_70) rfl k) ?_
        show Wp p e below _ (T10.setTop (mkF m 71 #[.val (.ref d0), .val (.long B), .second, .val (.int (lo + (-1 : Int32))), .val (.int la), .val (.int b), .val (.int ((col.toUInt32 >>> ((lo + (-1 : Int32)) &&& 31).toUInt32).toInt32))] [(.int (((col.toUInt32 >>> ((lo + (-1 : Int32)) &&& 31).toUInt32).toInt32) &&& (1 : Int32))), (.long (B <<< ((1 : Int32) &&& 0x3f).toInt64))]))
        refine Wp.step (fun t k => XS.i2l X10.here hx rfl (hb hby d5_71) rfl k) ?_
        show Wp p e below _ (T10.setTop (mkF m 72 #[.val (.ref d0), .val (.long B), .second, .val (.int (lo + (-1 : Int32))), .val (.int la), .val (.int b), .val (.int ((col.toUInt32 >>> ((lo + (-1 : Int32)) &&& 31).toUInt32).toInt32))] [(.long ((((col.toUInt32 >>> ((lo + (-1 : Int32)) &&& 31).toUInt32).toInt32) &&& (1 : Int32)).toInt64)), (.long (B <<< ((1 : Int32) &&& 0x3f).toInt64))]))
        refine Wp.step (fun t k => XS.lor X10.here hx rfl (hb hby d5_72) rfl k) ?_
        show Wp p e below _ (T10.setTop (mkF m 73 #[.val (.ref d0), .val (.long B), .second, .val (.int (lo + (-1 : Int32))), .val (.int la), .val (.int b), .val (.int ((col.toUInt32 >>> ((lo + (-1 : Int32)) &&& 31).toUInt32).toInt32))] [(.long ((B <<< ((1 : Int32) &&& 0x3f).toInt64) ||| ((((col.toUInt32 >>> ((lo + (-1 : Int32)) &&& 31).toUInt32).toInt32) &&& (1 : Int32)).toInt64)))]))
        refine Wp.step (fun t k => XS.lstoreN X10.here hx rfl (hb hby d5_73) rfl (l' := #[.val (.ref d0), .val (.long ((B <<< ((1 : Int32) &&& 0x3f).toInt64) ||| ((((col.toUInt32 >>> ((lo + (-1 : Int32)) &&& 31).toUInt32).toInt32) &&& (1 : Int32)).toInt64))), .second, .val (.int (lo + (-1 : Int32))), .val (.int la), .val (.int b), .val (.int ((col.toUInt32 >>> ((lo + (-1 : Int32)) &&& 31).toUInt32).toInt32))]) rfl k) ?_
        show Wp p e below _ (T10.setTop (mkF m 74 #[.val (.ref d0), .val (.long ((B <<< ((1 : Int32) &&& 0x3f).toInt64) ||| ((((col.toUInt32 >>> ((lo + (-1 : Int32)) &&& 31).toUInt32).toInt32) &&& (1 : Int32)).toInt64))), .second, .val (.int (lo + (-1 : Int32))), .val (.int la), .val (.int b), .val (.int ((col.toUInt32 >>> ((lo + (-1 : Int32)) &&& 31).toUInt32).toInt32))] []))
        refine Wp.step (fun t k => XS.iinc X10.here hx rfl (hb hby d5_74) rfl (l' := #[.val (.ref d0), .val (.long ((B <<< ((1 : Int32) &&& 0x3f).toInt64) ||| ((((col.toUInt32 >>> ((lo + (-1 : Int32)) &&& 31).toUInt32).toInt32) &&& (1 : Int32)).toInt64))), .second, .val (.int (lo + (-1 : Int32))), .val (.int la), .val (.int (b + (1 : Int32))), .val (.int ((col.toUInt32 >>> ((lo + (-1 : Int32)) &&& 31).toUInt32).toInt32))]) rfl k) ?_
        show Wp p e below _ (T10.setTop (mkF m 77 #[.val (.ref d0), .val (.long ((B <<< ((1 : Int32) &&& 0x3f).toInt64) ||| ((((col.toUInt32 >>> ((lo + (-1 : Int32)) &&& 31).toUInt32).toInt32) &&& (1 : Int32)).toInt64))), .second, .val (.int (lo + (-1 : Int32))), .val (.int la), .val (.int (b + (1 : Int32))), .val (.int ((col.toUInt32 >>> ((lo + (-1 : Int32)) &&& 31).toUInt32).toInt32))] []))
        refine Wp.step (fun t k => XS.goto X10.here hx rfl (pc0 := 77) (pc' := 22) rfl (hb hby d5_77) (by decide) (by decide) k) ?_
        show Wp p e below _ (T10.setTop (mkF m 22 #[.val (.ref d0), .val (.long ((B <<< ((1 : Int32) &&& 0x3f).toInt64) ||| ((((col.toUInt32 >>> ((lo + (-1 : Int32)) &&& 31).toUInt32).toInt32) &&& (1 : Int32)).toInt64))), .second, .val (.int (lo + (-1 : Int32))), .val (.int la), .val (.int (b + (1 : Int32))), .val (.int ((col.toUInt32 >>> ((lo + (-1 : Int32)) &&& 31).toUInt32).toInt32))] []))
        exact ih (b + (1 : Int32)) ((B <<< ((1 : Int32) &&& 0x3f).toInt64) ||| ((((col.toUInt32 >>> ((lo + (-1 : Int32)) &&& 31).toUInt32).toInt32) &&& (1 : Int32)).toInt64)) (lo + (-1 : Int32)) la _ _ _ _ T10 X10 e10 NN hcs hss (One.val rfl) (own_hb hbb hb0 hpr0 hpr1) (own_hb0 hbb hb0 hpr0 hpr1) (by rw [← hR, own_loop, if_pos hc9])
      · refine Wp.step (fun t k => XS.ifYes X7.here hx rfl (pc0 := 37) (pc' := 52) rfl (hb hby d5_37) rfl ((if0 _ _).trans (feq hc9).2) (by decide) (by decide) k) ?_
        show Wp p e below _ (T7.setTop (mkF m 52 #[.val (.ref d0), .val (.long B), .second, .val (.int lo), .val (.int la), .val (.int b), sl] []))
        refine Wp.step (fun t k => XS.aloadN X7.here hx rfl (hb hby d5_52) rfl rfl k) ?_
        show Wp p e below _ (T7.setTop (mkF m 53 #[.val (.ref d0), .val (.long B), .second, .val (.int lo), .val (.int la), .val (.int b), sl] [(.ref d0)]))
        obtain ⟨T11, X11, e11, st11⟩ := getF X7 hx hZ hown (host := "") (Or.inl (hw _ (List.mem_of_getElem? (i := 29) rfl))) Via.refl e7 F_row (g := (mkF m 53 #[.val (.ref d0), .val (.long B), .second, .val (.int lo), .val (.int la), .val (.int b), sl] [(.ref d0)])) rfl rfl (hb hby d5_53)
        refine Wp.step st11 ?_
        show Wp p e below _ (T11.setTop (mkF m 56 #[.val (.ref d0), .val (.long B), .second, .val (.int lo), .val (.int la), .val (.int b), sl] [(.int row)]))
        refine Wp.step (fun t k => XS.iinc X11.here hx rfl (hb hby d5_56) rfl (l' := #[.val (.ref d0), .val (.long B), .second, .val (.int lo), .val (.int (la + (-1 : Int32))), .val (.int b), sl]) rfl k) ?_
        show Wp p e below _ (T11.setTop (mkF m 59 #[.val (.ref d0), .val (.long B), .second, .val (.int lo), .val (.int (la + (-1 : Int32))), .val (.int b), sl] [(.int row)]))
        refine Wp.step (fun t k => XS.iload X11.here hx rfl (hb hby d5_59) rfl k) ?_
        show Wp p e below _ (T11.setTop (mkF m 61 #[.val (.ref d0), .val (.long B), .second, .val (.int lo), .val (.int (la + (-1 : Int32))), .val (.int b), sl] [(.int (la + (-1 : Int32))), (.int row)]))
        refine Wp.step (fun t k => XS.iushr X11.here hx rfl (hb hby d5_61) rfl k) ?_
        show Wp p e below _ (T11.setTop (mkF m 62 #[.val (.ref d0), .val (.long B), .second, .val (.int lo), .val (.int (la + (-1 : Int32))), .val (.int b), sl] [(.int ((row.toUInt32 >>> ((la + (-1 : Int32)) &&& 31).toUInt32).toInt32))]))
        refine Wp.step (fun t k => XS.istore X11.here hx rfl (hb hby d5_62) rfl (l' := #[.val (.ref d0), .val (.long B), .second, .val (.int lo), .val (.int (la + (-1 : Int32))), .val (.int b), .val (.int ((row.toUInt32 >>> ((la + (-1 : Int32)) &&& 31).toUInt32).toInt32))]) (XS.store1 (o := sl) rfl hsl rfl) k) ?_
        show Wp p e below _ (T11.setTop (mkF m 64 #[.val (.ref d0), .val (.long B), .second, .val (.int lo), .val (.int (la + (-1 : Int32))), .val (.int b), .val (.int ((row.toUInt32 >>> ((la + (-1 : Int32)) &&& 31).toUInt32).toInt32))] []))
        refine Wp.step (fun t k => XS.lloadN X11.here hx rfl (hb hby d5_64) rfl k) ?_
        show Wp p e below _ (T11.setTop (mkF m 65 #[.val (.ref d0), .val (.long B), .second, .val (.int lo), .val (.int (la + (-1 : Int32))), .val (.int b), .val (.int ((row.toUInt32 >>> ((la + (-1 : Int32)) &&& 31).toUInt32).toInt32))] [(.long B)]))
        refine Wp.step (fun t k => XS.iconst X11.here hx rfl (hb hby d5_65) k) ?_
        show Wp p e below _ (T11.setTop (mkF m 66 #[.val (.ref d0), .val (.long B), .second, .val (.int lo), .val (.int (la + (-1 : Int32))), .val (.int b), .val (.int ((row.toUInt32 >>> ((la + (-1 : Int32)) &&& 31).toUInt32).toInt32))] [(.int (1 : Int32)), (.long B)]))
        refine Wp.step (fun t k => XS.lshl X11.here hx rfl (hb hby d5_66) rfl k) ?_
        show Wp p e below _ (T11.setTop (mkF m 67 #[.val (.ref d0), .val (.long B), .second, .val (.int lo), .val (.int (la + (-1 : Int32))), .val (.int b), .val (.int ((row.toUInt32 >>> ((la + (-1 : Int32)) &&& 31).toUInt32).toInt32))] [(.long (B <<< ((1 : Int32) &&& 0x3f).toInt64))]))
        refine Wp.step (fun t k => XS.iload X11.here hx rfl (hb hby d5_67) rfl k) ?_
        show Wp p e below _ (T11.setTop (mkF m 69 #[.val (.ref d0), .val (.long B), .second, .val (.int lo), .val (.int (la + (-1 : Int32))), .val (.int b), .val (.int ((row.toUInt32 >>> ((la + (-1 : Int32)) &&& 31).toUInt32).toInt32))] [(.int ((row.toUInt32 >>> ((la + (-1 : Int32)) &&& 31).toUInt32).toInt32)), (.long (B <<< ((1 : Int32) &&& 0x3f).toInt64))]))
        refine Wp.step (fun t k => XS.iconst X11.here hx rfl (hb hby d5_69) k) ?_
        show Wp p e below _ (T11.setTop (mkF m 70 #[.val (.ref d0), .val (.long B), .second, .val (.int lo), .val (.int (la + (-1 : Int32))), .val (.int b), .val (.int ((row.toUInt32 >>> ((la + (-1 : Int32)) &&& 31).toUInt32).toInt32))] [(.int (1 : Int32)), (.int ((row.toUInt32 >>> ((la + (-1 : Int32)) &&& 31).toUInt32).toInt32)), (.long (B <<< ((1 : Int32) &&& 0x3f).toInt64))]))
        refine Wp.step (fun t k => XS.iand X11.here hx rfl (hb hby d5_70) rfl k) ?_
        show Wp p e below _ (T11.setTop (mkF m 71 #[.val (.ref d0), .val (.long B), .second, .val (.int lo), .val (.int (la + (-1 : Int32))), .val (.int b), .val (.int ((row.toUInt32 >>> ((la + (-1 : Int32)) &&& 31).toUInt32).toInt32))] [(.int (((row.toUInt32 >>> ((la + (-1 : Int32)) &&& 31).toUInt32).toInt32) &&& (1 : Int32))), (.long (B <<< ((1 : Int32) &&& 0x3f).toInt64))]))
        refine Wp.step (fun t k => XS.i2l X11.here hx rfl (hb hby d5_71) rfl k) ?_
        show Wp p e below _ (T11.setTop (mkF m 72 #[.val (.ref d0), .val (.long B), .second, .val (.int lo), .val (.int (la + (-1 : Int32))), .val (.int b), .val (.int ((row.toUInt32 >>> ((la + (-1 : Int32)) &&& 31).toUInt32).toInt32))] [(.long ((((row.toUInt32 >>> ((la + (-1 : Int32)) &&& 31).toUInt32).toInt32) &&& (1 : Int32)).toInt64)), (.long (B <<< ((1 : Int32) &&& 0x3f).toInt64))]))
        refine Wp.step (fun t k => XS.lor X11.here hx rfl (hb hby d5_72) rfl k) ?_
        show Wp p e below _ (T11.setTop (mkF m 73 #[.val (.ref d0), .val (.long B), .second, .val (.int lo), .val (.int (la + (-1 : Int32))), .val (.int b), .val (.int ((row.toUInt32 >>> ((la + (-1 : Int32)) &&& 31).toUInt32).toInt32))] [(.long ((B <<< ((1 : Int32) &&& 0x3f).toInt64) ||| ((((row.toUInt32 >>> ((la + (-1 : Int32)) &&& 31).toUInt32).toInt32) &&& (1 : Int32)).toInt64)))]))
        refine Wp.step (fun t k => XS.lstoreN X11.here hx rfl (hb hby d5_73) rfl (l' := #[.val (.ref d0), .val (.long ((B <<< ((1 : Int32) &&& 0x3f).toInt64) ||| ((((row.toUInt32 >>> ((la + (-1 : Int32)) &&& 31).toUInt32).toInt32) &&& (1 : Int32)).toInt64))), .second, .val (.int lo), .val (.int (la + (-1 : Int32))), .val (.int b), .val (.int ((row.toUInt32 >>> ((la + (-1 : Int32)) &&& 31).toUInt32).toInt32))]) rfl k) ?_
        show Wp p e below _ (T11.setTop (mkF m 74 #[.val (.ref d0), .val (.long ((B <<< ((1 : Int32) &&& 0x3f).toInt64) ||| ((((row.toUInt32 >>> ((la + (-1 : Int32)) &&& 31).toUInt32).toInt32) &&& (1 : Int32)).toInt64))), .second, .val (.int lo), .val (.int (la + (-1 : Int32))), .val (.int b), .val (.int ((row.toUInt32 >>> ((la + (-1 : Int32)) &&& 31).toUInt32).toInt32))] []))
        refine Wp.step (fun t k => XS.iinc X11.here hx rfl (hb hby d5_74) rfl (l' := #[.val (.ref d0), .val (.long ((B <<< ((1 : Int32) &&& 0x3f).toInt64) ||| ((((row.toUInt32 >>> ((la + (-1 : Int32)) &&& 31).toUInt32).toInt32) &&& (1 : Int32)).toInt64))), .second, .val (.int lo), .val (.int (la + (-1 : Int32))), .val (.int (b + (1 : Int32))), .val (.int ((row.toUInt32 >>> ((la + (-1 : Int32)) &&& 31).toUInt32).toInt32))]) rfl k) ?_
        show Wp p e below _ (T11.setTop (mkF m 77 #[.val (.ref d0), .val (.long ((B <<< ((1 : Int32) &&& 0x3f).toInt64) ||| ((((row.toUInt32 >>> ((la + (-1 : Int32)) &&& 31).toUInt32).toInt32) &&& (1 : Int32)).toInt64))), .second, .val (.int lo), .val (.int (la + (-1 : Int32))), .val (.int (b + (1 : Int32))), .val (.int ((row.toUInt32 >>> ((la + (-1 : Int32)) &&& 31).toUInt32).toInt32))] []))
        refine Wp.step (fun t k => XS.goto X11.here hx rfl (pc0 := 77) (pc' := 22) rfl (hb hby d5_77) (by decide) (by decide) k) ?_
        show Wp p e below _ (T11.setTop (mkF m 22 #[.val (.ref d0), .val (.long ((B <<< ((1 : Int32) &&& 0x3f).toInt64) ||| ((((row.toUInt32 >>> ((la + (-1 : Int32)) &&& 31).toUInt32).toInt32) &&& (1 : Int32)).toInt64))), .second, .val (.int lo), .val (.int (la + (-1 : Int32))), .val (.int (b + (1 : Int32))), .val (.int ((row.toUInt32 >>> ((la + (-1 : Int32)) &&& 31).toUInt32).toInt32))] []))
        exact ih (b + (1 : Int32)) ((B <<< ((1 : Int32) &&& 0x3f).toInt64) ||| ((((row.toUInt32 >>> ((la + (-1 : Int32)) &&& 31).toUInt32).toInt32) &&& (1 : Int32)).toInt64)) lo (la + (-1 : Int32)) _ _ _ _ T11 X11 e11 NN hcs hss (One.val rfl) (own_hb hbb hb0 hpr0 hpr1) (own_hb0 hbb hb0 hpr0 hpr1) (by rw [← hR, own_loop, if_neg hc9])
  exact loop (5 * pr.toNatClampNeg) 0 0 (own_lon pr) (own_lat pr) .unset _ _ _ T4 X4 e4 N4 (by decide) (by decide) One.u (own_start hpr0) (by decide) rfl
theorem pd_28I29J : parseMethodDescriptor "(I)J" = some ⟨[.int], some .long⟩ := by decide +kernel
theorem pd_28III29V : parseMethodDescriptor "(III)V" = some ⟨[.int, .int, .int], none⟩ := by decide +kernel
theorem pd_2829J : parseMethodDescriptor "()J" = some ⟨[], some .long⟩ := by decide +kernel
theorem ef_0_000 (m : MethodId) (x0 : Int32) (x1 : Int32) (x2 : Int32) : entryFrame m #[(.int x0), (.int x1), (.int x2)] maxLocals = mkF m 0 #[.val (.int x0), .val (.int x1), .val (.int x2), .unset, .unset, .unset, .unset, .unset, .unset, .unset, .unset, .unset, .unset] [] := by first | (simp [entryFrame, mkF, argsToLocals, Value.category, maxLocals]; done) | rfl
def Q0 (Z : State) (p0 : Int32) (p1 : Int32) (p2 : Int32) (h0 : Heap) (n0 : Nat) (v : Option Value) (h : Heap) (L : List Loc) : Prop := v = some (.int 1) ∧ Fr n0 L
set_option maxRecDepth 65536 in
set_option maxHeartbeats 40000000 in
theorem rm0 (l : Launch) (Z : State) (a0 : Array Value) (hw : ∀ d ∈ tables_1, d.before a0 Z = true) (ws : List Jvm.Cond) (p0 : Int32) (p1 : Int32) (p2 : Int32) (h0 : Heap) (n0 : Nat) (Z0 : n0 ≤ h0.size) :
    MetFree l x (head1 (Jvm.Cond.code x code maxLocals ret :: ws) room_1) (fun a U => a = #[(.int p0), (.int p1), (.int p2)] ∧ Z.Warmed39 U.vm ∧ U.heap = h0) (fun _ _ _ _ _ => True) (fun _ U o U' => ∃ v L, o = .returned v ∧ Q0 Z p0 p1 p2 h0 n0 v U'.heap L ∧ FrameEnd U o U' L room_1.cells room_1.slots) := by
  refine MetFree.of_bodySF (plainFor_of_name pn_com_example_luoshu_luoshu_util_GeohashBitsPinLaw) hisR ?_
  intro p e s m args below meth c s₁ Bd hml0 hP hK
  obtain ⟨rfl, hZ, hh⟩ := hP
  have hx := Bd.exec
  have hby := Bd.bytes
  have hlk : meth.locks = false := Bd.notSynchronized
  have hml : c.maxLocals = 13 := hml0
  have hown : s.vm.findClass "com/example/luoshu/luoshu/util/GeohashBitsPinLaw" = some m.cls := findClass_of_methodNamed Bd.named
  have hnm := (name_of_methodNamed Bd.named Bd.method).1
  have X0 : Stand p l e room_1 s m #[(.int p0), (.int p1), (.int p2)] below meth c s₁ [] 0 0 := Stand.of_body Bd
  have e0 : s₁.heap = h0 := by rw [← hh, Bd.state]; rfl
  have N0 := Fr.nil n0
  have K0 : Keep h0 h0 [] := Keep.refl h0 _
  show Wp p e below (Out s (Q0 Z p0 p1 p2 h0 n0) room_1.cells room_1.slots) (s₁.setTop (entryFrame m #[(.int p0), (.int p1), (.int p2)] maxLocals))
  rw [ef_0_000]
  show Wp p e below _ (s₁.setTop (mkF m 0 #[.val (.int p0), .val (.int p1), .val (.int p2), .unset, .unset, .unset, .unset, .unset, .unset, .unset, .unset, .unset, .unset] []))
  refine Wp.step (fun t k => XS.iloadN X0.here hx rfl (hb hby at_0) rfl k) ?_
  show Wp p e below _ (s₁.setTop (mkF m 1 #[.val (.int p0), .val (.int p1), .val (.int p2), .unset, .unset, .unset, .unset, .unset, .unset, .unset, .unset, .unset, .unset] [(.int p0)]))
  refine Wp.step (X0.ldcInt hx hown (mvT hZ (hw _ (List.mem_of_getElem? (i := 0) rfl))) (g := (mkF m 1 #[.val (.int p0), .val (.int p1), .val (.int p2), .unset, .unset, .unset, .unset, .unset, .unset, .unset, .unset, .unset, .unset] [(.int p0)])) rfl (hb hby at_1)) ?_
  show Wp p e below _ (s₁.setTop (mkF m 3 #[.val (.int p0), .val (.int p1), .val (.int p2), .unset, .unset, .unset, .unset, .unset, .unset, .unset, .unset, .unset, .unset] [(.int (2147483647 : Int32)), (.int p0)]))
  refine Wp.step (fun t k => XS.iand X0.here hx rfl (hb hby at_3) rfl k) ?_
  show Wp p e below _ (s₁.setTop (mkF m 4 #[.val (.int p0), .val (.int p1), .val (.int p2), .unset, .unset, .unset, .unset, .unset, .unset, .unset, .unset, .unset, .unset] [(.int (p0 &&& (2147483647 : Int32)))]))
  refine Wp.step (fun t k => XS.bipush X0.here hx rfl (hb hby at_4) k) ?_
  show Wp p e below _ (s₁.setTop (mkF m 6 #[.val (.int p0), .val (.int p1), .val (.int p2), .unset, .unset, .unset, .unset, .unset, .unset, .unset, .unset, .unset, .unset] [(.int (13 : Int32)), (.int (p0 &&& (2147483647 : Int32)))]))
  refine Wp.step (fun t k => Jvm.RoadKit.iremM X0 hx rfl (hb hby at_6) rfl (by decide) k) ?_
  show Wp p e below _ (s₁.setTop (mkF m 7 #[.val (.int p0), .val (.int p1), .val (.int p2), .unset, .unset, .unset, .unset, .unset, .unset, .unset, .unset, .unset, .unset] [(.int ((p0 &&& (2147483647 : Int32)) % (13 : Int32)))]))
  generalize hz_k0 : ((p0 &&& (2147483647 : Int32)) % (13 : Int32)) = k0
  refine Wp.step (fun t k => XS.istoreN X0.here hx rfl (hb hby at_7) rfl (l' := #[.val (.int p0), .val (.int p1), .val (.int p2), .val (.int k0), .unset, .unset, .unset, .unset, .unset, .unset, .unset, .unset, .unset]) rfl k) ?_
  show Wp p e below _ (s₁.setTop (mkF m 8 #[.val (.int p0), .val (.int p1), .val (.int p2), .val (.int k0), .unset, .unset, .unset, .unset, .unset, .unset, .unset, .unset, .unset] []))
  have hp0 : 0 ≤ k0.toInt := by rw [← hz_k0]; have q := c_irem (p0 &&& 2147483647) 13 13 (by decide); have r := (c_and p0 2147483647 (by decide)).1; rw [q.1 r]; omega
  have hp1 : k0.toInt ≤ 12 := by rw [← hz_k0]; have q := c_irem (p0 &&& 2147483647) 13 13 (by decide); have r := (c_and p0 2147483647 (by decide)).1; rw [q.1 r]; omega
  refine Wp.step (fun t k => XS.iloadN X0.here hx rfl (hb hby at_8) rfl k) ?_
  show Wp p e below _ (s₁.setTop (mkF m 9 #[.val (.int p0), .val (.int p1), .val (.int p2), .val (.int k0), .unset, .unset, .unset, .unset, .unset, .unset, .unset, .unset, .unset] [(.int k0)]))
  refine Wp.step (fun t k => XS.iconst X0.here hx rfl (hb hby at_9) k) ?_
  show Wp p e below _ (s₁.setTop (mkF m 10 #[.val (.int p0), .val (.int p1), .val (.int p2), .val (.int k0), .unset, .unset, .unset, .unset, .unset, .unset, .unset, .unset, .unset] [(.int (5 : Int32)), (.int k0)]))
  refine Wp.step (fun t k => XS.imul X0.here hx rfl (hb hby at_10) rfl k) ?_
  show Wp p e below _ (s₁.setTop (mkF m 11 #[.val (.int p0), .val (.int p1), .val (.int p2), .val (.int k0), .unset, .unset, .unset, .unset, .unset, .unset, .unset, .unset, .unset] [(.int (k0 * (5 : Int32)))]))
  refine Wp.step (fun t k => XS.istore X0.here hx rfl (hb hby at_11) rfl (l' := #[.val (.int p0), .val (.int p1), .val (.int p2), .val (.int k0), .val (.int (k0 * (5 : Int32))), .unset, .unset, .unset, .unset, .unset, .unset, .unset, .unset]) rfl k) ?_
  show Wp p e below _ (s₁.setTop (mkF m 13 #[.val (.int p0), .val (.int p1), .val (.int p2), .val (.int k0), .val (.int (k0 * (5 : Int32))), .unset, .unset, .unset, .unset, .unset, .unset, .unset, .unset] []))
  refine Wp.step (fun t k => XS.iload X0.here hx rfl (hb hby at_13) rfl k) ?_
  show Wp p e below _ (s₁.setTop (mkF m 15 #[.val (.int p0), .val (.int p1), .val (.int p2), .val (.int k0), .val (.int (k0 * (5 : Int32))), .unset, .unset, .unset, .unset, .unset, .unset, .unset, .unset] [(.int (k0 * (5 : Int32)))]))
  refine Wp.step (fun t k => XS.iconst X0.here hx rfl (hb hby at_15) k) ?_
  show Wp p e below _ (s₁.setTop (mkF m 16 #[.val (.int p0), .val (.int p1), .val (.int p2), .val (.int k0), .val (.int (k0 * (5 : Int32))), .unset, .unset, .unset, .unset, .unset, .unset, .unset, .unset] [(.int (1 : Int32)), (.int (k0 * (5 : Int32)))]))
  refine Wp.step (fun t k => XS.iadd X0.here hx rfl (hb hby at_16) rfl k) ?_
  show Wp p e below _ (s₁.setTop (mkF m 17 #[.val (.int p0), .val (.int p1), .val (.int p2), .val (.int k0), .val (.int (k0 * (5 : Int32))), .unset, .unset, .unset, .unset, .unset, .unset, .unset, .unset] [(.int ((k0 * (5 : Int32)) + (1 : Int32)))]))
  refine Wp.step (fun t k => XS.iconst X0.here hx rfl (hb hby at_17) k) ?_
  show Wp p e below _ (s₁.setTop (mkF m 18 #[.val (.int p0), .val (.int p1), .val (.int p2), .val (.int k0), .val (.int (k0 * (5 : Int32))), .unset, .unset, .unset, .unset, .unset, .unset, .unset, .unset] [(.int (2 : Int32)), (.int ((k0 * (5 : Int32)) + (1 : Int32)))]))
  refine Wp.step (fun t k => XS.idiv X0.here hx rfl (hb hby at_18) rfl (by decide) k) ?_
  show Wp p e below _ (s₁.setTop (mkF m 19 #[.val (.int p0), .val (.int p1), .val (.int p2), .val (.int k0), .val (.int (k0 * (5 : Int32))), .unset, .unset, .unset, .unset, .unset, .unset, .unset, .unset] [(.int (((k0 * (5 : Int32)) + (1 : Int32)) / (2 : Int32)))]))
  refine Wp.step (fun t k => XS.istore X0.here hx rfl (hb hby at_19) rfl (l' := #[.val (.int p0), .val (.int p1), .val (.int p2), .val (.int k0), .val (.int (k0 * (5 : Int32))), .val (.int (((k0 * (5 : Int32)) + (1 : Int32)) / (2 : Int32))), .unset, .unset, .unset, .unset, .unset, .unset, .unset]) rfl k) ?_
  show Wp p e below _ (s₁.setTop (mkF m 21 #[.val (.int p0), .val (.int p1), .val (.int p2), .val (.int k0), .val (.int (k0 * (5 : Int32))), .val (.int (((k0 * (5 : Int32)) + (1 : Int32)) / (2 : Int32))), .unset, .unset, .unset, .unset, .unset, .unset, .unset] []))
  refine Wp.step (fun t k => XS.iload X0.here hx rfl (hb hby at_21) rfl k) ?_
  show Wp p e below _ (s₁.setTop (mkF m 23 #[.val (.int p0), .val (.int p1), .val (.int p2), .val (.int k0), .val (.int (k0 * (5 : Int32))), .val (.int (((k0 * (5 : Int32)) + (1 : Int32)) / (2 : Int32))), .unset, .unset, .unset, .unset, .unset, .unset, .unset] [(.int (k0 * (5 : Int32)))]))
  refine Wp.step (fun t k => XS.iconst X0.here hx rfl (hb hby at_23) k) ?_
  show Wp p e below _ (s₁.setTop (mkF m 24 #[.val (.int p0), .val (.int p1), .val (.int p2), .val (.int k0), .val (.int (k0 * (5 : Int32))), .val (.int (((k0 * (5 : Int32)) + (1 : Int32)) / (2 : Int32))), .unset, .unset, .unset, .unset, .unset, .unset, .unset] [(.int (2 : Int32)), (.int (k0 * (5 : Int32)))]))
  refine Wp.step (fun t k => XS.idiv X0.here hx rfl (hb hby at_24) rfl (by decide) k) ?_
  show Wp p e below _ (s₁.setTop (mkF m 25 #[.val (.int p0), .val (.int p1), .val (.int p2), .val (.int k0), .val (.int (k0 * (5 : Int32))), .val (.int (((k0 * (5 : Int32)) + (1 : Int32)) / (2 : Int32))), .unset, .unset, .unset, .unset, .unset, .unset, .unset] [(.int ((k0 * (5 : Int32)) / (2 : Int32)))]))
  refine Wp.step (fun t k => XS.istore X0.here hx rfl (hb hby at_25) rfl (l' := #[.val (.int p0), .val (.int p1), .val (.int p2), .val (.int k0), .val (.int (k0 * (5 : Int32))), .val (.int (((k0 * (5 : Int32)) + (1 : Int32)) / (2 : Int32))), .val (.int ((k0 * (5 : Int32)) / (2 : Int32))), .unset, .unset, .unset, .unset, .unset, .unset]) rfl k) ?_
  show Wp p e below _ (s₁.setTop (mkF m 27 #[.val (.int p0), .val (.int p1), .val (.int p2), .val (.int k0), .val (.int (k0 * (5 : Int32))), .val (.int (((k0 * (5 : Int32)) + (1 : Int32)) / (2 : Int32))), .val (.int ((k0 * (5 : Int32)) / (2 : Int32))), .unset, .unset, .unset, .unset, .unset, .unset] []))
  refine Wp.step (fun t k => XS.iloadN X0.here hx rfl (hb hby at_27) rfl k) ?_
  show Wp p e below _ (s₁.setTop (mkF m 28 #[.val (.int p0), .val (.int p1), .val (.int p2), .val (.int k0), .val (.int (k0 * (5 : Int32))), .val (.int (((k0 * (5 : Int32)) + (1 : Int32)) / (2 : Int32))), .val (.int ((k0 * (5 : Int32)) / (2 : Int32))), .unset, .unset, .unset, .unset, .unset, .unset] [(.int p1)]))
  refine Wp.step (fun t k => XS.iconst X0.here hx rfl (hb hby at_28) k) ?_
  show Wp p e below _ (s₁.setTop (mkF m 29 #[.val (.int p0), .val (.int p1), .val (.int p2), .val (.int k0), .val (.int (k0 * (5 : Int32))), .val (.int (((k0 * (5 : Int32)) + (1 : Int32)) / (2 : Int32))), .val (.int ((k0 * (5 : Int32)) / (2 : Int32))), .unset, .unset, .unset, .unset, .unset, .unset] [(.int (1 : Int32)), (.int p1)]))
  refine Wp.step (fun t k => XS.iload X0.here hx rfl (hb hby at_29) rfl k) ?_
  show Wp p e below _ (s₁.setTop (mkF m 31 #[.val (.int p0), .val (.int p1), .val (.int p2), .val (.int k0), .val (.int (k0 * (5 : Int32))), .val (.int (((k0 * (5 : Int32)) + (1 : Int32)) / (2 : Int32))), .val (.int ((k0 * (5 : Int32)) / (2 : Int32))), .unset, .unset, .unset, .unset, .unset, .unset] [(.int (((k0 * (5 : Int32)) + (1 : Int32)) / (2 : Int32))), (.int (1 : Int32)), (.int p1)]))
  refine Wp.step (fun t k => XS.ishl X0.here hx rfl (hb hby at_31) rfl k) ?_
  show Wp p e below _ (s₁.setTop (mkF m 32 #[.val (.int p0), .val (.int p1), .val (.int p2), .val (.int k0), .val (.int (k0 * (5 : Int32))), .val (.int (((k0 * (5 : Int32)) + (1 : Int32)) / (2 : Int32))), .val (.int ((k0 * (5 : Int32)) / (2 : Int32))), .unset, .unset, .unset, .unset, .unset, .unset] [(.int ((1 : Int32) <<< ((((k0 * (5 : Int32)) + (1 : Int32)) / (2 : Int32)) &&& 31))), (.int p1)]))
  refine Wp.step (fun t k => XS.iconst X0.here hx rfl (hb hby at_32) k) ?_
  show Wp p e below _ (s₁.setTop (mkF m 33 #[.val (.int p0), .val (.int p1), .val (.int p2), .val (.int k0), .val (.int (k0 * (5 : Int32))), .val (.int (((k0 * (5 : Int32)) + (1 : Int32)) / (2 : Int32))), .val (.int ((k0 * (5 : Int32)) / (2 : Int32))), .unset, .unset, .unset, .unset, .unset, .unset] [(.int (1 : Int32)), (.int ((1 : Int32) <<< ((((k0 * (5 : Int32)) + (1 : Int32)) / (2 : Int32)) &&& 31))), (.int p1)]))
  refine Wp.step (fun t k => XS.isub X0.here hx rfl (hb hby at_33) rfl k) ?_
  show Wp p e below _ (s₁.setTop (mkF m 34 #[.val (.int p0), .val (.int p1), .val (.int p2), .val (.int k0), .val (.int (k0 * (5 : Int32))), .val (.int (((k0 * (5 : Int32)) + (1 : Int32)) / (2 : Int32))), .val (.int ((k0 * (5 : Int32)) / (2 : Int32))), .unset, .unset, .unset, .unset, .unset, .unset] [(.int (((1 : Int32) <<< ((((k0 * (5 : Int32)) + (1 : Int32)) / (2 : Int32)) &&& 31)) - (1 : Int32))), (.int p1)]))
  refine Wp.step (fun t k => XS.iand X0.here hx rfl (hb hby at_34) rfl k) ?_
  show Wp p e below _ (s₁.setTop (mkF m 35 #[.val (.int p0), .val (.int p1), .val (.int p2), .val (.int k0), .val (.int (k0 * (5 : Int32))), .val (.int (((k0 * (5 : Int32)) + (1 : Int32)) / (2 : Int32))), .val (.int ((k0 * (5 : Int32)) / (2 : Int32))), .unset, .unset, .unset, .unset, .unset, .unset] [(.int (p1 &&& (((1 : Int32) <<< ((((k0 * (5 : Int32)) + (1 : Int32)) / (2 : Int32)) &&& 31)) - (1 : Int32))))]))
  generalize hz_zc : (p1 &&& (((1 : Int32) <<< ((((k0 * (5 : Int32)) + (1 : Int32)) / (2 : Int32)) &&& 31)) - (1 : Int32))) = zc
  refine Wp.step (fun t k => XS.istore X0.here hx rfl (hb hby at_35) rfl (l' := #[.val (.int p0), .val (.int p1), .val (.int p2), .val (.int k0), .val (.int (k0 * (5 : Int32))), .val (.int (((k0 * (5 : Int32)) + (1 : Int32)) / (2 : Int32))), .val (.int ((k0 * (5 : Int32)) / (2 : Int32))), .val (.int zc), .unset, .unset, .unset, .unset, .unset]) rfl k) ?_
  show Wp p e below _ (s₁.setTop (mkF m 37 #[.val (.int p0), .val (.int p1), .val (.int p2), .val (.int k0), .val (.int (k0 * (5 : Int32))), .val (.int (((k0 * (5 : Int32)) + (1 : Int32)) / (2 : Int32))), .val (.int ((k0 * (5 : Int32)) / (2 : Int32))), .val (.int zc), .unset, .unset, .unset, .unset, .unset] []))
  refine Wp.step (fun t k => XS.iloadN X0.here hx rfl (hb hby at_37) rfl k) ?_
  show Wp p e below _ (s₁.setTop (mkF m 38 #[.val (.int p0), .val (.int p1), .val (.int p2), .val (.int k0), .val (.int (k0 * (5 : Int32))), .val (.int (((k0 * (5 : Int32)) + (1 : Int32)) / (2 : Int32))), .val (.int ((k0 * (5 : Int32)) / (2 : Int32))), .val (.int zc), .unset, .unset, .unset, .unset, .unset] [(.int p2)]))
  refine Wp.step (fun t k => XS.iconst X0.here hx rfl (hb hby at_38) k) ?_
  show Wp p e below _ (s₁.setTop (mkF m 39 #[.val (.int p0), .val (.int p1), .val (.int p2), .val (.int k0), .val (.int (k0 * (5 : Int32))), .val (.int (((k0 * (5 : Int32)) + (1 : Int32)) / (2 : Int32))), .val (.int ((k0 * (5 : Int32)) / (2 : Int32))), .val (.int zc), .unset, .unset, .unset, .unset, .unset] [(.int (1 : Int32)), (.int p2)]))
  refine Wp.step (fun t k => XS.iload X0.here hx rfl (hb hby at_39) rfl k) ?_
  show Wp p e below _ (s₁.setTop (mkF m 41 #[.val (.int p0), .val (.int p1), .val (.int p2), .val (.int k0), .val (.int (k0 * (5 : Int32))), .val (.int (((k0 * (5 : Int32)) + (1 : Int32)) / (2 : Int32))), .val (.int ((k0 * (5 : Int32)) / (2 : Int32))), .val (.int zc), .unset, .unset, .unset, .unset, .unset] [(.int ((k0 * (5 : Int32)) / (2 : Int32))), (.int (1 : Int32)), (.int p2)]))
  refine Wp.step (fun t k => XS.ishl X0.here hx rfl (hb hby at_41) rfl k) ?_
  show Wp p e below _ (s₁.setTop (mkF m 42 #[.val (.int p0), .val (.int p1), .val (.int p2), .val (.int k0), .val (.int (k0 * (5 : Int32))), .val (.int (((k0 * (5 : Int32)) + (1 : Int32)) / (2 : Int32))), .val (.int ((k0 * (5 : Int32)) / (2 : Int32))), .val (.int zc), .unset, .unset, .unset, .unset, .unset] [(.int ((1 : Int32) <<< (((k0 * (5 : Int32)) / (2 : Int32)) &&& 31))), (.int p2)]))
  refine Wp.step (fun t k => XS.iconst X0.here hx rfl (hb hby at_42) k) ?_
  show Wp p e below _ (s₁.setTop (mkF m 43 #[.val (.int p0), .val (.int p1), .val (.int p2), .val (.int k0), .val (.int (k0 * (5 : Int32))), .val (.int (((k0 * (5 : Int32)) + (1 : Int32)) / (2 : Int32))), .val (.int ((k0 * (5 : Int32)) / (2 : Int32))), .val (.int zc), .unset, .unset, .unset, .unset, .unset] [(.int (1 : Int32)), (.int ((1 : Int32) <<< (((k0 * (5 : Int32)) / (2 : Int32)) &&& 31))), (.int p2)]))
  refine Wp.step (fun t k => XS.isub X0.here hx rfl (hb hby at_43) rfl k) ?_
  show Wp p e below _ (s₁.setTop (mkF m 44 #[.val (.int p0), .val (.int p1), .val (.int p2), .val (.int k0), .val (.int (k0 * (5 : Int32))), .val (.int (((k0 * (5 : Int32)) + (1 : Int32)) / (2 : Int32))), .val (.int ((k0 * (5 : Int32)) / (2 : Int32))), .val (.int zc), .unset, .unset, .unset, .unset, .unset] [(.int (((1 : Int32) <<< (((k0 * (5 : Int32)) / (2 : Int32)) &&& 31)) - (1 : Int32))), (.int p2)]))
  refine Wp.step (fun t k => XS.iand X0.here hx rfl (hb hby at_44) rfl k) ?_
  show Wp p e below _ (s₁.setTop (mkF m 45 #[.val (.int p0), .val (.int p1), .val (.int p2), .val (.int k0), .val (.int (k0 * (5 : Int32))), .val (.int (((k0 * (5 : Int32)) + (1 : Int32)) / (2 : Int32))), .val (.int ((k0 * (5 : Int32)) / (2 : Int32))), .val (.int zc), .unset, .unset, .unset, .unset, .unset] [(.int (p2 &&& (((1 : Int32) <<< (((k0 * (5 : Int32)) / (2 : Int32)) &&& 31)) - (1 : Int32))))]))
  generalize hz_zr : (p2 &&& (((1 : Int32) <<< (((k0 * (5 : Int32)) / (2 : Int32)) &&& 31)) - (1 : Int32))) = zr
  refine Wp.step (fun t k => XS.istore X0.here hx rfl (hb hby at_45) rfl (l' := #[.val (.int p0), .val (.int p1), .val (.int p2), .val (.int k0), .val (.int (k0 * (5 : Int32))), .val (.int (((k0 * (5 : Int32)) + (1 : Int32)) / (2 : Int32))), .val (.int ((k0 * (5 : Int32)) / (2 : Int32))), .val (.int zc), .val (.int zr), .unset, .unset, .unset, .unset]) rfl k) ?_
  show Wp p e below _ (s₁.setTop (mkF m 47 #[.val (.int p0), .val (.int p1), .val (.int p2), .val (.int k0), .val (.int (k0 * (5 : Int32))), .val (.int (((k0 * (5 : Int32)) + (1 : Int32)) / (2 : Int32))), .val (.int ((k0 * (5 : Int32)) / (2 : Int32))), .val (.int zc), .val (.int zr), .unset, .unset, .unset, .unset] []))
  refine Wp.step (fun t k => XS.iload X0.here hx rfl (hb hby at_47) rfl k) ?_
  show Wp p e below _ (s₁.setTop (mkF m 49 #[.val (.int p0), .val (.int p1), .val (.int p2), .val (.int k0), .val (.int (k0 * (5 : Int32))), .val (.int (((k0 * (5 : Int32)) + (1 : Int32)) / (2 : Int32))), .val (.int ((k0 * (5 : Int32)) / (2 : Int32))), .val (.int zc), .val (.int zr), .unset, .unset, .unset, .unset] [(.int (k0 * (5 : Int32)))]))
  refine Wp.step (fun t k => XS.iconst X0.here hx rfl (hb hby at_49) k) ?_
  show Wp p e below _ (s₁.setTop (mkF m 50 #[.val (.int p0), .val (.int p1), .val (.int p2), .val (.int k0), .val (.int (k0 * (5 : Int32))), .val (.int (((k0 * (5 : Int32)) + (1 : Int32)) / (2 : Int32))), .val (.int ((k0 * (5 : Int32)) / (2 : Int32))), .val (.int zc), .val (.int zr), .unset, .unset, .unset, .unset] [(.int (2 : Int32)), (.int (k0 * (5 : Int32)))]))
  refine Wp.step (fun t k => Jvm.RoadKit.iremM X0 hx rfl (hb hby at_50) rfl (by decide) k) ?_
  show Wp p e below _ (s₁.setTop (mkF m 51 #[.val (.int p0), .val (.int p1), .val (.int p2), .val (.int k0), .val (.int (k0 * (5 : Int32))), .val (.int (((k0 * (5 : Int32)) + (1 : Int32)) / (2 : Int32))), .val (.int ((k0 * (5 : Int32)) / (2 : Int32))), .val (.int zc), .val (.int zr), .unset, .unset, .unset, .unset] [(.int ((k0 * (5 : Int32)) % (2 : Int32)))]))
  by_cases hc1 : ((k0 * (5 : Int32)) % (2 : Int32)) = (0 : Int32)
  · refine Wp.step (fun t k => XS.ifNo X0.here hx rfl (hb hby at_51) rfl ((if0 _ _).trans (teq hc1).2) k) ?_
    show Wp p e below _ (s₁.setTop (mkF m 54 #[.val (.int p0), .val (.int p1), .val (.int p2), .val (.int k0), .val (.int (k0 * (5 : Int32))), .val (.int (((k0 * (5 : Int32)) + (1 : Int32)) / (2 : Int32))), .val (.int ((k0 * (5 : Int32)) / (2 : Int32))), .val (.int zc), .val (.int zr), .unset, .unset, .unset, .unset] []))
    refine Wp.step (fun t k => XS.iload X0.here hx rfl (hb hby at_54) rfl k) ?_
    show Wp p e below _ (s₁.setTop (mkF m 56 #[.val (.int p0), .val (.int p1), .val (.int p2), .val (.int k0), .val (.int (k0 * (5 : Int32))), .val (.int (((k0 * (5 : Int32)) + (1 : Int32)) / (2 : Int32))), .val (.int ((k0 * (5 : Int32)) / (2 : Int32))), .val (.int zc), .val (.int zr), .unset, .unset, .unset, .unset] [(.int zc)]))
    obtain ⟨_, _, ⟨T2, L2, k2, n2⟩, -, X2, ⟨Lc2, hQ2, l2, y2, z2⟩, st2⟩ := Jvm.LawKit.callS X0 hx (y := (⟨"com/example/luoshu/luoshu/util/GeohashBitsPinLaw", "spread", "(I)J"⟩ : MethodName)) hown (mvT hZ (hw _ (List.mem_of_getElem? (i := 1) rfl))) (mvT hZ (hw _ (List.mem_of_getElem? (i := 2) rfl))) (mvT hZ (hw _ (List.mem_of_getElem? (i := 3) rfl))) (mvT hZ (hw _ (List.mem_of_getElem? (i := 4) rfl))) (by decide) (backOf (W := 0) (rm1 l Z a0 hw [] zc  h0 n0 (Nat.le_trans Z0 K0.1) ) hZ (hw _ (List.mem_of_getElem? (i := 4) rfl)) (hw _ (List.mem_of_getElem? (i := 3) rfl)) (by decide) (by decide)) (g := (mkF m 56 #[.val (.int p0), .val (.int p1), .val (.int p2), .val (.int k0), .val (.int (k0 * (5 : Int32))), .val (.int (((k0 * (5 : Int32)) + (1 : Int32)) / (2 : Int32))), .val (.int ((k0 * (5 : Int32)) / (2 : Int32))), .val (.int zc), .val (.int zr), .unset, .unset, .unset, .unset] [(.int zc)])) rfl (by rw [hml]; rfl) (argsL := [(.int zc)]) (rest := []) (lenOf pd_28I29J rfl) rfl (by show 2 * 0 + _ ≤ _; exact Nat.le_of_eq rfl) (hb hby at_56) (fun _ _ => ⟨rfl, e0, (by decide : 0 + 0 ≤ _), (by decide : 0 + 0 ≤ _)⟩)
    dsimp only [Pt.U, Pt.locs, Pt.cells, Pt.slots] at X2 l2 y2 z2 st2 hQ2
    subst l2 y2 z2
    obtain ⟨rfl, N2q, e2⟩ := hQ2
    have N2 := Fr.app N0 N2q
    refine Wp.step st2 ?_
    show Wp p e below _ (T2.setTop (mkF m 59 #[.val (.int p0), .val (.int p1), .val (.int p2), .val (.int k0), .val (.int (k0 * (5 : Int32))), .val (.int (((k0 * (5 : Int32)) + (1 : Int32)) / (2 : Int32))), .val (.int ((k0 * (5 : Int32)) / (2 : Int32))), .val (.int zc), .val (.int zr), .unset, .unset, .unset, .unset] [(.long (own_spread zc))]))
    refine Wp.step (fun t k => XS.iconst X2.here hx rfl (hb hby at_59) k) ?_
    show Wp p e below _ (T2.setTop (mkF m 60 #[.val (.int p0), .val (.int p1), .val (.int p2), .val (.int k0), .val (.int (k0 * (5 : Int32))), .val (.int (((k0 * (5 : Int32)) + (1 : Int32)) / (2 : Int32))), .val (.int ((k0 * (5 : Int32)) / (2 : Int32))), .val (.int zc), .val (.int zr), .unset, .unset, .unset, .unset] [(.int (1 : Int32)), (.long (own_spread zc))]))
    refine Wp.step (fun t k => XS.lshl X2.here hx rfl (hb hby at_60) rfl k) ?_
    show Wp p e below _ (T2.setTop (mkF m 61 #[.val (.int p0), .val (.int p1), .val (.int p2), .val (.int k0), .val (.int (k0 * (5 : Int32))), .val (.int (((k0 * (5 : Int32)) + (1 : Int32)) / (2 : Int32))), .val (.int ((k0 * (5 : Int32)) / (2 : Int32))), .val (.int zc), .val (.int zr), .unset, .unset, .unset, .unset] [(.long ((own_spread zc) <<< ((1 : Int32) &&& 0x3f).toInt64))]))
    refine Wp.step (fun t k => XS.iload X2.here hx rfl (hb hby at_61) rfl k) ?_
    show Wp p e below _ (T2.setTop (mkF m 63 #[.val (.int p0), .val (.int p1), .val (.int p2), .val (.int k0), .val (.int (k0 * (5 : Int32))), .val (.int (((k0 * (5 : Int32)) + (1 : Int32)) / (2 : Int32))), .val (.int ((k0 * (5 : Int32)) / (2 : Int32))), .val (.int zc), .val (.int zr), .unset, .unset, .unset, .unset] [(.int zr), (.long ((own_spread zc) <<< ((1 : Int32) &&& 0x3f).toInt64))]))
    obtain ⟨_, _, ⟨T3, L3, k3, n3⟩, -, X3, ⟨Lc3, hQ3, l3, y3, z3⟩, st3⟩ := Jvm.LawKit.callS X2 hx (y := (⟨"com/example/luoshu/luoshu/util/GeohashBitsPinLaw", "spread", "(I)J"⟩ : MethodName)) hown (mvT hZ (hw _ (List.mem_of_getElem? (i := 1) rfl))) (mvT hZ (hw _ (List.mem_of_getElem? (i := 2) rfl))) (mvT hZ (hw _ (List.mem_of_getElem? (i := 3) rfl))) (mvT hZ (hw _ (List.mem_of_getElem? (i := 4) rfl))) (by decide) (backOf (W := 2) (rm1 l Z a0 hw [] zr  h0 n0 (Nat.le_trans Z0 K0.1) ) hZ (hw _ (List.mem_of_getElem? (i := 4) rfl)) (hw _ (List.mem_of_getElem? (i := 3) rfl)) (by decide) (by decide)) (g := (mkF m 63 #[.val (.int p0), .val (.int p1), .val (.int p2), .val (.int k0), .val (.int (k0 * (5 : Int32))), .val (.int (((k0 * (5 : Int32)) + (1 : Int32)) / (2 : Int32))), .val (.int ((k0 * (5 : Int32)) / (2 : Int32))), .val (.int zc), .val (.int zr), .unset, .unset, .unset, .unset] [(.int zr), (.long ((own_spread zc) <<< ((1 : Int32) &&& 0x3f).toInt64))])) rfl (by rw [hml]; rfl) (argsL := [(.int zr)]) (rest := [(.long ((own_spread zc) <<< ((1 : Int32) &&& 0x3f).toInt64))]) (lenOf pd_28I29J rfl) rfl (by show 2 * 0 + _ ≤ _; exact Nat.le_of_eq rfl) (hb hby at_63) (fun _ _ => ⟨rfl, e2, (by decide : 0 + 0 ≤ _), (by decide : 0 + 0 ≤ _)⟩)
    dsimp only [Pt.U, Pt.locs, Pt.cells, Pt.slots] at X3 l3 y3 z3 st3 hQ3
    subst l3 y3 z3
    obtain ⟨rfl, N3q, e3⟩ := hQ3
    have N3 := Fr.app N2 N3q
    refine Wp.step st3 ?_
    show Wp p e below _ (T3.setTop (mkF m 66 #[.val (.int p0), .val (.int p1), .val (.int p2), .val (.int k0), .val (.int (k0 * (5 : Int32))), .val (.int (((k0 * (5 : Int32)) + (1 : Int32)) / (2 : Int32))), .val (.int ((k0 * (5 : Int32)) / (2 : Int32))), .val (.int zc), .val (.int zr), .unset, .unset, .unset, .unset] [(.long (own_spread zr)), (.long ((own_spread zc) <<< ((1 : Int32) &&& 0x3f).toInt64))]))
    refine Wp.step (fun t k => XS.lor X3.here hx rfl (hb hby at_66) rfl k) ?_
    show Wp p e below _ (T3.setTop (mkF m 67 #[.val (.int p0), .val (.int p1), .val (.int p2), .val (.int k0), .val (.int (k0 * (5 : Int32))), .val (.int (((k0 * (5 : Int32)) + (1 : Int32)) / (2 : Int32))), .val (.int ((k0 * (5 : Int32)) / (2 : Int32))), .val (.int zc), .val (.int zr), .unset, .unset, .unset, .unset] [(.long (((own_spread zc) <<< ((1 : Int32) &&& 0x3f).toInt64) ||| (own_spread zr)))]))
    refine Wp.step (fun t k => XS.lstore X3.here hx rfl (hb hby at_67) rfl (l' := #[.val (.int p0), .val (.int p1), .val (.int p2), .val (.int k0), .val (.int (k0 * (5 : Int32))), .val (.int (((k0 * (5 : Int32)) + (1 : Int32)) / (2 : Int32))), .val (.int ((k0 * (5 : Int32)) / (2 : Int32))), .val (.int zc), .val (.int zr), .val (.long (((own_spread zc) <<< ((1 : Int32) &&& 0x3f).toInt64) ||| (own_spread zr))), .second, .unset, .unset]) rfl k) ?_
    show Wp p e below _ (T3.setTop (mkF m 69 #[.val (.int p0), .val (.int p1), .val (.int p2), .val (.int k0), .val (.int (k0 * (5 : Int32))), .val (.int (((k0 * (5 : Int32)) + (1 : Int32)) / (2 : Int32))), .val (.int ((k0 * (5 : Int32)) / (2 : Int32))), .val (.int zc), .val (.int zr), .val (.long (((own_spread zc) <<< ((1 : Int32) &&& 0x3f).toInt64) ||| (own_spread zr))), .second, .unset, .unset] []))
    refine Wp.step (fun t k => XS.goto X3.here hx rfl (pc0 := 69) (pc' := 87) rfl (hb hby at_69) (by decide) (by decide) k) ?_
    show Wp p e below _ (T3.setTop (mkF m 87 #[.val (.int p0), .val (.int p1), .val (.int p2), .val (.int k0), .val (.int (k0 * (5 : Int32))), .val (.int (((k0 * (5 : Int32)) + (1 : Int32)) / (2 : Int32))), .val (.int ((k0 * (5 : Int32)) / (2 : Int32))), .val (.int zc), .val (.int zr), .val (.long (((own_spread zc) <<< ((1 : Int32) &&& 0x3f).toInt64) ||| (own_spread zr))), .second, .unset, .unset] []))
    obtain ⟨T4, h4, X4, e4, E4, A4, D4, -, st4⟩ := newO X3 hx hZ hown (hw _ (List.mem_of_getElem? (i := 11) rfl)) (hw _ (List.mem_of_getElem? (i := 12) rfl)) (hw _ (List.mem_of_getElem? (i := 13) rfl)) e3 (g := (mkF m 87 #[.val (.int p0), .val (.int p1), .val (.int p2), .val (.int k0), .val (.int (k0 * (5 : Int32))), .val (.int (((k0 * (5 : Int32)) + (1 : Int32)) / (2 : Int32))), .val (.int ((k0 * (5 : Int32)) / (2 : Int32))), .val (.int zc), .val (.int zr), .val (.long (((own_spread zc) <<< ((1 : Int32) &&& 0x3f).toInt64) ||| (own_spread zr))), .second, .unset, .unset] [])) rfl (hb hby at_87) (by decide) (by decide)
    obtain ⟨b4, g4⟩ : ∃ z, z = h0.size := ⟨_, rfl⟩
    rw [← g4] at A4 D4 st4
    have g_b4 : n0 ≤ b4 := Nat.le_trans (Nat.le_trans Z0 K0.1) (Nat.le_of_eq g4.symm)
    have sz_b4 : h0.size ≤ b4 := Nat.le_trans K0.1 (Nat.le_of_eq g4.symm)
    have K5 := K0.ext E4
    have c6 : Fld Z h4 b4 "com/example/luoshu/luoshu/util/Geohash$Cell" "precision" "I" (.int (0 : Int32)) := D4 (Or.inr (hw _ (List.mem_of_getElem? (i := 26) rfl))) (ty := .int) (by decide)
    have c7 : Fld Z h4 b4 "com/example/luoshu/luoshu/util/Geohash$Cell" "column" "I" (.int (0 : Int32)) := D4 (Or.inr (hw _ (List.mem_of_getElem? (i := 28) rfl))) (ty := .int) (by decide)
    have c8 : Fld Z h4 b4 "com/example/luoshu/luoshu/util/Geohash$Cell" "row" "I" (.int (0 : Int32)) := D4 (Or.inr (hw _ (List.mem_of_getElem? (i := 30) rfl))) (ty := .int) (by decide)
    refine Wp.step st4 ?_
    show Wp p e below _ (T4.setTop (mkF m 90 #[.val (.int p0), .val (.int p1), .val (.int p2), .val (.int k0), .val (.int (k0 * (5 : Int32))), .val (.int (((k0 * (5 : Int32)) + (1 : Int32)) / (2 : Int32))), .val (.int ((k0 * (5 : Int32)) / (2 : Int32))), .val (.int zc), .val (.int zr), .val (.long (((own_spread zc) <<< ((1 : Int32) &&& 0x3f).toInt64) ||| (own_spread zr))), .second, .unset, .unset] [(.ref b4)]))
    refine Wp.step (fun t k => XS.dup X4.here hx rfl (hb hby at_90) rfl rfl k) ?_
    show Wp p e below _ (T4.setTop (mkF m 91 #[.val (.int p0), .val (.int p1), .val (.int p2), .val (.int k0), .val (.int (k0 * (5 : Int32))), .val (.int (((k0 * (5 : Int32)) + (1 : Int32)) / (2 : Int32))), .val (.int ((k0 * (5 : Int32)) / (2 : Int32))), .val (.int zc), .val (.int zr), .val (.long (((own_spread zc) <<< ((1 : Int32) &&& 0x3f).toInt64) ||| (own_spread zr))), .second, .unset, .unset] [(.ref b4), (.ref b4)]))
    refine Wp.step (fun t k => XS.iloadN X4.here hx rfl (hb hby at_91) rfl k) ?_
    show Wp p e below _ (T4.setTop (mkF m 92 #[.val (.int p0), .val (.int p1), .val (.int p2), .val (.int k0), .val (.int (k0 * (5 : Int32))), .val (.int (((k0 * (5 : Int32)) + (1 : Int32)) / (2 : Int32))), .val (.int ((k0 * (5 : Int32)) / (2 : Int32))), .val (.int zc), .val (.int zr), .val (.long (((own_spread zc) <<< ((1 : Int32) &&& 0x3f).toInt64) ||| (own_spread zr))), .second, .unset, .unset] [(.int k0), (.ref b4), (.ref b4)]))
    refine Wp.step (fun t k => XS.iload X4.here hx rfl (hb hby at_92) rfl k) ?_
    show Wp p e below _ (T4.setTop (mkF m 94 #[.val (.int p0), .val (.int p1), .val (.int p2), .val (.int k0), .val (.int (k0 * (5 : Int32))), .val (.int (((k0 * (5 : Int32)) + (1 : Int32)) / (2 : Int32))), .val (.int ((k0 * (5 : Int32)) / (2 : Int32))), .val (.int zc), .val (.int zr), .val (.long (((own_spread zc) <<< ((1 : Int32) &&& 0x3f).toInt64) ||| (own_spread zr))), .second, .unset, .unset] [(.int zc), (.int k0), (.ref b4), (.ref b4)]))
    refine Wp.step (fun t k => XS.iload X4.here hx rfl (hb hby at_94) rfl k) ?_
    show Wp p e below _ (T4.setTop (mkF m 96 #[.val (.int p0), .val (.int p1), .val (.int p2), .val (.int k0), .val (.int (k0 * (5 : Int32))), .val (.int (((k0 * (5 : Int32)) + (1 : Int32)) / (2 : Int32))), .val (.int ((k0 * (5 : Int32)) / (2 : Int32))), .val (.int zc), .val (.int zr), .val (.long (((own_spread zc) <<< ((1 : Int32) &&& 0x3f).toInt64) ||| (own_spread zr))), .second, .unset, .unset] [(.int zr), (.int zc), (.int k0), (.ref b4), (.ref b4)]))
    obtain ⟨_, _, ⟨T9, L9, k9, n9⟩, -, X9, ⟨Lc9, hQ9, l9, y9, z9⟩, st9⟩ := X4.specialBack hx (y := (⟨"com/example/luoshu/luoshu/util/Geohash$Cell", "<init>", "(III)V"⟩ : MethodName)) rfl hown (mvT hZ (hw _ (List.mem_of_getElem? (i := 14) rfl))) (mvT hZ (hw _ (List.mem_of_getElem? (i := 15) rfl))) (mvT hZ (hw _ (List.mem_of_getElem? (i := 16) rfl))) (by decide) (backOf (W := 1) (rm2 l Z a0 hw [] b4 k0 zc zr  h4 n0 (Nat.le_trans Z0 K5.1) g_b4 A4 c6 c7 c8 ) hZ (hw _ (List.mem_of_getElem? (i := 16) rfl)) (hw _ (List.mem_of_getElem? (i := 13) rfl)) (by decide) (by decide)) (g := (mkF m 96 #[.val (.int p0), .val (.int p1), .val (.int p2), .val (.int k0), .val (.int (k0 * (5 : Int32))), .val (.int (((k0 * (5 : Int32)) + (1 : Int32)) / (2 : Int32))), .val (.int ((k0 * (5 : Int32)) / (2 : Int32))), .val (.int zc), .val (.int zr), .val (.long (((own_spread zc) <<< ((1 : Int32) &&& 0x3f).toInt64) ||| (own_spread zr))), .second, .unset, .unset] [(.int zr), (.int zc), (.int k0), (.ref b4), (.ref b4)])) rfl (by rw [hml]; rfl) (Steps.refl _) (a := b4) (argsL := [(.int k0), (.int zc), (.int zr)]) (rest := [(.ref b4)]) (lenOf pd_28III29V rfl) rfl (by show 2 * 0 + _ ≤ _; exact Nat.le_of_eq rfl) (hb hby at_96) (fun _ _ => ⟨rfl, e4, (by decide : 1 + 0 ≤ _), (by decide : 3 + 0 ≤ _)⟩)
    dsimp only [Pt.U, Pt.locs, Pt.cells, Pt.slots] at X9 l9 y9 z9 st9 hQ9
    subst l9 y9 z9
    obtain ⟨h9, e9⟩ : ∃ z, T9.heap = z := ⟨_, rfl⟩
    rw [e9] at hQ9
    obtain ⟨rfl, N9q, Kc9, cE9, c9_precision, c9_column, c9_row⟩ := hQ9
    have N9 := Fr.app N3 N9q
    have c10 := A4.keep Kc9
    have K9 := K5.trans Kc9 (allS (Or.inr sz_b4) all0)
    refine Wp.go st9 ?_
    show Wp p e below _ (T9.setTop (mkF m 99 #[.val (.int p0), .val (.int p1), .val (.int p2), .val (.int k0), .val (.int (k0 * (5 : Int32))), .val (.int (((k0 * (5 : Int32)) + (1 : Int32)) / (2 : Int32))), .val (.int ((k0 * (5 : Int32)) / (2 : Int32))), .val (.int zc), .val (.int zr), .val (.long (((own_spread zc) <<< ((1 : Int32) &&& 0x3f).toInt64) ||| (own_spread zr))), .second, .unset, .unset] [(.ref b4)]))
    obtain ⟨cq11, kq11, q11a, q11b, q11c⟩ := isOf hZ e9 cE9
    obtain ⟨_, _, ⟨T11, L11, k11, n11⟩, -, X11, ⟨Lc11, hQ11, l11, y11, z11⟩, st11⟩ := X9.virtualBack hx (y := (⟨"com/example/luoshu/luoshu/util/Geohash$Cell", "bits", "()J"⟩ : MethodName)) (z := (⟨"com/example/luoshu/luoshu/util/Geohash$Cell", "bits", "()J"⟩ : MethodName)) hown (mvT hZ (hw _ (List.mem_of_getElem? (i := 31) rfl))) (mvT hZ (hw _ (List.mem_of_getElem? (i := 32) rfl))) (notFace_of_selects (args := #[]) (mvT hZ (hw _ (List.mem_of_getElem? (i := 34) rfl)))) (mvT hZ (hw _ (List.mem_of_getElem? (i := 34) rfl))) (mvT hZ (hw _ (List.mem_of_getElem? (i := 33) rfl))) (by decide) (backOf (W := 0) (rm5 l Z a0 hw [] b4 k0 zc zr h9 n0 (Nat.le_trans Z0 K9.1) c9_precision c9_column c9_row hp0 hp1) hZ (hw _ (List.mem_of_getElem? (i := 35) rfl)) (hw _ (List.mem_of_getElem? (i := 13) rfl)) (by decide) (by decide)) q11a q11c (g := (mkF m 99 #[.val (.int p0), .val (.int p1), .val (.int p2), .val (.int k0), .val (.int (k0 * (5 : Int32))), .val (.int (((k0 * (5 : Int32)) + (1 : Int32)) / (2 : Int32))), .val (.int ((k0 * (5 : Int32)) / (2 : Int32))), .val (.int zc), .val (.int zr), .val (.long (((own_spread zc) <<< ((1 : Int32) &&& 0x3f).toInt64) ||| (own_spread zr))), .second, .unset, .unset] [(.ref b4)])) rfl (by rw [hml]; rfl) (Steps.refl _) (argsL := []) (rest := []) (lenOf pd_2829J rfl) rfl (by show 2 * 0 + _ ≤ _; exact Nat.le_of_eq rfl) (hb hby at_99) (fun _ _ => ⟨rfl, e9, (by decide : 1 + 0 ≤ _), (by decide : 3 + 0 ≤ _)⟩)
    dsimp only [Pt.U, Pt.locs, Pt.cells, Pt.slots] at X11 l11 y11 z11 st11 hQ11
    subst l11 y11 z11
    obtain ⟨rfl, N11q, e11⟩ := hQ11
    have N11 := Fr.app N9 N11q
    refine Wp.go st11 ?_
    show Wp p e below _ (T11.setTop (mkF m 102 #[.val (.int p0), .val (.int p1), .val (.int p2), .val (.int k0), .val (.int (k0 * (5 : Int32))), .val (.int (((k0 * (5 : Int32)) + (1 : Int32)) / (2 : Int32))), .val (.int ((k0 * (5 : Int32)) / (2 : Int32))), .val (.int zc), .val (.int zr), .val (.long (((own_spread zc) <<< ((1 : Int32) &&& 0x3f).toInt64) ||| (own_spread zr))), .second, .unset, .unset] [(.long (own_loop zc zr (5 * (k0).toNatClampNeg) 0 0 (own_lon k0) (own_lat k0)))]))
    refine Wp.step (fun t k => XS.lstore X11.here hx rfl (hb hby at_102) rfl (l' := #[.val (.int p0), .val (.int p1), .val (.int p2), .val (.int k0), .val (.int (k0 * (5 : Int32))), .val (.int (((k0 * (5 : Int32)) + (1 : Int32)) / (2 : Int32))), .val (.int ((k0 * (5 : Int32)) / (2 : Int32))), .val (.int zc), .val (.int zr), .val (.long (((own_spread zc) <<< ((1 : Int32) &&& 0x3f).toInt64) ||| (own_spread zr))), .second, .val (.long (own_loop zc zr (5 * (k0).toNatClampNeg) 0 0 (own_lon k0) (own_lat k0))), .second]) rfl k) ?_
    show Wp p e below _ (T11.setTop (mkF m 104 #[.val (.int p0), .val (.int p1), .val (.int p2), .val (.int k0), .val (.int (k0 * (5 : Int32))), .val (.int (((k0 * (5 : Int32)) + (1 : Int32)) / (2 : Int32))), .val (.int ((k0 * (5 : Int32)) / (2 : Int32))), .val (.int zc), .val (.int zr), .val (.long (((own_spread zc) <<< ((1 : Int32) &&& 0x3f).toInt64) ||| (own_spread zr))), .second, .val (.long (own_loop zc zr (5 * (k0).toNatClampNeg) 0 0 (own_lon k0) (own_lat k0))), .second] []))
    refine Wp.step (fun t k => XS.lload X11.here hx rfl (hb hby at_104) rfl k) ?_
    show Wp p e below _ (T11.setTop (mkF m 106 #[.val (.int p0), .val (.int p1), .val (.int p2), .val (.int k0), .val (.int (k0 * (5 : Int32))), .val (.int (((k0 * (5 : Int32)) + (1 : Int32)) / (2 : Int32))), .val (.int ((k0 * (5 : Int32)) / (2 : Int32))), .val (.int zc), .val (.int zr), .val (.long (((own_spread zc) <<< ((1 : Int32) &&& 0x3f).toInt64) ||| (own_spread zr))), .second, .val (.long (own_loop zc zr (5 * (k0).toNatClampNeg) 0 0 (own_lon k0) (own_lat k0))), .second] [(.long (own_loop zc zr (5 * (k0).toNatClampNeg) 0 0 (own_lon k0) (own_lat k0)))]))
    refine Wp.step (fun t k => XS.lload X11.here hx rfl (hb hby at_106) rfl k) ?_
    show Wp p e below _ (T11.setTop (mkF m 108 #[.val (.int p0), .val (.int p1), .val (.int p2), .val (.int k0), .val (.int (k0 * (5 : Int32))), .val (.int (((k0 * (5 : Int32)) + (1 : Int32)) / (2 : Int32))), .val (.int ((k0 * (5 : Int32)) / (2 : Int32))), .val (.int zc), .val (.int zr), .val (.long (((own_spread zc) <<< ((1 : Int32) &&& 0x3f).toInt64) ||| (own_spread zr))), .second, .val (.long (own_loop zc zr (5 * (k0).toNatClampNeg) 0 0 (own_lon k0) (own_lat k0))), .second] [(.long (((own_spread zc) <<< ((1 : Int32) &&& 0x3f).toInt64) ||| (own_spread zr))), (.long (own_loop zc zr (5 * (k0).toNatClampNeg) 0 0 (own_lon k0) (own_lat k0)))]))
    refine Wp.step (fun t k => XS.lcmp X11.here hx rfl (hb hby at_108) rfl k) ?_
    show Wp p e below _ (T11.setTop (mkF m 109 #[.val (.int p0), .val (.int p1), .val (.int p2), .val (.int k0), .val (.int (k0 * (5 : Int32))), .val (.int (((k0 * (5 : Int32)) + (1 : Int32)) / (2 : Int32))), .val (.int ((k0 * (5 : Int32)) / (2 : Int32))), .val (.int zc), .val (.int zr), .val (.long (((own_spread zc) <<< ((1 : Int32) &&& 0x3f).toInt64) ||| (own_spread zr))), .second, .val (.long (own_loop zc zr (5 * (k0).toNatClampNeg) 0 0 (own_lon k0) (own_lat k0))), .second] [(.int (lcmpW (own_loop zc zr (5 * (k0).toNatClampNeg) 0 0 (own_lon k0) (own_lat k0)) (((own_spread zc) <<< ((1 : Int32) &&& 0x3f).toInt64) ||| (own_spread zr))))]))
    refine Wp.step (fun t k => XS.ifNo X11.here hx rfl (hb hby at_109) rfl ((if0 _ _).trans (teq (show (lcmpW (own_loop zc zr (5 * (k0).toNatClampNeg) 0 0 (own_lon k0) (own_lat k0)) (((own_spread zc) <<< ((1 : Int32) &&& 0x3f).toInt64) ||| (own_spread zr))) = (0 : Int32) from (lw_eq _ _).mpr (own_even hp0 hp1 hz_zc hz_zr hc1))).2) k) ?_
    show Wp p e below _ (T11.setTop (mkF m 112 #[.val (.int p0), .val (.int p1), .val (.int p2), .val (.int k0), .val (.int (k0 * (5 : Int32))), .val (.int (((k0 * (5 : Int32)) + (1 : Int32)) / (2 : Int32))), .val (.int ((k0 * (5 : Int32)) / (2 : Int32))), .val (.int zc), .val (.int zr), .val (.long (((own_spread zc) <<< ((1 : Int32) &&& 0x3f).toInt64) ||| (own_spread zr))), .second, .val (.long (own_loop zc zr (5 * (k0).toNatClampNeg) 0 0 (own_lon k0) (own_lat k0))), .second] []))
    refine Wp.step (fun t k => XS.iconst X11.here hx rfl (hb hby at_112) k) ?_
    show Wp p e below _ (T11.setTop (mkF m 113 #[.val (.int p0), .val (.int p1), .val (.int p2), .val (.int k0), .val (.int (k0 * (5 : Int32))), .val (.int (((k0 * (5 : Int32)) + (1 : Int32)) / (2 : Int32))), .val (.int ((k0 * (5 : Int32)) / (2 : Int32))), .val (.int zc), .val (.int zr), .val (.long (((own_spread zc) <<< ((1 : Int32) &&& 0x3f).toInt64) ||| (own_spread zr))), .second, .val (.long (own_loop zc zr (5 * (k0).toNatClampNeg) 0 0 (own_lon k0) (own_lat k0))), .second] [(.int (1 : Int32))]))
    refine Wp.step (fun t k => XS.goto X11.here hx rfl (pc0 := 113) (pc' := 117) rfl (hb hby at_113) (by decide) (by decide) k) ?_
    show Wp p e below _ (T11.setTop (mkF m 117 #[.val (.int p0), .val (.int p1), .val (.int p2), .val (.int k0), .val (.int (k0 * (5 : Int32))), .val (.int (((k0 * (5 : Int32)) + (1 : Int32)) / (2 : Int32))), .val (.int ((k0 * (5 : Int32)) / (2 : Int32))), .val (.int zc), .val (.int zr), .val (.long (((own_spread zc) <<< ((1 : Int32) &&& 0x3f).toInt64) ||| (own_spread zr))), .second, .val (.long (own_loop zc zr (5 * (k0).toNatClampNeg) 0 0 (own_lon k0) (own_lat k0))), .second] [(.int (1 : Int32))]))
    refine Wp.retN X11 hx (t := .boolean) Bd.returns (by simp) (hb hby at_117) hlk ?_ (by decide) (by decide)
    show Q0 Z p0 p1 p2 h0 n0 (some (.int (nar .boolean (1 : Int32)))) T11.heap _
    rw [e11]
    exact ⟨rfl, N11⟩
  · refine Wp.step (fun t k => XS.ifYes X0.here hx rfl (pc0 := 51) (pc' := 72) rfl (hb hby at_51) rfl ((if0 _ _).trans (feq hc1).2) (by decide) (by decide) k) ?_
    show Wp p e below _ (s₁.setTop (mkF m 72 #[.val (.int p0), .val (.int p1), .val (.int p2), .val (.int k0), .val (.int (k0 * (5 : Int32))), .val (.int (((k0 * (5 : Int32)) + (1 : Int32)) / (2 : Int32))), .val (.int ((k0 * (5 : Int32)) / (2 : Int32))), .val (.int zc), .val (.int zr), .unset, .unset, .unset, .unset] []))
    refine Wp.step (fun t k => XS.iload X0.here hx rfl (hb hby at_72) rfl k) ?_
    show Wp p e below _ (s₁.setTop (mkF m 74 #[.val (.int p0), .val (.int p1), .val (.int p2), .val (.int k0), .val (.int (k0 * (5 : Int32))), .val (.int (((k0 * (5 : Int32)) + (1 : Int32)) / (2 : Int32))), .val (.int ((k0 * (5 : Int32)) / (2 : Int32))), .val (.int zc), .val (.int zr), .unset, .unset, .unset, .unset] [(.int zc)]))
    obtain ⟨_, _, ⟨T13, L13, k13, n13⟩, -, X13, ⟨Lc13, hQ13, l13, y13, z13⟩, st13⟩ := Jvm.LawKit.callS X0 hx (y := (⟨"com/example/luoshu/luoshu/util/GeohashBitsPinLaw", "spread", "(I)J"⟩ : MethodName)) hown (mvT hZ (hw _ (List.mem_of_getElem? (i := 1) rfl))) (mvT hZ (hw _ (List.mem_of_getElem? (i := 2) rfl))) (mvT hZ (hw _ (List.mem_of_getElem? (i := 3) rfl))) (mvT hZ (hw _ (List.mem_of_getElem? (i := 4) rfl))) (by decide) (backOf (W := 0) (rm1 l Z a0 hw [] zc  h0 n0 (Nat.le_trans Z0 K0.1) ) hZ (hw _ (List.mem_of_getElem? (i := 4) rfl)) (hw _ (List.mem_of_getElem? (i := 3) rfl)) (by decide) (by decide)) (g := (mkF m 74 #[.val (.int p0), .val (.int p1), .val (.int p2), .val (.int k0), .val (.int (k0 * (5 : Int32))), .val (.int (((k0 * (5 : Int32)) + (1 : Int32)) / (2 : Int32))), .val (.int ((k0 * (5 : Int32)) / (2 : Int32))), .val (.int zc), .val (.int zr), .unset, .unset, .unset, .unset] [(.int zc)])) rfl (by rw [hml]; rfl) (argsL := [(.int zc)]) (rest := []) (lenOf pd_28I29J rfl) rfl (by show 2 * 0 + _ ≤ _; exact Nat.le_of_eq rfl) (hb hby at_74) (fun _ _ => ⟨rfl, e0, (by decide : 0 + 0 ≤ _), (by decide : 0 + 0 ≤ _)⟩)
    dsimp only [Pt.U, Pt.locs, Pt.cells, Pt.slots] at X13 l13 y13 z13 st13 hQ13
    subst l13 y13 z13
    obtain ⟨rfl, N13q, e13⟩ := hQ13
    have N13 := Fr.app N0 N13q
    refine Wp.step st13 ?_
    show Wp p e below _ (T13.setTop (mkF m 77 #[.val (.int p0), .val (.int p1), .val (.int p2), .val (.int k0), .val (.int (k0 * (5 : Int32))), .val (.int (((k0 * (5 : Int32)) + (1 : Int32)) / (2 : Int32))), .val (.int ((k0 * (5 : Int32)) / (2 : Int32))), .val (.int zc), .val (.int zr), .unset, .unset, .unset, .unset] [(.long (own_spread zc))]))
    refine Wp.step (fun t k => XS.iload X13.here hx rfl (hb hby at_77) rfl k) ?_
    show Wp p e below _ (T13.setTop (mkF m 79 #[.val (.int p0), .val (.int p1), .val (.int p2), .val (.int k0), .val (.int (k0 * (5 : Int32))), .val (.int (((k0 * (5 : Int32)) + (1 : Int32)) / (2 : Int32))), .val (.int ((k0 * (5 : Int32)) / (2 : Int32))), .val (.int zc), .val (.int zr), .unset, .unset, .unset, .unset] [(.int zr), (.long (own_spread zc))]))
    obtain ⟨_, _, ⟨T14, L14, k14, n14⟩, -, X14, ⟨Lc14, hQ14, l14, y14, z14⟩, st14⟩ := Jvm.LawKit.callS X13 hx (y := (⟨"com/example/luoshu/luoshu/util/GeohashBitsPinLaw", "spread", "(I)J"⟩ : MethodName)) hown (mvT hZ (hw _ (List.mem_of_getElem? (i := 1) rfl))) (mvT hZ (hw _ (List.mem_of_getElem? (i := 2) rfl))) (mvT hZ (hw _ (List.mem_of_getElem? (i := 3) rfl))) (mvT hZ (hw _ (List.mem_of_getElem? (i := 4) rfl))) (by decide) (backOf (W := 2) (rm1 l Z a0 hw [] zr  h0 n0 (Nat.le_trans Z0 K0.1) ) hZ (hw _ (List.mem_of_getElem? (i := 4) rfl)) (hw _ (List.mem_of_getElem? (i := 3) rfl)) (by decide) (by decide)) (g := (mkF m 79 #[.val (.int p0), .val (.int p1), .val (.int p2), .val (.int k0), .val (.int (k0 * (5 : Int32))), .val (.int (((k0 * (5 : Int32)) + (1 : Int32)) / (2 : Int32))), .val (.int ((k0 * (5 : Int32)) / (2 : Int32))), .val (.int zc), .val (.int zr), .unset, .unset, .unset, .unset] [(.int zr), (.long (own_spread zc))])) rfl (by rw [hml]; rfl) (argsL := [(.int zr)]) (rest := [(.long (own_spread zc))]) (lenOf pd_28I29J rfl) rfl (by show 2 * 0 + _ ≤ _; exact Nat.le_of_eq rfl) (hb hby at_79) (fun _ _ => ⟨rfl, e13, (by decide : 0 + 0 ≤ _), (by decide : 0 + 0 ≤ _)⟩)
    dsimp only [Pt.U, Pt.locs, Pt.cells, Pt.slots] at X14 l14 y14 z14 st14 hQ14
    subst l14 y14 z14
    obtain ⟨rfl, N14q, e14⟩ := hQ14
    have N14 := Fr.app N13 N14q
    refine Wp.step st14 ?_
    show Wp p e below _ (T14.setTop (mkF m 82 #[.val (.int p0), .val (.int p1), .val (.int p2), .val (.int k0), .val (.int (k0 * (5 : Int32))), .val (.int (((k0 * (5 : Int32)) + (1 : Int32)) / (2 : Int32))), .val (.int ((k0 * (5 : Int32)) / (2 : Int32))), .val (.int zc), .val (.int zr), .unset, .unset, .unset, .unset] [(.long (own_spread zr)), (.long (own_spread zc))]))
    refine Wp.step (fun t k => XS.iconst X14.here hx rfl (hb hby at_82) k) ?_
    show Wp p e below _ (T14.setTop (mkF m 83 #[.val (.int p0), .val (.int p1), .val (.int p2), .val (.int k0), .val (.int (k0 * (5 : Int32))), .val (.int (((k0 * (5 : Int32)) + (1 : Int32)) / (2 : Int32))), .val (.int ((k0 * (5 : Int32)) / (2 : Int32))), .val (.int zc), .val (.int zr), .unset, .unset, .unset, .unset] [(.int (1 : Int32)), (.long (own_spread zr)), (.long (own_spread zc))]))
    refine Wp.step (fun t k => XS.lshl X14.here hx rfl (hb hby at_83) rfl k) ?_
    show Wp p e below _ (T14.setTop (mkF m 84 #[.val (.int p0), .val (.int p1), .val (.int p2), .val (.int k0), .val (.int (k0 * (5 : Int32))), .val (.int (((k0 * (5 : Int32)) + (1 : Int32)) / (2 : Int32))), .val (.int ((k0 * (5 : Int32)) / (2 : Int32))), .val (.int zc), .val (.int zr), .unset, .unset, .unset, .unset] [(.long ((own_spread zr) <<< ((1 : Int32) &&& 0x3f).toInt64)), (.long (own_spread zc))]))
    refine Wp.step (fun t k => XS.lor X14.here hx rfl (hb hby at_84) rfl k) ?_
    show Wp p e below _ (T14.setTop (mkF m 85 #[.val (.int p0), .val (.int p1), .val (.int p2), .val (.int k0), .val (.int (k0 * (5 : Int32))), .val (.int (((k0 * (5 : Int32)) + (1 : Int32)) / (2 : Int32))), .val (.int ((k0 * (5 : Int32)) / (2 : Int32))), .val (.int zc), .val (.int zr), .unset, .unset, .unset, .unset] [(.long ((own_spread zc) ||| ((own_spread zr) <<< ((1 : Int32) &&& 0x3f).toInt64)))]))
    refine Wp.step (fun t k => XS.lstore X14.here hx rfl (hb hby at_85) rfl (l' := #[.val (.int p0), .val (.int p1), .val (.int p2), .val (.int k0), .val (.int (k0 * (5 : Int32))), .val (.int (((k0 * (5 : Int32)) + (1 : Int32)) / (2 : Int32))), .val (.int ((k0 * (5 : Int32)) / (2 : Int32))), .val (.int zc), .val (.int zr), .val (.long ((own_spread zc) ||| ((own_spread zr) <<< ((1 : Int32) &&& 0x3f).toInt64))), .second, .unset, .unset]) rfl k) ?_
    show Wp p e below _ (T14.setTop (mkF m 87 #[.val (.int p0), .val (.int p1), .val (.int p2), .val (.int k0), .val (.int (k0 * (5 : Int32))), .val (.int (((k0 * (5 : Int32)) + (1 : Int32)) / (2 : Int32))), .val (.int ((k0 * (5 : Int32)) / (2 : Int32))), .val (.int zc), .val (.int zr), .val (.long ((own_spread zc) ||| ((own_spread zr) <<< ((1 : Int32) &&& 0x3f).toInt64))), .second, .unset, .unset] []))
    obtain ⟨T15, h15, X15, e15, E15, A15, D15, -, st15⟩ := newO X14 hx hZ hown (hw _ (List.mem_of_getElem? (i := 11) rfl)) (hw _ (List.mem_of_getElem? (i := 12) rfl)) (hw _ (List.mem_of_getElem? (i := 13) rfl)) e14 (g := (mkF m 87 #[.val (.int p0), .val (.int p1), .val (.int p2), .val (.int k0), .val (.int (k0 * (5 : Int32))), .val (.int (((k0 * (5 : Int32)) + (1 : Int32)) / (2 : Int32))), .val (.int ((k0 * (5 : Int32)) / (2 : Int32))), .val (.int zc), .val (.int zr), .val (.long ((own_spread zc) ||| ((own_spread zr) <<< ((1 : Int32) &&& 0x3f).toInt64))), .second, .unset, .unset] [])) rfl (hb hby at_87) (by decide) (by decide)
    obtain ⟨b15, g15⟩ : ∃ z, z = h0.size := ⟨_, rfl⟩
    rw [← g15] at A15 D15 st15
    have g_b15 : n0 ≤ b15 := Nat.le_trans (Nat.le_trans Z0 K0.1) (Nat.le_of_eq g15.symm)
    have sz_b15 : h0.size ≤ b15 := Nat.le_trans K0.1 (Nat.le_of_eq g15.symm)
    have K16 := K0.ext E15
    have c17 : Fld Z h15 b15 "com/example/luoshu/luoshu/util/Geohash$Cell" "precision" "I" (.int (0 : Int32)) := D15 (Or.inr (hw _ (List.mem_of_getElem? (i := 26) rfl))) (ty := .int) (by decide)
    have c18 : Fld Z h15 b15 "com/example/luoshu/luoshu/util/Geohash$Cell" "column" "I" (.int (0 : Int32)) := D15 (Or.inr (hw _ (List.mem_of_getElem? (i := 28) rfl))) (ty := .int) (by decide)
    have c19 : Fld Z h15 b15 "com/example/luoshu/luoshu/util/Geohash$Cell" "row" "I" (.int (0 : Int32)) := D15 (Or.inr (hw _ (List.mem_of_getElem? (i := 30) rfl))) (ty := .int) (by decide)
    refine Wp.step st15 ?_
    show Wp p e below _ (T15.setTop (mkF m 90 #[.val (.int p0), .val (.int p1), .val (.int p2), .val (.int k0), .val (.int (k0 * (5 : Int32))), .val (.int (((k0 * (5 : Int32)) + (1 : Int32)) / (2 : Int32))), .val (.int ((k0 * (5 : Int32)) / (2 : Int32))), .val (.int zc), .val (.int zr), .val (.long ((own_spread zc) ||| ((own_spread zr) <<< ((1 : Int32) &&& 0x3f).toInt64))), .second, .unset, .unset] [(.ref b15)]))
    refine Wp.step (fun t k => XS.dup X15.here hx rfl (hb hby at_90) rfl rfl k) ?_
    show Wp p e below _ (T15.setTop (mkF m 91 #[.val (.int p0), .val (.int p1), .val (.int p2), .val (.int k0), .val (.int (k0 * (5 : Int32))), .val (.int (((k0 * (5 : Int32)) + (1 : Int32)) / (2 : Int32))), .val (.int ((k0 * (5 : Int32)) / (2 : Int32))), .val (.int zc), .val (.int zr), .val (.long ((own_spread zc) ||| ((own_spread zr) <<< ((1 : Int32) &&& 0x3f).toInt64))), .second, .unset, .unset] [(.ref b15), (.ref b15)]))
    refine Wp.step (fun t k => XS.iloadN X15.here hx rfl (hb hby at_91) rfl k) ?_
    show Wp p e below _ (T15.setTop (mkF m 92 #[.val (.int p0), .val (.int p1), .val (.int p2), .val (.int k0), .val (.int (k0 * (5 : Int32))), .val (.int (((k0 * (5 : Int32)) + (1 : Int32)) / (2 : Int32))), .val (.int ((k0 * (5 : Int32)) / (2 : Int32))), .val (.int zc), .val (.int zr), .val (.long ((own_spread zc) ||| ((own_spread zr) <<< ((1 : Int32) &&& 0x3f).toInt64))), .second, .unset, .unset] [(.int k0), (.ref b15), (.ref b15)]))
    refine Wp.step (fun t k => XS.iload X15.here hx rfl (hb hby at_92) rfl k) ?_
    show Wp p e below _ (T15.setTop (mkF m 94 #[.val (.int p0), .val (.int p1), .val (.int p2), .val (.int k0), .val (.int (k0 * (5 : Int32))), .val (.int (((k0 * (5 : Int32)) + (1 : Int32)) / (2 : Int32))), .val (.int ((k0 * (5 : Int32)) / (2 : Int32))), .val (.int zc), .val (.int zr), .val (.long ((own_spread zc) ||| ((own_spread zr) <<< ((1 : Int32) &&& 0x3f).toInt64))), .second, .unset, .unset] [(.int zc), (.int k0), (.ref b15), (.ref b15)]))
    refine Wp.step (fun t k => XS.iload X15.here hx rfl (hb hby at_94) rfl k) ?_
    show Wp p e below _ (T15.setTop (mkF m 96 #[.val (.int p0), .val (.int p1), .val (.int p2), .val (.int k0), .val (.int (k0 * (5 : Int32))), .val (.int (((k0 * (5 : Int32)) + (1 : Int32)) / (2 : Int32))), .val (.int ((k0 * (5 : Int32)) / (2 : Int32))), .val (.int zc), .val (.int zr), .val (.long ((own_spread zc) ||| ((own_spread zr) <<< ((1 : Int32) &&& 0x3f).toInt64))), .second, .unset, .unset] [(.int zr), (.int zc), (.int k0), (.ref b15), (.ref b15)]))
    obtain ⟨_, _, ⟨T20, L20, k20, n20⟩, -, X20, ⟨Lc20, hQ20, l20, y20, z20⟩, st20⟩ := X15.specialBack hx (y := (⟨"com/example/luoshu/luoshu/util/Geohash$Cell", "<init>", "(III)V"⟩ : MethodName)) rfl hown (mvT hZ (hw _ (List.mem_of_getElem? (i := 14) rfl))) (mvT hZ (hw _ (List.mem_of_getElem? (i := 15) rfl))) (mvT hZ (hw _ (List.mem_of_getElem? (i := 16) rfl))) (by decide) (backOf (W := 1) (rm2 l Z a0 hw [] b15 k0 zc zr  h15 n0 (Nat.le_trans Z0 K16.1) g_b15 A15 c17 c18 c19 ) hZ (hw _ (List.mem_of_getElem? (i := 16) rfl)) (hw _ (List.mem_of_getElem? (i := 13) rfl)) (by decide) (by decide)) (g := (mkF m 96 #[.val (.int p0), .val (.int p1), .val (.int p2), .val (.int k0), .val (.int (k0 * (5 : Int32))), .val (.int (((k0 * (5 : Int32)) + (1 : Int32)) / (2 : Int32))), .val (.int ((k0 * (5 : Int32)) / (2 : Int32))), .val (.int zc), .val (.int zr), .val (.long ((own_spread zc) ||| ((own_spread zr) <<< ((1 : Int32) &&& 0x3f).toInt64))), .second, .unset, .unset] [(.int zr), (.int zc), (.int k0), (.ref b15), (.ref b15)])) rfl (by rw [hml]; rfl) (Steps.refl _) (a := b15) (argsL := [(.int k0), (.int zc), (.int zr)]) (rest := [(.ref b15)]) (lenOf pd_28III29V rfl) rfl (by show 2 * 0 + _ ≤ _; exact Nat.le_of_eq rfl) (hb hby at_96) (fun _ _ => ⟨rfl, e15, (by decide : 1 + 0 ≤ _), (by decide : 3 + 0 ≤ _)⟩)
    dsimp only [Pt.U, Pt.locs, Pt.cells, Pt.slots] at X20 l20 y20 z20 st20 hQ20
    subst l20 y20 z20
    obtain ⟨h20, e20⟩ : ∃ z, T20.heap = z := ⟨_, rfl⟩
    rw [e20] at hQ20
    obtain ⟨rfl, N20q, Kc20, cE20, c20_precision, c20_column, c20_row⟩ := hQ20
    have N20 := Fr.app N14 N20q
    have c21 := A15.keep Kc20
    have K20 := K16.trans Kc20 (allS (Or.inr sz_b15) all0)
    refine Wp.go st20 ?_
    show Wp p e below _ (T20.setTop (mkF m 99 #[.val (.int p0), .val (.int p1), .val (.int p2), .val (.int k0), .val (.int (k0 * (5 : Int32))), .val (.int (((k0 * (5 : Int32)) + (1 : Int32)) / (2 : Int32))), .val (.int ((k0 * (5 : Int32)) / (2 : Int32))), .val (.int zc), .val (.int zr), .val (.long ((own_spread zc) ||| ((own_spread zr) <<< ((1 : Int32) &&& 0x3f).toInt64))), .second, .unset, .unset] [(.ref b15)]))
    obtain ⟨cq22, kq22, q22a, q22b, q22c⟩ := isOf hZ e20 cE20
    obtain ⟨_, _, ⟨T22, L22, k22, n22⟩, -, X22, ⟨Lc22, hQ22, l22, y22, z22⟩, st22⟩ := X20.virtualBack hx (y := (⟨"com/example/luoshu/luoshu/util/Geohash$Cell", "bits", "()J"⟩ : MethodName)) (z := (⟨"com/example/luoshu/luoshu/util/Geohash$Cell", "bits", "()J"⟩ : MethodName)) hown (mvT hZ (hw _ (List.mem_of_getElem? (i := 31) rfl))) (mvT hZ (hw _ (List.mem_of_getElem? (i := 32) rfl))) (notFace_of_selects (args := #[]) (mvT hZ (hw _ (List.mem_of_getElem? (i := 34) rfl)))) (mvT hZ (hw _ (List.mem_of_getElem? (i := 34) rfl))) (mvT hZ (hw _ (List.mem_of_getElem? (i := 33) rfl))) (by decide) (backOf (W := 0) (rm5 l Z a0 hw [] b15 k0 zc zr h20 n0 (Nat.le_trans Z0 K20.1) c20_precision c20_column c20_row hp0 hp1) hZ (hw _ (List.mem_of_getElem? (i := 35) rfl)) (hw _ (List.mem_of_getElem? (i := 13) rfl)) (by decide) (by decide)) q22a q22c (g := (mkF m 99 #[.val (.int p0), .val (.int p1), .val (.int p2), .val (.int k0), .val (.int (k0 * (5 : Int32))), .val (.int (((k0 * (5 : Int32)) + (1 : Int32)) / (2 : Int32))), .val (.int ((k0 * (5 : Int32)) / (2 : Int32))), .val (.int zc), .val (.int zr), .val (.long ((own_spread zc) ||| ((own_spread zr) <<< ((1 : Int32) &&& 0x3f).toInt64))), .second, .unset, .unset] [(.ref b15)])) rfl (by rw [hml]; rfl) (Steps.refl _) (argsL := []) (rest := []) (lenOf pd_2829J rfl) rfl (by show 2 * 0 + _ ≤ _; exact Nat.le_of_eq rfl) (hb hby at_99) (fun _ _ => ⟨rfl, e20, (by decide : 1 + 0 ≤ _), (by decide : 3 + 0 ≤ _)⟩)
    dsimp only [Pt.U, Pt.locs, Pt.cells, Pt.slots] at X22 l22 y22 z22 st22 hQ22
    subst l22 y22 z22
    obtain ⟨rfl, N22q, e22⟩ := hQ22
    have N22 := Fr.app N20 N22q
    refine Wp.go st22 ?_
    show Wp p e below _ (T22.setTop (mkF m 102 #[.val (.int p0), .val (.int p1), .val (.int p2), .val (.int k0), .val (.int (k0 * (5 : Int32))), .val (.int (((k0 * (5 : Int32)) + (1 : Int32)) / (2 : Int32))), .val (.int ((k0 * (5 : Int32)) / (2 : Int32))), .val (.int zc), .val (.int zr), .val (.long ((own_spread zc) ||| ((own_spread zr) <<< ((1 : Int32) &&& 0x3f).toInt64))), .second, .unset, .unset] [(.long (own_loop zc zr (5 * (k0).toNatClampNeg) 0 0 (own_lon k0) (own_lat k0)))]))
    refine Wp.step (fun t k => XS.lstore X22.here hx rfl (hb hby at_102) rfl (l' := #[.val (.int p0), .val (.int p1), .val (.int p2), .val (.int k0), .val (.int (k0 * (5 : Int32))), .val (.int (((k0 * (5 : Int32)) + (1 : Int32)) / (2 : Int32))), .val (.int ((k0 * (5 : Int32)) / (2 : Int32))), .val (.int zc), .val (.int zr), .val (.long ((own_spread zc) ||| ((own_spread zr) <<< ((1 : Int32) &&& 0x3f).toInt64))), .second, .val (.long (own_loop zc zr (5 * (k0).toNatClampNeg) 0 0 (own_lon k0) (own_lat k0))), .second]) rfl k) ?_
    show Wp p e below _ (T22.setTop (mkF m 104 #[.val (.int p0), .val (.int p1), .val (.int p2), .val (.int k0), .val (.int (k0 * (5 : Int32))), .val (.int (((k0 * (5 : Int32)) + (1 : Int32)) / (2 : Int32))), .val (.int ((k0 * (5 : Int32)) / (2 : Int32))), .val (.int zc), .val (.int zr), .val (.long ((own_spread zc) ||| ((own_spread zr) <<< ((1 : Int32) &&& 0x3f).toInt64))), .second, .val (.long (own_loop zc zr (5 * (k0).toNatClampNeg) 0 0 (own_lon k0) (own_lat k0))), .second] []))
    refine Wp.step (fun t k => XS.lload X22.here hx rfl (hb hby at_104) rfl k) ?_
    show Wp p e below _ (T22.setTop (mkF m 106 #[.val (.int p0), .val (.int p1), .val (.int p2), .val (.int k0), .val (.int (k0 * (5 : Int32))), .val (.int (((k0 * (5 : Int32)) + (1 : Int32)) / (2 : Int32))), .val (.int ((k0 * (5 : Int32)) / (2 : Int32))), .val (.int zc), .val (.int zr), .val (.long ((own_spread zc) ||| ((own_spread zr) <<< ((1 : Int32) &&& 0x3f).toInt64))), .second, .val (.long (own_loop zc zr (5 * (k0).toNatClampNeg) 0 0 (own_lon k0) (own_lat k0))), .second] [(.long (own_loop zc zr (5 * (k0).toNatClampNeg) 0 0 (own_lon k0) (own_lat k0)))]))
    refine Wp.step (fun t k => XS.lload X22.here hx rfl (hb hby at_106) rfl k) ?_
    show Wp p e below _ (T22.setTop (mkF m 108 #[.val (.int p0), .val (.int p1), .val (.int p2), .val (.int k0), .val (.int (k0 * (5 : Int32))), .val (.int (((k0 * (5 : Int32)) + (1 : Int32)) / (2 : Int32))), .val (.int ((k0 * (5 : Int32)) / (2 : Int32))), .val (.int zc), .val (.int zr), .val (.long ((own_spread zc) ||| ((own_spread zr) <<< ((1 : Int32) &&& 0x3f).toInt64))), .second, .val (.long (own_loop zc zr (5 * (k0).toNatClampNeg) 0 0 (own_lon k0) (own_lat k0))), .second] [(.long ((own_spread zc) ||| ((own_spread zr) <<< ((1 : Int32) &&& 0x3f).toInt64))), (.long (own_loop zc zr (5 * (k0).toNatClampNeg) 0 0 (own_lon k0) (own_lat k0)))]))
    refine Wp.step (fun t k => XS.lcmp X22.here hx rfl (hb hby at_108) rfl k) ?_
    show Wp p e below _ (T22.setTop (mkF m 109 #[.val (.int p0), .val (.int p1), .val (.int p2), .val (.int k0), .val (.int (k0 * (5 : Int32))), .val (.int (((k0 * (5 : Int32)) + (1 : Int32)) / (2 : Int32))), .val (.int ((k0 * (5 : Int32)) / (2 : Int32))), .val (.int zc), .val (.int zr), .val (.long ((own_spread zc) ||| ((own_spread zr) <<< ((1 : Int32) &&& 0x3f).toInt64))), .second, .val (.long (own_loop zc zr (5 * (k0).toNatClampNeg) 0 0 (own_lon k0) (own_lat k0))), .second] [(.int (lcmpW (own_loop zc zr (5 * (k0).toNatClampNeg) 0 0 (own_lon k0) (own_lat k0)) ((own_spread zc) ||| ((own_spread zr) <<< ((1 : Int32) &&& 0x3f).toInt64))))]))
    refine Wp.step (fun t k => XS.ifNo X22.here hx rfl (hb hby at_109) rfl ((if0 _ _).trans (teq (show (lcmpW (own_loop zc zr (5 * (k0).toNatClampNeg) 0 0 (own_lon k0) (own_lat k0)) ((own_spread zc) ||| ((own_spread zr) <<< ((1 : Int32) &&& 0x3f).toInt64))) = (0 : Int32) from (lw_eq _ _).mpr (own_odd hp0 hp1 hz_zc hz_zr hc1))).2) k) ?_
    show Wp p e below _ (T22.setTop (mkF m 112 #[.val (.int p0), .val (.int p1), .val (.int p2), .val (.int k0), .val (.int (k0 * (5 : Int32))), .val (.int (((k0 * (5 : Int32)) + (1 : Int32)) / (2 : Int32))), .val (.int ((k0 * (5 : Int32)) / (2 : Int32))), .val (.int zc), .val (.int zr), .val (.long ((own_spread zc) ||| ((own_spread zr) <<< ((1 : Int32) &&& 0x3f).toInt64))), .second, .val (.long (own_loop zc zr (5 * (k0).toNatClampNeg) 0 0 (own_lon k0) (own_lat k0))), .second] []))
    refine Wp.step (fun t k => XS.iconst X22.here hx rfl (hb hby at_112) k) ?_
    show Wp p e below _ (T22.setTop (mkF m 113 #[.val (.int p0), .val (.int p1), .val (.int p2), .val (.int k0), .val (.int (k0 * (5 : Int32))), .val (.int (((k0 * (5 : Int32)) + (1 : Int32)) / (2 : Int32))), .val (.int ((k0 * (5 : Int32)) / (2 : Int32))), .val (.int zc), .val (.int zr), .val (.long ((own_spread zc) ||| ((own_spread zr) <<< ((1 : Int32) &&& 0x3f).toInt64))), .second, .val (.long (own_loop zc zr (5 * (k0).toNatClampNeg) 0 0 (own_lon k0) (own_lat k0))), .second] [(.int (1 : Int32))]))
    refine Wp.step (fun t k => XS.goto X22.here hx rfl (pc0 := 113) (pc' := 117) rfl (hb hby at_113) (by decide) (by decide) k) ?_
    show Wp p e below _ (T22.setTop (mkF m 117 #[.val (.int p0), .val (.int p1), .val (.int p2), .val (.int k0), .val (.int (k0 * (5 : Int32))), .val (.int (((k0 * (5 : Int32)) + (1 : Int32)) / (2 : Int32))), .val (.int ((k0 * (5 : Int32)) / (2 : Int32))), .val (.int zc), .val (.int zr), .val (.long ((own_spread zc) ||| ((own_spread zr) <<< ((1 : Int32) &&& 0x3f).toInt64))), .second, .val (.long (own_loop zc zr (5 * (k0).toNatClampNeg) 0 0 (own_lon k0) (own_lat k0))), .second] [(.int (1 : Int32))]))
    refine Wp.retN X22 hx (t := .boolean) Bd.returns (by simp) (hb hby at_117) hlk ?_ (by decide) (by decide)
    show Q0 Z p0 p1 p2 h0 n0 (some (.int (nar .boolean (1 : Int32)))) T22.heap _
    rw [e22]
    exact ⟨rfl, N22⟩
set_option maxRecDepth 65536 in
set_option maxHeartbeats 40000000 in
theorem comes_1 {Post : Tables → Env → Array Value → State → Outcome → State → Prop} (hpost : ∀ tb e args s v u, (limb_1_1.after args s (.returned v) u = true ∧ limb_1_2.after args s (.returned v) u = true ∧ True) → FrameEnd s (.returned v) u (Jvm.fieldLocs frame_1_writes args s ++ Jvm.arrayLocs frame_1_arrays args s ++ Jvm.staticLocs frame_1_statics s) 16 128 → Post tb e args s (.returned v) u) :
    ArmFor flags0 classFile x code maxLocals ret World_1 tables_1 room_1 Calls_1 rest_1 Pre_1 Post := by
  intro l hfl _ _ p e ha hc hk s m args below hf hA hF happ hP
  obtain ⟨hcalls, hrest, hpre⟩ := hP
  obtain ⟨-, -, -, hnamed, -, -, -, hat⟩ := (Spec.applies_iff hf).mp happ
  obtain ⟨hg, hn⟩ := and_e (Cond.before_iff.mp (show (Jvm.Cond.and given_1 narrow_1).before args s = true from hpre))
  obtain ⟨hcnt, hr0⟩ := and_e hg
  obtain ⟨hi0, hr1⟩ := and_e hr0
  obtain ⟨hi1, hi2⟩ := and_e hr1
  obtain ⟨w0, w1, w2, rfl⟩ : ∃ w0 w1 w2 : Value, args = #[w0, w1, w2] := by
    have hs : args.size = 3 := by simpa [Cond.value, given_1] using hcnt
    obtain ⟨L⟩ := args
    match L, hs with
    | [w0, w1, w2], _ => exact ⟨w0, w1, w2, rfl⟩
  have hw := fun d (hd : d ∈ tables_1) => atoms_spec (ws := Jvm.Cond.code x code maxLocals ret :: tables_1) hat d (List.mem_cons_of_mem _ hd)
  have hfit : Fit s := fun {y c} hc i hi => by
    obtain ⟨ha, rfl⟩ := Array.getElem?_eq_some_iff.mp hc
    have q := List.all_eq_true.mp ((Array.all_eq_true_iff_forall_mem.mp hF) _ (Array.getElem_mem ha)) i (List.mem_range.mpr hi)
    simpa [Array.getElem?_eq_getElem hi] using q
  obtain ⟨i0, ei0⟩ := is_v hi0
  obtain rfl : w0 = (.int i0) := Option.some.inj ei0
  obtain ⟨i1, ei1⟩ := is_v hi1
  obtain rfl : w1 = (.int i1) := Option.some.inj ei1
  obtain ⟨i2, ei2⟩ := is_v hi2
  obtain rfl : w2 = (.int i2) := Option.some.inj ei2
  obtain ⟨n, o, h1, h2, h3, _, L, rfl, ⟨rfl, N⟩, hq⟩ := rm0 l s _ hw tables_1 i0 i1 i2 s.heap s.heap.size (Nat.le_refl _)  p e ha hc hk s m _ below hf ((Spec.applies_iff_loose hf).mp happ).1 ⟨rfl, State.Warmed39.refl s, rfl⟩ trivial
  refine ⟨n, _, h1, h2, h3, hpost _ _ _ _ _ _ ⟨Cond.after_iff.mpr rfl, Cond.after_iff.mpr (eq_i res_at (Term.int_eval (1)) rfl), trivial⟩ ⟨hq.1, hq.2.1, (hq.2.2.sift fun y hy => Or.inr (N y hy)).mono (by decide) (by decide)⟩⟩
theorem main_1_1 : Claimed_1_1 := comes_1 fun _ _ _ _ _ _ h hF => ⟨h.1, hF⟩
theorem main_1_2 : Claimed_1_2 := comes_1 fun _ _ _ _ _ _ h hF => ⟨h.2.1, hF⟩
end Jvm.Pilot.@@N@@
namespace Jvm.Pilot.@@N@@
open Jvm Jvm.ClassFile Sem Op Lib Jvm.Free Jvm.Stand Jvm.Pilot.@@N@@.Jvm.D
/-! MADE BY PROGRAM (witnessworld.py) out of the Statement's table words and the real class files: 10 classes; the members and pool entries that the words name. The judged class is class 1, her method 2. -/
namespace start1
open Jvm.ClassFile
def u (s : String) : CpInfo := .utf8 (stringToUtf16 s)
/-- a pool by its gaps: so many unusable entries, then the entry; so many at the end -/
def gap : Nat → List CpInfo → List CpInfo
  | 0, r => r
  | n + 1, r => .unusable :: gap n r
def poolList (es : List (Nat × CpInfo)) (last : Nat) : List CpInfo := es.foldr (fun e r => gap e.1 (e.2 :: r)) (gap last [])
def pool (es : List (Nat × CpInfo)) (last : Nat) : Array CpInfo := ⟨poolList es last⟩
def fileOf (pool : Array CpInfo) (this : Nat) (attrs : Array Attribute := #[]) (ms : Array MethodInfo := #[]) (fl : Nat := 33) (sup : Nat := 0) (ifs : Array Nat := #[]) (fds : Array FieldInfo := #[]) : ClassFile where
  minorVersion := 0
  majorVersion := 65
  constantPool := pool
  accessFlags := fl
  thisClass := this
  superClass := sup
  interfaces := ifs
  fields := fds
  methods := ms
  attributes := attrs
def plain (name : String) (sup : Option ClassId) : Class where
  name := name
  kind := .ordinary
  loader := none
  accessFlags := 33
  super := sup
  interfaces := #[]
  cf := none
  fields := #[]
  methods := #[]
  instanceTypes := #[]
  staticTypes := #[]
  resolved := #[]
  callSites := []
  init := .initialized
  statics := none
  mirror := none

def pool0 : Array CpInfo := pool [(5, u "<init>"), (0, u "()V"), (1, .class_ 10), (1, u "java/lang/Object")] 113

def k0c0 : Code := { maxStack := 0, maxLocals := 1, code := object_method_1_code, exceptionTable := #[], attributes := #[] }
def k0m0 : Method := { name := "<init>", desc := "()V", sig := { parameters := [], returnType := none }, accessFlags := 1, code := some k0c0 }
/-- java/lang/Object -/
def k0 : Class := { plain "java/lang/Object" none with
  accessFlags := 33
  interfaces := #[]
  cf := some (fileOf pool0 8 #[] #[{ accessFlags := 1, nameIndex := 5, descriptorIndex := 6, attributes := #[] }] 33 0 #[] #[])
  fields := #[]
  methods := #[k0m0]
  instanceTypes := #[]
  staticTypes := #[]
  resolved := Array.replicate 124 none
  statics := none }

def pool1 : Array CpInfo := pool [(2, .class_ 4), (1, u "java/lang/Object"), (0, u "<init>"), (0, u "()V"), (0, .long 4294967295), (1, .long 281470681808895), (1, .long 71777214294589695), (1, .long 1085102592571150095), (1, .long 3689348814741910323), (1, .long 6148914691236517205), (1, .integer 2147483647), (0, .methodref 21 22), (0, .class_ 23), (0, .nameAndType 24 25), (0, u "com/example/luoshu/luoshu/util/GeohashBitsPinLaw"), (0, u "spread"), (0, u "(I)J"), (0, .class_ 27), (0, u "com/example/luoshu/luoshu/util/Geohash$Cell"), (0, .methodref 26 29), (0, .nameAndType 5 30), (0, u "(III)V"), (0, .methodref 26 32), (0, .nameAndType 33 34), (0, u "bits"), (0, u "()J"), (2, u "law"), (0, u "(III)Z")] 7

def k1m0 : Method := { name := "<init>", desc := "()V", sig := { parameters := [], returnType := none }, accessFlags := 2, code := none }
def k1c1 : Code := { maxStack := 5, maxLocals := 3, code := method_2_code, exceptionTable := #[], attributes := #[] }
def k1m1 : Method := { name := "spread", desc := "(I)J", sig := { parameters := [.int], returnType := some .long }, accessFlags := 10, code := some k1c1 }
def k1c2 : Code := { maxStack := 5, maxLocals := 13, code := code, exceptionTable := #[], attributes := #[] }
def k1m2 : Method := { name := "law", desc := "(III)Z", sig := { parameters := [.int, .int, .int], returnType := some .boolean }, accessFlags := 9, code := some k1c2 }
/-- com/example/luoshu/luoshu/util/GeohashBitsPinLaw -/
def k1 : Class := { plain "com/example/luoshu/luoshu/util/GeohashBitsPinLaw" (some 0) with
  accessFlags := 49
  interfaces := #[]
  cf := some (fileOf pool1 21 #[] #[{ accessFlags := 2, nameIndex := 5, descriptorIndex := 6, attributes := #[] }, { accessFlags := 10, nameIndex := 24, descriptorIndex := 25, attributes := #[] }, { accessFlags := 9, nameIndex := 37, descriptorIndex := 38, attributes := #[] }] 49 2 #[] #[])
  fields := #[]
  methods := #[k1m0, k1m1, k1m2]
  instanceTypes := #[]
  staticTypes := #[]
  resolved := Array.replicate 46 none
  statics := none }

def pool2 : Array CpInfo := pool [(1, .methodref 2 3), (0, .class_ 4), (0, .nameAndType 5 6), (0, u "java/lang/Object"), (0, u "<init>"), (0, u "()V"), (0, .class_ 8), (0, u "java/lang/Record")] 13

def k2c0 : Code := { maxStack := 1, maxLocals := 1, code := jdk_30_method_1_code, exceptionTable := #[], attributes := #[] }
def k2m0 : Method := { name := "<init>", desc := "()V", sig := { parameters := [], returnType := none }, accessFlags := 4, code := some k2c0 }
/-- java/lang/Record -/
def k2 : Class := { plain "java/lang/Record" (some 0) with
  accessFlags := 1057
  interfaces := #[]
  cf := some (fileOf pool2 7 #[] #[{ accessFlags := 4, nameIndex := 5, descriptorIndex := 6, attributes := #[] }] 1057 2 #[] #[])
  fields := #[]
  methods := #[k2m0]
  instanceTypes := #[]
  staticTypes := #[]
  resolved := Array.replicate 22 none
  statics := none }

def pool3 : Array CpInfo := pool [(1, .class_ 2), (0, u "com/example/luoshu/luoshu/util/Geohash"), (0, .methodref 4 5), (0, .class_ 6), (0, .nameAndType 7 8), (0, u "java/lang/Record"), (0, u "<init>"), (0, u "()V"), (0, .fieldref 10 11), (0, .class_ 12), (0, .nameAndType 13 14), (0, u "com/example/luoshu/luoshu/util/Geohash$Cell"), (0, u "precision"), (0, u "I"), (0, .fieldref 10 16), (0, .nameAndType 17 14), (0, u "column"), (0, .fieldref 10 19), (0, .nameAndType 20 14), (0, u "row"), (4, .methodref 10 26), (0, .nameAndType 27 28), (0, u "lonBits"), (0, u "(I)I"), (8, .methodref 10 38), (0, .nameAndType 39 28), (0, u "latBits"), (2, u "(III)V"), (16, u "WORLD"), (0, u "Lcom/example/luoshu/luoshu/util/Geohash$Cell;"), (53, u "bits"), (0, u "()J")] 72

def k3c0 : Code := { maxStack := 2, maxLocals := 4, code := prog_49_method_1_code, exceptionTable := #[], attributes := #[] }
def k3m0 : Method := { name := "<init>", desc := "(III)V", sig := { parameters := [.int, .int, .int], returnType := none }, accessFlags := 0, code := some k3c0 }
def k3c1 : Code := { maxStack := 2, maxLocals := 1, code := prog_49_method_7_code, exceptionTable := #[], attributes := #[] }
def k3m1 : Method := { name := "lonBits", desc := "(I)I", sig := { parameters := [.int], returnType := some .int }, accessFlags := 8, code := some k3c1 }
def k3c2 : Code := { maxStack := 2, maxLocals := 1, code := prog_49_method_8_code, exceptionTable := #[], attributes := #[] }
def k3m2 : Method := { name := "latBits", desc := "(I)I", sig := { parameters := [.int], returnType := some .int }, accessFlags := 8, code := some k3c2 }
def k3c3 : Code := { maxStack := 4, maxLocals := 7, code := prog_49_method_12_code, exceptionTable := #[], attributes := #[] }
def k3m3 : Method := { name := "bits", desc := "()J", sig := { parameters := [], returnType := some .long }, accessFlags := 0, code := some k3c3 }
/-- com/example/luoshu/luoshu/util/Geohash$Cell -/
def k3 : Class := { plain "com/example/luoshu/luoshu/util/Geohash$Cell" (some 2) with
  accessFlags := 48
  interfaces := #[]
  cf := some (fileOf pool3 10 #[.nestHost 1] #[{ accessFlags := 0, nameIndex := 7, descriptorIndex := 42, attributes := #[] }, { accessFlags := 8, nameIndex := 27, descriptorIndex := 28, attributes := #[] }, { accessFlags := 8, nameIndex := 39, descriptorIndex := 28, attributes := #[] }, { accessFlags := 0, nameIndex := 114, descriptorIndex := 115, attributes := #[] }] 48 4 #[] #[{ accessFlags := 18, nameIndex := 13, descriptorIndex := 14, attributes := #[] }, { accessFlags := 18, nameIndex := 17, descriptorIndex := 14, attributes := #[] }, { accessFlags := 18, nameIndex := 20, descriptorIndex := 14, attributes := #[] }, { accessFlags := 24, nameIndex := 59, descriptorIndex := 60, attributes := #[] }])
  fields := #[{ name := "precision", type := .int, accessFlags := 18, slot := 0, constantValue := 0 }, { name := "column", type := .int, accessFlags := 18, slot := 1, constantValue := 0 }, { name := "row", type := .int, accessFlags := 18, slot := 2, constantValue := 0 }, { name := "WORLD", type := (.object "com/example/luoshu/luoshu/util/Geohash$Cell"), accessFlags := 24, slot := 0, constantValue := 0 }]
  methods := #[k3m0, k3m1, k3m2, k3m3]
  instanceTypes := #[.int, .int, .int]
  staticTypes := #[(.object "com/example/luoshu/luoshu/util/Geohash$Cell")]
  resolved := Array.replicate 188 none
  statics := none }

def pool4 : Array CpInfo := pool [(1, u "java/lang/Cloneable"), (0, .class_ 1), (0, u "java/lang/Object"), (0, .class_ 3)] 3

/-- java/lang/Cloneable -/
def k4 : Class := { plain "java/lang/Cloneable" (some 0) with
  accessFlags := 1537
  interfaces := #[]
  cf := some (fileOf pool4 2 #[] #[] 1537 4 #[] #[])
  fields := #[]
  methods := #[]
  instanceTypes := #[]
  staticTypes := #[]
  resolved := Array.replicate 8 none
  statics := none }

def pool5 : Array CpInfo := pool [(1, u "java/io/Serializable"), (0, .class_ 1), (0, u "java/lang/Object"), (0, .class_ 3)] 3

/-- java/io/Serializable -/
def k5 : Class := { plain "java/io/Serializable" (some 0) with
  accessFlags := 1537
  interfaces := #[]
  cf := some (fileOf pool5 2 #[] #[] 1537 4 #[] #[])
  fields := #[]
  methods := #[]
  instanceTypes := #[]
  staticTypes := #[]
  resolved := Array.replicate 8 none
  statics := none }

/-- the primitive byte -/
def k6 : Class := { plain "byte" none with kind := .primitive 'B', accessFlags := 0x411 }
/-- [B -/
def k7 : Class := { plain "[B" (some 0) with kind := .array 6 .byte, interfaces := #[4, 5], accessFlags := 1041 }

/-- the primitive int -/
def k8 : Class := { plain "int" none with kind := .primitive 'I', accessFlags := 0x411 }
/-- [I -/
def k9 : Class := { plain "[I" (some 0) with kind := .array 8 .int, interfaces := #[4, 5], accessFlags := 1041 }

def heap : Heap := #[]
def classes : Array Class := #[k0, k1, k2, k3, k4, k5, k6, k7, k8, k9]
def interned : List (Array UInt16 × Addr) := []
def slotsUsed : Nat := 0
def theMethod : MethodId := ⟨1, 2⟩
def args0 : Array Value := #[.int 5, .int 300, .int 7]
def aboutOver (below : List Frame) : State where
  vm := { classes := classes, interned := interned.toArray }
  heap := heap
  slotsUsed := slotsUsed
  threads := #[{ frames := .invoking theMethod args0 :: below }]
def below0 : List Frame := [.native { method := ⟨0, 0⟩, args := #[] }]
def about1 : State := aboutOver below0
def p0 : Program := .bare "" "" ""
def e0 : Env := launch0.env 0 0 0
theorem w_frames : about1.frames = Frame.invoking theMethod args0 :: below0 := rfl
set_option maxRecDepth 65536 in
theorem w_args : argsFit about1.vm theMethod args0 = true := by decide +kernel
set_option maxRecDepth 65536 in
theorem w_heap : heapFits about1 = true := by decide +kernel
set_option maxRecDepth 65536 in
theorem w_runnable : about1.curStatus? = some .runnable := by decide +kernel
set_option maxRecDepth 65536 in
theorem w_alone : about1.alone = true := by decide +kernel
set_option maxRecDepth 65536 in
theorem w_named : about1.methodNamed? x = some theMethod := by decide +kernel
set_option maxRecDepth 65536 in
theorem w_hears : about1.hears theMethod below0 = true := by decide +kernel
set_option maxRecDepth 65536 in
theorem w_ripe : about1.ripe theMethod args0 below0 = true := by decide +kernel
theorem w_running : about1.status = .running := rfl
set_option maxRecDepth 65536 in
theorem w_room : about1.hasRoom e0.platform room_1 = true :=
  launch0.hasRoom_least _ room_1 (by decide +kernel) (by decide +kernel) (by decide +kernel) (by decide +kernel) (by decide +kernel) (by decide +kernel)
theorem allAtoms_all (ts : List Jvm.Cond) (a : Array Jvm.Value) (st : Jvm.State) : (allAtoms ts).before a st = ts.all (fun c => c.before a st) := by
  induction ts with
  | nil => rfl
  | cons c t ih =>
    show (Jvm.Cond.and c (allAtoms t)).before a st = _
    rw [Jvm.Cond.before_and, ih, List.all_cons]
def words1 : List Jvm.Cond := Jvm.Cond.code x code maxLocals ret :: tables_1
/-- a 'code' word, met by the world's own term for the bytes: nothing is compared byte by byte -/
theorem code_word {y : MethodName} {bytes : ByteArray} {mx : Nat} {rt : Option FieldType} {a : Array Value} {s : State} {m : MethodId} {meth : Method} {c : Code} (h1 : s.methodNamed? y = some m) (h2 : s.vm.method? m = some meth) (h3 : meth.code = some c) (h4 : c.code = bytes)
    (h5 : (c.maxLocals == mx && c.exceptionTable.isEmpty && decide (c.maxStack ≤ mostOperands) && decide (meth.sig.returnType = rt) && !meth.locks && decide (parseMethodDescriptor y.desc = some meth.sig)) = true) : (Jvm.Cond.code y bytes mx rt).before a s = true := by
  simp only [Bool.and_eq_true, beq_iff_eq, Bool.not_eq_true', decide_eq_true_eq] at h5
  obtain ⟨⟨⟨⟨⟨g1, g2⟩, g3⟩, g4⟩, g5⟩, g6⟩ := h5
  simp [Cond.before, Cond.holds, Cond.value, h1, h2, h3, h4, g1, g2, g3, g4, g5, g6]
def isCode : Jvm.Cond → Bool
  | .code _ _ _ _ => true
  | _ => false
theorem all_split {L : List Jvm.Cond} {P : Jvm.Cond → Bool} (h1 : L.all (fun c => isCode c || P c) = true) (h2 : ∀ c ∈ L.filter isCode, P c = true) : L.all P = true := by
  refine List.all_eq_true.mpr fun c hc => ?_
  have h := List.all_eq_true.mp h1 c hc
  rcases Bool.eq_false_or_eq_true (isCode c) with hi | hi
  · exact h2 c (List.mem_filter.mpr ⟨hc, hi⟩)
  · simpa [hi] using h
set_option maxRecDepth 65536 in
theorem w_c0 : (Jvm.Cond.code x code maxLocals ret).before args0 about1 = true := code_word (m := ⟨1, 2⟩) (meth := k1m2) (c := k1c2) (by decide +kernel) rfl rfl rfl (by decide +kernel)
set_option maxRecDepth 65536 in
theorem w_c1 : (Jvm.Cond.code ({ cls := "com/example/luoshu/luoshu/util/GeohashBitsPinLaw", name := "spread", desc := "(I)J" } : Jvm.MethodName) method_2_code (3 : Nat) (Option.some Jvm.ClassFile.FieldType.long)).before args0 about1 = true := code_word (m := ⟨1, 1⟩) (meth := k1m1) (c := k1c1) (by decide +kernel) rfl rfl rfl (by decide +kernel)
set_option maxRecDepth 65536 in
theorem w_c2 : (Jvm.Cond.code ({ cls := "com/example/luoshu/luoshu/util/Geohash$Cell", name := "<init>", desc := "(III)V" } : Jvm.MethodName) prog_49_method_1_code (4 : Nat) (Option.none : Option Jvm.ClassFile.FieldType)).before args0 about1 = true := code_word (m := ⟨3, 0⟩) (meth := k3m0) (c := k3c0) (by decide +kernel) rfl rfl rfl (by decide +kernel)
set_option maxRecDepth 65536 in
theorem w_c3 : (Jvm.Cond.code ({ cls := "java/lang/Record", name := "<init>", desc := "()V" } : Jvm.MethodName) jdk_30_method_1_code (1 : Nat) (Option.none : Option Jvm.ClassFile.FieldType)).before args0 about1 = true := code_word (m := ⟨2, 0⟩) (meth := k2m0) (c := k2c0) (by decide +kernel) rfl rfl rfl (by decide +kernel)
set_option maxRecDepth 65536 in
theorem w_c4 : (Jvm.Cond.code ({ cls := "java/lang/Object", name := "<init>", desc := "()V" } : Jvm.MethodName) object_method_1_code (1 : Nat) (Option.none : Option Jvm.ClassFile.FieldType)).before args0 about1 = true := code_word (m := ⟨0, 0⟩) (meth := k0m0) (c := k0c0) (by decide +kernel) rfl rfl rfl (by decide +kernel)
set_option maxRecDepth 65536 in
theorem w_c5 : (Jvm.Cond.code ({ cls := "com/example/luoshu/luoshu/util/Geohash$Cell", name := "bits", desc := "()J" } : Jvm.MethodName) prog_49_method_12_code (7 : Nat) (Option.some Jvm.ClassFile.FieldType.long)).before args0 about1 = true := code_word (m := ⟨3, 3⟩) (meth := k3m3) (c := k3c3) (by decide +kernel) rfl rfl rfl (by decide +kernel)
set_option maxRecDepth 65536 in
theorem w_c6 : (Jvm.Cond.code ({ cls := "com/example/luoshu/luoshu/util/Geohash$Cell", name := "lonBits", desc := "(I)I" } : Jvm.MethodName) prog_49_method_7_code (1 : Nat) (Option.some Jvm.ClassFile.FieldType.int)).before args0 about1 = true := code_word (m := ⟨3, 1⟩) (meth := k3m1) (c := k3c1) (by decide +kernel) rfl rfl rfl (by decide +kernel)
set_option maxRecDepth 65536 in
theorem w_c7 : (Jvm.Cond.code ({ cls := "com/example/luoshu/luoshu/util/Geohash$Cell", name := "latBits", desc := "(I)I" } : Jvm.MethodName) prog_49_method_8_code (1 : Nat) (Option.some Jvm.ClassFile.FieldType.int)).before args0 about1 = true := code_word (m := ⟨3, 2⟩) (meth := k3m2) (c := k3c2) (by decide +kernel) rfl rfl rfl (by decide +kernel)
def codes1 : List Jvm.Cond := [Jvm.Cond.code x code maxLocals ret, Jvm.Cond.code ({ cls := "com/example/luoshu/luoshu/util/GeohashBitsPinLaw", name := "spread", desc := "(I)J" } : Jvm.MethodName) method_2_code (3 : Nat) (Option.some Jvm.ClassFile.FieldType.long), Jvm.Cond.code ({ cls := "com/example/luoshu/luoshu/util/Geohash$Cell", name := "<init>", desc := "(III)V" } : Jvm.MethodName) prog_49_method_1_code (4 : Nat) (Option.none : Option Jvm.ClassFile.FieldType), Jvm.Cond.code ({ cls := "java/lang/Record", name := "<init>", desc := "()V" } : Jvm.MethodName) jdk_30_method_1_code (1 : Nat) (Option.none : Option Jvm.ClassFile.FieldType), Jvm.Cond.code ({ cls := "java/lang/Object", name := "<init>", desc := "()V" } : Jvm.MethodName) object_method_1_code (1 : Nat) (Option.none : Option Jvm.ClassFile.FieldType), Jvm.Cond.code ({ cls := "com/example/luoshu/luoshu/util/Geohash$Cell", name := "bits", desc := "()J" } : Jvm.MethodName) prog_49_method_12_code (7 : Nat) (Option.some Jvm.ClassFile.FieldType.long), Jvm.Cond.code ({ cls := "com/example/luoshu/luoshu/util/Geohash$Cell", name := "lonBits", desc := "(I)I" } : Jvm.MethodName) prog_49_method_7_code (1 : Nat) (Option.some Jvm.ClassFile.FieldType.int), Jvm.Cond.code ({ cls := "com/example/luoshu/luoshu/util/Geohash$Cell", name := "latBits", desc := "(I)I" } : Jvm.MethodName) prog_49_method_8_code (1 : Nat) (Option.some Jvm.ClassFile.FieldType.int)]
set_option maxRecDepth 65536 in
theorem codes_eq : words1.filter isCode = codes1 := rfl
theorem w_codes : ∀ c ∈ words1.filter isCode, c.before args0 about1 = true := by
  rw [codes_eq]
  intro c hc
  simp only [codes1, List.mem_cons, List.not_mem_nil, or_false] at hc
  rcases hc with rfl | rfl | rfl | rfl | rfl | rfl | rfl | rfl
  · exact w_c0
  · exact w_c1
  · exact w_c2
  · exact w_c3
  · exact w_c4
  · exact w_c5
  · exact w_c6
  · exact w_c7
set_option maxRecDepth 65536 in
theorem w_t1 : (words1.take 24).all (fun c => isCode c || c.before args0 about1) = true := by decide +kernel
set_option maxRecDepth 65536 in
theorem w_t2 : (words1.drop 24).all (fun c => isCode c || c.before args0 about1) = true := by decide +kernel
theorem w_tables : (allAtoms (Jvm.Cond.code x code maxLocals ret :: tables_1)).before args0 about1 = true := by
  rw [allAtoms_all]
  show words1.all (fun c => c.before args0 about1) = true
  refine all_split ?_ w_codes
  rw [← List.take_append_drop 24 words1, List.all_append, w_t1, w_t2]
  rfl
set_option maxRecDepth 65536 in
theorem w_case : (Jvm.Cond.and given_1 narrow_1).before args0 about1 = true := by decide +kernel
theorem w_applies : (headSpec (Jvm.Cond.code x code maxLocals ret :: tables_1) room_1).applies x e0.platform about1 = true :=
  (Spec.applies_iff w_frames).mpr ⟨w_running, w_runnable, w_alone, w_named, w_hears, w_ripe, w_room, w_tables⟩
theorem atStart : AtStart classFile x code maxLocals ret World_1 tables_1 room_1 Calls_1 rest_1 Pre_1 launch0 p0 e0 about1 theMethod args0 below0 :=
  ⟨lists_1, trivial, launch0.admits_env _ _ _, launch0.least_env, fairChoices_fair.cas, fairChoices_fair.clock, w_frames, w_args, w_heap, w_applies, trivial, trivial, w_case⟩
end start1
theorem witness_1 : WitnessClaimed_1 := ⟨start1.p0, start1.e0, start1.about1, start1.theMethod, start1.args0, start1.below0, start1.atStart⟩
end Jvm.Pilot.@@N@@
