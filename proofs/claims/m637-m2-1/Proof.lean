import JvmDerived
import JvmDerived.Pilot.@@N@@Statement
import JvmDerived.Pilot.@@N@@Code
set_option linter.unusedVariables false
set_option linter.unusedSimpArgs false
namespace Jvm.Pilot.@@N@@
open Jvm Jvm.ClassFile Sem Op Lib Jvm.Free Jvm.Stand Jvm.LawKit Jvm.RoadKit Bundle Jvm.Pilot.@@N@@.Jvm.D
/-! a run from here comes to the end of the invocation, and Q holds there -/
section OwnWp
variable {p : Program} {l : Launch} {e : Env} {R : Room} {s : State} {m : MethodId} {args : Array Value} {below : List Frame} {meth : Method} {c : Code} {T : State} {locs : List Loc} {cells slots : Nat}
def Wp (p : Program) (e : Env) (below : List Frame) (Q : Outcome → State → Prop) (A : State) : Prop := ∃ s₂ o, Steps p.tables e below A s₂ ∧ s₂.status = .running ∧ Ended s₂ below o ∧ Q o s₂
def Out (s : State) (Q : Option Value → Heap → List Loc → Prop) (k n : Nat) (o : Outcome) (t : State) : Prop := ∃ v L, o = .returned v ∧ Q v t.heap L ∧ FrameEnd s o t L k n
theorem Wp.step {Q : Outcome → State → Prop} {A B : State} (h : ∀ t, Steps p.tables e below B t → Steps p.tables e below A t) (k : Wp p e below Q B) : Wp p e below Q A := by
  obtain ⟨s₂, o, h1, h2⟩ := k; exact ⟨s₂, o, h _ h1, h2⟩
theorem Wp.go {Q : Outcome → State → Prop} {A B : State} (h : Steps p.tables e below A B) (k : Wp p e below Q B) : Wp p e below Q A := Wp.step (fun _ q => h.trans q) k
theorem Wp.out (X : Stand p l e R s m args below meth c T locs cells slots) {A : State} {v : Option Value} {Q : Option Value → Heap → List Loc → Prop} {k n : Nat} (hv : meth.sig.returnType = none → v = none) (hlk : meth.locks = false)
    (hs : ∀ fs, (∀ (f : JFrame) (acts : List Action), f.method = m → f.locked = none → f.entered = [] → (doReturn e (T.setTop f) acts v).1 = T.setFrames fs) → Steps p.tables e below A (T.setFrames fs)) (hQ : Q v T.heap locs) (hk : cells ≤ k) (hn : slots ≤ n) : Wp p e below (Out s Q k n) A := by
  obtain ⟨fs, hr, hrun, hended, hW, hsame⟩ := X.leave (v := v) hv hlk
  exact ⟨_, _, hs fs hr, hrun, hended, _, _, rfl, hQ, ⟨_, rfl⟩, hW, hsame.mono hk hn⟩
theorem Wp.retV (X : Stand p l e R s m args below meth c T locs cells slots) (hx : p.tables.exec = Jvm.exec) {pc : Nat} {Ls : Array Slot} {Q : Option Value → Heap → List Loc → Prop} {k n : Nat} (hret : meth.sig.returnType = none) (hd : decode c.code pc = .ok (.return_, 1)) (hlk : meth.locks = false)
    (hQ : Q none T.heap locs) (hk : cells ≤ k) (hn : slots ≤ n) : Wp p e below (Out s Q k n) (T.setTop (mkF m pc Ls [])) := Wp.out X (fun _ => rfl) hlk (fun fs hr => X.returnOut hx hret hd hr) hQ hk hn
theorem Wp.retN (X : Stand p l e R s m args below meth c T locs cells slots) (hx : p.tables.exec = Jvm.exec) {pc : Nat} {Ls : Array Slot} {z : Int32} {rest : List Value} {t : FieldType} {Q : Option Value → Heap → List Loc → Prop} {k n : Nat} (hret : meth.sig.returnType = some t) (ht : t = .boolean ∨ t = .byte ∨ t = .char ∨ t = .short) (hd : decode c.code pc = .ok (.ireturn, 1)) (hlk : meth.locks = false)
    (hQ : Q (some (.int (nar t z))) T.heap locs) (hk : cells ≤ k) (hn : slots ≤ n) : Wp p e below (Out s Q k n) (T.setTop (mkF m pc Ls (.int z :: rest))) := Wp.out X (fun h => by rw [hret] at h; cases h) hlk (fun fs hr => Jvm.RoadKit.retN X hx hret ht hd hr) hQ hk hn
theorem Wp.retI (X : Stand p l e R s m args below meth c T locs cells slots) (hx : p.tables.exec = Jvm.exec) {pc : Nat} {Ls : Array Slot} {z : Int32} {rest : List Value} {Q : Option Value → Heap → List Loc → Prop} {k n : Nat} (hret : meth.sig.returnType = some .int) (hd : decode c.code pc = .ok (.ireturn, 1)) (hlk : meth.locks = false)
    (hQ : Q (some (.int z)) T.heap locs) (hk : cells ≤ k) (hn : slots ≤ n) : Wp p e below (Out s Q k n) (T.setTop (mkF m pc Ls (.int z :: rest))) := Wp.out X (fun h => by rw [hret] at h; cases h) hlk (fun fs hr => Jvm.RoadKit.retOut X hx hret rfl (Or.inl ⟨rfl, Or.inl rfl, z, rfl⟩) hd hr) hQ hk hn
theorem Wp.retJ (X : Stand p l e R s m args below meth c T locs cells slots) (hx : p.tables.exec = Jvm.exec) {pc : Nat} {Ls : Array Slot} {z : Int64} {rest : List Value} {Q : Option Value → Heap → List Loc → Prop} {k n : Nat} (hret : meth.sig.returnType = some .long) (hd : decode c.code pc = .ok (.lreturn, 1)) (hlk : meth.locks = false)
    (hQ : Q (some (.long z)) T.heap locs) (hk : cells ≤ k) (hn : slots ≤ n) : Wp p e below (Out s Q k n) (T.setTop (mkF m pc Ls (.long z :: rest))) := Wp.out X (fun h => by rw [hret] at h; cases h) hlk (fun fs hr => Jvm.RoadKit.retOut X hx hret rfl (Or.inr (Or.inl ⟨rfl, rfl, z, rfl⟩)) hd hr) hQ hk hn
theorem Wp.retA (X : Stand p l e R s m args below meth c T locs cells slots) (hx : p.tables.exec = Jvm.exec) {pc : Nat} {Ls : Array Slot} {w : Value} {rest : List Value} {t : FieldType} {Q : Option Value → Heap → List Loc → Prop} {k n : Nat} (hret : meth.sig.returnType = some t) (hw : w.isRef = true) (hd : decode c.code pc = .ok (.areturn, 1)) (hlk : meth.locks = false)
    (hQ : Q (some w) T.heap locs) (hk : cells ≤ k) (hn : slots ≤ n) (ht : t.isReference = true := by rfl) : Wp p e below (Out s Q k n) (T.setTop (mkF m pc Ls (w :: rest))) := Wp.out X (fun h => by rw [hret] at h; cases h) hlk (fun fs hr => Jvm.RoadKit.retOut X hx hret (by cases t <;> first | (cases ht; done) | (cases w <;> first | (cases hw; done) | rfl)) (Or.inr (Or.inr (Or.inr (Or.inr ⟨rfl, ht, hw⟩)))) hd hr) hQ hk hn
end OwnWp
theorem own_fld {s : State} {args : Array Value} {t : Term} {a : Addr} {C n d : String} {k : Int32} (ev : t.eval args s none [] s = some (.ref a)) (h : (Jvm.Cond.eq (Term.field t C n d) (Term.int k)).value args s none s [] = some true) : Fld s s.heap a C n d (.int k) := by
  refine Fld.start ?_
  have e := fld_at (C := C) (n := n) (dd := d) ev
  obtain ⟨x, y, h1, h2, h3, h4⟩ := cmp_v (Or.inl h)
  cases h2
  obtain ⟨z, rfl⟩ := h4
  rw [← e, h1]
  have q : (Jvm.Cond.eq (Term.field t C n d) (Term.int k)).value args s none s [] = some (decide (z = k)) := by
    have h2 : (Term.int k).eval args s none [] s = some (.int k) := rfl
    simp only [Jvm.Cond.value, h1, h2]
  rw [gotT q h]
def own_first (k0 : Int32) : Int32 := if k0 = 0 then 9 else if k0 = 1 then 32767 else if k0 = 2 then 3 else if k0 = 3 then 5 else if k0 = 4 then 2 else if k0 = 5 then 2 else if k0 = 6 then 2 else if k0 = 7 then 4 else if k0 = 8 then 2 else if k0 = 9 then 1 else 1
def own_flex (v0 f0 : Int32) : Int32 := if v0 < f0 then 0 else 1
theorem own_flex1 {v0 f0 : Int32} (h : ¬ own_flex v0 f0 = 0) : own_flex v0 f0 = 1 := by
  unfold own_flex at h ⊢
  split
  · rename_i q; rw [if_pos q] at h; exact absurd rfl h
  · rfl
def own_uses (v0 f0 : Int32) (d0 g0 : Addr) : Int32 := if d0 = g0 then 0 else own_flex v0 f0
theorem d1_0 : decode method_2_code 0 = .ok (.iload_n 0, 1) := by decide +kernel
theorem d1_1 : decode method_2_code 1 = .ok (.ifCond .ne 7, 3) := by decide +kernel
theorem d1_4 : decode method_2_code 4 = .ok (.getstatic 7, 3) := by decide +kernel
theorem d1_7 : decode method_2_code 7 = .ok (.areturn, 1) := by decide +kernel
theorem d1_8 : decode method_2_code 8 = .ok (.iload_n 0, 1) := by decide +kernel
theorem d1_9 : decode method_2_code 9 = .ok (.iconst 1, 1) := by decide +kernel
theorem d1_10 : decode method_2_code 10 = .ok (.if_icmp .ne 7, 3) := by decide +kernel
theorem d1_13 : decode method_2_code 13 = .ok (.getstatic 13, 3) := by decide +kernel
theorem d1_16 : decode method_2_code 16 = .ok (.areturn, 1) := by decide +kernel
theorem d1_17 : decode method_2_code 17 = .ok (.iload_n 0, 1) := by decide +kernel
theorem d1_18 : decode method_2_code 18 = .ok (.iconst 2, 1) := by decide +kernel
theorem d1_19 : decode method_2_code 19 = .ok (.if_icmp .ne 7, 3) := by decide +kernel
theorem d1_22 : decode method_2_code 22 = .ok (.getstatic 16, 3) := by decide +kernel
theorem d1_25 : decode method_2_code 25 = .ok (.areturn, 1) := by decide +kernel
theorem d1_26 : decode method_2_code 26 = .ok (.iload_n 0, 1) := by decide +kernel
theorem d1_27 : decode method_2_code 27 = .ok (.iconst 3, 1) := by decide +kernel
theorem d1_28 : decode method_2_code 28 = .ok (.if_icmp .ne 7, 3) := by decide +kernel
theorem d1_31 : decode method_2_code 31 = .ok (.getstatic 19, 3) := by decide +kernel
theorem d1_34 : decode method_2_code 34 = .ok (.areturn, 1) := by decide +kernel
theorem d1_35 : decode method_2_code 35 = .ok (.iload_n 0, 1) := by decide +kernel
theorem d1_36 : decode method_2_code 36 = .ok (.iconst 4, 1) := by decide +kernel
theorem d1_37 : decode method_2_code 37 = .ok (.if_icmp .ne 7, 3) := by decide +kernel
theorem d1_40 : decode method_2_code 40 = .ok (.getstatic 22, 3) := by decide +kernel
theorem d1_43 : decode method_2_code 43 = .ok (.areturn, 1) := by decide +kernel
theorem d1_44 : decode method_2_code 44 = .ok (.iload_n 0, 1) := by decide +kernel
theorem d1_45 : decode method_2_code 45 = .ok (.iconst 5, 1) := by decide +kernel
theorem d1_46 : decode method_2_code 46 = .ok (.if_icmp .ne 7, 3) := by decide +kernel
theorem d1_49 : decode method_2_code 49 = .ok (.getstatic 25, 3) := by decide +kernel
theorem d1_52 : decode method_2_code 52 = .ok (.areturn, 1) := by decide +kernel
theorem d1_53 : decode method_2_code 53 = .ok (.iload_n 0, 1) := by decide +kernel
theorem d1_54 : decode method_2_code 54 = .ok (.bipush 6, 2) := by decide +kernel
theorem d1_56 : decode method_2_code 56 = .ok (.if_icmp .ne 7, 3) := by decide +kernel
theorem d1_59 : decode method_2_code 59 = .ok (.getstatic 28, 3) := by decide +kernel
theorem d1_62 : decode method_2_code 62 = .ok (.areturn, 1) := by decide +kernel
theorem d1_63 : decode method_2_code 63 = .ok (.iload_n 0, 1) := by decide +kernel
theorem d1_64 : decode method_2_code 64 = .ok (.bipush 7, 2) := by decide +kernel
theorem d1_66 : decode method_2_code 66 = .ok (.if_icmp .ne 7, 3) := by decide +kernel
theorem d1_69 : decode method_2_code 69 = .ok (.getstatic 31, 3) := by decide +kernel
theorem d1_72 : decode method_2_code 72 = .ok (.areturn, 1) := by decide +kernel
theorem d1_73 : decode method_2_code 73 = .ok (.iload_n 0, 1) := by decide +kernel
theorem d1_74 : decode method_2_code 74 = .ok (.bipush 8, 2) := by decide +kernel
theorem d1_76 : decode method_2_code 76 = .ok (.if_icmp .ne 7, 3) := by decide +kernel
theorem d1_79 : decode method_2_code 79 = .ok (.getstatic 34, 3) := by decide +kernel
theorem d1_82 : decode method_2_code 82 = .ok (.areturn, 1) := by decide +kernel
theorem d1_83 : decode method_2_code 83 = .ok (.iload_n 0, 1) := by decide +kernel
theorem d1_84 : decode method_2_code 84 = .ok (.bipush 9, 2) := by decide +kernel
theorem d1_86 : decode method_2_code 86 = .ok (.if_icmp .ne 7, 3) := by decide +kernel
theorem d1_89 : decode method_2_code 89 = .ok (.getstatic 37, 3) := by decide +kernel
theorem d1_92 : decode method_2_code 92 = .ok (.areturn, 1) := by decide +kernel
theorem d1_93 : decode method_2_code 93 = .ok (.getstatic 40, 3) := by decide +kernel
theorem d1_96 : decode method_2_code 96 = .ok (.areturn, 1) := by decide +kernel
theorem pn_com_example_ulinzi_ulinzi_protocol_ApiKeyUsesResponseHeaderTagsPinLaw : plainName "com/example/ulinzi/ulinzi/protocol/ApiKeyUsesResponseHeaderTagsPinLaw" = true := by first | (simp [plainName, overriddenIn]; done) | decide +kernel
theorem ef_1_0 (m : MethodId) (x0 : Int32) : entryFrame m #[(.int x0)] 1 = mkF m 0 #[.val (.int x0)] [] := by first | (simp [entryFrame, mkF, argsToLocals, Value.category]; done) | rfl
def Q1 (Z : State) (k0 : Int32) (a_ApiKey_METADATA : Addr) (a_ApiKey_SASL_HANDSHAKE : Addr) (a_ApiKey_API_VERSIONS : Addr) (a_ApiKey_CREATE_TOPICS : Addr) (a_ApiKey_DESCRIBE_ACLS : Addr) (a_ApiKey_CREATE_ACLS : Addr) (a_ApiKey_DELETE_ACLS : Addr) (a_ApiKey_DESCRIBE_CONFIGS : Addr) (a_ApiKey_SASL_AUTHENTICATE : Addr) (a_ApiKey_DESCRIBE_CLIENT_QUOTAS : Addr) (a_ApiKey_ALTER_CLIENT_QUOTAS : Addr) (h0 : Heap) (n0 : Nat) (v : Option Value) (h : Heap) (L : List Loc) : Prop := ∃ d0 : Addr, v = some (.ref d0) ∧ Exa Z h0 d0 "com/example/ulinzi/ulinzi/protocol/ApiKey" ∧ Fld Z h0 d0 "com/example/ulinzi/ulinzi/protocol/ApiKey" "firstFlexibleVersion" "S" (.int (own_first k0)) ∧ (d0 = a_ApiKey_API_VERSIONS ↔ k0 = 2) ∧ Fr n0 L ∧ h = h0
set_option maxRecDepth 65536 in
set_option maxHeartbeats 40000000 in
theorem rm1 (l : Launch) (Z : State) (a0 : Array Value) (hw : ∀ d ∈ tables_1, d.before a0 Z = true) (ws : List Jvm.Cond) (k0 : Int32) (a_ApiKey_METADATA : Addr) (a_ApiKey_SASL_HANDSHAKE : Addr) (a_ApiKey_API_VERSIONS : Addr) (a_ApiKey_CREATE_TOPICS : Addr) (a_ApiKey_DESCRIBE_ACLS : Addr) (a_ApiKey_CREATE_ACLS : Addr) (a_ApiKey_DELETE_ACLS : Addr) (a_ApiKey_DESCRIBE_CONFIGS : Addr) (a_ApiKey_SASL_AUTHENTICATE : Addr) (a_ApiKey_DESCRIBE_CLIENT_QUOTAS : Addr) (a_ApiKey_ALTER_CLIENT_QUOTAS : Addr) (h0 : Heap) (n0 : Nat) (Z0 : n0 ≤ h0.size) (S_a_ApiKey_METADATA : Sta Z h0 "com/example/ulinzi/ulinzi/protocol/ApiKey" "METADATA" "Lcom/example/ulinzi/ulinzi/protocol/ApiKey;" (.ref a_ApiKey_METADATA)) (E_a_ApiKey_METADATA : Exa Z h0 a_ApiKey_METADATA "com/example/ulinzi/ulinzi/protocol/ApiKey") (F_firstFlexibleVersion_a_ApiKey_METADATA : Fld Z h0 a_ApiKey_METADATA "com/example/ulinzi/ulinzi/protocol/ApiKey" "firstFlexibleVersion" "S" (.int 9)) (S_a_ApiKey_SASL_HANDSHAKE : Sta Z h0 "com/example/ulinzi/ulinzi/protocol/ApiKey" "SASL_HANDSHAKE" "Lcom/example/ulinzi/ulinzi/protocol/ApiKey;" (.ref a_ApiKey_SASL_HANDSHAKE)) (E_a_ApiKey_SASL_HANDSHAKE : Exa Z h0 a_ApiKey_SASL_HANDSHAKE "com/example/ulinzi/ulinzi/protocol/ApiKey") (F_firstFlexibleVersion_a_ApiKey_SASL_HANDSHAKE : Fld Z h0 a_ApiKey_SASL_HANDSHAKE "com/example/ulinzi/ulinzi/protocol/ApiKey" "firstFlexibleVersion" "S" (.int 32767)) (S_a_ApiKey_API_VERSIONS : Sta Z h0 "com/example/ulinzi/ulinzi/protocol/ApiKey" "API_VERSIONS" "Lcom/example/ulinzi/ulinzi/protocol/ApiKey;" (.ref a_ApiKey_API_VERSIONS)) (E_a_ApiKey_API_VERSIONS : Exa Z h0 a_ApiKey_API_VERSIONS "com/example/ulinzi/ulinzi/protocol/ApiKey") (F_firstFlexibleVersion_a_ApiKey_API_VERSIONS : Fld Z h0 a_ApiKey_API_VERSIONS "com/example/ulinzi/ulinzi/protocol/ApiKey" "firstFlexibleVersion" "S" (.int 3)) (S_a_ApiKey_CREATE_TOPICS : Sta Z h0 "com/example/ulinzi/ulinzi/protocol/ApiKey" "CREATE_TOPICS" "Lcom/example/ulinzi/ulinzi/protocol/ApiKey;" (.ref a_ApiKey_CREATE_TOPICS)) (E_a_ApiKey_CREATE_TOPICS : Exa Z h0 a_ApiKey_CREATE_TOPICS "com/example/ulinzi/ulinzi/protocol/ApiKey") (F_firstFlexibleVersion_a_ApiKey_CREATE_TOPICS : Fld Z h0 a_ApiKey_CREATE_TOPICS "com/example/ulinzi/ulinzi/protocol/ApiKey" "firstFlexibleVersion" "S" (.int 5)) (S_a_ApiKey_DESCRIBE_ACLS : Sta Z h0 "com/example/ulinzi/ulinzi/protocol/ApiKey" "DESCRIBE_ACLS" "Lcom/example/ulinzi/ulinzi/protocol/ApiKey;" (.ref a_ApiKey_DESCRIBE_ACLS)) (E_a_ApiKey_DESCRIBE_ACLS : Exa Z h0 a_ApiKey_DESCRIBE_ACLS "com/example/ulinzi/ulinzi/protocol/ApiKey") (F_firstFlexibleVersion_a_ApiKey_DESCRIBE_ACLS : Fld Z h0 a_ApiKey_DESCRIBE_ACLS "com/example/ulinzi/ulinzi/protocol/ApiKey" "firstFlexibleVersion" "S" (.int 2)) (S_a_ApiKey_CREATE_ACLS : Sta Z h0 "com/example/ulinzi/ulinzi/protocol/ApiKey" "CREATE_ACLS" "Lcom/example/ulinzi/ulinzi/protocol/ApiKey;" (.ref a_ApiKey_CREATE_ACLS)) (E_a_ApiKey_CREATE_ACLS : Exa Z h0 a_ApiKey_CREATE_ACLS "com/example/ulinzi/ulinzi/protocol/ApiKey") (F_firstFlexibleVersion_a_ApiKey_CREATE_ACLS : Fld Z h0 a_ApiKey_CREATE_ACLS "com/example/ulinzi/ulinzi/protocol/ApiKey" "firstFlexibleVersion" "S" (.int 2)) (S_a_ApiKey_DELETE_ACLS : Sta Z h0 "com/example/ulinzi/ulinzi/protocol/ApiKey" "DELETE_ACLS" "Lcom/example/ulinzi/ulinzi/protocol/ApiKey;" (.ref a_ApiKey_DELETE_ACLS)) (E_a_ApiKey_DELETE_ACLS : Exa Z h0 a_ApiKey_DELETE_ACLS "com/example/ulinzi/ulinzi/protocol/ApiKey") (F_firstFlexibleVersion_a_ApiKey_DELETE_ACLS : Fld Z h0 a_ApiKey_DELETE_ACLS "com/example/ulinzi/ulinzi/protocol/ApiKey" "firstFlexibleVersion" "S" (.int 2)) (S_a_ApiKey_DESCRIBE_CONFIGS : Sta Z h0 "com/example/ulinzi/ulinzi/protocol/ApiKey" "DESCRIBE_CONFIGS" "Lcom/example/ulinzi/ulinzi/protocol/ApiKey;" (.ref a_ApiKey_DESCRIBE_CONFIGS)) (E_a_ApiKey_DESCRIBE_CONFIGS : Exa Z h0 a_ApiKey_DESCRIBE_CONFIGS "com/example/ulinzi/ulinzi/protocol/ApiKey") (F_firstFlexibleVersion_a_ApiKey_DESCRIBE_CONFIGS : Fld Z h0 a_ApiKey_DESCRIBE_CONFIGS "com/example/ulinzi/ulinzi/protocol/ApiKey" "firstFlexibleVersion" "S" (.int 4)) (S_a_ApiKey_SASL_AUTHENTICATE : Sta Z h0 "com/example/ulinzi/ulinzi/protocol/ApiKey" "SASL_AUTHENTICATE" "Lcom/example/ulinzi/ulinzi/protocol/ApiKey;" (.ref a_ApiKey_SASL_AUTHENTICATE)) (E_a_ApiKey_SASL_AUTHENTICATE : Exa Z h0 a_ApiKey_SASL_AUTHENTICATE "com/example/ulinzi/ulinzi/protocol/ApiKey") (F_firstFlexibleVersion_a_ApiKey_SASL_AUTHENTICATE : Fld Z h0 a_ApiKey_SASL_AUTHENTICATE "com/example/ulinzi/ulinzi/protocol/ApiKey" "firstFlexibleVersion" "S" (.int 2)) (S_a_ApiKey_DESCRIBE_CLIENT_QUOTAS : Sta Z h0 "com/example/ulinzi/ulinzi/protocol/ApiKey" "DESCRIBE_CLIENT_QUOTAS" "Lcom/example/ulinzi/ulinzi/protocol/ApiKey;" (.ref a_ApiKey_DESCRIBE_CLIENT_QUOTAS)) (E_a_ApiKey_DESCRIBE_CLIENT_QUOTAS : Exa Z h0 a_ApiKey_DESCRIBE_CLIENT_QUOTAS "com/example/ulinzi/ulinzi/protocol/ApiKey") (F_firstFlexibleVersion_a_ApiKey_DESCRIBE_CLIENT_QUOTAS : Fld Z h0 a_ApiKey_DESCRIBE_CLIENT_QUOTAS "com/example/ulinzi/ulinzi/protocol/ApiKey" "firstFlexibleVersion" "S" (.int 1)) (S_a_ApiKey_ALTER_CLIENT_QUOTAS : Sta Z h0 "com/example/ulinzi/ulinzi/protocol/ApiKey" "ALTER_CLIENT_QUOTAS" "Lcom/example/ulinzi/ulinzi/protocol/ApiKey;" (.ref a_ApiKey_ALTER_CLIENT_QUOTAS)) (E_a_ApiKey_ALTER_CLIENT_QUOTAS : Exa Z h0 a_ApiKey_ALTER_CLIENT_QUOTAS "com/example/ulinzi/ulinzi/protocol/ApiKey") (F_firstFlexibleVersion_a_ApiKey_ALTER_CLIENT_QUOTAS : Fld Z h0 a_ApiKey_ALTER_CLIENT_QUOTAS "com/example/ulinzi/ulinzi/protocol/ApiKey" "firstFlexibleVersion" "S" (.int 1)) :
    MetFree l (⟨"com/example/ulinzi/ulinzi/protocol/ApiKeyUsesResponseHeaderTagsPinLaw", "pick", "(I)Lcom/example/ulinzi/ulinzi/protocol/ApiKey;"⟩ : MethodName) (head1 (Jvm.Cond.code (⟨"com/example/ulinzi/ulinzi/protocol/ApiKeyUsesResponseHeaderTagsPinLaw", "pick", "(I)Lcom/example/ulinzi/ulinzi/protocol/ApiKey;"⟩ : MethodName) method_2_code 1 (some (.object "com/example/ulinzi/ulinzi/protocol/ApiKey")) :: ws) ({ frames := 0, cells := 0, slots := 0, locals := 0 } : Room)) (fun a U => a = #[(.int k0)] ∧ Z.Warmed39 U.vm ∧ U.heap = h0) (fun _ _ _ _ _ => True) (fun _ U o U' => ∃ v L, o = .returned v ∧ Q1 Z k0 a_ApiKey_METADATA a_ApiKey_SASL_HANDSHAKE a_ApiKey_API_VERSIONS a_ApiKey_CREATE_TOPICS a_ApiKey_DESCRIBE_ACLS a_ApiKey_CREATE_ACLS a_ApiKey_DELETE_ACLS a_ApiKey_DESCRIBE_CONFIGS a_ApiKey_SASL_AUTHENTICATE a_ApiKey_DESCRIBE_CLIENT_QUOTAS a_ApiKey_ALTER_CLIENT_QUOTAS h0 n0 v U'.heap L ∧ FrameEnd U o U' L ({ frames := 0, cells := 0, slots := 0, locals := 0 } : Room).cells ({ frames := 0, cells := 0, slots := 0, locals := 0 } : Room).slots) := by
  refine MetFree.of_bodySF (plainFor_of_name pn_com_example_ulinzi_ulinzi_protocol_ApiKeyUsesResponseHeaderTagsPinLaw) hisR ?_
  intro p e s m args below meth c s₁ Bd hml0 hP hK
  obtain ⟨rfl, hZ, hh⟩ := hP
  have hx := Bd.exec
  have hby := Bd.bytes
  have hlk : meth.locks = false := Bd.notSynchronized
  have hml : c.maxLocals = 1 := hml0
  have hown : s.vm.findClass "com/example/ulinzi/ulinzi/protocol/ApiKeyUsesResponseHeaderTagsPinLaw" = some m.cls := findClass_of_methodNamed Bd.named
  have hnm := (name_of_methodNamed Bd.named Bd.method).1
  have X0 : Stand p l e ({ frames := 0, cells := 0, slots := 0, locals := 0 } : Room) s m #[(.int k0)] below meth c s₁ [] 0 0 := Stand.of_body Bd
  have e0 : s₁.heap = h0 := by rw [← hh, Bd.state]; rfl
  have N0 := Fr.nil n0
  have K0 : Keep h0 h0 [] := Keep.refl h0 _
  show Wp p e below (Out s (Q1 Z k0 a_ApiKey_METADATA a_ApiKey_SASL_HANDSHAKE a_ApiKey_API_VERSIONS a_ApiKey_CREATE_TOPICS a_ApiKey_DESCRIBE_ACLS a_ApiKey_CREATE_ACLS a_ApiKey_DELETE_ACLS a_ApiKey_DESCRIBE_CONFIGS a_ApiKey_SASL_AUTHENTICATE a_ApiKey_DESCRIBE_CLIENT_QUOTAS a_ApiKey_ALTER_CLIENT_QUOTAS h0 n0) ({ frames := 0, cells := 0, slots := 0, locals := 0 } : Room).cells ({ frames := 0, cells := 0, slots := 0, locals := 0 } : Room).slots) (s₁.setTop (entryFrame m #[(.int k0)] 1))
  rw [ef_1_0]
  show Wp p e below _ (s₁.setTop (mkF m 0 #[.val (.int k0)] []))
  refine Wp.step (fun t k => XS.iloadN X0.here hx rfl (hb hby d1_0) rfl k) ?_
  show Wp p e below _ (s₁.setTop (mkF m 1 #[.val (.int k0)] [(.int k0)]))
  by_cases hc1 : k0 = (0 : Int32)
  · refine Wp.step (fun t k => XS.ifNo X0.here hx rfl (hb hby d1_1) rfl ((if0 _ _).trans (teq hc1).2) k) ?_
    show Wp p e below _ (s₁.setTop (mkF m 4 #[.val (.int k0)] []))
    obtain ⟨T2, X2, e2, st2⟩ := getS2 X0 hx hZ hown (host := "") (Or.inl (hw _ (List.mem_of_getElem? (i := 5) rfl))) Via.refl e0 S_a_ApiKey_METADATA (g := (mkF m 4 #[.val (.int k0)] [])) rfl (hb hby d1_4)
    refine Wp.step st2 ?_
    show Wp p e below _ (T2.setTop (mkF m 7 #[.val (.int k0)] [(.ref a_ApiKey_METADATA)]))
    refine Wp.retA X2 hx Bd.returns rfl (hb hby d1_7) hlk ?_ (by decide) (by decide)
    show Q1 Z k0 a_ApiKey_METADATA a_ApiKey_SASL_HANDSHAKE a_ApiKey_API_VERSIONS a_ApiKey_CREATE_TOPICS a_ApiKey_DESCRIBE_ACLS a_ApiKey_CREATE_ACLS a_ApiKey_DELETE_ACLS a_ApiKey_DESCRIBE_CONFIGS a_ApiKey_SASL_AUTHENTICATE a_ApiKey_DESCRIBE_CLIENT_QUOTAS a_ApiKey_ALTER_CLIENT_QUOTAS h0 n0 (some (.ref a_ApiKey_METADATA)) T2.heap _
    rw [e2]
    exact ⟨a_ApiKey_METADATA, rfl, E_a_ApiKey_METADATA, by rw [own_first, if_pos hc1]; exact F_firstFlexibleVersion_a_ApiKey_METADATA, ⟨fun q => absurd q (Fld.ne F_firstFlexibleVersion_a_ApiKey_METADATA F_firstFlexibleVersion_a_ApiKey_API_VERSIONS (fun h => absurd (Value.int.inj h) (by decide))), fun q => absurd q (by rw [hc1]; decide)⟩, N0, rfl⟩
  · refine Wp.step (fun t k => XS.ifYes X0.here hx rfl (pc0 := 1) (pc' := 8) rfl (hb hby d1_1) rfl ((if0 _ _).trans (feq hc1).2) (by decide) (by decide) k) ?_
    show Wp p e below _ (s₁.setTop (mkF m 8 #[.val (.int k0)] []))
    refine Wp.step (fun t k => XS.iloadN X0.here hx rfl (hb hby d1_8) rfl k) ?_
    show Wp p e below _ (s₁.setTop (mkF m 9 #[.val (.int k0)] [(.int k0)]))
    refine Wp.step (fun t k => XS.iconst X0.here hx rfl (hb hby d1_9) k) ?_
    show Wp p e below _ (s₁.setTop (mkF m 10 #[.val (.int k0)] [(.int (1 : Int32)), (.int k0)]))
    by_cases hc3 : k0 = (1 : Int32)
    · refine Wp.step (fun t k => XS.icmpNo X0.here hx rfl (hb hby d1_10) rfl (teq hc3).2 k) ?_
      show Wp p e below _ (s₁.setTop (mkF m 13 #[.val (.int k0)] []))
      obtain ⟨T4, X4, e4, st4⟩ := getS2 X0 hx hZ hown (host := "") (Or.inl (hw _ (List.mem_of_getElem? (i := 35) rfl))) Via.refl e0 S_a_ApiKey_SASL_HANDSHAKE (g := (mkF m 13 #[.val (.int k0)] [])) rfl (hb hby d1_13)
      refine Wp.step st4 ?_
      show Wp p e below _ (T4.setTop (mkF m 16 #[.val (.int k0)] [(.ref a_ApiKey_SASL_HANDSHAKE)]))
      refine Wp.retA X4 hx Bd.returns rfl (hb hby d1_16) hlk ?_ (by decide) (by decide)
      show Q1 Z k0 a_ApiKey_METADATA a_ApiKey_SASL_HANDSHAKE a_ApiKey_API_VERSIONS a_ApiKey_CREATE_TOPICS a_ApiKey_DESCRIBE_ACLS a_ApiKey_CREATE_ACLS a_ApiKey_DELETE_ACLS a_ApiKey_DESCRIBE_CONFIGS a_ApiKey_SASL_AUTHENTICATE a_ApiKey_DESCRIBE_CLIENT_QUOTAS a_ApiKey_ALTER_CLIENT_QUOTAS h0 n0 (some (.ref a_ApiKey_SASL_HANDSHAKE)) T4.heap _
      rw [e4]
      exact ⟨a_ApiKey_SASL_HANDSHAKE, rfl, E_a_ApiKey_SASL_HANDSHAKE, by rw [own_first, if_neg hc1, if_pos hc3]; exact F_firstFlexibleVersion_a_ApiKey_SASL_HANDSHAKE, ⟨fun q => absurd q (Fld.ne F_firstFlexibleVersion_a_ApiKey_SASL_HANDSHAKE F_firstFlexibleVersion_a_ApiKey_API_VERSIONS (fun h => absurd (Value.int.inj h) (by decide))), fun q => absurd q (by rw [hc3]; decide)⟩, N0, rfl⟩
    · refine Wp.step (fun t k => XS.icmpYes X0.here hx rfl (pc0 := 10) (pc' := 17) rfl (hb hby d1_10) rfl (feq hc3).2 (by decide) (by decide) k) ?_
      show Wp p e below _ (s₁.setTop (mkF m 17 #[.val (.int k0)] []))
      refine Wp.step (fun t k => XS.iloadN X0.here hx rfl (hb hby d1_17) rfl k) ?_
      show Wp p e below _ (s₁.setTop (mkF m 18 #[.val (.int k0)] [(.int k0)]))
      refine Wp.step (fun t k => XS.iconst X0.here hx rfl (hb hby d1_18) k) ?_
      show Wp p e below _ (s₁.setTop (mkF m 19 #[.val (.int k0)] [(.int (2 : Int32)), (.int k0)]))
      by_cases hc5 : k0 = (2 : Int32)
      · refine Wp.step (fun t k => XS.icmpNo X0.here hx rfl (hb hby d1_19) rfl (teq hc5).2 k) ?_
        show Wp p e below _ (s₁.setTop (mkF m 22 #[.val (.int k0)] []))
        obtain ⟨T6, X6, e6, st6⟩ := getS2 X0 hx hZ hown (host := "") (Or.inl (hw _ (List.mem_of_getElem? (i := 37) rfl))) Via.refl e0 S_a_ApiKey_API_VERSIONS (g := (mkF m 22 #[.val (.int k0)] [])) rfl (hb hby d1_22)
        refine Wp.step st6 ?_
        show Wp p e below _ (T6.setTop (mkF m 25 #[.val (.int k0)] [(.ref a_ApiKey_API_VERSIONS)]))
        refine Wp.retA X6 hx Bd.returns rfl (hb hby d1_25) hlk ?_ (by decide) (by decide)
        show Q1 Z k0 a_ApiKey_METADATA a_ApiKey_SASL_HANDSHAKE a_ApiKey_API_VERSIONS a_ApiKey_CREATE_TOPICS a_ApiKey_DESCRIBE_ACLS a_ApiKey_CREATE_ACLS a_ApiKey_DELETE_ACLS a_ApiKey_DESCRIBE_CONFIGS a_ApiKey_SASL_AUTHENTICATE a_ApiKey_DESCRIBE_CLIENT_QUOTAS a_ApiKey_ALTER_CLIENT_QUOTAS h0 n0 (some (.ref a_ApiKey_API_VERSIONS)) T6.heap _
        rw [e6]
        exact ⟨a_ApiKey_API_VERSIONS, rfl, E_a_ApiKey_API_VERSIONS, by rw [own_first, if_neg hc1, if_neg hc3, if_pos hc5]; exact F_firstFlexibleVersion_a_ApiKey_API_VERSIONS, ⟨fun _ => hc5, fun _ => rfl⟩, N0, rfl⟩
      · refine Wp.step (fun t k => XS.icmpYes X0.here hx rfl (pc0 := 19) (pc' := 26) rfl (hb hby d1_19) rfl (feq hc5).2 (by decide) (by decide) k) ?_
        show Wp p e below _ (s₁.setTop (mkF m 26 #[.val (.int k0)] []))
        refine Wp.step (fun t k => XS.iloadN X0.here hx rfl (hb hby d1_26) rfl k) ?_
        show Wp p e below _ (s₁.setTop (mkF m 27 #[.val (.int k0)] [(.int k0)]))
        refine Wp.step (fun t k => XS.iconst X0.here hx rfl (hb hby d1_27) k) ?_
        show Wp p e below _ (s₁.setTop (mkF m 28 #[.val (.int k0)] [(.int (3 : Int32)), (.int k0)]))
        by_cases hc7 : k0 = (3 : Int32)
        · refine Wp.step (fun t k => XS.icmpNo X0.here hx rfl (hb hby d1_28) rfl (teq hc7).2 k) ?_
          show Wp p e below _ (s₁.setTop (mkF m 31 #[.val (.int k0)] []))
          obtain ⟨T8, X8, e8, st8⟩ := getS2 X0 hx hZ hown (host := "") (Or.inl (hw _ (List.mem_of_getElem? (i := 25) rfl))) Via.refl e0 S_a_ApiKey_CREATE_TOPICS (g := (mkF m 31 #[.val (.int k0)] [])) rfl (hb hby d1_31)
          refine Wp.step st8 ?_
          show Wp p e below _ (T8.setTop (mkF m 34 #[.val (.int k0)] [(.ref a_ApiKey_CREATE_TOPICS)]))
          refine Wp.retA X8 hx Bd.returns rfl (hb hby d1_34) hlk ?_ (by decide) (by decide)
          show Q1 Z k0 a_ApiKey_METADATA a_ApiKey_SASL_HANDSHAKE a_ApiKey_API_VERSIONS a_ApiKey_CREATE_TOPICS a_ApiKey_DESCRIBE_ACLS a_ApiKey_CREATE_ACLS a_ApiKey_DELETE_ACLS a_ApiKey_DESCRIBE_CONFIGS a_ApiKey_SASL_AUTHENTICATE a_ApiKey_DESCRIBE_CLIENT_QUOTAS a_ApiKey_ALTER_CLIENT_QUOTAS h0 n0 (some (.ref a_ApiKey_CREATE_TOPICS)) T8.heap _
          rw [e8]
          exact ⟨a_ApiKey_CREATE_TOPICS, rfl, E_a_ApiKey_CREATE_TOPICS, by rw [own_first, if_neg hc1, if_neg hc3, if_neg hc5, if_pos hc7]; exact F_firstFlexibleVersion_a_ApiKey_CREATE_TOPICS, ⟨fun q => absurd q (Fld.ne F_firstFlexibleVersion_a_ApiKey_CREATE_TOPICS F_firstFlexibleVersion_a_ApiKey_API_VERSIONS (fun h => absurd (Value.int.inj h) (by decide))), fun q => absurd q hc5⟩, N0, rfl⟩
        · refine Wp.step (fun t k => XS.icmpYes X0.here hx rfl (pc0 := 28) (pc' := 35) rfl (hb hby d1_28) rfl (feq hc7).2 (by decide) (by decide) k) ?_
          show Wp p e below _ (s₁.setTop (mkF m 35 #[.val (.int k0)] []))
          refine Wp.step (fun t k => XS.iloadN X0.here hx rfl (hb hby d1_35) rfl k) ?_
          show Wp p e below _ (s₁.setTop (mkF m 36 #[.val (.int k0)] [(.int k0)]))
          refine Wp.step (fun t k => XS.iconst X0.here hx rfl (hb hby d1_36) k) ?_
          show Wp p e below _ (s₁.setTop (mkF m 37 #[.val (.int k0)] [(.int (4 : Int32)), (.int k0)]))
          by_cases hc9 : k0 = (4 : Int32)
          · refine Wp.step (fun t k => XS.icmpNo X0.here hx rfl (hb hby d1_37) rfl (teq hc9).2 k) ?_
            show Wp p e below _ (s₁.setTop (mkF m 40 #[.val (.int k0)] []))
            obtain ⟨T10, X10, e10, st10⟩ := getS2 X0 hx hZ hown (host := "") (Or.inl (hw _ (List.mem_of_getElem? (i := 42) rfl))) Via.refl e0 S_a_ApiKey_DESCRIBE_ACLS (g := (mkF m 40 #[.val (.int k0)] [])) rfl (hb hby d1_40)
            refine Wp.step st10 ?_
            show Wp p e below _ (T10.setTop (mkF m 43 #[.val (.int k0)] [(.ref a_ApiKey_DESCRIBE_ACLS)]))
            refine Wp.retA X10 hx Bd.returns rfl (hb hby d1_43) hlk ?_ (by decide) (by decide)
            show Q1 Z k0 a_ApiKey_METADATA a_ApiKey_SASL_HANDSHAKE a_ApiKey_API_VERSIONS a_ApiKey_CREATE_TOPICS a_ApiKey_DESCRIBE_ACLS a_ApiKey_CREATE_ACLS a_ApiKey_DELETE_ACLS a_ApiKey_DESCRIBE_CONFIGS a_ApiKey_SASL_AUTHENTICATE a_ApiKey_DESCRIBE_CLIENT_QUOTAS a_ApiKey_ALTER_CLIENT_QUOTAS h0 n0 (some (.ref a_ApiKey_DESCRIBE_ACLS)) T10.heap _
            rw [e10]
            exact ⟨a_ApiKey_DESCRIBE_ACLS, rfl, E_a_ApiKey_DESCRIBE_ACLS, by rw [own_first, if_neg hc1, if_neg hc3, if_neg hc5, if_neg hc7, if_pos hc9]; exact F_firstFlexibleVersion_a_ApiKey_DESCRIBE_ACLS, ⟨fun q => absurd q (Fld.ne F_firstFlexibleVersion_a_ApiKey_DESCRIBE_ACLS F_firstFlexibleVersion_a_ApiKey_API_VERSIONS (fun h => absurd (Value.int.inj h) (by decide))), fun q => absurd q hc5⟩, N0, rfl⟩
          · refine Wp.step (fun t k => XS.icmpYes X0.here hx rfl (pc0 := 37) (pc' := 44) rfl (hb hby d1_37) rfl (feq hc9).2 (by decide) (by decide) k) ?_
            show Wp p e below _ (s₁.setTop (mkF m 44 #[.val (.int k0)] []))
            refine Wp.step (fun t k => XS.iloadN X0.here hx rfl (hb hby d1_44) rfl k) ?_
            show Wp p e below _ (s₁.setTop (mkF m 45 #[.val (.int k0)] [(.int k0)]))
            refine Wp.step (fun t k => XS.iconst X0.here hx rfl (hb hby d1_45) k) ?_
            show Wp p e below _ (s₁.setTop (mkF m 46 #[.val (.int k0)] [(.int (5 : Int32)), (.int k0)]))
            by_cases hc11 : k0 = (5 : Int32)
            · refine Wp.step (fun t k => XS.icmpNo X0.here hx rfl (hb hby d1_46) rfl (teq hc11).2 k) ?_
              show Wp p e below _ (s₁.setTop (mkF m 49 #[.val (.int k0)] []))
              obtain ⟨T12, X12, e12, st12⟩ := getS2 X0 hx hZ hown (host := "") (Or.inl (hw _ (List.mem_of_getElem? (i := 29) rfl))) Via.refl e0 S_a_ApiKey_CREATE_ACLS (g := (mkF m 49 #[.val (.int k0)] [])) rfl (hb hby d1_49)
              refine Wp.step st12 ?_
              show Wp p e below _ (T12.setTop (mkF m 52 #[.val (.int k0)] [(.ref a_ApiKey_CREATE_ACLS)]))
              refine Wp.retA X12 hx Bd.returns rfl (hb hby d1_52) hlk ?_ (by decide) (by decide)
              show Q1 Z k0 a_ApiKey_METADATA a_ApiKey_SASL_HANDSHAKE a_ApiKey_API_VERSIONS a_ApiKey_CREATE_TOPICS a_ApiKey_DESCRIBE_ACLS a_ApiKey_CREATE_ACLS a_ApiKey_DELETE_ACLS a_ApiKey_DESCRIBE_CONFIGS a_ApiKey_SASL_AUTHENTICATE a_ApiKey_DESCRIBE_CLIENT_QUOTAS a_ApiKey_ALTER_CLIENT_QUOTAS h0 n0 (some (.ref a_ApiKey_CREATE_ACLS)) T12.heap _
              rw [e12]
              exact ⟨a_ApiKey_CREATE_ACLS, rfl, E_a_ApiKey_CREATE_ACLS, by rw [own_first, if_neg hc1, if_neg hc3, if_neg hc5, if_neg hc7, if_neg hc9, if_pos hc11]; exact F_firstFlexibleVersion_a_ApiKey_CREATE_ACLS, ⟨fun q => absurd q (Fld.ne F_firstFlexibleVersion_a_ApiKey_CREATE_ACLS F_firstFlexibleVersion_a_ApiKey_API_VERSIONS (fun h => absurd (Value.int.inj h) (by decide))), fun q => absurd q hc5⟩, N0, rfl⟩
            · refine Wp.step (fun t k => XS.icmpYes X0.here hx rfl (pc0 := 46) (pc' := 53) rfl (hb hby d1_46) rfl (feq hc11).2 (by decide) (by decide) k) ?_
              show Wp p e below _ (s₁.setTop (mkF m 53 #[.val (.int k0)] []))
              refine Wp.step (fun t k => XS.iloadN X0.here hx rfl (hb hby d1_53) rfl k) ?_
              show Wp p e below _ (s₁.setTop (mkF m 54 #[.val (.int k0)] [(.int k0)]))
              refine Wp.step (fun t k => XS.bipush X0.here hx rfl (hb hby d1_54) k) ?_
              show Wp p e below _ (s₁.setTop (mkF m 56 #[.val (.int k0)] [(.int (6 : Int32)), (.int k0)]))
              by_cases hc13 : k0 = (6 : Int32)
              · refine Wp.step (fun t k => XS.icmpNo X0.here hx rfl (hb hby d1_56) rfl (teq hc13).2 k) ?_
                show Wp p e below _ (s₁.setTop (mkF m 59 #[.val (.int k0)] []))
                obtain ⟨T14, X14, e14, st14⟩ := getS2 X0 hx hZ hown (host := "") (Or.inl (hw _ (List.mem_of_getElem? (i := 31) rfl))) Via.refl e0 S_a_ApiKey_DELETE_ACLS (g := (mkF m 59 #[.val (.int k0)] [])) rfl (hb hby d1_59)
                refine Wp.step st14 ?_
                show Wp p e below _ (T14.setTop (mkF m 62 #[.val (.int k0)] [(.ref a_ApiKey_DELETE_ACLS)]))
                refine Wp.retA X14 hx Bd.returns rfl (hb hby d1_62) hlk ?_ (by decide) (by decide)
                show Q1 Z k0 a_ApiKey_METADATA a_ApiKey_SASL_HANDSHAKE a_ApiKey_API_VERSIONS a_ApiKey_CREATE_TOPICS a_ApiKey_DESCRIBE_ACLS a_ApiKey_CREATE_ACLS a_ApiKey_DELETE_ACLS a_ApiKey_DESCRIBE_CONFIGS a_ApiKey_SASL_AUTHENTICATE a_ApiKey_DESCRIBE_CLIENT_QUOTAS a_ApiKey_ALTER_CLIENT_QUOTAS h0 n0 (some (.ref a_ApiKey_DELETE_ACLS)) T14.heap _
                rw [e14]
                exact ⟨a_ApiKey_DELETE_ACLS, rfl, E_a_ApiKey_DELETE_ACLS, by rw [own_first, if_neg hc1, if_neg hc3, if_neg hc5, if_neg hc7, if_neg hc9, if_neg hc11, if_pos hc13]; exact F_firstFlexibleVersion_a_ApiKey_DELETE_ACLS, ⟨fun q => absurd q (Fld.ne F_firstFlexibleVersion_a_ApiKey_DELETE_ACLS F_firstFlexibleVersion_a_ApiKey_API_VERSIONS (fun h => absurd (Value.int.inj h) (by decide))), fun q => absurd q hc5⟩, N0, rfl⟩
              · refine Wp.step (fun t k => XS.icmpYes X0.here hx rfl (pc0 := 56) (pc' := 63) rfl (hb hby d1_56) rfl (feq hc13).2 (by decide) (by decide) k) ?_
                show Wp p e below _ (s₁.setTop (mkF m 63 #[.val (.int k0)] []))
                refine Wp.step (fun t k => XS.iloadN X0.here hx rfl (hb hby d1_63) rfl k) ?_
                show Wp p e below _ (s₁.setTop (mkF m 64 #[.val (.int k0)] [(.int k0)]))
                refine Wp.step (fun t k => XS.bipush X0.here hx rfl (hb hby d1_64) k) ?_
                show Wp p e below _ (s₁.setTop (mkF m 66 #[.val (.int k0)] [(.int (7 : Int32)), (.int k0)]))
                by_cases hc15 : k0 = (7 : Int32)
                · refine Wp.step (fun t k => XS.icmpNo X0.here hx rfl (hb hby d1_66) rfl (teq hc15).2 k) ?_
                  show Wp p e below _ (s₁.setTop (mkF m 69 #[.val (.int k0)] []))
                  obtain ⟨T16, X16, e16, st16⟩ := getS2 X0 hx hZ hown (host := "") (Or.inl (hw _ (List.mem_of_getElem? (i := 40) rfl))) Via.refl e0 S_a_ApiKey_DESCRIBE_CONFIGS (g := (mkF m 69 #[.val (.int k0)] [])) rfl (hb hby d1_69)
                  refine Wp.step st16 ?_
                  show Wp p e below _ (T16.setTop (mkF m 72 #[.val (.int k0)] [(.ref a_ApiKey_DESCRIBE_CONFIGS)]))
                  refine Wp.retA X16 hx Bd.returns rfl (hb hby d1_72) hlk ?_ (by decide) (by decide)
                  show Q1 Z k0 a_ApiKey_METADATA a_ApiKey_SASL_HANDSHAKE a_ApiKey_API_VERSIONS a_ApiKey_CREATE_TOPICS a_ApiKey_DESCRIBE_ACLS a_ApiKey_CREATE_ACLS a_ApiKey_DELETE_ACLS a_ApiKey_DESCRIBE_CONFIGS a_ApiKey_SASL_AUTHENTICATE a_ApiKey_DESCRIBE_CLIENT_QUOTAS a_ApiKey_ALTER_CLIENT_QUOTAS h0 n0 (some (.ref a_ApiKey_DESCRIBE_CONFIGS)) T16.heap _
                  rw [e16]
                  exact ⟨a_ApiKey_DESCRIBE_CONFIGS, rfl, E_a_ApiKey_DESCRIBE_CONFIGS, by rw [own_first, if_neg hc1, if_neg hc3, if_neg hc5, if_neg hc7, if_neg hc9, if_neg hc11, if_neg hc13, if_pos hc15]; exact F_firstFlexibleVersion_a_ApiKey_DESCRIBE_CONFIGS, ⟨fun q => absurd q (Fld.ne F_firstFlexibleVersion_a_ApiKey_DESCRIBE_CONFIGS F_firstFlexibleVersion_a_ApiKey_API_VERSIONS (fun h => absurd (Value.int.inj h) (by decide))), fun q => absurd q hc5⟩, N0, rfl⟩
                · refine Wp.step (fun t k => XS.icmpYes X0.here hx rfl (pc0 := 66) (pc' := 73) rfl (hb hby d1_66) rfl (feq hc15).2 (by decide) (by decide) k) ?_
                  show Wp p e below _ (s₁.setTop (mkF m 73 #[.val (.int k0)] []))
                  refine Wp.step (fun t k => XS.iloadN X0.here hx rfl (hb hby d1_73) rfl k) ?_
                  show Wp p e below _ (s₁.setTop (mkF m 74 #[.val (.int k0)] [(.int k0)]))
                  refine Wp.step (fun t k => XS.bipush X0.here hx rfl (hb hby d1_74) k) ?_
                  show Wp p e below _ (s₁.setTop (mkF m 76 #[.val (.int k0)] [(.int (8 : Int32)), (.int k0)]))
                  by_cases hc17 : k0 = (8 : Int32)
                  · refine Wp.step (fun t k => XS.icmpNo X0.here hx rfl (hb hby d1_76) rfl (teq hc17).2 k) ?_
                    show Wp p e below _ (s₁.setTop (mkF m 79 #[.val (.int k0)] []))
                    obtain ⟨T18, X18, e18, st18⟩ := getS2 X0 hx hZ hown (host := "") (Or.inl (hw _ (List.mem_of_getElem? (i := 33) rfl))) Via.refl e0 S_a_ApiKey_SASL_AUTHENTICATE (g := (mkF m 79 #[.val (.int k0)] [])) rfl (hb hby d1_79)
                    refine Wp.step st18 ?_
                    show Wp p e below _ (T18.setTop (mkF m 82 #[.val (.int k0)] [(.ref a_ApiKey_SASL_AUTHENTICATE)]))
                    refine Wp.retA X18 hx Bd.returns rfl (hb hby d1_82) hlk ?_ (by decide) (by decide)
                    show Q1 Z k0 a_ApiKey_METADATA a_ApiKey_SASL_HANDSHAKE a_ApiKey_API_VERSIONS a_ApiKey_CREATE_TOPICS a_ApiKey_DESCRIBE_ACLS a_ApiKey_CREATE_ACLS a_ApiKey_DELETE_ACLS a_ApiKey_DESCRIBE_CONFIGS a_ApiKey_SASL_AUTHENTICATE a_ApiKey_DESCRIBE_CLIENT_QUOTAS a_ApiKey_ALTER_CLIENT_QUOTAS h0 n0 (some (.ref a_ApiKey_SASL_AUTHENTICATE)) T18.heap _
                    rw [e18]
                    exact ⟨a_ApiKey_SASL_AUTHENTICATE, rfl, E_a_ApiKey_SASL_AUTHENTICATE, by rw [own_first, if_neg hc1, if_neg hc3, if_neg hc5, if_neg hc7, if_neg hc9, if_neg hc11, if_neg hc13, if_neg hc15, if_pos hc17]; exact F_firstFlexibleVersion_a_ApiKey_SASL_AUTHENTICATE, ⟨fun q => absurd q (Fld.ne F_firstFlexibleVersion_a_ApiKey_SASL_AUTHENTICATE F_firstFlexibleVersion_a_ApiKey_API_VERSIONS (fun h => absurd (Value.int.inj h) (by decide))), fun q => absurd q hc5⟩, N0, rfl⟩
                  · refine Wp.step (fun t k => XS.icmpYes X0.here hx rfl (pc0 := 76) (pc' := 83) rfl (hb hby d1_76) rfl (feq hc17).2 (by decide) (by decide) k) ?_
                    show Wp p e below _ (s₁.setTop (mkF m 83 #[.val (.int k0)] []))
                    refine Wp.step (fun t k => XS.iloadN X0.here hx rfl (hb hby d1_83) rfl k) ?_
                    show Wp p e below _ (s₁.setTop (mkF m 84 #[.val (.int k0)] [(.int k0)]))
                    refine Wp.step (fun t k => XS.bipush X0.here hx rfl (hb hby d1_84) k) ?_
                    show Wp p e below _ (s₁.setTop (mkF m 86 #[.val (.int k0)] [(.int (9 : Int32)), (.int k0)]))
                    by_cases hc19 : k0 = (9 : Int32)
                    · refine Wp.step (fun t k => XS.icmpNo X0.here hx rfl (hb hby d1_86) rfl (teq hc19).2 k) ?_
                      show Wp p e below _ (s₁.setTop (mkF m 89 #[.val (.int k0)] []))
                      obtain ⟨T20, X20, e20, st20⟩ := getS2 X0 hx hZ hown (host := "") (Or.inl (hw _ (List.mem_of_getElem? (i := 27) rfl))) Via.refl e0 S_a_ApiKey_DESCRIBE_CLIENT_QUOTAS (g := (mkF m 89 #[.val (.int k0)] [])) rfl (hb hby d1_89)
                      refine Wp.step st20 ?_
                      show Wp p e below _ (T20.setTop (mkF m 92 #[.val (.int k0)] [(.ref a_ApiKey_DESCRIBE_CLIENT_QUOTAS)]))
                      refine Wp.retA X20 hx Bd.returns rfl (hb hby d1_92) hlk ?_ (by decide) (by decide)
                      show Q1 Z k0 a_ApiKey_METADATA a_ApiKey_SASL_HANDSHAKE a_ApiKey_API_VERSIONS a_ApiKey_CREATE_TOPICS a_ApiKey_DESCRIBE_ACLS a_ApiKey_CREATE_ACLS a_ApiKey_DELETE_ACLS a_ApiKey_DESCRIBE_CONFIGS a_ApiKey_SASL_AUTHENTICATE a_ApiKey_DESCRIBE_CLIENT_QUOTAS a_ApiKey_ALTER_CLIENT_QUOTAS h0 n0 (some (.ref a_ApiKey_DESCRIBE_CLIENT_QUOTAS)) T20.heap _
                      rw [e20]
                      exact ⟨a_ApiKey_DESCRIBE_CLIENT_QUOTAS, rfl, E_a_ApiKey_DESCRIBE_CLIENT_QUOTAS, by rw [own_first, if_neg hc1, if_neg hc3, if_neg hc5, if_neg hc7, if_neg hc9, if_neg hc11, if_neg hc13, if_neg hc15, if_neg hc17, if_pos hc19]; exact F_firstFlexibleVersion_a_ApiKey_DESCRIBE_CLIENT_QUOTAS, ⟨fun q => absurd q (Fld.ne F_firstFlexibleVersion_a_ApiKey_DESCRIBE_CLIENT_QUOTAS F_firstFlexibleVersion_a_ApiKey_API_VERSIONS (fun h => absurd (Value.int.inj h) (by decide))), fun q => absurd q hc5⟩, N0, rfl⟩
                    · refine Wp.step (fun t k => XS.icmpYes X0.here hx rfl (pc0 := 86) (pc' := 93) rfl (hb hby d1_86) rfl (feq hc19).2 (by decide) (by decide) k) ?_
                      show Wp p e below _ (s₁.setTop (mkF m 93 #[.val (.int k0)] []))
                      obtain ⟨T21, X21, e21, st21⟩ := getS2 X0 hx hZ hown (host := "") (Or.inl (hw _ (List.mem_of_getElem? (i := 38) rfl))) Via.refl e0 S_a_ApiKey_ALTER_CLIENT_QUOTAS (g := (mkF m 93 #[.val (.int k0)] [])) rfl (hb hby d1_93)
                      refine Wp.step st21 ?_
                      show Wp p e below _ (T21.setTop (mkF m 96 #[.val (.int k0)] [(.ref a_ApiKey_ALTER_CLIENT_QUOTAS)]))
                      refine Wp.retA X21 hx Bd.returns rfl (hb hby d1_96) hlk ?_ (by decide) (by decide)
                      show Q1 Z k0 a_ApiKey_METADATA a_ApiKey_SASL_HANDSHAKE a_ApiKey_API_VERSIONS a_ApiKey_CREATE_TOPICS a_ApiKey_DESCRIBE_ACLS a_ApiKey_CREATE_ACLS a_ApiKey_DELETE_ACLS a_ApiKey_DESCRIBE_CONFIGS a_ApiKey_SASL_AUTHENTICATE a_ApiKey_DESCRIBE_CLIENT_QUOTAS a_ApiKey_ALTER_CLIENT_QUOTAS h0 n0 (some (.ref a_ApiKey_ALTER_CLIENT_QUOTAS)) T21.heap _
                      rw [e21]
                      exact ⟨a_ApiKey_ALTER_CLIENT_QUOTAS, rfl, E_a_ApiKey_ALTER_CLIENT_QUOTAS, by rw [own_first, if_neg hc1, if_neg hc3, if_neg hc5, if_neg hc7, if_neg hc9, if_neg hc11, if_neg hc13, if_neg hc15, if_neg hc17, if_neg hc19]; exact F_firstFlexibleVersion_a_ApiKey_ALTER_CLIENT_QUOTAS, ⟨fun q => absurd q (Fld.ne F_firstFlexibleVersion_a_ApiKey_ALTER_CLIENT_QUOTAS F_firstFlexibleVersion_a_ApiKey_API_VERSIONS (fun h => absurd (Value.int.inj h) (by decide))), fun q => absurd q hc5⟩, N0, rfl⟩
theorem d2_0 : decode method_3_code 0 = .ok (.iload_n 0, 1) := by decide +kernel
theorem d2_1 : decode method_3_code 1 = .ok (.ifCond .ne 6, 3) := by decide +kernel
theorem d2_4 : decode method_3_code 4 = .ok (.bipush 9, 2) := by decide +kernel
theorem d2_6 : decode method_3_code 6 = .ok (.ireturn, 1) := by decide +kernel
theorem d2_7 : decode method_3_code 7 = .ok (.iload_n 0, 1) := by decide +kernel
theorem d2_8 : decode method_3_code 8 = .ok (.iconst 1, 1) := by decide +kernel
theorem d2_9 : decode method_3_code 9 = .ok (.if_icmp .ne 7, 3) := by decide +kernel
theorem d2_12 : decode method_3_code 12 = .ok (.sipush 32767, 3) := by decide +kernel
theorem d2_15 : decode method_3_code 15 = .ok (.ireturn, 1) := by decide +kernel
theorem d2_16 : decode method_3_code 16 = .ok (.iload_n 0, 1) := by decide +kernel
theorem d2_17 : decode method_3_code 17 = .ok (.iconst 2, 1) := by decide +kernel
theorem d2_18 : decode method_3_code 18 = .ok (.if_icmp .ne 5, 3) := by decide +kernel
theorem d2_21 : decode method_3_code 21 = .ok (.iconst 3, 1) := by decide +kernel
theorem d2_22 : decode method_3_code 22 = .ok (.ireturn, 1) := by decide +kernel
theorem d2_23 : decode method_3_code 23 = .ok (.iload_n 0, 1) := by decide +kernel
theorem d2_24 : decode method_3_code 24 = .ok (.iconst 3, 1) := by decide +kernel
theorem d2_25 : decode method_3_code 25 = .ok (.if_icmp .ne 5, 3) := by decide +kernel
theorem d2_28 : decode method_3_code 28 = .ok (.iconst 5, 1) := by decide +kernel
theorem d2_29 : decode method_3_code 29 = .ok (.ireturn, 1) := by decide +kernel
theorem d2_30 : decode method_3_code 30 = .ok (.iload_n 0, 1) := by decide +kernel
theorem d2_31 : decode method_3_code 31 = .ok (.iconst 4, 1) := by decide +kernel
theorem d2_32 : decode method_3_code 32 = .ok (.if_icmp .ne 5, 3) := by decide +kernel
theorem d2_35 : decode method_3_code 35 = .ok (.iconst 2, 1) := by decide +kernel
theorem d2_36 : decode method_3_code 36 = .ok (.ireturn, 1) := by decide +kernel
theorem d2_37 : decode method_3_code 37 = .ok (.iload_n 0, 1) := by decide +kernel
theorem d2_38 : decode method_3_code 38 = .ok (.iconst 5, 1) := by decide +kernel
theorem d2_39 : decode method_3_code 39 = .ok (.if_icmp .ne 5, 3) := by decide +kernel
theorem d2_42 : decode method_3_code 42 = .ok (.iconst 2, 1) := by decide +kernel
theorem d2_43 : decode method_3_code 43 = .ok (.ireturn, 1) := by decide +kernel
theorem d2_44 : decode method_3_code 44 = .ok (.iload_n 0, 1) := by decide +kernel
theorem d2_45 : decode method_3_code 45 = .ok (.bipush 6, 2) := by decide +kernel
theorem d2_47 : decode method_3_code 47 = .ok (.if_icmp .ne 5, 3) := by decide +kernel
theorem d2_50 : decode method_3_code 50 = .ok (.iconst 2, 1) := by decide +kernel
theorem d2_51 : decode method_3_code 51 = .ok (.ireturn, 1) := by decide +kernel
theorem d2_52 : decode method_3_code 52 = .ok (.iload_n 0, 1) := by decide +kernel
theorem d2_53 : decode method_3_code 53 = .ok (.bipush 7, 2) := by decide +kernel
theorem d2_55 : decode method_3_code 55 = .ok (.if_icmp .ne 5, 3) := by decide +kernel
theorem d2_58 : decode method_3_code 58 = .ok (.iconst 4, 1) := by decide +kernel
theorem d2_59 : decode method_3_code 59 = .ok (.ireturn, 1) := by decide +kernel
theorem d2_60 : decode method_3_code 60 = .ok (.iload_n 0, 1) := by decide +kernel
theorem d2_61 : decode method_3_code 61 = .ok (.bipush 8, 2) := by decide +kernel
theorem d2_63 : decode method_3_code 63 = .ok (.if_icmp .ne 5, 3) := by decide +kernel
theorem d2_66 : decode method_3_code 66 = .ok (.iconst 2, 1) := by decide +kernel
theorem d2_67 : decode method_3_code 67 = .ok (.ireturn, 1) := by decide +kernel
theorem d2_68 : decode method_3_code 68 = .ok (.iload_n 0, 1) := by decide +kernel
theorem d2_69 : decode method_3_code 69 = .ok (.bipush 9, 2) := by decide +kernel
theorem d2_71 : decode method_3_code 71 = .ok (.if_icmp .ne 5, 3) := by decide +kernel
theorem d2_74 : decode method_3_code 74 = .ok (.iconst 1, 1) := by decide +kernel
theorem d2_75 : decode method_3_code 75 = .ok (.ireturn, 1) := by decide +kernel
theorem d2_76 : decode method_3_code 76 = .ok (.iconst 1, 1) := by decide +kernel
theorem d2_77 : decode method_3_code 77 = .ok (.ireturn, 1) := by decide +kernel
theorem ef_2_0 (m : MethodId) (x0 : Int32) : entryFrame m #[(.int x0)] 1 = mkF m 0 #[.val (.int x0)] [] := by first | (simp [entryFrame, mkF, argsToLocals, Value.category]; done) | rfl
def Q2 (Z : State) (k0 : Int32) (h0 : Heap) (n0 : Nat) (v : Option Value) (h : Heap) (L : List Loc) : Prop := v = some (.int (own_first k0)) ∧ Fr n0 L ∧ h = h0
set_option maxRecDepth 65536 in
set_option maxHeartbeats 40000000 in
theorem rm2 (l : Launch) (Z : State) (a0 : Array Value) (hw : ∀ d ∈ tables_1, d.before a0 Z = true) (ws : List Jvm.Cond) (k0 : Int32) (h0 : Heap) (n0 : Nat) (Z0 : n0 ≤ h0.size) :
    MetFree l (⟨"com/example/ulinzi/ulinzi/protocol/ApiKeyUsesResponseHeaderTagsPinLaw", "firstFlexible", "(I)I"⟩ : MethodName) (head1 (Jvm.Cond.code (⟨"com/example/ulinzi/ulinzi/protocol/ApiKeyUsesResponseHeaderTagsPinLaw", "firstFlexible", "(I)I"⟩ : MethodName) method_3_code 1 (some .int) :: ws) ({ frames := 0, cells := 0, slots := 0, locals := 0 } : Room)) (fun a U => a = #[(.int k0)] ∧ Z.Warmed39 U.vm ∧ U.heap = h0) (fun _ _ _ _ _ => True) (fun _ U o U' => ∃ v L, o = .returned v ∧ Q2 Z k0 h0 n0 v U'.heap L ∧ FrameEnd U o U' L ({ frames := 0, cells := 0, slots := 0, locals := 0 } : Room).cells ({ frames := 0, cells := 0, slots := 0, locals := 0 } : Room).slots) := by
  refine MetFree.of_bodySF (plainFor_of_name pn_com_example_ulinzi_ulinzi_protocol_ApiKeyUsesResponseHeaderTagsPinLaw) hisR ?_
  intro p e s m args below meth c s₁ Bd hml0 hP hK
  obtain ⟨rfl, hZ, hh⟩ := hP
  have hx := Bd.exec
  have hby := Bd.bytes
  have hlk : meth.locks = false := Bd.notSynchronized
  have hml : c.maxLocals = 1 := hml0
  have hown : s.vm.findClass "com/example/ulinzi/ulinzi/protocol/ApiKeyUsesResponseHeaderTagsPinLaw" = some m.cls := findClass_of_methodNamed Bd.named
  have hnm := (name_of_methodNamed Bd.named Bd.method).1
  have X0 : Stand p l e ({ frames := 0, cells := 0, slots := 0, locals := 0 } : Room) s m #[(.int k0)] below meth c s₁ [] 0 0 := Stand.of_body Bd
  have e0 : s₁.heap = h0 := by rw [← hh, Bd.state]; rfl
  have N0 := Fr.nil n0
  have K0 : Keep h0 h0 [] := Keep.refl h0 _
  show Wp p e below (Out s (Q2 Z k0 h0 n0) ({ frames := 0, cells := 0, slots := 0, locals := 0 } : Room).cells ({ frames := 0, cells := 0, slots := 0, locals := 0 } : Room).slots) (s₁.setTop (entryFrame m #[(.int k0)] 1))
  rw [ef_2_0]
  show Wp p e below _ (s₁.setTop (mkF m 0 #[.val (.int k0)] []))
  refine Wp.step (fun t k => XS.iloadN X0.here hx rfl (hb hby d2_0) rfl k) ?_
  show Wp p e below _ (s₁.setTop (mkF m 1 #[.val (.int k0)] [(.int k0)]))
  by_cases hc1 : k0 = (0 : Int32)
  · refine Wp.step (fun t k => XS.ifNo X0.here hx rfl (hb hby d2_1) rfl ((if0 _ _).trans (teq hc1).2) k) ?_
    show Wp p e below _ (s₁.setTop (mkF m 4 #[.val (.int k0)] []))
    refine Wp.step (fun t k => XS.bipush X0.here hx rfl (hb hby d2_4) k) ?_
    show Wp p e below _ (s₁.setTop (mkF m 6 #[.val (.int k0)] [(.int (9 : Int32))]))
    refine Wp.retI X0 hx Bd.returns (hb hby d2_6) hlk ?_ (by decide) (by decide)
    show Q2 Z k0 h0 n0 (some (.int (9 : Int32))) s₁.heap _
    rw [e0]
    exact ⟨by rw [own_first, if_pos hc1], N0, rfl⟩
  · refine Wp.step (fun t k => XS.ifYes X0.here hx rfl (pc0 := 1) (pc' := 7) rfl (hb hby d2_1) rfl ((if0 _ _).trans (feq hc1).2) (by decide) (by decide) k) ?_
    show Wp p e below _ (s₁.setTop (mkF m 7 #[.val (.int k0)] []))
    refine Wp.step (fun t k => XS.iloadN X0.here hx rfl (hb hby d2_7) rfl k) ?_
    show Wp p e below _ (s₁.setTop (mkF m 8 #[.val (.int k0)] [(.int k0)]))
    refine Wp.step (fun t k => XS.iconst X0.here hx rfl (hb hby d2_8) k) ?_
    show Wp p e below _ (s₁.setTop (mkF m 9 #[.val (.int k0)] [(.int (1 : Int32)), (.int k0)]))
    by_cases hc2 : k0 = (1 : Int32)
    · refine Wp.step (fun t k => XS.icmpNo X0.here hx rfl (hb hby d2_9) rfl (teq hc2).2 k) ?_
      show Wp p e below _ (s₁.setTop (mkF m 12 #[.val (.int k0)] []))
      refine Wp.step (fun t k => XS.sipush X0.here hx rfl (hb hby d2_12) k) ?_
      show Wp p e below _ (s₁.setTop (mkF m 15 #[.val (.int k0)] [(.int (32767 : Int32))]))
      refine Wp.retI X0 hx Bd.returns (hb hby d2_15) hlk ?_ (by decide) (by decide)
      show Q2 Z k0 h0 n0 (some (.int (32767 : Int32))) s₁.heap _
      rw [e0]
      exact ⟨by rw [own_first, if_neg hc1, if_pos hc2], N0, rfl⟩
    · refine Wp.step (fun t k => XS.icmpYes X0.here hx rfl (pc0 := 9) (pc' := 16) rfl (hb hby d2_9) rfl (feq hc2).2 (by decide) (by decide) k) ?_
      show Wp p e below _ (s₁.setTop (mkF m 16 #[.val (.int k0)] []))
      refine Wp.step (fun t k => XS.iloadN X0.here hx rfl (hb hby d2_16) rfl k) ?_
      show Wp p e below _ (s₁.setTop (mkF m 17 #[.val (.int k0)] [(.int k0)]))
      refine Wp.step (fun t k => XS.iconst X0.here hx rfl (hb hby d2_17) k) ?_
      show Wp p e below _ (s₁.setTop (mkF m 18 #[.val (.int k0)] [(.int (2 : Int32)), (.int k0)]))
      by_cases hc3 : k0 = (2 : Int32)
      · refine Wp.step (fun t k => XS.icmpNo X0.here hx rfl (hb hby d2_18) rfl (teq hc3).2 k) ?_
        show Wp p e below _ (s₁.setTop (mkF m 21 #[.val (.int k0)] []))
        refine Wp.step (fun t k => XS.iconst X0.here hx rfl (hb hby d2_21) k) ?_
        show Wp p e below _ (s₁.setTop (mkF m 22 #[.val (.int k0)] [(.int (3 : Int32))]))
        refine Wp.retI X0 hx Bd.returns (hb hby d2_22) hlk ?_ (by decide) (by decide)
        show Q2 Z k0 h0 n0 (some (.int (3 : Int32))) s₁.heap _
        rw [e0]
        exact ⟨by rw [own_first, if_neg hc1, if_neg hc2, if_pos hc3], N0, rfl⟩
      · refine Wp.step (fun t k => XS.icmpYes X0.here hx rfl (pc0 := 18) (pc' := 23) rfl (hb hby d2_18) rfl (feq hc3).2 (by decide) (by decide) k) ?_
        show Wp p e below _ (s₁.setTop (mkF m 23 #[.val (.int k0)] []))
        refine Wp.step (fun t k => XS.iloadN X0.here hx rfl (hb hby d2_23) rfl k) ?_
        show Wp p e below _ (s₁.setTop (mkF m 24 #[.val (.int k0)] [(.int k0)]))
        refine Wp.step (fun t k => XS.iconst X0.here hx rfl (hb hby d2_24) k) ?_
        show Wp p e below _ (s₁.setTop (mkF m 25 #[.val (.int k0)] [(.int (3 : Int32)), (.int k0)]))
        by_cases hc4 : k0 = (3 : Int32)
        · refine Wp.step (fun t k => XS.icmpNo X0.here hx rfl (hb hby d2_25) rfl (teq hc4).2 k) ?_
          show Wp p e below _ (s₁.setTop (mkF m 28 #[.val (.int k0)] []))
          refine Wp.step (fun t k => XS.iconst X0.here hx rfl (hb hby d2_28) k) ?_
          show Wp p e below _ (s₁.setTop (mkF m 29 #[.val (.int k0)] [(.int (5 : Int32))]))
          refine Wp.retI X0 hx Bd.returns (hb hby d2_29) hlk ?_ (by decide) (by decide)
          show Q2 Z k0 h0 n0 (some (.int (5 : Int32))) s₁.heap _
          rw [e0]
          exact ⟨by rw [own_first, if_neg hc1, if_neg hc2, if_neg hc3, if_pos hc4], N0, rfl⟩
        · refine Wp.step (fun t k => XS.icmpYes X0.here hx rfl (pc0 := 25) (pc' := 30) rfl (hb hby d2_25) rfl (feq hc4).2 (by decide) (by decide) k) ?_
          show Wp p e below _ (s₁.setTop (mkF m 30 #[.val (.int k0)] []))
          refine Wp.step (fun t k => XS.iloadN X0.here hx rfl (hb hby d2_30) rfl k) ?_
          show Wp p e below _ (s₁.setTop (mkF m 31 #[.val (.int k0)] [(.int k0)]))
          refine Wp.step (fun t k => XS.iconst X0.here hx rfl (hb hby d2_31) k) ?_
          show Wp p e below _ (s₁.setTop (mkF m 32 #[.val (.int k0)] [(.int (4 : Int32)), (.int k0)]))
          by_cases hc5 : k0 = (4 : Int32)
          · refine Wp.step (fun t k => XS.icmpNo X0.here hx rfl (hb hby d2_32) rfl (teq hc5).2 k) ?_
            show Wp p e below _ (s₁.setTop (mkF m 35 #[.val (.int k0)] []))
            refine Wp.step (fun t k => XS.iconst X0.here hx rfl (hb hby d2_35) k) ?_
            show Wp p e below _ (s₁.setTop (mkF m 36 #[.val (.int k0)] [(.int (2 : Int32))]))
            refine Wp.retI X0 hx Bd.returns (hb hby d2_36) hlk ?_ (by decide) (by decide)
            show Q2 Z k0 h0 n0 (some (.int (2 : Int32))) s₁.heap _
            rw [e0]
            exact ⟨by rw [own_first, if_neg hc1, if_neg hc2, if_neg hc3, if_neg hc4, if_pos hc5], N0, rfl⟩
          · refine Wp.step (fun t k => XS.icmpYes X0.here hx rfl (pc0 := 32) (pc' := 37) rfl (hb hby d2_32) rfl (feq hc5).2 (by decide) (by decide) k) ?_
            show Wp p e below _ (s₁.setTop (mkF m 37 #[.val (.int k0)] []))
            refine Wp.step (fun t k => XS.iloadN X0.here hx rfl (hb hby d2_37) rfl k) ?_
            show Wp p e below _ (s₁.setTop (mkF m 38 #[.val (.int k0)] [(.int k0)]))
            refine Wp.step (fun t k => XS.iconst X0.here hx rfl (hb hby d2_38) k) ?_
            show Wp p e below _ (s₁.setTop (mkF m 39 #[.val (.int k0)] [(.int (5 : Int32)), (.int k0)]))
            by_cases hc6 : k0 = (5 : Int32)
            · refine Wp.step (fun t k => XS.icmpNo X0.here hx rfl (hb hby d2_39) rfl (teq hc6).2 k) ?_
              show Wp p e below _ (s₁.setTop (mkF m 42 #[.val (.int k0)] []))
              refine Wp.step (fun t k => XS.iconst X0.here hx rfl (hb hby d2_42) k) ?_
              show Wp p e below _ (s₁.setTop (mkF m 43 #[.val (.int k0)] [(.int (2 : Int32))]))
              refine Wp.retI X0 hx Bd.returns (hb hby d2_43) hlk ?_ (by decide) (by decide)
              show Q2 Z k0 h0 n0 (some (.int (2 : Int32))) s₁.heap _
              rw [e0]
              exact ⟨by rw [own_first, if_neg hc1, if_neg hc2, if_neg hc3, if_neg hc4, if_neg hc5, if_pos hc6], N0, rfl⟩
            · refine Wp.step (fun t k => XS.icmpYes X0.here hx rfl (pc0 := 39) (pc' := 44) rfl (hb hby d2_39) rfl (feq hc6).2 (by decide) (by decide) k) ?_
              show Wp p e below _ (s₁.setTop (mkF m 44 #[.val (.int k0)] []))
              refine Wp.step (fun t k => XS.iloadN X0.here hx rfl (hb hby d2_44) rfl k) ?_
              show Wp p e below _ (s₁.setTop (mkF m 45 #[.val (.int k0)] [(.int k0)]))
              refine Wp.step (fun t k => XS.bipush X0.here hx rfl (hb hby d2_45) k) ?_
              show Wp p e below _ (s₁.setTop (mkF m 47 #[.val (.int k0)] [(.int (6 : Int32)), (.int k0)]))
              by_cases hc7 : k0 = (6 : Int32)
              · refine Wp.step (fun t k => XS.icmpNo X0.here hx rfl (hb hby d2_47) rfl (teq hc7).2 k) ?_
                show Wp p e below _ (s₁.setTop (mkF m 50 #[.val (.int k0)] []))
                refine Wp.step (fun t k => XS.iconst X0.here hx rfl (hb hby d2_50) k) ?_
                show Wp p e below _ (s₁.setTop (mkF m 51 #[.val (.int k0)] [(.int (2 : Int32))]))
                refine Wp.retI X0 hx Bd.returns (hb hby d2_51) hlk ?_ (by decide) (by decide)
                show Q2 Z k0 h0 n0 (some (.int (2 : Int32))) s₁.heap _
                rw [e0]
                exact ⟨by rw [own_first, if_neg hc1, if_neg hc2, if_neg hc3, if_neg hc4, if_neg hc5, if_neg hc6, if_pos hc7], N0, rfl⟩
              · refine Wp.step (fun t k => XS.icmpYes X0.here hx rfl (pc0 := 47) (pc' := 52) rfl (hb hby d2_47) rfl (feq hc7).2 (by decide) (by decide) k) ?_
                show Wp p e below _ (s₁.setTop (mkF m 52 #[.val (.int k0)] []))
                refine Wp.step (fun t k => XS.iloadN X0.here hx rfl (hb hby d2_52) rfl k) ?_
                show Wp p e below _ (s₁.setTop (mkF m 53 #[.val (.int k0)] [(.int k0)]))
                refine Wp.step (fun t k => XS.bipush X0.here hx rfl (hb hby d2_53) k) ?_
                show Wp p e below _ (s₁.setTop (mkF m 55 #[.val (.int k0)] [(.int (7 : Int32)), (.int k0)]))
                by_cases hc8 : k0 = (7 : Int32)
                · refine Wp.step (fun t k => XS.icmpNo X0.here hx rfl (hb hby d2_55) rfl (teq hc8).2 k) ?_
                  show Wp p e below _ (s₁.setTop (mkF m 58 #[.val (.int k0)] []))
                  refine Wp.step (fun t k => XS.iconst X0.here hx rfl (hb hby d2_58) k) ?_
                  show Wp p e below _ (s₁.setTop (mkF m 59 #[.val (.int k0)] [(.int (4 : Int32))]))
                  refine Wp.retI X0 hx Bd.returns (hb hby d2_59) hlk ?_ (by decide) (by decide)
                  show Q2 Z k0 h0 n0 (some (.int (4 : Int32))) s₁.heap _
                  rw [e0]
                  exact ⟨by rw [own_first, if_neg hc1, if_neg hc2, if_neg hc3, if_neg hc4, if_neg hc5, if_neg hc6, if_neg hc7, if_pos hc8], N0, rfl⟩
                · refine Wp.step (fun t k => XS.icmpYes X0.here hx rfl (pc0 := 55) (pc' := 60) rfl (hb hby d2_55) rfl (feq hc8).2 (by decide) (by decide) k) ?_
                  show Wp p e below _ (s₁.setTop (mkF m 60 #[.val (.int k0)] []))
                  refine Wp.step (fun t k => XS.iloadN X0.here hx rfl (hb hby d2_60) rfl k) ?_
                  show Wp p e below _ (s₁.setTop (mkF m 61 #[.val (.int k0)] [(.int k0)]))
                  refine Wp.step (fun t k => XS.bipush X0.here hx rfl (hb hby d2_61) k) ?_
                  show Wp p e below _ (s₁.setTop (mkF m 63 #[.val (.int k0)] [(.int (8 : Int32)), (.int k0)]))
                  by_cases hc9 : k0 = (8 : Int32)
                  · refine Wp.step (fun t k => XS.icmpNo X0.here hx rfl (hb hby d2_63) rfl (teq hc9).2 k) ?_
                    show Wp p e below _ (s₁.setTop (mkF m 66 #[.val (.int k0)] []))
                    refine Wp.step (fun t k => XS.iconst X0.here hx rfl (hb hby d2_66) k) ?_
                    show Wp p e below _ (s₁.setTop (mkF m 67 #[.val (.int k0)] [(.int (2 : Int32))]))
                    refine Wp.retI X0 hx Bd.returns (hb hby d2_67) hlk ?_ (by decide) (by decide)
                    show Q2 Z k0 h0 n0 (some (.int (2 : Int32))) s₁.heap _
                    rw [e0]
                    exact ⟨by rw [own_first, if_neg hc1, if_neg hc2, if_neg hc3, if_neg hc4, if_neg hc5, if_neg hc6, if_neg hc7, if_neg hc8, if_pos hc9], N0, rfl⟩
                  · refine Wp.step (fun t k => XS.icmpYes X0.here hx rfl (pc0 := 63) (pc' := 68) rfl (hb hby d2_63) rfl (feq hc9).2 (by decide) (by decide) k) ?_
                    show Wp p e below _ (s₁.setTop (mkF m 68 #[.val (.int k0)] []))
                    refine Wp.step (fun t k => XS.iloadN X0.here hx rfl (hb hby d2_68) rfl k) ?_
                    show Wp p e below _ (s₁.setTop (mkF m 69 #[.val (.int k0)] [(.int k0)]))
                    refine Wp.step (fun t k => XS.bipush X0.here hx rfl (hb hby d2_69) k) ?_
                    show Wp p e below _ (s₁.setTop (mkF m 71 #[.val (.int k0)] [(.int (9 : Int32)), (.int k0)]))
                    by_cases hc10 : k0 = (9 : Int32)
                    · refine Wp.step (fun t k => XS.icmpNo X0.here hx rfl (hb hby d2_71) rfl (teq hc10).2 k) ?_
                      show Wp p e below _ (s₁.setTop (mkF m 74 #[.val (.int k0)] []))
                      refine Wp.step (fun t k => XS.iconst X0.here hx rfl (hb hby d2_74) k) ?_
                      show Wp p e below _ (s₁.setTop (mkF m 75 #[.val (.int k0)] [(.int (1 : Int32))]))
                      refine Wp.retI X0 hx Bd.returns (hb hby d2_75) hlk ?_ (by decide) (by decide)
                      show Q2 Z k0 h0 n0 (some (.int (1 : Int32))) s₁.heap _
                      rw [e0]
                      exact ⟨by rw [own_first, if_neg hc1, if_neg hc2, if_neg hc3, if_neg hc4, if_neg hc5, if_neg hc6, if_neg hc7, if_neg hc8, if_neg hc9, if_pos hc10], N0, rfl⟩
                    · refine Wp.step (fun t k => XS.icmpYes X0.here hx rfl (pc0 := 71) (pc' := 76) rfl (hb hby d2_71) rfl (feq hc10).2 (by decide) (by decide) k) ?_
                      show Wp p e below _ (s₁.setTop (mkF m 76 #[.val (.int k0)] []))
                      refine Wp.step (fun t k => XS.iconst X0.here hx rfl (hb hby d2_76) k) ?_
                      show Wp p e below _ (s₁.setTop (mkF m 77 #[.val (.int k0)] [(.int (1 : Int32))]))
                      refine Wp.retI X0 hx Bd.returns (hb hby d2_77) hlk ?_ (by decide) (by decide)
                      show Q2 Z k0 h0 n0 (some (.int (1 : Int32))) s₁.heap _
                      rw [e0]
                      exact ⟨by rw [own_first, if_neg hc1, if_neg hc2, if_neg hc3, if_neg hc4, if_neg hc5, if_neg hc6, if_neg hc7, if_neg hc8, if_neg hc9, if_neg hc10], N0, rfl⟩
theorem d4_0 : decode prog_45_method_7_code 0 = .ok (.iload_n 1, 1) := by decide +kernel
theorem d4_1 : decode prog_45_method_7_code 1 = .ok (.aload_n 0, 1) := by decide +kernel
theorem d4_2 : decode prog_45_method_7_code 2 = .ok (.getfield 64, 3) := by decide +kernel
theorem d4_5 : decode prog_45_method_7_code 5 = .ok (.if_icmp .lt 7, 3) := by decide +kernel
theorem d4_8 : decode prog_45_method_7_code 8 = .ok (.iconst 1, 1) := by decide +kernel
theorem d4_9 : decode prog_45_method_7_code 9 = .ok (.goto 4, 3) := by decide +kernel
theorem d4_12 : decode prog_45_method_7_code 12 = .ok (.iconst 0, 1) := by decide +kernel
theorem d4_13 : decode prog_45_method_7_code 13 = .ok (.ireturn, 1) := by decide +kernel
theorem pn_com_example_ulinzi_ulinzi_protocol_ApiKey : plainName "com/example/ulinzi/ulinzi/protocol/ApiKey" = true := by first | (simp [plainName, overriddenIn]; done) | decide +kernel
theorem ef_4_00 (m : MethodId) (x0 : Addr) (x1 : Int32) : entryFrame m #[(.ref x0), (.int x1)] 2 = mkF m 0 #[.val (.ref x0), .val (.int x1)] [] := by first | (simp [entryFrame, mkF, argsToLocals, Value.category]; done) | rfl
def Q4 (Z : State) (d0 : Addr) (v0 : Int32) (f0 : Int32) (h0 : Heap) (n0 : Nat) (v : Option Value) (h : Heap) (L : List Loc) : Prop := v = some (.int (own_flex v0 f0)) ∧ Fr n0 L ∧ h = h0
set_option maxRecDepth 65536 in
set_option maxHeartbeats 40000000 in
theorem rm4 (l : Launch) (Z : State) (a0 : Array Value) (hw : ∀ d ∈ tables_1, d.before a0 Z = true) (ws : List Jvm.Cond) (d0 : Addr) (v0 : Int32) (f0 : Int32) (h0 : Heap) (n0 : Nat) (Z0 : n0 ≤ h0.size) (F_d0 : Fld Z h0 d0 "com/example/ulinzi/ulinzi/protocol/ApiKey" "firstFlexibleVersion" "S" (.int f0)) :
    MetFree l (⟨"com/example/ulinzi/ulinzi/protocol/ApiKey", "isFlexible", "(S)Z"⟩ : MethodName) (head1 (Jvm.Cond.code (⟨"com/example/ulinzi/ulinzi/protocol/ApiKey", "isFlexible", "(S)Z"⟩ : MethodName) prog_45_method_7_code 2 (some .boolean) :: ws) ({ frames := 0, cells := 0, slots := 0, locals := 0 } : Room)) (fun a U => a = #[(.ref d0), (.int v0)] ∧ Z.Warmed39 U.vm ∧ U.heap = h0) (fun _ _ _ _ _ => True) (fun _ U o U' => ∃ v L, o = .returned v ∧ Q4 Z d0 v0 f0 h0 n0 v U'.heap L ∧ FrameEnd U o U' L ({ frames := 0, cells := 0, slots := 0, locals := 0 } : Room).cells ({ frames := 0, cells := 0, slots := 0, locals := 0 } : Room).slots) := by
  refine MetFree.of_bodySF (plainFor_of_name pn_com_example_ulinzi_ulinzi_protocol_ApiKey) hisR ?_
  intro p e s m args below meth c s₁ Bd hml0 hP hK
  obtain ⟨rfl, hZ, hh⟩ := hP
  have hx := Bd.exec
  have hby := Bd.bytes
  have hlk : meth.locks = false := Bd.notSynchronized
  have hml : c.maxLocals = 2 := hml0
  have hown : s.vm.findClass "com/example/ulinzi/ulinzi/protocol/ApiKey" = some m.cls := findClass_of_methodNamed Bd.named
  have hnm := (name_of_methodNamed Bd.named Bd.method).1
  have X0 : Stand p l e ({ frames := 0, cells := 0, slots := 0, locals := 0 } : Room) s m #[(.ref d0), (.int v0)] below meth c s₁ [] 0 0 := Stand.of_body Bd
  have e0 : s₁.heap = h0 := by rw [← hh, Bd.state]; rfl
  have N0 := Fr.nil n0
  have K0 : Keep h0 h0 [] := Keep.refl h0 _
  show Wp p e below (Out s (Q4 Z d0 v0 f0 h0 n0) ({ frames := 0, cells := 0, slots := 0, locals := 0 } : Room).cells ({ frames := 0, cells := 0, slots := 0, locals := 0 } : Room).slots) (s₁.setTop (entryFrame m #[(.ref d0), (.int v0)] 2))
  rw [ef_4_00]
  show Wp p e below _ (s₁.setTop (mkF m 0 #[.val (.ref d0), .val (.int v0)] []))
  refine Wp.step (fun t k => XS.iloadN X0.here hx rfl (hb hby d4_0) rfl k) ?_
  show Wp p e below _ (s₁.setTop (mkF m 1 #[.val (.ref d0), .val (.int v0)] [(.int v0)]))
  refine Wp.step (fun t k => XS.aloadN X0.here hx rfl (hb hby d4_1) rfl rfl k) ?_
  show Wp p e below _ (s₁.setTop (mkF m 2 #[.val (.ref d0), .val (.int v0)] [(.ref d0), (.int v0)]))
  obtain ⟨T1, X1, e1, st1⟩ := getF X0 hx hZ hown (host := "") (Or.inl (hw _ (List.mem_of_getElem? (i := 23) rfl))) Via.refl e0 F_d0 (g := (mkF m 2 #[.val (.ref d0), .val (.int v0)] [(.ref d0), (.int v0)])) rfl rfl (hb hby d4_2)
  refine Wp.step st1 ?_
  show Wp p e below _ (T1.setTop (mkF m 5 #[.val (.ref d0), .val (.int v0)] [(.int f0), (.int v0)]))
  by_cases hc2 : v0 < f0
  · refine Wp.step (fun t k => XS.icmpYes X1.here hx rfl (pc0 := 5) (pc' := 12) rfl (hb hby d4_5) rfl (tlt hc2).1 (by decide) (by decide) k) ?_
    show Wp p e below _ (T1.setTop (mkF m 12 #[.val (.ref d0), .val (.int v0)] []))
    refine Wp.step (fun t k => XS.iconst X1.here hx rfl (hb hby d4_12) k) ?_
    show Wp p e below _ (T1.setTop (mkF m 13 #[.val (.ref d0), .val (.int v0)] [(.int (0 : Int32))]))
    refine Wp.retN X1 hx (t := .boolean) Bd.returns (by simp) (hb hby d4_13) hlk ?_ (by decide) (by decide)
    show Q4 Z d0 v0 f0 h0 n0 (some (.int (nar .boolean (0 : Int32)))) T1.heap _
    rw [e1]
    exact ⟨by rw [own_flex, if_pos hc2]; rfl, N0, rfl⟩
  · refine Wp.step (fun t k => XS.icmpNo X1.here hx rfl (hb hby d4_5) rfl (flt hc2).1 k) ?_
    show Wp p e below _ (T1.setTop (mkF m 8 #[.val (.ref d0), .val (.int v0)] []))
    refine Wp.step (fun t k => XS.iconst X1.here hx rfl (hb hby d4_8) k) ?_
    show Wp p e below _ (T1.setTop (mkF m 9 #[.val (.ref d0), .val (.int v0)] [(.int (1 : Int32))]))
    refine Wp.step (fun t k => XS.goto X1.here hx rfl (pc0 := 9) (pc' := 13) rfl (hb hby d4_9) (by decide) (by decide) k) ?_
    show Wp p e below _ (T1.setTop (mkF m 13 #[.val (.ref d0), .val (.int v0)] [(.int (1 : Int32))]))
    refine Wp.retN X1 hx (t := .boolean) Bd.returns (by simp) (hb hby d4_13) hlk ?_ (by decide) (by decide)
    show Q4 Z d0 v0 f0 h0 n0 (some (.int (nar .boolean (1 : Int32)))) T1.heap _
    rw [e1]
    exact ⟨by rw [own_flex, if_neg hc2]; rfl, N0, rfl⟩
theorem pd_28S29Z : parseMethodDescriptor "(S)Z" = some ⟨[.short], some .boolean⟩ := by decide +kernel
theorem d3_0 : decode prog_45_method_8_code 0 = .ok (.aload_n 0, 1) := by decide +kernel
theorem d3_1 : decode prog_45_method_8_code 1 = .ok (.getstatic 10, 3) := by decide +kernel
theorem d3_4 : decode prog_45_method_8_code 4 = .ok (.if_acmp .eq 15, 3) := by decide +kernel
theorem d3_7 : decode prog_45_method_8_code 7 = .ok (.aload_n 0, 1) := by decide +kernel
theorem d3_8 : decode prog_45_method_8_code 8 = .ok (.iload_n 1, 1) := by decide +kernel
theorem d3_9 : decode prog_45_method_8_code 9 = .ok (.invokevirtual 87, 3) := by decide +kernel
theorem d3_12 : decode prog_45_method_8_code 12 = .ok (.ifCond .eq 7, 3) := by decide +kernel
theorem d3_15 : decode prog_45_method_8_code 15 = .ok (.iconst 1, 1) := by decide +kernel
theorem d3_16 : decode prog_45_method_8_code 16 = .ok (.goto 4, 3) := by decide +kernel
theorem d3_19 : decode prog_45_method_8_code 19 = .ok (.iconst 0, 1) := by decide +kernel
theorem d3_20 : decode prog_45_method_8_code 20 = .ok (.ireturn, 1) := by decide +kernel
theorem ef_3_00 (m : MethodId) (x0 : Addr) (x1 : Int32) : entryFrame m #[(.ref x0), (.int x1)] 2 = mkF m 0 #[.val (.ref x0), .val (.int x1)] [] := by first | (simp [entryFrame, mkF, argsToLocals, Value.category]; done) | rfl
def Q3 (Z : State) (d0 : Addr) (v0 : Int32) (f0 : Int32) (a_ApiKey_API_VERSIONS : Addr) (h0 : Heap) (n0 : Nat) (v : Option Value) (h : Heap) (L : List Loc) : Prop := v = some (.int (own_uses v0 f0 d0 a_ApiKey_API_VERSIONS)) ∧ Fr n0 L ∧ h = h0
set_option maxRecDepth 65536 in
set_option maxHeartbeats 40000000 in
theorem rm3 (l : Launch) (Z : State) (a0 : Array Value) (hw : ∀ d ∈ tables_1, d.before a0 Z = true) (ws : List Jvm.Cond) (d0 : Addr) (v0 : Int32) (f0 : Int32) (a_ApiKey_API_VERSIONS : Addr) (h0 : Heap) (n0 : Nat) (Z0 : n0 ≤ h0.size) (F_d0 : Fld Z h0 d0 "com/example/ulinzi/ulinzi/protocol/ApiKey" "firstFlexibleVersion" "S" (.int f0)) (E_d0 : Exa Z h0 d0 "com/example/ulinzi/ulinzi/protocol/ApiKey") (S_a_ApiKey_API_VERSIONS : Sta Z h0 "com/example/ulinzi/ulinzi/protocol/ApiKey" "API_VERSIONS" "Lcom/example/ulinzi/ulinzi/protocol/ApiKey;" (.ref a_ApiKey_API_VERSIONS)) :
    MetFree l (⟨"com/example/ulinzi/ulinzi/protocol/ApiKey", "usesResponseHeaderTags", "(S)Z"⟩ : MethodName) (head1 (Jvm.Cond.code (⟨"com/example/ulinzi/ulinzi/protocol/ApiKey", "usesResponseHeaderTags", "(S)Z"⟩ : MethodName) prog_45_method_8_code 2 (some .boolean) :: ws) ({ frames := 1, cells := 0, slots := 0, locals := 13 } : Room)) (fun a U => a = #[(.ref d0), (.int v0)] ∧ Z.Warmed39 U.vm ∧ U.heap = h0) (fun _ _ _ _ _ => True) (fun _ U o U' => ∃ v L, o = .returned v ∧ Q3 Z d0 v0 f0 a_ApiKey_API_VERSIONS h0 n0 v U'.heap L ∧ FrameEnd U o U' L ({ frames := 1, cells := 0, slots := 0, locals := 13 } : Room).cells ({ frames := 1, cells := 0, slots := 0, locals := 13 } : Room).slots) := by
  refine MetFree.of_bodySF (plainFor_of_name pn_com_example_ulinzi_ulinzi_protocol_ApiKey) hisR ?_
  intro p e s m args below meth c s₁ Bd hml0 hP hK
  obtain ⟨rfl, hZ, hh⟩ := hP
  have hx := Bd.exec
  have hby := Bd.bytes
  have hlk : meth.locks = false := Bd.notSynchronized
  have hml : c.maxLocals = 2 := hml0
  have hown : s.vm.findClass "com/example/ulinzi/ulinzi/protocol/ApiKey" = some m.cls := findClass_of_methodNamed Bd.named
  have hnm := (name_of_methodNamed Bd.named Bd.method).1
  have X0 : Stand p l e ({ frames := 1, cells := 0, slots := 0, locals := 13 } : Room) s m #[(.ref d0), (.int v0)] below meth c s₁ [] 0 0 := Stand.of_body Bd
  have e0 : s₁.heap = h0 := by rw [← hh, Bd.state]; rfl
  have N0 := Fr.nil n0
  have K0 : Keep h0 h0 [] := Keep.refl h0 _
  show Wp p e below (Out s (Q3 Z d0 v0 f0 a_ApiKey_API_VERSIONS h0 n0) ({ frames := 1, cells := 0, slots := 0, locals := 13 } : Room).cells ({ frames := 1, cells := 0, slots := 0, locals := 13 } : Room).slots) (s₁.setTop (entryFrame m #[(.ref d0), (.int v0)] 2))
  rw [ef_3_00]
  show Wp p e below _ (s₁.setTop (mkF m 0 #[.val (.ref d0), .val (.int v0)] []))
  refine Wp.step (fun t k => XS.aloadN X0.here hx rfl (hb hby d3_0) rfl rfl k) ?_
  show Wp p e below _ (s₁.setTop (mkF m 1 #[.val (.ref d0), .val (.int v0)] [(.ref d0)]))
  obtain ⟨T1, X1, e1, st1⟩ := getS2 X0 hx hZ hown (host := "") (Or.inl (hw _ (List.mem_of_getElem? (i := 16) rfl))) Via.refl e0 S_a_ApiKey_API_VERSIONS (g := (mkF m 1 #[.val (.ref d0), .val (.int v0)] [(.ref d0)])) rfl (hb hby d3_1)
  refine Wp.step st1 ?_
  show Wp p e below _ (T1.setTop (mkF m 4 #[.val (.ref d0), .val (.int v0)] [(.ref a_ApiKey_API_VERSIONS), (.ref d0)]))
  by_cases ha2 : d0 = a_ApiKey_API_VERSIONS
  · refine Wp.step (fun t k => Jvm.RoadKit.acmp (g := (mkF m 4 #[.val (.ref d0), .val (.int v0)] [(.ref a_ApiKey_API_VERSIONS), (.ref d0)])) X1 hx rfl rfl rfl (pc0 := 4) (pc' := 19) (same := true) rfl (hb hby d3_4) rfl (decide_eq_true (congrArg Value.ref ha2)) (by decide) (by decide) k) ?_
    show Wp p e below _ (T1.setTop (mkF m 19 #[.val (.ref d0), .val (.int v0)] []))
    refine Wp.step (fun t k => XS.iconst X1.here hx rfl (hb hby d3_19) k) ?_
    show Wp p e below _ (T1.setTop (mkF m 20 #[.val (.ref d0), .val (.int v0)] [(.int (0 : Int32))]))
    refine Wp.retN X1 hx (t := .boolean) Bd.returns (by simp) (hb hby d3_20) hlk ?_ (by decide) (by decide)
    show Q3 Z d0 v0 f0 a_ApiKey_API_VERSIONS h0 n0 (some (.int (nar .boolean (0 : Int32)))) T1.heap _
    rw [e1]
    exact ⟨by rw [own_uses, if_pos ha2]; rfl, N0, rfl⟩
  · refine Wp.step (fun t k => Jvm.RoadKit.acmp (g := (mkF m 4 #[.val (.ref d0), .val (.int v0)] [(.ref a_ApiKey_API_VERSIONS), (.ref d0)])) X1 hx rfl rfl rfl (pc0 := 4) (pc' := 7) (same := false) rfl (hb hby d3_4) rfl (decide_eq_false fun q => ha2 (Value.ref.inj q)) (by decide) (by decide) k) ?_
    show Wp p e below _ (T1.setTop (mkF m 7 #[.val (.ref d0), .val (.int v0)] []))
    refine Wp.step (fun t k => XS.aloadN X1.here hx rfl (hb hby d3_7) rfl rfl k) ?_
    show Wp p e below _ (T1.setTop (mkF m 8 #[.val (.ref d0), .val (.int v0)] [(.ref d0)]))
    refine Wp.step (fun t k => XS.iloadN X1.here hx rfl (hb hby d3_8) rfl k) ?_
    show Wp p e below _ (T1.setTop (mkF m 9 #[.val (.ref d0), .val (.int v0)] [(.int v0), (.ref d0)]))
    obtain ⟨cq3, kq3, q3a, q3b, q3c⟩ := isOf hZ e1 E_d0
    obtain ⟨_, _, ⟨T3, L3, k3, n3⟩, -, X3, ⟨Lc3, hQ3, l3, y3, z3⟩, st3⟩ := X1.virtualBack hx (y := (⟨"com/example/ulinzi/ulinzi/protocol/ApiKey", "isFlexible", "(S)Z"⟩ : MethodName)) (z := (⟨"com/example/ulinzi/ulinzi/protocol/ApiKey", "isFlexible", "(S)Z"⟩ : MethodName)) hown (mvT hZ (hw _ (List.mem_of_getElem? (i := 18) rfl))) (mvT hZ (hw _ (List.mem_of_getElem? (i := 19) rfl))) (notFace_of_selects (args := #[]) (mvT hZ (hw _ (List.mem_of_getElem? (i := 21) rfl)))) (mvT hZ (hw _ (List.mem_of_getElem? (i := 21) rfl))) (mvT hZ (hw _ (List.mem_of_getElem? (i := 20) rfl))) (by decide) (backOf (W := 0) (rm4 l Z a0 hw [] d0 v0 f0 h0 n0 (Nat.le_trans Z0 K0.1) F_d0) hZ (hw _ (List.mem_of_getElem? (i := 22) rfl)) (hw _ (List.mem_of_getElem? (i := 6) rfl)) (by decide) (by decide)) q3a q3c (g := (mkF m 9 #[.val (.ref d0), .val (.int v0)] [(.int v0), (.ref d0)])) rfl (by rw [hml]; rfl) (Steps.refl _) (argsL := [(.int v0)]) (rest := []) (lenOf pd_28S29Z rfl) rfl (by show 2 * 0 + _ ≤ _; exact Nat.le_of_eq rfl) (hb hby d3_9) (fun _ _ => ⟨rfl, e1, (by decide : 0 + 0 ≤ _), (by decide : 0 + 0 ≤ _)⟩)
    dsimp only [Pt.U, Pt.locs, Pt.cells, Pt.slots] at X3 l3 y3 z3 st3 hQ3
    subst l3 y3 z3
    obtain ⟨rfl, N3q, e3⟩ := hQ3
    have N3 := Fr.app N0 N3q
    refine Wp.go st3 ?_
    show Wp p e below _ (T3.setTop (mkF m 12 #[.val (.ref d0), .val (.int v0)] [(.int (own_flex v0 f0))]))
    by_cases hc4 : (own_flex v0 f0) = (0 : Int32)
    · refine Wp.step (fun t k => XS.ifYes X3.here hx rfl (pc0 := 12) (pc' := 19) rfl (hb hby d3_12) rfl ((if0 _ _).trans (teq hc4).1) (by decide) (by decide) k) ?_
      show Wp p e below _ (T3.setTop (mkF m 19 #[.val (.ref d0), .val (.int v0)] []))
      refine Wp.step (fun t k => XS.iconst X3.here hx rfl (hb hby d3_19) k) ?_
      show Wp p e below _ (T3.setTop (mkF m 20 #[.val (.ref d0), .val (.int v0)] [(.int (0 : Int32))]))
      refine Wp.retN X3 hx (t := .boolean) Bd.returns (by simp) (hb hby d3_20) hlk ?_ (by decide) (by decide)
      show Q3 Z d0 v0 f0 a_ApiKey_API_VERSIONS h0 n0 (some (.int (nar .boolean (0 : Int32)))) T3.heap _
      rw [e3]
      exact ⟨by rw [own_uses, if_neg ha2, hc4]; rfl, N3, rfl⟩
    · refine Wp.step (fun t k => XS.ifNo X3.here hx rfl (hb hby d3_12) rfl ((if0 _ _).trans (feq hc4).1) k) ?_
      show Wp p e below _ (T3.setTop (mkF m 15 #[.val (.ref d0), .val (.int v0)] []))
      refine Wp.step (fun t k => XS.iconst X3.here hx rfl (hb hby d3_15) k) ?_
      show Wp p e below _ (T3.setTop (mkF m 16 #[.val (.ref d0), .val (.int v0)] [(.int (1 : Int32))]))
      refine Wp.step (fun t k => XS.goto X3.here hx rfl (pc0 := 16) (pc' := 20) rfl (hb hby d3_16) (by decide) (by decide) k) ?_
      show Wp p e below _ (T3.setTop (mkF m 20 #[.val (.ref d0), .val (.int v0)] [(.int (1 : Int32))]))
      refine Wp.retN X3 hx (t := .boolean) Bd.returns (by simp) (hb hby d3_20) hlk ?_ (by decide) (by decide)
      show Q3 Z d0 v0 f0 a_ApiKey_API_VERSIONS h0 n0 (some (.int (nar .boolean (1 : Int32)))) T3.heap _
      rw [e3]
      exact ⟨by rw [own_uses, if_neg ha2, own_flex1 hc4]; rfl, N3, rfl⟩
theorem pd_28I29Lcom2fexample2fulinzi2fulinzi2fprotocol2fApiKey3b : parseMethodDescriptor "(I)Lcom/example/ulinzi/ulinzi/protocol/ApiKey;" = some ⟨[.int], some (.object "com/example/ulinzi/ulinzi/protocol/ApiKey")⟩ := by decide +kernel
theorem pd_28I29I : parseMethodDescriptor "(I)I" = some ⟨[.int], some .int⟩ := by decide +kernel
theorem ef_0_00 (m : MethodId) (x0 : Int32) (x1 : Int32) : entryFrame m #[(.int x0), (.int x1)] maxLocals = mkF m 0 #[.val (.int x0), .val (.int x1), .unset, .unset, .unset, .unset, .unset] [] := by first | (simp [entryFrame, mkF, argsToLocals, Value.category, maxLocals]; done) | rfl
def Q0 (Z : State) (p0 : Int32) (p1 : Int32) (a_ApiKey_METADATA : Addr) (a_ApiKey_SASL_HANDSHAKE : Addr) (a_ApiKey_API_VERSIONS : Addr) (a_ApiKey_CREATE_TOPICS : Addr) (a_ApiKey_DESCRIBE_ACLS : Addr) (a_ApiKey_CREATE_ACLS : Addr) (a_ApiKey_DELETE_ACLS : Addr) (a_ApiKey_DESCRIBE_CONFIGS : Addr) (a_ApiKey_SASL_AUTHENTICATE : Addr) (a_ApiKey_DESCRIBE_CLIENT_QUOTAS : Addr) (a_ApiKey_ALTER_CLIENT_QUOTAS : Addr) (h0 : Heap) (n0 : Nat) (v : Option Value) (h : Heap) (L : List Loc) : Prop := v = some (.int 1) ∧ Fr n0 L
set_option maxRecDepth 65536 in
set_option maxHeartbeats 40000000 in
theorem rm0 (l : Launch) (Z : State) (a0 : Array Value) (hw : ∀ d ∈ tables_1, d.before a0 Z = true) (ws : List Jvm.Cond) (p0 : Int32) (p1 : Int32) (a_ApiKey_METADATA : Addr) (a_ApiKey_SASL_HANDSHAKE : Addr) (a_ApiKey_API_VERSIONS : Addr) (a_ApiKey_CREATE_TOPICS : Addr) (a_ApiKey_DESCRIBE_ACLS : Addr) (a_ApiKey_CREATE_ACLS : Addr) (a_ApiKey_DELETE_ACLS : Addr) (a_ApiKey_DESCRIBE_CONFIGS : Addr) (a_ApiKey_SASL_AUTHENTICATE : Addr) (a_ApiKey_DESCRIBE_CLIENT_QUOTAS : Addr) (a_ApiKey_ALTER_CLIENT_QUOTAS : Addr) (h0 : Heap) (n0 : Nat) (Z0 : n0 ≤ h0.size) (S_a_ApiKey_METADATA : Sta Z h0 "com/example/ulinzi/ulinzi/protocol/ApiKey" "METADATA" "Lcom/example/ulinzi/ulinzi/protocol/ApiKey;" (.ref a_ApiKey_METADATA)) (E_a_ApiKey_METADATA : Exa Z h0 a_ApiKey_METADATA "com/example/ulinzi/ulinzi/protocol/ApiKey") (F_firstFlexibleVersion_a_ApiKey_METADATA : Fld Z h0 a_ApiKey_METADATA "com/example/ulinzi/ulinzi/protocol/ApiKey" "firstFlexibleVersion" "S" (.int 9)) (S_a_ApiKey_SASL_HANDSHAKE : Sta Z h0 "com/example/ulinzi/ulinzi/protocol/ApiKey" "SASL_HANDSHAKE" "Lcom/example/ulinzi/ulinzi/protocol/ApiKey;" (.ref a_ApiKey_SASL_HANDSHAKE)) (E_a_ApiKey_SASL_HANDSHAKE : Exa Z h0 a_ApiKey_SASL_HANDSHAKE "com/example/ulinzi/ulinzi/protocol/ApiKey") (F_firstFlexibleVersion_a_ApiKey_SASL_HANDSHAKE : Fld Z h0 a_ApiKey_SASL_HANDSHAKE "com/example/ulinzi/ulinzi/protocol/ApiKey" "firstFlexibleVersion" "S" (.int 32767)) (S_a_ApiKey_API_VERSIONS : Sta Z h0 "com/example/ulinzi/ulinzi/protocol/ApiKey" "API_VERSIONS" "Lcom/example/ulinzi/ulinzi/protocol/ApiKey;" (.ref a_ApiKey_API_VERSIONS)) (E_a_ApiKey_API_VERSIONS : Exa Z h0 a_ApiKey_API_VERSIONS "com/example/ulinzi/ulinzi/protocol/ApiKey") (F_firstFlexibleVersion_a_ApiKey_API_VERSIONS : Fld Z h0 a_ApiKey_API_VERSIONS "com/example/ulinzi/ulinzi/protocol/ApiKey" "firstFlexibleVersion" "S" (.int 3)) (S_a_ApiKey_CREATE_TOPICS : Sta Z h0 "com/example/ulinzi/ulinzi/protocol/ApiKey" "CREATE_TOPICS" "Lcom/example/ulinzi/ulinzi/protocol/ApiKey;" (.ref a_ApiKey_CREATE_TOPICS)) (E_a_ApiKey_CREATE_TOPICS : Exa Z h0 a_ApiKey_CREATE_TOPICS "com/example/ulinzi/ulinzi/protocol/ApiKey") (F_firstFlexibleVersion_a_ApiKey_CREATE_TOPICS : Fld Z h0 a_ApiKey_CREATE_TOPICS "com/example/ulinzi/ulinzi/protocol/ApiKey" "firstFlexibleVersion" "S" (.int 5)) (S_a_ApiKey_DESCRIBE_ACLS : Sta Z h0 "com/example/ulinzi/ulinzi/protocol/ApiKey" "DESCRIBE_ACLS" "Lcom/example/ulinzi/ulinzi/protocol/ApiKey;" (.ref a_ApiKey_DESCRIBE_ACLS)) (E_a_ApiKey_DESCRIBE_ACLS : Exa Z h0 a_ApiKey_DESCRIBE_ACLS "com/example/ulinzi/ulinzi/protocol/ApiKey") (F_firstFlexibleVersion_a_ApiKey_DESCRIBE_ACLS : Fld Z h0 a_ApiKey_DESCRIBE_ACLS "com/example/ulinzi/ulinzi/protocol/ApiKey" "firstFlexibleVersion" "S" (.int 2)) (S_a_ApiKey_CREATE_ACLS : Sta Z h0 "com/example/ulinzi/ulinzi/protocol/ApiKey" "CREATE_ACLS" "Lcom/example/ulinzi/ulinzi/protocol/ApiKey;" (.ref a_ApiKey_CREATE_ACLS)) (E_a_ApiKey_CREATE_ACLS : Exa Z h0 a_ApiKey_CREATE_ACLS "com/example/ulinzi/ulinzi/protocol/ApiKey") (F_firstFlexibleVersion_a_ApiKey_CREATE_ACLS : Fld Z h0 a_ApiKey_CREATE_ACLS "com/example/ulinzi/ulinzi/protocol/ApiKey" "firstFlexibleVersion" "S" (.int 2)) (S_a_ApiKey_DELETE_ACLS : Sta Z h0 "com/example/ulinzi/ulinzi/protocol/ApiKey" "DELETE_ACLS" "Lcom/example/ulinzi/ulinzi/protocol/ApiKey;" (.ref a_ApiKey_DELETE_ACLS)) (E_a_ApiKey_DELETE_ACLS : Exa Z h0 a_ApiKey_DELETE_ACLS "com/example/ulinzi/ulinzi/protocol/ApiKey") (F_firstFlexibleVersion_a_ApiKey_DELETE_ACLS : Fld Z h0 a_ApiKey_DELETE_ACLS "com/example/ulinzi/ulinzi/protocol/ApiKey" "firstFlexibleVersion" "S" (.int 2)) (S_a_ApiKey_DESCRIBE_CONFIGS : Sta Z h0 "com/example/ulinzi/ulinzi/protocol/ApiKey" "DESCRIBE_CONFIGS" "Lcom/example/ulinzi/ulinzi/protocol/ApiKey;" (.ref a_ApiKey_DESCRIBE_CONFIGS)) (E_a_ApiKey_DESCRIBE_CONFIGS : Exa Z h0 a_ApiKey_DESCRIBE_CONFIGS "com/example/ulinzi/ulinzi/protocol/ApiKey") (F_firstFlexibleVersion_a_ApiKey_DESCRIBE_CONFIGS : Fld Z h0 a_ApiKey_DESCRIBE_CONFIGS "com/example/ulinzi/ulinzi/protocol/ApiKey" "firstFlexibleVersion" "S" (.int 4)) (S_a_ApiKey_SASL_AUTHENTICATE : Sta Z h0 "com/example/ulinzi/ulinzi/protocol/ApiKey" "SASL_AUTHENTICATE" "Lcom/example/ulinzi/ulinzi/protocol/ApiKey;" (.ref a_ApiKey_SASL_AUTHENTICATE)) (E_a_ApiKey_SASL_AUTHENTICATE : Exa Z h0 a_ApiKey_SASL_AUTHENTICATE "com/example/ulinzi/ulinzi/protocol/ApiKey") (F_firstFlexibleVersion_a_ApiKey_SASL_AUTHENTICATE : Fld Z h0 a_ApiKey_SASL_AUTHENTICATE "com/example/ulinzi/ulinzi/protocol/ApiKey" "firstFlexibleVersion" "S" (.int 2)) (S_a_ApiKey_DESCRIBE_CLIENT_QUOTAS : Sta Z h0 "com/example/ulinzi/ulinzi/protocol/ApiKey" "DESCRIBE_CLIENT_QUOTAS" "Lcom/example/ulinzi/ulinzi/protocol/ApiKey;" (.ref a_ApiKey_DESCRIBE_CLIENT_QUOTAS)) (E_a_ApiKey_DESCRIBE_CLIENT_QUOTAS : Exa Z h0 a_ApiKey_DESCRIBE_CLIENT_QUOTAS "com/example/ulinzi/ulinzi/protocol/ApiKey") (F_firstFlexibleVersion_a_ApiKey_DESCRIBE_CLIENT_QUOTAS : Fld Z h0 a_ApiKey_DESCRIBE_CLIENT_QUOTAS "com/example/ulinzi/ulinzi/protocol/ApiKey" "firstFlexibleVersion" "S" (.int 1)) (S_a_ApiKey_ALTER_CLIENT_QUOTAS : Sta Z h0 "com/example/ulinzi/ulinzi/protocol/ApiKey" "ALTER_CLIENT_QUOTAS" "Lcom/example/ulinzi/ulinzi/protocol/ApiKey;" (.ref a_ApiKey_ALTER_CLIENT_QUOTAS)) (E_a_ApiKey_ALTER_CLIENT_QUOTAS : Exa Z h0 a_ApiKey_ALTER_CLIENT_QUOTAS "com/example/ulinzi/ulinzi/protocol/ApiKey") (F_firstFlexibleVersion_a_ApiKey_ALTER_CLIENT_QUOTAS : Fld Z h0 a_ApiKey_ALTER_CLIENT_QUOTAS "com/example/ulinzi/ulinzi/protocol/ApiKey" "firstFlexibleVersion" "S" (.int 1)) :
    MetFree l x (head1 (Jvm.Cond.code x code maxLocals ret :: ws) room_1) (fun a U => a = #[(.int p0), (.int p1)] ∧ Z.Warmed39 U.vm ∧ U.heap = h0) (fun _ _ _ _ _ => True) (fun _ U o U' => ∃ v L, o = .returned v ∧ Q0 Z p0 p1 a_ApiKey_METADATA a_ApiKey_SASL_HANDSHAKE a_ApiKey_API_VERSIONS a_ApiKey_CREATE_TOPICS a_ApiKey_DESCRIBE_ACLS a_ApiKey_CREATE_ACLS a_ApiKey_DELETE_ACLS a_ApiKey_DESCRIBE_CONFIGS a_ApiKey_SASL_AUTHENTICATE a_ApiKey_DESCRIBE_CLIENT_QUOTAS a_ApiKey_ALTER_CLIENT_QUOTAS h0 n0 v U'.heap L ∧ FrameEnd U o U' L room_1.cells room_1.slots) := by
  refine MetFree.of_bodySF (plainFor_of_name pn_com_example_ulinzi_ulinzi_protocol_ApiKeyUsesResponseHeaderTagsPinLaw) hisR ?_
  intro p e s m args below meth c s₁ Bd hml0 hP hK
  obtain ⟨rfl, hZ, hh⟩ := hP
  have hx := Bd.exec
  have hby := Bd.bytes
  have hlk : meth.locks = false := Bd.notSynchronized
  have hml : c.maxLocals = 7 := hml0
  have hown : s.vm.findClass "com/example/ulinzi/ulinzi/protocol/ApiKeyUsesResponseHeaderTagsPinLaw" = some m.cls := findClass_of_methodNamed Bd.named
  have hnm := (name_of_methodNamed Bd.named Bd.method).1
  have X0 : Stand p l e room_1 s m #[(.int p0), (.int p1)] below meth c s₁ [] 0 0 := Stand.of_body Bd
  have e0 : s₁.heap = h0 := by rw [← hh, Bd.state]; rfl
  have N0 := Fr.nil n0
  have K0 : Keep h0 h0 [] := Keep.refl h0 _
  show Wp p e below (Out s (Q0 Z p0 p1 a_ApiKey_METADATA a_ApiKey_SASL_HANDSHAKE a_ApiKey_API_VERSIONS a_ApiKey_CREATE_TOPICS a_ApiKey_DESCRIBE_ACLS a_ApiKey_CREATE_ACLS a_ApiKey_DELETE_ACLS a_ApiKey_DESCRIBE_CONFIGS a_ApiKey_SASL_AUTHENTICATE a_ApiKey_DESCRIBE_CLIENT_QUOTAS a_ApiKey_ALTER_CLIENT_QUOTAS h0 n0) room_1.cells room_1.slots) (s₁.setTop (entryFrame m #[(.int p0), (.int p1)] maxLocals))
  rw [ef_0_00]
  show Wp p e below _ (s₁.setTop (mkF m 0 #[.val (.int p0), .val (.int p1), .unset, .unset, .unset, .unset, .unset] []))
  refine Wp.step (fun t k => XS.iloadN X0.here hx rfl (hb hby at_0) rfl k) ?_
  show Wp p e below _ (s₁.setTop (mkF m 1 #[.val (.int p0), .val (.int p1), .unset, .unset, .unset, .unset, .unset] [(.int p0)]))
  refine Wp.step (X0.ldcInt hx hown (mvT hZ (hw _ (List.mem_of_getElem? (i := 0) rfl))) (g := (mkF m 1 #[.val (.int p0), .val (.int p1), .unset, .unset, .unset, .unset, .unset] [(.int p0)])) rfl (hb hby at_1)) ?_
  show Wp p e below _ (s₁.setTop (mkF m 3 #[.val (.int p0), .val (.int p1), .unset, .unset, .unset, .unset, .unset] [(.int (2147483647 : Int32)), (.int p0)]))
  refine Wp.step (fun t k => XS.iand X0.here hx rfl (hb hby at_3) rfl k) ?_
  show Wp p e below _ (s₁.setTop (mkF m 4 #[.val (.int p0), .val (.int p1), .unset, .unset, .unset, .unset, .unset] [(.int (p0 &&& (2147483647 : Int32)))]))
  refine Wp.step (fun t k => XS.bipush X0.here hx rfl (hb hby at_4) k) ?_
  show Wp p e below _ (s₁.setTop (mkF m 6 #[.val (.int p0), .val (.int p1), .unset, .unset, .unset, .unset, .unset] [(.int (11 : Int32)), (.int (p0 &&& (2147483647 : Int32)))]))
  refine Wp.step (fun t k => Jvm.RoadKit.iremM X0 hx rfl (hb hby at_6) rfl (by decide) k) ?_
  show Wp p e below _ (s₁.setTop (mkF m 7 #[.val (.int p0), .val (.int p1), .unset, .unset, .unset, .unset, .unset] [(.int ((p0 &&& (2147483647 : Int32)) % (11 : Int32)))]))
  generalize hz_k0 : ((p0 &&& (2147483647 : Int32)) % (11 : Int32)) = k0
  refine Wp.step (fun t k => XS.istoreN X0.here hx rfl (hb hby at_7) rfl (l' := #[.val (.int p0), .val (.int p1), .val (.int k0), .unset, .unset, .unset, .unset]) rfl k) ?_
  show Wp p e below _ (s₁.setTop (mkF m 8 #[.val (.int p0), .val (.int p1), .val (.int k0), .unset, .unset, .unset, .unset] []))
  refine Wp.step (fun t k => XS.iloadN X0.here hx rfl (hb hby at_8) rfl k) ?_
  show Wp p e below _ (s₁.setTop (mkF m 9 #[.val (.int p0), .val (.int p1), .val (.int k0), .unset, .unset, .unset, .unset] [(.int k0)]))
  obtain ⟨_, _, ⟨T1, L1, k1, n1⟩, -, X1, ⟨Lc1, hQ1, l1, y1, z1⟩, st1⟩ := Jvm.LawKit.callS X0 hx (y := (⟨"com/example/ulinzi/ulinzi/protocol/ApiKeyUsesResponseHeaderTagsPinLaw", "pick", "(I)Lcom/example/ulinzi/ulinzi/protocol/ApiKey;"⟩ : MethodName)) hown (mvT hZ (hw _ (List.mem_of_getElem? (i := 1) rfl))) (mvT hZ (hw _ (List.mem_of_getElem? (i := 2) rfl))) (mvT hZ (hw _ (List.mem_of_getElem? (i := 3) rfl))) (mvT hZ (hw _ (List.mem_of_getElem? (i := 4) rfl))) (by decide) (backOf (W := 0) (rm1 l Z a0 hw [] k0 a_ApiKey_METADATA a_ApiKey_SASL_HANDSHAKE a_ApiKey_API_VERSIONS a_ApiKey_CREATE_TOPICS a_ApiKey_DESCRIBE_ACLS a_ApiKey_CREATE_ACLS a_ApiKey_DELETE_ACLS a_ApiKey_DESCRIBE_CONFIGS a_ApiKey_SASL_AUTHENTICATE a_ApiKey_DESCRIBE_CLIENT_QUOTAS a_ApiKey_ALTER_CLIENT_QUOTAS h0 n0 Z0 S_a_ApiKey_METADATA E_a_ApiKey_METADATA F_firstFlexibleVersion_a_ApiKey_METADATA S_a_ApiKey_SASL_HANDSHAKE E_a_ApiKey_SASL_HANDSHAKE F_firstFlexibleVersion_a_ApiKey_SASL_HANDSHAKE S_a_ApiKey_API_VERSIONS E_a_ApiKey_API_VERSIONS F_firstFlexibleVersion_a_ApiKey_API_VERSIONS S_a_ApiKey_CREATE_TOPICS E_a_ApiKey_CREATE_TOPICS F_firstFlexibleVersion_a_ApiKey_CREATE_TOPICS S_a_ApiKey_DESCRIBE_ACLS E_a_ApiKey_DESCRIBE_ACLS F_firstFlexibleVersion_a_ApiKey_DESCRIBE_ACLS S_a_ApiKey_CREATE_ACLS E_a_ApiKey_CREATE_ACLS F_firstFlexibleVersion_a_ApiKey_CREATE_ACLS S_a_ApiKey_DELETE_ACLS E_a_ApiKey_DELETE_ACLS F_firstFlexibleVersion_a_ApiKey_DELETE_ACLS S_a_ApiKey_DESCRIBE_CONFIGS E_a_ApiKey_DESCRIBE_CONFIGS F_firstFlexibleVersion_a_ApiKey_DESCRIBE_CONFIGS S_a_ApiKey_SASL_AUTHENTICATE E_a_ApiKey_SASL_AUTHENTICATE F_firstFlexibleVersion_a_ApiKey_SASL_AUTHENTICATE S_a_ApiKey_DESCRIBE_CLIENT_QUOTAS E_a_ApiKey_DESCRIBE_CLIENT_QUOTAS F_firstFlexibleVersion_a_ApiKey_DESCRIBE_CLIENT_QUOTAS S_a_ApiKey_ALTER_CLIENT_QUOTAS E_a_ApiKey_ALTER_CLIENT_QUOTAS F_firstFlexibleVersion_a_ApiKey_ALTER_CLIENT_QUOTAS) hZ (hw _ (List.mem_of_getElem? (i := 4) rfl)) (hw _ (List.mem_of_getElem? (i := 3) rfl)) (by decide) (by decide)) (g := (mkF m 9 #[.val (.int p0), .val (.int p1), .val (.int k0), .unset, .unset, .unset, .unset] [(.int k0)])) rfl (by rw [hml]; rfl) (argsL := [(.int k0)]) (rest := []) (lenOf pd_28I29Lcom2fexample2fulinzi2fulinzi2fprotocol2fApiKey3b rfl) rfl (by show 2 * 0 + _ ≤ _; exact Nat.le_of_eq rfl) (hb hby at_9) (fun _ _ => ⟨rfl, e0, (by decide : 0 + 0 ≤ _), (by decide : 0 + 0 ≤ _)⟩)
  dsimp only [Pt.U, Pt.locs, Pt.cells, Pt.slots] at X1 l1 y1 z1 st1 hQ1
  subst l1 y1 z1
  obtain ⟨d0, rfl, E_d0, F_d0, I_d0, N1q, e1⟩ := hQ1
  have N1 := Fr.app N0 N1q
  refine Wp.step st1 ?_
  show Wp p e below _ (T1.setTop (mkF m 12 #[.val (.int p0), .val (.int p1), .val (.int k0), .unset, .unset, .unset, .unset] [(.ref d0)]))
  refine Wp.step (fun t k => XS.astoreN X1.here hx rfl (hb hby at_12) rfl rfl (l' := #[.val (.int p0), .val (.int p1), .val (.int k0), .val (.ref d0), .unset, .unset, .unset]) rfl k) ?_
  show Wp p e below _ (T1.setTop (mkF m 13 #[.val (.int p0), .val (.int p1), .val (.int k0), .val (.ref d0), .unset, .unset, .unset] []))
  refine Wp.step (fun t k => XS.iloadN X1.here hx rfl (hb hby at_13) rfl k) ?_
  show Wp p e below _ (T1.setTop (mkF m 14 #[.val (.int p0), .val (.int p1), .val (.int k0), .val (.ref d0), .unset, .unset, .unset] [(.int p1)]))
  refine Wp.step (fun t k => XS.i2s X1.here hx rfl (hb hby at_14) rfl k) ?_
  show Wp p e below _ (T1.setTop (mkF m 15 #[.val (.int p0), .val (.int p1), .val (.int k0), .val (.ref d0), .unset, .unset, .unset] [(.int (p1.toInt16.toInt32))]))
  generalize hz_s0 : (p1.toInt16.toInt32) = s0
  refine Wp.step (fun t k => XS.istore X1.here hx rfl (hb hby at_15) rfl (l' := #[.val (.int p0), .val (.int p1), .val (.int k0), .val (.ref d0), .val (.int s0), .unset, .unset]) rfl k) ?_
  show Wp p e below _ (T1.setTop (mkF m 17 #[.val (.int p0), .val (.int p1), .val (.int k0), .val (.ref d0), .val (.int s0), .unset, .unset] []))
  refine Wp.step (fun t k => XS.iloadN X1.here hx rfl (hb hby at_17) rfl k) ?_
  show Wp p e below _ (T1.setTop (mkF m 18 #[.val (.int p0), .val (.int p1), .val (.int k0), .val (.ref d0), .val (.int s0), .unset, .unset] [(.int k0)]))
  refine Wp.step (fun t k => XS.iconst X1.here hx rfl (hb hby at_18) k) ?_
  show Wp p e below _ (T1.setTop (mkF m 19 #[.val (.int p0), .val (.int p1), .val (.int k0), .val (.ref d0), .val (.int s0), .unset, .unset] [(.int (2 : Int32)), (.int k0)]))
  by_cases hc2 : k0 = (2 : Int32)
  · refine Wp.step (fun t k => XS.icmpYes X1.here hx rfl (pc0 := 19) (pc' := 35) rfl (hb hby at_19) rfl (teq hc2).1 (by decide) (by decide) k) ?_
    show Wp p e below _ (T1.setTop (mkF m 35 #[.val (.int p0), .val (.int p1), .val (.int k0), .val (.ref d0), .val (.int s0), .unset, .unset] []))
    refine Wp.step (fun t k => XS.iconst X1.here hx rfl (hb hby at_35) k) ?_
    show Wp p e below _ (T1.setTop (mkF m 36 #[.val (.int p0), .val (.int p1), .val (.int k0), .val (.ref d0), .val (.int s0), .unset, .unset] [(.int (0 : Int32))]))
    refine Wp.step (fun t k => XS.istore X1.here hx rfl (hb hby at_36) rfl (l' := #[.val (.int p0), .val (.int p1), .val (.int k0), .val (.ref d0), .val (.int s0), .val (.int (0 : Int32)), .unset]) rfl k) ?_
    show Wp p e below _ (T1.setTop (mkF m 38 #[.val (.int p0), .val (.int p1), .val (.int k0), .val (.ref d0), .val (.int s0), .val (.int (0 : Int32)), .unset] []))
    refine Wp.step (fun t k => XS.aloadN X1.here hx rfl (hb hby at_38) rfl rfl k) ?_
    show Wp p e below _ (T1.setTop (mkF m 39 #[.val (.int p0), .val (.int p1), .val (.int k0), .val (.ref d0), .val (.int s0), .val (.int (0 : Int32)), .unset] [(.ref d0)]))
    refine Wp.step (fun t k => XS.iload X1.here hx rfl (hb hby at_39) rfl k) ?_
    show Wp p e below _ (T1.setTop (mkF m 41 #[.val (.int p0), .val (.int p1), .val (.int k0), .val (.ref d0), .val (.int s0), .val (.int (0 : Int32)), .unset] [(.int s0), (.ref d0)]))
    obtain ⟨cq3, kq3, q3a, q3b, q3c⟩ := isOf hZ e1 E_d0
    obtain ⟨_, _, ⟨T3, L3, k3, n3⟩, -, X3, ⟨Lc3, hQ3, l3, y3, z3⟩, st3⟩ := X1.virtualBack hx (y := (⟨"com/example/ulinzi/ulinzi/protocol/ApiKey", "usesResponseHeaderTags", "(S)Z"⟩ : MethodName)) (z := (⟨"com/example/ulinzi/ulinzi/protocol/ApiKey", "usesResponseHeaderTags", "(S)Z"⟩ : MethodName)) hown (mvT hZ (hw _ (List.mem_of_getElem? (i := 11) rfl))) (mvT hZ (hw _ (List.mem_of_getElem? (i := 12) rfl))) (notFace_of_selects (args := #[]) (mvT hZ (hw _ (List.mem_of_getElem? (i := 14) rfl)))) (mvT hZ (hw _ (List.mem_of_getElem? (i := 14) rfl))) (mvT hZ (hw _ (List.mem_of_getElem? (i := 13) rfl))) (by decide) (backOf (W := 0) (rm3 l Z a0 hw [] d0 s0 (own_first k0) a_ApiKey_API_VERSIONS h0 n0 (Nat.le_trans Z0 K0.1) F_d0 E_d0 S_a_ApiKey_API_VERSIONS) hZ (hw _ (List.mem_of_getElem? (i := 15) rfl)) (hw _ (List.mem_of_getElem? (i := 6) rfl)) (by decide) (by decide)) q3a q3c (g := (mkF m 41 #[.val (.int p0), .val (.int p1), .val (.int k0), .val (.ref d0), .val (.int s0), .val (.int (0 : Int32)), .unset] [(.int s0), (.ref d0)])) rfl (by rw [hml]; rfl) (Steps.refl _) (argsL := [(.int s0)]) (rest := []) (lenOf pd_28S29Z rfl) rfl (by show 2 * 0 + _ ≤ _; exact Nat.le_of_eq rfl) (hb hby at_41) (fun _ _ => ⟨rfl, e1, (by decide : 0 + 0 ≤ _), (by decide : 0 + 0 ≤ _)⟩)
    dsimp only [Pt.U, Pt.locs, Pt.cells, Pt.slots] at X3 l3 y3 z3 st3 hQ3
    subst l3 y3 z3
    obtain ⟨rfl, N3q, e3⟩ := hQ3
    have N3 := Fr.app N1 N3q
    refine Wp.go st3 ?_
    show Wp p e below _ (T3.setTop (mkF m 44 #[.val (.int p0), .val (.int p1), .val (.int k0), .val (.ref d0), .val (.int s0), .val (.int (0 : Int32)), .unset] [(.int (own_uses s0 (own_first k0) d0 a_ApiKey_API_VERSIONS))]))
    refine Wp.step (fun t k => XS.istore X3.here hx rfl (hb hby at_44) rfl (l' := #[.val (.int p0), .val (.int p1), .val (.int k0), .val (.ref d0), .val (.int s0), .val (.int (0 : Int32)), .val (.int (own_uses s0 (own_first k0) d0 a_ApiKey_API_VERSIONS))]) rfl k) ?_
    show Wp p e below _ (T3.setTop (mkF m 46 #[.val (.int p0), .val (.int p1), .val (.int k0), .val (.ref d0), .val (.int s0), .val (.int (0 : Int32)), .val (.int (own_uses s0 (own_first k0) d0 a_ApiKey_API_VERSIONS))] []))
    refine Wp.step (fun t k => XS.iload X3.here hx rfl (hb hby at_46) rfl k) ?_
    show Wp p e below _ (T3.setTop (mkF m 48 #[.val (.int p0), .val (.int p1), .val (.int k0), .val (.ref d0), .val (.int s0), .val (.int (0 : Int32)), .val (.int (own_uses s0 (own_first k0) d0 a_ApiKey_API_VERSIONS))] [(.int (own_uses s0 (own_first k0) d0 a_ApiKey_API_VERSIONS))]))
    refine Wp.step (fun t k => XS.iload X3.here hx rfl (hb hby at_48) rfl k) ?_
    show Wp p e below _ (T3.setTop (mkF m 50 #[.val (.int p0), .val (.int p1), .val (.int k0), .val (.ref d0), .val (.int s0), .val (.int (0 : Int32)), .val (.int (own_uses s0 (own_first k0) d0 a_ApiKey_API_VERSIONS))] [(.int (0 : Int32)), (.int (own_uses s0 (own_first k0) d0 a_ApiKey_API_VERSIONS))]))
    refine Wp.step (fun t k => XS.icmpNo X3.here hx rfl (hb hby at_50) rfl (teq (show (own_uses s0 (own_first k0) d0 a_ApiKey_API_VERSIONS) = (0 : Int32) from (by rw [own_uses, if_pos (I_d0.mpr hc2)]))).2 k) ?_
    show Wp p e below _ (T3.setTop (mkF m 53 #[.val (.int p0), .val (.int p1), .val (.int k0), .val (.ref d0), .val (.int s0), .val (.int (0 : Int32)), .val (.int (own_uses s0 (own_first k0) d0 a_ApiKey_API_VERSIONS))] []))
    refine Wp.step (fun t k => XS.iconst X3.here hx rfl (hb hby at_53) k) ?_
    show Wp p e below _ (T3.setTop (mkF m 54 #[.val (.int p0), .val (.int p1), .val (.int k0), .val (.ref d0), .val (.int s0), .val (.int (0 : Int32)), .val (.int (own_uses s0 (own_first k0) d0 a_ApiKey_API_VERSIONS))] [(.int (1 : Int32))]))
    refine Wp.step (fun t k => XS.goto X3.here hx rfl (pc0 := 54) (pc' := 58) rfl (hb hby at_54) (by decide) (by decide) k) ?_
    show Wp p e below _ (T3.setTop (mkF m 58 #[.val (.int p0), .val (.int p1), .val (.int k0), .val (.ref d0), .val (.int s0), .val (.int (0 : Int32)), .val (.int (own_uses s0 (own_first k0) d0 a_ApiKey_API_VERSIONS))] [(.int (1 : Int32))]))
    refine Wp.retN X3 hx (t := .boolean) Bd.returns (by simp) (hb hby at_58) hlk ?_ (by decide) (by decide)
    show Q0 Z p0 p1 a_ApiKey_METADATA a_ApiKey_SASL_HANDSHAKE a_ApiKey_API_VERSIONS a_ApiKey_CREATE_TOPICS a_ApiKey_DESCRIBE_ACLS a_ApiKey_CREATE_ACLS a_ApiKey_DELETE_ACLS a_ApiKey_DESCRIBE_CONFIGS a_ApiKey_SASL_AUTHENTICATE a_ApiKey_DESCRIBE_CLIENT_QUOTAS a_ApiKey_ALTER_CLIENT_QUOTAS h0 n0 (some (.int (nar .boolean (1 : Int32)))) T3.heap _
    rw [e3]
    exact ⟨rfl, N3⟩
  · refine Wp.step (fun t k => XS.icmpNo X1.here hx rfl (hb hby at_19) rfl (feq hc2).1 k) ?_
    show Wp p e below _ (T1.setTop (mkF m 22 #[.val (.int p0), .val (.int p1), .val (.int k0), .val (.ref d0), .val (.int s0), .unset, .unset] []))
    refine Wp.step (fun t k => XS.iload X1.here hx rfl (hb hby at_22) rfl k) ?_
    show Wp p e below _ (T1.setTop (mkF m 24 #[.val (.int p0), .val (.int p1), .val (.int k0), .val (.ref d0), .val (.int s0), .unset, .unset] [(.int s0)]))
    refine Wp.step (fun t k => XS.iloadN X1.here hx rfl (hb hby at_24) rfl k) ?_
    show Wp p e below _ (T1.setTop (mkF m 25 #[.val (.int p0), .val (.int p1), .val (.int k0), .val (.ref d0), .val (.int s0), .unset, .unset] [(.int k0), (.int s0)]))
    obtain ⟨_, _, ⟨T5, L5, k5, n5⟩, -, X5, ⟨Lc5, hQ5, l5, y5, z5⟩, st5⟩ := Jvm.LawKit.callS X1 hx (y := (⟨"com/example/ulinzi/ulinzi/protocol/ApiKeyUsesResponseHeaderTagsPinLaw", "firstFlexible", "(I)I"⟩ : MethodName)) hown (mvT hZ (hw _ (List.mem_of_getElem? (i := 8) rfl))) (mvT hZ (hw _ (List.mem_of_getElem? (i := 9) rfl))) (mvT hZ (hw _ (List.mem_of_getElem? (i := 3) rfl))) (mvT hZ (hw _ (List.mem_of_getElem? (i := 10) rfl))) (by decide) (backOf (W := 1) (rm2 l Z a0 hw [] k0  h0 n0 (Nat.le_trans Z0 K0.1) ) hZ (hw _ (List.mem_of_getElem? (i := 10) rfl)) (hw _ (List.mem_of_getElem? (i := 3) rfl)) (by decide) (by decide)) (g := (mkF m 25 #[.val (.int p0), .val (.int p1), .val (.int k0), .val (.ref d0), .val (.int s0), .unset, .unset] [(.int k0), (.int s0)])) rfl (by rw [hml]; rfl) (argsL := [(.int k0)]) (rest := [(.int s0)]) (lenOf pd_28I29I rfl) rfl (by show 2 * 0 + _ ≤ _; exact Nat.le_of_eq rfl) (hb hby at_25) (fun _ _ => ⟨rfl, e1, (by decide : 0 + 0 ≤ _), (by decide : 0 + 0 ≤ _)⟩)
    dsimp only [Pt.U, Pt.locs, Pt.cells, Pt.slots] at X5 l5 y5 z5 st5 hQ5
    subst l5 y5 z5
    obtain ⟨rfl, N5q, e5⟩ := hQ5
    have N5 := Fr.app N1 N5q
    refine Wp.step st5 ?_
    show Wp p e below _ (T5.setTop (mkF m 28 #[.val (.int p0), .val (.int p1), .val (.int k0), .val (.ref d0), .val (.int s0), .unset, .unset] [(.int (own_first k0)), (.int s0)]))
    by_cases hc6 : s0 < (own_first k0)
    · refine Wp.step (fun t k => XS.icmpYes X5.here hx rfl (pc0 := 28) (pc' := 35) rfl (hb hby at_28) rfl (tlt hc6).1 (by decide) (by decide) k) ?_
      show Wp p e below _ (T5.setTop (mkF m 35 #[.val (.int p0), .val (.int p1), .val (.int k0), .val (.ref d0), .val (.int s0), .unset, .unset] []))
      refine Wp.step (fun t k => XS.iconst X5.here hx rfl (hb hby at_35) k) ?_
      show Wp p e below _ (T5.setTop (mkF m 36 #[.val (.int p0), .val (.int p1), .val (.int k0), .val (.ref d0), .val (.int s0), .unset, .unset] [(.int (0 : Int32))]))
      refine Wp.step (fun t k => XS.istore X5.here hx rfl (hb hby at_36) rfl (l' := #[.val (.int p0), .val (.int p1), .val (.int k0), .val (.ref d0), .val (.int s0), .val (.int (0 : Int32)), .unset]) rfl k) ?_
      show Wp p e below _ (T5.setTop (mkF m 38 #[.val (.int p0), .val (.int p1), .val (.int k0), .val (.ref d0), .val (.int s0), .val (.int (0 : Int32)), .unset] []))
      refine Wp.step (fun t k => XS.aloadN X5.here hx rfl (hb hby at_38) rfl rfl k) ?_
      show Wp p e below _ (T5.setTop (mkF m 39 #[.val (.int p0), .val (.int p1), .val (.int k0), .val (.ref d0), .val (.int s0), .val (.int (0 : Int32)), .unset] [(.ref d0)]))
      refine Wp.step (fun t k => XS.iload X5.here hx rfl (hb hby at_39) rfl k) ?_
      show Wp p e below _ (T5.setTop (mkF m 41 #[.val (.int p0), .val (.int p1), .val (.int k0), .val (.ref d0), .val (.int s0), .val (.int (0 : Int32)), .unset] [(.int s0), (.ref d0)]))
      obtain ⟨cq7, kq7, q7a, q7b, q7c⟩ := isOf hZ e5 E_d0
      obtain ⟨_, _, ⟨T7, L7, k7, n7⟩, -, X7, ⟨Lc7, hQ7, l7, y7, z7⟩, st7⟩ := X5.virtualBack hx (y := (⟨"com/example/ulinzi/ulinzi/protocol/ApiKey", "usesResponseHeaderTags", "(S)Z"⟩ : MethodName)) (z := (⟨"com/example/ulinzi/ulinzi/protocol/ApiKey", "usesResponseHeaderTags", "(S)Z"⟩ : MethodName)) hown (mvT hZ (hw _ (List.mem_of_getElem? (i := 11) rfl))) (mvT hZ (hw _ (List.mem_of_getElem? (i := 12) rfl))) (notFace_of_selects (args := #[]) (mvT hZ (hw _ (List.mem_of_getElem? (i := 14) rfl)))) (mvT hZ (hw _ (List.mem_of_getElem? (i := 14) rfl))) (mvT hZ (hw _ (List.mem_of_getElem? (i := 13) rfl))) (by decide) (backOf (W := 0) (rm3 l Z a0 hw [] d0 s0 (own_first k0) a_ApiKey_API_VERSIONS h0 n0 (Nat.le_trans Z0 K0.1) F_d0 E_d0 S_a_ApiKey_API_VERSIONS) hZ (hw _ (List.mem_of_getElem? (i := 15) rfl)) (hw _ (List.mem_of_getElem? (i := 6) rfl)) (by decide) (by decide)) q7a q7c (g := (mkF m 41 #[.val (.int p0), .val (.int p1), .val (.int k0), .val (.ref d0), .val (.int s0), .val (.int (0 : Int32)), .unset] [(.int s0), (.ref d0)])) rfl (by rw [hml]; rfl) (Steps.refl _) (argsL := [(.int s0)]) (rest := []) (lenOf pd_28S29Z rfl) rfl (by show 2 * 0 + _ ≤ _; exact Nat.le_of_eq rfl) (hb hby at_41) (fun _ _ => ⟨rfl, e5, (by decide : 0 + 0 ≤ _), (by decide : 0 + 0 ≤ _)⟩)
      dsimp only [Pt.U, Pt.locs, Pt.cells, Pt.slots] at X7 l7 y7 z7 st7 hQ7
      subst l7 y7 z7
      obtain ⟨rfl, N7q, e7⟩ := hQ7
      have N7 := Fr.app N5 N7q
      refine Wp.go st7 ?_
      show Wp p e below _ (T7.setTop (mkF m 44 #[.val (.int p0), .val (.int p1), .val (.int k0), .val (.ref d0), .val (.int s0), .val (.int (0 : Int32)), .unset] [(.int (own_uses s0 (own_first k0) d0 a_ApiKey_API_VERSIONS))]))
      refine Wp.step (fun t k => XS.istore X7.here hx rfl (hb hby at_44) rfl (l' := #[.val (.int p0), .val (.int p1), .val (.int k0), .val (.ref d0), .val (.int s0), .val (.int (0 : Int32)), .val (.int (own_uses s0 (own_first k0) d0 a_ApiKey_API_VERSIONS))]) rfl k) ?_
      show Wp p e below _ (T7.setTop (mkF m 46 #[.val (.int p0), .val (.int p1), .val (.int k0), .val (.ref d0), .val (.int s0), .val (.int (0 : Int32)), .val (.int (own_uses s0 (own_first k0) d0 a_ApiKey_API_VERSIONS))] []))
      refine Wp.step (fun t k => XS.iload X7.here hx rfl (hb hby at_46) rfl k) ?_
      show Wp p e below _ (T7.setTop (mkF m 48 #[.val (.int p0), .val (.int p1), .val (.int k0), .val (.ref d0), .val (.int s0), .val (.int (0 : Int32)), .val (.int (own_uses s0 (own_first k0) d0 a_ApiKey_API_VERSIONS))] [(.int (own_uses s0 (own_first k0) d0 a_ApiKey_API_VERSIONS))]))
      refine Wp.step (fun t k => XS.iload X7.here hx rfl (hb hby at_48) rfl k) ?_
      show Wp p e below _ (T7.setTop (mkF m 50 #[.val (.int p0), .val (.int p1), .val (.int k0), .val (.ref d0), .val (.int s0), .val (.int (0 : Int32)), .val (.int (own_uses s0 (own_first k0) d0 a_ApiKey_API_VERSIONS))] [(.int (0 : Int32)), (.int (own_uses s0 (own_first k0) d0 a_ApiKey_API_VERSIONS))]))
      refine Wp.step (fun t k => XS.icmpNo X7.here hx rfl (hb hby at_50) rfl (teq (show (own_uses s0 (own_first k0) d0 a_ApiKey_API_VERSIONS) = (0 : Int32) from (by rw [own_uses, if_neg (fun q => hc2 (I_d0.mp q)), own_flex, if_pos hc6]))).2 k) ?_
      show Wp p e below _ (T7.setTop (mkF m 53 #[.val (.int p0), .val (.int p1), .val (.int k0), .val (.ref d0), .val (.int s0), .val (.int (0 : Int32)), .val (.int (own_uses s0 (own_first k0) d0 a_ApiKey_API_VERSIONS))] []))
      refine Wp.step (fun t k => XS.iconst X7.here hx rfl (hb hby at_53) k) ?_
      show Wp p e below _ (T7.setTop (mkF m 54 #[.val (.int p0), .val (.int p1), .val (.int k0), .val (.ref d0), .val (.int s0), .val (.int (0 : Int32)), .val (.int (own_uses s0 (own_first k0) d0 a_ApiKey_API_VERSIONS))] [(.int (1 : Int32))]))
      refine Wp.step (fun t k => XS.goto X7.here hx rfl (pc0 := 54) (pc' := 58) rfl (hb hby at_54) (by decide) (by decide) k) ?_
      show Wp p e below _ (T7.setTop (mkF m 58 #[.val (.int p0), .val (.int p1), .val (.int k0), .val (.ref d0), .val (.int s0), .val (.int (0 : Int32)), .val (.int (own_uses s0 (own_first k0) d0 a_ApiKey_API_VERSIONS))] [(.int (1 : Int32))]))
      refine Wp.retN X7 hx (t := .boolean) Bd.returns (by simp) (hb hby at_58) hlk ?_ (by decide) (by decide)
      show Q0 Z p0 p1 a_ApiKey_METADATA a_ApiKey_SASL_HANDSHAKE a_ApiKey_API_VERSIONS a_ApiKey_CREATE_TOPICS a_ApiKey_DESCRIBE_ACLS a_ApiKey_CREATE_ACLS a_ApiKey_DELETE_ACLS a_ApiKey_DESCRIBE_CONFIGS a_ApiKey_SASL_AUTHENTICATE a_ApiKey_DESCRIBE_CLIENT_QUOTAS a_ApiKey_ALTER_CLIENT_QUOTAS h0 n0 (some (.int (nar .boolean (1 : Int32)))) T7.heap _
      rw [e7]
      exact ⟨rfl, N7⟩
    · refine Wp.step (fun t k => XS.icmpNo X5.here hx rfl (hb hby at_28) rfl (flt hc6).1 k) ?_
      show Wp p e below _ (T5.setTop (mkF m 31 #[.val (.int p0), .val (.int p1), .val (.int k0), .val (.ref d0), .val (.int s0), .unset, .unset] []))
      refine Wp.step (fun t k => XS.iconst X5.here hx rfl (hb hby at_31) k) ?_
      show Wp p e below _ (T5.setTop (mkF m 32 #[.val (.int p0), .val (.int p1), .val (.int k0), .val (.ref d0), .val (.int s0), .unset, .unset] [(.int (1 : Int32))]))
      refine Wp.step (fun t k => XS.goto X5.here hx rfl (pc0 := 32) (pc' := 36) rfl (hb hby at_32) (by decide) (by decide) k) ?_
      show Wp p e below _ (T5.setTop (mkF m 36 #[.val (.int p0), .val (.int p1), .val (.int k0), .val (.ref d0), .val (.int s0), .unset, .unset] [(.int (1 : Int32))]))
      refine Wp.step (fun t k => XS.istore X5.here hx rfl (hb hby at_36) rfl (l' := #[.val (.int p0), .val (.int p1), .val (.int k0), .val (.ref d0), .val (.int s0), .val (.int (1 : Int32)), .unset]) rfl k) ?_
      show Wp p e below _ (T5.setTop (mkF m 38 #[.val (.int p0), .val (.int p1), .val (.int k0), .val (.ref d0), .val (.int s0), .val (.int (1 : Int32)), .unset] []))
      refine Wp.step (fun t k => XS.aloadN X5.here hx rfl (hb hby at_38) rfl rfl k) ?_
      show Wp p e below _ (T5.setTop (mkF m 39 #[.val (.int p0), .val (.int p1), .val (.int k0), .val (.ref d0), .val (.int s0), .val (.int (1 : Int32)), .unset] [(.ref d0)]))
      refine Wp.step (fun t k => XS.iload X5.here hx rfl (hb hby at_39) rfl k) ?_
      show Wp p e below _ (T5.setTop (mkF m 41 #[.val (.int p0), .val (.int p1), .val (.int k0), .val (.ref d0), .val (.int s0), .val (.int (1 : Int32)), .unset] [(.int s0), (.ref d0)]))
      obtain ⟨cq9, kq9, q9a, q9b, q9c⟩ := isOf hZ e5 E_d0
      obtain ⟨_, _, ⟨T9, L9, k9, n9⟩, -, X9, ⟨Lc9, hQ9, l9, y9, z9⟩, st9⟩ := X5.virtualBack hx (y := (⟨"com/example/ulinzi/ulinzi/protocol/ApiKey", "usesResponseHeaderTags", "(S)Z"⟩ : MethodName)) (z := (⟨"com/example/ulinzi/ulinzi/protocol/ApiKey", "usesResponseHeaderTags", "(S)Z"⟩ : MethodName)) hown (mvT hZ (hw _ (List.mem_of_getElem? (i := 11) rfl))) (mvT hZ (hw _ (List.mem_of_getElem? (i := 12) rfl))) (notFace_of_selects (args := #[]) (mvT hZ (hw _ (List.mem_of_getElem? (i := 14) rfl)))) (mvT hZ (hw _ (List.mem_of_getElem? (i := 14) rfl))) (mvT hZ (hw _ (List.mem_of_getElem? (i := 13) rfl))) (by decide) (backOf (W := 0) (rm3 l Z a0 hw [] d0 s0 (own_first k0) a_ApiKey_API_VERSIONS h0 n0 (Nat.le_trans Z0 K0.1) F_d0 E_d0 S_a_ApiKey_API_VERSIONS) hZ (hw _ (List.mem_of_getElem? (i := 15) rfl)) (hw _ (List.mem_of_getElem? (i := 6) rfl)) (by decide) (by decide)) q9a q9c (g := (mkF m 41 #[.val (.int p0), .val (.int p1), .val (.int k0), .val (.ref d0), .val (.int s0), .val (.int (1 : Int32)), .unset] [(.int s0), (.ref d0)])) rfl (by rw [hml]; rfl) (Steps.refl _) (argsL := [(.int s0)]) (rest := []) (lenOf pd_28S29Z rfl) rfl (by show 2 * 0 + _ ≤ _; exact Nat.le_of_eq rfl) (hb hby at_41) (fun _ _ => ⟨rfl, e5, (by decide : 0 + 0 ≤ _), (by decide : 0 + 0 ≤ _)⟩)
      dsimp only [Pt.U, Pt.locs, Pt.cells, Pt.slots] at X9 l9 y9 z9 st9 hQ9
      subst l9 y9 z9
      obtain ⟨rfl, N9q, e9⟩ := hQ9
      have N9 := Fr.app N5 N9q
      refine Wp.go st9 ?_
      show Wp p e below _ (T9.setTop (mkF m 44 #[.val (.int p0), .val (.int p1), .val (.int k0), .val (.ref d0), .val (.int s0), .val (.int (1 : Int32)), .unset] [(.int (own_uses s0 (own_first k0) d0 a_ApiKey_API_VERSIONS))]))
      refine Wp.step (fun t k => XS.istore X9.here hx rfl (hb hby at_44) rfl (l' := #[.val (.int p0), .val (.int p1), .val (.int k0), .val (.ref d0), .val (.int s0), .val (.int (1 : Int32)), .val (.int (own_uses s0 (own_first k0) d0 a_ApiKey_API_VERSIONS))]) rfl k) ?_
      show Wp p e below _ (T9.setTop (mkF m 46 #[.val (.int p0), .val (.int p1), .val (.int k0), .val (.ref d0), .val (.int s0), .val (.int (1 : Int32)), .val (.int (own_uses s0 (own_first k0) d0 a_ApiKey_API_VERSIONS))] []))
      refine Wp.step (fun t k => XS.iload X9.here hx rfl (hb hby at_46) rfl k) ?_
      show Wp p e below _ (T9.setTop (mkF m 48 #[.val (.int p0), .val (.int p1), .val (.int k0), .val (.ref d0), .val (.int s0), .val (.int (1 : Int32)), .val (.int (own_uses s0 (own_first k0) d0 a_ApiKey_API_VERSIONS))] [(.int (own_uses s0 (own_first k0) d0 a_ApiKey_API_VERSIONS))]))
      refine Wp.step (fun t k => XS.iload X9.here hx rfl (hb hby at_48) rfl k) ?_
      show Wp p e below _ (T9.setTop (mkF m 50 #[.val (.int p0), .val (.int p1), .val (.int k0), .val (.ref d0), .val (.int s0), .val (.int (1 : Int32)), .val (.int (own_uses s0 (own_first k0) d0 a_ApiKey_API_VERSIONS))] [(.int (1 : Int32)), (.int (own_uses s0 (own_first k0) d0 a_ApiKey_API_VERSIONS))]))
      refine Wp.step (fun t k => XS.icmpNo X9.here hx rfl (hb hby at_50) rfl (teq (show (own_uses s0 (own_first k0) d0 a_ApiKey_API_VERSIONS) = (1 : Int32) from (by rw [own_uses, if_neg (fun q => hc2 (I_d0.mp q)), own_flex, if_neg hc6]))).2 k) ?_
      show Wp p e below _ (T9.setTop (mkF m 53 #[.val (.int p0), .val (.int p1), .val (.int k0), .val (.ref d0), .val (.int s0), .val (.int (1 : Int32)), .val (.int (own_uses s0 (own_first k0) d0 a_ApiKey_API_VERSIONS))] []))
      refine Wp.step (fun t k => XS.iconst X9.here hx rfl (hb hby at_53) k) ?_
      show Wp p e below _ (T9.setTop (mkF m 54 #[.val (.int p0), .val (.int p1), .val (.int k0), .val (.ref d0), .val (.int s0), .val (.int (1 : Int32)), .val (.int (own_uses s0 (own_first k0) d0 a_ApiKey_API_VERSIONS))] [(.int (1 : Int32))]))
      refine Wp.step (fun t k => XS.goto X9.here hx rfl (pc0 := 54) (pc' := 58) rfl (hb hby at_54) (by decide) (by decide) k) ?_
      show Wp p e below _ (T9.setTop (mkF m 58 #[.val (.int p0), .val (.int p1), .val (.int k0), .val (.ref d0), .val (.int s0), .val (.int (1 : Int32)), .val (.int (own_uses s0 (own_first k0) d0 a_ApiKey_API_VERSIONS))] [(.int (1 : Int32))]))
      refine Wp.retN X9 hx (t := .boolean) Bd.returns (by simp) (hb hby at_58) hlk ?_ (by decide) (by decide)
      show Q0 Z p0 p1 a_ApiKey_METADATA a_ApiKey_SASL_HANDSHAKE a_ApiKey_API_VERSIONS a_ApiKey_CREATE_TOPICS a_ApiKey_DESCRIBE_ACLS a_ApiKey_CREATE_ACLS a_ApiKey_DELETE_ACLS a_ApiKey_DESCRIBE_CONFIGS a_ApiKey_SASL_AUTHENTICATE a_ApiKey_DESCRIBE_CLIENT_QUOTAS a_ApiKey_ALTER_CLIENT_QUOTAS h0 n0 (some (.int (nar .boolean (1 : Int32)))) T9.heap _
      rw [e9]
      exact ⟨rfl, N9⟩
set_option maxRecDepth 65536 in
set_option maxHeartbeats 40000000 in
theorem comes_1 {Post : Tables → Env → Array Value → State → Outcome → State → Prop} (hpost : ∀ tb e args s v u, (limb_1_1.after args s (.returned v) u = true ∧ limb_1_2.after args s (.returned v) u = true ∧ True) → FrameEnd s (.returned v) u (Jvm.fieldLocs frame_1_writes args s ++ Jvm.arrayLocs frame_1_arrays args s ++ Jvm.staticLocs frame_1_statics s) 0 0 → Post tb e args s (.returned v) u) :
    ArmFor flags0 classFile x code maxLocals ret World_1 tables_1 room_1 Calls_1 rest_1 Pre_1 Post := by
  intro l hfl _ _ p e ha hc hk s m args below hf hA hF happ hP
  obtain ⟨hcalls, hrest, hpre⟩ := hP
  obtain ⟨-, -, -, hnamed, -, -, -, hat⟩ := (Spec.applies_iff hf).mp happ
  obtain ⟨hg, hn⟩ := and_e (Cond.before_iff.mp (show (Jvm.Cond.and given_1 narrow_1).before args s = true from hpre))
  obtain ⟨hcnt, hr0⟩ := and_e hg
  obtain ⟨hi0, hi1⟩ := and_e hr0
  obtain ⟨w0, w1, rfl⟩ : ∃ w0 w1 : Value, args = #[w0, w1] := by
    have hs : args.size = 2 := by simpa [Cond.value, given_1] using hcnt
    obtain ⟨L⟩ := args
    match L, hs with
    | [w0, w1], _ => exact ⟨w0, w1, rfl⟩
  have hw := fun d (hd : d ∈ tables_1) => atoms_spec (ws := Jvm.Cond.code x code maxLocals ret :: tables_1) hat d (List.mem_cons_of_mem _ hd)
  have hfit : Fit s := fun {y c} hc i hi => by
    obtain ⟨ha, rfl⟩ := Array.getElem?_eq_some_iff.mp hc
    have q := List.all_eq_true.mp ((Array.all_eq_true_iff_forall_mem.mp hF) _ (Array.getElem_mem ha)) i (List.mem_range.mpr hi)
    simpa [Array.getElem?_eq_getElem hi] using q
  obtain ⟨i0, ei0⟩ := is_v hi0
  obtain rfl : w0 = (.int i0) := Option.some.inj ei0
  obtain ⟨i1, ei1⟩ := is_v hi1
  obtain rfl : w1 = (.int i1) := Option.some.inj ei1
  obtain ⟨nn0, nr0⟩ := and_e hn
  obtain ⟨a_ApiKey_METADATA, ev_a_ApiKey_METADATA⟩ := exa_v nn0
  have E_a_ApiKey_METADATA := Exa.start ev_a_ApiKey_METADATA nn0
  have S_a_ApiKey_METADATA := Sta.start ev_a_ApiKey_METADATA (Or.inr ⟨(hw _ (List.mem_of_getElem? (i := 6) rfl)), (hw _ (List.mem_of_getElem? (i := 7) rfl))⟩)
  obtain ⟨nn1, nr1⟩ := and_e nr0
  obtain ⟨a_ApiKey_API_VERSIONS, ev_a_ApiKey_API_VERSIONS⟩ := exa_v nn1
  have E_a_ApiKey_API_VERSIONS := Exa.start ev_a_ApiKey_API_VERSIONS nn1
  have S_a_ApiKey_API_VERSIONS := Sta.start ev_a_ApiKey_API_VERSIONS (Or.inr ⟨(hw _ (List.mem_of_getElem? (i := 6) rfl)), (hw _ (List.mem_of_getElem? (i := 17) rfl))⟩)
  obtain ⟨nn2, nr2⟩ := and_e nr1
  have F_ordinal_a_ApiKey_METADATA := own_fld ev_a_ApiKey_METADATA nn2
  obtain ⟨nn3, nr3⟩ := and_e nr2
  have F_ordinal_a_ApiKey_API_VERSIONS := own_fld ev_a_ApiKey_API_VERSIONS nn3
  obtain ⟨nn4, nr4⟩ := and_e nr3
  have F_firstFlexibleVersion_a_ApiKey_METADATA := own_fld ev_a_ApiKey_METADATA nn4
  obtain ⟨nn5, nr5⟩ := and_e nr4
  obtain ⟨a_ApiKey_CREATE_TOPICS, ev_a_ApiKey_CREATE_TOPICS⟩ := exa_v nn5
  have E_a_ApiKey_CREATE_TOPICS := Exa.start ev_a_ApiKey_CREATE_TOPICS nn5
  have S_a_ApiKey_CREATE_TOPICS := Sta.start ev_a_ApiKey_CREATE_TOPICS (Or.inr ⟨(hw _ (List.mem_of_getElem? (i := 6) rfl)), (hw _ (List.mem_of_getElem? (i := 26) rfl))⟩)
  obtain ⟨nn6, nr6⟩ := and_e nr5
  have F_ordinal_a_ApiKey_CREATE_TOPICS := own_fld ev_a_ApiKey_CREATE_TOPICS nn6
  obtain ⟨nn7, nr7⟩ := and_e nr6
  have F_firstFlexibleVersion_a_ApiKey_CREATE_TOPICS := own_fld ev_a_ApiKey_CREATE_TOPICS nn7
  obtain ⟨nn8, nr8⟩ := and_e nr7
  obtain ⟨a_ApiKey_DESCRIBE_CLIENT_QUOTAS, ev_a_ApiKey_DESCRIBE_CLIENT_QUOTAS⟩ := exa_v nn8
  have E_a_ApiKey_DESCRIBE_CLIENT_QUOTAS := Exa.start ev_a_ApiKey_DESCRIBE_CLIENT_QUOTAS nn8
  have S_a_ApiKey_DESCRIBE_CLIENT_QUOTAS := Sta.start ev_a_ApiKey_DESCRIBE_CLIENT_QUOTAS (Or.inr ⟨(hw _ (List.mem_of_getElem? (i := 6) rfl)), (hw _ (List.mem_of_getElem? (i := 28) rfl))⟩)
  obtain ⟨nn9, nr9⟩ := and_e nr8
  have F_ordinal_a_ApiKey_DESCRIBE_CLIENT_QUOTAS := own_fld ev_a_ApiKey_DESCRIBE_CLIENT_QUOTAS nn9
  obtain ⟨nn10, nr10⟩ := and_e nr9
  have F_firstFlexibleVersion_a_ApiKey_DESCRIBE_CLIENT_QUOTAS := own_fld ev_a_ApiKey_DESCRIBE_CLIENT_QUOTAS nn10
  obtain ⟨nn11, nr11⟩ := and_e nr10
  obtain ⟨a_ApiKey_CREATE_ACLS, ev_a_ApiKey_CREATE_ACLS⟩ := exa_v nn11
  have E_a_ApiKey_CREATE_ACLS := Exa.start ev_a_ApiKey_CREATE_ACLS nn11
  have S_a_ApiKey_CREATE_ACLS := Sta.start ev_a_ApiKey_CREATE_ACLS (Or.inr ⟨(hw _ (List.mem_of_getElem? (i := 6) rfl)), (hw _ (List.mem_of_getElem? (i := 30) rfl))⟩)
  obtain ⟨nn12, nr12⟩ := and_e nr11
  have F_ordinal_a_ApiKey_CREATE_ACLS := own_fld ev_a_ApiKey_CREATE_ACLS nn12
  obtain ⟨nn13, nr13⟩ := and_e nr12
  have F_firstFlexibleVersion_a_ApiKey_CREATE_ACLS := own_fld ev_a_ApiKey_CREATE_ACLS nn13
  obtain ⟨nn14, nr14⟩ := and_e nr13
  obtain ⟨a_ApiKey_DELETE_ACLS, ev_a_ApiKey_DELETE_ACLS⟩ := exa_v nn14
  have E_a_ApiKey_DELETE_ACLS := Exa.start ev_a_ApiKey_DELETE_ACLS nn14
  have S_a_ApiKey_DELETE_ACLS := Sta.start ev_a_ApiKey_DELETE_ACLS (Or.inr ⟨(hw _ (List.mem_of_getElem? (i := 6) rfl)), (hw _ (List.mem_of_getElem? (i := 32) rfl))⟩)
  obtain ⟨nn15, nr15⟩ := and_e nr14
  have F_ordinal_a_ApiKey_DELETE_ACLS := own_fld ev_a_ApiKey_DELETE_ACLS nn15
  obtain ⟨nn16, nr16⟩ := and_e nr15
  have F_firstFlexibleVersion_a_ApiKey_DELETE_ACLS := own_fld ev_a_ApiKey_DELETE_ACLS nn16
  obtain ⟨nn17, nr17⟩ := and_e nr16
  obtain ⟨a_ApiKey_SASL_AUTHENTICATE, ev_a_ApiKey_SASL_AUTHENTICATE⟩ := exa_v nn17
  have E_a_ApiKey_SASL_AUTHENTICATE := Exa.start ev_a_ApiKey_SASL_AUTHENTICATE nn17
  have S_a_ApiKey_SASL_AUTHENTICATE := Sta.start ev_a_ApiKey_SASL_AUTHENTICATE (Or.inr ⟨(hw _ (List.mem_of_getElem? (i := 6) rfl)), (hw _ (List.mem_of_getElem? (i := 34) rfl))⟩)
  obtain ⟨nn18, nr18⟩ := and_e nr17
  have F_ordinal_a_ApiKey_SASL_AUTHENTICATE := own_fld ev_a_ApiKey_SASL_AUTHENTICATE nn18
  obtain ⟨nn19, nr19⟩ := and_e nr18
  have F_firstFlexibleVersion_a_ApiKey_SASL_AUTHENTICATE := own_fld ev_a_ApiKey_SASL_AUTHENTICATE nn19
  obtain ⟨nn20, nr20⟩ := and_e nr19
  obtain ⟨a_ApiKey_SASL_HANDSHAKE, ev_a_ApiKey_SASL_HANDSHAKE⟩ := exa_v nn20
  have E_a_ApiKey_SASL_HANDSHAKE := Exa.start ev_a_ApiKey_SASL_HANDSHAKE nn20
  have S_a_ApiKey_SASL_HANDSHAKE := Sta.start ev_a_ApiKey_SASL_HANDSHAKE (Or.inr ⟨(hw _ (List.mem_of_getElem? (i := 6) rfl)), (hw _ (List.mem_of_getElem? (i := 36) rfl))⟩)
  obtain ⟨nn21, nr21⟩ := and_e nr20
  have F_ordinal_a_ApiKey_SASL_HANDSHAKE := own_fld ev_a_ApiKey_SASL_HANDSHAKE nn21
  obtain ⟨nn22, nr22⟩ := and_e nr21
  have F_firstFlexibleVersion_a_ApiKey_SASL_HANDSHAKE := own_fld ev_a_ApiKey_SASL_HANDSHAKE nn22
  obtain ⟨nn23, nr23⟩ := and_e nr22
  obtain ⟨a_ApiKey_ALTER_CLIENT_QUOTAS, ev_a_ApiKey_ALTER_CLIENT_QUOTAS⟩ := exa_v nn23
  have E_a_ApiKey_ALTER_CLIENT_QUOTAS := Exa.start ev_a_ApiKey_ALTER_CLIENT_QUOTAS nn23
  have S_a_ApiKey_ALTER_CLIENT_QUOTAS := Sta.start ev_a_ApiKey_ALTER_CLIENT_QUOTAS (Or.inr ⟨(hw _ (List.mem_of_getElem? (i := 6) rfl)), (hw _ (List.mem_of_getElem? (i := 39) rfl))⟩)
  obtain ⟨nn24, nr24⟩ := and_e nr23
  have F_ordinal_a_ApiKey_ALTER_CLIENT_QUOTAS := own_fld ev_a_ApiKey_ALTER_CLIENT_QUOTAS nn24
  obtain ⟨nn25, nr25⟩ := and_e nr24
  have F_firstFlexibleVersion_a_ApiKey_ALTER_CLIENT_QUOTAS := own_fld ev_a_ApiKey_ALTER_CLIENT_QUOTAS nn25
  obtain ⟨nn26, nr26⟩ := and_e nr25
  obtain ⟨a_ApiKey_DESCRIBE_CONFIGS, ev_a_ApiKey_DESCRIBE_CONFIGS⟩ := exa_v nn26
  have E_a_ApiKey_DESCRIBE_CONFIGS := Exa.start ev_a_ApiKey_DESCRIBE_CONFIGS nn26
  have S_a_ApiKey_DESCRIBE_CONFIGS := Sta.start ev_a_ApiKey_DESCRIBE_CONFIGS (Or.inr ⟨(hw _ (List.mem_of_getElem? (i := 6) rfl)), (hw _ (List.mem_of_getElem? (i := 41) rfl))⟩)
  obtain ⟨nn27, nr27⟩ := and_e nr26
  have F_ordinal_a_ApiKey_DESCRIBE_CONFIGS := own_fld ev_a_ApiKey_DESCRIBE_CONFIGS nn27
  obtain ⟨nn28, nr28⟩ := and_e nr27
  have F_firstFlexibleVersion_a_ApiKey_DESCRIBE_CONFIGS := own_fld ev_a_ApiKey_DESCRIBE_CONFIGS nn28
  obtain ⟨nn29, nr29⟩ := and_e nr28
  obtain ⟨a_ApiKey_DESCRIBE_ACLS, ev_a_ApiKey_DESCRIBE_ACLS⟩ := exa_v nn29
  have E_a_ApiKey_DESCRIBE_ACLS := Exa.start ev_a_ApiKey_DESCRIBE_ACLS nn29
  have S_a_ApiKey_DESCRIBE_ACLS := Sta.start ev_a_ApiKey_DESCRIBE_ACLS (Or.inr ⟨(hw _ (List.mem_of_getElem? (i := 6) rfl)), (hw _ (List.mem_of_getElem? (i := 43) rfl))⟩)
  obtain ⟨nn30, nr30⟩ := and_e nr29
  have F_ordinal_a_ApiKey_DESCRIBE_ACLS := own_fld ev_a_ApiKey_DESCRIBE_ACLS nn30
  obtain ⟨nn31, nr31⟩ := and_e nr30
  have F_firstFlexibleVersion_a_ApiKey_DESCRIBE_ACLS := own_fld ev_a_ApiKey_DESCRIBE_ACLS nn31
  have F_firstFlexibleVersion_a_ApiKey_API_VERSIONS := own_fld ev_a_ApiKey_API_VERSIONS nr31
  obtain ⟨n, o, h1, h2, h3, _, L, rfl, ⟨rfl, N⟩, hq⟩ := rm0 l s _ hw tables_1 i0 i1 a_ApiKey_METADATA a_ApiKey_SASL_HANDSHAKE a_ApiKey_API_VERSIONS a_ApiKey_CREATE_TOPICS a_ApiKey_DESCRIBE_ACLS a_ApiKey_CREATE_ACLS a_ApiKey_DELETE_ACLS a_ApiKey_DESCRIBE_CONFIGS a_ApiKey_SASL_AUTHENTICATE a_ApiKey_DESCRIBE_CLIENT_QUOTAS a_ApiKey_ALTER_CLIENT_QUOTAS s.heap s.heap.size (Nat.le_refl _) S_a_ApiKey_METADATA E_a_ApiKey_METADATA F_firstFlexibleVersion_a_ApiKey_METADATA S_a_ApiKey_SASL_HANDSHAKE E_a_ApiKey_SASL_HANDSHAKE F_firstFlexibleVersion_a_ApiKey_SASL_HANDSHAKE S_a_ApiKey_API_VERSIONS E_a_ApiKey_API_VERSIONS F_firstFlexibleVersion_a_ApiKey_API_VERSIONS S_a_ApiKey_CREATE_TOPICS E_a_ApiKey_CREATE_TOPICS F_firstFlexibleVersion_a_ApiKey_CREATE_TOPICS S_a_ApiKey_DESCRIBE_ACLS E_a_ApiKey_DESCRIBE_ACLS F_firstFlexibleVersion_a_ApiKey_DESCRIBE_ACLS S_a_ApiKey_CREATE_ACLS E_a_ApiKey_CREATE_ACLS F_firstFlexibleVersion_a_ApiKey_CREATE_ACLS S_a_ApiKey_DELETE_ACLS E_a_ApiKey_DELETE_ACLS F_firstFlexibleVersion_a_ApiKey_DELETE_ACLS S_a_ApiKey_DESCRIBE_CONFIGS E_a_ApiKey_DESCRIBE_CONFIGS F_firstFlexibleVersion_a_ApiKey_DESCRIBE_CONFIGS S_a_ApiKey_SASL_AUTHENTICATE E_a_ApiKey_SASL_AUTHENTICATE F_firstFlexibleVersion_a_ApiKey_SASL_AUTHENTICATE S_a_ApiKey_DESCRIBE_CLIENT_QUOTAS E_a_ApiKey_DESCRIBE_CLIENT_QUOTAS F_firstFlexibleVersion_a_ApiKey_DESCRIBE_CLIENT_QUOTAS S_a_ApiKey_ALTER_CLIENT_QUOTAS E_a_ApiKey_ALTER_CLIENT_QUOTAS F_firstFlexibleVersion_a_ApiKey_ALTER_CLIENT_QUOTAS p e ha hc hk s m _ below hf ((Spec.applies_iff_loose hf).mp happ).1 ⟨rfl, State.Warmed39.refl s, rfl⟩ trivial
  refine ⟨n, _, h1, h2, h3, hpost _ _ _ _ _ _ ⟨Cond.after_iff.mpr rfl, Cond.after_iff.mpr (eq_i res_at (Term.int_eval (1)) rfl), trivial⟩ ⟨hq.1, hq.2.1, (hq.2.2.sift fun y hy => Or.inr (N y hy)).mono (by decide) (by decide)⟩⟩
theorem main_1_1 : Claimed_1_1 := comes_1 fun _ _ _ _ _ _ h hF => ⟨h.1, hF⟩
theorem main_1_2 : Claimed_1_2 := comes_1 fun _ _ _ _ _ _ h hF => ⟨h.2.1, hF⟩
end Jvm.Pilot.@@N@@
namespace Jvm.Pilot.@@N@@
open Jvm Jvm.ClassFile Sem Op Lib Jvm.Free Jvm.Stand Jvm.Pilot.@@N@@.Jvm.D
/-! MADE BY PROGRAM (witnessworld.py) out of the Statement's table words and the real class files: 12 classes; the members and pool entries that the words name. The judged class is class 1, her method 3. -/
namespace start1
open Jvm.ClassFile
def u (s : String) : CpInfo := .utf8 (stringToUtf16 s)
/-- a pool by its gaps: so many unusable entries, then the entry; so many at the end -/
def gap : Nat → List CpInfo → List CpInfo
  | 0, r => r
  | n + 1, r => .unusable :: gap n r
def poolList (es : List (Nat × CpInfo)) (last : Nat) : List CpInfo := es.foldr (fun e r => gap e.1 (e.2 :: r)) (gap last [])
def pool (es : List (Nat × CpInfo)) (last : Nat) : Array CpInfo := ⟨poolList es last⟩
def fileOf (pool : Array CpInfo) (this : Nat) (attrs : Array Attribute := #[]) (ms : Array MethodInfo := #[]) (fl : Nat := 33) (sup : Nat := 0) (ifs : Array Nat := #[]) (fds : Array FieldInfo := #[]) : ClassFile where
  minorVersion := 0
  majorVersion := 65
  constantPool := pool
  accessFlags := fl
  thisClass := this
  superClass := sup
  interfaces := ifs
  fields := fds
  methods := ms
  attributes := attrs
def plain (name : String) (sup : Option ClassId) : Class where
  name := name
  kind := .ordinary
  loader := none
  accessFlags := 33
  super := sup
  interfaces := #[]
  cf := none
  fields := #[]
  methods := #[]
  instanceTypes := #[]
  staticTypes := #[]
  resolved := #[]
  callSites := []
  init := .initialized
  statics := none
  mirror := none

def pool0 : Array CpInfo := pool [(5, u "<init>"), (0, u "()V"), (1, .class_ 10), (1, u "java/lang/Object")] 113

def k0m0 : Method := { name := "<init>", desc := "()V", sig := { parameters := [], returnType := none }, accessFlags := 1, code := none }
/-- java/lang/Object -/
def k0 : Class := { plain "java/lang/Object" none with
  accessFlags := 33
  interfaces := #[]
  cf := some (fileOf pool0 8 #[] #[{ accessFlags := 1, nameIndex := 5, descriptorIndex := 6, attributes := #[] }] 33 0 #[] #[])
  fields := #[]
  methods := #[k0m0]
  instanceTypes := #[]
  staticTypes := #[]
  resolved := Array.replicate 124 none
  statics := none }

def pool1 : Array CpInfo := pool [(2, .class_ 4), (1, u "java/lang/Object"), (0, u "<init>"), (0, u "()V"), (0, .fieldref 8 9), (0, .class_ 10), (0, .nameAndType 11 12), (0, u "com/example/ulinzi/ulinzi/protocol/ApiKey"), (0, u "METADATA"), (0, u "Lcom/example/ulinzi/ulinzi/protocol/ApiKey;"), (0, .fieldref 8 14), (0, .nameAndType 15 12), (0, u "SASL_HANDSHAKE"), (0, .fieldref 8 17), (0, .nameAndType 18 12), (0, u "API_VERSIONS"), (0, .fieldref 8 20), (0, .nameAndType 21 12), (0, u "CREATE_TOPICS"), (0, .fieldref 8 23), (0, .nameAndType 24 12), (0, u "DESCRIBE_ACLS"), (0, .fieldref 8 26), (0, .nameAndType 27 12), (0, u "CREATE_ACLS"), (0, .fieldref 8 29), (0, .nameAndType 30 12), (0, u "DELETE_ACLS"), (0, .fieldref 8 32), (0, .nameAndType 33 12), (0, u "DESCRIBE_CONFIGS"), (0, .fieldref 8 35), (0, .nameAndType 36 12), (0, u "SASL_AUTHENTICATE"), (0, .fieldref 8 38), (0, .nameAndType 39 12), (0, u "DESCRIBE_CLIENT_QUOTAS"), (0, .fieldref 8 41), (0, .nameAndType 42 12), (0, u "ALTER_CLIENT_QUOTAS"), (0, .integer 2147483647), (0, .methodref 45 46), (0, .class_ 47), (0, .nameAndType 48 49), (0, u "com/example/ulinzi/ulinzi/protocol/ApiKeyUsesResponseHeaderTagsPinLaw"), (0, u "pick"), (0, u "(I)Lcom/example/ulinzi/ulinzi/protocol/ApiKey;"), (0, .methodref 45 51), (0, .nameAndType 52 53), (0, u "firstFlexible"), (0, u "(I)I"), (0, .methodref 8 55), (0, .nameAndType 56 57), (0, u "usesResponseHeaderTags"), (0, u "(S)Z"), (3, u "law"), (0, u "(II)Z")] 2

def k1m0 : Method := { name := "<init>", desc := "()V", sig := { parameters := [], returnType := none }, accessFlags := 1, code := none }
def k1c1 : Code := { maxStack := 2, maxLocals := 1, code := method_2_code, exceptionTable := #[], attributes := #[] }
def k1m1 : Method := { name := "pick", desc := "(I)Lcom/example/ulinzi/ulinzi/protocol/ApiKey;", sig := { parameters := [.int], returnType := some (.object "com/example/ulinzi/ulinzi/protocol/ApiKey") }, accessFlags := 10, code := some k1c1 }
def k1c2 : Code := { maxStack := 2, maxLocals := 1, code := method_3_code, exceptionTable := #[], attributes := #[] }
def k1m2 : Method := { name := "firstFlexible", desc := "(I)I", sig := { parameters := [.int], returnType := some .int }, accessFlags := 10, code := some k1c2 }
def k1c3 : Code := { maxStack := 2, maxLocals := 7, code := code, exceptionTable := #[], attributes := #[] }
def k1m3 : Method := { name := "law", desc := "(II)Z", sig := { parameters := [.int, .int], returnType := some .boolean }, accessFlags := 9, code := some k1c3 }
/-- com/example/ulinzi/ulinzi/protocol/ApiKeyUsesResponseHeaderTagsPinLaw -/
def k1 : Class := { plain "com/example/ulinzi/ulinzi/protocol/ApiKeyUsesResponseHeaderTagsPinLaw" (some 0) with
  accessFlags := 49
  interfaces := #[]
  cf := some (fileOf pool1 45 #[] #[{ accessFlags := 1, nameIndex := 5, descriptorIndex := 6, attributes := #[] }, { accessFlags := 10, nameIndex := 48, descriptorIndex := 49, attributes := #[] }, { accessFlags := 10, nameIndex := 52, descriptorIndex := 53, attributes := #[] }, { accessFlags := 9, nameIndex := 61, descriptorIndex := 62, attributes := #[] }] 49 2 #[] #[])
  fields := #[]
  methods := #[k1m0, k1m1, k1m2, k1m3]
  instanceTypes := #[]
  staticTypes := #[]
  resolved := Array.replicate 65 none
  statics := none }

def pool2 : Array CpInfo := pool [(1, .class_ 2), (0, u "java/lang/constant/Constable"), (0, .class_ 4), (0, u "java/lang/Object")] 6

/-- java/lang/constant/Constable -/
def k2 : Class := { plain "java/lang/constant/Constable" (some 0) with
  accessFlags := 1537
  interfaces := #[]
  cf := some (fileOf pool2 1 #[] #[] 1537 3 #[] #[])
  fields := #[]
  methods := #[]
  instanceTypes := #[]
  staticTypes := #[]
  resolved := Array.replicate 11 none
  statics := none }

def pool3 : Array CpInfo := pool [(1, .class_ 2), (0, u "java/lang/Comparable"), (0, .class_ 4), (0, u "java/lang/Object")] 7

/-- java/lang/Comparable -/
def k3 : Class := { plain "java/lang/Comparable" (some 0) with
  accessFlags := 1537
  interfaces := #[]
  cf := some (fileOf pool3 1 #[] #[] 1537 3 #[] #[])
  fields := #[]
  methods := #[]
  instanceTypes := #[]
  staticTypes := #[]
  resolved := Array.replicate 12 none
  statics := none }

def pool4 : Array CpInfo := pool [(1, .class_ 2), (0, u "java/io/Serializable"), (0, .class_ 4), (0, u "java/lang/Object")] 2

/-- java/io/Serializable -/
def k4 : Class := { plain "java/io/Serializable" (some 0) with
  accessFlags := 1537
  interfaces := #[]
  cf := some (fileOf pool4 1 #[] #[] 1537 3 #[] #[])
  fields := #[]
  methods := #[]
  instanceTypes := #[]
  staticTypes := #[]
  resolved := Array.replicate 7 none
  statics := none }

def pool5 : Array CpInfo := pool [(2, .class_ 4), (1, u "java/lang/Enum"), (0, u "name"), (0, u "Ljava/lang/String;"), (2, u "ordinal"), (0, u "I"), (1, .class_ 14), (1, u "java/lang/Object"), (4, u "hash"), (86, .class_ 108), (1, u "java/lang/Enum$EnumDesc"), (2, .class_ 112), (0, u "java/lang/constant/Constable"), (0, .class_ 114), (0, u "java/lang/Comparable"), (0, .class_ 116), (0, u "java/io/Serializable")] 87

/-- java/lang/Enum -/
def k5 : Class := { plain "java/lang/Enum" (some 0) with
  accessFlags := 1057
  interfaces := #[2, 3, 4]
  cf := some (fileOf pool5 2 #[.nestMembers #[106]] #[] 1057 12 #[111, 113, 115] #[{ accessFlags := 18, nameIndex := 5, descriptorIndex := 6, attributes := #[] }, { accessFlags := 18, nameIndex := 9, descriptorIndex := 10, attributes := #[] }, { accessFlags := 2, nameIndex := 19, descriptorIndex := 10, attributes := #[] }])
  fields := #[{ name := "name", type := (.object "java/lang/String"), accessFlags := 18, slot := 0, constantValue := 0 }, { name := "ordinal", type := .int, accessFlags := 18, slot := 1, constantValue := 0 }, { name := "hash", type := .int, accessFlags := 2, slot := 2, constantValue := 0 }]
  methods := #[]
  instanceTypes := #[(.object "java/lang/String"), .int, .int]
  staticTypes := #[]
  resolved := Array.replicate 204 none
  statics := none }

def pool6 : Array CpInfo := pool [(1, .class_ 2), (0, u "com/example/ulinzi/ulinzi/protocol/ApiKey"), (2, u "METADATA"), (0, u "Lcom/example/ulinzi/ulinzi/protocol/ApiKey;"), (2, u "SASL_HANDSHAKE"), (0, .fieldref 1 11), (0, .nameAndType 12 6), (0, u "API_VERSIONS"), (2, u "CREATE_TOPICS"), (2, u "DESCRIBE_ACLS"), (2, u "CREATE_ACLS"), (2, u "DELETE_ACLS"), (2, u "DESCRIBE_CONFIGS"), (2, u "SASL_AUTHENTICATE"), (2, u "DESCRIBE_CLIENT_QUOTAS"), (2, u "ALTER_CLIENT_QUOTAS"), (2, u "$VALUES"), (0, u "[Lcom/example/ulinzi/ulinzi/protocol/ApiKey;"), (6, .class_ 49), (1, u "java/lang/Enum"), (8, u "code"), (0, u "S"), (2, u "protocolName"), (0, u "Ljava/lang/String;"), (0, .fieldref 1 65), (0, .nameAndType 66 59), (0, u "firstFlexibleVersion"), (20, .methodref 1 88), (0, .nameAndType 89 90), (0, u "isFlexible"), (0, u "(S)Z"), (53, u "usesResponseHeaderTags")] 5

def k6c0 : Code := { maxStack := 2, maxLocals := 2, code := prog_45_method_7_code, exceptionTable := #[], attributes := #[] }
def k6m0 : Method := { name := "isFlexible", desc := "(S)Z", sig := { parameters := [.short], returnType := some .boolean }, accessFlags := 1, code := some k6c0 }
def k6c1 : Code := { maxStack := 2, maxLocals := 2, code := prog_45_method_8_code, exceptionTable := #[], attributes := #[] }
def k6m1 : Method := { name := "usesResponseHeaderTags", desc := "(S)Z", sig := { parameters := [.short], returnType := some .boolean }, accessFlags := 1, code := some k6c1 }
/-- com/example/ulinzi/ulinzi/protocol/ApiKey -/
def k6 : Class := { plain "com/example/ulinzi/ulinzi/protocol/ApiKey" (some 5) with
  accessFlags := 16433
  interfaces := #[]
  cf := some (fileOf pool6 1 #[] #[{ accessFlags := 1, nameIndex := 89, descriptorIndex := 90, attributes := #[] }, { accessFlags := 1, nameIndex := 144, descriptorIndex := 90, attributes := #[] }] 16433 47 #[] #[{ accessFlags := 16409, nameIndex := 5, descriptorIndex := 6, attributes := #[] }, { accessFlags := 16409, nameIndex := 9, descriptorIndex := 6, attributes := #[] }, { accessFlags := 16409, nameIndex := 12, descriptorIndex := 6, attributes := #[] }, { accessFlags := 16409, nameIndex := 15, descriptorIndex := 6, attributes := #[] }, { accessFlags := 16409, nameIndex := 18, descriptorIndex := 6, attributes := #[] }, { accessFlags := 16409, nameIndex := 21, descriptorIndex := 6, attributes := #[] }, { accessFlags := 16409, nameIndex := 24, descriptorIndex := 6, attributes := #[] }, { accessFlags := 16409, nameIndex := 27, descriptorIndex := 6, attributes := #[] }, { accessFlags := 16409, nameIndex := 30, descriptorIndex := 6, attributes := #[] }, { accessFlags := 16409, nameIndex := 33, descriptorIndex := 6, attributes := #[] }, { accessFlags := 16409, nameIndex := 36, descriptorIndex := 6, attributes := #[] }, { accessFlags := 18, nameIndex := 58, descriptorIndex := 59, attributes := #[] }, { accessFlags := 18, nameIndex := 62, descriptorIndex := 63, attributes := #[] }, { accessFlags := 18, nameIndex := 66, descriptorIndex := 59, attributes := #[] }, { accessFlags := 4122, nameIndex := 39, descriptorIndex := 40, attributes := #[] }])
  fields := #[{ name := "METADATA", type := (.object "com/example/ulinzi/ulinzi/protocol/ApiKey"), accessFlags := 16409, slot := 0, constantValue := 0 }, { name := "SASL_HANDSHAKE", type := (.object "com/example/ulinzi/ulinzi/protocol/ApiKey"), accessFlags := 16409, slot := 1, constantValue := 0 }, { name := "API_VERSIONS", type := (.object "com/example/ulinzi/ulinzi/protocol/ApiKey"), accessFlags := 16409, slot := 2, constantValue := 0 }, { name := "CREATE_TOPICS", type := (.object "com/example/ulinzi/ulinzi/protocol/ApiKey"), accessFlags := 16409, slot := 3, constantValue := 0 }, { name := "DESCRIBE_ACLS", type := (.object "com/example/ulinzi/ulinzi/protocol/ApiKey"), accessFlags := 16409, slot := 4, constantValue := 0 }, { name := "CREATE_ACLS", type := (.object "com/example/ulinzi/ulinzi/protocol/ApiKey"), accessFlags := 16409, slot := 5, constantValue := 0 }, { name := "DELETE_ACLS", type := (.object "com/example/ulinzi/ulinzi/protocol/ApiKey"), accessFlags := 16409, slot := 6, constantValue := 0 }, { name := "DESCRIBE_CONFIGS", type := (.object "com/example/ulinzi/ulinzi/protocol/ApiKey"), accessFlags := 16409, slot := 7, constantValue := 0 }, { name := "SASL_AUTHENTICATE", type := (.object "com/example/ulinzi/ulinzi/protocol/ApiKey"), accessFlags := 16409, slot := 8, constantValue := 0 }, { name := "DESCRIBE_CLIENT_QUOTAS", type := (.object "com/example/ulinzi/ulinzi/protocol/ApiKey"), accessFlags := 16409, slot := 9, constantValue := 0 }, { name := "ALTER_CLIENT_QUOTAS", type := (.object "com/example/ulinzi/ulinzi/protocol/ApiKey"), accessFlags := 16409, slot := 10, constantValue := 0 }, { name := "code", type := .short, accessFlags := 18, slot := 3, constantValue := 0 }, { name := "protocolName", type := (.object "java/lang/String"), accessFlags := 18, slot := 4, constantValue := 0 }, { name := "firstFlexibleVersion", type := .short, accessFlags := 18, slot := 5, constantValue := 0 }, { name := "$VALUES", type := (.array (.object "com/example/ulinzi/ulinzi/protocol/ApiKey")), accessFlags := 4122, slot := 11, constantValue := 0 }]
  methods := #[k6m0, k6m1]
  instanceTypes := #[(.object "java/lang/String"), .int, .int, .short, (.object "java/lang/String"), .short]
  staticTypes := #[(.object "com/example/ulinzi/ulinzi/protocol/ApiKey"), (.object "com/example/ulinzi/ulinzi/protocol/ApiKey"), (.object "com/example/ulinzi/ulinzi/protocol/ApiKey"), (.object "com/example/ulinzi/ulinzi/protocol/ApiKey"), (.object "com/example/ulinzi/ulinzi/protocol/ApiKey"), (.object "com/example/ulinzi/ulinzi/protocol/ApiKey"), (.object "com/example/ulinzi/ulinzi/protocol/ApiKey"), (.object "com/example/ulinzi/ulinzi/protocol/ApiKey"), (.object "com/example/ulinzi/ulinzi/protocol/ApiKey"), (.object "com/example/ulinzi/ulinzi/protocol/ApiKey"), (.object "com/example/ulinzi/ulinzi/protocol/ApiKey"), (.array (.object "com/example/ulinzi/ulinzi/protocol/ApiKey"))]
  resolved := Array.replicate 150 none
  statics := some 0 }

def pool7 : Array CpInfo := pool [(1, u "java/lang/Cloneable"), (0, .class_ 1), (0, u "java/lang/Object"), (0, .class_ 3)] 3

/-- java/lang/Cloneable -/
def k7 : Class := { plain "java/lang/Cloneable" (some 0) with
  accessFlags := 1537
  interfaces := #[]
  cf := some (fileOf pool7 2 #[] #[] 1537 4 #[] #[])
  fields := #[]
  methods := #[]
  instanceTypes := #[]
  staticTypes := #[]
  resolved := Array.replicate 8 none
  statics := none }

/-- the primitive byte -/
def k8 : Class := { plain "byte" none with kind := .primitive 'B', accessFlags := 0x411 }
/-- [B -/
def k9 : Class := { plain "[B" (some 0) with kind := .array 8 .byte, interfaces := #[7, 4], accessFlags := 1041 }

/-- the primitive int -/
def k10 : Class := { plain "int" none with kind := .primitive 'I', accessFlags := 0x411 }
/-- [I -/
def k11 : Class := { plain "[I" (some 0) with kind := .array 10 .int, interfaces := #[7, 4], accessFlags := 1041 }

def heap : Heap := #[{ cls := 6, slots := #[.ref 1, .ref 8, .ref 2, .ref 3, .ref 11, .ref 5, .ref 6, .ref 10, .ref 7, .ref 4, .ref 9, .null], vm := .statics 6 },
  { cls := 6, slots := #[.null, .int 0, .int 0, .int 0, .null, .int 9], vm := .none },
  { cls := 6, slots := #[.null, .int 2, .int 0, .int 0, .null, .int 3], vm := .none },
  { cls := 6, slots := #[.null, .int 3, .int 0, .int 0, .null, .int 5], vm := .none },
  { cls := 6, slots := #[.null, .int 9, .int 0, .int 0, .null, .int 1], vm := .none },
  { cls := 6, slots := #[.null, .int 5, .int 0, .int 0, .null, .int 2], vm := .none },
  { cls := 6, slots := #[.null, .int 6, .int 0, .int 0, .null, .int 2], vm := .none },
  { cls := 6, slots := #[.null, .int 8, .int 0, .int 0, .null, .int 2], vm := .none },
  { cls := 6, slots := #[.null, .int 1, .int 0, .int 0, .null, .int 32767], vm := .none },
  { cls := 6, slots := #[.null, .int 10, .int 0, .int 0, .null, .int 1], vm := .none },
  { cls := 6, slots := #[.null, .int 7, .int 0, .int 0, .null, .int 4], vm := .none },
  { cls := 6, slots := #[.null, .int 4, .int 0, .int 0, .null, .int 2], vm := .none }]
def classes : Array Class := #[k0, k1, k2, k3, k4, k5, k6, k7, k8, k9, k10, k11]
def interned : List (Array UInt16 × Addr) := []
def slotsUsed : Nat := 78
def theMethod : MethodId := ⟨1, 3⟩
def args0 : Array Value := #[.int 5, .int 3]
def aboutOver (below : List Frame) : State where
  vm := { classes := classes, interned := interned.toArray }
  heap := heap
  slotsUsed := slotsUsed
  threads := #[{ frames := .invoking theMethod args0 :: below }]
def below0 : List Frame := [.native { method := ⟨0, 0⟩, args := #[] }]
def about1 : State := aboutOver below0
def p0 : Program := .bare "" "" ""
def e0 : Env := launch0.env 0 0 0
theorem w_frames : about1.frames = Frame.invoking theMethod args0 :: below0 := rfl
set_option maxRecDepth 65536 in
theorem w_args : argsFit about1.vm theMethod args0 = true := by decide +kernel
set_option maxRecDepth 65536 in
theorem w_heap : heapFits about1 = true := by decide +kernel
set_option maxRecDepth 65536 in
theorem w_runnable : about1.curStatus? = some .runnable := by decide +kernel
set_option maxRecDepth 65536 in
theorem w_alone : about1.alone = true := by decide +kernel
set_option maxRecDepth 65536 in
theorem w_named : about1.methodNamed? x = some theMethod := by decide +kernel
set_option maxRecDepth 65536 in
theorem w_hears : about1.hears theMethod below0 = true := by decide +kernel
set_option maxRecDepth 65536 in
theorem w_ripe : about1.ripe theMethod args0 below0 = true := by decide +kernel
theorem w_running : about1.status = .running := rfl
set_option maxRecDepth 65536 in
theorem w_room : about1.hasRoom e0.platform room_1 = true :=
  launch0.hasRoom_least _ room_1 (by decide +kernel) (by decide +kernel) (by decide +kernel) (by decide +kernel) (by decide +kernel) (by decide +kernel)
theorem allAtoms_all (ts : List Jvm.Cond) (a : Array Jvm.Value) (st : Jvm.State) : (allAtoms ts).before a st = ts.all (fun c => c.before a st) := by
  induction ts with
  | nil => rfl
  | cons c t ih =>
    show (Jvm.Cond.and c (allAtoms t)).before a st = _
    rw [Jvm.Cond.before_and, ih, List.all_cons]
def words1 : List Jvm.Cond := Jvm.Cond.code x code maxLocals ret :: tables_1
/-- a 'code' word, met by the world's own term for the bytes: nothing is compared byte by byte -/
theorem code_word {y : MethodName} {bytes : ByteArray} {mx : Nat} {rt : Option FieldType} {a : Array Value} {s : State} {m : MethodId} {meth : Method} {c : Code} (h1 : s.methodNamed? y = some m) (h2 : s.vm.method? m = some meth) (h3 : meth.code = some c) (h4 : c.code = bytes)
    (h5 : (c.maxLocals == mx && c.exceptionTable.isEmpty && decide (c.maxStack ≤ mostOperands) && decide (meth.sig.returnType = rt) && !meth.locks && decide (parseMethodDescriptor y.desc = some meth.sig)) = true) : (Jvm.Cond.code y bytes mx rt).before a s = true := by
  simp only [Bool.and_eq_true, beq_iff_eq, Bool.not_eq_true', decide_eq_true_eq] at h5
  obtain ⟨⟨⟨⟨⟨g1, g2⟩, g3⟩, g4⟩, g5⟩, g6⟩ := h5
  simp [Cond.before, Cond.holds, Cond.value, h1, h2, h3, h4, g1, g2, g3, g4, g5, g6]
def isCode : Jvm.Cond → Bool
  | .code _ _ _ _ => true
  | _ => false
theorem all_split {L : List Jvm.Cond} {P : Jvm.Cond → Bool} (h1 : L.all (fun c => isCode c || P c) = true) (h2 : ∀ c ∈ L.filter isCode, P c = true) : L.all P = true := by
  refine List.all_eq_true.mpr fun c hc => ?_
  have h := List.all_eq_true.mp h1 c hc
  rcases Bool.eq_false_or_eq_true (isCode c) with hi | hi
  · exact h2 c (List.mem_filter.mpr ⟨hc, hi⟩)
  · simpa [hi] using h
set_option maxRecDepth 65536 in
theorem w_c0 : (Jvm.Cond.code x code maxLocals ret).before args0 about1 = true := code_word (m := ⟨1, 3⟩) (meth := k1m3) (c := k1c3) (by decide +kernel) rfl rfl rfl (by decide +kernel)
set_option maxRecDepth 65536 in
theorem w_c1 : (Jvm.Cond.code ({ cls := "com/example/ulinzi/ulinzi/protocol/ApiKeyUsesResponseHeaderTagsPinLaw", name := "pick", desc := "(I)Lcom/example/ulinzi/ulinzi/protocol/ApiKey;" } : Jvm.MethodName) method_2_code (1 : Nat) (Option.some (Jvm.ClassFile.FieldType.object "com/example/ulinzi/ulinzi/protocol/ApiKey"))).before args0 about1 = true := code_word (m := ⟨1, 1⟩) (meth := k1m1) (c := k1c1) (by decide +kernel) rfl rfl rfl (by decide +kernel)
set_option maxRecDepth 65536 in
theorem w_c2 : (Jvm.Cond.code ({ cls := "com/example/ulinzi/ulinzi/protocol/ApiKeyUsesResponseHeaderTagsPinLaw", name := "firstFlexible", desc := "(I)I" } : Jvm.MethodName) method_3_code (1 : Nat) (Option.some Jvm.ClassFile.FieldType.int)).before args0 about1 = true := code_word (m := ⟨1, 2⟩) (meth := k1m2) (c := k1c2) (by decide +kernel) rfl rfl rfl (by decide +kernel)
set_option maxRecDepth 65536 in
theorem w_c3 : (Jvm.Cond.code ({ cls := "com/example/ulinzi/ulinzi/protocol/ApiKey", name := "usesResponseHeaderTags", desc := "(S)Z" } : Jvm.MethodName) prog_45_method_8_code (2 : Nat) (Option.some Jvm.ClassFile.FieldType.boolean)).before args0 about1 = true := code_word (m := ⟨6, 1⟩) (meth := k6m1) (c := k6c1) (by decide +kernel) rfl rfl rfl (by decide +kernel)
set_option maxRecDepth 65536 in
theorem w_c4 : (Jvm.Cond.code ({ cls := "com/example/ulinzi/ulinzi/protocol/ApiKey", name := "isFlexible", desc := "(S)Z" } : Jvm.MethodName) prog_45_method_7_code (2 : Nat) (Option.some Jvm.ClassFile.FieldType.boolean)).before args0 about1 = true := code_word (m := ⟨6, 0⟩) (meth := k6m0) (c := k6c0) (by decide +kernel) rfl rfl rfl (by decide +kernel)
def codes1 : List Jvm.Cond := [Jvm.Cond.code x code maxLocals ret, Jvm.Cond.code ({ cls := "com/example/ulinzi/ulinzi/protocol/ApiKeyUsesResponseHeaderTagsPinLaw", name := "pick", desc := "(I)Lcom/example/ulinzi/ulinzi/protocol/ApiKey;" } : Jvm.MethodName) method_2_code (1 : Nat) (Option.some (Jvm.ClassFile.FieldType.object "com/example/ulinzi/ulinzi/protocol/ApiKey")), Jvm.Cond.code ({ cls := "com/example/ulinzi/ulinzi/protocol/ApiKeyUsesResponseHeaderTagsPinLaw", name := "firstFlexible", desc := "(I)I" } : Jvm.MethodName) method_3_code (1 : Nat) (Option.some Jvm.ClassFile.FieldType.int), Jvm.Cond.code ({ cls := "com/example/ulinzi/ulinzi/protocol/ApiKey", name := "usesResponseHeaderTags", desc := "(S)Z" } : Jvm.MethodName) prog_45_method_8_code (2 : Nat) (Option.some Jvm.ClassFile.FieldType.boolean), Jvm.Cond.code ({ cls := "com/example/ulinzi/ulinzi/protocol/ApiKey", name := "isFlexible", desc := "(S)Z" } : Jvm.MethodName) prog_45_method_7_code (2 : Nat) (Option.some Jvm.ClassFile.FieldType.boolean)]
set_option maxRecDepth 65536 in
theorem codes_eq : words1.filter isCode = codes1 := rfl
theorem w_codes : ∀ c ∈ words1.filter isCode, c.before args0 about1 = true := by
  rw [codes_eq]
  intro c hc
  simp only [codes1, List.mem_cons, List.not_mem_nil, or_false] at hc
  rcases hc with rfl | rfl | rfl | rfl | rfl
  · exact w_c0
  · exact w_c1
  · exact w_c2
  · exact w_c3
  · exact w_c4
set_option maxRecDepth 65536 in
theorem w_t1 : (words1.take 24).all (fun c => isCode c || c.before args0 about1) = true := by decide +kernel
set_option maxRecDepth 65536 in
theorem w_t2 : (words1.drop 24).all (fun c => isCode c || c.before args0 about1) = true := by decide +kernel
theorem w_tables : (allAtoms (Jvm.Cond.code x code maxLocals ret :: tables_1)).before args0 about1 = true := by
  rw [allAtoms_all]
  show words1.all (fun c => c.before args0 about1) = true
  refine all_split ?_ w_codes
  rw [← List.take_append_drop 24 words1, List.all_append, w_t1, w_t2]
  rfl
set_option maxRecDepth 65536 in
theorem w_case : (Jvm.Cond.and given_1 narrow_1).before args0 about1 = true := by decide +kernel
theorem w_applies : (headSpec (Jvm.Cond.code x code maxLocals ret :: tables_1) room_1).applies x e0.platform about1 = true :=
  (Spec.applies_iff w_frames).mpr ⟨w_running, w_runnable, w_alone, w_named, w_hears, w_ripe, w_room, w_tables⟩
theorem atStart : AtStart classFile x code maxLocals ret World_1 tables_1 room_1 Calls_1 rest_1 Pre_1 launch0 p0 e0 about1 theMethod args0 below0 :=
  ⟨lists_1, trivial, launch0.admits_env _ _ _, launch0.least_env, fairChoices_fair.cas, fairChoices_fair.clock, w_frames, w_args, w_heap, w_applies, trivial, trivial, w_case⟩
end start1
theorem witness_1 : WitnessClaimed_1 := ⟨start1.p0, start1.e0, start1.about1, start1.theMethod, start1.args0, start1.below0, start1.atStart⟩
end Jvm.Pilot.@@N@@
