import JvmDerived
import JvmDerived.Pilot.@@N@@Statement
import JvmDerived.Pilot.@@N@@Code
set_option linter.unusedVariables false
set_option linter.unusedSimpArgs false
namespace Jvm.RoadKit
open Sem ClassFile Op Lib Jvm.Stand Jvm.Free Jvm.LawKit
section Own
variable {p : Program} {l : Launch} {e : Env} {R : Room} {s : State} {m : MethodId} {args : Array Value} {below : List Frame} {meth : Method} {c : Code} {T : State} {locs : List Loc} {cells slots : Nat}
theorem retI (X : Stand p l e R s m args below meth c T locs cells slots) (hx : p.tables.exec = Jvm.exec) {pc : Nat} {Ls : Array Slot} {z : Int32} {rest : List Value} (hret : meth.sig.returnType = some .int) (hd : decode c.code pc = .ok (.ireturn, 1)) {fs : List Frame}
    (hl : ∀ (f : JFrame) (acts : List Action), f.method = m → f.locked = none → f.entered = [] → (doReturn e (T.setTop f) acts (some (.int z))).1 = T.setFrames fs) : Steps p.tables e below (T.setTop (mkF m pc Ls (.int z :: rest))) (T.setFrames fs) := by
  have hm' : T.vm.method? m = some meth := X.method'
  have hn : narrow .int (.int z) = .int z := rfl
  show Steps p.tables e below (T.setTop { method := m, pc := pc, locals := Ls, stack := _ :: rest, locked := none }) _
  jvm_step X.here [X.here.top, hx, hd, hm', hret, hn]
  first | (intro acts; rw [hl _ acts rfl rfl rfl]) | rw [hl _ _ rfl rfl rfl]
  exact Steps.refl _
/-- from U the run comes to an end of which Qo holds -/
def own_Ends (tb : Tables) (e : Env) (below : List Frame) (Qo : Outcome → State → Prop) (U : State) : Prop := ∃ s₂ o, Steps tb e below U s₂ ∧ s₂.status = .running ∧ Ended s₂ below o ∧ Qo o s₂
def own_Q (s : State) (Q : Option Value → Heap → List Loc → Prop) (A B : Nat) : Outcome → State → Prop := fun o U' => ∃ v L, o = .returned v ∧ Q v U'.heap L ∧ FrameEnd s o U' L A B
theorem own_step {tb : Tables} {e : Env} {below : List Frame} {Qo : Outcome → State → Prop} {U V : State} (k : ∀ t, Steps tb e below V t → Steps tb e below U t) (h : own_Ends tb e below Qo V) : own_Ends tb e below Qo U := by
  obtain ⟨s₂, o, h1, h2⟩ := h; exact ⟨s₂, o, k _ h1, h2⟩
variable {Q : Option Value → Heap → List Loc → Prop} {A B : Nat}
theorem own_leave (X : Stand p l e R s m args below meth c T locs cells slots) (hlk : meth.locks = false) {v : Option Value} (hv : meth.sig.returnType = none → v = none) (ha : cells ≤ A) (hb : slots ≤ B) (hQ : Q v T.heap locs) {g : JFrame}
    (k : ∀ fs, (∀ (f : JFrame) (acts : List Action), f.method = m → f.locked = none → f.entered = [] → (doReturn e (T.setTop f) acts v).1 = T.setFrames fs) → Steps p.tables e below (T.setTop g) (T.setFrames fs)) : own_Ends p.tables e below (own_Q s Q A B) (T.setTop g) := by
  obtain ⟨fs, hr, hrun, hended, hW, hsame⟩ := X.leave (v := v) hv hlk
  exact ⟨_, _, k fs hr, hrun, hended, _, _, rfl, (show Q v T.heap locs from hQ), ⟨_, rfl⟩, hW, hsame.mono ha hb⟩
theorem own_retN (X : Stand p l e R s m args below meth c T locs cells slots) (hx : p.tables.exec = Jvm.exec) (hlk : meth.locks = false) (ha : cells ≤ A) (hb : slots ≤ B) {pc : Nat} {Ls : Array Slot} {z : Int32} {t : FieldType} {rest : List Value} (hret : meth.sig.returnType = some t) (ht : t = .boolean ∨ t = .byte ∨ t = .char ∨ t = .short)
    (hd : decode c.code pc = .ok (.ireturn, 1)) (hQ : Q (some (.int (nar t z))) T.heap locs) : own_Ends p.tables e below (own_Q s Q A B) (T.setTop (mkF m pc Ls (.int z :: rest))) :=
  own_leave X hlk (fun h => by rw [hret] at h; cases h) ha hb hQ fun fs hr => retN X hx hret ht hd hr
theorem own_retI (X : Stand p l e R s m args below meth c T locs cells slots) (hx : p.tables.exec = Jvm.exec) (hlk : meth.locks = false) (ha : cells ≤ A) (hb : slots ≤ B) {pc : Nat} {Ls : Array Slot} {z : Int32} {rest : List Value} (hret : meth.sig.returnType = some .int)
    (hd : decode c.code pc = .ok (.ireturn, 1)) (hQ : Q (some (.int z)) T.heap locs) : own_Ends p.tables e below (own_Q s Q A B) (T.setTop (mkF m pc Ls (.int z :: rest))) :=
  own_leave X hlk (fun h => by rw [hret] at h; cases h) ha hb hQ fun fs hr => retI X hx hret hd hr
theorem own_retJ (X : Stand p l e R s m args below meth c T locs cells slots) (hx : p.tables.exec = Jvm.exec) (hlk : meth.locks = false) (ha : cells ≤ A) (hb : slots ≤ B) {pc : Nat} {Ls : Array Slot} {z : Int64} {rest : List Value} (hret : meth.sig.returnType = some .long)
    (hd : decode c.code pc = .ok (.lreturn, 1)) (hQ : Q (some (.long z)) T.heap locs) : own_Ends p.tables e below (own_Q s Q A B) (T.setTop (mkF m pc Ls (.long z :: rest))) :=
  own_leave X hlk (fun h => by rw [hret] at h; cases h) ha hb hQ fun fs hr => by
    have hm' : T.vm.method? m = some meth := X.method'
    show Steps p.tables e below (T.setTop { method := m, pc := pc, locals := Ls, stack := _ :: rest, locked := none }) _
    jvm_step X.here [X.here.top, hx, hd, hm', hret, narrow]
    first | (intro acts; rw [hr _ acts rfl rfl rfl]) | rw [hr _ _ rfl rfl rfl]
    exact Steps.refl _
theorem own_retA (X : Stand p l e R s m args below meth c T locs cells slots) (hx : p.tables.exec = Jvm.exec) (hlk : meth.locks = false) (ha : cells ≤ A) (hb : slots ≤ B) {pc : Nat} {Ls : Array Slot} {z : Value} {t : FieldType} {rest : List Value} (hret : meth.sig.returnType = some t) (ht : t.isReference = true) (hz : z.isRef = true)
    (hd : decode c.code pc = .ok (.areturn, 1)) (hQ : Q (some z) T.heap locs) : own_Ends p.tables e below (own_Q s Q A B) (T.setTop (mkF m pc Ls (z :: rest))) :=
  own_leave X hlk (fun h => by rw [hret] at h; cases h) ha hb hQ fun fs hr => by
    have hm' : T.vm.method? m = some meth := X.method'
    show Steps p.tables e below (T.setTop { method := m, pc := pc, locals := Ls, stack := _ :: rest, locked := none }) _
    jvm_step X.here [X.here.top, hx, hd, hm', hret, ht, hz]
    first | (intro acts; rw [hr _ acts rfl rfl rfl]) | rw [hr _ _ rfl rfl rfl]
    exact Steps.refl _
theorem own_ret0 (X : Stand p l e R s m args below meth c T locs cells slots) (hx : p.tables.exec = Jvm.exec) (hlk : meth.locks = false) (ha : cells ≤ A) (hb : slots ≤ B) {pc : Nat} {Ls : Array Slot} (hret : meth.sig.returnType = none)
    (hd : decode c.code pc = .ok (.return_, 1)) (hQ : Q none T.heap locs) : own_Ends p.tables e below (own_Q s Q A B) (T.setTop (mkF m pc Ls [])) :=
  own_leave X hlk (fun _ => rfl) ha hb hQ fun fs hr => X.returnOut hx hret hd hr
theorem own_sel_priv {s : State} {args : Array Value} {n : Nat} {y : MethodName} (hy : y.cls ≠ "java/lang/invoke/MethodHandle" ∧ y.cls ≠ "java/lang/invoke/VarHandle") (hins : (Cond.instantiable y.cls n).before args s = true) (hpriv : (Cond.privateMethod y).before args s = true) (hinst : (Cond.instanceMethod y).before args s = true) :
    (Cond.selects y.cls y y).before args s = true := by
  obtain ⟨c, k, hc, hk, -, hniab, -, -⟩ := Cond.instantiable_spec hins
  have hni : k.isInterface = false := (Bool.or_eq_false_iff.mp hniab).1
  obtain ⟨mk, methM, hnamed, hmethM, -, -⟩ := Cond.instanceMethod_spec hinst
  have hfound : s.methodFound? y.cls y.name y.desc = some mk := State.methodFound?_of_named hnamed hy
  have hcls : mk.cls = c := Option.some.inj ((findClass_of_methodNamed hnamed).symm.trans hc)
  have hsel : selectMethod {} s.vm c mk = .method mk := selectMethod_private hmethM (Cond.privateMethod_at hpriv mk methM hnamed hmethM)
  simp only [Cond.before, Cond.holds, Cond.value, hc, hfound, hnamed, hsel, hcls, hk]
  simp; exact hni
theorem own_pop2J (X : Stand p l e R s m args below meth c T locs cells slots) (hx : p.tables.exec = Jvm.exec) {pc : Nat} {Ls : Array Slot} {z : Int64} {rest : List Value} (hd : decode c.code pc = .ok (.pop2, 1)) {target : State}
    (hr : Steps p.tables e below (T.setTop (mkF m (pc + 1) Ls rest)) target) : Steps p.tables e below (T.setTop (mkF m pc Ls (.long z :: rest))) target := by
  show Steps p.tables e below (T.setTop { method := m, pc := pc, locals := Ls, stack := _ :: rest, locked := none }) _
  jvm_step X.here [X.here.top, hx, hd, Value.category]
  exact hr
def own_NS (h : Heap) (x : Addr) : Prop := ∃ c : Cell, h[x]? = some c ∧ c.vm.isStatics = false
theorem own_ns_exa {Z : State} {h : Heap} {a : Addr} {C : String} (F : Exa Z h a C) : own_NS h a := by obtain ⟨c, k, h1, h2, h3, h4, h5⟩ := F; exact ⟨c, h1, h4⟩
theorem own_ns_arv {Z : State} {h : Heap} {a : Addr} {k : ClassId} {ty : FieldType} {z : Int32} {vs : List Value} {d : Value} (F : Arv Z h a k ty z vs d) : own_NS h a := by obtain ⟨c, A, -⟩ := F; exact ⟨c, A.1, A.plain⟩
theorem own_Sta_keep {Z : State} {h h' : Heap} {ws : List Addr} {C n d : String} {v : Value} (F : Sta Z h C n d v) (K : Keep h h' ws) (q : ∀ x ∈ ws, own_NS h x) : Sta Z h' C n d v := by
  obtain ⟨cf, i, k, f, st, cell, h1, h2, h3, h4, h5, h6, h7⟩ := F
  refine ⟨cf, i, k, f, st, cell, h1, h2, h3, h4, K.2.1 st cell h5 fun m => ?_, h6, h7⟩
  obtain ⟨c, e1, e2⟩ := q st m
  rw [h5] at e1; cases e1; rw [h6] at e2; cases e2
theorem own_lc_lt (x y : Int64) : lcmpW x y < 0 ↔ x < y := by rw [lcW]; exact lc_lt x y
theorem own_lc_gt (x y : Int64) : 0 < lcmpW x y ↔ y < x := by rw [lcW]; exact lc_gt x y
theorem own_lc_eq (x y : Int64) : lcmpW x y = 0 ↔ x = y := by rw [lcW]; exact lc_eq x y
end Own
end Jvm.RoadKit
namespace Jvm.Pilot.@@N@@
open Jvm Jvm.ClassFile Sem Op Lib Jvm.Free Jvm.Stand Jvm.LawKit Jvm.RoadKit Bundle Jvm.Pilot.@@N@@.Jvm.D
def own_sign (p : Int32) : Int64 := ((p.toInt64 >>> ((63 : Int32) &&& 0x3f).toInt64) ||| (((-p.toInt64).toUInt64 >>> ((63 : Int32) &&& 0x3f).toInt64.toUInt64).toInt64))
theorem own_sh (x : Int64) : (x >>> ((63 : Int32) &&& 0x3f).toInt64).toInt = x.toInt / 2 ^ 63 := by
  have e : ((63 : Int32) &&& 0x3f).toInt64 = 63 := by decide
  rw [e]
  show (x >>> 63).toBitVec.toInt = x.toBitVec.toInt / 2 ^ 63
  rw [Int64.toBitVec_shiftRight]
  have : (63 : Int64).toBitVec.smod 64 = 63#64 := by decide
  rw [this]
  show (x.toBitVec.sshiftRight 63).toInt = _
  rw [BitVec.toInt_sshiftRight, Int.shiftRight_eq_div_pow]; rfl
theorem own_ush (x : Int64) : ((x.toUInt64 >>> ((63 : Int32) &&& 0x3f).toInt64.toUInt64).toInt64).toInt = if x.toInt < 0 then 1 else 0 := by
  have e : ((63 : Int32) &&& 0x3f).toInt64.toUInt64 = 63 := by decide
  rw [e]
  have k : (x.toUInt64 >>> 63).toBitVec.toNat = x.toBitVec.toNat / 2 ^ 63 := by
    show (x.toUInt64 >>> 63).toNat = _
    rw [UInt64.toNat_shiftRight]
    show x.toBitVec.toNat >>> (63 % 64) = _
    rw [Nat.shiftRight_eq_div_pow]
  have hl := x.toBitVec.isLt
  show (x.toUInt64 >>> 63).toBitVec.toInt = if x.toBitVec.toInt < 0 then _ else _
  rw [BitVec.toInt_eq_toNat_cond, BitVec.toInt_eq_toNat_cond, k]
  split <;> split <;> split <;> omega
theorem own_s1 (p : Int32) (h : p.toInt < 0) : own_sign p = -1 := by
  have hb := p.le_toInt
  have a : p.toInt64 >>> ((63 : Int32) &&& 0x3f).toInt64 = -1 := Int64.toInt_inj.mp (by rw [own_sh, Int32.toInt_toInt64]; show _ = -1; omega)
  unfold own_sign; rw [a]
  simp
theorem own_s2 (p : Int32) (h : p.toInt = 0) : own_sign p = 0 := by
  have : p = 0 := Int32.toInt_inj.mp (by rw [h]; rfl)
  subst this; decide
theorem own_s3 (p : Int32) (h : 0 < p.toInt) : own_sign p = 1 := by
  have hb := p.toInt_lt
  have a : p.toInt64 >>> ((63 : Int32) &&& 0x3f).toInt64 = 0 := Int64.toInt_inj.mp (by rw [own_sh, Int32.toInt_toInt64]; show _ = 0; omega)
  have n : (-p.toInt64).toInt = -p.toInt := by rw [Int64.toInt_neg, Int32.toInt_toInt64]; apply Int.bmod_eq_of_le <;> omega
  have b : (((-p.toInt64).toUInt64 >>> ((63 : Int32) &&& 0x3f).toInt64.toUInt64).toInt64) = 1 := Int64.toInt_inj.mp (by rw [own_ush, n, if_pos (by omega)]; rfl)
  unfold own_sign; rw [a, b]
  decide
def own_of (p : Int32) (a b c : Addr) : Addr := if p < 0 then a else if 0 < p then c else b
theorem own_z : (0 : Int32).toInt = 0 := rfl
theorem own_o1 {p : Int32} {a b c : Addr} (h : own_sign p < 0) : own_of p a b c = a := by
  unfold own_of; rw [if_pos]
  rw [Int32.lt_iff_toInt_lt, own_z]
  rcases Int.lt_trichotomy p.toInt 0 with q | q | q
  · exact q
  · rw [own_s2 p q] at h; exact absurd h (by decide)
  · rw [own_s3 p q] at h; exact absurd h (by decide)
theorem own_o2 {p : Int32} {a b c : Addr} (h : own_sign p = 0) : own_of p a b c = b := by
  have : p.toInt = 0 := by
    rcases Int.lt_trichotomy p.toInt 0 with q | q | q
    · rw [own_s1 p q] at h; exact absurd h (by decide)
    · exact q
    · rw [own_s3 p q] at h; exact absurd h (by decide)
  unfold own_of; rw [if_neg, if_neg] <;> rw [Int32.lt_iff_toInt_lt, own_z] <;> omega
theorem own_o3 {p : Int32} {a b c : Addr} (h1 : ¬ own_sign p < 0) (h2 : ¬ own_sign p = 0) : own_of p a b c = c := by
  have : 0 < p.toInt := by
    rcases Int.lt_trichotomy p.toInt 0 with q | q | q
    · rw [own_s1 p q] at h1; exact absurd (by decide) h1
    · rw [own_s2 p q] at h2; exact absurd rfl h2
    · exact q
  unfold own_of; rw [if_neg, if_pos] <;> rw [Int32.lt_iff_toInt_lt, own_z] <;> omega
theorem own_eq_int {args : Array Value} {s : State} {t : Term} {k : Int32} (h : (Jvm.Cond.eq t (.int k)).value args s none s [] = some true) : t.eval args s none [] s = some (.int k) := by
  obtain ⟨x, y, h1, h2, k1, -⟩ := cmp_v (Or.inl h)
  have e : y = .int k := Option.some.inj (h2.symm.trans (Term.int_eval k))
  subst e
  cases x <;> simp [Kin, Value.isRef] at k1
  rename_i z
  have := gotT (Cond.eq_ints h1 h2) h
  rw [h1, this]
theorem own_d1_0 : decode prog_49_method_4_code 0 = .ok (.iload_n 0, 1) := by decide +kernel
theorem own_d1_1 : decode prog_49_method_4_code 1 = .ok (.ifCond .ge 10, 3) := by decide +kernel
theorem own_d1_4 : decode prog_49_method_4_code 4 = .ok (.getstatic 3, 3) := by decide +kernel
theorem own_d1_7 : decode prog_49_method_4_code 7 = .ok (.astore_n 1, 1) := by decide +kernel
theorem own_d1_8 : decode prog_49_method_4_code 8 = .ok (.goto 18, 3) := by decide +kernel
theorem own_d1_11 : decode prog_49_method_4_code 11 = .ok (.iload_n 0, 1) := by decide +kernel
theorem own_d1_12 : decode prog_49_method_4_code 12 = .ok (.ifCond .le 10, 3) := by decide +kernel
theorem own_d1_15 : decode prog_49_method_4_code 15 = .ok (.getstatic 10, 3) := by decide +kernel
theorem own_d1_18 : decode prog_49_method_4_code 18 = .ok (.astore_n 1, 1) := by decide +kernel
theorem own_d1_19 : decode prog_49_method_4_code 19 = .ok (.goto 7, 3) := by decide +kernel
theorem own_d1_22 : decode prog_49_method_4_code 22 = .ok (.getstatic 7, 3) := by decide +kernel
theorem own_d1_25 : decode prog_49_method_4_code 25 = .ok (.astore_n 1, 1) := by decide +kernel
theorem own_d1_26 : decode prog_49_method_4_code 26 = .ok (.aload_n 1, 1) := by decide +kernel
theorem own_d1_27 : decode prog_49_method_4_code 27 = .ok (.areturn, 1) := by decide +kernel
theorem own_pn0 : plainName "com/example/escar/escar/schema/datatype/Order" = true := by first | (simp [plainName, overriddenIn]; done) | decide +kernel
theorem own_ef_1 (m : MethodId) (x0 : Int32) : entryFrame m #[(.int x0)] 2 = mkF m 0 #[.val (.int x0), .unset] [] := by first | (simp [entryFrame, mkF, argsToLocals, Value.category]; done) | rfl
def own_Q_of (Z : State) (p0 : Int32) (wL : Addr) (wE : Addr) (wG : Addr) (h0 : Heap) (n0 : Nat) (v : Option Value) (h : Heap) (L : List Loc) : Prop := v = some (.ref (own_of p0 wL wE wG)) ∧ Fr n0 L ∧ h = h0
set_option maxRecDepth 65536 in
set_option maxHeartbeats 40000000 in
theorem own_rm_of (l : Launch) (Z : State) (a0 : Array Value) (hw : ∀ d ∈ tables_1, d.before a0 Z = true) (ws : List Jvm.Cond) (p0 : Int32) (wL : Addr) (wE : Addr) (wG : Addr) (h0 : Heap) (n0 : Nat) (Z0 : n0 ≤ h0.size) (S_LESS : Sta Z h0 "com/example/escar/escar/schema/datatype/Order" "LESS" "Lcom/example/escar/escar/schema/datatype/Order;" (.ref wL)) (S_EQUAL : Sta Z h0 "com/example/escar/escar/schema/datatype/Order" "EQUAL" "Lcom/example/escar/escar/schema/datatype/Order;" (.ref wE)) (S_GREATER : Sta Z h0 "com/example/escar/escar/schema/datatype/Order" "GREATER" "Lcom/example/escar/escar/schema/datatype/Order;" (.ref wG)) :
    MetFree l (⟨"com/example/escar/escar/schema/datatype/Order", "of", "(I)Lcom/example/escar/escar/schema/datatype/Order;"⟩ : MethodName) (head1 (Jvm.Cond.code (⟨"com/example/escar/escar/schema/datatype/Order", "of", "(I)Lcom/example/escar/escar/schema/datatype/Order;"⟩ : MethodName) prog_49_method_4_code 2 (some (.object "com/example/escar/escar/schema/datatype/Order")) :: ws) ({ frames := 0, cells := 0, slots := 0, locals := 0 } : Room)) (fun a U => a = #[(.int p0)] ∧ Z.Warmed39 U.vm ∧ U.heap = h0) (fun _ _ _ _ _ => True) (fun _ U o U' => ∃ v L, o = .returned v ∧ own_Q_of Z p0 wL wE wG h0 n0 v U'.heap L ∧ FrameEnd U o U' L ({ frames := 0, cells := 0, slots := 0, locals := 0 } : Room).cells ({ frames := 0, cells := 0, slots := 0, locals := 0 } : Room).slots) := by
  refine MetFree.of_bodySF (plainFor_of_name own_pn0) hisR ?_
  intro p e s m args below meth c s₁ Bd hml0 hP hK
  obtain ⟨rfl, hZ, hh⟩ := hP
  have hx := Bd.exec
  have hby := Bd.bytes
  have hlk : meth.locks = false := BodyLoose.notSynchronized Bd
  have hml : c.maxLocals = 2 := hml0
  have hown : s.vm.findClass "com/example/escar/escar/schema/datatype/Order" = some m.cls := findClass_of_methodNamed Bd.named
  have hnm := (name_of_methodNamed Bd.named Bd.method).1
  have X0 : Stand p l e ({ frames := 0, cells := 0, slots := 0, locals := 0 } : Room) s m #[(.int p0)] below meth c s₁ [] 0 0 := Stand.of_body Bd
  have e0 : s₁.heap = h0 := by rw [← hh, Bd.state]; rfl
  have N0 := Fr.nil n0
  have K0 : Keep h0 h0 [] := Keep.refl _ _
  have pre0 : ∀ t, Steps p.tables e below (s₁.setTop (mkF m 0 #[.val (.int p0), .unset] [])) t → Steps p.tables e below (s₁.setTop (entryFrame m #[(.int p0)] 2)) t := fun t k => castTop (own_ef_1 m p0) k
  show own_Ends p.tables e below (own_Q s (own_Q_of Z p0 wL wE wG h0 n0) ({ frames := 0, cells := 0, slots := 0, locals := 0 } : Room).cells ({ frames := 0, cells := 0, slots := 0, locals := 0 } : Room).slots) (s₁.setTop (entryFrame m #[(.int p0)] 2))
  refine own_step pre0 ?_
  show own_Ends p.tables e below _ (s₁.setTop (mkF m 0 #[.val (.int p0), .unset] []))
  refine own_step (fun _ k => XS.iloadN X0.here hx rfl (hb hby own_d1_0) rfl k) ?_
  show own_Ends p.tables e below _ (s₁.setTop (mkF m 1 #[.val (.int p0), .unset] [(.int p0)]))
  by_cases hc1 : p0 < (0 : Int32)
  · refine own_step (fun _ k => XS.ifNo X0.here hx rfl (hb hby own_d1_1) rfl ((if0 _ _).trans (tlt hc1).2.1) k) ?_
    show own_Ends p.tables e below _ (s₁.setTop (mkF m 4 #[.val (.int p0), .unset] []))
    obtain ⟨T1, X1, e1, st1⟩ := getS2 X0 hx hZ hown (host := "") (Or.inl (hw _ (List.mem_of_getElem? (i := 16) rfl))) Via.refl e0 S_LESS (g := (mkF m 4 #[.val (.int p0), .unset] [])) rfl (hb hby own_d1_4)
    refine own_step st1 ?_
    show own_Ends p.tables e below _ (T1.setTop (mkF m 7 #[.val (.int p0), .unset] [(.ref wL)]))
    refine own_step (fun _ k => XS.astoreN X1.here hx rfl (hb hby own_d1_7) rfl rfl (l' := #[.val (.int p0), .val (.ref wL)]) rfl k) ?_
    show own_Ends p.tables e below _ (T1.setTop (mkF m 8 #[.val (.int p0), .val (.ref wL)] []))
    refine own_step (fun _ k => XS.goto X1.here hx rfl (pc0 := 8) (pc' := 26) rfl (hb hby own_d1_8) (by decide) (by decide) k) ?_
    show own_Ends p.tables e below _ (T1.setTop (mkF m 26 #[.val (.int p0), .val (.ref wL)] []))
    refine own_step (fun _ k => XS.aloadN X1.here hx rfl (hb hby own_d1_26) rfl rfl k) ?_
    show own_Ends p.tables e below _ (T1.setTop (mkF m 27 #[.val (.int p0), .val (.ref wL)] [(.ref wL)]))
    exact own_retA X1 hx hlk (by decide) (by decide) Bd.returns rfl rfl (hb hby own_d1_27) (by rw [e1]; exact ⟨by rw [show own_of p0 wL wE wG = wL by simp [own_of, hc1]], N0, rfl⟩)
  · refine own_step (fun _ k => XS.ifYes X0.here hx rfl (pc0 := 1) (pc' := 11) rfl (hb hby own_d1_1) rfl ((if0 _ _).trans (flt hc1).2.1) (by decide) (by decide) k) ?_
    show own_Ends p.tables e below _ (s₁.setTop (mkF m 11 #[.val (.int p0), .unset] []))
    refine own_step (fun _ k => XS.iloadN X0.here hx rfl (hb hby own_d1_11) rfl k) ?_
    show own_Ends p.tables e below _ (s₁.setTop (mkF m 12 #[.val (.int p0), .unset] [(.int p0)]))
    by_cases hc12 : (0 : Int32) < p0
    · refine own_step (fun _ k => XS.ifNo X0.here hx rfl (hb hby own_d1_12) rfl ((if0 _ _).trans (tlt hc12).2.2.2) k) ?_
      show own_Ends p.tables e below _ (s₁.setTop (mkF m 15 #[.val (.int p0), .unset] []))
      obtain ⟨T2, X2, e2, st2⟩ := getS2 X0 hx hZ hown (host := "") (Or.inl (hw _ (List.mem_of_getElem? (i := 13) rfl))) Via.refl e0 S_GREATER (g := (mkF m 15 #[.val (.int p0), .unset] [])) rfl (hb hby own_d1_15)
      refine own_step st2 ?_
      show own_Ends p.tables e below _ (T2.setTop (mkF m 18 #[.val (.int p0), .unset] [(.ref wG)]))
      refine own_step (fun _ k => XS.astoreN X2.here hx rfl (hb hby own_d1_18) rfl rfl (l' := #[.val (.int p0), .val (.ref wG)]) rfl k) ?_
      show own_Ends p.tables e below _ (T2.setTop (mkF m 19 #[.val (.int p0), .val (.ref wG)] []))
      refine own_step (fun _ k => XS.goto X2.here hx rfl (pc0 := 19) (pc' := 26) rfl (hb hby own_d1_19) (by decide) (by decide) k) ?_
      show own_Ends p.tables e below _ (T2.setTop (mkF m 26 #[.val (.int p0), .val (.ref wG)] []))
      refine own_step (fun _ k => XS.aloadN X2.here hx rfl (hb hby own_d1_26) rfl rfl k) ?_
      show own_Ends p.tables e below _ (T2.setTop (mkF m 27 #[.val (.int p0), .val (.ref wG)] [(.ref wG)]))
      exact own_retA X2 hx hlk (by decide) (by decide) Bd.returns rfl rfl (hb hby own_d1_27) (by rw [e2]; exact ⟨by rw [show own_of p0 wL wE wG = wG by simp [own_of, hc1, hc12]], N0, rfl⟩)
    · refine own_step (fun _ k => XS.ifYes X0.here hx rfl (pc0 := 12) (pc' := 22) rfl (hb hby own_d1_12) rfl ((if0 _ _).trans (flt hc12).2.2.2) (by decide) (by decide) k) ?_
      show own_Ends p.tables e below _ (s₁.setTop (mkF m 22 #[.val (.int p0), .unset] []))
      obtain ⟨T3, X3, e3, st3⟩ := getS2 X0 hx hZ hown (host := "") (Or.inl (hw _ (List.mem_of_getElem? (i := 4) rfl))) Via.refl e0 S_EQUAL (g := (mkF m 22 #[.val (.int p0), .unset] [])) rfl (hb hby own_d1_22)
      refine own_step st3 ?_
      show own_Ends p.tables e below _ (T3.setTop (mkF m 25 #[.val (.int p0), .unset] [(.ref wE)]))
      refine own_step (fun _ k => XS.astoreN X3.here hx rfl (hb hby own_d1_25) rfl rfl (l' := #[.val (.int p0), .val (.ref wE)]) rfl k) ?_
      show own_Ends p.tables e below _ (T3.setTop (mkF m 26 #[.val (.int p0), .val (.ref wE)] []))
      refine own_step (fun _ k => XS.aloadN X3.here hx rfl (hb hby own_d1_26) rfl rfl k) ?_
      show own_Ends p.tables e below _ (T3.setTop (mkF m 27 #[.val (.int p0), .val (.ref wE)] [(.ref wE)]))
      exact own_retA X3 hx hlk (by decide) (by decide) Bd.returns rfl rfl (hb hby own_d1_27) (by rw [e3]; exact ⟨by rw [show own_of p0 wL wE wG = wE by simp [own_of, hc1, hc12]], N0, rfl⟩)
theorem own_d2_0 : decode method_2_code 0 = .ok (.iload_n 0, 1) := by decide +kernel
theorem own_d2_1 : decode method_2_code 1 = .ok (.i2l, 1) := by decide +kernel
theorem own_d2_2 : decode method_2_code 2 = .ok (.lstore_n 1, 1) := by decide +kernel
theorem own_d2_3 : decode method_2_code 3 = .ok (.lload_n 1, 1) := by decide +kernel
theorem own_d2_4 : decode method_2_code 4 = .ok (.bipush 63, 2) := by decide +kernel
theorem own_d2_6 : decode method_2_code 6 = .ok (.lshr, 1) := by decide +kernel
theorem own_d2_7 : decode method_2_code 7 = .ok (.lload_n 1, 1) := by decide +kernel
theorem own_d2_8 : decode method_2_code 8 = .ok (.lneg, 1) := by decide +kernel
theorem own_d2_9 : decode method_2_code 9 = .ok (.bipush 63, 2) := by decide +kernel
theorem own_d2_11 : decode method_2_code 11 = .ok (.lushr, 1) := by decide +kernel
theorem own_d2_12 : decode method_2_code 12 = .ok (.lor, 1) := by decide +kernel
theorem own_d2_13 : decode method_2_code 13 = .ok (.lreturn, 1) := by decide +kernel
theorem own_pn1 : plainName "com/example/escar/escar/schema/datatype/OrderOfPinLaw" = true := by first | (simp [plainName, overriddenIn]; done) | decide +kernel
theorem own_ef_2 (m : MethodId) (x0 : Int32) : entryFrame m #[(.int x0)] 3 = mkF m 0 #[.val (.int x0), .unset, .unset] [] := by first | (simp [entryFrame, mkF, argsToLocals, Value.category]; done) | rfl
def own_Q_sign (Z : State) (p0 : Int32) (h0 : Heap) (n0 : Nat) (v : Option Value) (h : Heap) (L : List Loc) : Prop := v = some (.long (own_sign p0)) ∧ Fr n0 L ∧ h = h0
set_option maxRecDepth 65536 in
set_option maxHeartbeats 40000000 in
theorem own_rm_sign (l : Launch) (Z : State) (a0 : Array Value) (hw : ∀ d ∈ tables_1, d.before a0 Z = true) (ws : List Jvm.Cond) (p0 : Int32) (h0 : Heap) (n0 : Nat) (Z0 : n0 ≤ h0.size) :
    MetFree l (⟨"com/example/escar/escar/schema/datatype/OrderOfPinLaw", "sign", "(I)J"⟩ : MethodName) (head1 (Jvm.Cond.code (⟨"com/example/escar/escar/schema/datatype/OrderOfPinLaw", "sign", "(I)J"⟩ : MethodName) method_2_code 3 (some .long) :: ws) ({ frames := 0, cells := 0, slots := 0, locals := 0 } : Room)) (fun a U => a = #[(.int p0)] ∧ Z.Warmed39 U.vm ∧ U.heap = h0) (fun _ _ _ _ _ => True) (fun _ U o U' => ∃ v L, o = .returned v ∧ own_Q_sign Z p0 h0 n0 v U'.heap L ∧ FrameEnd U o U' L ({ frames := 0, cells := 0, slots := 0, locals := 0 } : Room).cells ({ frames := 0, cells := 0, slots := 0, locals := 0 } : Room).slots) := by
  refine MetFree.of_bodySF (plainFor_of_name own_pn1) hisR ?_
  intro p e s m args below meth c s₁ Bd hml0 hP hK
  obtain ⟨rfl, hZ, hh⟩ := hP
  have hx := Bd.exec
  have hby := Bd.bytes
  have hlk : meth.locks = false := BodyLoose.notSynchronized Bd
  have hml : c.maxLocals = 3 := hml0
  have hown : s.vm.findClass "com/example/escar/escar/schema/datatype/OrderOfPinLaw" = some m.cls := findClass_of_methodNamed Bd.named
  have hnm := (name_of_methodNamed Bd.named Bd.method).1
  have X0 : Stand p l e ({ frames := 0, cells := 0, slots := 0, locals := 0 } : Room) s m #[(.int p0)] below meth c s₁ [] 0 0 := Stand.of_body Bd
  have e0 : s₁.heap = h0 := by rw [← hh, Bd.state]; rfl
  have N0 := Fr.nil n0
  have K0 : Keep h0 h0 [] := Keep.refl _ _
  have pre0 : ∀ t, Steps p.tables e below (s₁.setTop (mkF m 0 #[.val (.int p0), .unset, .unset] [])) t → Steps p.tables e below (s₁.setTop (entryFrame m #[(.int p0)] 3)) t := fun t k => castTop (own_ef_2 m p0) k
  show own_Ends p.tables e below (own_Q s (own_Q_sign Z p0 h0 n0) ({ frames := 0, cells := 0, slots := 0, locals := 0 } : Room).cells ({ frames := 0, cells := 0, slots := 0, locals := 0 } : Room).slots) (s₁.setTop (entryFrame m #[(.int p0)] 3))
  refine own_step pre0 ?_
  show own_Ends p.tables e below _ (s₁.setTop (mkF m 0 #[.val (.int p0), .unset, .unset] []))
  refine own_step (fun _ k => XS.iloadN X0.here hx rfl (hb hby own_d2_0) rfl k) ?_
  show own_Ends p.tables e below _ (s₁.setTop (mkF m 1 #[.val (.int p0), .unset, .unset] [(.int p0)]))
  refine own_step (fun _ k => XS.i2l X0.here hx rfl (hb hby own_d2_1) rfl k) ?_
  show own_Ends p.tables e below _ (s₁.setTop (mkF m 2 #[.val (.int p0), .unset, .unset] [(.long (p0.toInt64))]))
  refine own_step (fun _ k => XS.lstoreN X0.here hx rfl (hb hby own_d2_2) rfl (l' := #[.val (.int p0), .val (.long (p0.toInt64)), .second]) rfl k) ?_
  show own_Ends p.tables e below _ (s₁.setTop (mkF m 3 #[.val (.int p0), .val (.long (p0.toInt64)), .second] []))
  refine own_step (fun _ k => XS.lloadN X0.here hx rfl (hb hby own_d2_3) rfl k) ?_
  show own_Ends p.tables e below _ (s₁.setTop (mkF m 4 #[.val (.int p0), .val (.long (p0.toInt64)), .second] [(.long (p0.toInt64))]))
  refine own_step (fun _ k => XS.bipush X0.here hx rfl (hb hby own_d2_4) k) ?_
  show own_Ends p.tables e below _ (s₁.setTop (mkF m 6 #[.val (.int p0), .val (.long (p0.toInt64)), .second] [(.int (63 : Int32)), (.long (p0.toInt64))]))
  refine own_step (fun _ k => XS.lshr X0.here hx rfl (hb hby own_d2_6) rfl k) ?_
  show own_Ends p.tables e below _ (s₁.setTop (mkF m 7 #[.val (.int p0), .val (.long (p0.toInt64)), .second] [(.long ((p0.toInt64) >>> ((63 : Int32) &&& 0x3f).toInt64))]))
  refine own_step (fun _ k => XS.lloadN X0.here hx rfl (hb hby own_d2_7) rfl k) ?_
  show own_Ends p.tables e below _ (s₁.setTop (mkF m 8 #[.val (.int p0), .val (.long (p0.toInt64)), .second] [(.long (p0.toInt64)), (.long ((p0.toInt64) >>> ((63 : Int32) &&& 0x3f).toInt64))]))
  refine own_step (fun _ k => XS.lneg X0.here hx rfl (hb hby own_d2_8) rfl k) ?_
  show own_Ends p.tables e below _ (s₁.setTop (mkF m 9 #[.val (.int p0), .val (.long (p0.toInt64)), .second] [(.long (-(p0.toInt64))), (.long ((p0.toInt64) >>> ((63 : Int32) &&& 0x3f).toInt64))]))
  refine own_step (fun _ k => XS.bipush X0.here hx rfl (hb hby own_d2_9) k) ?_
  show own_Ends p.tables e below _ (s₁.setTop (mkF m 11 #[.val (.int p0), .val (.long (p0.toInt64)), .second] [(.int (63 : Int32)), (.long (-(p0.toInt64))), (.long ((p0.toInt64) >>> ((63 : Int32) &&& 0x3f).toInt64))]))
  refine own_step (fun _ k => XS.lushr X0.here hx rfl (hb hby own_d2_11) rfl k) ?_
  show own_Ends p.tables e below _ (s₁.setTop (mkF m 12 #[.val (.int p0), .val (.long (p0.toInt64)), .second] [(.long (((-(p0.toInt64)).toUInt64 >>> ((63 : Int32) &&& 0x3f).toInt64.toUInt64).toInt64)), (.long ((p0.toInt64) >>> ((63 : Int32) &&& 0x3f).toInt64))]))
  refine own_step (fun _ k => XS.lor X0.here hx rfl (hb hby own_d2_12) rfl k) ?_
  show own_Ends p.tables e below _ (s₁.setTop (mkF m 13 #[.val (.int p0), .val (.long (p0.toInt64)), .second] [(.long (((p0.toInt64) >>> ((63 : Int32) &&& 0x3f).toInt64) ||| (((-(p0.toInt64)).toUInt64 >>> ((63 : Int32) &&& 0x3f).toInt64.toUInt64).toInt64)))]))
  exact own_retJ X0 hx hlk (by decide) (by decide) Bd.returns (hb hby own_d2_13) (by rw [e0]; exact ⟨rfl, N0, rfl⟩)
theorem own_pd0 : parseMethodDescriptor "(I)Lcom/example/escar/escar/schema/datatype/Order;" = some ⟨[.int], some (.object "com/example/escar/escar/schema/datatype/Order")⟩ := by decide +kernel
theorem own_pd1 : parseMethodDescriptor "(I)J" = some ⟨[.int], some .long⟩ := by decide +kernel
theorem own_ef_0 (m : MethodId) (x0 : Int32) : entryFrame m #[(.int x0)] maxLocals = mkF m 0 #[.val (.int x0), .unset, .unset, .unset, .unset] [] := by first | (simp [entryFrame, mkF, argsToLocals, Value.category, maxLocals]; done) | rfl
def own_Q_law (Z : State) (p0 : Int32) (wL : Addr) (wE : Addr) (wG : Addr) (wI : Addr) (h0 : Heap) (n0 : Nat) (v : Option Value) (h : Heap) (L : List Loc) : Prop := v = some (.int 1) ∧ Fr n0 L
set_option maxRecDepth 65536 in
set_option maxHeartbeats 40000000 in
theorem own_rm_law (l : Launch) (Z : State) (a0 : Array Value) (hw : ∀ d ∈ tables_1, d.before a0 Z = true) (ws : List Jvm.Cond) (p0 : Int32) (wL : Addr) (wE : Addr) (wG : Addr) (wI : Addr) (h0 : Heap) (n0 : Nat) (Z0 : n0 ≤ h0.size) (S_LESS : Sta Z h0 "com/example/escar/escar/schema/datatype/Order" "LESS" "Lcom/example/escar/escar/schema/datatype/Order;" (.ref wL)) (S_EQUAL : Sta Z h0 "com/example/escar/escar/schema/datatype/Order" "EQUAL" "Lcom/example/escar/escar/schema/datatype/Order;" (.ref wE)) (S_GREATER : Sta Z h0 "com/example/escar/escar/schema/datatype/Order" "GREATER" "Lcom/example/escar/escar/schema/datatype/Order;" (.ref wG)) (S_INCOMPARABLE : Sta Z h0 "com/example/escar/escar/schema/datatype/Order" "INCOMPARABLE" "Lcom/example/escar/escar/schema/datatype/Order;" (.ref wI)) (nLI : wL ≠ wI) (nEI : wE ≠ wI) (nGI : wG ≠ wI) :
    MetFree l x (head1 (Jvm.Cond.code x code maxLocals ret :: ws) room_1) (fun a U => a = #[(.int p0)] ∧ Z.Warmed39 U.vm ∧ U.heap = h0) (fun _ _ _ _ _ => True) (fun _ U o U' => ∃ v L, o = .returned v ∧ own_Q_law Z p0 wL wE wG wI h0 n0 v U'.heap L ∧ FrameEnd U o U' L room_1.cells room_1.slots) := by
  refine MetFree.of_bodySF (plainFor_of_name own_pn1) hisR ?_
  intro p e s m args below meth c s₁ Bd hml0 hP hK
  obtain ⟨rfl, hZ, hh⟩ := hP
  have hx := Bd.exec
  have hby := Bd.bytes
  have hlk : meth.locks = false := BodyLoose.notSynchronized Bd
  have hml : c.maxLocals = 5 := hml0
  have hown : s.vm.findClass "com/example/escar/escar/schema/datatype/OrderOfPinLaw" = some m.cls := findClass_of_methodNamed Bd.named
  have hnm := (name_of_methodNamed Bd.named Bd.method).1
  have X0 : Stand p l e room_1 s m #[(.int p0)] below meth c s₁ [] 0 0 := Stand.of_body Bd
  have e0 : s₁.heap = h0 := by rw [← hh, Bd.state]; rfl
  have N0 := Fr.nil n0
  have K0 : Keep h0 h0 [] := Keep.refl _ _
  have pre0 : ∀ t, Steps p.tables e below (s₁.setTop (mkF m 0 #[.val (.int p0), .unset, .unset, .unset, .unset] [])) t → Steps p.tables e below (s₁.setTop (entryFrame m #[(.int p0)] maxLocals)) t := fun t k => castTop (own_ef_0 m p0) k
  show own_Ends p.tables e below (own_Q s (own_Q_law Z p0 wL wE wG wI h0 n0) room_1.cells room_1.slots) (s₁.setTop (entryFrame m #[(.int p0)] maxLocals))
  refine own_step pre0 ?_
  show own_Ends p.tables e below _ (s₁.setTop (mkF m 0 #[.val (.int p0), .unset, .unset, .unset, .unset] []))
  refine own_step (fun _ k => XS.iloadN X0.here hx rfl (hb hby at_0) rfl k) ?_
  show own_Ends p.tables e below _ (s₁.setTop (mkF m 1 #[.val (.int p0), .unset, .unset, .unset, .unset] [(.int p0)]))
  obtain ⟨_, _, ⟨T1, L1, k1, n1⟩, -, X1, ⟨Lc1, hQ1, l1, y1, z1⟩, st1⟩ := Jvm.LawKit.callS X0 hx (y := (⟨"com/example/escar/escar/schema/datatype/Order", "of", "(I)Lcom/example/escar/escar/schema/datatype/Order;"⟩ : MethodName)) hown (mvT hZ (hw _ (List.mem_of_getElem? (i := 0) rfl))) (mvT hZ (hw _ (List.mem_of_getElem? (i := 1) rfl))) (mvT hZ (hw _ (List.mem_of_getElem? (i := 2) rfl))) (mvT hZ (hw _ (List.mem_of_getElem? (i := 3) rfl))) (by decide) (backOf (W := 0) (own_rm_of l Z a0 hw [] p0 wL wE wG h0 n0 Z0 S_LESS S_EQUAL S_GREATER) hZ (hw _ (List.mem_of_getElem? (i := 3) rfl)) (hw _ (List.mem_of_getElem? (i := 2) rfl)) (by decide) (by decide)) (g := (mkF m 1 #[.val (.int p0), .unset, .unset, .unset, .unset] [(.int p0)])) rfl (by rw [hml]; rfl) (argsL := [(.int p0)]) (rest := []) (lenOf own_pd0 rfl) rfl (by show 2 * 0 + _ ≤ _; exact Nat.le_of_eq rfl) (hb hby at_1) (fun _ _ => ⟨rfl, e0, (by decide : 0 + 0 ≤ _), (by decide : 0 + 0 ≤ _)⟩)
  dsimp only [Pt.U, Pt.locs, Pt.cells, Pt.slots] at X1 l1 y1 z1 st1 hQ1
  subst l1 y1 z1
  obtain ⟨rfl, N1q, e1⟩ := hQ1
  have N_1 := Fr.app N0 N1q
  refine own_step st1 ?_
  show own_Ends p.tables e below _ (T1.setTop (mkF m 4 #[.val (.int p0), .unset, .unset, .unset, .unset] [(.ref (own_of p0 wL wE wG))]))
  refine own_step (fun _ k => XS.astoreN X1.here hx rfl (hb hby at_4) rfl rfl (l' := #[.val (.int p0), .val (.ref (own_of p0 wL wE wG)), .unset, .unset, .unset]) rfl k) ?_
  show own_Ends p.tables e below _ (T1.setTop (mkF m 5 #[.val (.int p0), .val (.ref (own_of p0 wL wE wG)), .unset, .unset, .unset] []))
  refine own_step (fun _ k => XS.iloadN X1.here hx rfl (hb hby at_5) rfl k) ?_
  show own_Ends p.tables e below _ (T1.setTop (mkF m 6 #[.val (.int p0), .val (.ref (own_of p0 wL wE wG)), .unset, .unset, .unset] [(.int p0)]))
  obtain ⟨_, _, ⟨T2, L2, k2, n2⟩, -, X2, ⟨Lc2, hQ2, l2, y2, z2⟩, st2⟩ := Jvm.LawKit.callS X1 hx (y := (⟨"com/example/escar/escar/schema/datatype/OrderOfPinLaw", "sign", "(I)J"⟩ : MethodName)) hown (mvT hZ (hw _ (List.mem_of_getElem? (i := 6) rfl))) (mvT hZ (hw _ (List.mem_of_getElem? (i := 7) rfl))) (mvT hZ (hw _ (List.mem_of_getElem? (i := 8) rfl))) (mvT hZ (hw _ (List.mem_of_getElem? (i := 9) rfl))) (by decide) (backOf (W := 0) (own_rm_sign l Z a0 hw [] p0 h0 n0 Z0 ) hZ (hw _ (List.mem_of_getElem? (i := 9) rfl)) (hw _ (List.mem_of_getElem? (i := 8) rfl)) (by decide) (by decide)) (g := (mkF m 6 #[.val (.int p0), .val (.ref (own_of p0 wL wE wG)), .unset, .unset, .unset] [(.int p0)])) rfl (by rw [hml]; rfl) (argsL := [(.int p0)]) (rest := []) (lenOf own_pd1 rfl) rfl (by show 2 * 0 + _ ≤ _; exact Nat.le_of_eq rfl) (hb hby at_6) (fun _ _ => ⟨rfl, e1, (by decide : 0 + 0 ≤ _), (by decide : 0 + 0 ≤ _)⟩)
  dsimp only [Pt.U, Pt.locs, Pt.cells, Pt.slots] at X2 l2 y2 z2 st2 hQ2
  subst l2 y2 z2
  obtain ⟨rfl, N2q, e2⟩ := hQ2
  have N_2 := Fr.app N_1 N2q
  refine own_step st2 ?_
  show own_Ends p.tables e below _ (T2.setTop (mkF m 9 #[.val (.int p0), .val (.ref (own_of p0 wL wE wG)), .unset, .unset, .unset] [(.long (own_sign p0))]))
  refine own_step (fun _ k => XS.lstoreN X2.here hx rfl (hb hby at_9) rfl (l' := #[.val (.int p0), .val (.ref (own_of p0 wL wE wG)), .val (.long (own_sign p0)), .second, .unset]) rfl k) ?_
  show own_Ends p.tables e below _ (T2.setTop (mkF m 10 #[.val (.int p0), .val (.ref (own_of p0 wL wE wG)), .val (.long (own_sign p0)), .second, .unset] []))
  refine own_step (fun _ k => XS.lloadN X2.here hx rfl (hb hby at_10) rfl k) ?_
  show own_Ends p.tables e below _ (T2.setTop (mkF m 11 #[.val (.int p0), .val (.ref (own_of p0 wL wE wG)), .val (.long (own_sign p0)), .second, .unset] [(.long (own_sign p0))]))
  refine own_step (fun _ k => XS.lconst X2.here hx rfl (hb hby at_11) k) ?_
  show own_Ends p.tables e below _ (T2.setTop (mkF m 12 #[.val (.int p0), .val (.ref (own_of p0 wL wE wG)), .val (.long (own_sign p0)), .second, .unset] [(.long (0 : Int64)), (.long (own_sign p0))]))
  refine own_step (fun _ k => XS.lcmp X2.here hx rfl (hb hby at_12) rfl k) ?_
  show own_Ends p.tables e below _ (T2.setTop (mkF m 13 #[.val (.int p0), .val (.ref (own_of p0 wL wE wG)), .val (.long (own_sign p0)), .second, .unset] [(.int (lcmpW (own_sign p0) (0 : Int64)))]))
  by_cases hc13 : (own_sign p0) < (0 : Int64)
  · refine own_step (fun _ k => XS.ifNo X2.here hx rfl (hb hby at_13) rfl ((if0 _ _).trans (tlt ((own_lc_lt _ _).mpr hc13)).2.1) k) ?_
    show own_Ends p.tables e below _ (T2.setTop (mkF m 16 #[.val (.int p0), .val (.ref (own_of p0 wL wE wG)), .val (.long (own_sign p0)), .second, .unset] []))
    obtain ⟨T3, X3, e3, st3⟩ := getS2 X2 hx hZ hown (host := "") (Or.inl (hw _ (List.mem_of_getElem? (i := 18) rfl))) Via.refl e2 S_LESS (g := (mkF m 16 #[.val (.int p0), .val (.ref (own_of p0 wL wE wG)), .val (.long (own_sign p0)), .second, .unset] [])) rfl (hb hby at_16)
    refine own_step st3 ?_
    show own_Ends p.tables e below _ (T3.setTop (mkF m 19 #[.val (.int p0), .val (.ref (own_of p0 wL wE wG)), .val (.long (own_sign p0)), .second, .unset] [(.ref wL)]))
    refine own_step (fun _ k => XS.astore X3.here hx rfl (hb hby at_19) rfl rfl (l' := #[.val (.int p0), .val (.ref (own_of p0 wL wE wG)), .val (.long (own_sign p0)), .second, .val (.ref wL)]) rfl k) ?_
    show own_Ends p.tables e below _ (T3.setTop (mkF m 21 #[.val (.int p0), .val (.ref (own_of p0 wL wE wG)), .val (.long (own_sign p0)), .second, .val (.ref wL)] []))
    refine own_step (fun _ k => XS.goto X3.here hx rfl (pc0 := 21) (pc' := 43) rfl (hb hby at_21) (by decide) (by decide) k) ?_
    show own_Ends p.tables e below _ (T3.setTop (mkF m 43 #[.val (.int p0), .val (.ref (own_of p0 wL wE wG)), .val (.long (own_sign p0)), .second, .val (.ref wL)] []))
    refine own_step (fun _ k => XS.aloadN X3.here hx rfl (hb hby at_43) rfl rfl k) ?_
    show own_Ends p.tables e below _ (T3.setTop (mkF m 44 #[.val (.int p0), .val (.ref (own_of p0 wL wE wG)), .val (.long (own_sign p0)), .second, .val (.ref wL)] [(.ref (own_of p0 wL wE wG))]))
    refine own_step (fun _ k => XS.aload X3.here hx rfl (hb hby at_44) rfl rfl k) ?_
    show own_Ends p.tables e below _ (T3.setTop (mkF m 46 #[.val (.int p0), .val (.ref (own_of p0 wL wE wG)), .val (.long (own_sign p0)), .second, .val (.ref wL)] [(.ref wL), (.ref (own_of p0 wL wE wG))]))
    refine own_step (fun _ k => Jvm.RoadKit.acmp (g := (mkF m 46 #[.val (.int p0), .val (.ref (own_of p0 wL wE wG)), .val (.long (own_sign p0)), .second, .val (.ref wL)] [(.ref wL), (.ref (own_of p0 wL wE wG))])) X3 hx rfl rfl rfl (pc0 := 46) (pc' := 49) (same := true) rfl (hb hby at_46) rfl (decide_eq_true (congrArg Value.ref (own_o1 hc13))) (by decide) (by decide) k) ?_
    show own_Ends p.tables e below _ (T3.setTop (mkF m 49 #[.val (.int p0), .val (.ref (own_of p0 wL wE wG)), .val (.long (own_sign p0)), .second, .val (.ref wL)] []))
    refine own_step (fun _ k => XS.aloadN X3.here hx rfl (hb hby at_49) rfl rfl k) ?_
    show own_Ends p.tables e below _ (T3.setTop (mkF m 50 #[.val (.int p0), .val (.ref (own_of p0 wL wE wG)), .val (.long (own_sign p0)), .second, .val (.ref wL)] [(.ref (own_of p0 wL wE wG))]))
    obtain ⟨T4, X4, e4, st4⟩ := getS2 X3 hx hZ hown (host := "") (Or.inl (hw _ (List.mem_of_getElem? (i := 11) rfl))) Via.refl e3 S_INCOMPARABLE (g := (mkF m 50 #[.val (.int p0), .val (.ref (own_of p0 wL wE wG)), .val (.long (own_sign p0)), .second, .val (.ref wL)] [(.ref (own_of p0 wL wE wG))])) rfl (hb hby at_50)
    refine own_step st4 ?_
    show own_Ends p.tables e below _ (T4.setTop (mkF m 53 #[.val (.int p0), .val (.ref (own_of p0 wL wE wG)), .val (.long (own_sign p0)), .second, .val (.ref wL)] [(.ref wI), (.ref (own_of p0 wL wE wG))]))
    refine own_step (fun _ k => Jvm.RoadKit.acmp (g := (mkF m 53 #[.val (.int p0), .val (.ref (own_of p0 wL wE wG)), .val (.long (own_sign p0)), .second, .val (.ref wL)] [(.ref wI), (.ref (own_of p0 wL wE wG))])) X4 hx rfl rfl rfl (pc0 := 53) (pc' := 56) (same := false) rfl (hb hby at_53) rfl (decide_eq_false fun q => nLI ((own_o1 hc13).symm.trans (Value.ref.inj q))) (by decide) (by decide) k) ?_
    show own_Ends p.tables e below _ (T4.setTop (mkF m 56 #[.val (.int p0), .val (.ref (own_of p0 wL wE wG)), .val (.long (own_sign p0)), .second, .val (.ref wL)] []))
    refine own_step (fun _ k => XS.iconst X4.here hx rfl (hb hby at_56) k) ?_
    show own_Ends p.tables e below _ (T4.setTop (mkF m 57 #[.val (.int p0), .val (.ref (own_of p0 wL wE wG)), .val (.long (own_sign p0)), .second, .val (.ref wL)] [(.int (1 : Int32))]))
    refine own_step (fun _ k => XS.goto X4.here hx rfl (pc0 := 57) (pc' := 61) rfl (hb hby at_57) (by decide) (by decide) k) ?_
    show own_Ends p.tables e below _ (T4.setTop (mkF m 61 #[.val (.int p0), .val (.ref (own_of p0 wL wE wG)), .val (.long (own_sign p0)), .second, .val (.ref wL)] [(.int (1 : Int32))]))
    exact own_retN X4 hx hlk (by decide) (by decide) (t := .boolean) Bd.returns (by simp) (hb hby at_61) (by rw [e4]; exact ⟨rfl, N_2⟩)
  · refine own_step (fun _ k => XS.ifYes X2.here hx rfl (pc0 := 13) (pc' := 24) rfl (hb hby at_13) rfl ((if0 _ _).trans (flt (fun q => hc13 ((own_lc_lt _ _).mp q))).2.1) (by decide) (by decide) k) ?_
    show own_Ends p.tables e below _ (T2.setTop (mkF m 24 #[.val (.int p0), .val (.ref (own_of p0 wL wE wG)), .val (.long (own_sign p0)), .second, .unset] []))
    refine own_step (fun _ k => XS.lloadN X2.here hx rfl (hb hby at_24) rfl k) ?_
    show own_Ends p.tables e below _ (T2.setTop (mkF m 25 #[.val (.int p0), .val (.ref (own_of p0 wL wE wG)), .val (.long (own_sign p0)), .second, .unset] [(.long (own_sign p0))]))
    refine own_step (fun _ k => XS.lconst X2.here hx rfl (hb hby at_25) k) ?_
    show own_Ends p.tables e below _ (T2.setTop (mkF m 26 #[.val (.int p0), .val (.ref (own_of p0 wL wE wG)), .val (.long (own_sign p0)), .second, .unset] [(.long (0 : Int64)), (.long (own_sign p0))]))
    refine own_step (fun _ k => XS.lcmp X2.here hx rfl (hb hby at_26) rfl k) ?_
    show own_Ends p.tables e below _ (T2.setTop (mkF m 27 #[.val (.int p0), .val (.ref (own_of p0 wL wE wG)), .val (.long (own_sign p0)), .second, .unset] [(.int (lcmpW (own_sign p0) (0 : Int64)))]))
    by_cases hc27 : (own_sign p0) = (0 : Int64)
    · refine own_step (fun _ k => XS.ifNo X2.here hx rfl (hb hby at_27) rfl ((if0 _ _).trans (teq ((own_lc_eq _ _).mpr hc27)).2) k) ?_
      show own_Ends p.tables e below _ (T2.setTop (mkF m 30 #[.val (.int p0), .val (.ref (own_of p0 wL wE wG)), .val (.long (own_sign p0)), .second, .unset] []))
      obtain ⟨T5, X5, e5, st5⟩ := getS2 X2 hx hZ hown (host := "") (Or.inl (hw _ (List.mem_of_getElem? (i := 10) rfl))) Via.refl e2 S_EQUAL (g := (mkF m 30 #[.val (.int p0), .val (.ref (own_of p0 wL wE wG)), .val (.long (own_sign p0)), .second, .unset] [])) rfl (hb hby at_30)
      refine own_step st5 ?_
      show own_Ends p.tables e below _ (T5.setTop (mkF m 33 #[.val (.int p0), .val (.ref (own_of p0 wL wE wG)), .val (.long (own_sign p0)), .second, .unset] [(.ref wE)]))
      refine own_step (fun _ k => XS.astore X5.here hx rfl (hb hby at_33) rfl rfl (l' := #[.val (.int p0), .val (.ref (own_of p0 wL wE wG)), .val (.long (own_sign p0)), .second, .val (.ref wE)]) rfl k) ?_
      show own_Ends p.tables e below _ (T5.setTop (mkF m 35 #[.val (.int p0), .val (.ref (own_of p0 wL wE wG)), .val (.long (own_sign p0)), .second, .val (.ref wE)] []))
      refine own_step (fun _ k => XS.goto X5.here hx rfl (pc0 := 35) (pc' := 43) rfl (hb hby at_35) (by decide) (by decide) k) ?_
      show own_Ends p.tables e below _ (T5.setTop (mkF m 43 #[.val (.int p0), .val (.ref (own_of p0 wL wE wG)), .val (.long (own_sign p0)), .second, .val (.ref wE)] []))
      refine own_step (fun _ k => XS.aloadN X5.here hx rfl (hb hby at_43) rfl rfl k) ?_
      show own_Ends p.tables e below _ (T5.setTop (mkF m 44 #[.val (.int p0), .val (.ref (own_of p0 wL wE wG)), .val (.long (own_sign p0)), .second, .val (.ref wE)] [(.ref (own_of p0 wL wE wG))]))
      refine own_step (fun _ k => XS.aload X5.here hx rfl (hb hby at_44) rfl rfl k) ?_
      show own_Ends p.tables e below _ (T5.setTop (mkF m 46 #[.val (.int p0), .val (.ref (own_of p0 wL wE wG)), .val (.long (own_sign p0)), .second, .val (.ref wE)] [(.ref wE), (.ref (own_of p0 wL wE wG))]))
      refine own_step (fun _ k => Jvm.RoadKit.acmp (g := (mkF m 46 #[.val (.int p0), .val (.ref (own_of p0 wL wE wG)), .val (.long (own_sign p0)), .second, .val (.ref wE)] [(.ref wE), (.ref (own_of p0 wL wE wG))])) X5 hx rfl rfl rfl (pc0 := 46) (pc' := 49) (same := true) rfl (hb hby at_46) rfl (decide_eq_true (congrArg Value.ref (own_o2 hc27))) (by decide) (by decide) k) ?_
      show own_Ends p.tables e below _ (T5.setTop (mkF m 49 #[.val (.int p0), .val (.ref (own_of p0 wL wE wG)), .val (.long (own_sign p0)), .second, .val (.ref wE)] []))
      refine own_step (fun _ k => XS.aloadN X5.here hx rfl (hb hby at_49) rfl rfl k) ?_
      show own_Ends p.tables e below _ (T5.setTop (mkF m 50 #[.val (.int p0), .val (.ref (own_of p0 wL wE wG)), .val (.long (own_sign p0)), .second, .val (.ref wE)] [(.ref (own_of p0 wL wE wG))]))
      obtain ⟨T6, X6, e6, st6⟩ := getS2 X5 hx hZ hown (host := "") (Or.inl (hw _ (List.mem_of_getElem? (i := 11) rfl))) Via.refl e5 S_INCOMPARABLE (g := (mkF m 50 #[.val (.int p0), .val (.ref (own_of p0 wL wE wG)), .val (.long (own_sign p0)), .second, .val (.ref wE)] [(.ref (own_of p0 wL wE wG))])) rfl (hb hby at_50)
      refine own_step st6 ?_
      show own_Ends p.tables e below _ (T6.setTop (mkF m 53 #[.val (.int p0), .val (.ref (own_of p0 wL wE wG)), .val (.long (own_sign p0)), .second, .val (.ref wE)] [(.ref wI), (.ref (own_of p0 wL wE wG))]))
      refine own_step (fun _ k => Jvm.RoadKit.acmp (g := (mkF m 53 #[.val (.int p0), .val (.ref (own_of p0 wL wE wG)), .val (.long (own_sign p0)), .second, .val (.ref wE)] [(.ref wI), (.ref (own_of p0 wL wE wG))])) X6 hx rfl rfl rfl (pc0 := 53) (pc' := 56) (same := false) rfl (hb hby at_53) rfl (decide_eq_false fun q => nEI ((own_o2 hc27).symm.trans (Value.ref.inj q))) (by decide) (by decide) k) ?_
      show own_Ends p.tables e below _ (T6.setTop (mkF m 56 #[.val (.int p0), .val (.ref (own_of p0 wL wE wG)), .val (.long (own_sign p0)), .second, .val (.ref wE)] []))
      refine own_step (fun _ k => XS.iconst X6.here hx rfl (hb hby at_56) k) ?_
      show own_Ends p.tables e below _ (T6.setTop (mkF m 57 #[.val (.int p0), .val (.ref (own_of p0 wL wE wG)), .val (.long (own_sign p0)), .second, .val (.ref wE)] [(.int (1 : Int32))]))
      refine own_step (fun _ k => XS.goto X6.here hx rfl (pc0 := 57) (pc' := 61) rfl (hb hby at_57) (by decide) (by decide) k) ?_
      show own_Ends p.tables e below _ (T6.setTop (mkF m 61 #[.val (.int p0), .val (.ref (own_of p0 wL wE wG)), .val (.long (own_sign p0)), .second, .val (.ref wE)] [(.int (1 : Int32))]))
      exact own_retN X6 hx hlk (by decide) (by decide) (t := .boolean) Bd.returns (by simp) (hb hby at_61) (by rw [e6]; exact ⟨rfl, N_2⟩)
    · refine own_step (fun _ k => XS.ifYes X2.here hx rfl (pc0 := 27) (pc' := 38) rfl (hb hby at_27) rfl ((if0 _ _).trans (feq (fun q => hc27 ((own_lc_eq _ _).mp q))).2) (by decide) (by decide) k) ?_
      show own_Ends p.tables e below _ (T2.setTop (mkF m 38 #[.val (.int p0), .val (.ref (own_of p0 wL wE wG)), .val (.long (own_sign p0)), .second, .unset] []))
      obtain ⟨T7, X7, e7, st7⟩ := getS2 X2 hx hZ hown (host := "") (Or.inl (hw _ (List.mem_of_getElem? (i := 15) rfl))) Via.refl e2 S_GREATER (g := (mkF m 38 #[.val (.int p0), .val (.ref (own_of p0 wL wE wG)), .val (.long (own_sign p0)), .second, .unset] [])) rfl (hb hby at_38)
      refine own_step st7 ?_
      show own_Ends p.tables e below _ (T7.setTop (mkF m 41 #[.val (.int p0), .val (.ref (own_of p0 wL wE wG)), .val (.long (own_sign p0)), .second, .unset] [(.ref wG)]))
      refine own_step (fun _ k => XS.astore X7.here hx rfl (hb hby at_41) rfl rfl (l' := #[.val (.int p0), .val (.ref (own_of p0 wL wE wG)), .val (.long (own_sign p0)), .second, .val (.ref wG)]) rfl k) ?_
      show own_Ends p.tables e below _ (T7.setTop (mkF m 43 #[.val (.int p0), .val (.ref (own_of p0 wL wE wG)), .val (.long (own_sign p0)), .second, .val (.ref wG)] []))
      refine own_step (fun _ k => XS.aloadN X7.here hx rfl (hb hby at_43) rfl rfl k) ?_
      show own_Ends p.tables e below _ (T7.setTop (mkF m 44 #[.val (.int p0), .val (.ref (own_of p0 wL wE wG)), .val (.long (own_sign p0)), .second, .val (.ref wG)] [(.ref (own_of p0 wL wE wG))]))
      refine own_step (fun _ k => XS.aload X7.here hx rfl (hb hby at_44) rfl rfl k) ?_
      show own_Ends p.tables e below _ (T7.setTop (mkF m 46 #[.val (.int p0), .val (.ref (own_of p0 wL wE wG)), .val (.long (own_sign p0)), .second, .val (.ref wG)] [(.ref wG), (.ref (own_of p0 wL wE wG))]))
      refine own_step (fun _ k => Jvm.RoadKit.acmp (g := (mkF m 46 #[.val (.int p0), .val (.ref (own_of p0 wL wE wG)), .val (.long (own_sign p0)), .second, .val (.ref wG)] [(.ref wG), (.ref (own_of p0 wL wE wG))])) X7 hx rfl rfl rfl (pc0 := 46) (pc' := 49) (same := true) rfl (hb hby at_46) rfl (decide_eq_true (congrArg Value.ref (own_o3 hc13 hc27))) (by decide) (by decide) k) ?_
      show own_Ends p.tables e below _ (T7.setTop (mkF m 49 #[.val (.int p0), .val (.ref (own_of p0 wL wE wG)), .val (.long (own_sign p0)), .second, .val (.ref wG)] []))
      refine own_step (fun _ k => XS.aloadN X7.here hx rfl (hb hby at_49) rfl rfl k) ?_
      show own_Ends p.tables e below _ (T7.setTop (mkF m 50 #[.val (.int p0), .val (.ref (own_of p0 wL wE wG)), .val (.long (own_sign p0)), .second, .val (.ref wG)] [(.ref (own_of p0 wL wE wG))]))
      obtain ⟨T8, X8, e8, st8⟩ := getS2 X7 hx hZ hown (host := "") (Or.inl (hw _ (List.mem_of_getElem? (i := 11) rfl))) Via.refl e7 S_INCOMPARABLE (g := (mkF m 50 #[.val (.int p0), .val (.ref (own_of p0 wL wE wG)), .val (.long (own_sign p0)), .second, .val (.ref wG)] [(.ref (own_of p0 wL wE wG))])) rfl (hb hby at_50)
      refine own_step st8 ?_
      show own_Ends p.tables e below _ (T8.setTop (mkF m 53 #[.val (.int p0), .val (.ref (own_of p0 wL wE wG)), .val (.long (own_sign p0)), .second, .val (.ref wG)] [(.ref wI), (.ref (own_of p0 wL wE wG))]))
      refine own_step (fun _ k => Jvm.RoadKit.acmp (g := (mkF m 53 #[.val (.int p0), .val (.ref (own_of p0 wL wE wG)), .val (.long (own_sign p0)), .second, .val (.ref wG)] [(.ref wI), (.ref (own_of p0 wL wE wG))])) X8 hx rfl rfl rfl (pc0 := 53) (pc' := 56) (same := false) rfl (hb hby at_53) rfl (decide_eq_false fun q => nGI ((own_o3 hc13 hc27).symm.trans (Value.ref.inj q))) (by decide) (by decide) k) ?_
      show own_Ends p.tables e below _ (T8.setTop (mkF m 56 #[.val (.int p0), .val (.ref (own_of p0 wL wE wG)), .val (.long (own_sign p0)), .second, .val (.ref wG)] []))
      refine own_step (fun _ k => XS.iconst X8.here hx rfl (hb hby at_56) k) ?_
      show own_Ends p.tables e below _ (T8.setTop (mkF m 57 #[.val (.int p0), .val (.ref (own_of p0 wL wE wG)), .val (.long (own_sign p0)), .second, .val (.ref wG)] [(.int (1 : Int32))]))
      refine own_step (fun _ k => XS.goto X8.here hx rfl (pc0 := 57) (pc' := 61) rfl (hb hby at_57) (by decide) (by decide) k) ?_
      show own_Ends p.tables e below _ (T8.setTop (mkF m 61 #[.val (.int p0), .val (.ref (own_of p0 wL wE wG)), .val (.long (own_sign p0)), .second, .val (.ref wG)] [(.int (1 : Int32))]))
      exact own_retN X8 hx hlk (by decide) (by decide) (t := .boolean) Bd.returns (by simp) (hb hby at_61) (by rw [e8]; exact ⟨rfl, N_2⟩)
set_option maxRecDepth 65536 in
set_option maxHeartbeats 40000000 in
theorem own_comes_1 {Post : Tables → Env → Array Value → State → Outcome → State → Prop} (hpost : ∀ tb e args s v u, (limb_1_1.after args s (.returned v) u = true ∧ limb_1_2.after args s (.returned v) u = true ∧ True) → FrameEnd s (.returned v) u (Jvm.fieldLocs frame_1_writes args s ++ Jvm.arrayLocs frame_1_arrays args s ++ Jvm.staticLocs frame_1_statics s) 0 0 → Post tb e args s (.returned v) u) :
    ArmFor flags0 classFile x code maxLocals ret World_1 tables_1 room_1 Calls_1 rest_1 Pre_1 Post := by
  intro l hfl _ _ p e ha hc hk s m args below hf hA hF happ hP
  obtain ⟨hcalls, hrest, hpre⟩ := hP
  obtain ⟨-, -, -, hnamed, -, -, -, hat⟩ := (Spec.applies_iff hf).mp happ
  obtain ⟨hg, hn⟩ := and_e (Cond.before_iff.mp (show (Jvm.Cond.and given_1 narrow_1).before args s = true from hpre))
  obtain ⟨g0, r0⟩ := and_e hg
  obtain ⟨w0, rfl⟩ : ∃ w0 : Value, args = #[w0] := by
    have hs : args.size = 1 := by simpa [Cond.value, given_1] using g0
    obtain ⟨L⟩ := args
    match L, hs with
    | [w0], _ => exact ⟨w0, rfl⟩
  have hw := fun d (hd : d ∈ tables_1) => atoms_spec (ws := Jvm.Cond.code x code maxLocals ret :: tables_1) hat d (List.mem_cons_of_mem _ hd)
  have hfit : Fit s := fun {y c} hc i hi => by
    obtain ⟨ha, rfl⟩ := Array.getElem?_eq_some_iff.mp hc
    have q := List.all_eq_true.mp ((Array.all_eq_true_iff_forall_mem.mp hF) _ (Array.getElem_mem ha)) i (List.mem_range.mpr hi)
    simpa [Array.getElem?_eq_getElem hi] using q
  obtain ⟨i0, ei0⟩ := is_v r0
  obtain rfl : w0 = (.int i0) := Option.some.inj ei0
  obtain ⟨c0, d0⟩ := and_e hn
  obtain ⟨c1, d1⟩ := and_e d0
  obtain ⟨c2, d2⟩ := and_e d1
  obtain ⟨c3, d3⟩ := and_e d2
  obtain ⟨c4, d4⟩ := and_e d3
  obtain ⟨c5, d5⟩ := and_e d4
  obtain ⟨c6, d6⟩ := and_e d5
  obtain ⟨wL, ev_LESS⟩ := exa_v c6
  have S_LESS : Sta s s.heap "com/example/escar/escar/schema/datatype/Order" "LESS" "Lcom/example/escar/escar/schema/datatype/Order;" (.ref wL) := Sta.start ev_LESS (Or.inr ⟨hw _ (List.mem_of_getElem? (i := 2) rfl), hw _ (List.mem_of_getElem? (i := 17) rfl)⟩)
  obtain ⟨wE, ev_EQUAL⟩ := exa_v c0
  have S_EQUAL : Sta s s.heap "com/example/escar/escar/schema/datatype/Order" "EQUAL" "Lcom/example/escar/escar/schema/datatype/Order;" (.ref wE) := Sta.start ev_EQUAL (Or.inr ⟨hw _ (List.mem_of_getElem? (i := 2) rfl), hw _ (List.mem_of_getElem? (i := 5) rfl)⟩)
  obtain ⟨wG, ev_GREATER⟩ := exa_v c4
  have S_GREATER : Sta s s.heap "com/example/escar/escar/schema/datatype/Order" "GREATER" "Lcom/example/escar/escar/schema/datatype/Order;" (.ref wG) := Sta.start ev_GREATER (Or.inr ⟨hw _ (List.mem_of_getElem? (i := 2) rfl), hw _ (List.mem_of_getElem? (i := 14) rfl)⟩)
  obtain ⟨wI, ev_INCOMPARABLE⟩ := exa_v c1
  have S_INCOMPARABLE : Sta s s.heap "com/example/escar/escar/schema/datatype/Order" "INCOMPARABLE" "Lcom/example/escar/escar/schema/datatype/Order;" (.ref wI) := Sta.start ev_INCOMPARABLE (Or.inr ⟨hw _ (List.mem_of_getElem? (i := 2) rfl), hw _ (List.mem_of_getElem? (i := 12) rfl)⟩)
  have O_LESS : Fld s s.heap wL "java/lang/Enum" "ordinal" "I" (.int 0) := Fld.start ((fld_at ev_LESS).symm.trans (own_eq_int d6))
  have O_EQUAL : Fld s s.heap wE "java/lang/Enum" "ordinal" "I" (.int 1) := Fld.start ((fld_at ev_EQUAL).symm.trans (own_eq_int c2))
  have O_GREATER : Fld s s.heap wG "java/lang/Enum" "ordinal" "I" (.int 2) := Fld.start ((fld_at ev_GREATER).symm.trans (own_eq_int c5))
  have O_INCOMPARABLE : Fld s s.heap wI "java/lang/Enum" "ordinal" "I" (.int 3) := Fld.start ((fld_at ev_INCOMPARABLE).symm.trans (own_eq_int c3))
  have nLI : wL ≠ wI := O_LESS.ne O_INCOMPARABLE (by decide)
  have nEI : wE ≠ wI := O_EQUAL.ne O_INCOMPARABLE (by decide)
  have nGI : wG ≠ wI := O_GREATER.ne O_INCOMPARABLE (by decide)
  obtain ⟨n, o, h1, h2, h3, _, L, rfl, ⟨rfl, N⟩, hq⟩ := own_rm_law l s _ hw tables_1 i0 wL wE wG wI s.heap s.heap.size (Nat.le_refl _) S_LESS S_EQUAL S_GREATER S_INCOMPARABLE nLI nEI nGI p e ha hc hk s m _ below hf ((Spec.applies_iff_loose hf).mp happ).1 ⟨rfl, State.Warmed39.refl s, rfl⟩ trivial
  refine ⟨n, _, h1, h2, h3, hpost _ _ _ _ _ _ ⟨Cond.after_iff.mpr rfl, Cond.after_iff.mpr (eq_i res_at (Term.int_eval (1)) rfl), trivial⟩ ⟨hq.1, hq.2.1, (hq.2.2.sift fun y hy => Or.inr (N y hy)).mono (by decide) (by decide)⟩⟩
theorem main_1_1 : Claimed_1_1 := own_comes_1 fun _ _ _ _ _ _ h hF => ⟨h.1, hF⟩
theorem main_1_2 : Claimed_1_2 := own_comes_1 fun _ _ _ _ _ _ h hF => ⟨h.2.1, hF⟩
end Jvm.Pilot.@@N@@
namespace Jvm.Pilot.@@N@@
open Jvm Jvm.ClassFile Sem Op Lib Jvm.Free Jvm.Stand Jvm.Pilot.@@N@@.Jvm.D
/-! MADE BY PROGRAM (witnessworld.py) out of the Statement's table words and the real class files: 12 classes; the members and pool entries that the words name. The judged class is class 1, her method 2. -/
namespace start1
open Jvm.ClassFile
def u (s : String) : CpInfo := .utf8 (stringToUtf16 s)
/-- a pool by its gaps: so many unusable entries, then the entry; so many at the end -/
def gap : Nat → List CpInfo → List CpInfo
  | 0, r => r
  | n + 1, r => .unusable :: gap n r
def poolList (es : List (Nat × CpInfo)) (last : Nat) : List CpInfo := es.foldr (fun e r => gap e.1 (e.2 :: r)) (gap last [])
def pool (es : List (Nat × CpInfo)) (last : Nat) : Array CpInfo := ⟨poolList es last⟩
def fileOf (pool : Array CpInfo) (this : Nat) (attrs : Array Attribute := #[]) (ms : Array MethodInfo := #[]) (fl : Nat := 33) (sup : Nat := 0) (ifs : Array Nat := #[]) (fds : Array FieldInfo := #[]) : ClassFile where
  minorVersion := 0
  majorVersion := 65
  constantPool := pool
  accessFlags := fl
  thisClass := this
  superClass := sup
  interfaces := ifs
  fields := fds
  methods := ms
  attributes := attrs
def plain (name : String) (sup : Option ClassId) : Class where
  name := name
  kind := .ordinary
  loader := none
  accessFlags := 33
  super := sup
  interfaces := #[]
  cf := none
  fields := #[]
  methods := #[]
  instanceTypes := #[]
  staticTypes := #[]
  resolved := #[]
  callSites := []
  init := .initialized
  statics := none
  mirror := none

def pool0 : Array CpInfo := pool [(5, u "<init>"), (0, u "()V"), (1, .class_ 10), (1, u "java/lang/Object")] 113

def k0m0 : Method := { name := "<init>", desc := "()V", sig := { parameters := [], returnType := none }, accessFlags := 1, code := none }
/-- java/lang/Object -/
def k0 : Class := { plain "java/lang/Object" none with
  accessFlags := 33
  interfaces := #[]
  cf := some (fileOf pool0 8 #[] #[{ accessFlags := 1, nameIndex := 5, descriptorIndex := 6, attributes := #[] }] 33 0 #[] #[])
  fields := #[]
  methods := #[k0m0]
  instanceTypes := #[]
  staticTypes := #[]
  resolved := Array.replicate 124 none
  statics := none }

def pool1 : Array CpInfo := pool [(2, .class_ 4), (1, u "java/lang/Object"), (0, u "<init>"), (0, u "()V"), (0, .methodref 8 9), (0, .class_ 10), (0, .nameAndType 11 12), (0, u "com/example/escar/escar/schema/datatype/Order"), (0, u "of"), (0, u "(I)Lcom/example/escar/escar/schema/datatype/Order;"), (0, .methodref 14 15), (0, .class_ 16), (0, .nameAndType 17 18), (0, u "com/example/escar/escar/schema/datatype/OrderOfPinLaw"), (0, u "sign"), (0, u "(I)J"), (0, .fieldref 8 20), (0, .nameAndType 21 22), (0, u "LESS"), (0, u "Lcom/example/escar/escar/schema/datatype/Order;"), (0, .fieldref 8 24), (0, .nameAndType 25 22), (0, u "EQUAL"), (0, .fieldref 8 27), (0, .nameAndType 28 22), (0, u "GREATER"), (0, .fieldref 8 30), (0, .nameAndType 31 22), (0, u "INCOMPARABLE"), (2, u "law"), (0, u "(I)Z")] 3

def k1m0 : Method := { name := "<init>", desc := "()V", sig := { parameters := [], returnType := none }, accessFlags := 2, code := none }
def k1c1 : Code := { maxStack := 5, maxLocals := 3, code := method_2_code, exceptionTable := #[], attributes := #[] }
def k1m1 : Method := { name := "sign", desc := "(I)J", sig := { parameters := [.int], returnType := some .long }, accessFlags := 10, code := some k1c1 }
def k1c2 : Code := { maxStack := 4, maxLocals := 5, code := code, exceptionTable := #[], attributes := #[] }
def k1m2 : Method := { name := "law", desc := "(I)Z", sig := { parameters := [.int], returnType := some .boolean }, accessFlags := 9, code := some k1c2 }
/-- com/example/escar/escar/schema/datatype/OrderOfPinLaw -/
def k1 : Class := { plain "com/example/escar/escar/schema/datatype/OrderOfPinLaw" (some 0) with
  accessFlags := 49
  interfaces := #[]
  cf := some (fileOf pool1 14 #[] #[{ accessFlags := 2, nameIndex := 5, descriptorIndex := 6, attributes := #[] }, { accessFlags := 10, nameIndex := 17, descriptorIndex := 18, attributes := #[] }, { accessFlags := 9, nameIndex := 34, descriptorIndex := 35, attributes := #[] }] 49 2 #[] #[])
  fields := #[]
  methods := #[k1m0, k1m1, k1m2]
  instanceTypes := #[]
  staticTypes := #[]
  resolved := Array.replicate 39 none
  statics := none }

def pool2 : Array CpInfo := pool [(1, .class_ 2), (0, u "java/lang/constant/Constable"), (0, .class_ 4), (0, u "java/lang/Object")] 6

/-- java/lang/constant/Constable -/
def k2 : Class := { plain "java/lang/constant/Constable" (some 0) with
  accessFlags := 1537
  interfaces := #[]
  cf := some (fileOf pool2 1 #[] #[] 1537 3 #[] #[])
  fields := #[]
  methods := #[]
  instanceTypes := #[]
  staticTypes := #[]
  resolved := Array.replicate 11 none
  statics := none }

def pool3 : Array CpInfo := pool [(1, .class_ 2), (0, u "java/lang/Comparable"), (0, .class_ 4), (0, u "java/lang/Object")] 7

/-- java/lang/Comparable -/
def k3 : Class := { plain "java/lang/Comparable" (some 0) with
  accessFlags := 1537
  interfaces := #[]
  cf := some (fileOf pool3 1 #[] #[] 1537 3 #[] #[])
  fields := #[]
  methods := #[]
  instanceTypes := #[]
  staticTypes := #[]
  resolved := Array.replicate 12 none
  statics := none }

def pool4 : Array CpInfo := pool [(1, .class_ 2), (0, u "java/io/Serializable"), (0, .class_ 4), (0, u "java/lang/Object")] 2

/-- java/io/Serializable -/
def k4 : Class := { plain "java/io/Serializable" (some 0) with
  accessFlags := 1537
  interfaces := #[]
  cf := some (fileOf pool4 1 #[] #[] 1537 3 #[] #[])
  fields := #[]
  methods := #[]
  instanceTypes := #[]
  staticTypes := #[]
  resolved := Array.replicate 7 none
  statics := none }

def pool5 : Array CpInfo := pool [(2, .class_ 4), (1, u "java/lang/Enum"), (0, u "name"), (0, u "Ljava/lang/String;"), (2, u "ordinal"), (0, u "I"), (1, .class_ 14), (1, u "java/lang/Object"), (4, u "hash"), (86, .class_ 108), (1, u "java/lang/Enum$EnumDesc"), (2, .class_ 112), (0, u "java/lang/constant/Constable"), (0, .class_ 114), (0, u "java/lang/Comparable"), (0, .class_ 116), (0, u "java/io/Serializable")] 87

/-- java/lang/Enum -/
def k5 : Class := { plain "java/lang/Enum" (some 0) with
  accessFlags := 1057
  interfaces := #[2, 3, 4]
  cf := some (fileOf pool5 2 #[.nestMembers #[106]] #[] 1057 12 #[111, 113, 115] #[{ accessFlags := 18, nameIndex := 5, descriptorIndex := 6, attributes := #[] }, { accessFlags := 18, nameIndex := 9, descriptorIndex := 10, attributes := #[] }, { accessFlags := 2, nameIndex := 19, descriptorIndex := 10, attributes := #[] }])
  fields := #[{ name := "name", type := (.object "java/lang/String"), accessFlags := 18, slot := 0, constantValue := 0 }, { name := "ordinal", type := .int, accessFlags := 18, slot := 1, constantValue := 0 }, { name := "hash", type := .int, accessFlags := 2, slot := 2, constantValue := 0 }]
  methods := #[]
  instanceTypes := #[(.object "java/lang/String"), .int, .int]
  staticTypes := #[]
  resolved := Array.replicate 204 none
  statics := none }

def pool6 : Array CpInfo := pool [(1, .class_ 2), (0, u "com/example/escar/escar/schema/datatype/Order"), (0, .fieldref 1 4), (0, .nameAndType 5 6), (0, u "LESS"), (0, u "Lcom/example/escar/escar/schema/datatype/Order;"), (0, .fieldref 1 8), (0, .nameAndType 9 6), (0, u "EQUAL"), (0, .fieldref 1 11), (0, .nameAndType 12 6), (0, u "GREATER"), (2, u "INCOMPARABLE"), (2, u "$VALUES"), (0, u "[Lcom/example/escar/escar/schema/datatype/Order;"), (6, .class_ 28), (1, u "java/lang/Enum"), (22, u "of"), (0, u "(I)Lcom/example/escar/escar/schema/datatype/Order;")] 5

def k6c0 : Code := { maxStack := 1, maxLocals := 2, code := prog_49_method_4_code, exceptionTable := #[], attributes := #[] }
def k6m0 : Method := { name := "of", desc := "(I)Lcom/example/escar/escar/schema/datatype/Order;", sig := { parameters := [.int], returnType := some (.object "com/example/escar/escar/schema/datatype/Order") }, accessFlags := 9, code := some k6c0 }
/-- com/example/escar/escar/schema/datatype/Order -/
def k6 : Class := { plain "com/example/escar/escar/schema/datatype/Order" (some 5) with
  accessFlags := 16433
  interfaces := #[]
  cf := some (fileOf pool6 1 #[] #[{ accessFlags := 9, nameIndex := 51, descriptorIndex := 52, attributes := #[] }] 16433 26 #[] #[{ accessFlags := 16409, nameIndex := 5, descriptorIndex := 6, attributes := #[] }, { accessFlags := 16409, nameIndex := 9, descriptorIndex := 6, attributes := #[] }, { accessFlags := 16409, nameIndex := 12, descriptorIndex := 6, attributes := #[] }, { accessFlags := 16409, nameIndex := 15, descriptorIndex := 6, attributes := #[] }, { accessFlags := 4122, nameIndex := 18, descriptorIndex := 19, attributes := #[] }])
  fields := #[{ name := "LESS", type := (.object "com/example/escar/escar/schema/datatype/Order"), accessFlags := 16409, slot := 0, constantValue := 0 }, { name := "EQUAL", type := (.object "com/example/escar/escar/schema/datatype/Order"), accessFlags := 16409, slot := 1, constantValue := 0 }, { name := "GREATER", type := (.object "com/example/escar/escar/schema/datatype/Order"), accessFlags := 16409, slot := 2, constantValue := 0 }, { name := "INCOMPARABLE", type := (.object "com/example/escar/escar/schema/datatype/Order"), accessFlags := 16409, slot := 3, constantValue := 0 }, { name := "$VALUES", type := (.array (.object "com/example/escar/escar/schema/datatype/Order")), accessFlags := 4122, slot := 4, constantValue := 0 }]
  methods := #[k6m0]
  instanceTypes := #[(.object "java/lang/String"), .int, .int]
  staticTypes := #[(.object "com/example/escar/escar/schema/datatype/Order"), (.object "com/example/escar/escar/schema/datatype/Order"), (.object "com/example/escar/escar/schema/datatype/Order"), (.object "com/example/escar/escar/schema/datatype/Order"), (.array (.object "com/example/escar/escar/schema/datatype/Order"))]
  resolved := Array.replicate 58 none
  statics := some 0 }

def pool7 : Array CpInfo := pool [(1, u "java/lang/Cloneable"), (0, .class_ 1), (0, u "java/lang/Object"), (0, .class_ 3)] 3

/-- java/lang/Cloneable -/
def k7 : Class := { plain "java/lang/Cloneable" (some 0) with
  accessFlags := 1537
  interfaces := #[]
  cf := some (fileOf pool7 2 #[] #[] 1537 4 #[] #[])
  fields := #[]
  methods := #[]
  instanceTypes := #[]
  staticTypes := #[]
  resolved := Array.replicate 8 none
  statics := none }

/-- the primitive byte -/
def k8 : Class := { plain "byte" none with kind := .primitive 'B', accessFlags := 0x411 }
/-- [B -/
def k9 : Class := { plain "[B" (some 0) with kind := .array 8 .byte, interfaces := #[7, 4], accessFlags := 1041 }

/-- the primitive int -/
def k10 : Class := { plain "int" none with kind := .primitive 'I', accessFlags := 0x411 }
/-- [I -/
def k11 : Class := { plain "[I" (some 0) with kind := .array 10 .int, interfaces := #[7, 4], accessFlags := 1041 }

def heap : Heap := #[{ cls := 6, slots := #[.ref 1, .ref 2, .ref 3, .ref 4, .null], vm := .statics 6 },
  { cls := 6, slots := #[.null, .int 0, .int 0], vm := .none },
  { cls := 6, slots := #[.null, .int 1, .int 0], vm := .none },
  { cls := 6, slots := #[.null, .int 2, .int 0], vm := .none },
  { cls := 6, slots := #[.null, .int 3, .int 0], vm := .none }]
def classes : Array Class := #[k0, k1, k2, k3, k4, k5, k6, k7, k8, k9, k10, k11]
def interned : List (Array UInt16 × Addr) := []
def slotsUsed : Nat := 17
def theMethod : MethodId := ⟨1, 2⟩
def args0 : Array Value := #[.int 5]
def aboutOver (below : List Frame) : State where
  vm := { classes := classes, interned := interned.toArray }
  heap := heap
  slotsUsed := slotsUsed
  threads := #[{ frames := .invoking theMethod args0 :: below }]
def below0 : List Frame := [.native { method := ⟨0, 0⟩, args := #[] }]
def about1 : State := aboutOver below0
def p0 : Program := .bare "" "" ""
def e0 : Env := launch0.env 0 0 0
theorem w_frames : about1.frames = Frame.invoking theMethod args0 :: below0 := rfl
set_option maxRecDepth 65536 in
theorem w_args : argsFit about1.vm theMethod args0 = true := by decide +kernel
set_option maxRecDepth 65536 in
theorem w_heap : heapFits about1 = true := by decide +kernel
set_option maxRecDepth 65536 in
theorem w_runnable : about1.curStatus? = some .runnable := by decide +kernel
set_option maxRecDepth 65536 in
theorem w_alone : about1.alone = true := by decide +kernel
set_option maxRecDepth 65536 in
theorem w_named : about1.methodNamed? x = some theMethod := by decide +kernel
set_option maxRecDepth 65536 in
theorem w_hears : about1.hears theMethod below0 = true := by decide +kernel
set_option maxRecDepth 65536 in
theorem w_ripe : about1.ripe theMethod args0 below0 = true := by decide +kernel
theorem w_running : about1.status = .running := rfl
set_option maxRecDepth 65536 in
theorem w_room : about1.hasRoom e0.platform room_1 = true :=
  launch0.hasRoom_least _ room_1 (by decide +kernel) (by decide +kernel) (by decide +kernel) (by decide +kernel) (by decide +kernel) (by decide +kernel)
theorem allAtoms_all (ts : List Jvm.Cond) (a : Array Jvm.Value) (st : Jvm.State) : (allAtoms ts).before a st = ts.all (fun c => c.before a st) := by
  induction ts with
  | nil => rfl
  | cons c t ih =>
    show (Jvm.Cond.and c (allAtoms t)).before a st = _
    rw [Jvm.Cond.before_and, ih, List.all_cons]
def words1 : List Jvm.Cond := Jvm.Cond.code x code maxLocals ret :: tables_1
/-- a 'code' word, met by the world's own term for the bytes: nothing is compared byte by byte -/
theorem code_word {y : MethodName} {bytes : ByteArray} {mx : Nat} {rt : Option FieldType} {a : Array Value} {s : State} {m : MethodId} {meth : Method} {c : Code} (h1 : s.methodNamed? y = some m) (h2 : s.vm.method? m = some meth) (h3 : meth.code = some c) (h4 : c.code = bytes)
    (h5 : (c.maxLocals == mx && c.exceptionTable.isEmpty && decide (c.maxStack ≤ mostOperands) && decide (meth.sig.returnType = rt) && !meth.locks && decide (parseMethodDescriptor y.desc = some meth.sig)) = true) : (Jvm.Cond.code y bytes mx rt).before a s = true := by
  simp only [Bool.and_eq_true, beq_iff_eq, Bool.not_eq_true', decide_eq_true_eq] at h5
  obtain ⟨⟨⟨⟨⟨g1, g2⟩, g3⟩, g4⟩, g5⟩, g6⟩ := h5
  simp [Cond.before, Cond.holds, Cond.value, h1, h2, h3, h4, g1, g2, g3, g4, g5, g6]
def isCode : Jvm.Cond → Bool
  | .code _ _ _ _ => true
  | _ => false
theorem all_split {L : List Jvm.Cond} {P : Jvm.Cond → Bool} (h1 : L.all (fun c => isCode c || P c) = true) (h2 : ∀ c ∈ L.filter isCode, P c = true) : L.all P = true := by
  refine List.all_eq_true.mpr fun c hc => ?_
  have h := List.all_eq_true.mp h1 c hc
  rcases Bool.eq_false_or_eq_true (isCode c) with hi | hi
  · exact h2 c (List.mem_filter.mpr ⟨hc, hi⟩)
  · simpa [hi] using h
set_option maxRecDepth 65536 in
theorem w_c0 : (Jvm.Cond.code x code maxLocals ret).before args0 about1 = true := code_word (m := ⟨1, 2⟩) (meth := k1m2) (c := k1c2) (by decide +kernel) rfl rfl rfl (by decide +kernel)
set_option maxRecDepth 65536 in
theorem w_c1 : (Jvm.Cond.code ({ cls := "com/example/escar/escar/schema/datatype/Order", name := "of", desc := "(I)Lcom/example/escar/escar/schema/datatype/Order;" } : Jvm.MethodName) prog_49_method_4_code (2 : Nat) (Option.some (Jvm.ClassFile.FieldType.object "com/example/escar/escar/schema/datatype/Order"))).before args0 about1 = true := code_word (m := ⟨6, 0⟩) (meth := k6m0) (c := k6c0) (by decide +kernel) rfl rfl rfl (by decide +kernel)
set_option maxRecDepth 65536 in
theorem w_c2 : (Jvm.Cond.code ({ cls := "com/example/escar/escar/schema/datatype/OrderOfPinLaw", name := "sign", desc := "(I)J" } : Jvm.MethodName) method_2_code (3 : Nat) (Option.some Jvm.ClassFile.FieldType.long)).before args0 about1 = true := code_word (m := ⟨1, 1⟩) (meth := k1m1) (c := k1c1) (by decide +kernel) rfl rfl rfl (by decide +kernel)
def codes1 : List Jvm.Cond := [Jvm.Cond.code x code maxLocals ret, Jvm.Cond.code ({ cls := "com/example/escar/escar/schema/datatype/Order", name := "of", desc := "(I)Lcom/example/escar/escar/schema/datatype/Order;" } : Jvm.MethodName) prog_49_method_4_code (2 : Nat) (Option.some (Jvm.ClassFile.FieldType.object "com/example/escar/escar/schema/datatype/Order")), Jvm.Cond.code ({ cls := "com/example/escar/escar/schema/datatype/OrderOfPinLaw", name := "sign", desc := "(I)J" } : Jvm.MethodName) method_2_code (3 : Nat) (Option.some Jvm.ClassFile.FieldType.long)]
set_option maxRecDepth 65536 in
theorem codes_eq : words1.filter isCode = codes1 := rfl
theorem w_codes : ∀ c ∈ words1.filter isCode, c.before args0 about1 = true := by
  rw [codes_eq]
  intro c hc
  simp only [codes1, List.mem_cons, List.not_mem_nil, or_false] at hc
  rcases hc with rfl | rfl | rfl
  · exact w_c0
  · exact w_c1
  · exact w_c2
set_option maxRecDepth 65536 in
theorem w_t1 : words1.all (fun c => isCode c || c.before args0 about1) = true := by decide +kernel
theorem w_tables : (allAtoms (Jvm.Cond.code x code maxLocals ret :: tables_1)).before args0 about1 = true := by
  rw [allAtoms_all]
  show words1.all (fun c => c.before args0 about1) = true
  refine all_split ?_ w_codes
  rw [w_t1]
set_option maxRecDepth 65536 in
theorem w_case : (Jvm.Cond.and given_1 narrow_1).before args0 about1 = true := by decide +kernel
theorem w_applies : (headSpec (Jvm.Cond.code x code maxLocals ret :: tables_1) room_1).applies x e0.platform about1 = true :=
  (Spec.applies_iff w_frames).mpr ⟨w_running, w_runnable, w_alone, w_named, w_hears, w_ripe, w_room, w_tables⟩
theorem atStart : AtStart classFile x code maxLocals ret World_1 tables_1 room_1 Calls_1 rest_1 Pre_1 launch0 p0 e0 about1 theMethod args0 below0 :=
  ⟨lists_1, trivial, launch0.admits_env _ _ _, launch0.least_env, fairChoices_fair.cas, fairChoices_fair.clock, w_frames, w_args, w_heap, w_applies, trivial, trivial, w_case⟩
end start1
theorem witness_1 : WitnessClaimed_1 := ⟨start1.p0, start1.e0, start1.about1, start1.theMethod, start1.args0, start1.below0, start1.atStart⟩
end Jvm.Pilot.@@N@@
