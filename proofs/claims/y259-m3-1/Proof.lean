import JvmDerived
import JvmDerived.Pilot.@@N@@Statement
import JvmDerived.Pilot.@@N@@Code
set_option linter.unusedVariables false
set_option linter.unusedSimpArgs false
namespace Jvm.RoadKit
open Sem ClassFile Op Lib Jvm.Stand Jvm.Free Jvm.LawKit
section Own
variable {p : Program} {l : Launch} {e : Env} {R : Room} {s : State} {m : MethodId} {args : Array Value} {below : List Frame} {meth : Method} {c : Code} {T : State} {locs : List Loc} {cells slots : Nat}
theorem retI (X : Stand p l e R s m args below meth c T locs cells slots) (hx : p.tables.exec = Jvm.exec) {pc : Nat} {Ls : Array Slot} {z : Int32} {rest : List Value} (hret : meth.sig.returnType = some .int) (hd : decode c.code pc = .ok (.ireturn, 1)) {fs : List Frame}
    (hl : ∀ (f : JFrame) (acts : List Action), f.method = m → f.locked = none → f.entered = [] → (doReturn e (T.setTop f) acts (some (.int z))).1 = T.setFrames fs) : Steps p.tables e below (T.setTop (mkF m pc Ls (.int z :: rest))) (T.setFrames fs) := by
  have hm' : T.vm.method? m = some meth := X.method'
  have hn : narrow .int (.int z) = .int z := rfl
  show Steps p.tables e below (T.setTop { method := m, pc := pc, locals := Ls, stack := _ :: rest, locked := none }) _
  jvm_step X.here [X.here.top, hx, hd, hm', hret, hn]
  first | (intro acts; rw [hl _ acts rfl rfl rfl]) | rw [hl _ _ rfl rfl rfl]
  exact Steps.refl _
/-- from U the run comes to an end of which Qo holds -/
def own_Ends (tb : Tables) (e : Env) (below : List Frame) (Qo : Outcome → State → Prop) (U : State) : Prop := ∃ s₂ o, Steps tb e below U s₂ ∧ s₂.status = .running ∧ Ended s₂ below o ∧ Qo o s₂
def own_Q (s : State) (Q : Option Value → Heap → List Loc → Prop) (A B : Nat) : Outcome → State → Prop := fun o U' => ∃ v L, o = .returned v ∧ Q v U'.heap L ∧ FrameEnd s o U' L A B
theorem own_step {tb : Tables} {e : Env} {below : List Frame} {Qo : Outcome → State → Prop} {U V : State} (k : ∀ t, Steps tb e below V t → Steps tb e below U t) (h : own_Ends tb e below Qo V) : own_Ends tb e below Qo U := by
  obtain ⟨s₂, o, h1, h2⟩ := h; exact ⟨s₂, o, k _ h1, h2⟩
variable {Q : Option Value → Heap → List Loc → Prop} {A B : Nat}
theorem own_leave (X : Stand p l e R s m args below meth c T locs cells slots) (hlk : meth.locks = false) {v : Option Value} (hv : meth.sig.returnType = none → v = none) (ha : cells ≤ A) (hb : slots ≤ B) (hQ : Q v T.heap locs) {g : JFrame}
    (k : ∀ fs, (∀ (f : JFrame) (acts : List Action), f.method = m → f.locked = none → f.entered = [] → (doReturn e (T.setTop f) acts v).1 = T.setFrames fs) → Steps p.tables e below (T.setTop g) (T.setFrames fs)) : own_Ends p.tables e below (own_Q s Q A B) (T.setTop g) := by
  obtain ⟨fs, hr, hrun, hended, hW, hsame⟩ := X.leave (v := v) hv hlk
  exact ⟨_, _, k fs hr, hrun, hended, _, _, rfl, (show Q v T.heap locs from hQ), ⟨_, rfl⟩, hW, hsame.mono ha hb⟩
theorem own_retN (X : Stand p l e R s m args below meth c T locs cells slots) (hx : p.tables.exec = Jvm.exec) (hlk : meth.locks = false) (ha : cells ≤ A) (hb : slots ≤ B) {pc : Nat} {Ls : Array Slot} {z : Int32} {t : FieldType} {rest : List Value} (hret : meth.sig.returnType = some t) (ht : t = .boolean ∨ t = .byte ∨ t = .char ∨ t = .short)
    (hd : decode c.code pc = .ok (.ireturn, 1)) (hQ : Q (some (.int (nar t z))) T.heap locs) : own_Ends p.tables e below (own_Q s Q A B) (T.setTop (mkF m pc Ls (.int z :: rest))) :=
  own_leave X hlk (fun h => by rw [hret] at h; cases h) ha hb hQ fun fs hr => retN X hx hret ht hd hr
theorem own_retI (X : Stand p l e R s m args below meth c T locs cells slots) (hx : p.tables.exec = Jvm.exec) (hlk : meth.locks = false) (ha : cells ≤ A) (hb : slots ≤ B) {pc : Nat} {Ls : Array Slot} {z : Int32} {rest : List Value} (hret : meth.sig.returnType = some .int)
    (hd : decode c.code pc = .ok (.ireturn, 1)) (hQ : Q (some (.int z)) T.heap locs) : own_Ends p.tables e below (own_Q s Q A B) (T.setTop (mkF m pc Ls (.int z :: rest))) :=
  own_leave X hlk (fun h => by rw [hret] at h; cases h) ha hb hQ fun fs hr => retI X hx hret hd hr
theorem own_retJ (X : Stand p l e R s m args below meth c T locs cells slots) (hx : p.tables.exec = Jvm.exec) (hlk : meth.locks = false) (ha : cells ≤ A) (hb : slots ≤ B) {pc : Nat} {Ls : Array Slot} {z : Int64} {rest : List Value} (hret : meth.sig.returnType = some .long)
    (hd : decode c.code pc = .ok (.lreturn, 1)) (hQ : Q (some (.long z)) T.heap locs) : own_Ends p.tables e below (own_Q s Q A B) (T.setTop (mkF m pc Ls (.long z :: rest))) :=
  own_leave X hlk (fun h => by rw [hret] at h; cases h) ha hb hQ fun fs hr => by
    have hm' : T.vm.method? m = some meth := X.method'
    show Steps p.tables e below (T.setTop { method := m, pc := pc, locals := Ls, stack := _ :: rest, locked := none }) _
    jvm_step X.here [X.here.top, hx, hd, hm', hret, narrow]
    first | (intro acts; rw [hr _ acts rfl rfl rfl]) | rw [hr _ _ rfl rfl rfl]
    exact Steps.refl _
theorem own_retA (X : Stand p l e R s m args below meth c T locs cells slots) (hx : p.tables.exec = Jvm.exec) (hlk : meth.locks = false) (ha : cells ≤ A) (hb : slots ≤ B) {pc : Nat} {Ls : Array Slot} {z : Value} {t : FieldType} {rest : List Value} (hret : meth.sig.returnType = some t) (ht : t.isReference = true) (hz : z.isRef = true)
    (hd : decode c.code pc = .ok (.areturn, 1)) (hQ : Q (some z) T.heap locs) : own_Ends p.tables e below (own_Q s Q A B) (T.setTop (mkF m pc Ls (z :: rest))) :=
  own_leave X hlk (fun h => by rw [hret] at h; cases h) ha hb hQ fun fs hr => by
    have hm' : T.vm.method? m = some meth := X.method'
    show Steps p.tables e below (T.setTop { method := m, pc := pc, locals := Ls, stack := _ :: rest, locked := none }) _
    jvm_step X.here [X.here.top, hx, hd, hm', hret, ht, hz]
    first | (intro acts; rw [hr _ acts rfl rfl rfl]) | rw [hr _ _ rfl rfl rfl]
    exact Steps.refl _
theorem own_ret0 (X : Stand p l e R s m args below meth c T locs cells slots) (hx : p.tables.exec = Jvm.exec) (hlk : meth.locks = false) (ha : cells ≤ A) (hb : slots ≤ B) {pc : Nat} {Ls : Array Slot} (hret : meth.sig.returnType = none)
    (hd : decode c.code pc = .ok (.return_, 1)) (hQ : Q none T.heap locs) : own_Ends p.tables e below (own_Q s Q A B) (T.setTop (mkF m pc Ls [])) :=
  own_leave X hlk (fun _ => rfl) ha hb hQ fun fs hr => X.returnOut hx hret hd hr
theorem own_sel_priv {s : State} {args : Array Value} {n : Nat} {y : MethodName} (hy : y.cls ≠ "java/lang/invoke/MethodHandle" ∧ y.cls ≠ "java/lang/invoke/VarHandle") (hins : (Cond.instantiable y.cls n).before args s = true) (hpriv : (Cond.privateMethod y).before args s = true) (hinst : (Cond.instanceMethod y).before args s = true) :
    (Cond.selects y.cls y y).before args s = true := by
  obtain ⟨c, k, hc, hk, -, hniab, -, -⟩ := Cond.instantiable_spec hins
  have hni : k.isInterface = false := (Bool.or_eq_false_iff.mp hniab).1
  obtain ⟨mk, methM, hnamed, hmethM, -, -⟩ := Cond.instanceMethod_spec hinst
  have hfound : s.methodFound? y.cls y.name y.desc = some mk := State.methodFound?_of_named hnamed hy
  have hcls : mk.cls = c := Option.some.inj ((findClass_of_methodNamed hnamed).symm.trans hc)
  have hsel : selectMethod {} s.vm c mk = .method mk := selectMethod_private hmethM (Cond.privateMethod_at hpriv mk methM hnamed hmethM)
  simp only [Cond.before, Cond.holds, Cond.value, hc, hfound, hnamed, hsel, hcls, hk]
  simp; exact hni
theorem own_pop2J (X : Stand p l e R s m args below meth c T locs cells slots) (hx : p.tables.exec = Jvm.exec) {pc : Nat} {Ls : Array Slot} {z : Int64} {rest : List Value} (hd : decode c.code pc = .ok (.pop2, 1)) {target : State}
    (hr : Steps p.tables e below (T.setTop (mkF m (pc + 1) Ls rest)) target) : Steps p.tables e below (T.setTop (mkF m pc Ls (.long z :: rest))) target := by
  show Steps p.tables e below (T.setTop { method := m, pc := pc, locals := Ls, stack := _ :: rest, locked := none }) _
  jvm_step X.here [X.here.top, hx, hd, Value.category]
  exact hr
def own_NS (h : Heap) (x : Addr) : Prop := ∃ c : Cell, h[x]? = some c ∧ c.vm.isStatics = false
theorem own_ns_exa {Z : State} {h : Heap} {a : Addr} {C : String} (F : Exa Z h a C) : own_NS h a := by obtain ⟨c, k, h1, h2, h3, h4, h5⟩ := F; exact ⟨c, h1, h4⟩
theorem own_ns_arv {Z : State} {h : Heap} {a : Addr} {k : ClassId} {ty : FieldType} {z : Int32} {vs : List Value} {d : Value} (F : Arv Z h a k ty z vs d) : own_NS h a := by obtain ⟨c, A, -⟩ := F; exact ⟨c, A.1, A.plain⟩
theorem own_Sta_keep {Z : State} {h h' : Heap} {ws : List Addr} {C n d : String} {v : Value} (F : Sta Z h C n d v) (K : Keep h h' ws) (q : ∀ x ∈ ws, own_NS h x) : Sta Z h' C n d v := by
  obtain ⟨cf, i, k, f, st, cell, h1, h2, h3, h4, h5, h6, h7⟩ := F
  refine ⟨cf, i, k, f, st, cell, h1, h2, h3, h4, K.2.1 st cell h5 fun m => ?_, h6, h7⟩
  obtain ⟨c, e1, e2⟩ := q st m
  rw [h5] at e1; cases e1; rw [h6] at e2; cases e2
theorem own_lc_lt (x y : Int64) : lcmpW x y < 0 ↔ x < y := by rw [lcW]; exact lc_lt x y
theorem own_lc_gt (x y : Int64) : 0 < lcmpW x y ↔ y < x := by rw [lcW]; exact lc_gt x y
theorem own_lc_eq (x y : Int64) : lcmpW x y = 0 ↔ x = y := by rw [lcW]; exact lc_eq x y
end Own
end Jvm.RoadKit
namespace Jvm.Pilot.@@N@@
open Jvm Jvm.ClassFile Sem Op Lib Jvm.Free Jvm.Stand Jvm.LawKit Jvm.RoadKit Bundle Jvm.Pilot.@@N@@.Jvm.D
def own_times (a b : Int64) : Int64 := if b = 0 then a * b else if (9223372036854775807 : Int64) / b < a then (9223372036854775807 : Int64) else a * b
theorem own_shr_nonneg (x : Int64) (s : Int32) : 0 ≤ (((x &&& (9223372036854775807 : Int64)).toUInt64 >>> ((s &&& (63 : Int32)) &&& 0x3f).toInt64.toUInt64).toInt64).toInt := by
  have h : (x &&& (9223372036854775807 : Int64)).toUInt64.toNat < 2 ^ 63 := by
    show (x.toBitVec &&& (9223372036854775807 : Int64).toBitVec).toNat < 2 ^ 63
    rw [BitVec.toNat_and]
    refine Nat.lt_of_le_of_lt (Nat.and_le_right) ?_
    decide
  generalize (x &&& (9223372036854775807 : Int64)).toUInt64 = u at h
  generalize ((s &&& (63 : Int32)) &&& 0x3f).toInt64.toUInt64 = k
  have h2 : (u >>> k).toNat < 2 ^ 63 := by
    rw [UInt64.toNat_shiftRight]
    refine Nat.lt_of_le_of_lt (Nat.shiftRight_le _ _) h
  show 0 ≤ (u >>> k).toBitVec.toInt
  have h3 : (u >>> k).toBitVec.toNat < 2 ^ 63 := h2
  rw [BitVec.toInt_eq_toNat_cond]
  split
  · omega
  · omega
theorem own_div (x y : Int64) (hx : 0 ≤ x.toInt) (hy : 0 < y.toInt) : (x / y).toInt = x.toInt / y.toInt := by
  rw [Int64.toInt_div, Int.tdiv_eq_ediv_of_nonneg hx]
  have h1 := x.toInt_lt
  have h2 : x.toInt / y.toInt ≤ x.toInt := Int.ediv_le_self _ hx
  have h3 : 0 ≤ x.toInt / y.toInt := Int.ediv_nonneg hx (Int.le_of_lt hy)
  apply Int.bmod_eq_of_le <;> omega
theorem own_fits (a b : Int64) (ha : 0 ≤ a.toInt) (hb : 0 ≤ b.toInt) : (a.toInt * b.toInt ≤ 9223372036854775807 → own_times a b = a * b) ∧ (¬ a.toInt * b.toInt ≤ 9223372036854775807 → own_times a b = (9223372036854775807 : Int64)) := by
  unfold own_times
  have c1 : (9223372036854775807 : Int64).toInt = 9223372036854775807 := rfl
  by_cases h0 : b = 0
  · subst h0
    have : (0 : Int64).toInt = 0 := rfl
    rw [this]; simp
  · have hb' : 0 < b.toInt := by
      rcases Int.lt_or_eq_of_le hb with h | h
      · exact h
      · exact absurd (Int64.toInt_inj.mp (show b.toInt = (0 : Int64).toInt from h.symm)) h0
    have e := own_div (9223372036854775807 : Int64) b (by decide) hb'
    rw [if_neg h0]
    have k : ((9223372036854775807 : Int64) / b < a) ↔ ¬ a.toInt * b.toInt ≤ 9223372036854775807 := by
      rw [Int64.lt_iff_toInt_lt, e, c1, Int.ediv_lt_iff_lt_mul hb']
      omega
    by_cases h : a.toInt * b.toInt ≤ 9223372036854775807
    · rw [if_neg (by rw [k]; simpa using h)]; simp [h]
    · rw [if_pos (k.mpr h)]; simp [h]
theorem own_prod (a b : Int64) (ha : 0 ≤ a.toInt) (hb : 0 ≤ b.toInt) (h : a.toInt * b.toInt ≤ 9223372036854775807) : (a * b).toInt = a.toInt * b.toInt := by
  rw [Int64.toInt_mul]
  have := Int.mul_nonneg ha hb
  apply Int.bmod_eq_of_le <;> omega
theorem own_k1 (a b : Int64) (ha : 0 ≤ a.toInt) (hb : 0 ≤ b.toInt) (h : a = 0) : own_times a b = a * b := by
  refine (own_fits a b ha hb).1 ?_
  subst h; have : (0 : Int64).toInt = 0 := rfl
  rw [this]; simp
theorem own_k2 (a b : Int64) (ha : 0 ≤ a.toInt) (hb : 0 ≤ b.toInt) (h : a * b < 0) : own_times a b = (9223372036854775807 : Int64) := by
  refine (own_fits a b ha hb).2 fun q => ?_
  rw [Int64.lt_iff_toInt_lt, own_prod a b ha hb q] at h
  have := Int.mul_nonneg ha hb
  have : (0 : Int64).toInt = 0 := rfl
  omega
theorem own_pos (a : Int64) (ha : 0 ≤ a.toInt) (h0 : ¬ a = 0) : 0 < a.toInt := by
  rcases Int.lt_or_eq_of_le ha with h | h
  · exact h
  · exact absurd (Int64.toInt_inj.mp (show a.toInt = (0 : Int64).toInt from h.symm)) h0
theorem own_k34 (a b : Int64) (ha : 0 ≤ a.toInt) (hb : 0 ≤ b.toInt) (h0 : ¬ a = 0) (h : ¬ a * b < 0) : (a.toInt * b.toInt ≤ 9223372036854775807) ↔ (a * b) / a = b := by
  have ha' := own_pos a ha h0
  rw [Int64.lt_iff_toInt_lt] at h
  have z : (0 : Int64).toInt = 0 := rfl
  have e := own_div (a * b) a (by omega) ha'
  constructor
  · intro q
    rw [own_prod a b ha hb q] at e
    apply Int64.toInt_inj.mp
    rw [e, Int.mul_ediv_cancel_left _ (by omega)]
  · intro q
    rw [q] at e
    have h1 := (a * b).toInt_lt
    have h2 : a.toInt * ((a * b).toInt / a.toInt) ≤ (a * b).toInt := Int.mul_ediv_self_le (by omega)
    rw [← e] at h2
    omega
theorem own_k3 (a b : Int64) (ha : 0 ≤ a.toInt) (hb : 0 ≤ b.toInt) (h0 : ¬ a = 0) (h : ¬ a * b < 0) (q : (a * b) / a = b) : own_times a b = a * b := (own_fits a b ha hb).1 ((own_k34 a b ha hb h0 h).mpr q)
theorem own_k4 (a b : Int64) (ha : 0 ≤ a.toInt) (hb : 0 ≤ b.toInt) (h0 : ¬ a = 0) (h : ¬ a * b < 0) (q : ¬ (a * b) / a = b) : own_times a b = (9223372036854775807 : Int64) := (own_fits a b ha hb).2 fun u => q ((own_k34 a b ha hb h0 h).mp u)
theorem own_d1_0 : decode prog_105_method_2_code 0 = .ok (.lload_n 2, 1) := by decide +kernel
theorem own_d1_1 : decode prog_105_method_2_code 1 = .ok (.lconst 0, 1) := by decide +kernel
theorem own_d1_2 : decode prog_105_method_2_code 2 = .ok (.lcmp, 1) := by decide +kernel
theorem own_d1_3 : decode prog_105_method_2_code 3 = .ok (.ifCond .eq 19, 3) := by decide +kernel
theorem own_d1_6 : decode prog_105_method_2_code 6 = .ok (.lload_n 0, 1) := by decide +kernel
theorem own_d1_7 : decode prog_105_method_2_code 7 = .ok (.ldc2_w 38, 3) := by decide +kernel
theorem own_d1_10 : decode prog_105_method_2_code 10 = .ok (.lload_n 2, 1) := by decide +kernel
theorem own_d1_11 : decode prog_105_method_2_code 11 = .ok (.ldiv, 1) := by decide +kernel
theorem own_d1_12 : decode prog_105_method_2_code 12 = .ok (.lcmp, 1) := by decide +kernel
theorem own_d1_13 : decode prog_105_method_2_code 13 = .ok (.ifCond .le 9, 3) := by decide +kernel
theorem own_d1_16 : decode prog_105_method_2_code 16 = .ok (.ldc2_w 38, 3) := by decide +kernel
theorem own_d1_19 : decode prog_105_method_2_code 19 = .ok (.goto 6, 3) := by decide +kernel
theorem own_d1_22 : decode prog_105_method_2_code 22 = .ok (.lload_n 0, 1) := by decide +kernel
theorem own_d1_23 : decode prog_105_method_2_code 23 = .ok (.lload_n 2, 1) := by decide +kernel
theorem own_d1_24 : decode prog_105_method_2_code 24 = .ok (.lmul, 1) := by decide +kernel
theorem own_d1_25 : decode prog_105_method_2_code 25 = .ok (.lreturn, 1) := by decide +kernel
theorem own_pn0 : plainName "com/example/escar/escar/schema/model/Particle" = true := by first | (simp [plainName, overriddenIn]; done) | decide +kernel
theorem own_ef_1 (m : MethodId) (x0 : Int64) (x1 : Int64) : entryFrame m #[(.long x0), (.long x1)] 4 = mkF m 0 #[.val (.long x0), .second, .val (.long x1), .second] [] := by first | (simp [entryFrame, mkF, argsToLocals, Value.category]; done) | rfl
def own_Q_times (Z : State) (q0 : Int64) (q1 : Int64) (h0 : Heap) (n0 : Nat) (v : Option Value) (h : Heap) (L : List Loc) : Prop := v = some (.long (own_times q0 q1)) ∧ Fr n0 L ∧ h = h0
set_option maxRecDepth 65536 in
set_option maxHeartbeats 40000000 in
theorem own_rm_times (l : Launch) (Z : State) (a0 : Array Value) (hw : ∀ d ∈ tables_1, d.before a0 Z = true) (ws : List Jvm.Cond) (q0 : Int64) (q1 : Int64) (h0 : Heap) (n0 : Nat) (Z0 : n0 ≤ h0.size) :
    MetFree l (⟨"com/example/escar/escar/schema/model/Particle", "times", "(JJ)J"⟩ : MethodName) (head1 (Jvm.Cond.code (⟨"com/example/escar/escar/schema/model/Particle", "times", "(JJ)J"⟩ : MethodName) prog_105_method_2_code 4 (some .long) :: ws) ({ frames := 0, cells := 0, slots := 0, locals := 0 } : Room)) (fun a U => a = #[(.long q0), (.long q1)] ∧ Z.Warmed39 U.vm ∧ U.heap = h0) (fun _ _ _ _ _ => True) (fun _ U o U' => ∃ v L, o = .returned v ∧ own_Q_times Z q0 q1 h0 n0 v U'.heap L ∧ FrameEnd U o U' L ({ frames := 0, cells := 0, slots := 0, locals := 0 } : Room).cells ({ frames := 0, cells := 0, slots := 0, locals := 0 } : Room).slots) := by
  refine MetFree.of_bodySF (plainFor_of_name own_pn0) hisR ?_
  intro p e s m args below meth c s₁ Bd hml0 hP hK
  obtain ⟨rfl, hZ, hh⟩ := hP
  have hx := Bd.exec
  have hby := Bd.bytes
  have hlk : meth.locks = false := BodyLoose.notSynchronized Bd
  have hml : c.maxLocals = 4 := hml0
  have hown : s.vm.findClass "com/example/escar/escar/schema/model/Particle" = some m.cls := findClass_of_methodNamed Bd.named
  have hnm := (name_of_methodNamed Bd.named Bd.method).1
  have X0 : Stand p l e ({ frames := 0, cells := 0, slots := 0, locals := 0 } : Room) s m #[(.long q0), (.long q1)] below meth c s₁ [] 0 0 := Stand.of_body Bd
  have e0 : s₁.heap = h0 := by rw [← hh, Bd.state]; rfl
  have N0 := Fr.nil n0
  have K0 : Keep h0 h0 [] := Keep.refl _ _
  have pre0 : ∀ t, Steps p.tables e below (s₁.setTop (mkF m 0 #[.val (.long q0), .second, .val (.long q1), .second] [])) t → Steps p.tables e below (s₁.setTop (entryFrame m #[(.long q0), (.long q1)] 4)) t := fun t k => castTop (own_ef_1 m q0 q1) k
  show own_Ends p.tables e below (own_Q s (own_Q_times Z q0 q1 h0 n0) ({ frames := 0, cells := 0, slots := 0, locals := 0 } : Room).cells ({ frames := 0, cells := 0, slots := 0, locals := 0 } : Room).slots) (s₁.setTop (entryFrame m #[(.long q0), (.long q1)] 4))
  refine own_step pre0 ?_
  show own_Ends p.tables e below _ (s₁.setTop (mkF m 0 #[.val (.long q0), .second, .val (.long q1), .second] []))
  refine own_step (fun _ k => XS.lloadN X0.here hx rfl (hb hby own_d1_0) rfl k) ?_
  show own_Ends p.tables e below _ (s₁.setTop (mkF m 1 #[.val (.long q0), .second, .val (.long q1), .second] [(.long q1)]))
  refine own_step (fun _ k => XS.lconst X0.here hx rfl (hb hby own_d1_1) k) ?_
  show own_Ends p.tables e below _ (s₁.setTop (mkF m 2 #[.val (.long q0), .second, .val (.long q1), .second] [(.long (0 : Int64)), (.long q1)]))
  refine own_step (fun _ k => XS.lcmp X0.here hx rfl (hb hby own_d1_2) rfl k) ?_
  show own_Ends p.tables e below _ (s₁.setTop (mkF m 3 #[.val (.long q0), .second, .val (.long q1), .second] [(.int (lcmpW q1 (0 : Int64)))]))
  by_cases hc3 : q1 = (0 : Int64)
  · refine own_step (fun _ k => XS.ifYes X0.here hx rfl (pc0 := 3) (pc' := 22) rfl (hb hby own_d1_3) rfl ((if0 _ _).trans (teq ((own_lc_eq _ _).mpr hc3)).1) (by decide) (by decide) k) ?_
    show own_Ends p.tables e below _ (s₁.setTop (mkF m 22 #[.val (.long q0), .second, .val (.long q1), .second] []))
    refine own_step (fun _ k => XS.lloadN X0.here hx rfl (hb hby own_d1_22) rfl k) ?_
    show own_Ends p.tables e below _ (s₁.setTop (mkF m 23 #[.val (.long q0), .second, .val (.long q1), .second] [(.long q0)]))
    refine own_step (fun _ k => XS.lloadN X0.here hx rfl (hb hby own_d1_23) rfl k) ?_
    show own_Ends p.tables e below _ (s₁.setTop (mkF m 24 #[.val (.long q0), .second, .val (.long q1), .second] [(.long q1), (.long q0)]))
    refine own_step (fun _ k => XS.lmul X0.here hx rfl (hb hby own_d1_24) rfl k) ?_
    show own_Ends p.tables e below _ (s₁.setTop (mkF m 25 #[.val (.long q0), .second, .val (.long q1), .second] [(.long (q0 * q1))]))
    exact own_retJ X0 hx hlk (by decide) (by decide) Bd.returns (hb hby own_d1_25) (by rw [e0]; exact ⟨by rw [show own_times q0 q1 = (q0 * q1) by simp [own_times, hc3]], N0, rfl⟩)
  · refine own_step (fun _ k => XS.ifNo X0.here hx rfl (hb hby own_d1_3) rfl ((if0 _ _).trans (feq (fun q => hc3 ((own_lc_eq _ _).mp q))).1) k) ?_
    show own_Ends p.tables e below _ (s₁.setTop (mkF m 6 #[.val (.long q0), .second, .val (.long q1), .second] []))
    refine own_step (fun _ k => XS.lloadN X0.here hx rfl (hb hby own_d1_6) rfl k) ?_
    show own_Ends p.tables e below _ (s₁.setTop (mkF m 7 #[.val (.long q0), .second, .val (.long q1), .second] [(.long q0)]))
    refine own_step (fun _ k => X0.ldc2Long hx hown (mvT hZ (hw _ (List.mem_of_getElem? (i := 5) rfl))) (g := (mkF m 7 #[.val (.long q0), .second, .val (.long q1), .second] [(.long q0)])) rfl (hb hby own_d1_7) _ k) ?_
    show own_Ends p.tables e below _ (s₁.setTop (mkF m 10 #[.val (.long q0), .second, .val (.long q1), .second] [(.long (9223372036854775807 : Int64)), (.long q0)]))
    refine own_step (fun _ k => XS.lloadN X0.here hx rfl (hb hby own_d1_10) rfl k) ?_
    show own_Ends p.tables e below _ (s₁.setTop (mkF m 11 #[.val (.long q0), .second, .val (.long q1), .second] [(.long q1), (.long (9223372036854775807 : Int64)), (.long q0)]))
    refine own_step (fun _ k => XS.ldiv X0.here hx rfl (hb hby own_d1_11) rfl hc3 k) ?_
    show own_Ends p.tables e below _ (s₁.setTop (mkF m 12 #[.val (.long q0), .second, .val (.long q1), .second] [(.long ((9223372036854775807 : Int64) / q1)), (.long q0)]))
    refine own_step (fun _ k => XS.lcmp X0.here hx rfl (hb hby own_d1_12) rfl k) ?_
    show own_Ends p.tables e below _ (s₁.setTop (mkF m 13 #[.val (.long q0), .second, .val (.long q1), .second] [(.int (lcmpW q0 ((9223372036854775807 : Int64) / q1)))]))
    by_cases hc13 : ((9223372036854775807 : Int64) / q1) < q0
    · refine own_step (fun _ k => XS.ifNo X0.here hx rfl (hb hby own_d1_13) rfl ((if0 _ _).trans (tlt ((own_lc_gt _ _).mpr hc13)).2.2.2) k) ?_
      show own_Ends p.tables e below _ (s₁.setTop (mkF m 16 #[.val (.long q0), .second, .val (.long q1), .second] []))
      refine own_step (fun _ k => X0.ldc2Long hx hown (mvT hZ (hw _ (List.mem_of_getElem? (i := 5) rfl))) (g := (mkF m 16 #[.val (.long q0), .second, .val (.long q1), .second] [])) rfl (hb hby own_d1_16) _ k) ?_
      show own_Ends p.tables e below _ (s₁.setTop (mkF m 19 #[.val (.long q0), .second, .val (.long q1), .second] [(.long (9223372036854775807 : Int64))]))
      refine own_step (fun _ k => XS.goto X0.here hx rfl (pc0 := 19) (pc' := 25) rfl (hb hby own_d1_19) (by decide) (by decide) k) ?_
      show own_Ends p.tables e below _ (s₁.setTop (mkF m 25 #[.val (.long q0), .second, .val (.long q1), .second] [(.long (9223372036854775807 : Int64))]))
      exact own_retJ X0 hx hlk (by decide) (by decide) Bd.returns (hb hby own_d1_25) (by rw [e0]; exact ⟨by rw [show own_times q0 q1 = (9223372036854775807 : Int64) by simp [own_times, hc3, hc13]], N0, rfl⟩)
    · refine own_step (fun _ k => XS.ifYes X0.here hx rfl (pc0 := 13) (pc' := 22) rfl (hb hby own_d1_13) rfl ((if0 _ _).trans (flt (fun q => hc13 ((own_lc_gt _ _).mp q))).2.2.2) (by decide) (by decide) k) ?_
      show own_Ends p.tables e below _ (s₁.setTop (mkF m 22 #[.val (.long q0), .second, .val (.long q1), .second] []))
      refine own_step (fun _ k => XS.lloadN X0.here hx rfl (hb hby own_d1_22) rfl k) ?_
      show own_Ends p.tables e below _ (s₁.setTop (mkF m 23 #[.val (.long q0), .second, .val (.long q1), .second] [(.long q0)]))
      refine own_step (fun _ k => XS.lloadN X0.here hx rfl (hb hby own_d1_23) rfl k) ?_
      show own_Ends p.tables e below _ (s₁.setTop (mkF m 24 #[.val (.long q0), .second, .val (.long q1), .second] [(.long q1), (.long q0)]))
      refine own_step (fun _ k => XS.lmul X0.here hx rfl (hb hby own_d1_24) rfl k) ?_
      show own_Ends p.tables e below _ (s₁.setTop (mkF m 25 #[.val (.long q0), .second, .val (.long q1), .second] [(.long (q0 * q1))]))
      exact own_retJ X0 hx hlk (by decide) (by decide) Bd.returns (hb hby own_d1_25) (by rw [e0]; exact ⟨by rw [show own_times q0 q1 = (q0 * q1) by simp [own_times, hc3, hc13]], N0, rfl⟩)
theorem own_pd0 : parseMethodDescriptor "(JJ)J" = some ⟨[.long, .long], some .long⟩ := by decide +kernel
theorem own_pn1 : plainName "com/example/escar/escar/schema/model/ParticleTimesPinLaw" = true := by first | (simp [plainName, overriddenIn]; done) | decide +kernel
theorem own_ef_0 (m : MethodId) (x0 : Int64) (x1 : Int64) (x2 : Int32) (x3 : Int32) : entryFrame m #[(.long x0), (.long x1), (.int x2), (.int x3)] maxLocals = mkF m 0 #[.val (.long x0), .second, .val (.long x1), .second, .val (.int x2), .val (.int x3), .unset, .unset, .unset, .unset, .unset, .unset, .unset, .unset, .unset] [] := by first | (simp [entryFrame, mkF, argsToLocals, Value.category, maxLocals]; done) | rfl
def own_Q_law (Z : State) (q0 : Int64) (q1 : Int64) (p2 : Int32) (p3 : Int32) (h0 : Heap) (n0 : Nat) (v : Option Value) (h : Heap) (L : List Loc) : Prop := v = some (.int 1) ∧ Fr n0 L
set_option maxRecDepth 65536 in
set_option maxHeartbeats 40000000 in
theorem own_rm_law (l : Launch) (Z : State) (a0 : Array Value) (hw : ∀ d ∈ tables_1, d.before a0 Z = true) (ws : List Jvm.Cond) (q0 : Int64) (q1 : Int64) (p2 : Int32) (p3 : Int32) (h0 : Heap) (n0 : Nat) (Z0 : n0 ≤ h0.size) :
    MetFree l x (head1 (Jvm.Cond.code x code maxLocals ret :: ws) room_1) (fun a U => a = #[(.long q0), (.long q1), (.int p2), (.int p3)] ∧ Z.Warmed39 U.vm ∧ U.heap = h0) (fun _ _ _ _ _ => True) (fun _ U o U' => ∃ v L, o = .returned v ∧ own_Q_law Z q0 q1 p2 p3 h0 n0 v U'.heap L ∧ FrameEnd U o U' L room_1.cells room_1.slots) := by
  refine MetFree.of_bodySF (plainFor_of_name own_pn1) hisR ?_
  intro p e s m args below meth c s₁ Bd hml0 hP hK
  obtain ⟨rfl, hZ, hh⟩ := hP
  have hx := Bd.exec
  have hby := Bd.bytes
  have hlk : meth.locks = false := BodyLoose.notSynchronized Bd
  have hml : c.maxLocals = 15 := hml0
  have hown : s.vm.findClass "com/example/escar/escar/schema/model/ParticleTimesPinLaw" = some m.cls := findClass_of_methodNamed Bd.named
  have hnm := (name_of_methodNamed Bd.named Bd.method).1
  have X0 : Stand p l e room_1 s m #[(.long q0), (.long q1), (.int p2), (.int p3)] below meth c s₁ [] 0 0 := Stand.of_body Bd
  have e0 : s₁.heap = h0 := by rw [← hh, Bd.state]; rfl
  have N0 := Fr.nil n0
  have K0 : Keep h0 h0 [] := Keep.refl _ _
  have pre0 : ∀ t, Steps p.tables e below (s₁.setTop (mkF m 0 #[.val (.long q0), .second, .val (.long q1), .second, .val (.int p2), .val (.int p3), .unset, .unset, .unset, .unset, .unset, .unset, .unset, .unset, .unset] [])) t → Steps p.tables e below (s₁.setTop (entryFrame m #[(.long q0), (.long q1), (.int p2), (.int p3)] maxLocals)) t := fun t k => castTop (own_ef_0 m q0 q1 p2 p3) k
  show own_Ends p.tables e below (own_Q s (own_Q_law Z q0 q1 p2 p3 h0 n0) room_1.cells room_1.slots) (s₁.setTop (entryFrame m #[(.long q0), (.long q1), (.int p2), (.int p3)] maxLocals))
  refine own_step pre0 ?_
  show own_Ends p.tables e below _ (s₁.setTop (mkF m 0 #[.val (.long q0), .second, .val (.long q1), .second, .val (.int p2), .val (.int p3), .unset, .unset, .unset, .unset, .unset, .unset, .unset, .unset, .unset] []))
  refine own_step (fun _ k => XS.lloadN X0.here hx rfl (hb hby at_0) rfl k) ?_
  show own_Ends p.tables e below _ (s₁.setTop (mkF m 1 #[.val (.long q0), .second, .val (.long q1), .second, .val (.int p2), .val (.int p3), .unset, .unset, .unset, .unset, .unset, .unset, .unset, .unset, .unset] [(.long q0)]))
  refine own_step (fun _ k => X0.ldc2Long hx hown (mvT hZ (hw _ (List.mem_of_getElem? (i := 0) rfl))) (g := (mkF m 1 #[.val (.long q0), .second, .val (.long q1), .second, .val (.int p2), .val (.int p3), .unset, .unset, .unset, .unset, .unset, .unset, .unset, .unset, .unset] [(.long q0)])) rfl (hb hby at_1) _ k) ?_
  show own_Ends p.tables e below _ (s₁.setTop (mkF m 4 #[.val (.long q0), .second, .val (.long q1), .second, .val (.int p2), .val (.int p3), .unset, .unset, .unset, .unset, .unset, .unset, .unset, .unset, .unset] [(.long (9223372036854775807 : Int64)), (.long q0)]))
  refine own_step (fun _ k => XS.land X0.here hx rfl (hb hby at_4) rfl k) ?_
  show own_Ends p.tables e below _ (s₁.setTop (mkF m 5 #[.val (.long q0), .second, .val (.long q1), .second, .val (.int p2), .val (.int p3), .unset, .unset, .unset, .unset, .unset, .unset, .unset, .unset, .unset] [(.long (q0 &&& (9223372036854775807 : Int64)))]))
  refine own_step (fun _ k => XS.iload X0.here hx rfl (hb hby at_5) rfl k) ?_
  show own_Ends p.tables e below _ (s₁.setTop (mkF m 7 #[.val (.long q0), .second, .val (.long q1), .second, .val (.int p2), .val (.int p3), .unset, .unset, .unset, .unset, .unset, .unset, .unset, .unset, .unset] [(.int p2), (.long (q0 &&& (9223372036854775807 : Int64)))]))
  refine own_step (fun _ k => XS.bipush X0.here hx rfl (hb hby at_7) k) ?_
  show own_Ends p.tables e below _ (s₁.setTop (mkF m 9 #[.val (.long q0), .second, .val (.long q1), .second, .val (.int p2), .val (.int p3), .unset, .unset, .unset, .unset, .unset, .unset, .unset, .unset, .unset] [(.int (63 : Int32)), (.int p2), (.long (q0 &&& (9223372036854775807 : Int64)))]))
  refine own_step (fun _ k => XS.iand X0.here hx rfl (hb hby at_9) rfl k) ?_
  show own_Ends p.tables e below _ (s₁.setTop (mkF m 10 #[.val (.long q0), .second, .val (.long q1), .second, .val (.int p2), .val (.int p3), .unset, .unset, .unset, .unset, .unset, .unset, .unset, .unset, .unset] [(.int (p2 &&& (63 : Int32))), (.long (q0 &&& (9223372036854775807 : Int64)))]))
  refine own_step (fun _ k => XS.lushr X0.here hx rfl (hb hby at_10) rfl k) ?_
  show own_Ends p.tables e below _ (s₁.setTop (mkF m 11 #[.val (.long q0), .second, .val (.long q1), .second, .val (.int p2), .val (.int p3), .unset, .unset, .unset, .unset, .unset, .unset, .unset, .unset, .unset] [(.long (((q0 &&& (9223372036854775807 : Int64)).toUInt64 >>> ((p2 &&& (63 : Int32)) &&& 0x3f).toInt64.toUInt64).toInt64))]))
  obtain ⟨va, hva⟩ : ∃ z, z = (((q0 &&& (9223372036854775807 : Int64)).toUInt64 >>> ((p2 &&& (63 : Int32)) &&& 0x3f).toInt64.toUInt64).toInt64) := ⟨_, rfl⟩
  rw [← hva]
  show own_Ends p.tables e below _ (s₁.setTop (mkF m 11 #[.val (.long q0), .second, .val (.long q1), .second, .val (.int p2), .val (.int p3), .unset, .unset, .unset, .unset, .unset, .unset, .unset, .unset, .unset] [(.long va)]))
  refine own_step (fun _ k => XS.lstore X0.here hx rfl (hb hby at_11) rfl (l' := #[.val (.long q0), .second, .val (.long q1), .second, .val (.int p2), .val (.int p3), .val (.long va), .second, .unset, .unset, .unset, .unset, .unset, .unset, .unset]) rfl k) ?_
  show own_Ends p.tables e below _ (s₁.setTop (mkF m 13 #[.val (.long q0), .second, .val (.long q1), .second, .val (.int p2), .val (.int p3), .val (.long va), .second, .unset, .unset, .unset, .unset, .unset, .unset, .unset] []))
  refine own_step (fun _ k => XS.lloadN X0.here hx rfl (hb hby at_13) rfl k) ?_
  show own_Ends p.tables e below _ (s₁.setTop (mkF m 14 #[.val (.long q0), .second, .val (.long q1), .second, .val (.int p2), .val (.int p3), .val (.long va), .second, .unset, .unset, .unset, .unset, .unset, .unset, .unset] [(.long q1)]))
  refine own_step (fun _ k => X0.ldc2Long hx hown (mvT hZ (hw _ (List.mem_of_getElem? (i := 0) rfl))) (g := (mkF m 14 #[.val (.long q0), .second, .val (.long q1), .second, .val (.int p2), .val (.int p3), .val (.long va), .second, .unset, .unset, .unset, .unset, .unset, .unset, .unset] [(.long q1)])) rfl (hb hby at_14) _ k) ?_
  show own_Ends p.tables e below _ (s₁.setTop (mkF m 17 #[.val (.long q0), .second, .val (.long q1), .second, .val (.int p2), .val (.int p3), .val (.long va), .second, .unset, .unset, .unset, .unset, .unset, .unset, .unset] [(.long (9223372036854775807 : Int64)), (.long q1)]))
  refine own_step (fun _ k => XS.land X0.here hx rfl (hb hby at_17) rfl k) ?_
  show own_Ends p.tables e below _ (s₁.setTop (mkF m 18 #[.val (.long q0), .second, .val (.long q1), .second, .val (.int p2), .val (.int p3), .val (.long va), .second, .unset, .unset, .unset, .unset, .unset, .unset, .unset] [(.long (q1 &&& (9223372036854775807 : Int64)))]))
  refine own_step (fun _ k => XS.iload X0.here hx rfl (hb hby at_18) rfl k) ?_
  show own_Ends p.tables e below _ (s₁.setTop (mkF m 20 #[.val (.long q0), .second, .val (.long q1), .second, .val (.int p2), .val (.int p3), .val (.long va), .second, .unset, .unset, .unset, .unset, .unset, .unset, .unset] [(.int p3), (.long (q1 &&& (9223372036854775807 : Int64)))]))
  refine own_step (fun _ k => XS.bipush X0.here hx rfl (hb hby at_20) k) ?_
  show own_Ends p.tables e below _ (s₁.setTop (mkF m 22 #[.val (.long q0), .second, .val (.long q1), .second, .val (.int p2), .val (.int p3), .val (.long va), .second, .unset, .unset, .unset, .unset, .unset, .unset, .unset] [(.int (63 : Int32)), (.int p3), (.long (q1 &&& (9223372036854775807 : Int64)))]))
  refine own_step (fun _ k => XS.iand X0.here hx rfl (hb hby at_22) rfl k) ?_
  show own_Ends p.tables e below _ (s₁.setTop (mkF m 23 #[.val (.long q0), .second, .val (.long q1), .second, .val (.int p2), .val (.int p3), .val (.long va), .second, .unset, .unset, .unset, .unset, .unset, .unset, .unset] [(.int (p3 &&& (63 : Int32))), (.long (q1 &&& (9223372036854775807 : Int64)))]))
  refine own_step (fun _ k => XS.lushr X0.here hx rfl (hb hby at_23) rfl k) ?_
  show own_Ends p.tables e below _ (s₁.setTop (mkF m 24 #[.val (.long q0), .second, .val (.long q1), .second, .val (.int p2), .val (.int p3), .val (.long va), .second, .unset, .unset, .unset, .unset, .unset, .unset, .unset] [(.long (((q1 &&& (9223372036854775807 : Int64)).toUInt64 >>> ((p3 &&& (63 : Int32)) &&& 0x3f).toInt64.toUInt64).toInt64))]))
  obtain ⟨vb, hvb⟩ : ∃ z, z = (((q1 &&& (9223372036854775807 : Int64)).toUInt64 >>> ((p3 &&& (63 : Int32)) &&& 0x3f).toInt64.toUInt64).toInt64) := ⟨_, rfl⟩
  rw [← hvb]
  show own_Ends p.tables e below _ (s₁.setTop (mkF m 24 #[.val (.long q0), .second, .val (.long q1), .second, .val (.int p2), .val (.int p3), .val (.long va), .second, .unset, .unset, .unset, .unset, .unset, .unset, .unset] [(.long vb)]))
  refine own_step (fun _ k => XS.lstore X0.here hx rfl (hb hby at_24) rfl (l' := #[.val (.long q0), .second, .val (.long q1), .second, .val (.int p2), .val (.int p3), .val (.long va), .second, .val (.long vb), .second, .unset, .unset, .unset, .unset, .unset]) rfl k) ?_
  show own_Ends p.tables e below _ (s₁.setTop (mkF m 26 #[.val (.long q0), .second, .val (.long q1), .second, .val (.int p2), .val (.int p3), .val (.long va), .second, .val (.long vb), .second, .unset, .unset, .unset, .unset, .unset] []))
  refine own_step (fun _ k => XS.lload X0.here hx rfl (hb hby at_26) rfl k) ?_
  show own_Ends p.tables e below _ (s₁.setTop (mkF m 28 #[.val (.long q0), .second, .val (.long q1), .second, .val (.int p2), .val (.int p3), .val (.long va), .second, .val (.long vb), .second, .unset, .unset, .unset, .unset, .unset] [(.long va)]))
  refine own_step (fun _ k => XS.lload X0.here hx rfl (hb hby at_28) rfl k) ?_
  show own_Ends p.tables e below _ (s₁.setTop (mkF m 30 #[.val (.long q0), .second, .val (.long q1), .second, .val (.int p2), .val (.int p3), .val (.long va), .second, .val (.long vb), .second, .unset, .unset, .unset, .unset, .unset] [(.long vb), (.long va)]))
  refine own_step (fun _ k => XS.lmul X0.here hx rfl (hb hby at_30) rfl k) ?_
  show own_Ends p.tables e below _ (s₁.setTop (mkF m 31 #[.val (.long q0), .second, .val (.long q1), .second, .val (.int p2), .val (.int p3), .val (.long va), .second, .val (.long vb), .second, .unset, .unset, .unset, .unset, .unset] [(.long (va * vb))]))
  refine own_step (fun _ k => XS.lstore X0.here hx rfl (hb hby at_31) rfl (l' := #[.val (.long q0), .second, .val (.long q1), .second, .val (.int p2), .val (.int p3), .val (.long va), .second, .val (.long vb), .second, .val (.long (va * vb)), .second, .unset, .unset, .unset]) rfl k) ?_
  show own_Ends p.tables e below _ (s₁.setTop (mkF m 33 #[.val (.long q0), .second, .val (.long q1), .second, .val (.int p2), .val (.int p3), .val (.long va), .second, .val (.long vb), .second, .val (.long (va * vb)), .second, .unset, .unset, .unset] []))
  have na : 0 ≤ va.toInt := by rw [hva]; exact own_shr_nonneg _ _
  have nb : 0 ≤ vb.toInt := by rw [hvb]; exact own_shr_nonneg _ _
  refine own_step (fun _ k => XS.lload X0.here hx rfl (hb hby at_33) rfl k) ?_
  show own_Ends p.tables e below _ (s₁.setTop (mkF m 35 #[.val (.long q0), .second, .val (.long q1), .second, .val (.int p2), .val (.int p3), .val (.long va), .second, .val (.long vb), .second, .val (.long (va * vb)), .second, .unset, .unset, .unset] [(.long va)]))
  refine own_step (fun _ k => XS.lconst X0.here hx rfl (hb hby at_35) k) ?_
  show own_Ends p.tables e below _ (s₁.setTop (mkF m 36 #[.val (.long q0), .second, .val (.long q1), .second, .val (.int p2), .val (.int p3), .val (.long va), .second, .val (.long vb), .second, .val (.long (va * vb)), .second, .unset, .unset, .unset] [(.long (0 : Int64)), (.long va)]))
  refine own_step (fun _ k => XS.lcmp X0.here hx rfl (hb hby at_36) rfl k) ?_
  show own_Ends p.tables e below _ (s₁.setTop (mkF m 37 #[.val (.long q0), .second, .val (.long q1), .second, .val (.int p2), .val (.int p3), .val (.long va), .second, .val (.long vb), .second, .val (.long (va * vb)), .second, .unset, .unset, .unset] [(.int (lcmpW va (0 : Int64)))]))
  by_cases hc37 : va = (0 : Int64)
  · refine own_step (fun _ k => XS.ifYes X0.here hx rfl (pc0 := 37) (pc' := 58) rfl (hb hby at_37) rfl ((if0 _ _).trans (teq ((own_lc_eq _ _).mpr hc37)).1) (by decide) (by decide) k) ?_
    show own_Ends p.tables e below _ (s₁.setTop (mkF m 58 #[.val (.long q0), .second, .val (.long q1), .second, .val (.int p2), .val (.int p3), .val (.long va), .second, .val (.long vb), .second, .val (.long (va * vb)), .second, .unset, .unset, .unset] []))
    refine own_step (fun _ k => XS.iconst X0.here hx rfl (hb hby at_58) k) ?_
    show own_Ends p.tables e below _ (s₁.setTop (mkF m 59 #[.val (.long q0), .second, .val (.long q1), .second, .val (.int p2), .val (.int p3), .val (.long va), .second, .val (.long vb), .second, .val (.long (va * vb)), .second, .unset, .unset, .unset] [(.int (1 : Int32))]))
    refine own_step (fun _ k => XS.goto X0.here hx rfl (pc0 := 59) (pc' := 63) rfl (hb hby at_59) (by decide) (by decide) k) ?_
    show own_Ends p.tables e below _ (s₁.setTop (mkF m 63 #[.val (.long q0), .second, .val (.long q1), .second, .val (.int p2), .val (.int p3), .val (.long va), .second, .val (.long vb), .second, .val (.long (va * vb)), .second, .unset, .unset, .unset] [(.int (1 : Int32))]))
    refine own_step (fun _ k => XS.istore X0.here hx rfl (hb hby at_63) rfl (l' := #[.val (.long q0), .second, .val (.long q1), .second, .val (.int p2), .val (.int p3), .val (.long va), .second, .val (.long vb), .second, .val (.long (va * vb)), .second, .val (.int (1 : Int32)), .unset, .unset]) rfl k) ?_
    show own_Ends p.tables e below _ (s₁.setTop (mkF m 65 #[.val (.long q0), .second, .val (.long q1), .second, .val (.int p2), .val (.int p3), .val (.long va), .second, .val (.long vb), .second, .val (.long (va * vb)), .second, .val (.int (1 : Int32)), .unset, .unset] []))
    refine own_step (fun _ k => XS.iload X0.here hx rfl (hb hby at_65) rfl k) ?_
    show own_Ends p.tables e below _ (s₁.setTop (mkF m 67 #[.val (.long q0), .second, .val (.long q1), .second, .val (.int p2), .val (.int p3), .val (.long va), .second, .val (.long vb), .second, .val (.long (va * vb)), .second, .val (.int (1 : Int32)), .unset, .unset] [(.int (1 : Int32))]))
    refine own_step (fun _ k => XS.ifNo X0.here hx rfl (hb hby at_67) rfl ((if0 _ _).trans (feq (by decide)).1) k) ?_
    show own_Ends p.tables e below _ (s₁.setTop (mkF m 70 #[.val (.long q0), .second, .val (.long q1), .second, .val (.int p2), .val (.int p3), .val (.long va), .second, .val (.long vb), .second, .val (.long (va * vb)), .second, .val (.int (1 : Int32)), .unset, .unset] []))
    refine own_step (fun _ k => XS.lload X0.here hx rfl (hb hby at_70) rfl k) ?_
    show own_Ends p.tables e below _ (s₁.setTop (mkF m 72 #[.val (.long q0), .second, .val (.long q1), .second, .val (.int p2), .val (.int p3), .val (.long va), .second, .val (.long vb), .second, .val (.long (va * vb)), .second, .val (.int (1 : Int32)), .unset, .unset] [(.long (va * vb))]))
    refine own_step (fun _ k => XS.goto X0.here hx rfl (pc0 := 72) (pc' := 78) rfl (hb hby at_72) (by decide) (by decide) k) ?_
    show own_Ends p.tables e below _ (s₁.setTop (mkF m 78 #[.val (.long q0), .second, .val (.long q1), .second, .val (.int p2), .val (.int p3), .val (.long va), .second, .val (.long vb), .second, .val (.long (va * vb)), .second, .val (.int (1 : Int32)), .unset, .unset] [(.long (va * vb))]))
    refine own_step (fun _ k => XS.lstore X0.here hx rfl (hb hby at_78) rfl (l' := #[.val (.long q0), .second, .val (.long q1), .second, .val (.int p2), .val (.int p3), .val (.long va), .second, .val (.long vb), .second, .val (.long (va * vb)), .second, .val (.int (1 : Int32)), .val (.long (va * vb)), .second]) rfl k) ?_
    show own_Ends p.tables e below _ (s₁.setTop (mkF m 80 #[.val (.long q0), .second, .val (.long q1), .second, .val (.int p2), .val (.int p3), .val (.long va), .second, .val (.long vb), .second, .val (.long (va * vb)), .second, .val (.int (1 : Int32)), .val (.long (va * vb)), .second] []))
    refine own_step (fun _ k => XS.lload X0.here hx rfl (hb hby at_80) rfl k) ?_
    show own_Ends p.tables e below _ (s₁.setTop (mkF m 82 #[.val (.long q0), .second, .val (.long q1), .second, .val (.int p2), .val (.int p3), .val (.long va), .second, .val (.long vb), .second, .val (.long (va * vb)), .second, .val (.int (1 : Int32)), .val (.long (va * vb)), .second] [(.long va)]))
    refine own_step (fun _ k => XS.lload X0.here hx rfl (hb hby at_82) rfl k) ?_
    show own_Ends p.tables e below _ (s₁.setTop (mkF m 84 #[.val (.long q0), .second, .val (.long q1), .second, .val (.int p2), .val (.int p3), .val (.long va), .second, .val (.long vb), .second, .val (.long (va * vb)), .second, .val (.int (1 : Int32)), .val (.long (va * vb)), .second] [(.long vb), (.long va)]))
    obtain ⟨_, _, ⟨T1, L1, k1, n1⟩, -, X1, ⟨Lc1, hQ1, l1, y1, z1⟩, st1⟩ := Jvm.LawKit.callS X0 hx (y := (⟨"com/example/escar/escar/schema/model/Particle", "times", "(JJ)J"⟩ : MethodName)) hown (mvT hZ (hw _ (List.mem_of_getElem? (i := 1) rfl))) (mvT hZ (hw _ (List.mem_of_getElem? (i := 2) rfl))) (mvT hZ (hw _ (List.mem_of_getElem? (i := 3) rfl))) (mvT hZ (hw _ (List.mem_of_getElem? (i := 4) rfl))) (by decide) (backOf (W := 0) (own_rm_times l Z a0 hw [] va vb h0 n0 Z0 ) hZ (hw _ (List.mem_of_getElem? (i := 4) rfl)) (hw _ (List.mem_of_getElem? (i := 3) rfl)) (by decide) (by decide)) (g := (mkF m 84 #[.val (.long q0), .second, .val (.long q1), .second, .val (.int p2), .val (.int p3), .val (.long va), .second, .val (.long vb), .second, .val (.long (va * vb)), .second, .val (.int (1 : Int32)), .val (.long (va * vb)), .second] [(.long vb), (.long va)])) rfl (by rw [hml]; rfl) (argsL := [(.long va), (.long vb)]) (rest := []) (lenOf own_pd0 rfl) rfl (by show 2 * 0 + _ ≤ _; exact Nat.le_of_eq rfl) (hb hby at_84) (fun _ _ => ⟨rfl, e0, (by decide : 0 + 0 ≤ _), (by decide : 0 + 0 ≤ _)⟩)
    dsimp only [Pt.U, Pt.locs, Pt.cells, Pt.slots] at X1 l1 y1 z1 st1 hQ1
    subst l1 y1 z1
    obtain ⟨rfl, N1q, e1⟩ := hQ1
    have N_1 := Fr.app N0 N1q
    refine own_step st1 ?_
    show own_Ends p.tables e below _ (T1.setTop (mkF m 87 #[.val (.long q0), .second, .val (.long q1), .second, .val (.int p2), .val (.int p3), .val (.long va), .second, .val (.long vb), .second, .val (.long (va * vb)), .second, .val (.int (1 : Int32)), .val (.long (va * vb)), .second] [(.long (own_times va vb))]))
    refine own_step (fun _ k => XS.lload X1.here hx rfl (hb hby at_87) rfl k) ?_
    show own_Ends p.tables e below _ (T1.setTop (mkF m 89 #[.val (.long q0), .second, .val (.long q1), .second, .val (.int p2), .val (.int p3), .val (.long va), .second, .val (.long vb), .second, .val (.long (va * vb)), .second, .val (.int (1 : Int32)), .val (.long (va * vb)), .second] [(.long (va * vb)), (.long (own_times va vb))]))
    refine own_step (fun _ k => XS.lcmp X1.here hx rfl (hb hby at_89) rfl k) ?_
    show own_Ends p.tables e below _ (T1.setTop (mkF m 90 #[.val (.long q0), .second, .val (.long q1), .second, .val (.int p2), .val (.int p3), .val (.long va), .second, .val (.long vb), .second, .val (.long (va * vb)), .second, .val (.int (1 : Int32)), .val (.long (va * vb)), .second] [(.int (lcmpW (own_times va vb) (va * vb)))]))
    refine own_step (fun _ k => XS.ifNo X1.here hx rfl (hb hby at_90) rfl ((if0 _ _).trans (teq ((own_lc_eq _ _).mpr (own_k1 va vb na nb hc37))).2) k) ?_
    show own_Ends p.tables e below _ (T1.setTop (mkF m 93 #[.val (.long q0), .second, .val (.long q1), .second, .val (.int p2), .val (.int p3), .val (.long va), .second, .val (.long vb), .second, .val (.long (va * vb)), .second, .val (.int (1 : Int32)), .val (.long (va * vb)), .second] []))
    refine own_step (fun _ k => XS.iconst X1.here hx rfl (hb hby at_93) k) ?_
    show own_Ends p.tables e below _ (T1.setTop (mkF m 94 #[.val (.long q0), .second, .val (.long q1), .second, .val (.int p2), .val (.int p3), .val (.long va), .second, .val (.long vb), .second, .val (.long (va * vb)), .second, .val (.int (1 : Int32)), .val (.long (va * vb)), .second] [(.int (1 : Int32))]))
    refine own_step (fun _ k => XS.goto X1.here hx rfl (pc0 := 94) (pc' := 98) rfl (hb hby at_94) (by decide) (by decide) k) ?_
    show own_Ends p.tables e below _ (T1.setTop (mkF m 98 #[.val (.long q0), .second, .val (.long q1), .second, .val (.int p2), .val (.int p3), .val (.long va), .second, .val (.long vb), .second, .val (.long (va * vb)), .second, .val (.int (1 : Int32)), .val (.long (va * vb)), .second] [(.int (1 : Int32))]))
    exact own_retN X1 hx hlk (by decide) (by decide) (t := .boolean) Bd.returns (by simp) (hb hby at_98) (by rw [e1]; exact ⟨rfl, N_1⟩)
  · refine own_step (fun _ k => XS.ifNo X0.here hx rfl (hb hby at_37) rfl ((if0 _ _).trans (feq (fun q => hc37 ((own_lc_eq _ _).mp q))).1) k) ?_
    show own_Ends p.tables e below _ (s₁.setTop (mkF m 40 #[.val (.long q0), .second, .val (.long q1), .second, .val (.int p2), .val (.int p3), .val (.long va), .second, .val (.long vb), .second, .val (.long (va * vb)), .second, .unset, .unset, .unset] []))
    refine own_step (fun _ k => XS.lload X0.here hx rfl (hb hby at_40) rfl k) ?_
    show own_Ends p.tables e below _ (s₁.setTop (mkF m 42 #[.val (.long q0), .second, .val (.long q1), .second, .val (.int p2), .val (.int p3), .val (.long va), .second, .val (.long vb), .second, .val (.long (va * vb)), .second, .unset, .unset, .unset] [(.long (va * vb))]))
    refine own_step (fun _ k => XS.lconst X0.here hx rfl (hb hby at_42) k) ?_
    show own_Ends p.tables e below _ (s₁.setTop (mkF m 43 #[.val (.long q0), .second, .val (.long q1), .second, .val (.int p2), .val (.int p3), .val (.long va), .second, .val (.long vb), .second, .val (.long (va * vb)), .second, .unset, .unset, .unset] [(.long (0 : Int64)), (.long (va * vb))]))
    refine own_step (fun _ k => XS.lcmp X0.here hx rfl (hb hby at_43) rfl k) ?_
    show own_Ends p.tables e below _ (s₁.setTop (mkF m 44 #[.val (.long q0), .second, .val (.long q1), .second, .val (.int p2), .val (.int p3), .val (.long va), .second, .val (.long vb), .second, .val (.long (va * vb)), .second, .unset, .unset, .unset] [(.int (lcmpW (va * vb) (0 : Int64)))]))
    by_cases hc44 : (va * vb) < (0 : Int64)
    · refine own_step (fun _ k => XS.ifYes X0.here hx rfl (pc0 := 44) (pc' := 62) rfl (hb hby at_44) rfl ((if0 _ _).trans (tlt ((own_lc_lt _ _).mpr hc44)).1) (by decide) (by decide) k) ?_
      show own_Ends p.tables e below _ (s₁.setTop (mkF m 62 #[.val (.long q0), .second, .val (.long q1), .second, .val (.int p2), .val (.int p3), .val (.long va), .second, .val (.long vb), .second, .val (.long (va * vb)), .second, .unset, .unset, .unset] []))
      refine own_step (fun _ k => XS.iconst X0.here hx rfl (hb hby at_62) k) ?_
      show own_Ends p.tables e below _ (s₁.setTop (mkF m 63 #[.val (.long q0), .second, .val (.long q1), .second, .val (.int p2), .val (.int p3), .val (.long va), .second, .val (.long vb), .second, .val (.long (va * vb)), .second, .unset, .unset, .unset] [(.int (0 : Int32))]))
      refine own_step (fun _ k => XS.istore X0.here hx rfl (hb hby at_63) rfl (l' := #[.val (.long q0), .second, .val (.long q1), .second, .val (.int p2), .val (.int p3), .val (.long va), .second, .val (.long vb), .second, .val (.long (va * vb)), .second, .val (.int (0 : Int32)), .unset, .unset]) rfl k) ?_
      show own_Ends p.tables e below _ (s₁.setTop (mkF m 65 #[.val (.long q0), .second, .val (.long q1), .second, .val (.int p2), .val (.int p3), .val (.long va), .second, .val (.long vb), .second, .val (.long (va * vb)), .second, .val (.int (0 : Int32)), .unset, .unset] []))
      refine own_step (fun _ k => XS.iload X0.here hx rfl (hb hby at_65) rfl k) ?_
      show own_Ends p.tables e below _ (s₁.setTop (mkF m 67 #[.val (.long q0), .second, .val (.long q1), .second, .val (.int p2), .val (.int p3), .val (.long va), .second, .val (.long vb), .second, .val (.long (va * vb)), .second, .val (.int (0 : Int32)), .unset, .unset] [(.int (0 : Int32))]))
      refine own_step (fun _ k => XS.ifYes X0.here hx rfl (pc0 := 67) (pc' := 75) rfl (hb hby at_67) rfl ((if0 _ _).trans (teq (by decide)).1) (by decide) (by decide) k) ?_
      show own_Ends p.tables e below _ (s₁.setTop (mkF m 75 #[.val (.long q0), .second, .val (.long q1), .second, .val (.int p2), .val (.int p3), .val (.long va), .second, .val (.long vb), .second, .val (.long (va * vb)), .second, .val (.int (0 : Int32)), .unset, .unset] []))
      refine own_step (fun _ k => X0.ldc2Long hx hown (mvT hZ (hw _ (List.mem_of_getElem? (i := 0) rfl))) (g := (mkF m 75 #[.val (.long q0), .second, .val (.long q1), .second, .val (.int p2), .val (.int p3), .val (.long va), .second, .val (.long vb), .second, .val (.long (va * vb)), .second, .val (.int (0 : Int32)), .unset, .unset] [])) rfl (hb hby at_75) _ k) ?_
      show own_Ends p.tables e below _ (s₁.setTop (mkF m 78 #[.val (.long q0), .second, .val (.long q1), .second, .val (.int p2), .val (.int p3), .val (.long va), .second, .val (.long vb), .second, .val (.long (va * vb)), .second, .val (.int (0 : Int32)), .unset, .unset] [(.long (9223372036854775807 : Int64))]))
      refine own_step (fun _ k => XS.lstore X0.here hx rfl (hb hby at_78) rfl (l' := #[.val (.long q0), .second, .val (.long q1), .second, .val (.int p2), .val (.int p3), .val (.long va), .second, .val (.long vb), .second, .val (.long (va * vb)), .second, .val (.int (0 : Int32)), .val (.long (9223372036854775807 : Int64)), .second]) rfl k) ?_
      show own_Ends p.tables e below _ (s₁.setTop (mkF m 80 #[.val (.long q0), .second, .val (.long q1), .second, .val (.int p2), .val (.int p3), .val (.long va), .second, .val (.long vb), .second, .val (.long (va * vb)), .second, .val (.int (0 : Int32)), .val (.long (9223372036854775807 : Int64)), .second] []))
      refine own_step (fun _ k => XS.lload X0.here hx rfl (hb hby at_80) rfl k) ?_
      show own_Ends p.tables e below _ (s₁.setTop (mkF m 82 #[.val (.long q0), .second, .val (.long q1), .second, .val (.int p2), .val (.int p3), .val (.long va), .second, .val (.long vb), .second, .val (.long (va * vb)), .second, .val (.int (0 : Int32)), .val (.long (9223372036854775807 : Int64)), .second] [(.long va)]))
      refine own_step (fun _ k => XS.lload X0.here hx rfl (hb hby at_82) rfl k) ?_
      show own_Ends p.tables e below _ (s₁.setTop (mkF m 84 #[.val (.long q0), .second, .val (.long q1), .second, .val (.int p2), .val (.int p3), .val (.long va), .second, .val (.long vb), .second, .val (.long (va * vb)), .second, .val (.int (0 : Int32)), .val (.long (9223372036854775807 : Int64)), .second] [(.long vb), (.long va)]))
      obtain ⟨_, _, ⟨T2, L2, k2, n2⟩, -, X2, ⟨Lc2, hQ2, l2, y2, z2⟩, st2⟩ := Jvm.LawKit.callS X0 hx (y := (⟨"com/example/escar/escar/schema/model/Particle", "times", "(JJ)J"⟩ : MethodName)) hown (mvT hZ (hw _ (List.mem_of_getElem? (i := 1) rfl))) (mvT hZ (hw _ (List.mem_of_getElem? (i := 2) rfl))) (mvT hZ (hw _ (List.mem_of_getElem? (i := 3) rfl))) (mvT hZ (hw _ (List.mem_of_getElem? (i := 4) rfl))) (by decide) (backOf (W := 0) (own_rm_times l Z a0 hw [] va vb h0 n0 Z0 ) hZ (hw _ (List.mem_of_getElem? (i := 4) rfl)) (hw _ (List.mem_of_getElem? (i := 3) rfl)) (by decide) (by decide)) (g := (mkF m 84 #[.val (.long q0), .second, .val (.long q1), .second, .val (.int p2), .val (.int p3), .val (.long va), .second, .val (.long vb), .second, .val (.long (va * vb)), .second, .val (.int (0 : Int32)), .val (.long (9223372036854775807 : Int64)), .second] [(.long vb), (.long va)])) rfl (by rw [hml]; rfl) (argsL := [(.long va), (.long vb)]) (rest := []) (lenOf own_pd0 rfl) rfl (by show 2 * 0 + _ ≤ _; exact Nat.le_of_eq rfl) (hb hby at_84) (fun _ _ => ⟨rfl, e0, (by decide : 0 + 0 ≤ _), (by decide : 0 + 0 ≤ _)⟩)
      dsimp only [Pt.U, Pt.locs, Pt.cells, Pt.slots] at X2 l2 y2 z2 st2 hQ2
      subst l2 y2 z2
      obtain ⟨rfl, N2q, e2⟩ := hQ2
      have N_2 := Fr.app N0 N2q
      refine own_step st2 ?_
      show own_Ends p.tables e below _ (T2.setTop (mkF m 87 #[.val (.long q0), .second, .val (.long q1), .second, .val (.int p2), .val (.int p3), .val (.long va), .second, .val (.long vb), .second, .val (.long (va * vb)), .second, .val (.int (0 : Int32)), .val (.long (9223372036854775807 : Int64)), .second] [(.long (own_times va vb))]))
      refine own_step (fun _ k => XS.lload X2.here hx rfl (hb hby at_87) rfl k) ?_
      show own_Ends p.tables e below _ (T2.setTop (mkF m 89 #[.val (.long q0), .second, .val (.long q1), .second, .val (.int p2), .val (.int p3), .val (.long va), .second, .val (.long vb), .second, .val (.long (va * vb)), .second, .val (.int (0 : Int32)), .val (.long (9223372036854775807 : Int64)), .second] [(.long (9223372036854775807 : Int64)), (.long (own_times va vb))]))
      refine own_step (fun _ k => XS.lcmp X2.here hx rfl (hb hby at_89) rfl k) ?_
      show own_Ends p.tables e below _ (T2.setTop (mkF m 90 #[.val (.long q0), .second, .val (.long q1), .second, .val (.int p2), .val (.int p3), .val (.long va), .second, .val (.long vb), .second, .val (.long (va * vb)), .second, .val (.int (0 : Int32)), .val (.long (9223372036854775807 : Int64)), .second] [(.int (lcmpW (own_times va vb) (9223372036854775807 : Int64)))]))
      refine own_step (fun _ k => XS.ifNo X2.here hx rfl (hb hby at_90) rfl ((if0 _ _).trans (teq ((own_lc_eq _ _).mpr (own_k2 va vb na nb hc44))).2) k) ?_
      show own_Ends p.tables e below _ (T2.setTop (mkF m 93 #[.val (.long q0), .second, .val (.long q1), .second, .val (.int p2), .val (.int p3), .val (.long va), .second, .val (.long vb), .second, .val (.long (va * vb)), .second, .val (.int (0 : Int32)), .val (.long (9223372036854775807 : Int64)), .second] []))
      refine own_step (fun _ k => XS.iconst X2.here hx rfl (hb hby at_93) k) ?_
      show own_Ends p.tables e below _ (T2.setTop (mkF m 94 #[.val (.long q0), .second, .val (.long q1), .second, .val (.int p2), .val (.int p3), .val (.long va), .second, .val (.long vb), .second, .val (.long (va * vb)), .second, .val (.int (0 : Int32)), .val (.long (9223372036854775807 : Int64)), .second] [(.int (1 : Int32))]))
      refine own_step (fun _ k => XS.goto X2.here hx rfl (pc0 := 94) (pc' := 98) rfl (hb hby at_94) (by decide) (by decide) k) ?_
      show own_Ends p.tables e below _ (T2.setTop (mkF m 98 #[.val (.long q0), .second, .val (.long q1), .second, .val (.int p2), .val (.int p3), .val (.long va), .second, .val (.long vb), .second, .val (.long (va * vb)), .second, .val (.int (0 : Int32)), .val (.long (9223372036854775807 : Int64)), .second] [(.int (1 : Int32))]))
      exact own_retN X2 hx hlk (by decide) (by decide) (t := .boolean) Bd.returns (by simp) (hb hby at_98) (by rw [e2]; exact ⟨rfl, N_2⟩)
    · refine own_step (fun _ k => XS.ifNo X0.here hx rfl (hb hby at_44) rfl ((if0 _ _).trans (flt (fun q => hc44 ((own_lc_lt _ _).mp q))).1) k) ?_
      show own_Ends p.tables e below _ (s₁.setTop (mkF m 47 #[.val (.long q0), .second, .val (.long q1), .second, .val (.int p2), .val (.int p3), .val (.long va), .second, .val (.long vb), .second, .val (.long (va * vb)), .second, .unset, .unset, .unset] []))
      refine own_step (fun _ k => XS.lload X0.here hx rfl (hb hby at_47) rfl k) ?_
      show own_Ends p.tables e below _ (s₁.setTop (mkF m 49 #[.val (.long q0), .second, .val (.long q1), .second, .val (.int p2), .val (.int p3), .val (.long va), .second, .val (.long vb), .second, .val (.long (va * vb)), .second, .unset, .unset, .unset] [(.long (va * vb))]))
      refine own_step (fun _ k => XS.lload X0.here hx rfl (hb hby at_49) rfl k) ?_
      show own_Ends p.tables e below _ (s₁.setTop (mkF m 51 #[.val (.long q0), .second, .val (.long q1), .second, .val (.int p2), .val (.int p3), .val (.long va), .second, .val (.long vb), .second, .val (.long (va * vb)), .second, .unset, .unset, .unset] [(.long va), (.long (va * vb))]))
      refine own_step (fun _ k => XS.ldiv X0.here hx rfl (hb hby at_51) rfl hc37 k) ?_
      show own_Ends p.tables e below _ (s₁.setTop (mkF m 52 #[.val (.long q0), .second, .val (.long q1), .second, .val (.int p2), .val (.int p3), .val (.long va), .second, .val (.long vb), .second, .val (.long (va * vb)), .second, .unset, .unset, .unset] [(.long ((va * vb) / va))]))
      refine own_step (fun _ k => XS.lload X0.here hx rfl (hb hby at_52) rfl k) ?_
      show own_Ends p.tables e below _ (s₁.setTop (mkF m 54 #[.val (.long q0), .second, .val (.long q1), .second, .val (.int p2), .val (.int p3), .val (.long va), .second, .val (.long vb), .second, .val (.long (va * vb)), .second, .unset, .unset, .unset] [(.long vb), (.long ((va * vb) / va))]))
      refine own_step (fun _ k => XS.lcmp X0.here hx rfl (hb hby at_54) rfl k) ?_
      show own_Ends p.tables e below _ (s₁.setTop (mkF m 55 #[.val (.long q0), .second, .val (.long q1), .second, .val (.int p2), .val (.int p3), .val (.long va), .second, .val (.long vb), .second, .val (.long (va * vb)), .second, .unset, .unset, .unset] [(.int (lcmpW ((va * vb) / va) vb))]))
      by_cases hc55 : ((va * vb) / va) = vb
      · refine own_step (fun _ k => XS.ifNo X0.here hx rfl (hb hby at_55) rfl ((if0 _ _).trans (teq ((own_lc_eq _ _).mpr hc55)).2) k) ?_
        show own_Ends p.tables e below _ (s₁.setTop (mkF m 58 #[.val (.long q0), .second, .val (.long q1), .second, .val (.int p2), .val (.int p3), .val (.long va), .second, .val (.long vb), .second, .val (.long (va * vb)), .second, .unset, .unset, .unset] []))
        refine own_step (fun _ k => XS.iconst X0.here hx rfl (hb hby at_58) k) ?_
        show own_Ends p.tables e below _ (s₁.setTop (mkF m 59 #[.val (.long q0), .second, .val (.long q1), .second, .val (.int p2), .val (.int p3), .val (.long va), .second, .val (.long vb), .second, .val (.long (va * vb)), .second, .unset, .unset, .unset] [(.int (1 : Int32))]))
        refine own_step (fun _ k => XS.goto X0.here hx rfl (pc0 := 59) (pc' := 63) rfl (hb hby at_59) (by decide) (by decide) k) ?_
        show own_Ends p.tables e below _ (s₁.setTop (mkF m 63 #[.val (.long q0), .second, .val (.long q1), .second, .val (.int p2), .val (.int p3), .val (.long va), .second, .val (.long vb), .second, .val (.long (va * vb)), .second, .unset, .unset, .unset] [(.int (1 : Int32))]))
        refine own_step (fun _ k => XS.istore X0.here hx rfl (hb hby at_63) rfl (l' := #[.val (.long q0), .second, .val (.long q1), .second, .val (.int p2), .val (.int p3), .val (.long va), .second, .val (.long vb), .second, .val (.long (va * vb)), .second, .val (.int (1 : Int32)), .unset, .unset]) rfl k) ?_
        show own_Ends p.tables e below _ (s₁.setTop (mkF m 65 #[.val (.long q0), .second, .val (.long q1), .second, .val (.int p2), .val (.int p3), .val (.long va), .second, .val (.long vb), .second, .val (.long (va * vb)), .second, .val (.int (1 : Int32)), .unset, .unset] []))
        refine own_step (fun _ k => XS.iload X0.here hx rfl (hb hby at_65) rfl k) ?_
        show own_Ends p.tables e below _ (s₁.setTop (mkF m 67 #[.val (.long q0), .second, .val (.long q1), .second, .val (.int p2), .val (.int p3), .val (.long va), .second, .val (.long vb), .second, .val (.long (va * vb)), .second, .val (.int (1 : Int32)), .unset, .unset] [(.int (1 : Int32))]))
        refine own_step (fun _ k => XS.ifNo X0.here hx rfl (hb hby at_67) rfl ((if0 _ _).trans (feq (by decide)).1) k) ?_
        show own_Ends p.tables e below _ (s₁.setTop (mkF m 70 #[.val (.long q0), .second, .val (.long q1), .second, .val (.int p2), .val (.int p3), .val (.long va), .second, .val (.long vb), .second, .val (.long (va * vb)), .second, .val (.int (1 : Int32)), .unset, .unset] []))
        refine own_step (fun _ k => XS.lload X0.here hx rfl (hb hby at_70) rfl k) ?_
        show own_Ends p.tables e below _ (s₁.setTop (mkF m 72 #[.val (.long q0), .second, .val (.long q1), .second, .val (.int p2), .val (.int p3), .val (.long va), .second, .val (.long vb), .second, .val (.long (va * vb)), .second, .val (.int (1 : Int32)), .unset, .unset] [(.long (va * vb))]))
        refine own_step (fun _ k => XS.goto X0.here hx rfl (pc0 := 72) (pc' := 78) rfl (hb hby at_72) (by decide) (by decide) k) ?_
        show own_Ends p.tables e below _ (s₁.setTop (mkF m 78 #[.val (.long q0), .second, .val (.long q1), .second, .val (.int p2), .val (.int p3), .val (.long va), .second, .val (.long vb), .second, .val (.long (va * vb)), .second, .val (.int (1 : Int32)), .unset, .unset] [(.long (va * vb))]))
        refine own_step (fun _ k => XS.lstore X0.here hx rfl (hb hby at_78) rfl (l' := #[.val (.long q0), .second, .val (.long q1), .second, .val (.int p2), .val (.int p3), .val (.long va), .second, .val (.long vb), .second, .val (.long (va * vb)), .second, .val (.int (1 : Int32)), .val (.long (va * vb)), .second]) rfl k) ?_
        show own_Ends p.tables e below _ (s₁.setTop (mkF m 80 #[.val (.long q0), .second, .val (.long q1), .second, .val (.int p2), .val (.int p3), .val (.long va), .second, .val (.long vb), .second, .val (.long (va * vb)), .second, .val (.int (1 : Int32)), .val (.long (va * vb)), .second] []))
        refine own_step (fun _ k => XS.lload X0.here hx rfl (hb hby at_80) rfl k) ?_
        show own_Ends p.tables e below _ (s₁.setTop (mkF m 82 #[.val (.long q0), .second, .val (.long q1), .second, .val (.int p2), .val (.int p3), .val (.long va), .second, .val (.long vb), .second, .val (.long (va * vb)), .second, .val (.int (1 : Int32)), .val (.long (va * vb)), .second] [(.long va)]))
        refine own_step (fun _ k => XS.lload X0.here hx rfl (hb hby at_82) rfl k) ?_
        show own_Ends p.tables e below _ (s₁.setTop (mkF m 84 #[.val (.long q0), .second, .val (.long q1), .second, .val (.int p2), .val (.int p3), .val (.long va), .second, .val (.long vb), .second, .val (.long (va * vb)), .second, .val (.int (1 : Int32)), .val (.long (va * vb)), .second] [(.long vb), (.long va)]))
        obtain ⟨_, _, ⟨T3, L3, k3, n3⟩, -, X3, ⟨Lc3, hQ3, l3, y3, z3⟩, st3⟩ := Jvm.LawKit.callS X0 hx (y := (⟨"com/example/escar/escar/schema/model/Particle", "times", "(JJ)J"⟩ : MethodName)) hown (mvT hZ (hw _ (List.mem_of_getElem? (i := 1) rfl))) (mvT hZ (hw _ (List.mem_of_getElem? (i := 2) rfl))) (mvT hZ (hw _ (List.mem_of_getElem? (i := 3) rfl))) (mvT hZ (hw _ (List.mem_of_getElem? (i := 4) rfl))) (by decide) (backOf (W := 0) (own_rm_times l Z a0 hw [] va vb h0 n0 Z0 ) hZ (hw _ (List.mem_of_getElem? (i := 4) rfl)) (hw _ (List.mem_of_getElem? (i := 3) rfl)) (by decide) (by decide)) (g := (mkF m 84 #[.val (.long q0), .second, .val (.long q1), .second, .val (.int p2), .val (.int p3), .val (.long va), .second, .val (.long vb), .second, .val (.long (va * vb)), .second, .val (.int (1 : Int32)), .val (.long (va * vb)), .second] [(.long vb), (.long va)])) rfl (by rw [hml]; rfl) (argsL := [(.long va), (.long vb)]) (rest := []) (lenOf own_pd0 rfl) rfl (by show 2 * 0 + _ ≤ _; exact Nat.le_of_eq rfl) (hb hby at_84) (fun _ _ => ⟨rfl, e0, (by decide : 0 + 0 ≤ _), (by decide : 0 + 0 ≤ _)⟩)
        dsimp only [Pt.U, Pt.locs, Pt.cells, Pt.slots] at X3 l3 y3 z3 st3 hQ3
        subst l3 y3 z3
        obtain ⟨rfl, N3q, e3⟩ := hQ3
        have N_3 := Fr.app N0 N3q
        refine own_step st3 ?_
        show own_Ends p.tables e below _ (T3.setTop (mkF m 87 #[.val (.long q0), .second, .val (.long q1), .second, .val (.int p2), .val (.int p3), .val (.long va), .second, .val (.long vb), .second, .val (.long (va * vb)), .second, .val (.int (1 : Int32)), .val (.long (va * vb)), .second] [(.long (own_times va vb))]))
        refine own_step (fun _ k => XS.lload X3.here hx rfl (hb hby at_87) rfl k) ?_
        show own_Ends p.tables e below _ (T3.setTop (mkF m 89 #[.val (.long q0), .second, .val (.long q1), .second, .val (.int p2), .val (.int p3), .val (.long va), .second, .val (.long vb), .second, .val (.long (va * vb)), .second, .val (.int (1 : Int32)), .val (.long (va * vb)), .second] [(.long (va * vb)), (.long (own_times va vb))]))
        refine own_step (fun _ k => XS.lcmp X3.here hx rfl (hb hby at_89) rfl k) ?_
        show own_Ends p.tables e below _ (T3.setTop (mkF m 90 #[.val (.long q0), .second, .val (.long q1), .second, .val (.int p2), .val (.int p3), .val (.long va), .second, .val (.long vb), .second, .val (.long (va * vb)), .second, .val (.int (1 : Int32)), .val (.long (va * vb)), .second] [(.int (lcmpW (own_times va vb) (va * vb)))]))
        refine own_step (fun _ k => XS.ifNo X3.here hx rfl (hb hby at_90) rfl ((if0 _ _).trans (teq ((own_lc_eq _ _).mpr (own_k3 va vb na nb hc37 hc44 hc55))).2) k) ?_
        show own_Ends p.tables e below _ (T3.setTop (mkF m 93 #[.val (.long q0), .second, .val (.long q1), .second, .val (.int p2), .val (.int p3), .val (.long va), .second, .val (.long vb), .second, .val (.long (va * vb)), .second, .val (.int (1 : Int32)), .val (.long (va * vb)), .second] []))
        refine own_step (fun _ k => XS.iconst X3.here hx rfl (hb hby at_93) k) ?_
        show own_Ends p.tables e below _ (T3.setTop (mkF m 94 #[.val (.long q0), .second, .val (.long q1), .second, .val (.int p2), .val (.int p3), .val (.long va), .second, .val (.long vb), .second, .val (.long (va * vb)), .second, .val (.int (1 : Int32)), .val (.long (va * vb)), .second] [(.int (1 : Int32))]))
        refine own_step (fun _ k => XS.goto X3.here hx rfl (pc0 := 94) (pc' := 98) rfl (hb hby at_94) (by decide) (by decide) k) ?_
        show own_Ends p.tables e below _ (T3.setTop (mkF m 98 #[.val (.long q0), .second, .val (.long q1), .second, .val (.int p2), .val (.int p3), .val (.long va), .second, .val (.long vb), .second, .val (.long (va * vb)), .second, .val (.int (1 : Int32)), .val (.long (va * vb)), .second] [(.int (1 : Int32))]))
        exact own_retN X3 hx hlk (by decide) (by decide) (t := .boolean) Bd.returns (by simp) (hb hby at_98) (by rw [e3]; exact ⟨rfl, N_3⟩)
      · refine own_step (fun _ k => XS.ifYes X0.here hx rfl (pc0 := 55) (pc' := 62) rfl (hb hby at_55) rfl ((if0 _ _).trans (feq (fun q => hc55 ((own_lc_eq _ _).mp q))).2) (by decide) (by decide) k) ?_
        show own_Ends p.tables e below _ (s₁.setTop (mkF m 62 #[.val (.long q0), .second, .val (.long q1), .second, .val (.int p2), .val (.int p3), .val (.long va), .second, .val (.long vb), .second, .val (.long (va * vb)), .second, .unset, .unset, .unset] []))
        refine own_step (fun _ k => XS.iconst X0.here hx rfl (hb hby at_62) k) ?_
        show own_Ends p.tables e below _ (s₁.setTop (mkF m 63 #[.val (.long q0), .second, .val (.long q1), .second, .val (.int p2), .val (.int p3), .val (.long va), .second, .val (.long vb), .second, .val (.long (va * vb)), .second, .unset, .unset, .unset] [(.int (0 : Int32))]))
        refine own_step (fun _ k => XS.istore X0.here hx rfl (hb hby at_63) rfl (l' := #[.val (.long q0), .second, .val (.long q1), .second, .val (.int p2), .val (.int p3), .val (.long va), .second, .val (.long vb), .second, .val (.long (va * vb)), .second, .val (.int (0 : Int32)), .unset, .unset]) rfl k) ?_
        show own_Ends p.tables e below _ (s₁.setTop (mkF m 65 #[.val (.long q0), .second, .val (.long q1), .second, .val (.int p2), .val (.int p3), .val (.long va), .second, .val (.long vb), .second, .val (.long (va * vb)), .second, .val (.int (0 : Int32)), .unset, .unset] []))
        refine own_step (fun _ k => XS.iload X0.here hx rfl (hb hby at_65) rfl k) ?_
        show own_Ends p.tables e below _ (s₁.setTop (mkF m 67 #[.val (.long q0), .second, .val (.long q1), .second, .val (.int p2), .val (.int p3), .val (.long va), .second, .val (.long vb), .second, .val (.long (va * vb)), .second, .val (.int (0 : Int32)), .unset, .unset] [(.int (0 : Int32))]))
        refine own_step (fun _ k => XS.ifYes X0.here hx rfl (pc0 := 67) (pc' := 75) rfl (hb hby at_67) rfl ((if0 _ _).trans (teq (by decide)).1) (by decide) (by decide) k) ?_
        show own_Ends p.tables e below _ (s₁.setTop (mkF m 75 #[.val (.long q0), .second, .val (.long q1), .second, .val (.int p2), .val (.int p3), .val (.long va), .second, .val (.long vb), .second, .val (.long (va * vb)), .second, .val (.int (0 : Int32)), .unset, .unset] []))
        refine own_step (fun _ k => X0.ldc2Long hx hown (mvT hZ (hw _ (List.mem_of_getElem? (i := 0) rfl))) (g := (mkF m 75 #[.val (.long q0), .second, .val (.long q1), .second, .val (.int p2), .val (.int p3), .val (.long va), .second, .val (.long vb), .second, .val (.long (va * vb)), .second, .val (.int (0 : Int32)), .unset, .unset] [])) rfl (hb hby at_75) _ k) ?_
        show own_Ends p.tables e below _ (s₁.setTop (mkF m 78 #[.val (.long q0), .second, .val (.long q1), .second, .val (.int p2), .val (.int p3), .val (.long va), .second, .val (.long vb), .second, .val (.long (va * vb)), .second, .val (.int (0 : Int32)), .unset, .unset] [(.long (9223372036854775807 : Int64))]))
        refine own_step (fun _ k => XS.lstore X0.here hx rfl (hb hby at_78) rfl (l' := #[.val (.long q0), .second, .val (.long q1), .second, .val (.int p2), .val (.int p3), .val (.long va), .second, .val (.long vb), .second, .val (.long (va * vb)), .second, .val (.int (0 : Int32)), .val (.long (9223372036854775807 : Int64)), .second]) rfl k) ?_
        show own_Ends p.tables e below _ (s₁.setTop (mkF m 80 #[.val (.long q0), .second, .val (.long q1), .second, .val (.int p2), .val (.int p3), .val (.long va), .second, .val (.long vb), .second, .val (.long (va * vb)), .second, .val (.int (0 : Int32)), .val (.long (9223372036854775807 : Int64)), .second] []))
        refine own_step (fun _ k => XS.lload X0.here hx rfl (hb hby at_80) rfl k) ?_
        show own_Ends p.tables e below _ (s₁.setTop (mkF m 82 #[.val (.long q0), .second, .val (.long q1), .second, .val (.int p2), .val (.int p3), .val (.long va), .second, .val (.long vb), .second, .val (.long (va * vb)), .second, .val (.int (0 : Int32)), .val (.long (9223372036854775807 : Int64)), .second] [(.long va)]))
        refine own_step (fun _ k => XS.lload X0.here hx rfl (hb hby at_82) rfl k) ?_
        show own_Ends p.tables e below _ (s₁.setTop (mkF m 84 #[.val (.long q0), .second, .val (.long q1), .second, .val (.int p2), .val (.int p3), .val (.long va), .second, .val (.long vb), .second, .val (.long (va * vb)), .second, .val (.int (0 : Int32)), .val (.long (9223372036854775807 : Int64)), .second] [(.long vb), (.long va)]))
        obtain ⟨_, _, ⟨T4, L4, k4, n4⟩, -, X4, ⟨Lc4, hQ4, l4, y4, z4⟩, st4⟩ := Jvm.LawKit.callS X0 hx (y := (⟨"com/example/escar/escar/schema/model/Particle", "times", "(JJ)J"⟩ : MethodName)) hown (mvT hZ (hw _ (List.mem_of_getElem? (i := 1) rfl))) (mvT hZ (hw _ (List.mem_of_getElem? (i := 2) rfl))) (mvT hZ (hw _ (List.mem_of_getElem? (i := 3) rfl))) (mvT hZ (hw _ (List.mem_of_getElem? (i := 4) rfl))) (by decide) (backOf (W := 0) (own_rm_times l Z a0 hw [] va vb h0 n0 Z0 ) hZ (hw _ (List.mem_of_getElem? (i := 4) rfl)) (hw _ (List.mem_of_getElem? (i := 3) rfl)) (by decide) (by decide)) (g := (mkF m 84 #[.val (.long q0), .second, .val (.long q1), .second, .val (.int p2), .val (.int p3), .val (.long va), .second, .val (.long vb), .second, .val (.long (va * vb)), .second, .val (.int (0 : Int32)), .val (.long (9223372036854775807 : Int64)), .second] [(.long vb), (.long va)])) rfl (by rw [hml]; rfl) (argsL := [(.long va), (.long vb)]) (rest := []) (lenOf own_pd0 rfl) rfl (by show 2 * 0 + _ ≤ _; exact Nat.le_of_eq rfl) (hb hby at_84) (fun _ _ => ⟨rfl, e0, (by decide : 0 + 0 ≤ _), (by decide : 0 + 0 ≤ _)⟩)
        dsimp only [Pt.U, Pt.locs, Pt.cells, Pt.slots] at X4 l4 y4 z4 st4 hQ4
        subst l4 y4 z4
        obtain ⟨rfl, N4q, e4⟩ := hQ4
        have N_4 := Fr.app N0 N4q
        refine own_step st4 ?_
        show own_Ends p.tables e below _ (T4.setTop (mkF m 87 #[.val (.long q0), .second, .val (.long q1), .second, .val (.int p2), .val (.int p3), .val (.long va), .second, .val (.long vb), .second, .val (.long (va * vb)), .second, .val (.int (0 : Int32)), .val (.long (9223372036854775807 : Int64)), .second] [(.long (own_times va vb))]))
        refine own_step (fun _ k => XS.lload X4.here hx rfl (hb hby at_87) rfl k) ?_
        show own_Ends p.tables e below _ (T4.setTop (mkF m 89 #[.val (.long q0), .second, .val (.long q1), .second, .val (.int p2), .val (.int p3), .val (.long va), .second, .val (.long vb), .second, .val (.long (va * vb)), .second, .val (.int (0 : Int32)), .val (.long (9223372036854775807 : Int64)), .second] [(.long (9223372036854775807 : Int64)), (.long (own_times va vb))]))
        refine own_step (fun _ k => XS.lcmp X4.here hx rfl (hb hby at_89) rfl k) ?_
        show own_Ends p.tables e below _ (T4.setTop (mkF m 90 #[.val (.long q0), .second, .val (.long q1), .second, .val (.int p2), .val (.int p3), .val (.long va), .second, .val (.long vb), .second, .val (.long (va * vb)), .second, .val (.int (0 : Int32)), .val (.long (9223372036854775807 : Int64)), .second] [(.int (lcmpW (own_times va vb) (9223372036854775807 : Int64)))]))
        refine own_step (fun _ k => XS.ifNo X4.here hx rfl (hb hby at_90) rfl ((if0 _ _).trans (teq ((own_lc_eq _ _).mpr (own_k4 va vb na nb hc37 hc44 hc55))).2) k) ?_
        show own_Ends p.tables e below _ (T4.setTop (mkF m 93 #[.val (.long q0), .second, .val (.long q1), .second, .val (.int p2), .val (.int p3), .val (.long va), .second, .val (.long vb), .second, .val (.long (va * vb)), .second, .val (.int (0 : Int32)), .val (.long (9223372036854775807 : Int64)), .second] []))
        refine own_step (fun _ k => XS.iconst X4.here hx rfl (hb hby at_93) k) ?_
        show own_Ends p.tables e below _ (T4.setTop (mkF m 94 #[.val (.long q0), .second, .val (.long q1), .second, .val (.int p2), .val (.int p3), .val (.long va), .second, .val (.long vb), .second, .val (.long (va * vb)), .second, .val (.int (0 : Int32)), .val (.long (9223372036854775807 : Int64)), .second] [(.int (1 : Int32))]))
        refine own_step (fun _ k => XS.goto X4.here hx rfl (pc0 := 94) (pc' := 98) rfl (hb hby at_94) (by decide) (by decide) k) ?_
        show own_Ends p.tables e below _ (T4.setTop (mkF m 98 #[.val (.long q0), .second, .val (.long q1), .second, .val (.int p2), .val (.int p3), .val (.long va), .second, .val (.long vb), .second, .val (.long (va * vb)), .second, .val (.int (0 : Int32)), .val (.long (9223372036854775807 : Int64)), .second] [(.int (1 : Int32))]))
        exact own_retN X4 hx hlk (by decide) (by decide) (t := .boolean) Bd.returns (by simp) (hb hby at_98) (by rw [e4]; exact ⟨rfl, N_4⟩)
set_option maxRecDepth 65536 in
set_option maxHeartbeats 40000000 in
theorem own_comes_1 {Post : Tables → Env → Array Value → State → Outcome → State → Prop} (hpost : ∀ tb e args s v u, (limb_1_1.after args s (.returned v) u = true ∧ limb_1_2.after args s (.returned v) u = true ∧ True) → FrameEnd s (.returned v) u (Jvm.fieldLocs frame_1_writes args s ++ Jvm.arrayLocs frame_1_arrays args s ++ Jvm.staticLocs frame_1_statics s) 0 0 → Post tb e args s (.returned v) u) :
    ArmFor flags0 classFile x code maxLocals ret World_1 tables_1 room_1 Calls_1 rest_1 Pre_1 Post := by
  intro l hfl _ _ p e ha hc hk s m args below hf hA hF happ hP
  obtain ⟨hcalls, hrest, hpre⟩ := hP
  obtain ⟨-, -, -, hnamed, -, -, -, hat⟩ := (Spec.applies_iff hf).mp happ
  obtain ⟨hg, hn⟩ := and_e (Cond.before_iff.mp (show (Jvm.Cond.and given_1 narrow_1).before args s = true from hpre))
  obtain ⟨g0, r0⟩ := and_e hg
  obtain ⟨g1, r1⟩ := and_e r0
  obtain ⟨g2, r2⟩ := and_e r1
  obtain ⟨g3, r3⟩ := and_e r2
  obtain ⟨w0, w1, w2, w3, rfl⟩ : ∃ w0 w1 w2 w3 : Value, args = #[w0, w1, w2, w3] := by
    have hs : args.size = 4 := by simpa [Cond.value, given_1] using g0
    obtain ⟨L⟩ := args
    match L, hs with
    | [w0, w1, w2, w3], _ => exact ⟨w0, w1, w2, w3, rfl⟩
  have hw := fun d (hd : d ∈ tables_1) => atoms_spec (ws := Jvm.Cond.code x code maxLocals ret :: tables_1) hat d (List.mem_cons_of_mem _ hd)
  have hfit : Fit s := fun {y c} hc i hi => by
    obtain ⟨ha, rfl⟩ := Array.getElem?_eq_some_iff.mp hc
    have q := List.all_eq_true.mp ((Array.all_eq_true_iff_forall_mem.mp hF) _ (Array.getElem_mem ha)) i (List.mem_range.mpr hi)
    simpa [Array.getElem?_eq_getElem hi] using q
  obtain ⟨i0, ei0⟩ := isL_v g1
  obtain rfl : w0 = (.long i0) := Option.some.inj ei0
  obtain ⟨i1, ei1⟩ := isL_v g2
  obtain rfl : w1 = (.long i1) := Option.some.inj ei1
  obtain ⟨i2, ei2⟩ := is_v g3
  obtain rfl : w2 = (.int i2) := Option.some.inj ei2
  obtain ⟨i3, ei3⟩ := is_v r3
  obtain rfl : w3 = (.int i3) := Option.some.inj ei3
  obtain ⟨n, o, h1, h2, h3, _, L, rfl, ⟨rfl, N⟩, hq⟩ := own_rm_law l s _ hw tables_1 i0 i1 i2 i3  s.heap s.heap.size (Nat.le_refl _)  p e ha hc hk s m _ below hf ((Spec.applies_iff_loose hf).mp happ).1 ⟨rfl, State.Warmed39.refl s, rfl⟩ trivial
  refine ⟨n, _, h1, h2, h3, hpost _ _ _ _ _ _ ⟨Cond.after_iff.mpr rfl, Cond.after_iff.mpr (eq_i res_at (Term.int_eval (1)) rfl), trivial⟩ ⟨hq.1, hq.2.1, (hq.2.2.sift fun y hy => Or.inr (N y hy)).mono (by decide) (by decide)⟩⟩
theorem main_1_1 : Claimed_1_1 := own_comes_1 fun _ _ _ _ _ _ h hF => ⟨h.1, hF⟩
theorem main_1_2 : Claimed_1_2 := own_comes_1 fun _ _ _ _ _ _ h hF => ⟨h.2.1, hF⟩
end Jvm.Pilot.@@N@@
namespace Jvm.Pilot.@@N@@
open Jvm Jvm.ClassFile Sem Op Lib Jvm.Free Jvm.Stand Jvm.Pilot.@@N@@.Jvm.D
/-! MADE BY PROGRAM (witnessworld.py) out of the Statement's table words and the real class files: 10 classes; the members and pool entries that the words name. The judged class is class 1, her method 1. -/
namespace start1
open Jvm.ClassFile
def u (s : String) : CpInfo := .utf8 (stringToUtf16 s)
/-- a pool by its gaps: so many unusable entries, then the entry; so many at the end -/
def gap : Nat → List CpInfo → List CpInfo
  | 0, r => r
  | n + 1, r => .unusable :: gap n r
def poolList (es : List (Nat × CpInfo)) (last : Nat) : List CpInfo := es.foldr (fun e r => gap e.1 (e.2 :: r)) (gap last [])
def pool (es : List (Nat × CpInfo)) (last : Nat) : Array CpInfo := ⟨poolList es last⟩
def fileOf (pool : Array CpInfo) (this : Nat) (attrs : Array Attribute := #[]) (ms : Array MethodInfo := #[]) (fl : Nat := 33) (sup : Nat := 0) (ifs : Array Nat := #[]) (fds : Array FieldInfo := #[]) : ClassFile where
  minorVersion := 0
  majorVersion := 65
  constantPool := pool
  accessFlags := fl
  thisClass := this
  superClass := sup
  interfaces := ifs
  fields := fds
  methods := ms
  attributes := attrs
def plain (name : String) (sup : Option ClassId) : Class where
  name := name
  kind := .ordinary
  loader := none
  accessFlags := 33
  super := sup
  interfaces := #[]
  cf := none
  fields := #[]
  methods := #[]
  instanceTypes := #[]
  staticTypes := #[]
  resolved := #[]
  callSites := []
  init := .initialized
  statics := none
  mirror := none

def pool0 : Array CpInfo := pool [(5, u "<init>"), (0, u "()V"), (1, .class_ 10), (1, u "java/lang/Object")] 113

def k0m0 : Method := { name := "<init>", desc := "()V", sig := { parameters := [], returnType := none }, accessFlags := 1, code := none }
/-- java/lang/Object -/
def k0 : Class := { plain "java/lang/Object" none with
  accessFlags := 33
  interfaces := #[]
  cf := some (fileOf pool0 8 #[] #[{ accessFlags := 1, nameIndex := 5, descriptorIndex := 6, attributes := #[] }] 33 0 #[] #[])
  fields := #[]
  methods := #[k0m0]
  instanceTypes := #[]
  staticTypes := #[]
  resolved := Array.replicate 124 none
  statics := none }

def pool1 : Array CpInfo := pool [(2, .class_ 4), (1, u "java/lang/Object"), (0, u "<init>"), (0, u "()V"), (2, .long 9223372036854775807), (1, .methodref 12 13), (0, .class_ 14), (0, .nameAndType 15 16), (0, u "com/example/escar/escar/schema/model/Particle"), (0, u "times"), (0, u "(JJ)J"), (0, .class_ 18), (0, u "com/example/escar/escar/schema/model/ParticleTimesPinLaw"), (2, u "law"), (0, u "(JJII)Z")] 3

def k1m0 : Method := { name := "<init>", desc := "()V", sig := { parameters := [], returnType := none }, accessFlags := 2, code := none }
def k1c1 : Code := { maxStack := 4, maxLocals := 15, code := code, exceptionTable := #[], attributes := #[] }
def k1m1 : Method := { name := "law", desc := "(JJII)Z", sig := { parameters := [.long, .long, .int, .int], returnType := some .boolean }, accessFlags := 9, code := some k1c1 }
/-- com/example/escar/escar/schema/model/ParticleTimesPinLaw -/
def k1 : Class := { plain "com/example/escar/escar/schema/model/ParticleTimesPinLaw" (some 0) with
  accessFlags := 49
  interfaces := #[]
  cf := some (fileOf pool1 17 #[] #[{ accessFlags := 2, nameIndex := 5, descriptorIndex := 6, attributes := #[] }, { accessFlags := 9, nameIndex := 21, descriptorIndex := 22, attributes := #[] }] 49 2 #[] #[])
  fields := #[]
  methods := #[k1m0, k1m1]
  instanceTypes := #[]
  staticTypes := #[]
  resolved := Array.replicate 26 none
  statics := none }

def pool2 : Array CpInfo := pool [(2, .class_ 4), (1, u "java/lang/Object"), (0, u "<init>"), (0, u "()V"), (0, .class_ 8), (0, u "java/lang/Record")] 13

def k2m0 : Method := { name := "<init>", desc := "()V", sig := { parameters := [], returnType := none }, accessFlags := 4, code := none }
/-- java/lang/Record -/
def k2 : Class := { plain "java/lang/Record" (some 0) with
  accessFlags := 1057
  interfaces := #[]
  cf := some (fileOf pool2 7 #[] #[{ accessFlags := 4, nameIndex := 5, descriptorIndex := 6, attributes := #[] }] 1057 2 #[] #[])
  fields := #[]
  methods := #[k2m0]
  instanceTypes := #[]
  staticTypes := #[]
  resolved := Array.replicate 22 none
  statics := none }

def pool3 : Array CpInfo := pool [(4, .class_ 6), (1, u "java/lang/Record"), (12, u "term"), (7, .class_ 29), (1, u "com/example/escar/escar/schema/model/Particle"), (0, u "minOccurs"), (0, u "J"), (2, u "maxOccurs"), (2, u "Lcom/example/escar/escar/schema/model/Term;"), (0, .long 9223372036854775807), (13, u "UNBOUNDED"), (8, u "times"), (0, u "(JJ)J")] 35

def k3c0 : Code := { maxStack := 6, maxLocals := 4, code := prog_105_method_2_code, exceptionTable := #[], attributes := #[] }
def k3m0 : Method := { name := "times", desc := "(JJ)J", sig := { parameters := [.long, .long], returnType := some .long }, accessFlags := 8, code := some k3c0 }
/-- com/example/escar/escar/schema/model/Particle -/
def k3 : Class := { plain "com/example/escar/escar/schema/model/Particle" (some 2) with
  accessFlags := 49
  interfaces := #[]
  cf := some (fileOf pool3 27 #[] #[{ accessFlags := 8, nameIndex := 61, descriptorIndex := 62, attributes := #[] }] 49 4 #[] #[{ accessFlags := 18, nameIndex := 30, descriptorIndex := 31, attributes := #[] }, { accessFlags := 18, nameIndex := 34, descriptorIndex := 31, attributes := #[] }, { accessFlags := 18, nameIndex := 19, descriptorIndex := 37, attributes := #[] }, { accessFlags := 25, nameIndex := 52, descriptorIndex := 31, attributes := #[] }])
  fields := #[{ name := "minOccurs", type := .long, accessFlags := 18, slot := 0, constantValue := 0 }, { name := "maxOccurs", type := .long, accessFlags := 18, slot := 1, constantValue := 0 }, { name := "term", type := (.object "com/example/escar/escar/schema/model/Term"), accessFlags := 18, slot := 2, constantValue := 0 }, { name := "UNBOUNDED", type := .long, accessFlags := 25, slot := 0, constantValue := 0 }]
  methods := #[k3m0]
  instanceTypes := #[.long, .long, (.object "com/example/escar/escar/schema/model/Term")]
  staticTypes := #[.long]
  resolved := Array.replicate 98 none
  statics := none }

def pool4 : Array CpInfo := pool [(1, u "java/lang/Cloneable"), (0, .class_ 1), (0, u "java/lang/Object"), (0, .class_ 3)] 3

/-- java/lang/Cloneable -/
def k4 : Class := { plain "java/lang/Cloneable" (some 0) with
  accessFlags := 1537
  interfaces := #[]
  cf := some (fileOf pool4 2 #[] #[] 1537 4 #[] #[])
  fields := #[]
  methods := #[]
  instanceTypes := #[]
  staticTypes := #[]
  resolved := Array.replicate 8 none
  statics := none }

def pool5 : Array CpInfo := pool [(1, u "java/io/Serializable"), (0, .class_ 1), (0, u "java/lang/Object"), (0, .class_ 3)] 3

/-- java/io/Serializable -/
def k5 : Class := { plain "java/io/Serializable" (some 0) with
  accessFlags := 1537
  interfaces := #[]
  cf := some (fileOf pool5 2 #[] #[] 1537 4 #[] #[])
  fields := #[]
  methods := #[]
  instanceTypes := #[]
  staticTypes := #[]
  resolved := Array.replicate 8 none
  statics := none }

/-- the primitive byte -/
def k6 : Class := { plain "byte" none with kind := .primitive 'B', accessFlags := 0x411 }
/-- [B -/
def k7 : Class := { plain "[B" (some 0) with kind := .array 6 .byte, interfaces := #[4, 5], accessFlags := 1041 }

/-- the primitive int -/
def k8 : Class := { plain "int" none with kind := .primitive 'I', accessFlags := 0x411 }
/-- [I -/
def k9 : Class := { plain "[I" (some 0) with kind := .array 8 .int, interfaces := #[4, 5], accessFlags := 1041 }

def heap : Heap := #[]
def classes : Array Class := #[k0, k1, k2, k3, k4, k5, k6, k7, k8, k9]
def interned : List (Array UInt16 × Addr) := []
def slotsUsed : Nat := 0
def theMethod : MethodId := ⟨1, 1⟩
def args0 : Array Value := #[.long 5, .long 7, .int 3, .int 1]
def aboutOver (below : List Frame) : State where
  vm := { classes := classes, interned := interned.toArray }
  heap := heap
  slotsUsed := slotsUsed
  threads := #[{ frames := .invoking theMethod args0 :: below }]
def below0 : List Frame := [.native { method := ⟨0, 0⟩, args := #[] }]
def about1 : State := aboutOver below0
def p0 : Program := .bare "" "" ""
def e0 : Env := launch0.env 0 0 0
theorem w_frames : about1.frames = Frame.invoking theMethod args0 :: below0 := rfl
set_option maxRecDepth 65536 in
theorem w_args : argsFit about1.vm theMethod args0 = true := by decide +kernel
set_option maxRecDepth 65536 in
theorem w_heap : heapFits about1 = true := by decide +kernel
set_option maxRecDepth 65536 in
theorem w_runnable : about1.curStatus? = some .runnable := by decide +kernel
set_option maxRecDepth 65536 in
theorem w_alone : about1.alone = true := by decide +kernel
set_option maxRecDepth 65536 in
theorem w_named : about1.methodNamed? x = some theMethod := by decide +kernel
set_option maxRecDepth 65536 in
theorem w_hears : about1.hears theMethod below0 = true := by decide +kernel
set_option maxRecDepth 65536 in
theorem w_ripe : about1.ripe theMethod args0 below0 = true := by decide +kernel
theorem w_running : about1.status = .running := rfl
set_option maxRecDepth 65536 in
theorem w_room : about1.hasRoom e0.platform room_1 = true :=
  launch0.hasRoom_least _ room_1 (by decide +kernel) (by decide +kernel) (by decide +kernel) (by decide +kernel) (by decide +kernel) (by decide +kernel)
theorem allAtoms_all (ts : List Jvm.Cond) (a : Array Jvm.Value) (st : Jvm.State) : (allAtoms ts).before a st = ts.all (fun c => c.before a st) := by
  induction ts with
  | nil => rfl
  | cons c t ih =>
    show (Jvm.Cond.and c (allAtoms t)).before a st = _
    rw [Jvm.Cond.before_and, ih, List.all_cons]
def words1 : List Jvm.Cond := Jvm.Cond.code x code maxLocals ret :: tables_1
/-- a 'code' word, met by the world's own term for the bytes: nothing is compared byte by byte -/
theorem code_word {y : MethodName} {bytes : ByteArray} {mx : Nat} {rt : Option FieldType} {a : Array Value} {s : State} {m : MethodId} {meth : Method} {c : Code} (h1 : s.methodNamed? y = some m) (h2 : s.vm.method? m = some meth) (h3 : meth.code = some c) (h4 : c.code = bytes)
    (h5 : (c.maxLocals == mx && c.exceptionTable.isEmpty && decide (c.maxStack ≤ mostOperands) && decide (meth.sig.returnType = rt) && !meth.locks && decide (parseMethodDescriptor y.desc = some meth.sig)) = true) : (Jvm.Cond.code y bytes mx rt).before a s = true := by
  simp only [Bool.and_eq_true, beq_iff_eq, Bool.not_eq_true', decide_eq_true_eq] at h5
  obtain ⟨⟨⟨⟨⟨g1, g2⟩, g3⟩, g4⟩, g5⟩, g6⟩ := h5
  simp [Cond.before, Cond.holds, Cond.value, h1, h2, h3, h4, g1, g2, g3, g4, g5, g6]
def isCode : Jvm.Cond → Bool
  | .code _ _ _ _ => true
  | _ => false
theorem all_split {L : List Jvm.Cond} {P : Jvm.Cond → Bool} (h1 : L.all (fun c => isCode c || P c) = true) (h2 : ∀ c ∈ L.filter isCode, P c = true) : L.all P = true := by
  refine List.all_eq_true.mpr fun c hc => ?_
  have h := List.all_eq_true.mp h1 c hc
  rcases Bool.eq_false_or_eq_true (isCode c) with hi | hi
  · exact h2 c (List.mem_filter.mpr ⟨hc, hi⟩)
  · simpa [hi] using h
set_option maxRecDepth 65536 in
theorem w_c0 : (Jvm.Cond.code x code maxLocals ret).before args0 about1 = true := code_word (m := ⟨1, 1⟩) (meth := k1m1) (c := k1c1) (by decide +kernel) rfl rfl rfl (by decide +kernel)
set_option maxRecDepth 65536 in
theorem w_c1 : (Jvm.Cond.code ({ cls := "com/example/escar/escar/schema/model/Particle", name := "times", desc := "(JJ)J" } : Jvm.MethodName) prog_105_method_2_code (4 : Nat) (Option.some Jvm.ClassFile.FieldType.long)).before args0 about1 = true := code_word (m := ⟨3, 0⟩) (meth := k3m0) (c := k3c0) (by decide +kernel) rfl rfl rfl (by decide +kernel)
def codes1 : List Jvm.Cond := [Jvm.Cond.code x code maxLocals ret, Jvm.Cond.code ({ cls := "com/example/escar/escar/schema/model/Particle", name := "times", desc := "(JJ)J" } : Jvm.MethodName) prog_105_method_2_code (4 : Nat) (Option.some Jvm.ClassFile.FieldType.long)]
set_option maxRecDepth 65536 in
theorem codes_eq : words1.filter isCode = codes1 := rfl
theorem w_codes : ∀ c ∈ words1.filter isCode, c.before args0 about1 = true := by
  rw [codes_eq]
  intro c hc
  simp only [codes1, List.mem_cons, List.not_mem_nil, or_false] at hc
  rcases hc with rfl | rfl
  · exact w_c0
  · exact w_c1
set_option maxRecDepth 65536 in
theorem w_t1 : words1.all (fun c => isCode c || c.before args0 about1) = true := by decide +kernel
theorem w_tables : (allAtoms (Jvm.Cond.code x code maxLocals ret :: tables_1)).before args0 about1 = true := by
  rw [allAtoms_all]
  show words1.all (fun c => c.before args0 about1) = true
  refine all_split ?_ w_codes
  rw [w_t1]
set_option maxRecDepth 65536 in
theorem w_case : (Jvm.Cond.and given_1 narrow_1).before args0 about1 = true := by decide +kernel
theorem w_applies : (headSpec (Jvm.Cond.code x code maxLocals ret :: tables_1) room_1).applies x e0.platform about1 = true :=
  (Spec.applies_iff w_frames).mpr ⟨w_running, w_runnable, w_alone, w_named, w_hears, w_ripe, w_room, w_tables⟩
theorem atStart : AtStart classFile x code maxLocals ret World_1 tables_1 room_1 Calls_1 rest_1 Pre_1 launch0 p0 e0 about1 theMethod args0 below0 :=
  ⟨lists_1, trivial, launch0.admits_env _ _ _, launch0.least_env, fairChoices_fair.cas, fairChoices_fair.clock, w_frames, w_args, w_heap, w_applies, trivial, trivial, w_case⟩
end start1
theorem witness_1 : WitnessClaimed_1 := ⟨start1.p0, start1.e0, start1.about1, start1.theMethod, start1.args0, start1.below0, start1.atStart⟩
end Jvm.Pilot.@@N@@
