import JvmDerived
import JvmDerived.Pilot.@@N@@Statement
import JvmDerived.Pilot.@@N@@Code
set_option linter.unusedVariables false
set_option linter.unusedSimpArgs false
namespace Jvm.RoadKit
open Sem ClassFile Op Lib Jvm.Stand Jvm.Free Jvm.LawKit
section Own
variable {p : Program} {l : Launch} {e : Env} {R : Room} {s : State} {m : MethodId} {args : Array Value} {below : List Frame} {meth : Method} {c : Code} {T : State} {locs : List Loc} {cells slots : Nat}
theorem retI (X : Stand p l e R s m args below meth c T locs cells slots) (hx : p.tables.exec = Jvm.exec) {pc : Nat} {Ls : Array Slot} {z : Int32} {rest : List Value} (hret : meth.sig.returnType = some .int) (hd : decode c.code pc = .ok (.ireturn, 1)) {fs : List Frame}
    (hl : ∀ (f : JFrame) (acts : List Action), f.method = m → f.locked = none → f.entered = [] → (doReturn e (T.setTop f) acts (some (.int z))).1 = T.setFrames fs) : Steps p.tables e below (T.setTop (mkF m pc Ls (.int z :: rest))) (T.setFrames fs) := by
  have hm' : T.vm.method? m = some meth := X.method'
  have hn : narrow .int (.int z) = .int z := rfl
  show Steps p.tables e below (T.setTop { method := m, pc := pc, locals := Ls, stack := _ :: rest, locked := none }) _
  jvm_step X.here [X.here.top, hx, hd, hm', hret, hn]
  first | (intro acts; rw [hl _ acts rfl rfl rfl]) | rw [hl _ _ rfl rfl rfl]
  exact Steps.refl _
/-- from U the run comes to an end of which Qo holds -/
def own_Ends (tb : Tables) (e : Env) (below : List Frame) (Qo : Outcome → State → Prop) (U : State) : Prop := ∃ s₂ o, Steps tb e below U s₂ ∧ s₂.status = .running ∧ Ended s₂ below o ∧ Qo o s₂
def own_Q (s : State) (Q : Option Value → Heap → List Loc → Prop) (A B : Nat) : Outcome → State → Prop := fun o U' => ∃ v L, o = .returned v ∧ Q v U'.heap L ∧ FrameEnd s o U' L A B
theorem own_step {tb : Tables} {e : Env} {below : List Frame} {Qo : Outcome → State → Prop} {U V : State} (k : ∀ t, Steps tb e below V t → Steps tb e below U t) (h : own_Ends tb e below Qo V) : own_Ends tb e below Qo U := by
  obtain ⟨s₂, o, h1, h2⟩ := h; exact ⟨s₂, o, k _ h1, h2⟩
variable {Q : Option Value → Heap → List Loc → Prop} {A B : Nat}
theorem own_leave (X : Stand p l e R s m args below meth c T locs cells slots) (hlk : meth.locks = false) {v : Option Value} (hv : meth.sig.returnType = none → v = none) (ha : cells ≤ A) (hb : slots ≤ B) (hQ : Q v T.heap locs) {g : JFrame}
    (k : ∀ fs, (∀ (f : JFrame) (acts : List Action), f.method = m → f.locked = none → f.entered = [] → (doReturn e (T.setTop f) acts v).1 = T.setFrames fs) → Steps p.tables e below (T.setTop g) (T.setFrames fs)) : own_Ends p.tables e below (own_Q s Q A B) (T.setTop g) := by
  obtain ⟨fs, hr, hrun, hended, hW, hsame⟩ := X.leave (v := v) hv hlk
  exact ⟨_, _, k fs hr, hrun, hended, _, _, rfl, (show Q v T.heap locs from hQ), ⟨_, rfl⟩, hW, hsame.mono ha hb⟩
theorem own_retN (X : Stand p l e R s m args below meth c T locs cells slots) (hx : p.tables.exec = Jvm.exec) (hlk : meth.locks = false) (ha : cells ≤ A) (hb : slots ≤ B) {pc : Nat} {Ls : Array Slot} {z : Int32} {t : FieldType} {rest : List Value} (hret : meth.sig.returnType = some t) (ht : t = .boolean ∨ t = .byte ∨ t = .char ∨ t = .short)
    (hd : decode c.code pc = .ok (.ireturn, 1)) (hQ : Q (some (.int (nar t z))) T.heap locs) : own_Ends p.tables e below (own_Q s Q A B) (T.setTop (mkF m pc Ls (.int z :: rest))) :=
  own_leave X hlk (fun h => by rw [hret] at h; cases h) ha hb hQ fun fs hr => retN X hx hret ht hd hr
theorem own_retI (X : Stand p l e R s m args below meth c T locs cells slots) (hx : p.tables.exec = Jvm.exec) (hlk : meth.locks = false) (ha : cells ≤ A) (hb : slots ≤ B) {pc : Nat} {Ls : Array Slot} {z : Int32} {rest : List Value} (hret : meth.sig.returnType = some .int)
    (hd : decode c.code pc = .ok (.ireturn, 1)) (hQ : Q (some (.int z)) T.heap locs) : own_Ends p.tables e below (own_Q s Q A B) (T.setTop (mkF m pc Ls (.int z :: rest))) :=
  own_leave X hlk (fun h => by rw [hret] at h; cases h) ha hb hQ fun fs hr => retI X hx hret hd hr
theorem own_retJ (X : Stand p l e R s m args below meth c T locs cells slots) (hx : p.tables.exec = Jvm.exec) (hlk : meth.locks = false) (ha : cells ≤ A) (hb : slots ≤ B) {pc : Nat} {Ls : Array Slot} {z : Int64} {rest : List Value} (hret : meth.sig.returnType = some .long)
    (hd : decode c.code pc = .ok (.lreturn, 1)) (hQ : Q (some (.long z)) T.heap locs) : own_Ends p.tables e below (own_Q s Q A B) (T.setTop (mkF m pc Ls (.long z :: rest))) :=
  own_leave X hlk (fun h => by rw [hret] at h; cases h) ha hb hQ fun fs hr => by
    have hm' : T.vm.method? m = some meth := X.method'
    show Steps p.tables e below (T.setTop { method := m, pc := pc, locals := Ls, stack := _ :: rest, locked := none }) _
    jvm_step X.here [X.here.top, hx, hd, hm', hret, narrow]
    first | (intro acts; rw [hr _ acts rfl rfl rfl]) | rw [hr _ _ rfl rfl rfl]
    exact Steps.refl _
theorem own_retA (X : Stand p l e R s m args below meth c T locs cells slots) (hx : p.tables.exec = Jvm.exec) (hlk : meth.locks = false) (ha : cells ≤ A) (hb : slots ≤ B) {pc : Nat} {Ls : Array Slot} {z : Value} {t : FieldType} {rest : List Value} (hret : meth.sig.returnType = some t) (ht : t.isReference = true) (hz : z.isRef = true)
    (hd : decode c.code pc = .ok (.areturn, 1)) (hQ : Q (some z) T.heap locs) : own_Ends p.tables e below (own_Q s Q A B) (T.setTop (mkF m pc Ls (z :: rest))) :=
  own_leave X hlk (fun h => by rw [hret] at h; cases h) ha hb hQ fun fs hr => by
    have hm' : T.vm.method? m = some meth := X.method'
    show Steps p.tables e below (T.setTop { method := m, pc := pc, locals := Ls, stack := _ :: rest, locked := none }) _
    jvm_step X.here [X.here.top, hx, hd, hm', hret, ht, hz]
    first | (intro acts; rw [hr _ acts rfl rfl rfl]) | rw [hr _ _ rfl rfl rfl]
    exact Steps.refl _
theorem own_ret0 (X : Stand p l e R s m args below meth c T locs cells slots) (hx : p.tables.exec = Jvm.exec) (hlk : meth.locks = false) (ha : cells ≤ A) (hb : slots ≤ B) {pc : Nat} {Ls : Array Slot} (hret : meth.sig.returnType = none)
    (hd : decode c.code pc = .ok (.return_, 1)) (hQ : Q none T.heap locs) : own_Ends p.tables e below (own_Q s Q A B) (T.setTop (mkF m pc Ls [])) :=
  own_leave X hlk (fun _ => rfl) ha hb hQ fun fs hr => X.returnOut hx hret hd hr
theorem own_sel_priv {s : State} {args : Array Value} {n : Nat} {y : MethodName} (hy : y.cls ≠ "java/lang/invoke/MethodHandle" ∧ y.cls ≠ "java/lang/invoke/VarHandle") (hins : (Cond.instantiable y.cls n).before args s = true) (hpriv : (Cond.privateMethod y).before args s = true) (hinst : (Cond.instanceMethod y).before args s = true) :
    (Cond.selects y.cls y y).before args s = true := by
  obtain ⟨c, k, hc, hk, -, hniab, -, -⟩ := Cond.instantiable_spec hins
  have hni : k.isInterface = false := (Bool.or_eq_false_iff.mp hniab).1
  obtain ⟨mk, methM, hnamed, hmethM, -, -⟩ := Cond.instanceMethod_spec hinst
  have hfound : s.methodFound? y.cls y.name y.desc = some mk := State.methodFound?_of_named hnamed hy
  have hcls : mk.cls = c := Option.some.inj ((findClass_of_methodNamed hnamed).symm.trans hc)
  have hsel : selectMethod {} s.vm c mk = .method mk := selectMethod_private hmethM (Cond.privateMethod_at hpriv mk methM hnamed hmethM)
  simp only [Cond.before, Cond.holds, Cond.value, hc, hfound, hnamed, hsel, hcls, hk]
  simp; exact hni
theorem own_pop2J (X : Stand p l e R s m args below meth c T locs cells slots) (hx : p.tables.exec = Jvm.exec) {pc : Nat} {Ls : Array Slot} {z : Int64} {rest : List Value} (hd : decode c.code pc = .ok (.pop2, 1)) {target : State}
    (hr : Steps p.tables e below (T.setTop (mkF m (pc + 1) Ls rest)) target) : Steps p.tables e below (T.setTop (mkF m pc Ls (.long z :: rest))) target := by
  show Steps p.tables e below (T.setTop { method := m, pc := pc, locals := Ls, stack := _ :: rest, locked := none }) _
  jvm_step X.here [X.here.top, hx, hd, Value.category]
  exact hr
def own_NS (h : Heap) (x : Addr) : Prop := ∃ c : Cell, h[x]? = some c ∧ c.vm.isStatics = false
theorem own_ns_exa {Z : State} {h : Heap} {a : Addr} {C : String} (F : Exa Z h a C) : own_NS h a := by obtain ⟨c, k, h1, h2, h3, h4, h5⟩ := F; exact ⟨c, h1, h4⟩
theorem own_ns_arv {Z : State} {h : Heap} {a : Addr} {k : ClassId} {ty : FieldType} {z : Int32} {vs : List Value} {d : Value} (F : Arv Z h a k ty z vs d) : own_NS h a := by obtain ⟨c, A, -⟩ := F; exact ⟨c, A.1, A.plain⟩
theorem own_Sta_keep {Z : State} {h h' : Heap} {ws : List Addr} {C n d : String} {v : Value} (F : Sta Z h C n d v) (K : Keep h h' ws) (q : ∀ x ∈ ws, own_NS h x) : Sta Z h' C n d v := by
  obtain ⟨cf, i, k, f, st, cell, h1, h2, h3, h4, h5, h6, h7⟩ := F
  refine ⟨cf, i, k, f, st, cell, h1, h2, h3, h4, K.2.1 st cell h5 fun m => ?_, h6, h7⟩
  obtain ⟨c, e1, e2⟩ := q st m
  rw [h5] at e1; cases e1; rw [h6] at e2; cases e2
theorem own_lc_lt (x y : Int64) : lcmpW x y < 0 ↔ x < y := by rw [lcW]; exact lc_lt x y
theorem own_lc_gt (x y : Int64) : 0 < lcmpW x y ↔ y < x := by rw [lcW]; exact lc_gt x y
theorem own_lc_eq (x y : Int64) : lcmpW x y = 0 ↔ x = y := by rw [lcW]; exact lc_eq x y
end Own
end Jvm.RoadKit
namespace Jvm.Pilot.@@N@@
open Jvm Jvm.ClassFile Sem Op Lib Jvm.Free Jvm.Stand Jvm.LawKit Jvm.RoadKit Bundle Jvm.Pilot.@@N@@.Jvm.D
def own_maxI (a b : Int32) : Int32 := if a < b then b else a
def own_minI (a b : Int32) : Int32 := if b < a then b else a
def own_lists (p t : Int32) : Int32 := if t < p then 0 else 1
theorem own_10 : ¬ (1 : Int32) = 0 := by decide
theorem own_l0 (t : Int32) : ¬ own_lists t t = 0 := by
  unfold own_lists; rw [if_neg (by rw [Int32.lt_iff_toInt_lt]; omega)]; exact own_10
theorem own_l1 (t : Int32) (h : ¬ t = 2147483647) : own_lists (t + 1) t = 0 := by
  unfold own_lists; rw [if_pos]
  rw [Int32.lt_iff_toInt_lt, Int32.toInt_add]
  have h1 := t.toInt_lt; have h2 := t.le_toInt
  have h3 : t.toInt ≠ 2147483647 := fun q => h (Int32.toInt_inj.mp (q.trans rfl))
  have e : (1 : Int32).toInt = 1 := rfl
  rw [e, Int.bmod_eq_of_le (by omega) (by omega)]; omega
theorem own_l2 (a b t : Int32) (h : ¬ own_lists (own_maxI a b) t = 0) : ¬ own_lists (own_minI a b) t = 0 := by
  unfold own_lists own_maxI own_minI at *
  simp only [Int32.lt_iff_toInt_lt] at *
  by_cases q1 : a.toInt < b.toInt
  · rw [if_pos q1] at h
    by_cases q3 : t.toInt < b.toInt
    · rw [if_pos q3] at h; exact absurd rfl h
    · rw [if_neg (show ¬ b.toInt < a.toInt by omega), if_neg (show ¬ t.toInt < a.toInt by omega)]; exact own_10
  · rw [if_neg q1] at h
    by_cases q3 : t.toInt < a.toInt
    · rw [if_pos q3] at h; exact absurd rfl h
    · by_cases q2 : b.toInt < a.toInt
      · rw [if_pos q2, if_neg (show ¬ t.toInt < b.toInt by omega)]; exact own_10
      · rw [if_neg q2, if_neg q3]; exact own_10
theorem own_l3 {t a : Int32} (h : t < a) : own_lists a t = 0 := if_pos h
theorem own_l4 {t a : Int32} (h : ¬ t < a) : own_lists a t = 1 := if_neg h
theorem own_d5_0 : decode jdk_29_method_65_code 0 = .ok (.iload_n 0, 1) := by decide +kernel
theorem own_d5_1 : decode jdk_29_method_65_code 1 = .ok (.iload_n 1, 1) := by decide +kernel
theorem own_d5_2 : decode jdk_29_method_65_code 2 = .ok (.if_icmp .lt 7, 3) := by decide +kernel
theorem own_d5_5 : decode jdk_29_method_65_code 5 = .ok (.iload_n 0, 1) := by decide +kernel
theorem own_d5_6 : decode jdk_29_method_65_code 6 = .ok (.goto 4, 3) := by decide +kernel
theorem own_d5_9 : decode jdk_29_method_65_code 9 = .ok (.iload_n 1, 1) := by decide +kernel
theorem own_d5_10 : decode jdk_29_method_65_code 10 = .ok (.ireturn, 1) := by decide +kernel
theorem own_ef_5 (m : MethodId) (x0 : Int32) (x1 : Int32) : entryFrame m #[(.int x0), (.int x1)] 2 = mkF m 0 #[.val (.int x0), .val (.int x1)] [] := by first | (simp [entryFrame, mkF, argsToLocals, Value.category]; done) | rfl
def own_Q_maxI (Z : State) (p0 : Int32) (p1 : Int32) (h0 : Heap) (n0 : Nat) (v : Option Value) (h : Heap) (L : List Loc) : Prop := v = some (.int (own_maxI p0 p1)) ∧ Fr n0 L ∧ h = h0
set_option maxRecDepth 65536 in
set_option maxHeartbeats 40000000 in
theorem own_rm_maxI (l : Launch) (Z : State) (a0 : Array Value) (hw : ∀ d ∈ tables_1, d.before a0 Z = true) (ws : List Jvm.Cond) (p0 : Int32) (p1 : Int32) (h0 : Heap) (n0 : Nat) (Z0 : n0 ≤ h0.size) :
    MetFree l (⟨"java/lang/Math", "max", "(II)I"⟩ : MethodName) (head1 (Jvm.Cond.code (⟨"java/lang/Math", "max", "(II)I"⟩ : MethodName) jdk_29_method_65_code 2 (some .int) :: ws) ({ frames := 0, cells := 0, slots := 0, locals := 0 } : Room)) (fun a U => a = #[(.int p0), (.int p1)] ∧ Z.Warmed39 U.vm ∧ U.heap = h0) (fun _ _ _ _ _ => True) (fun _ U o U' => ∃ v L, o = .returned v ∧ own_Q_maxI Z p0 p1 h0 n0 v U'.heap L ∧ FrameEnd U o U' L ({ frames := 0, cells := 0, slots := 0, locals := 0 } : Room).cells ({ frames := 0, cells := 0, slots := 0, locals := 0 } : Room).slots) := by
  refine MetFree.of_bodySF (Jvm.Free.JP.mathPlain rfl (by decide +kernel)) hisR ?_
  intro p e s m args below meth c s₁ Bd hml0 hP hK
  obtain ⟨rfl, hZ, hh⟩ := hP
  have hx := Bd.exec
  have hby := Bd.bytes
  have hlk : meth.locks = false := BodyLoose.notSynchronized Bd
  have hml : c.maxLocals = 2 := hml0
  have hown : s.vm.findClass "java/lang/Math" = some m.cls := findClass_of_methodNamed Bd.named
  have hnm := (name_of_methodNamed Bd.named Bd.method).1
  have X0 : Stand p l e ({ frames := 0, cells := 0, slots := 0, locals := 0 } : Room) s m #[(.int p0), (.int p1)] below meth c s₁ [] 0 0 := Stand.of_body Bd
  have e0 : s₁.heap = h0 := by rw [← hh, Bd.state]; rfl
  have N0 := Fr.nil n0
  have K0 : Keep h0 h0 [] := Keep.refl _ _
  have pre0 : ∀ t, Steps p.tables e below (s₁.setTop (mkF m 0 #[.val (.int p0), .val (.int p1)] [])) t → Steps p.tables e below (s₁.setTop (entryFrame m #[(.int p0), (.int p1)] 2)) t := fun t k => castTop (own_ef_5 m p0 p1) k
  show own_Ends p.tables e below (own_Q s (own_Q_maxI Z p0 p1 h0 n0) ({ frames := 0, cells := 0, slots := 0, locals := 0 } : Room).cells ({ frames := 0, cells := 0, slots := 0, locals := 0 } : Room).slots) (s₁.setTop (entryFrame m #[(.int p0), (.int p1)] 2))
  refine own_step pre0 ?_
  show own_Ends p.tables e below _ (s₁.setTop (mkF m 0 #[.val (.int p0), .val (.int p1)] []))
  refine own_step (fun _ k => XS.iloadN X0.here hx rfl (hb hby own_d5_0) rfl k) ?_
  show own_Ends p.tables e below _ (s₁.setTop (mkF m 1 #[.val (.int p0), .val (.int p1)] [(.int p0)]))
  refine own_step (fun _ k => XS.iloadN X0.here hx rfl (hb hby own_d5_1) rfl k) ?_
  show own_Ends p.tables e below _ (s₁.setTop (mkF m 2 #[.val (.int p0), .val (.int p1)] [(.int p1), (.int p0)]))
  by_cases hc2 : p0 < p1
  · refine own_step (fun _ k => XS.icmpYes X0.here hx rfl (pc0 := 2) (pc' := 9) rfl (hb hby own_d5_2) rfl (tlt hc2).1 (by decide) (by decide) k) ?_
    show own_Ends p.tables e below _ (s₁.setTop (mkF m 9 #[.val (.int p0), .val (.int p1)] []))
    refine own_step (fun _ k => XS.iloadN X0.here hx rfl (hb hby own_d5_9) rfl k) ?_
    show own_Ends p.tables e below _ (s₁.setTop (mkF m 10 #[.val (.int p0), .val (.int p1)] [(.int p1)]))
    exact own_retI X0 hx hlk (by decide) (by decide) Bd.returns (hb hby own_d5_10) (by rw [e0]; exact ⟨by rw [show own_maxI p0 p1 = p1 by simp [own_maxI, hc2]], N0, rfl⟩)
  · refine own_step (fun _ k => XS.icmpNo X0.here hx rfl (hb hby own_d5_2) rfl (flt hc2).1 k) ?_
    show own_Ends p.tables e below _ (s₁.setTop (mkF m 5 #[.val (.int p0), .val (.int p1)] []))
    refine own_step (fun _ k => XS.iloadN X0.here hx rfl (hb hby own_d5_5) rfl k) ?_
    show own_Ends p.tables e below _ (s₁.setTop (mkF m 6 #[.val (.int p0), .val (.int p1)] [(.int p0)]))
    refine own_step (fun _ k => XS.goto X0.here hx rfl (pc0 := 6) (pc' := 10) rfl (hb hby own_d5_6) (by decide) (by decide) k) ?_
    show own_Ends p.tables e below _ (s₁.setTop (mkF m 10 #[.val (.int p0), .val (.int p1)] [(.int p0)]))
    exact own_retI X0 hx hlk (by decide) (by decide) Bd.returns (hb hby own_d5_10) (by rw [e0]; exact ⟨by rw [show own_maxI p0 p1 = p0 by simp [own_maxI, hc2]], N0, rfl⟩)
theorem own_d4_0 : decode jdk_29_method_69_code 0 = .ok (.iload_n 0, 1) := by decide +kernel
theorem own_d4_1 : decode jdk_29_method_69_code 1 = .ok (.iload_n 1, 1) := by decide +kernel
theorem own_d4_2 : decode jdk_29_method_69_code 2 = .ok (.if_icmp .gt 7, 3) := by decide +kernel
theorem own_d4_5 : decode jdk_29_method_69_code 5 = .ok (.iload_n 0, 1) := by decide +kernel
theorem own_d4_6 : decode jdk_29_method_69_code 6 = .ok (.goto 4, 3) := by decide +kernel
theorem own_d4_9 : decode jdk_29_method_69_code 9 = .ok (.iload_n 1, 1) := by decide +kernel
theorem own_d4_10 : decode jdk_29_method_69_code 10 = .ok (.ireturn, 1) := by decide +kernel
theorem own_ef_4 (m : MethodId) (x0 : Int32) (x1 : Int32) : entryFrame m #[(.int x0), (.int x1)] 2 = mkF m 0 #[.val (.int x0), .val (.int x1)] [] := by first | (simp [entryFrame, mkF, argsToLocals, Value.category]; done) | rfl
def own_Q_minI (Z : State) (p0 : Int32) (p1 : Int32) (h0 : Heap) (n0 : Nat) (v : Option Value) (h : Heap) (L : List Loc) : Prop := v = some (.int (own_minI p0 p1)) ∧ Fr n0 L ∧ h = h0
set_option maxRecDepth 65536 in
set_option maxHeartbeats 40000000 in
theorem own_rm_minI (l : Launch) (Z : State) (a0 : Array Value) (hw : ∀ d ∈ tables_1, d.before a0 Z = true) (ws : List Jvm.Cond) (p0 : Int32) (p1 : Int32) (h0 : Heap) (n0 : Nat) (Z0 : n0 ≤ h0.size) :
    MetFree l (⟨"java/lang/Math", "min", "(II)I"⟩ : MethodName) (head1 (Jvm.Cond.code (⟨"java/lang/Math", "min", "(II)I"⟩ : MethodName) jdk_29_method_69_code 2 (some .int) :: ws) ({ frames := 0, cells := 0, slots := 0, locals := 0 } : Room)) (fun a U => a = #[(.int p0), (.int p1)] ∧ Z.Warmed39 U.vm ∧ U.heap = h0) (fun _ _ _ _ _ => True) (fun _ U o U' => ∃ v L, o = .returned v ∧ own_Q_minI Z p0 p1 h0 n0 v U'.heap L ∧ FrameEnd U o U' L ({ frames := 0, cells := 0, slots := 0, locals := 0 } : Room).cells ({ frames := 0, cells := 0, slots := 0, locals := 0 } : Room).slots) := by
  refine MetFree.of_bodySF (Jvm.Free.JP.mathPlain rfl (by decide +kernel)) hisR ?_
  intro p e s m args below meth c s₁ Bd hml0 hP hK
  obtain ⟨rfl, hZ, hh⟩ := hP
  have hx := Bd.exec
  have hby := Bd.bytes
  have hlk : meth.locks = false := BodyLoose.notSynchronized Bd
  have hml : c.maxLocals = 2 := hml0
  have hown : s.vm.findClass "java/lang/Math" = some m.cls := findClass_of_methodNamed Bd.named
  have hnm := (name_of_methodNamed Bd.named Bd.method).1
  have X0 : Stand p l e ({ frames := 0, cells := 0, slots := 0, locals := 0 } : Room) s m #[(.int p0), (.int p1)] below meth c s₁ [] 0 0 := Stand.of_body Bd
  have e0 : s₁.heap = h0 := by rw [← hh, Bd.state]; rfl
  have N0 := Fr.nil n0
  have K0 : Keep h0 h0 [] := Keep.refl _ _
  have pre0 : ∀ t, Steps p.tables e below (s₁.setTop (mkF m 0 #[.val (.int p0), .val (.int p1)] [])) t → Steps p.tables e below (s₁.setTop (entryFrame m #[(.int p0), (.int p1)] 2)) t := fun t k => castTop (own_ef_4 m p0 p1) k
  show own_Ends p.tables e below (own_Q s (own_Q_minI Z p0 p1 h0 n0) ({ frames := 0, cells := 0, slots := 0, locals := 0 } : Room).cells ({ frames := 0, cells := 0, slots := 0, locals := 0 } : Room).slots) (s₁.setTop (entryFrame m #[(.int p0), (.int p1)] 2))
  refine own_step pre0 ?_
  show own_Ends p.tables e below _ (s₁.setTop (mkF m 0 #[.val (.int p0), .val (.int p1)] []))
  refine own_step (fun _ k => XS.iloadN X0.here hx rfl (hb hby own_d4_0) rfl k) ?_
  show own_Ends p.tables e below _ (s₁.setTop (mkF m 1 #[.val (.int p0), .val (.int p1)] [(.int p0)]))
  refine own_step (fun _ k => XS.iloadN X0.here hx rfl (hb hby own_d4_1) rfl k) ?_
  show own_Ends p.tables e below _ (s₁.setTop (mkF m 2 #[.val (.int p0), .val (.int p1)] [(.int p1), (.int p0)]))
  by_cases hc2 : p1 < p0
  · refine own_step (fun _ k => XS.icmpYes X0.here hx rfl (pc0 := 2) (pc' := 9) rfl (hb hby own_d4_2) rfl (tlt hc2).2.2.1 (by decide) (by decide) k) ?_
    show own_Ends p.tables e below _ (s₁.setTop (mkF m 9 #[.val (.int p0), .val (.int p1)] []))
    refine own_step (fun _ k => XS.iloadN X0.here hx rfl (hb hby own_d4_9) rfl k) ?_
    show own_Ends p.tables e below _ (s₁.setTop (mkF m 10 #[.val (.int p0), .val (.int p1)] [(.int p1)]))
    exact own_retI X0 hx hlk (by decide) (by decide) Bd.returns (hb hby own_d4_10) (by rw [e0]; exact ⟨by rw [show own_minI p0 p1 = p1 by simp [own_minI, hc2]], N0, rfl⟩)
  · refine own_step (fun _ k => XS.icmpNo X0.here hx rfl (hb hby own_d4_2) rfl (flt hc2).2.2.1 k) ?_
    show own_Ends p.tables e below _ (s₁.setTop (mkF m 5 #[.val (.int p0), .val (.int p1)] []))
    refine own_step (fun _ k => XS.iloadN X0.here hx rfl (hb hby own_d4_5) rfl k) ?_
    show own_Ends p.tables e below _ (s₁.setTop (mkF m 6 #[.val (.int p0), .val (.int p1)] [(.int p0)]))
    refine own_step (fun _ k => XS.goto X0.here hx rfl (pc0 := 6) (pc' := 10) rfl (hb hby own_d4_6) (by decide) (by decide) k) ?_
    show own_Ends p.tables e below _ (s₁.setTop (mkF m 10 #[.val (.int p0), .val (.int p1)] [(.int p0)]))
    exact own_retI X0 hx hlk (by decide) (by decide) Bd.returns (hb hby own_d4_10) (by rw [e0]; exact ⟨by rw [show own_minI p0 p1 = p0 by simp [own_minI, hc2]], N0, rfl⟩)
theorem own_pd0 : parseMethodDescriptor "()V" = some ⟨[], none⟩ := by decide +kernel
theorem own_d1_0 : decode prog_29_method_1_code 0 = .ok (.aload_n 0, 1) := by decide +kernel
theorem own_d1_1 : decode prog_29_method_1_code 1 = .ok (.invokespecial 1, 3) := by decide +kernel
theorem own_d1_4 : decode prog_29_method_1_code 4 = .ok (.aload_n 0, 1) := by decide +kernel
theorem own_d1_5 : decode prog_29_method_1_code 5 = .ok (.iload_n 1, 1) := by decide +kernel
theorem own_d1_6 : decode prog_29_method_1_code 6 = .ok (.putfield 7, 3) := by decide +kernel
theorem own_d1_9 : decode prog_29_method_1_code 9 = .ok (.aload_n 0, 1) := by decide +kernel
theorem own_d1_10 : decode prog_29_method_1_code 10 = .ok (.iload_n 2, 1) := by decide +kernel
theorem own_d1_11 : decode prog_29_method_1_code 11 = .ok (.putfield 13, 3) := by decide +kernel
theorem own_d1_14 : decode prog_29_method_1_code 14 = .ok (.aload_n 0, 1) := by decide +kernel
theorem own_d1_15 : decode prog_29_method_1_code 15 = .ok (.iload_n 3, 1) := by decide +kernel
theorem own_d1_16 : decode prog_29_method_1_code 16 = .ok (.putfield 16, 3) := by decide +kernel
theorem own_d1_19 : decode prog_29_method_1_code 19 = .ok (.return_, 1) := by decide +kernel
theorem own_pn0 : plainName "com/example/ketchup/ketchup/negentropy/SplitRule" = true := by first | (simp [plainName, overriddenIn]; done) | decide +kernel
theorem own_ef_1 (m : MethodId) (x0 : Addr) (x1 : Int32) (x2 : Int32) (x3 : Int32) : entryFrame m #[(.ref x0), (.int x1), (.int x2), (.int x3)] 4 = mkF m 0 #[.val (.ref x0), .val (.int x1), .val (.int x2), .val (.int x3)] [] := by first | (simp [entryFrame, mkF, argsToLocals, Value.category]; done) | rfl
def own_Q_init (Z : State) (a0 : Addr) (p1 : Int32) (p2 : Int32) (p3 : Int32) (h0 : Heap) (n0 : Nat) (v : Option Value) (h : Heap) (L : List Loc) : Prop := v = none ∧ Fr n0 L ∧ Keep h0 h [a0] ∧ Fld Z h a0 "com/example/ketchup/ketchup/negentropy/SplitRule" "listsUpTo" "I" (.int p1)
set_option maxRecDepth 65536 in
set_option maxHeartbeats 40000000 in
theorem own_rm_init (l : Launch) (Z : State) (a0 : Array Value) (hw : ∀ d ∈ tables_1, d.before a0 Z = true) (ws : List Jvm.Cond) (a0 : Addr) (p1 : Int32) (p2 : Int32) (p3 : Int32) (h0 : Heap) (n0 : Nat) (Z0 : n0 ≤ h0.size) (E_a0 : Exa Z h0 a0 "com/example/ketchup/ketchup/negentropy/SplitRule") (F_listsUpTo_a0 : Fld Z h0 a0 "com/example/ketchup/ketchup/negentropy/SplitRule" "listsUpTo" "I" (.int (0 : Int32))) (F_mostRanges_a0 : Fld Z h0 a0 "com/example/ketchup/ketchup/negentropy/SplitRule" "mostRanges" "I" (.int (0 : Int32))) (F_recordsPerRange_a0 : Fld Z h0 a0 "com/example/ketchup/ketchup/negentropy/SplitRule" "recordsPerRange" "I" (.int (0 : Int32))) (g_a0 : n0 ≤ a0) :
    MetFree l (⟨"com/example/ketchup/ketchup/negentropy/SplitRule", "<init>", "(III)V"⟩ : MethodName) (head1 (Jvm.Cond.code (⟨"com/example/ketchup/ketchup/negentropy/SplitRule", "<init>", "(III)V"⟩ : MethodName) prog_29_method_1_code 4 none :: ws) ({ frames := 1, cells := 0, slots := 0, locals := 12 } : Room)) (fun a U => a = #[(.ref a0), (.int p1), (.int p2), (.int p3)] ∧ Z.Warmed39 U.vm ∧ U.heap = h0) (fun _ _ _ _ _ => True) (fun _ U o U' => ∃ v L, o = .returned v ∧ own_Q_init Z a0 p1 p2 p3 h0 n0 v U'.heap L ∧ FrameEnd U o U' L ({ frames := 1, cells := 0, slots := 0, locals := 12 } : Room).cells ({ frames := 1, cells := 0, slots := 0, locals := 12 } : Room).slots) := by
  refine MetFree.of_bodySF (plainFor_of_name own_pn0) hisR ?_
  intro p e s m args below meth c s₁ Bd hml0 hP hK
  obtain ⟨rfl, hZ, hh⟩ := hP
  have hx := Bd.exec
  have hby := Bd.bytes
  have hlk : meth.locks = false := BodyLoose.notSynchronized Bd
  have hml : c.maxLocals = 4 := hml0
  have hown : s.vm.findClass "com/example/ketchup/ketchup/negentropy/SplitRule" = some m.cls := findClass_of_methodNamed Bd.named
  have hnm := (name_of_methodNamed Bd.named Bd.method).1
  have X0 : Stand p l e ({ frames := 1, cells := 0, slots := 0, locals := 12 } : Room) s m #[(.ref a0), (.int p1), (.int p2), (.int p3)] below meth c s₁ [] 0 0 := Stand.of_body Bd
  have e0 : s₁.heap = h0 := by rw [← hh, Bd.state]; rfl
  have N0 := Fr.nil n0
  have K0 : Keep h0 h0 [a0] := Keep.refl _ _
  have pre0 : ∀ t, Steps p.tables e below (s₁.setTop (mkF m 0 #[.val (.ref a0), .val (.int p1), .val (.int p2), .val (.int p3)] [])) t → Steps p.tables e below (s₁.setTop (entryFrame m #[(.ref a0), (.int p1), (.int p2), (.int p3)] 4)) t := fun t k => castTop (own_ef_1 m a0 p1 p2 p3) k
  show own_Ends p.tables e below (own_Q s (own_Q_init Z a0 p1 p2 p3 h0 n0) ({ frames := 1, cells := 0, slots := 0, locals := 12 } : Room).cells ({ frames := 1, cells := 0, slots := 0, locals := 12 } : Room).slots) (s₁.setTop (entryFrame m #[(.ref a0), (.int p1), (.int p2), (.int p3)] 4))
  refine own_step pre0 ?_
  show own_Ends p.tables e below _ (s₁.setTop (mkF m 0 #[.val (.ref a0), .val (.int p1), .val (.int p2), .val (.int p3)] []))
  refine own_step (fun _ k => XS.aloadN X0.here hx rfl (hb hby own_d1_0) rfl rfl k) ?_
  show own_Ends p.tables e below _ (s₁.setTop (mkF m 1 #[.val (.ref a0), .val (.int p1), .val (.int p2), .val (.int p3)] [(.ref a0)]))
  obtain ⟨T1, X1, e1, st1⟩ := initO X0 hx hZ hown (hw _ (List.mem_of_getElem? (i := 6) rfl)) (hw _ (List.mem_of_getElem? (i := 7) rfl)) (hw _ (List.mem_of_getElem? (i := 8) rfl)) e0 (g := (mkF m 1 #[.val (.ref a0), .val (.int p1), .val (.int p2), .val (.int p3)] [(.ref a0)])) rfl (by rw [hml]; rfl) rfl (hb hby own_d1_1) (by decide) (W := 0) (by show 2 * 0 + _ ≤ _; exact Nat.le_of_eq rfl) (by decide)
  refine own_step st1 ?_
  show own_Ends p.tables e below _ (T1.setTop (mkF m 4 #[.val (.ref a0), .val (.int p1), .val (.int p2), .val (.int p3)] []))
  refine own_step (fun _ k => XS.aloadN X1.here hx rfl (hb hby own_d1_4) rfl rfl k) ?_
  show own_Ends p.tables e below _ (T1.setTop (mkF m 5 #[.val (.ref a0), .val (.int p1), .val (.int p2), .val (.int p3)] [(.ref a0)]))
  refine own_step (fun _ k => XS.iloadN X1.here hx rfl (hb hby own_d1_5) rfl k) ?_
  show own_Ends p.tables e below _ (T1.setTop (mkF m 6 #[.val (.ref a0), .val (.int p1), .val (.int p2), .val (.int p3)] [(.int p1), (.ref a0)]))
  obtain ⟨T2, h2, X2, e2, W2, st2⟩ := putF X1 hx hZ hown (host := "") (Or.inl (hw _ (List.mem_of_getElem? (i := 9) rfl))) Via.refl e1 F_listsUpTo_a0 E_a0 (Or.inr ⟨(hw _ (List.mem_of_getElem? (i := 10) rfl)), rfl, hnm⟩) (hw _ (List.mem_of_getElem? (i := 1) rfl)) (ty := .int) (by decide) rfl rfl (g := (mkF m 6 #[.val (.ref a0), .val (.int p1), .val (.int p2), .val (.int p3)] [(.int p1), (.ref a0)])) rfl rfl (hb hby own_d1_6)
  refine own_step st2 ?_
  have F_listsUpTo_a0_2 := F_listsUpTo_a0.same W2
  have F_mostRanges_a0_2 := F_mostRanges_a0.other W2 (Or.inr (slot_ne (Or.inr (hw _ (List.mem_of_getElem? (i := 12) rfl))) (Or.inr (hw _ (List.mem_of_getElem? (i := 10) rfl))) (by decide) (t := .int) (t' := .int) (by decide) (by decide)))
  have F_recordsPerRange_a0_2 := F_recordsPerRange_a0.other W2 (Or.inr (slot_ne (Or.inr (hw _ (List.mem_of_getElem? (i := 14) rfl))) (Or.inr (hw _ (List.mem_of_getElem? (i := 10) rfl))) (by decide) (t := .int) (t' := .int) (by decide) (by decide)))
  have E_a0_2 := E_a0.wr W2
  have K_2 : Keep h0 h2 [a0] := K0.wr W2 (Or.inl (List.mem_of_getElem? (i := 0) rfl))
  have Z_2 : n0 ≤ h2.size := Nat.le_trans Z0 (Keep.of_wr W2).1
  have N_2 := Fr.snoc X2 N0 g_a0
  show own_Ends p.tables e below _ (T2.setTop (mkF m 9 #[.val (.ref a0), .val (.int p1), .val (.int p2), .val (.int p3)] []))
  refine own_step (fun _ k => XS.aloadN X2.here hx rfl (hb hby own_d1_9) rfl rfl k) ?_
  show own_Ends p.tables e below _ (T2.setTop (mkF m 10 #[.val (.ref a0), .val (.int p1), .val (.int p2), .val (.int p3)] [(.ref a0)]))
  refine own_step (fun _ k => XS.iloadN X2.here hx rfl (hb hby own_d1_10) rfl k) ?_
  show own_Ends p.tables e below _ (T2.setTop (mkF m 11 #[.val (.ref a0), .val (.int p1), .val (.int p2), .val (.int p3)] [(.int p2), (.ref a0)]))
  obtain ⟨T3, h3, X3, e3, W3, st3⟩ := putF X2 hx hZ hown (host := "") (Or.inl (hw _ (List.mem_of_getElem? (i := 11) rfl))) Via.refl e2 F_mostRanges_a0_2 E_a0_2 (Or.inr ⟨(hw _ (List.mem_of_getElem? (i := 12) rfl)), rfl, hnm⟩) (hw _ (List.mem_of_getElem? (i := 1) rfl)) (ty := .int) (by decide) rfl rfl (g := (mkF m 11 #[.val (.ref a0), .val (.int p1), .val (.int p2), .val (.int p3)] [(.int p2), (.ref a0)])) rfl rfl (hb hby own_d1_11)
  refine own_step st3 ?_
  have F_listsUpTo_a0_3 := F_listsUpTo_a0_2.other W3 (Or.inr (slot_ne (Or.inr (hw _ (List.mem_of_getElem? (i := 10) rfl))) (Or.inr (hw _ (List.mem_of_getElem? (i := 12) rfl))) (by decide) (t := .int) (t' := .int) (by decide) (by decide)))
  have F_mostRanges_a0_3 := F_mostRanges_a0_2.same W3
  have F_recordsPerRange_a0_3 := F_recordsPerRange_a0_2.other W3 (Or.inr (slot_ne (Or.inr (hw _ (List.mem_of_getElem? (i := 14) rfl))) (Or.inr (hw _ (List.mem_of_getElem? (i := 12) rfl))) (by decide) (t := .int) (t' := .int) (by decide) (by decide)))
  have E_a0_3 := E_a0_2.wr W3
  have K_3 : Keep h0 h3 [a0] := K_2.wr W3 (Or.inl (List.mem_of_getElem? (i := 0) rfl))
  have Z_3 : n0 ≤ h3.size := Nat.le_trans Z_2 (Keep.of_wr W3).1
  have N_3 := Fr.snoc X3 N_2 g_a0
  show own_Ends p.tables e below _ (T3.setTop (mkF m 14 #[.val (.ref a0), .val (.int p1), .val (.int p2), .val (.int p3)] []))
  refine own_step (fun _ k => XS.aloadN X3.here hx rfl (hb hby own_d1_14) rfl rfl k) ?_
  show own_Ends p.tables e below _ (T3.setTop (mkF m 15 #[.val (.ref a0), .val (.int p1), .val (.int p2), .val (.int p3)] [(.ref a0)]))
  refine own_step (fun _ k => XS.iloadN X3.here hx rfl (hb hby own_d1_15) rfl k) ?_
  show own_Ends p.tables e below _ (T3.setTop (mkF m 16 #[.val (.ref a0), .val (.int p1), .val (.int p2), .val (.int p3)] [(.int p3), (.ref a0)]))
  obtain ⟨T4, h4, X4, e4, W4, st4⟩ := putF X3 hx hZ hown (host := "") (Or.inl (hw _ (List.mem_of_getElem? (i := 13) rfl))) Via.refl e3 F_recordsPerRange_a0_3 E_a0_3 (Or.inr ⟨(hw _ (List.mem_of_getElem? (i := 14) rfl)), rfl, hnm⟩) (hw _ (List.mem_of_getElem? (i := 1) rfl)) (ty := .int) (by decide) rfl rfl (g := (mkF m 16 #[.val (.ref a0), .val (.int p1), .val (.int p2), .val (.int p3)] [(.int p3), (.ref a0)])) rfl rfl (hb hby own_d1_16)
  refine own_step st4 ?_
  have F_listsUpTo_a0_4 := F_listsUpTo_a0_3.other W4 (Or.inr (slot_ne (Or.inr (hw _ (List.mem_of_getElem? (i := 10) rfl))) (Or.inr (hw _ (List.mem_of_getElem? (i := 14) rfl))) (by decide) (t := .int) (t' := .int) (by decide) (by decide)))
  have F_mostRanges_a0_4 := F_mostRanges_a0_3.other W4 (Or.inr (slot_ne (Or.inr (hw _ (List.mem_of_getElem? (i := 12) rfl))) (Or.inr (hw _ (List.mem_of_getElem? (i := 14) rfl))) (by decide) (t := .int) (t' := .int) (by decide) (by decide)))
  have F_recordsPerRange_a0_4 := F_recordsPerRange_a0_3.same W4
  have E_a0_4 := E_a0_3.wr W4
  have K_4 : Keep h0 h4 [a0] := K_3.wr W4 (Or.inl (List.mem_of_getElem? (i := 0) rfl))
  have Z_4 : n0 ≤ h4.size := Nat.le_trans Z_3 (Keep.of_wr W4).1
  have N_4 := Fr.snoc X4 N_3 g_a0
  show own_Ends p.tables e below _ (T4.setTop (mkF m 19 #[.val (.ref a0), .val (.int p1), .val (.int p2), .val (.int p3)] []))
  exact own_ret0 X4 hx hlk (by decide) (by decide) Bd.returns (hb hby own_d1_19) (by rw [e4]; exact ⟨rfl, N_4, K_4, F_listsUpTo_a0_4⟩)
theorem own_d3_0 : decode prog_29_method_2_code 0 = .ok (.iload_n 1, 1) := by decide +kernel
theorem own_d3_1 : decode prog_29_method_2_code 1 = .ok (.aload_n 0, 1) := by decide +kernel
theorem own_d3_2 : decode prog_29_method_2_code 2 = .ok (.getfield 7, 3) := by decide +kernel
theorem own_d3_5 : decode prog_29_method_2_code 5 = .ok (.if_icmp .gt 7, 3) := by decide +kernel
theorem own_d3_8 : decode prog_29_method_2_code 8 = .ok (.iconst 1, 1) := by decide +kernel
theorem own_d3_9 : decode prog_29_method_2_code 9 = .ok (.goto 4, 3) := by decide +kernel
theorem own_d3_12 : decode prog_29_method_2_code 12 = .ok (.iconst 0, 1) := by decide +kernel
theorem own_d3_13 : decode prog_29_method_2_code 13 = .ok (.ireturn, 1) := by decide +kernel
theorem own_ef_3 (m : MethodId) (x0 : Addr) (x1 : Int32) : entryFrame m #[(.ref x0), (.int x1)] 2 = mkF m 0 #[.val (.ref x0), .val (.int x1)] [] := by first | (simp [entryFrame, mkF, argsToLocals, Value.category]; done) | rfl
def own_Q_lists (Z : State) (a0 : Addr) (p1 : Int32) (t : Int32) (h0 : Heap) (n0 : Nat) (v : Option Value) (h : Heap) (L : List Loc) : Prop := v = some (.int (own_lists p1 t)) ∧ Fr n0 L ∧ h = h0
set_option maxRecDepth 65536 in
set_option maxHeartbeats 40000000 in
theorem own_rm_lists (l : Launch) (Z : State) (a0 : Array Value) (hw : ∀ d ∈ tables_1, d.before a0 Z = true) (ws : List Jvm.Cond) (a0 : Addr) (p1 : Int32) (t : Int32) (h0 : Heap) (n0 : Nat) (Z0 : n0 ≤ h0.size) (F_l : Fld Z h0 a0 "com/example/ketchup/ketchup/negentropy/SplitRule" "listsUpTo" "I" (.int t)) :
    MetFree l (⟨"com/example/ketchup/ketchup/negentropy/SplitRule", "lists", "(I)Z"⟩ : MethodName) (head1 (Jvm.Cond.code (⟨"com/example/ketchup/ketchup/negentropy/SplitRule", "lists", "(I)Z"⟩ : MethodName) prog_29_method_2_code 2 (some .boolean) :: ws) ({ frames := 0, cells := 0, slots := 0, locals := 0 } : Room)) (fun a U => a = #[(.ref a0), (.int p1)] ∧ Z.Warmed39 U.vm ∧ U.heap = h0) (fun _ _ _ _ _ => True) (fun _ U o U' => ∃ v L, o = .returned v ∧ own_Q_lists Z a0 p1 t h0 n0 v U'.heap L ∧ FrameEnd U o U' L ({ frames := 0, cells := 0, slots := 0, locals := 0 } : Room).cells ({ frames := 0, cells := 0, slots := 0, locals := 0 } : Room).slots) := by
  refine MetFree.of_bodySF (plainFor_of_name own_pn0) hisR ?_
  intro p e s m args below meth c s₁ Bd hml0 hP hK
  obtain ⟨rfl, hZ, hh⟩ := hP
  have hx := Bd.exec
  have hby := Bd.bytes
  have hlk : meth.locks = false := BodyLoose.notSynchronized Bd
  have hml : c.maxLocals = 2 := hml0
  have hown : s.vm.findClass "com/example/ketchup/ketchup/negentropy/SplitRule" = some m.cls := findClass_of_methodNamed Bd.named
  have hnm := (name_of_methodNamed Bd.named Bd.method).1
  have X0 : Stand p l e ({ frames := 0, cells := 0, slots := 0, locals := 0 } : Room) s m #[(.ref a0), (.int p1)] below meth c s₁ [] 0 0 := Stand.of_body Bd
  have e0 : s₁.heap = h0 := by rw [← hh, Bd.state]; rfl
  have N0 := Fr.nil n0
  have K0 : Keep h0 h0 [] := Keep.refl _ _
  have pre0 : ∀ t, Steps p.tables e below (s₁.setTop (mkF m 0 #[.val (.ref a0), .val (.int p1)] [])) t → Steps p.tables e below (s₁.setTop (entryFrame m #[(.ref a0), (.int p1)] 2)) t := fun t k => castTop (own_ef_3 m a0 p1) k
  show own_Ends p.tables e below (own_Q s (own_Q_lists Z a0 p1 t h0 n0) ({ frames := 0, cells := 0, slots := 0, locals := 0 } : Room).cells ({ frames := 0, cells := 0, slots := 0, locals := 0 } : Room).slots) (s₁.setTop (entryFrame m #[(.ref a0), (.int p1)] 2))
  refine own_step pre0 ?_
  show own_Ends p.tables e below _ (s₁.setTop (mkF m 0 #[.val (.ref a0), .val (.int p1)] []))
  refine own_step (fun _ k => XS.iloadN X0.here hx rfl (hb hby own_d3_0) rfl k) ?_
  show own_Ends p.tables e below _ (s₁.setTop (mkF m 1 #[.val (.ref a0), .val (.int p1)] [(.int p1)]))
  refine own_step (fun _ k => XS.aloadN X0.here hx rfl (hb hby own_d3_1) rfl rfl k) ?_
  show own_Ends p.tables e below _ (s₁.setTop (mkF m 2 #[.val (.ref a0), .val (.int p1)] [(.ref a0), (.int p1)]))
  obtain ⟨T1, X1, e1, st1⟩ := getF X0 hx hZ hown (host := "") (Or.inl (hw _ (List.mem_of_getElem? (i := 9) rfl))) Via.refl e0 F_l (g := (mkF m 2 #[.val (.ref a0), .val (.int p1)] [(.ref a0), (.int p1)])) rfl rfl (hb hby own_d3_2)
  refine own_step st1 ?_
  show own_Ends p.tables e below _ (T1.setTop (mkF m 5 #[.val (.ref a0), .val (.int p1)] [(.int t), (.int p1)]))
  by_cases hc5 : t < p1
  · refine own_step (fun _ k => XS.icmpYes X1.here hx rfl (pc0 := 5) (pc' := 12) rfl (hb hby own_d3_5) rfl (tlt hc5).2.2.1 (by decide) (by decide) k) ?_
    show own_Ends p.tables e below _ (T1.setTop (mkF m 12 #[.val (.ref a0), .val (.int p1)] []))
    refine own_step (fun _ k => XS.iconst X1.here hx rfl (hb hby own_d3_12) k) ?_
    show own_Ends p.tables e below _ (T1.setTop (mkF m 13 #[.val (.ref a0), .val (.int p1)] [(.int (0 : Int32))]))
    exact own_retN X1 hx hlk (by decide) (by decide) (t := .boolean) Bd.returns (by simp) (hb hby own_d3_13) (by rw [e1]; exact ⟨by rw [show own_lists p1 t = (0 : Int32) by simp [own_lists, hc5]]; rfl, N0, rfl⟩)
  · refine own_step (fun _ k => XS.icmpNo X1.here hx rfl (hb hby own_d3_5) rfl (flt hc5).2.2.1 k) ?_
    show own_Ends p.tables e below _ (T1.setTop (mkF m 8 #[.val (.ref a0), .val (.int p1)] []))
    refine own_step (fun _ k => XS.iconst X1.here hx rfl (hb hby own_d3_8) k) ?_
    show own_Ends p.tables e below _ (T1.setTop (mkF m 9 #[.val (.ref a0), .val (.int p1)] [(.int (1 : Int32))]))
    refine own_step (fun _ k => XS.goto X1.here hx rfl (pc0 := 9) (pc' := 13) rfl (hb hby own_d3_9) (by decide) (by decide) k) ?_
    show own_Ends p.tables e below _ (T1.setTop (mkF m 13 #[.val (.ref a0), .val (.int p1)] [(.int (1 : Int32))]))
    exact own_retN X1 hx hlk (by decide) (by decide) (t := .boolean) Bd.returns (by simp) (hb hby own_d3_13) (by rw [e1]; exact ⟨by rw [show own_lists p1 t = (1 : Int32) by simp [own_lists, hc5]]; rfl, N0, rfl⟩)
theorem own_pd1 : parseMethodDescriptor "(III)V" = some ⟨[.int, .int, .int], none⟩ := by decide +kernel
theorem own_pd2 : parseMethodDescriptor "(I)Z" = some ⟨[.int], some .boolean⟩ := by decide +kernel
theorem own_pd3 : parseMethodDescriptor "(II)I" = some ⟨[.int, .int], some .int⟩ := by decide +kernel
theorem own_pn1 : plainName "com/example/ketchup/ketchup/negentropy/SplitRuleListsPinLaw" = true := by first | (simp [plainName, overriddenIn]; done) | decide +kernel
theorem own_ef_0 (m : MethodId) (x0 : Int32) (x1 : Int32) (x2 : Int32) (x3 : Int32) (x4 : Int32) : entryFrame m #[(.int x0), (.int x1), (.int x2), (.int x3), (.int x4)] maxLocals = mkF m 0 #[.val (.int x0), .val (.int x1), .val (.int x2), .val (.int x3), .val (.int x4), .unset, .unset, .unset, .unset, .unset, .unset, .unset] [] := by first | (simp [entryFrame, mkF, argsToLocals, Value.category, maxLocals]; done) | rfl
def own_Q_law (Z : State) (p0 : Int32) (p1 : Int32) (p2 : Int32) (p3 : Int32) (p4 : Int32) (h0 : Heap) (n0 : Nat) (v : Option Value) (h : Heap) (L : List Loc) : Prop := v = some (.int 1) ∧ Fr n0 L
set_option maxRecDepth 65536 in
set_option maxHeartbeats 40000000 in
theorem own_rm_law (l : Launch) (Z : State) (a0 : Array Value) (hw : ∀ d ∈ tables_1, d.before a0 Z = true) (ws : List Jvm.Cond) (p0 : Int32) (p1 : Int32) (p2 : Int32) (p3 : Int32) (p4 : Int32) (h0 : Heap) (n0 : Nat) (Z0 : n0 ≤ h0.size) :
    MetFree l x (head1 (Jvm.Cond.code x code maxLocals ret :: ws) room_1) (fun a U => a = #[(.int p0), (.int p1), (.int p2), (.int p3), (.int p4)] ∧ Z.Warmed39 U.vm ∧ U.heap = h0) (fun _ _ _ _ _ => True) (fun _ U o U' => ∃ v L, o = .returned v ∧ own_Q_law Z p0 p1 p2 p3 p4 h0 n0 v U'.heap L ∧ FrameEnd U o U' L room_1.cells room_1.slots) := by
  refine MetFree.of_bodySF (plainFor_of_name own_pn1) hisR ?_
  intro p e s m args below meth c s₁ Bd hml0 hP hK
  obtain ⟨rfl, hZ, hh⟩ := hP
  have hx := Bd.exec
  have hby := Bd.bytes
  have hlk : meth.locks = false := BodyLoose.notSynchronized Bd
  have hml : c.maxLocals = 12 := hml0
  have hown : s.vm.findClass "com/example/ketchup/ketchup/negentropy/SplitRuleListsPinLaw" = some m.cls := findClass_of_methodNamed Bd.named
  have hnm := (name_of_methodNamed Bd.named Bd.method).1
  have X0 : Stand p l e room_1 s m #[(.int p0), (.int p1), (.int p2), (.int p3), (.int p4)] below meth c s₁ [] 0 0 := Stand.of_body Bd
  have e0 : s₁.heap = h0 := by rw [← hh, Bd.state]; rfl
  have N0 := Fr.nil n0
  have K0 : Keep h0 h0 [] := Keep.refl _ _
  have pre0 : ∀ t, Steps p.tables e below (s₁.setTop (mkF m 0 #[.val (.int p0), .val (.int p1), .val (.int p2), .val (.int p3), .val (.int p4), .unset, .unset, .unset, .unset, .unset, .unset, .unset] [])) t → Steps p.tables e below (s₁.setTop (entryFrame m #[(.int p0), (.int p1), (.int p2), (.int p3), (.int p4)] maxLocals)) t := fun t k => castTop (own_ef_0 m p0 p1 p2 p3 p4) k
  show own_Ends p.tables e below (own_Q s (own_Q_law Z p0 p1 p2 p3 p4 h0 n0) room_1.cells room_1.slots) (s₁.setTop (entryFrame m #[(.int p0), (.int p1), (.int p2), (.int p3), (.int p4)] maxLocals))
  refine own_step pre0 ?_
  show own_Ends p.tables e below _ (s₁.setTop (mkF m 0 #[.val (.int p0), .val (.int p1), .val (.int p2), .val (.int p3), .val (.int p4), .unset, .unset, .unset, .unset, .unset, .unset, .unset] []))
  obtain ⟨T1, h1, X1, e1, E1, A1, D1, -, st1⟩ := newO X0 hx hZ hown (hw _ (List.mem_of_getElem? (i := 0) rfl)) (hw _ (List.mem_of_getElem? (i := 1) rfl)) (hw _ (List.mem_of_getElem? (i := 2) rfl)) e0 (g := (mkF m 0 #[.val (.int p0), .val (.int p1), .val (.int p2), .val (.int p3), .val (.int p4), .unset, .unset, .unset, .unset, .unset, .unset, .unset] [])) rfl (hb hby at_0) (by decide) (by decide)
  obtain ⟨b1, g1⟩ : ∃ z, z = h0.size := ⟨_, rfl⟩
  rw [← g1] at A1 D1 st1
  refine own_step st1 ?_
  have g_b1 : n0 ≤ b1 := Nat.le_trans Z0 (Nat.le_of_eq g1.symm)
  have sz_b1 : h0.size ≤ b1 := Nat.le_trans K0.1 (Nat.le_of_eq g1.symm)
  have K_1 : Keep h0 h1 [] := K0.ext E1
  have Z_1 : n0 ≤ h1.size := Nat.le_trans Z0 E1.1
  have F_listsUpTo_b1 : Fld Z h1 b1 "com/example/ketchup/ketchup/negentropy/SplitRule" "listsUpTo" "I" (.int (0 : Int32)) := D1 (Or.inr (hw _ (List.mem_of_getElem? (i := 10) rfl))) (ty := .int) (by decide)
  have F_mostRanges_b1 : Fld Z h1 b1 "com/example/ketchup/ketchup/negentropy/SplitRule" "mostRanges" "I" (.int (0 : Int32)) := D1 (Or.inr (hw _ (List.mem_of_getElem? (i := 12) rfl))) (ty := .int) (by decide)
  have F_recordsPerRange_b1 : Fld Z h1 b1 "com/example/ketchup/ketchup/negentropy/SplitRule" "recordsPerRange" "I" (.int (0 : Int32)) := D1 (Or.inr (hw _ (List.mem_of_getElem? (i := 14) rfl))) (ty := .int) (by decide)
  show own_Ends p.tables e below _ (T1.setTop (mkF m 3 #[.val (.int p0), .val (.int p1), .val (.int p2), .val (.int p3), .val (.int p4), .unset, .unset, .unset, .unset, .unset, .unset, .unset] [(.ref b1)]))
  refine own_step (fun _ k => XS.dup X1.here hx rfl (hb hby at_3) rfl rfl k) ?_
  show own_Ends p.tables e below _ (T1.setTop (mkF m 4 #[.val (.int p0), .val (.int p1), .val (.int p2), .val (.int p3), .val (.int p4), .unset, .unset, .unset, .unset, .unset, .unset, .unset] [(.ref b1), (.ref b1)]))
  refine own_step (fun _ k => XS.iloadN X1.here hx rfl (hb hby at_4) rfl k) ?_
  show own_Ends p.tables e below _ (T1.setTop (mkF m 5 #[.val (.int p0), .val (.int p1), .val (.int p2), .val (.int p3), .val (.int p4), .unset, .unset, .unset, .unset, .unset, .unset, .unset] [(.int p0), (.ref b1), (.ref b1)]))
  refine own_step (fun _ k => XS.iloadN X1.here hx rfl (hb hby at_5) rfl k) ?_
  show own_Ends p.tables e below _ (T1.setTop (mkF m 6 #[.val (.int p0), .val (.int p1), .val (.int p2), .val (.int p3), .val (.int p4), .unset, .unset, .unset, .unset, .unset, .unset, .unset] [(.int p1), (.int p0), (.ref b1), (.ref b1)]))
  refine own_step (fun _ k => XS.iloadN X1.here hx rfl (hb hby at_6) rfl k) ?_
  show own_Ends p.tables e below _ (T1.setTop (mkF m 7 #[.val (.int p0), .val (.int p1), .val (.int p2), .val (.int p3), .val (.int p4), .unset, .unset, .unset, .unset, .unset, .unset, .unset] [(.int p2), (.int p1), (.int p0), (.ref b1), (.ref b1)]))
  obtain ⟨_, _, ⟨T2, L2, k2, n2⟩, -, X2, ⟨Lc2, hQ2, l2, y2, z2⟩, st2⟩ := X1.specialBack hx (y := (⟨"com/example/ketchup/ketchup/negentropy/SplitRule", "<init>", "(III)V"⟩ : MethodName)) rfl hown (mvT hZ (hw _ (List.mem_of_getElem? (i := 3) rfl))) (mvT hZ (hw _ (List.mem_of_getElem? (i := 4) rfl))) (mvT hZ (hw _ (List.mem_of_getElem? (i := 5) rfl))) (by decide) (backOf (W := 1) (own_rm_init l Z a0 hw [] b1 p0 p1 p2 h1 n0 Z_1 A1 F_listsUpTo_b1 F_mostRanges_b1 F_recordsPerRange_b1 g_b1) hZ (hw _ (List.mem_of_getElem? (i := 5) rfl)) (hw _ (List.mem_of_getElem? (i := 2) rfl)) (by decide) (by decide)) (g := (mkF m 7 #[.val (.int p0), .val (.int p1), .val (.int p2), .val (.int p3), .val (.int p4), .unset, .unset, .unset, .unset, .unset, .unset, .unset] [(.int p2), (.int p1), (.int p0), (.ref b1), (.ref b1)])) rfl (by rw [hml]; rfl) (Steps.refl _) (a := b1) (argsL := [(.int p0), (.int p1), (.int p2)]) (rest := [(.ref b1)]) (lenOf own_pd1 rfl) rfl (by show 2 * 0 + _ ≤ _; exact Nat.le_of_eq rfl) (hb hby at_7) (fun _ _ => ⟨rfl, e1, (by decide : 1 + 0 ≤ _), (by decide : 3 + 0 ≤ _)⟩)
  dsimp only [Pt.U, Pt.locs, Pt.cells, Pt.slots] at X2 l2 y2 z2 st2 hQ2
  subst l2 y2 z2
  obtain ⟨rfl, N2q, k2, F2q⟩ := hQ2
  have N_2 := Fr.app N0 N2q
  have A1_2 := A1.keep k2
  have K_2 : Keep h0 T2.heap [] := K_1.trans k2 (allS (Or.inr sz_b1) all0)
  have Z_2 : n0 ≤ T2.heap.size := Nat.le_trans Z_1 k2.1
  refine own_step (fun _ k => st2.trans k) ?_
  show own_Ends p.tables e below _ (T2.setTop (mkF m 10 #[.val (.int p0), .val (.int p1), .val (.int p2), .val (.int p3), .val (.int p4), .unset, .unset, .unset, .unset, .unset, .unset, .unset] [(.ref b1)]))
  refine own_step (fun _ k => XS.astore X2.here hx rfl (hb hby at_10) rfl rfl (l' := #[.val (.int p0), .val (.int p1), .val (.int p2), .val (.int p3), .val (.int p4), .val (.ref b1), .unset, .unset, .unset, .unset, .unset, .unset]) rfl k) ?_
  show own_Ends p.tables e below _ (T2.setTop (mkF m 12 #[.val (.int p0), .val (.int p1), .val (.int p2), .val (.int p3), .val (.int p4), .val (.ref b1), .unset, .unset, .unset, .unset, .unset, .unset] []))
  refine own_step (fun _ k => XS.aload X2.here hx rfl (hb hby at_12) rfl rfl k) ?_
  show own_Ends p.tables e below _ (T2.setTop (mkF m 14 #[.val (.int p0), .val (.int p1), .val (.int p2), .val (.int p3), .val (.int p4), .val (.ref b1), .unset, .unset, .unset, .unset, .unset, .unset] [(.ref b1)]))
  refine own_step (fun _ k => XS.iloadN X2.here hx rfl (hb hby at_14) rfl k) ?_
  show own_Ends p.tables e below _ (T2.setTop (mkF m 15 #[.val (.int p0), .val (.int p1), .val (.int p2), .val (.int p3), .val (.int p4), .val (.ref b1), .unset, .unset, .unset, .unset, .unset, .unset] [(.int p0), (.ref b1)]))
  obtain ⟨cq3, kq3, q3a, q3b, q3c⟩ := isOf hZ rfl A1_2
  obtain ⟨_, _, ⟨T3, L3, k3, n3⟩, -, X3, ⟨Lc3, hQ3, l3, y3, z3⟩, st3⟩ := X2.virtualBack hx (y := (⟨"com/example/ketchup/ketchup/negentropy/SplitRule", "lists", "(I)Z"⟩ : MethodName)) (z := (⟨"com/example/ketchup/ketchup/negentropy/SplitRule", "lists", "(I)Z"⟩ : MethodName)) hown (mvT hZ (hw _ (List.mem_of_getElem? (i := 15) rfl))) (mvT hZ (hw _ (List.mem_of_getElem? (i := 16) rfl))) (notFace_of_selects (args := #[]) (mvT hZ (hw _ (List.mem_of_getElem? (i := 18) rfl)))) (mvT hZ (hw _ (List.mem_of_getElem? (i := 18) rfl))) (mvT hZ (hw _ (List.mem_of_getElem? (i := 17) rfl))) (by decide) (backOf (W := 0) (own_rm_lists l Z a0 hw [] b1 p0 p0 T2.heap n0 Z_2 F2q) hZ (hw _ (List.mem_of_getElem? (i := 19) rfl)) (hw _ (List.mem_of_getElem? (i := 2) rfl)) (by decide) (by decide)) q3a q3c (g := (mkF m 15 #[.val (.int p0), .val (.int p1), .val (.int p2), .val (.int p3), .val (.int p4), .val (.ref b1), .unset, .unset, .unset, .unset, .unset, .unset] [(.int p0), (.ref b1)])) rfl (by rw [hml]; rfl) (Steps.refl _) (argsL := [(.int p0)]) (rest := []) (lenOf own_pd2 rfl) rfl (by show 2 * 0 + _ ≤ _; exact Nat.le_of_eq rfl) (hb hby at_15) (fun _ _ => ⟨rfl, rfl, (by decide : 1 + 0 ≤ _), (by decide : 3 + 0 ≤ _)⟩)
  dsimp only [Pt.U, Pt.locs, Pt.cells, Pt.slots] at X3 l3 y3 z3 st3 hQ3
  subst l3 y3 z3
  obtain ⟨rfl, N3q, e3⟩ := hQ3
  have N_3 := Fr.app N_2 N3q
  refine own_step (fun _ k => st3.trans k) ?_
  show own_Ends p.tables e below _ (T3.setTop (mkF m 18 #[.val (.int p0), .val (.int p1), .val (.int p2), .val (.int p3), .val (.int p4), .val (.ref b1), .unset, .unset, .unset, .unset, .unset, .unset] [(.int (own_lists p0 p0))]))
  refine own_step (fun _ k => XS.istore X3.here hx rfl (hb hby at_18) rfl (l' := #[.val (.int p0), .val (.int p1), .val (.int p2), .val (.int p3), .val (.int p4), .val (.ref b1), .val (.int (own_lists p0 p0)), .unset, .unset, .unset, .unset, .unset]) rfl k) ?_
  show own_Ends p.tables e below _ (T3.setTop (mkF m 20 #[.val (.int p0), .val (.int p1), .val (.int p2), .val (.int p3), .val (.int p4), .val (.ref b1), .val (.int (own_lists p0 p0)), .unset, .unset, .unset, .unset, .unset] []))
  refine own_step (fun _ k => XS.iloadN X3.here hx rfl (hb hby at_20) rfl k) ?_
  show own_Ends p.tables e below _ (T3.setTop (mkF m 21 #[.val (.int p0), .val (.int p1), .val (.int p2), .val (.int p3), .val (.int p4), .val (.ref b1), .val (.int (own_lists p0 p0)), .unset, .unset, .unset, .unset, .unset] [(.int p0)]))
  refine own_step (fun _ k => X3.ldcInt hx hown (mvT hZ (hw _ (List.mem_of_getElem? (i := 20) rfl))) (g := (mkF m 21 #[.val (.int p0), .val (.int p1), .val (.int p2), .val (.int p3), .val (.int p4), .val (.ref b1), .val (.int (own_lists p0 p0)), .unset, .unset, .unset, .unset, .unset] [(.int p0)])) rfl (hb hby at_21) _ k) ?_
  show own_Ends p.tables e below _ (T3.setTop (mkF m 23 #[.val (.int p0), .val (.int p1), .val (.int p2), .val (.int p3), .val (.int p4), .val (.ref b1), .val (.int (own_lists p0 p0)), .unset, .unset, .unset, .unset, .unset] [(.int (2147483647 : Int32)), (.int p0)]))
  have jn46 : ∀ (Tj46 : State) (loj46 : List Loc) (Xj46 : Stand p l e room_1 s m #[(.int p0), (.int p1), (.int p2), (.int p3), (.int p4)] below meth c Tj46 loj46 1 3) (ej46 : Tj46.heap = T2.heap) (Nj46 : Fr n0 loj46), own_Ends p.tables e below (own_Q s (own_Q_law Z p0 p1 p2 p3 p4 h0 n0) room_1.cells room_1.slots) (Tj46.setTop (mkF m 46 #[.val (.int p0), .val (.int p1), .val (.int p2), .val (.int p3), .val (.int p4), .val (.ref b1), .val (.int (own_lists p0 p0)), .unset, .unset, .unset, .unset, .unset] [(.int (1 : Int32))])) := by
    intro Tj46 loj46 Xj46 ej46 Nj46
    refine own_step (fun _ k => XS.istore Xj46.here hx rfl (hb hby at_46) rfl (l' := #[.val (.int p0), .val (.int p1), .val (.int p2), .val (.int p3), .val (.int p4), .val (.ref b1), .val (.int (own_lists p0 p0)), .val (.int (1 : Int32)), .unset, .unset, .unset, .unset]) rfl k) ?_
    show own_Ends p.tables e below _ (Tj46.setTop (mkF m 48 #[.val (.int p0), .val (.int p1), .val (.int p2), .val (.int p3), .val (.int p4), .val (.ref b1), .val (.int (own_lists p0 p0)), .val (.int (1 : Int32)), .unset, .unset, .unset, .unset] []))
    refine own_step (fun _ k => XS.iloadN Xj46.here hx rfl (hb hby at_48) rfl k) ?_
    show own_Ends p.tables e below _ (Tj46.setTop (mkF m 49 #[.val (.int p0), .val (.int p1), .val (.int p2), .val (.int p3), .val (.int p4), .val (.ref b1), .val (.int (own_lists p0 p0)), .val (.int (1 : Int32)), .unset, .unset, .unset, .unset] [(.int p3)]))
    refine own_step (fun _ k => XS.iload Xj46.here hx rfl (hb hby at_49) rfl k) ?_
    show own_Ends p.tables e below _ (Tj46.setTop (mkF m 51 #[.val (.int p0), .val (.int p1), .val (.int p2), .val (.int p3), .val (.int p4), .val (.ref b1), .val (.int (own_lists p0 p0)), .val (.int (1 : Int32)), .unset, .unset, .unset, .unset] [(.int p4), (.int p3)]))
    obtain ⟨_, _, ⟨T4, L4, k4, n4⟩, -, X4, ⟨Lc4, hQ4, l4, y4, z4⟩, st4⟩ := Jvm.LawKit.callS Xj46 hx (y := (⟨"java/lang/Math", "min", "(II)I"⟩ : MethodName)) hown (mvT hZ (hw _ (List.mem_of_getElem? (i := 21) rfl))) (mvT hZ (hw _ (List.mem_of_getElem? (i := 22) rfl))) (mvT hZ (hw _ (List.mem_of_getElem? (i := 23) rfl))) (mvT hZ (hw _ (List.mem_of_getElem? (i := 24) rfl))) (by decide) (backOf (W := 0) (own_rm_minI l Z a0 hw [] p3 p4 T2.heap n0 Z_2 ) hZ (hw _ (List.mem_of_getElem? (i := 24) rfl)) (hw _ (List.mem_of_getElem? (i := 23) rfl)) (by decide) (by decide)) (g := (mkF m 51 #[.val (.int p0), .val (.int p1), .val (.int p2), .val (.int p3), .val (.int p4), .val (.ref b1), .val (.int (own_lists p0 p0)), .val (.int (1 : Int32)), .unset, .unset, .unset, .unset] [(.int p4), (.int p3)])) rfl (by rw [hml]; rfl) (argsL := [(.int p3), (.int p4)]) (rest := []) (lenOf own_pd3 rfl) rfl (by show 2 * 0 + _ ≤ _; exact Nat.le_of_eq rfl) (hb hby at_51) (fun _ _ => ⟨rfl, ej46, (by decide : 1 + 0 ≤ _), (by decide : 3 + 0 ≤ _)⟩)
    dsimp only [Pt.U, Pt.locs, Pt.cells, Pt.slots] at X4 l4 y4 z4 st4 hQ4
    subst l4 y4 z4
    obtain ⟨rfl, N4q, e4⟩ := hQ4
    have N_4 := Fr.app Nj46 N4q
    refine own_step st4 ?_
    show own_Ends p.tables e below _ (T4.setTop (mkF m 54 #[.val (.int p0), .val (.int p1), .val (.int p2), .val (.int p3), .val (.int p4), .val (.ref b1), .val (.int (own_lists p0 p0)), .val (.int (1 : Int32)), .unset, .unset, .unset, .unset] [(.int (own_minI p3 p4))]))
    refine own_step (fun _ k => XS.istore X4.here hx rfl (hb hby at_54) rfl (l' := #[.val (.int p0), .val (.int p1), .val (.int p2), .val (.int p3), .val (.int p4), .val (.ref b1), .val (.int (own_lists p0 p0)), .val (.int (1 : Int32)), .val (.int (own_minI p3 p4)), .unset, .unset, .unset]) rfl k) ?_
    show own_Ends p.tables e below _ (T4.setTop (mkF m 56 #[.val (.int p0), .val (.int p1), .val (.int p2), .val (.int p3), .val (.int p4), .val (.ref b1), .val (.int (own_lists p0 p0)), .val (.int (1 : Int32)), .val (.int (own_minI p3 p4)), .unset, .unset, .unset] []))
    refine own_step (fun _ k => XS.iloadN X4.here hx rfl (hb hby at_56) rfl k) ?_
    show own_Ends p.tables e below _ (T4.setTop (mkF m 57 #[.val (.int p0), .val (.int p1), .val (.int p2), .val (.int p3), .val (.int p4), .val (.ref b1), .val (.int (own_lists p0 p0)), .val (.int (1 : Int32)), .val (.int (own_minI p3 p4)), .unset, .unset, .unset] [(.int p3)]))
    refine own_step (fun _ k => XS.iload X4.here hx rfl (hb hby at_57) rfl k) ?_
    show own_Ends p.tables e below _ (T4.setTop (mkF m 59 #[.val (.int p0), .val (.int p1), .val (.int p2), .val (.int p3), .val (.int p4), .val (.ref b1), .val (.int (own_lists p0 p0)), .val (.int (1 : Int32)), .val (.int (own_minI p3 p4)), .unset, .unset, .unset] [(.int p4), (.int p3)]))
    obtain ⟨_, _, ⟨T5, L5, k5, n5⟩, -, X5, ⟨Lc5, hQ5, l5, y5, z5⟩, st5⟩ := Jvm.LawKit.callS X4 hx (y := (⟨"java/lang/Math", "max", "(II)I"⟩ : MethodName)) hown (mvT hZ (hw _ (List.mem_of_getElem? (i := 25) rfl))) (mvT hZ (hw _ (List.mem_of_getElem? (i := 26) rfl))) (mvT hZ (hw _ (List.mem_of_getElem? (i := 23) rfl))) (mvT hZ (hw _ (List.mem_of_getElem? (i := 27) rfl))) (by decide) (backOf (W := 0) (own_rm_maxI l Z a0 hw [] p3 p4 T2.heap n0 Z_2 ) hZ (hw _ (List.mem_of_getElem? (i := 27) rfl)) (hw _ (List.mem_of_getElem? (i := 23) rfl)) (by decide) (by decide)) (g := (mkF m 59 #[.val (.int p0), .val (.int p1), .val (.int p2), .val (.int p3), .val (.int p4), .val (.ref b1), .val (.int (own_lists p0 p0)), .val (.int (1 : Int32)), .val (.int (own_minI p3 p4)), .unset, .unset, .unset] [(.int p4), (.int p3)])) rfl (by rw [hml]; rfl) (argsL := [(.int p3), (.int p4)]) (rest := []) (lenOf own_pd3 rfl) rfl (by show 2 * 0 + _ ≤ _; exact Nat.le_of_eq rfl) (hb hby at_59) (fun _ _ => ⟨rfl, e4, (by decide : 1 + 0 ≤ _), (by decide : 3 + 0 ≤ _)⟩)
    dsimp only [Pt.U, Pt.locs, Pt.cells, Pt.slots] at X5 l5 y5 z5 st5 hQ5
    subst l5 y5 z5
    obtain ⟨rfl, N5q, e5⟩ := hQ5
    have N_5 := Fr.app N_4 N5q
    refine own_step st5 ?_
    show own_Ends p.tables e below _ (T5.setTop (mkF m 62 #[.val (.int p0), .val (.int p1), .val (.int p2), .val (.int p3), .val (.int p4), .val (.ref b1), .val (.int (own_lists p0 p0)), .val (.int (1 : Int32)), .val (.int (own_minI p3 p4)), .unset, .unset, .unset] [(.int (own_maxI p3 p4))]))
    refine own_step (fun _ k => XS.istore X5.here hx rfl (hb hby at_62) rfl (l' := #[.val (.int p0), .val (.int p1), .val (.int p2), .val (.int p3), .val (.int p4), .val (.ref b1), .val (.int (own_lists p0 p0)), .val (.int (1 : Int32)), .val (.int (own_minI p3 p4)), .val (.int (own_maxI p3 p4)), .unset, .unset]) rfl k) ?_
    show own_Ends p.tables e below _ (T5.setTop (mkF m 64 #[.val (.int p0), .val (.int p1), .val (.int p2), .val (.int p3), .val (.int p4), .val (.ref b1), .val (.int (own_lists p0 p0)), .val (.int (1 : Int32)), .val (.int (own_minI p3 p4)), .val (.int (own_maxI p3 p4)), .unset, .unset] []))
    refine own_step (fun _ k => XS.aload X5.here hx rfl (hb hby at_64) rfl rfl k) ?_
    show own_Ends p.tables e below _ (T5.setTop (mkF m 66 #[.val (.int p0), .val (.int p1), .val (.int p2), .val (.int p3), .val (.int p4), .val (.ref b1), .val (.int (own_lists p0 p0)), .val (.int (1 : Int32)), .val (.int (own_minI p3 p4)), .val (.int (own_maxI p3 p4)), .unset, .unset] [(.ref b1)]))
    refine own_step (fun _ k => XS.iload X5.here hx rfl (hb hby at_66) rfl k) ?_
    show own_Ends p.tables e below _ (T5.setTop (mkF m 68 #[.val (.int p0), .val (.int p1), .val (.int p2), .val (.int p3), .val (.int p4), .val (.ref b1), .val (.int (own_lists p0 p0)), .val (.int (1 : Int32)), .val (.int (own_minI p3 p4)), .val (.int (own_maxI p3 p4)), .unset, .unset] [(.int (own_maxI p3 p4)), (.ref b1)]))
    obtain ⟨cq6, kq6, q6a, q6b, q6c⟩ := isOf hZ e5 A1_2
    obtain ⟨_, _, ⟨T6, L6, k6, n6⟩, -, X6, ⟨Lc6, hQ6, l6, y6, z6⟩, st6⟩ := X5.virtualBack hx (y := (⟨"com/example/ketchup/ketchup/negentropy/SplitRule", "lists", "(I)Z"⟩ : MethodName)) (z := (⟨"com/example/ketchup/ketchup/negentropy/SplitRule", "lists", "(I)Z"⟩ : MethodName)) hown (mvT hZ (hw _ (List.mem_of_getElem? (i := 15) rfl))) (mvT hZ (hw _ (List.mem_of_getElem? (i := 16) rfl))) (notFace_of_selects (args := #[]) (mvT hZ (hw _ (List.mem_of_getElem? (i := 18) rfl)))) (mvT hZ (hw _ (List.mem_of_getElem? (i := 18) rfl))) (mvT hZ (hw _ (List.mem_of_getElem? (i := 17) rfl))) (by decide) (backOf (W := 0) (own_rm_lists l Z a0 hw [] b1 (own_maxI p3 p4) p0 T2.heap n0 Z_2 F2q) hZ (hw _ (List.mem_of_getElem? (i := 19) rfl)) (hw _ (List.mem_of_getElem? (i := 2) rfl)) (by decide) (by decide)) q6a q6c (g := (mkF m 68 #[.val (.int p0), .val (.int p1), .val (.int p2), .val (.int p3), .val (.int p4), .val (.ref b1), .val (.int (own_lists p0 p0)), .val (.int (1 : Int32)), .val (.int (own_minI p3 p4)), .val (.int (own_maxI p3 p4)), .unset, .unset] [(.int (own_maxI p3 p4)), (.ref b1)])) rfl (by rw [hml]; rfl) (Steps.refl _) (argsL := [(.int (own_maxI p3 p4))]) (rest := []) (lenOf own_pd2 rfl) rfl (by show 2 * 0 + _ ≤ _; exact Nat.le_of_eq rfl) (hb hby at_68) (fun _ _ => ⟨rfl, e5, (by decide : 1 + 0 ≤ _), (by decide : 3 + 0 ≤ _)⟩)
    dsimp only [Pt.U, Pt.locs, Pt.cells, Pt.slots] at X6 l6 y6 z6 st6 hQ6
    subst l6 y6 z6
    obtain ⟨rfl, N6q, e6⟩ := hQ6
    have N_6 := Fr.app N_5 N6q
    refine own_step (fun _ k => st6.trans k) ?_
    show own_Ends p.tables e below _ (T6.setTop (mkF m 71 #[.val (.int p0), .val (.int p1), .val (.int p2), .val (.int p3), .val (.int p4), .val (.ref b1), .val (.int (own_lists p0 p0)), .val (.int (1 : Int32)), .val (.int (own_minI p3 p4)), .val (.int (own_maxI p3 p4)), .unset, .unset] [(.int (own_lists (own_maxI p3 p4) p0))]))
    have jn89 : ∀ (Tj89 : State) (loj89 : List Loc) (Xj89 : Stand p l e room_1 s m #[(.int p0), (.int p1), (.int p2), (.int p3), (.int p4)] below meth c Tj89 loj89 1 3) (ej89 : Tj89.heap = T2.heap) (Nj89 : Fr n0 loj89), own_Ends p.tables e below (own_Q s (own_Q_law Z p0 p1 p2 p3 p4 h0 n0) room_1.cells room_1.slots) (Tj89.setTop (mkF m 89 #[.val (.int p0), .val (.int p1), .val (.int p2), .val (.int p3), .val (.int p4), .val (.ref b1), .val (.int (own_lists p0 p0)), .val (.int (1 : Int32)), .val (.int (own_minI p3 p4)), .val (.int (own_maxI p3 p4)), .unset, .unset] [(.int (1 : Int32))])) := by
      intro Tj89 loj89 Xj89 ej89 Nj89
      refine own_step (fun _ k => XS.istore Xj89.here hx rfl (hb hby at_89) rfl (l' := #[.val (.int p0), .val (.int p1), .val (.int p2), .val (.int p3), .val (.int p4), .val (.ref b1), .val (.int (own_lists p0 p0)), .val (.int (1 : Int32)), .val (.int (own_minI p3 p4)), .val (.int (own_maxI p3 p4)), .val (.int (1 : Int32)), .unset]) rfl k) ?_
      show own_Ends p.tables e below _ (Tj89.setTop (mkF m 91 #[.val (.int p0), .val (.int p1), .val (.int p2), .val (.int p3), .val (.int p4), .val (.ref b1), .val (.int (own_lists p0 p0)), .val (.int (1 : Int32)), .val (.int (own_minI p3 p4)), .val (.int (own_maxI p3 p4)), .val (.int (1 : Int32)), .unset] []))
      refine own_step (fun _ k => XS.aload Xj89.here hx rfl (hb hby at_91) rfl rfl k) ?_
      show own_Ends p.tables e below _ (Tj89.setTop (mkF m 93 #[.val (.int p0), .val (.int p1), .val (.int p2), .val (.int p3), .val (.int p4), .val (.ref b1), .val (.int (own_lists p0 p0)), .val (.int (1 : Int32)), .val (.int (own_minI p3 p4)), .val (.int (own_maxI p3 p4)), .val (.int (1 : Int32)), .unset] [(.ref b1)]))
      refine own_step (fun _ k => XS.iloadN Xj89.here hx rfl (hb hby at_93) rfl k) ?_
      show own_Ends p.tables e below _ (Tj89.setTop (mkF m 94 #[.val (.int p0), .val (.int p1), .val (.int p2), .val (.int p3), .val (.int p4), .val (.ref b1), .val (.int (own_lists p0 p0)), .val (.int (1 : Int32)), .val (.int (own_minI p3 p4)), .val (.int (own_maxI p3 p4)), .val (.int (1 : Int32)), .unset] [(.int p3), (.ref b1)]))
      obtain ⟨cq7, kq7, q7a, q7b, q7c⟩ := isOf hZ ej89 A1_2
      obtain ⟨_, _, ⟨T7, L7, k7, n7⟩, -, X7, ⟨Lc7, hQ7, l7, y7, z7⟩, st7⟩ := Xj89.virtualBack hx (y := (⟨"com/example/ketchup/ketchup/negentropy/SplitRule", "lists", "(I)Z"⟩ : MethodName)) (z := (⟨"com/example/ketchup/ketchup/negentropy/SplitRule", "lists", "(I)Z"⟩ : MethodName)) hown (mvT hZ (hw _ (List.mem_of_getElem? (i := 15) rfl))) (mvT hZ (hw _ (List.mem_of_getElem? (i := 16) rfl))) (notFace_of_selects (args := #[]) (mvT hZ (hw _ (List.mem_of_getElem? (i := 18) rfl)))) (mvT hZ (hw _ (List.mem_of_getElem? (i := 18) rfl))) (mvT hZ (hw _ (List.mem_of_getElem? (i := 17) rfl))) (by decide) (backOf (W := 0) (own_rm_lists l Z a0 hw [] b1 p3 p0 T2.heap n0 Z_2 F2q) hZ (hw _ (List.mem_of_getElem? (i := 19) rfl)) (hw _ (List.mem_of_getElem? (i := 2) rfl)) (by decide) (by decide)) q7a q7c (g := (mkF m 94 #[.val (.int p0), .val (.int p1), .val (.int p2), .val (.int p3), .val (.int p4), .val (.ref b1), .val (.int (own_lists p0 p0)), .val (.int (1 : Int32)), .val (.int (own_minI p3 p4)), .val (.int (own_maxI p3 p4)), .val (.int (1 : Int32)), .unset] [(.int p3), (.ref b1)])) rfl (by rw [hml]; rfl) (Steps.refl _) (argsL := [(.int p3)]) (rest := []) (lenOf own_pd2 rfl) rfl (by show 2 * 0 + _ ≤ _; exact Nat.le_of_eq rfl) (hb hby at_94) (fun _ _ => ⟨rfl, ej89, (by decide : 1 + 0 ≤ _), (by decide : 3 + 0 ≤ _)⟩)
      dsimp only [Pt.U, Pt.locs, Pt.cells, Pt.slots] at X7 l7 y7 z7 st7 hQ7
      subst l7 y7 z7
      obtain ⟨rfl, N7q, e7⟩ := hQ7
      have N_7 := Fr.app Nj89 N7q
      refine own_step (fun _ k => st7.trans k) ?_
      show own_Ends p.tables e below _ (T7.setTop (mkF m 97 #[.val (.int p0), .val (.int p1), .val (.int p2), .val (.int p3), .val (.int p4), .val (.ref b1), .val (.int (own_lists p0 p0)), .val (.int (1 : Int32)), .val (.int (own_minI p3 p4)), .val (.int (own_maxI p3 p4)), .val (.int (1 : Int32)), .unset] [(.int (own_lists p3 p0))]))
      refine own_step (fun _ k => XS.iloadN X7.here hx rfl (hb hby at_97) rfl k) ?_
      show own_Ends p.tables e below _ (T7.setTop (mkF m 98 #[.val (.int p0), .val (.int p1), .val (.int p2), .val (.int p3), .val (.int p4), .val (.ref b1), .val (.int (own_lists p0 p0)), .val (.int (1 : Int32)), .val (.int (own_minI p3 p4)), .val (.int (own_maxI p3 p4)), .val (.int (1 : Int32)), .unset] [(.int p3), (.int (own_lists p3 p0))]))
      refine own_step (fun _ k => XS.iloadN X7.here hx rfl (hb hby at_98) rfl k) ?_
      show own_Ends p.tables e below _ (T7.setTop (mkF m 99 #[.val (.int p0), .val (.int p1), .val (.int p2), .val (.int p3), .val (.int p4), .val (.ref b1), .val (.int (own_lists p0 p0)), .val (.int (1 : Int32)), .val (.int (own_minI p3 p4)), .val (.int (own_maxI p3 p4)), .val (.int (1 : Int32)), .unset] [(.int p0), (.int p3), (.int (own_lists p3 p0))]))
      by_cases hc99 : p0 < p3
      · refine own_step (fun _ k => XS.icmpYes X7.here hx rfl (pc0 := 99) (pc' := 106) rfl (hb hby at_99) rfl (tlt hc99).2.2.1 (by decide) (by decide) k) ?_
        show own_Ends p.tables e below _ (T7.setTop (mkF m 106 #[.val (.int p0), .val (.int p1), .val (.int p2), .val (.int p3), .val (.int p4), .val (.ref b1), .val (.int (own_lists p0 p0)), .val (.int (1 : Int32)), .val (.int (own_minI p3 p4)), .val (.int (own_maxI p3 p4)), .val (.int (1 : Int32)), .unset] [(.int (own_lists p3 p0))]))
        refine own_step (fun _ k => XS.iconst X7.here hx rfl (hb hby at_106) k) ?_
        show own_Ends p.tables e below _ (T7.setTop (mkF m 107 #[.val (.int p0), .val (.int p1), .val (.int p2), .val (.int p3), .val (.int p4), .val (.ref b1), .val (.int (own_lists p0 p0)), .val (.int (1 : Int32)), .val (.int (own_minI p3 p4)), .val (.int (own_maxI p3 p4)), .val (.int (1 : Int32)), .unset] [(.int (0 : Int32)), (.int (own_lists p3 p0))]))
        refine own_step (fun _ k => XS.icmpNo X7.here hx rfl (hb hby at_107) rfl (teq (own_l3 hc99)).2 k) ?_
        show own_Ends p.tables e below _ (T7.setTop (mkF m 110 #[.val (.int p0), .val (.int p1), .val (.int p2), .val (.int p3), .val (.int p4), .val (.ref b1), .val (.int (own_lists p0 p0)), .val (.int (1 : Int32)), .val (.int (own_minI p3 p4)), .val (.int (own_maxI p3 p4)), .val (.int (1 : Int32)), .unset] []))
        refine own_step (fun _ k => XS.iconst X7.here hx rfl (hb hby at_110) k) ?_
        show own_Ends p.tables e below _ (T7.setTop (mkF m 111 #[.val (.int p0), .val (.int p1), .val (.int p2), .val (.int p3), .val (.int p4), .val (.ref b1), .val (.int (own_lists p0 p0)), .val (.int (1 : Int32)), .val (.int (own_minI p3 p4)), .val (.int (own_maxI p3 p4)), .val (.int (1 : Int32)), .unset] [(.int (1 : Int32))]))
        refine own_step (fun _ k => XS.goto X7.here hx rfl (pc0 := 111) (pc' := 115) rfl (hb hby at_111) (by decide) (by decide) k) ?_
        show own_Ends p.tables e below _ (T7.setTop (mkF m 115 #[.val (.int p0), .val (.int p1), .val (.int p2), .val (.int p3), .val (.int p4), .val (.ref b1), .val (.int (own_lists p0 p0)), .val (.int (1 : Int32)), .val (.int (own_minI p3 p4)), .val (.int (own_maxI p3 p4)), .val (.int (1 : Int32)), .unset] [(.int (1 : Int32))]))
        refine own_step (fun _ k => XS.istore X7.here hx rfl (hb hby at_115) rfl (l' := #[.val (.int p0), .val (.int p1), .val (.int p2), .val (.int p3), .val (.int p4), .val (.ref b1), .val (.int (own_lists p0 p0)), .val (.int (1 : Int32)), .val (.int (own_minI p3 p4)), .val (.int (own_maxI p3 p4)), .val (.int (1 : Int32)), .val (.int (1 : Int32))]) rfl k) ?_
        show own_Ends p.tables e below _ (T7.setTop (mkF m 117 #[.val (.int p0), .val (.int p1), .val (.int p2), .val (.int p3), .val (.int p4), .val (.ref b1), .val (.int (own_lists p0 p0)), .val (.int (1 : Int32)), .val (.int (own_minI p3 p4)), .val (.int (own_maxI p3 p4)), .val (.int (1 : Int32)), .val (.int (1 : Int32))] []))
        refine own_step (fun _ k => XS.iload X7.here hx rfl (hb hby at_117) rfl k) ?_
        show own_Ends p.tables e below _ (T7.setTop (mkF m 119 #[.val (.int p0), .val (.int p1), .val (.int p2), .val (.int p3), .val (.int p4), .val (.ref b1), .val (.int (own_lists p0 p0)), .val (.int (1 : Int32)), .val (.int (own_minI p3 p4)), .val (.int (own_maxI p3 p4)), .val (.int (1 : Int32)), .val (.int (1 : Int32))] [(.int (own_lists p0 p0))]))
        refine own_step (fun _ k => XS.ifNo X7.here hx rfl (hb hby at_119) rfl ((if0 _ _).trans (feq (own_l0 p0)).1) k) ?_
        show own_Ends p.tables e below _ (T7.setTop (mkF m 122 #[.val (.int p0), .val (.int p1), .val (.int p2), .val (.int p3), .val (.int p4), .val (.ref b1), .val (.int (own_lists p0 p0)), .val (.int (1 : Int32)), .val (.int (own_minI p3 p4)), .val (.int (own_maxI p3 p4)), .val (.int (1 : Int32)), .val (.int (1 : Int32))] []))
        refine own_step (fun _ k => XS.iload X7.here hx rfl (hb hby at_122) rfl k) ?_
        show own_Ends p.tables e below _ (T7.setTop (mkF m 124 #[.val (.int p0), .val (.int p1), .val (.int p2), .val (.int p3), .val (.int p4), .val (.ref b1), .val (.int (own_lists p0 p0)), .val (.int (1 : Int32)), .val (.int (own_minI p3 p4)), .val (.int (own_maxI p3 p4)), .val (.int (1 : Int32)), .val (.int (1 : Int32))] [(.int (1 : Int32))]))
        refine own_step (fun _ k => XS.ifNo X7.here hx rfl (hb hby at_124) rfl ((if0 _ _).trans (feq (by decide)).1) k) ?_
        show own_Ends p.tables e below _ (T7.setTop (mkF m 127 #[.val (.int p0), .val (.int p1), .val (.int p2), .val (.int p3), .val (.int p4), .val (.ref b1), .val (.int (own_lists p0 p0)), .val (.int (1 : Int32)), .val (.int (own_minI p3 p4)), .val (.int (own_maxI p3 p4)), .val (.int (1 : Int32)), .val (.int (1 : Int32))] []))
        refine own_step (fun _ k => XS.iload X7.here hx rfl (hb hby at_127) rfl k) ?_
        show own_Ends p.tables e below _ (T7.setTop (mkF m 129 #[.val (.int p0), .val (.int p1), .val (.int p2), .val (.int p3), .val (.int p4), .val (.ref b1), .val (.int (own_lists p0 p0)), .val (.int (1 : Int32)), .val (.int (own_minI p3 p4)), .val (.int (own_maxI p3 p4)), .val (.int (1 : Int32)), .val (.int (1 : Int32))] [(.int (1 : Int32))]))
        refine own_step (fun _ k => XS.ifNo X7.here hx rfl (hb hby at_129) rfl ((if0 _ _).trans (feq (by decide)).1) k) ?_
        show own_Ends p.tables e below _ (T7.setTop (mkF m 132 #[.val (.int p0), .val (.int p1), .val (.int p2), .val (.int p3), .val (.int p4), .val (.ref b1), .val (.int (own_lists p0 p0)), .val (.int (1 : Int32)), .val (.int (own_minI p3 p4)), .val (.int (own_maxI p3 p4)), .val (.int (1 : Int32)), .val (.int (1 : Int32))] []))
        refine own_step (fun _ k => XS.iload X7.here hx rfl (hb hby at_132) rfl k) ?_
        show own_Ends p.tables e below _ (T7.setTop (mkF m 134 #[.val (.int p0), .val (.int p1), .val (.int p2), .val (.int p3), .val (.int p4), .val (.ref b1), .val (.int (own_lists p0 p0)), .val (.int (1 : Int32)), .val (.int (own_minI p3 p4)), .val (.int (own_maxI p3 p4)), .val (.int (1 : Int32)), .val (.int (1 : Int32))] [(.int (1 : Int32))]))
        refine own_step (fun _ k => XS.ifNo X7.here hx rfl (hb hby at_134) rfl ((if0 _ _).trans (feq (by decide)).1) k) ?_
        show own_Ends p.tables e below _ (T7.setTop (mkF m 137 #[.val (.int p0), .val (.int p1), .val (.int p2), .val (.int p3), .val (.int p4), .val (.ref b1), .val (.int (own_lists p0 p0)), .val (.int (1 : Int32)), .val (.int (own_minI p3 p4)), .val (.int (own_maxI p3 p4)), .val (.int (1 : Int32)), .val (.int (1 : Int32))] []))
        refine own_step (fun _ k => XS.iconst X7.here hx rfl (hb hby at_137) k) ?_
        show own_Ends p.tables e below _ (T7.setTop (mkF m 138 #[.val (.int p0), .val (.int p1), .val (.int p2), .val (.int p3), .val (.int p4), .val (.ref b1), .val (.int (own_lists p0 p0)), .val (.int (1 : Int32)), .val (.int (own_minI p3 p4)), .val (.int (own_maxI p3 p4)), .val (.int (1 : Int32)), .val (.int (1 : Int32))] [(.int (1 : Int32))]))
        refine own_step (fun _ k => XS.goto X7.here hx rfl (pc0 := 138) (pc' := 142) rfl (hb hby at_138) (by decide) (by decide) k) ?_
        show own_Ends p.tables e below _ (T7.setTop (mkF m 142 #[.val (.int p0), .val (.int p1), .val (.int p2), .val (.int p3), .val (.int p4), .val (.ref b1), .val (.int (own_lists p0 p0)), .val (.int (1 : Int32)), .val (.int (own_minI p3 p4)), .val (.int (own_maxI p3 p4)), .val (.int (1 : Int32)), .val (.int (1 : Int32))] [(.int (1 : Int32))]))
        exact own_retN X7 hx hlk (by decide) (by decide) (t := .boolean) Bd.returns (by simp) (hb hby at_142) (by rw [e7]; exact ⟨rfl, N_7⟩)
      · refine own_step (fun _ k => XS.icmpNo X7.here hx rfl (hb hby at_99) rfl (flt hc99).2.2.1 k) ?_
        show own_Ends p.tables e below _ (T7.setTop (mkF m 102 #[.val (.int p0), .val (.int p1), .val (.int p2), .val (.int p3), .val (.int p4), .val (.ref b1), .val (.int (own_lists p0 p0)), .val (.int (1 : Int32)), .val (.int (own_minI p3 p4)), .val (.int (own_maxI p3 p4)), .val (.int (1 : Int32)), .unset] [(.int (own_lists p3 p0))]))
        refine own_step (fun _ k => XS.iconst X7.here hx rfl (hb hby at_102) k) ?_
        show own_Ends p.tables e below _ (T7.setTop (mkF m 103 #[.val (.int p0), .val (.int p1), .val (.int p2), .val (.int p3), .val (.int p4), .val (.ref b1), .val (.int (own_lists p0 p0)), .val (.int (1 : Int32)), .val (.int (own_minI p3 p4)), .val (.int (own_maxI p3 p4)), .val (.int (1 : Int32)), .unset] [(.int (1 : Int32)), (.int (own_lists p3 p0))]))
        refine own_step (fun _ k => XS.goto X7.here hx rfl (pc0 := 103) (pc' := 107) rfl (hb hby at_103) (by decide) (by decide) k) ?_
        show own_Ends p.tables e below _ (T7.setTop (mkF m 107 #[.val (.int p0), .val (.int p1), .val (.int p2), .val (.int p3), .val (.int p4), .val (.ref b1), .val (.int (own_lists p0 p0)), .val (.int (1 : Int32)), .val (.int (own_minI p3 p4)), .val (.int (own_maxI p3 p4)), .val (.int (1 : Int32)), .unset] [(.int (1 : Int32)), (.int (own_lists p3 p0))]))
        refine own_step (fun _ k => XS.icmpNo X7.here hx rfl (hb hby at_107) rfl (teq (own_l4 hc99)).2 k) ?_
        show own_Ends p.tables e below _ (T7.setTop (mkF m 110 #[.val (.int p0), .val (.int p1), .val (.int p2), .val (.int p3), .val (.int p4), .val (.ref b1), .val (.int (own_lists p0 p0)), .val (.int (1 : Int32)), .val (.int (own_minI p3 p4)), .val (.int (own_maxI p3 p4)), .val (.int (1 : Int32)), .unset] []))
        refine own_step (fun _ k => XS.iconst X7.here hx rfl (hb hby at_110) k) ?_
        show own_Ends p.tables e below _ (T7.setTop (mkF m 111 #[.val (.int p0), .val (.int p1), .val (.int p2), .val (.int p3), .val (.int p4), .val (.ref b1), .val (.int (own_lists p0 p0)), .val (.int (1 : Int32)), .val (.int (own_minI p3 p4)), .val (.int (own_maxI p3 p4)), .val (.int (1 : Int32)), .unset] [(.int (1 : Int32))]))
        refine own_step (fun _ k => XS.goto X7.here hx rfl (pc0 := 111) (pc' := 115) rfl (hb hby at_111) (by decide) (by decide) k) ?_
        show own_Ends p.tables e below _ (T7.setTop (mkF m 115 #[.val (.int p0), .val (.int p1), .val (.int p2), .val (.int p3), .val (.int p4), .val (.ref b1), .val (.int (own_lists p0 p0)), .val (.int (1 : Int32)), .val (.int (own_minI p3 p4)), .val (.int (own_maxI p3 p4)), .val (.int (1 : Int32)), .unset] [(.int (1 : Int32))]))
        refine own_step (fun _ k => XS.istore X7.here hx rfl (hb hby at_115) rfl (l' := #[.val (.int p0), .val (.int p1), .val (.int p2), .val (.int p3), .val (.int p4), .val (.ref b1), .val (.int (own_lists p0 p0)), .val (.int (1 : Int32)), .val (.int (own_minI p3 p4)), .val (.int (own_maxI p3 p4)), .val (.int (1 : Int32)), .val (.int (1 : Int32))]) rfl k) ?_
        show own_Ends p.tables e below _ (T7.setTop (mkF m 117 #[.val (.int p0), .val (.int p1), .val (.int p2), .val (.int p3), .val (.int p4), .val (.ref b1), .val (.int (own_lists p0 p0)), .val (.int (1 : Int32)), .val (.int (own_minI p3 p4)), .val (.int (own_maxI p3 p4)), .val (.int (1 : Int32)), .val (.int (1 : Int32))] []))
        refine own_step (fun _ k => XS.iload X7.here hx rfl (hb hby at_117) rfl k) ?_
        show own_Ends p.tables e below _ (T7.setTop (mkF m 119 #[.val (.int p0), .val (.int p1), .val (.int p2), .val (.int p3), .val (.int p4), .val (.ref b1), .val (.int (own_lists p0 p0)), .val (.int (1 : Int32)), .val (.int (own_minI p3 p4)), .val (.int (own_maxI p3 p4)), .val (.int (1 : Int32)), .val (.int (1 : Int32))] [(.int (own_lists p0 p0))]))
        refine own_step (fun _ k => XS.ifNo X7.here hx rfl (hb hby at_119) rfl ((if0 _ _).trans (feq (own_l0 p0)).1) k) ?_
        show own_Ends p.tables e below _ (T7.setTop (mkF m 122 #[.val (.int p0), .val (.int p1), .val (.int p2), .val (.int p3), .val (.int p4), .val (.ref b1), .val (.int (own_lists p0 p0)), .val (.int (1 : Int32)), .val (.int (own_minI p3 p4)), .val (.int (own_maxI p3 p4)), .val (.int (1 : Int32)), .val (.int (1 : Int32))] []))
        refine own_step (fun _ k => XS.iload X7.here hx rfl (hb hby at_122) rfl k) ?_
        show own_Ends p.tables e below _ (T7.setTop (mkF m 124 #[.val (.int p0), .val (.int p1), .val (.int p2), .val (.int p3), .val (.int p4), .val (.ref b1), .val (.int (own_lists p0 p0)), .val (.int (1 : Int32)), .val (.int (own_minI p3 p4)), .val (.int (own_maxI p3 p4)), .val (.int (1 : Int32)), .val (.int (1 : Int32))] [(.int (1 : Int32))]))
        refine own_step (fun _ k => XS.ifNo X7.here hx rfl (hb hby at_124) rfl ((if0 _ _).trans (feq (by decide)).1) k) ?_
        show own_Ends p.tables e below _ (T7.setTop (mkF m 127 #[.val (.int p0), .val (.int p1), .val (.int p2), .val (.int p3), .val (.int p4), .val (.ref b1), .val (.int (own_lists p0 p0)), .val (.int (1 : Int32)), .val (.int (own_minI p3 p4)), .val (.int (own_maxI p3 p4)), .val (.int (1 : Int32)), .val (.int (1 : Int32))] []))
        refine own_step (fun _ k => XS.iload X7.here hx rfl (hb hby at_127) rfl k) ?_
        show own_Ends p.tables e below _ (T7.setTop (mkF m 129 #[.val (.int p0), .val (.int p1), .val (.int p2), .val (.int p3), .val (.int p4), .val (.ref b1), .val (.int (own_lists p0 p0)), .val (.int (1 : Int32)), .val (.int (own_minI p3 p4)), .val (.int (own_maxI p3 p4)), .val (.int (1 : Int32)), .val (.int (1 : Int32))] [(.int (1 : Int32))]))
        refine own_step (fun _ k => XS.ifNo X7.here hx rfl (hb hby at_129) rfl ((if0 _ _).trans (feq (by decide)).1) k) ?_
        show own_Ends p.tables e below _ (T7.setTop (mkF m 132 #[.val (.int p0), .val (.int p1), .val (.int p2), .val (.int p3), .val (.int p4), .val (.ref b1), .val (.int (own_lists p0 p0)), .val (.int (1 : Int32)), .val (.int (own_minI p3 p4)), .val (.int (own_maxI p3 p4)), .val (.int (1 : Int32)), .val (.int (1 : Int32))] []))
        refine own_step (fun _ k => XS.iload X7.here hx rfl (hb hby at_132) rfl k) ?_
        show own_Ends p.tables e below _ (T7.setTop (mkF m 134 #[.val (.int p0), .val (.int p1), .val (.int p2), .val (.int p3), .val (.int p4), .val (.ref b1), .val (.int (own_lists p0 p0)), .val (.int (1 : Int32)), .val (.int (own_minI p3 p4)), .val (.int (own_maxI p3 p4)), .val (.int (1 : Int32)), .val (.int (1 : Int32))] [(.int (1 : Int32))]))
        refine own_step (fun _ k => XS.ifNo X7.here hx rfl (hb hby at_134) rfl ((if0 _ _).trans (feq (by decide)).1) k) ?_
        show own_Ends p.tables e below _ (T7.setTop (mkF m 137 #[.val (.int p0), .val (.int p1), .val (.int p2), .val (.int p3), .val (.int p4), .val (.ref b1), .val (.int (own_lists p0 p0)), .val (.int (1 : Int32)), .val (.int (own_minI p3 p4)), .val (.int (own_maxI p3 p4)), .val (.int (1 : Int32)), .val (.int (1 : Int32))] []))
        refine own_step (fun _ k => XS.iconst X7.here hx rfl (hb hby at_137) k) ?_
        show own_Ends p.tables e below _ (T7.setTop (mkF m 138 #[.val (.int p0), .val (.int p1), .val (.int p2), .val (.int p3), .val (.int p4), .val (.ref b1), .val (.int (own_lists p0 p0)), .val (.int (1 : Int32)), .val (.int (own_minI p3 p4)), .val (.int (own_maxI p3 p4)), .val (.int (1 : Int32)), .val (.int (1 : Int32))] [(.int (1 : Int32))]))
        refine own_step (fun _ k => XS.goto X7.here hx rfl (pc0 := 138) (pc' := 142) rfl (hb hby at_138) (by decide) (by decide) k) ?_
        show own_Ends p.tables e below _ (T7.setTop (mkF m 142 #[.val (.int p0), .val (.int p1), .val (.int p2), .val (.int p3), .val (.int p4), .val (.ref b1), .val (.int (own_lists p0 p0)), .val (.int (1 : Int32)), .val (.int (own_minI p3 p4)), .val (.int (own_maxI p3 p4)), .val (.int (1 : Int32)), .val (.int (1 : Int32))] [(.int (1 : Int32))]))
        exact own_retN X7 hx hlk (by decide) (by decide) (t := .boolean) Bd.returns (by simp) (hb hby at_142) (by rw [e7]; exact ⟨rfl, N_7⟩)
    show own_Ends p.tables e below _ (T6.setTop (mkF m 71 #[.val (.int p0), .val (.int p1), .val (.int p2), .val (.int p3), .val (.int p4), .val (.ref b1), .val (.int (own_lists p0 p0)), .val (.int (1 : Int32)), .val (.int (own_minI p3 p4)), .val (.int (own_maxI p3 p4)), .unset, .unset] [(.int (own_lists (own_maxI p3 p4) p0))]))
    by_cases hc71 : (own_lists (own_maxI p3 p4) p0) = (0 : Int32)
    · refine own_step (fun _ k => XS.ifYes X6.here hx rfl (pc0 := 71) (pc' := 84) rfl (hb hby at_71) rfl ((if0 _ _).trans (teq hc71).1) (by decide) (by decide) k) ?_
      show own_Ends p.tables e below _ (T6.setTop (mkF m 84 #[.val (.int p0), .val (.int p1), .val (.int p2), .val (.int p3), .val (.int p4), .val (.ref b1), .val (.int (own_lists p0 p0)), .val (.int (1 : Int32)), .val (.int (own_minI p3 p4)), .val (.int (own_maxI p3 p4)), .unset, .unset] []))
      refine own_step (fun _ k => XS.iconst X6.here hx rfl (hb hby at_84) k) ?_
      show own_Ends p.tables e below _ (T6.setTop (mkF m 85 #[.val (.int p0), .val (.int p1), .val (.int p2), .val (.int p3), .val (.int p4), .val (.ref b1), .val (.int (own_lists p0 p0)), .val (.int (1 : Int32)), .val (.int (own_minI p3 p4)), .val (.int (own_maxI p3 p4)), .unset, .unset] [(.int (1 : Int32))]))
      refine own_step (fun _ k => XS.goto X6.here hx rfl (pc0 := 85) (pc' := 89) rfl (hb hby at_85) (by decide) (by decide) k) ?_
      show own_Ends p.tables e below _ (T6.setTop (mkF m 89 #[.val (.int p0), .val (.int p1), .val (.int p2), .val (.int p3), .val (.int p4), .val (.ref b1), .val (.int (own_lists p0 p0)), .val (.int (1 : Int32)), .val (.int (own_minI p3 p4)), .val (.int (own_maxI p3 p4)), .unset, .unset] [(.int (1 : Int32))]))
      exact jn89 _ _ X6 e6 N_6 
    · refine own_step (fun _ k => XS.ifNo X6.here hx rfl (hb hby at_71) rfl ((if0 _ _).trans (feq hc71).1) k) ?_
      show own_Ends p.tables e below _ (T6.setTop (mkF m 74 #[.val (.int p0), .val (.int p1), .val (.int p2), .val (.int p3), .val (.int p4), .val (.ref b1), .val (.int (own_lists p0 p0)), .val (.int (1 : Int32)), .val (.int (own_minI p3 p4)), .val (.int (own_maxI p3 p4)), .unset, .unset] []))
      refine own_step (fun _ k => XS.aload X6.here hx rfl (hb hby at_74) rfl rfl k) ?_
      show own_Ends p.tables e below _ (T6.setTop (mkF m 76 #[.val (.int p0), .val (.int p1), .val (.int p2), .val (.int p3), .val (.int p4), .val (.ref b1), .val (.int (own_lists p0 p0)), .val (.int (1 : Int32)), .val (.int (own_minI p3 p4)), .val (.int (own_maxI p3 p4)), .unset, .unset] [(.ref b1)]))
      refine own_step (fun _ k => XS.iload X6.here hx rfl (hb hby at_76) rfl k) ?_
      show own_Ends p.tables e below _ (T6.setTop (mkF m 78 #[.val (.int p0), .val (.int p1), .val (.int p2), .val (.int p3), .val (.int p4), .val (.ref b1), .val (.int (own_lists p0 p0)), .val (.int (1 : Int32)), .val (.int (own_minI p3 p4)), .val (.int (own_maxI p3 p4)), .unset, .unset] [(.int (own_minI p3 p4)), (.ref b1)]))
      obtain ⟨cq8, kq8, q8a, q8b, q8c⟩ := isOf hZ e6 A1_2
      obtain ⟨_, _, ⟨T8, L8, k8, n8⟩, -, X8, ⟨Lc8, hQ8, l8, y8, z8⟩, st8⟩ := X6.virtualBack hx (y := (⟨"com/example/ketchup/ketchup/negentropy/SplitRule", "lists", "(I)Z"⟩ : MethodName)) (z := (⟨"com/example/ketchup/ketchup/negentropy/SplitRule", "lists", "(I)Z"⟩ : MethodName)) hown (mvT hZ (hw _ (List.mem_of_getElem? (i := 15) rfl))) (mvT hZ (hw _ (List.mem_of_getElem? (i := 16) rfl))) (notFace_of_selects (args := #[]) (mvT hZ (hw _ (List.mem_of_getElem? (i := 18) rfl)))) (mvT hZ (hw _ (List.mem_of_getElem? (i := 18) rfl))) (mvT hZ (hw _ (List.mem_of_getElem? (i := 17) rfl))) (by decide) (backOf (W := 0) (own_rm_lists l Z a0 hw [] b1 (own_minI p3 p4) p0 T2.heap n0 Z_2 F2q) hZ (hw _ (List.mem_of_getElem? (i := 19) rfl)) (hw _ (List.mem_of_getElem? (i := 2) rfl)) (by decide) (by decide)) q8a q8c (g := (mkF m 78 #[.val (.int p0), .val (.int p1), .val (.int p2), .val (.int p3), .val (.int p4), .val (.ref b1), .val (.int (own_lists p0 p0)), .val (.int (1 : Int32)), .val (.int (own_minI p3 p4)), .val (.int (own_maxI p3 p4)), .unset, .unset] [(.int (own_minI p3 p4)), (.ref b1)])) rfl (by rw [hml]; rfl) (Steps.refl _) (argsL := [(.int (own_minI p3 p4))]) (rest := []) (lenOf own_pd2 rfl) rfl (by show 2 * 0 + _ ≤ _; exact Nat.le_of_eq rfl) (hb hby at_78) (fun _ _ => ⟨rfl, e6, (by decide : 1 + 0 ≤ _), (by decide : 3 + 0 ≤ _)⟩)
      dsimp only [Pt.U, Pt.locs, Pt.cells, Pt.slots] at X8 l8 y8 z8 st8 hQ8
      subst l8 y8 z8
      obtain ⟨rfl, N8q, e8⟩ := hQ8
      have N_8 := Fr.app N_6 N8q
      refine own_step (fun _ k => st8.trans k) ?_
      show own_Ends p.tables e below _ (T8.setTop (mkF m 81 #[.val (.int p0), .val (.int p1), .val (.int p2), .val (.int p3), .val (.int p4), .val (.ref b1), .val (.int (own_lists p0 p0)), .val (.int (1 : Int32)), .val (.int (own_minI p3 p4)), .val (.int (own_maxI p3 p4)), .unset, .unset] [(.int (own_lists (own_minI p3 p4) p0))]))
      refine own_step (fun _ k => XS.ifNo X8.here hx rfl (hb hby at_81) rfl ((if0 _ _).trans (feq (own_l2 _ _ _ hc71)).1) k) ?_
      show own_Ends p.tables e below _ (T8.setTop (mkF m 84 #[.val (.int p0), .val (.int p1), .val (.int p2), .val (.int p3), .val (.int p4), .val (.ref b1), .val (.int (own_lists p0 p0)), .val (.int (1 : Int32)), .val (.int (own_minI p3 p4)), .val (.int (own_maxI p3 p4)), .unset, .unset] []))
      refine own_step (fun _ k => XS.iconst X8.here hx rfl (hb hby at_84) k) ?_
      show own_Ends p.tables e below _ (T8.setTop (mkF m 85 #[.val (.int p0), .val (.int p1), .val (.int p2), .val (.int p3), .val (.int p4), .val (.ref b1), .val (.int (own_lists p0 p0)), .val (.int (1 : Int32)), .val (.int (own_minI p3 p4)), .val (.int (own_maxI p3 p4)), .unset, .unset] [(.int (1 : Int32))]))
      refine own_step (fun _ k => XS.goto X8.here hx rfl (pc0 := 85) (pc' := 89) rfl (hb hby at_85) (by decide) (by decide) k) ?_
      show own_Ends p.tables e below _ (T8.setTop (mkF m 89 #[.val (.int p0), .val (.int p1), .val (.int p2), .val (.int p3), .val (.int p4), .val (.ref b1), .val (.int (own_lists p0 p0)), .val (.int (1 : Int32)), .val (.int (own_minI p3 p4)), .val (.int (own_maxI p3 p4)), .unset, .unset] [(.int (1 : Int32))]))
      exact jn89 _ _ X8 e8 N_8 
  show own_Ends p.tables e below _ (T3.setTop (mkF m 23 #[.val (.int p0), .val (.int p1), .val (.int p2), .val (.int p3), .val (.int p4), .val (.ref b1), .val (.int (own_lists p0 p0)), .unset, .unset, .unset, .unset, .unset] [(.int (2147483647 : Int32)), (.int p0)]))
  by_cases hc23 : p0 = (2147483647 : Int32)
  · refine own_step (fun _ k => XS.icmpNo X3.here hx rfl (hb hby at_23) rfl (teq hc23).2 k) ?_
    show own_Ends p.tables e below _ (T3.setTop (mkF m 26 #[.val (.int p0), .val (.int p1), .val (.int p2), .val (.int p3), .val (.int p4), .val (.ref b1), .val (.int (own_lists p0 p0)), .unset, .unset, .unset, .unset, .unset] []))
    refine own_step (fun _ k => XS.iconst X3.here hx rfl (hb hby at_26) k) ?_
    show own_Ends p.tables e below _ (T3.setTop (mkF m 27 #[.val (.int p0), .val (.int p1), .val (.int p2), .val (.int p3), .val (.int p4), .val (.ref b1), .val (.int (own_lists p0 p0)), .unset, .unset, .unset, .unset, .unset] [(.int (1 : Int32))]))
    refine own_step (fun _ k => XS.goto X3.here hx rfl (pc0 := 27) (pc' := 46) rfl (hb hby at_27) (by decide) (by decide) k) ?_
    show own_Ends p.tables e below _ (T3.setTop (mkF m 46 #[.val (.int p0), .val (.int p1), .val (.int p2), .val (.int p3), .val (.int p4), .val (.ref b1), .val (.int (own_lists p0 p0)), .unset, .unset, .unset, .unset, .unset] [(.int (1 : Int32))]))
    exact jn46 _ _ X3 e3 N_3 
  · refine own_step (fun _ k => XS.icmpYes X3.here hx rfl (pc0 := 23) (pc' := 30) rfl (hb hby at_23) rfl (feq hc23).2 (by decide) (by decide) k) ?_
    show own_Ends p.tables e below _ (T3.setTop (mkF m 30 #[.val (.int p0), .val (.int p1), .val (.int p2), .val (.int p3), .val (.int p4), .val (.ref b1), .val (.int (own_lists p0 p0)), .unset, .unset, .unset, .unset, .unset] []))
    refine own_step (fun _ k => XS.aload X3.here hx rfl (hb hby at_30) rfl rfl k) ?_
    show own_Ends p.tables e below _ (T3.setTop (mkF m 32 #[.val (.int p0), .val (.int p1), .val (.int p2), .val (.int p3), .val (.int p4), .val (.ref b1), .val (.int (own_lists p0 p0)), .unset, .unset, .unset, .unset, .unset] [(.ref b1)]))
    refine own_step (fun _ k => XS.iloadN X3.here hx rfl (hb hby at_32) rfl k) ?_
    show own_Ends p.tables e below _ (T3.setTop (mkF m 33 #[.val (.int p0), .val (.int p1), .val (.int p2), .val (.int p3), .val (.int p4), .val (.ref b1), .val (.int (own_lists p0 p0)), .unset, .unset, .unset, .unset, .unset] [(.int p0), (.ref b1)]))
    refine own_step (fun _ k => XS.iconst X3.here hx rfl (hb hby at_33) k) ?_
    show own_Ends p.tables e below _ (T3.setTop (mkF m 34 #[.val (.int p0), .val (.int p1), .val (.int p2), .val (.int p3), .val (.int p4), .val (.ref b1), .val (.int (own_lists p0 p0)), .unset, .unset, .unset, .unset, .unset] [(.int (1 : Int32)), (.int p0), (.ref b1)]))
    refine own_step (fun _ k => XS.iadd X3.here hx rfl (hb hby at_34) rfl k) ?_
    show own_Ends p.tables e below _ (T3.setTop (mkF m 35 #[.val (.int p0), .val (.int p1), .val (.int p2), .val (.int p3), .val (.int p4), .val (.ref b1), .val (.int (own_lists p0 p0)), .unset, .unset, .unset, .unset, .unset] [(.int (p0 + (1 : Int32))), (.ref b1)]))
    obtain ⟨cq9, kq9, q9a, q9b, q9c⟩ := isOf hZ e3 A1_2
    obtain ⟨_, _, ⟨T9, L9, k9, n9⟩, -, X9, ⟨Lc9, hQ9, l9, y9, z9⟩, st9⟩ := X3.virtualBack hx (y := (⟨"com/example/ketchup/ketchup/negentropy/SplitRule", "lists", "(I)Z"⟩ : MethodName)) (z := (⟨"com/example/ketchup/ketchup/negentropy/SplitRule", "lists", "(I)Z"⟩ : MethodName)) hown (mvT hZ (hw _ (List.mem_of_getElem? (i := 15) rfl))) (mvT hZ (hw _ (List.mem_of_getElem? (i := 16) rfl))) (notFace_of_selects (args := #[]) (mvT hZ (hw _ (List.mem_of_getElem? (i := 18) rfl)))) (mvT hZ (hw _ (List.mem_of_getElem? (i := 18) rfl))) (mvT hZ (hw _ (List.mem_of_getElem? (i := 17) rfl))) (by decide) (backOf (W := 0) (own_rm_lists l Z a0 hw [] b1 (p0 + (1 : Int32)) p0 T2.heap n0 Z_2 F2q) hZ (hw _ (List.mem_of_getElem? (i := 19) rfl)) (hw _ (List.mem_of_getElem? (i := 2) rfl)) (by decide) (by decide)) q9a q9c (g := (mkF m 35 #[.val (.int p0), .val (.int p1), .val (.int p2), .val (.int p3), .val (.int p4), .val (.ref b1), .val (.int (own_lists p0 p0)), .unset, .unset, .unset, .unset, .unset] [(.int (p0 + (1 : Int32))), (.ref b1)])) rfl (by rw [hml]; rfl) (Steps.refl _) (argsL := [(.int (p0 + (1 : Int32)))]) (rest := []) (lenOf own_pd2 rfl) rfl (by show 2 * 0 + _ ≤ _; exact Nat.le_of_eq rfl) (hb hby at_35) (fun _ _ => ⟨rfl, e3, (by decide : 1 + 0 ≤ _), (by decide : 3 + 0 ≤ _)⟩)
    dsimp only [Pt.U, Pt.locs, Pt.cells, Pt.slots] at X9 l9 y9 z9 st9 hQ9
    subst l9 y9 z9
    obtain ⟨rfl, N9q, e9⟩ := hQ9
    have N_9 := Fr.app N_3 N9q
    refine own_step (fun _ k => st9.trans k) ?_
    show own_Ends p.tables e below _ (T9.setTop (mkF m 38 #[.val (.int p0), .val (.int p1), .val (.int p2), .val (.int p3), .val (.int p4), .val (.ref b1), .val (.int (own_lists p0 p0)), .unset, .unset, .unset, .unset, .unset] [(.int (own_lists (p0 + (1 : Int32)) p0))]))
    refine own_step (fun _ k => XS.ifNo X9.here hx rfl (hb hby at_38) rfl ((if0 _ _).trans (teq (own_l1 p0 hc23)).2) k) ?_
    show own_Ends p.tables e below _ (T9.setTop (mkF m 41 #[.val (.int p0), .val (.int p1), .val (.int p2), .val (.int p3), .val (.int p4), .val (.ref b1), .val (.int (own_lists p0 p0)), .unset, .unset, .unset, .unset, .unset] []))
    refine own_step (fun _ k => XS.iconst X9.here hx rfl (hb hby at_41) k) ?_
    show own_Ends p.tables e below _ (T9.setTop (mkF m 42 #[.val (.int p0), .val (.int p1), .val (.int p2), .val (.int p3), .val (.int p4), .val (.ref b1), .val (.int (own_lists p0 p0)), .unset, .unset, .unset, .unset, .unset] [(.int (1 : Int32))]))
    refine own_step (fun _ k => XS.goto X9.here hx rfl (pc0 := 42) (pc' := 46) rfl (hb hby at_42) (by decide) (by decide) k) ?_
    show own_Ends p.tables e below _ (T9.setTop (mkF m 46 #[.val (.int p0), .val (.int p1), .val (.int p2), .val (.int p3), .val (.int p4), .val (.ref b1), .val (.int (own_lists p0 p0)), .unset, .unset, .unset, .unset, .unset] [(.int (1 : Int32))]))
    exact jn46 _ _ X9 e9 N_9 
set_option maxRecDepth 65536 in
set_option maxHeartbeats 40000000 in
theorem own_comes_1 {Post : Tables → Env → Array Value → State → Outcome → State → Prop} (hpost : ∀ tb e args s v u, (limb_1_1.after args s (.returned v) u = true ∧ limb_1_2.after args s (.returned v) u = true ∧ True) → FrameEnd s (.returned v) u (Jvm.fieldLocs frame_1_writes args s ++ Jvm.arrayLocs frame_1_arrays args s ++ Jvm.staticLocs frame_1_statics s) 16 128 → Post tb e args s (.returned v) u) :
    ArmFor flags0 classFile x code maxLocals ret World_1 tables_1 room_1 Calls_1 rest_1 Pre_1 Post := by
  intro l hfl _ _ p e ha hc hk s m args below hf hA hF happ hP
  obtain ⟨hcalls, hrest, hpre⟩ := hP
  obtain ⟨-, -, -, hnamed, -, -, -, hat⟩ := (Spec.applies_iff hf).mp happ
  obtain ⟨hg, hn⟩ := and_e (Cond.before_iff.mp (show (Jvm.Cond.and given_1 narrow_1).before args s = true from hpre))
  obtain ⟨g0, r0⟩ := and_e hg
  obtain ⟨g1, r1⟩ := and_e r0
  obtain ⟨g2, r2⟩ := and_e r1
  obtain ⟨g3, r3⟩ := and_e r2
  obtain ⟨g4, r4⟩ := and_e r3
  obtain ⟨w0, w1, w2, w3, w4, rfl⟩ : ∃ w0 w1 w2 w3 w4 : Value, args = #[w0, w1, w2, w3, w4] := by
    have hs : args.size = 5 := by simpa [Cond.value, given_1] using g0
    obtain ⟨L⟩ := args
    match L, hs with
    | [w0, w1, w2, w3, w4], _ => exact ⟨w0, w1, w2, w3, w4, rfl⟩
  have hw := fun d (hd : d ∈ tables_1) => atoms_spec (ws := Jvm.Cond.code x code maxLocals ret :: tables_1) hat d (List.mem_cons_of_mem _ hd)
  have hfit : Fit s := fun {y c} hc i hi => by
    obtain ⟨ha, rfl⟩ := Array.getElem?_eq_some_iff.mp hc
    have q := List.all_eq_true.mp ((Array.all_eq_true_iff_forall_mem.mp hF) _ (Array.getElem_mem ha)) i (List.mem_range.mpr hi)
    simpa [Array.getElem?_eq_getElem hi] using q
  obtain ⟨i0, ei0⟩ := is_v g1
  obtain rfl : w0 = (.int i0) := Option.some.inj ei0
  obtain ⟨i1, ei1⟩ := is_v g2
  obtain rfl : w1 = (.int i1) := Option.some.inj ei1
  obtain ⟨i2, ei2⟩ := is_v g3
  obtain rfl : w2 = (.int i2) := Option.some.inj ei2
  obtain ⟨i3, ei3⟩ := is_v g4
  obtain rfl : w3 = (.int i3) := Option.some.inj ei3
  obtain ⟨i4, ei4⟩ := is_v r4
  obtain rfl : w4 = (.int i4) := Option.some.inj ei4
  obtain ⟨n, o, h1, h2, h3, _, L, rfl, ⟨rfl, N⟩, hq⟩ := own_rm_law l s _ hw tables_1 i0 i1 i2 i3 i4  s.heap s.heap.size (Nat.le_refl _)  p e ha hc hk s m _ below hf ((Spec.applies_iff_loose hf).mp happ).1 ⟨rfl, State.Warmed39.refl s, rfl⟩ trivial
  refine ⟨n, _, h1, h2, h3, hpost _ _ _ _ _ _ ⟨Cond.after_iff.mpr rfl, Cond.after_iff.mpr (eq_i res_at (Term.int_eval (1)) rfl), trivial⟩ ⟨hq.1, hq.2.1, (hq.2.2.sift fun y hy => Or.inr (N y hy)).mono (by decide) (by decide)⟩⟩
theorem main_1_1 : Claimed_1_1 := own_comes_1 fun _ _ _ _ _ _ h hF => ⟨h.1, hF⟩
theorem main_1_2 : Claimed_1_2 := own_comes_1 fun _ _ _ _ _ _ h hF => ⟨h.2.1, hF⟩
end Jvm.Pilot.@@N@@
namespace Jvm.Pilot.@@N@@
open Jvm Jvm.ClassFile Sem Op Lib Jvm.Free Jvm.Stand Jvm.Pilot.@@N@@.Jvm.D
/-! MADE BY PROGRAM (witnessworld.py) out of the Statement's table words and the real class files: 10 classes; the members and pool entries that the words name. The judged class is class 1, her method 1. -/
namespace start1
open Jvm.ClassFile
def u (s : String) : CpInfo := .utf8 (stringToUtf16 s)
/-- a pool by its gaps: so many unusable entries, then the entry; so many at the end -/
def gap : Nat → List CpInfo → List CpInfo
  | 0, r => r
  | n + 1, r => .unusable :: gap n r
def poolList (es : List (Nat × CpInfo)) (last : Nat) : List CpInfo := es.foldr (fun e r => gap e.1 (e.2 :: r)) (gap last [])
def pool (es : List (Nat × CpInfo)) (last : Nat) : Array CpInfo := ⟨poolList es last⟩
def fileOf (pool : Array CpInfo) (this : Nat) (attrs : Array Attribute := #[]) (ms : Array MethodInfo := #[]) (fl : Nat := 33) (sup : Nat := 0) (ifs : Array Nat := #[]) (fds : Array FieldInfo := #[]) : ClassFile where
  minorVersion := 0
  majorVersion := 65
  constantPool := pool
  accessFlags := fl
  thisClass := this
  superClass := sup
  interfaces := ifs
  fields := fds
  methods := ms
  attributes := attrs
def plain (name : String) (sup : Option ClassId) : Class where
  name := name
  kind := .ordinary
  loader := none
  accessFlags := 33
  super := sup
  interfaces := #[]
  cf := none
  fields := #[]
  methods := #[]
  instanceTypes := #[]
  staticTypes := #[]
  resolved := #[]
  callSites := []
  init := .initialized
  statics := none
  mirror := none

def pool0 : Array CpInfo := pool [(5, u "<init>"), (0, u "()V"), (1, .class_ 10), (1, u "java/lang/Object")] 113

def k0c0 : Code := { maxStack := 0, maxLocals := 1, code := object_method_1_code, exceptionTable := #[], attributes := #[] }
def k0m0 : Method := { name := "<init>", desc := "()V", sig := { parameters := [], returnType := none }, accessFlags := 1, code := some k0c0 }
/-- java/lang/Object -/
def k0 : Class := { plain "java/lang/Object" none with
  accessFlags := 33
  interfaces := #[]
  cf := some (fileOf pool0 8 #[] #[{ accessFlags := 1, nameIndex := 5, descriptorIndex := 6, attributes := #[] }] 33 0 #[] #[])
  fields := #[]
  methods := #[k0m0]
  instanceTypes := #[]
  staticTypes := #[]
  resolved := Array.replicate 124 none
  statics := none }

def pool1 : Array CpInfo := pool [(2, .class_ 4), (1, u "java/lang/Object"), (0, u "<init>"), (0, u "()V"), (0, .class_ 8), (0, u "com/example/ketchup/ketchup/negentropy/SplitRule"), (0, .methodref 7 10), (0, .nameAndType 5 11), (0, u "(III)V"), (0, .methodref 7 13), (0, .nameAndType 14 15), (0, u "lists"), (0, u "(I)Z"), (2, .integer 2147483647), (0, .methodref 20 21), (0, .class_ 22), (0, .nameAndType 23 24), (0, u "java/lang/Math"), (0, u "min"), (0, u "(II)I"), (0, .methodref 20 26), (0, .nameAndType 27 24), (0, u "max"), (0, .class_ 29), (0, u "com/example/ketchup/ketchup/negentropy/SplitRuleListsPinLaw"), (2, u "law"), (0, u "(IIIII)Z")] 3

def k1m0 : Method := { name := "<init>", desc := "()V", sig := { parameters := [], returnType := none }, accessFlags := 2, code := none }
def k1c1 : Code := { maxStack := 5, maxLocals := 12, code := code, exceptionTable := #[], attributes := #[] }
def k1m1 : Method := { name := "law", desc := "(IIIII)Z", sig := { parameters := [.int, .int, .int, .int, .int], returnType := some .boolean }, accessFlags := 9, code := some k1c1 }
/-- com/example/ketchup/ketchup/negentropy/SplitRuleListsPinLaw -/
def k1 : Class := { plain "com/example/ketchup/ketchup/negentropy/SplitRuleListsPinLaw" (some 0) with
  accessFlags := 49
  interfaces := #[]
  cf := some (fileOf pool1 28 #[] #[{ accessFlags := 2, nameIndex := 5, descriptorIndex := 6, attributes := #[] }, { accessFlags := 9, nameIndex := 32, descriptorIndex := 33, attributes := #[] }] 49 2 #[] #[])
  fields := #[]
  methods := #[k1m0, k1m1]
  instanceTypes := #[]
  staticTypes := #[]
  resolved := Array.replicate 37 none
  statics := none }

def pool2 : Array CpInfo := pool [(1, .methodref 2 3), (0, .class_ 4), (0, .nameAndType 5 6), (0, u "java/lang/Object"), (0, u "<init>"), (0, u "()V"), (0, .fieldref 8 9), (0, .class_ 10), (0, .nameAndType 11 12), (0, u "com/example/ketchup/ketchup/negentropy/SplitRule"), (0, u "listsUpTo"), (0, u "I"), (0, .fieldref 8 14), (0, .nameAndType 15 12), (0, u "mostRanges"), (0, .fieldref 8 17), (0, .nameAndType 18 12), (0, u "recordsPerRange"), (6, u "(III)V"), (2, u "lists"), (0, u "(I)Z")] 5

def k2c0 : Code := { maxStack := 2, maxLocals := 4, code := prog_29_method_1_code, exceptionTable := #[], attributes := #[] }
def k2m0 : Method := { name := "<init>", desc := "(III)V", sig := { parameters := [.int, .int, .int], returnType := none }, accessFlags := 0, code := some k2c0 }
def k2c1 : Code := { maxStack := 2, maxLocals := 2, code := prog_29_method_2_code, exceptionTable := #[], attributes := #[] }
def k2m1 : Method := { name := "lists", desc := "(I)Z", sig := { parameters := [.int], returnType := some .boolean }, accessFlags := 0, code := some k2c1 }
/-- com/example/ketchup/ketchup/negentropy/SplitRule -/
def k2 : Class := { plain "com/example/ketchup/ketchup/negentropy/SplitRule" (some 0) with
  accessFlags := 48
  interfaces := #[]
  cf := some (fileOf pool2 8 #[] #[{ accessFlags := 0, nameIndex := 5, descriptorIndex := 25, attributes := #[] }, { accessFlags := 0, nameIndex := 28, descriptorIndex := 29, attributes := #[] }] 48 2 #[] #[{ accessFlags := 18, nameIndex := 11, descriptorIndex := 12, attributes := #[] }, { accessFlags := 18, nameIndex := 15, descriptorIndex := 12, attributes := #[] }, { accessFlags := 18, nameIndex := 18, descriptorIndex := 12, attributes := #[] }])
  fields := #[{ name := "listsUpTo", type := .int, accessFlags := 18, slot := 0, constantValue := 0 }, { name := "mostRanges", type := .int, accessFlags := 18, slot := 1, constantValue := 0 }, { name := "recordsPerRange", type := .int, accessFlags := 18, slot := 2, constantValue := 0 }]
  methods := #[k2m0, k2m1]
  instanceTypes := #[.int, .int, .int]
  staticTypes := #[]
  resolved := Array.replicate 35 none
  statics := none }

def pool3 : Array CpInfo := pool [(1, .class_ 2), (0, u "java/lang/Math"), (1, .class_ 6), (1, u "java/lang/Object"), (0, u "<init>"), (0, u "()V"), (89, .class_ 100), (1, u "java/lang/Math$RandomNumberGeneratorHolder"), (71, u "negativeZeroFloatBits"), (0, u "J"), (2, u "negativeZeroDoubleBits"), (21, u "max"), (2, u "min"), (43, u "$assertionsDisabled"), (0, u "Z"), (88, u "(II)I"), (2, u "twoToTheDoubleScaleDown"), (0, u "D"), (4, u "twoToTheDoubleScaleUp"), (9, u "E"), (3, u "PI"), (2, u "TAU"), (2, u "DEGREES_TO_RADIANS"), (0, u "RADIANS_TO_DEGREES")] 94

def k3m0 : Method := { name := "<init>", desc := "()V", sig := { parameters := [], returnType := none }, accessFlags := 2, code := none }
def k3c1 : Code := { maxStack := 2, maxLocals := 2, code := jdk_29_method_65_code, exceptionTable := #[], attributes := #[] }
def k3m1 : Method := { name := "max", desc := "(II)I", sig := { parameters := [.int, .int], returnType := some .int }, accessFlags := 9, code := some k3c1 }
def k3c2 : Code := { maxStack := 2, maxLocals := 2, code := jdk_29_method_69_code, exceptionTable := #[], attributes := #[] }
def k3m2 : Method := { name := "min", desc := "(II)I", sig := { parameters := [.int, .int], returnType := some .int }, accessFlags := 9, code := some k3c2 }
/-- java/lang/Math -/
def k3 : Class := { plain "java/lang/Math" (some 0) with
  accessFlags := 49
  interfaces := #[]
  cf := some (fileOf pool3 1 #[.nestMembers #[98]] #[{ accessFlags := 2, nameIndex := 7, descriptorIndex := 8, attributes := #[] }, { accessFlags := 9, nameIndex := 198, descriptorIndex := 335, attributes := #[] }, { accessFlags := 9, nameIndex := 201, descriptorIndex := 335, attributes := #[] }] 49 4 #[] #[{ accessFlags := 25, nameIndex := 354, descriptorIndex := 339, attributes := #[] }, { accessFlags := 25, nameIndex := 358, descriptorIndex := 339, attributes := #[] }, { accessFlags := 25, nameIndex := 361, descriptorIndex := 339, attributes := #[] }, { accessFlags := 26, nameIndex := 364, descriptorIndex := 339, attributes := #[] }, { accessFlags := 26, nameIndex := 365, descriptorIndex := 339, attributes := #[] }, { accessFlags := 26, nameIndex := 172, descriptorIndex := 173, attributes := #[] }, { accessFlags := 26, nameIndex := 176, descriptorIndex := 173, attributes := #[] }, { accessFlags := 8, nameIndex := 344, descriptorIndex := 339, attributes := #[] }, { accessFlags := 8, nameIndex := 338, descriptorIndex := 339, attributes := #[] }, { accessFlags := 4120, nameIndex := 245, descriptorIndex := 246, attributes := #[] }])
  fields := #[{ name := "E", type := .double, accessFlags := 25, slot := 0, constantValue := 0 }, { name := "PI", type := .double, accessFlags := 25, slot := 1, constantValue := 0 }, { name := "TAU", type := .double, accessFlags := 25, slot := 2, constantValue := 0 }, { name := "DEGREES_TO_RADIANS", type := .double, accessFlags := 26, slot := 3, constantValue := 0 }, { name := "RADIANS_TO_DEGREES", type := .double, accessFlags := 26, slot := 4, constantValue := 0 }, { name := "negativeZeroFloatBits", type := .long, accessFlags := 26, slot := 5, constantValue := 0 }, { name := "negativeZeroDoubleBits", type := .long, accessFlags := 26, slot := 6, constantValue := 0 }, { name := "twoToTheDoubleScaleUp", type := .double, accessFlags := 8, slot := 7, constantValue := 0 }, { name := "twoToTheDoubleScaleDown", type := .double, accessFlags := 8, slot := 8, constantValue := 0 }, { name := "$assertionsDisabled", type := .boolean, accessFlags := 4120, slot := 9, constantValue := 0 }]
  methods := #[k3m0, k3m1, k3m2]
  instanceTypes := #[]
  staticTypes := #[.double, .double, .double, .double, .double, .long, .long, .double, .double, .boolean]
  resolved := Array.replicate 460 none
  statics := none }

def pool4 : Array CpInfo := pool [(1, u "java/lang/Cloneable"), (0, .class_ 1), (0, u "java/lang/Object"), (0, .class_ 3)] 3

/-- java/lang/Cloneable -/
def k4 : Class := { plain "java/lang/Cloneable" (some 0) with
  accessFlags := 1537
  interfaces := #[]
  cf := some (fileOf pool4 2 #[] #[] 1537 4 #[] #[])
  fields := #[]
  methods := #[]
  instanceTypes := #[]
  staticTypes := #[]
  resolved := Array.replicate 8 none
  statics := none }

def pool5 : Array CpInfo := pool [(1, u "java/io/Serializable"), (0, .class_ 1), (0, u "java/lang/Object"), (0, .class_ 3)] 3

/-- java/io/Serializable -/
def k5 : Class := { plain "java/io/Serializable" (some 0) with
  accessFlags := 1537
  interfaces := #[]
  cf := some (fileOf pool5 2 #[] #[] 1537 4 #[] #[])
  fields := #[]
  methods := #[]
  instanceTypes := #[]
  staticTypes := #[]
  resolved := Array.replicate 8 none
  statics := none }

/-- the primitive byte -/
def k6 : Class := { plain "byte" none with kind := .primitive 'B', accessFlags := 0x411 }
/-- [B -/
def k7 : Class := { plain "[B" (some 0) with kind := .array 6 .byte, interfaces := #[4, 5], accessFlags := 1041 }

/-- the primitive int -/
def k8 : Class := { plain "int" none with kind := .primitive 'I', accessFlags := 0x411 }
/-- [I -/
def k9 : Class := { plain "[I" (some 0) with kind := .array 8 .int, interfaces := #[4, 5], accessFlags := 1041 }

def heap : Heap := #[]
def classes : Array Class := #[k0, k1, k2, k3, k4, k5, k6, k7, k8, k9]
def interned : List (Array UInt16 × Addr) := []
def slotsUsed : Nat := 0
def theMethod : MethodId := ⟨1, 1⟩
def args0 : Array Value := #[.int 5, .int 3, .int 2, .int 7, .int 1]
def aboutOver (below : List Frame) : State where
  vm := { classes := classes, interned := interned.toArray }
  heap := heap
  slotsUsed := slotsUsed
  threads := #[{ frames := .invoking theMethod args0 :: below }]
def below0 : List Frame := [.native { method := ⟨0, 0⟩, args := #[] }]
def about1 : State := aboutOver below0
def p0 : Program := .bare "" "" ""
def e0 : Env := launch0.env 0 0 0
theorem w_frames : about1.frames = Frame.invoking theMethod args0 :: below0 := rfl
set_option maxRecDepth 65536 in
theorem w_args : argsFit about1.vm theMethod args0 = true := by decide +kernel
set_option maxRecDepth 65536 in
theorem w_heap : heapFits about1 = true := by decide +kernel
set_option maxRecDepth 65536 in
theorem w_runnable : about1.curStatus? = some .runnable := by decide +kernel
set_option maxRecDepth 65536 in
theorem w_alone : about1.alone = true := by decide +kernel
set_option maxRecDepth 65536 in
theorem w_named : about1.methodNamed? x = some theMethod := by decide +kernel
set_option maxRecDepth 65536 in
theorem w_hears : about1.hears theMethod below0 = true := by decide +kernel
set_option maxRecDepth 65536 in
theorem w_ripe : about1.ripe theMethod args0 below0 = true := by decide +kernel
theorem w_running : about1.status = .running := rfl
set_option maxRecDepth 65536 in
theorem w_room : about1.hasRoom e0.platform room_1 = true :=
  launch0.hasRoom_least _ room_1 (by decide +kernel) (by decide +kernel) (by decide +kernel) (by decide +kernel) (by decide +kernel) (by decide +kernel)
theorem allAtoms_all (ts : List Jvm.Cond) (a : Array Jvm.Value) (st : Jvm.State) : (allAtoms ts).before a st = ts.all (fun c => c.before a st) := by
  induction ts with
  | nil => rfl
  | cons c t ih =>
    show (Jvm.Cond.and c (allAtoms t)).before a st = _
    rw [Jvm.Cond.before_and, ih, List.all_cons]
def words1 : List Jvm.Cond := Jvm.Cond.code x code maxLocals ret :: tables_1
/-- a 'code' word, met by the world's own term for the bytes: nothing is compared byte by byte -/
theorem code_word {y : MethodName} {bytes : ByteArray} {mx : Nat} {rt : Option FieldType} {a : Array Value} {s : State} {m : MethodId} {meth : Method} {c : Code} (h1 : s.methodNamed? y = some m) (h2 : s.vm.method? m = some meth) (h3 : meth.code = some c) (h4 : c.code = bytes)
    (h5 : (c.maxLocals == mx && c.exceptionTable.isEmpty && decide (c.maxStack ≤ mostOperands) && decide (meth.sig.returnType = rt) && !meth.locks && decide (parseMethodDescriptor y.desc = some meth.sig)) = true) : (Jvm.Cond.code y bytes mx rt).before a s = true := by
  simp only [Bool.and_eq_true, beq_iff_eq, Bool.not_eq_true', decide_eq_true_eq] at h5
  obtain ⟨⟨⟨⟨⟨g1, g2⟩, g3⟩, g4⟩, g5⟩, g6⟩ := h5
  simp [Cond.before, Cond.holds, Cond.value, h1, h2, h3, h4, g1, g2, g3, g4, g5, g6]
def isCode : Jvm.Cond → Bool
  | .code _ _ _ _ => true
  | _ => false
theorem all_split {L : List Jvm.Cond} {P : Jvm.Cond → Bool} (h1 : L.all (fun c => isCode c || P c) = true) (h2 : ∀ c ∈ L.filter isCode, P c = true) : L.all P = true := by
  refine List.all_eq_true.mpr fun c hc => ?_
  have h := List.all_eq_true.mp h1 c hc
  rcases Bool.eq_false_or_eq_true (isCode c) with hi | hi
  · exact h2 c (List.mem_filter.mpr ⟨hc, hi⟩)
  · simpa [hi] using h
set_option maxRecDepth 65536 in
theorem w_c0 : (Jvm.Cond.code x code maxLocals ret).before args0 about1 = true := code_word (m := ⟨1, 1⟩) (meth := k1m1) (c := k1c1) (by decide +kernel) rfl rfl rfl (by decide +kernel)
set_option maxRecDepth 65536 in
theorem w_c1 : (Jvm.Cond.code ({ cls := "com/example/ketchup/ketchup/negentropy/SplitRule", name := "<init>", desc := "(III)V" } : Jvm.MethodName) prog_29_method_1_code (4 : Nat) (Option.none : Option Jvm.ClassFile.FieldType)).before args0 about1 = true := code_word (m := ⟨2, 0⟩) (meth := k2m0) (c := k2c0) (by decide +kernel) rfl rfl rfl (by decide +kernel)
set_option maxRecDepth 65536 in
theorem w_c2 : (Jvm.Cond.code ({ cls := "java/lang/Object", name := "<init>", desc := "()V" } : Jvm.MethodName) object_method_1_code (1 : Nat) (Option.none : Option Jvm.ClassFile.FieldType)).before args0 about1 = true := code_word (m := ⟨0, 0⟩) (meth := k0m0) (c := k0c0) (by decide +kernel) rfl rfl rfl (by decide +kernel)
set_option maxRecDepth 65536 in
theorem w_c3 : (Jvm.Cond.code ({ cls := "com/example/ketchup/ketchup/negentropy/SplitRule", name := "lists", desc := "(I)Z" } : Jvm.MethodName) prog_29_method_2_code (2 : Nat) (Option.some Jvm.ClassFile.FieldType.boolean)).before args0 about1 = true := code_word (m := ⟨2, 1⟩) (meth := k2m1) (c := k2c1) (by decide +kernel) rfl rfl rfl (by decide +kernel)
set_option maxRecDepth 65536 in
theorem w_c4 : (Jvm.Cond.code ({ cls := "java/lang/Math", name := "min", desc := "(II)I" } : Jvm.MethodName) jdk_29_method_69_code (2 : Nat) (Option.some Jvm.ClassFile.FieldType.int)).before args0 about1 = true := code_word (m := ⟨3, 2⟩) (meth := k3m2) (c := k3c2) (by decide +kernel) rfl rfl rfl (by decide +kernel)
set_option maxRecDepth 65536 in
theorem w_c5 : (Jvm.Cond.code ({ cls := "java/lang/Math", name := "max", desc := "(II)I" } : Jvm.MethodName) jdk_29_method_65_code (2 : Nat) (Option.some Jvm.ClassFile.FieldType.int)).before args0 about1 = true := code_word (m := ⟨3, 1⟩) (meth := k3m1) (c := k3c1) (by decide +kernel) rfl rfl rfl (by decide +kernel)
def codes1 : List Jvm.Cond := [Jvm.Cond.code x code maxLocals ret, Jvm.Cond.code ({ cls := "com/example/ketchup/ketchup/negentropy/SplitRule", name := "<init>", desc := "(III)V" } : Jvm.MethodName) prog_29_method_1_code (4 : Nat) (Option.none : Option Jvm.ClassFile.FieldType), Jvm.Cond.code ({ cls := "java/lang/Object", name := "<init>", desc := "()V" } : Jvm.MethodName) object_method_1_code (1 : Nat) (Option.none : Option Jvm.ClassFile.FieldType), Jvm.Cond.code ({ cls := "com/example/ketchup/ketchup/negentropy/SplitRule", name := "lists", desc := "(I)Z" } : Jvm.MethodName) prog_29_method_2_code (2 : Nat) (Option.some Jvm.ClassFile.FieldType.boolean), Jvm.Cond.code ({ cls := "java/lang/Math", name := "min", desc := "(II)I" } : Jvm.MethodName) jdk_29_method_69_code (2 : Nat) (Option.some Jvm.ClassFile.FieldType.int), Jvm.Cond.code ({ cls := "java/lang/Math", name := "max", desc := "(II)I" } : Jvm.MethodName) jdk_29_method_65_code (2 : Nat) (Option.some Jvm.ClassFile.FieldType.int)]
set_option maxRecDepth 65536 in
theorem codes_eq : words1.filter isCode = codes1 := rfl
theorem w_codes : ∀ c ∈ words1.filter isCode, c.before args0 about1 = true := by
  rw [codes_eq]
  intro c hc
  simp only [codes1, List.mem_cons, List.not_mem_nil, or_false] at hc
  rcases hc with rfl | rfl | rfl | rfl | rfl | rfl
  · exact w_c0
  · exact w_c1
  · exact w_c2
  · exact w_c3
  · exact w_c4
  · exact w_c5
set_option maxRecDepth 65536 in
theorem w_t1 : (words1.take 24).all (fun c => isCode c || c.before args0 about1) = true := by decide +kernel
set_option maxRecDepth 65536 in
theorem w_t2 : (words1.drop 24).all (fun c => isCode c || c.before args0 about1) = true := by decide +kernel
theorem w_tables : (allAtoms (Jvm.Cond.code x code maxLocals ret :: tables_1)).before args0 about1 = true := by
  rw [allAtoms_all]
  show words1.all (fun c => c.before args0 about1) = true
  refine all_split ?_ w_codes
  rw [← List.take_append_drop 24 words1, List.all_append, w_t1, w_t2]
  rfl
set_option maxRecDepth 65536 in
theorem w_case : (Jvm.Cond.and given_1 narrow_1).before args0 about1 = true := by decide +kernel
theorem w_applies : (headSpec (Jvm.Cond.code x code maxLocals ret :: tables_1) room_1).applies x e0.platform about1 = true :=
  (Spec.applies_iff w_frames).mpr ⟨w_running, w_runnable, w_alone, w_named, w_hears, w_ripe, w_room, w_tables⟩
theorem atStart : AtStart classFile x code maxLocals ret World_1 tables_1 room_1 Calls_1 rest_1 Pre_1 launch0 p0 e0 about1 theMethod args0 below0 :=
  ⟨lists_1, trivial, launch0.admits_env _ _ _, launch0.least_env, fairChoices_fair.cas, fairChoices_fair.clock, w_frames, w_args, w_heap, w_applies, trivial, trivial, w_case⟩
end start1
theorem witness_1 : WitnessClaimed_1 := ⟨start1.p0, start1.e0, start1.about1, start1.theMethod, start1.args0, start1.below0, start1.atStart⟩
end Jvm.Pilot.@@N@@
