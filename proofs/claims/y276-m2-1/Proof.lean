import JvmDerived
import JvmDerived.Pilot.@@N@@Statement
import JvmDerived.Pilot.@@N@@Code
set_option linter.unusedVariables false
set_option linter.unusedSimpArgs false
namespace Jvm.RoadKit
open Sem ClassFile Op Lib Jvm.Stand Jvm.Free Jvm.LawKit
section Own
variable {p : Program} {l : Launch} {e : Env} {R : Room} {s : State} {m : MethodId} {args : Array Value} {below : List Frame} {meth : Method} {c : Code} {T : State} {locs : List Loc} {cells slots : Nat}
theorem retI (X : Stand p l e R s m args below meth c T locs cells slots) (hx : p.tables.exec = Jvm.exec) {pc : Nat} {Ls : Array Slot} {z : Int32} {rest : List Value} (hret : meth.sig.returnType = some .int) (hd : decode c.code pc = .ok (.ireturn, 1)) {fs : List Frame}
    (hl : ∀ (f : JFrame) (acts : List Action), f.method = m → f.locked = none → f.entered = [] → (doReturn e (T.setTop f) acts (some (.int z))).1 = T.setFrames fs) : Steps p.tables e below (T.setTop (mkF m pc Ls (.int z :: rest))) (T.setFrames fs) := by
  have hm' : T.vm.method? m = some meth := X.method'
  have hn : narrow .int (.int z) = .int z := rfl
  show Steps p.tables e below (T.setTop { method := m, pc := pc, locals := Ls, stack := _ :: rest, locked := none }) _
  jvm_step X.here [X.here.top, hx, hd, hm', hret, hn]
  first | (intro acts; rw [hl _ acts rfl rfl rfl]) | rw [hl _ _ rfl rfl rfl]
  exact Steps.refl _
/-- from U the run comes to an end of which Qo holds -/
def own_Ends (tb : Tables) (e : Env) (below : List Frame) (Qo : Outcome → State → Prop) (U : State) : Prop := ∃ s₂ o, Steps tb e below U s₂ ∧ s₂.status = .running ∧ Ended s₂ below o ∧ Qo o s₂
def own_Q (s : State) (Q : Option Value → Heap → List Loc → Prop) (A B : Nat) : Outcome → State → Prop := fun o U' => ∃ v L, o = .returned v ∧ Q v U'.heap L ∧ FrameEnd s o U' L A B
theorem own_step {tb : Tables} {e : Env} {below : List Frame} {Qo : Outcome → State → Prop} {U V : State} (k : ∀ t, Steps tb e below V t → Steps tb e below U t) (h : own_Ends tb e below Qo V) : own_Ends tb e below Qo U := by
  obtain ⟨s₂, o, h1, h2⟩ := h; exact ⟨s₂, o, k _ h1, h2⟩
variable {Q : Option Value → Heap → List Loc → Prop} {A B : Nat}
theorem own_leave (X : Stand p l e R s m args below meth c T locs cells slots) (hlk : meth.locks = false) {v : Option Value} (hv : meth.sig.returnType = none → v = none) (ha : cells ≤ A) (hb : slots ≤ B) (hQ : Q v T.heap locs) {g : JFrame}
    (k : ∀ fs, (∀ (f : JFrame) (acts : List Action), f.method = m → f.locked = none → f.entered = [] → (doReturn e (T.setTop f) acts v).1 = T.setFrames fs) → Steps p.tables e below (T.setTop g) (T.setFrames fs)) : own_Ends p.tables e below (own_Q s Q A B) (T.setTop g) := by
  obtain ⟨fs, hr, hrun, hended, hW, hsame⟩ := X.leave (v := v) hv hlk
  exact ⟨_, _, k fs hr, hrun, hended, _, _, rfl, (show Q v T.heap locs from hQ), ⟨_, rfl⟩, hW, hsame.mono ha hb⟩
theorem own_retN (X : Stand p l e R s m args below meth c T locs cells slots) (hx : p.tables.exec = Jvm.exec) (hlk : meth.locks = false) (ha : cells ≤ A) (hb : slots ≤ B) {pc : Nat} {Ls : Array Slot} {z : Int32} {t : FieldType} {rest : List Value} (hret : meth.sig.returnType = some t) (ht : t = .boolean ∨ t = .byte ∨ t = .char ∨ t = .short)
    (hd : decode c.code pc = .ok (.ireturn, 1)) (hQ : Q (some (.int (nar t z))) T.heap locs) : own_Ends p.tables e below (own_Q s Q A B) (T.setTop (mkF m pc Ls (.int z :: rest))) :=
  own_leave X hlk (fun h => by rw [hret] at h; cases h) ha hb hQ fun fs hr => retN X hx hret ht hd hr
theorem own_retI (X : Stand p l e R s m args below meth c T locs cells slots) (hx : p.tables.exec = Jvm.exec) (hlk : meth.locks = false) (ha : cells ≤ A) (hb : slots ≤ B) {pc : Nat} {Ls : Array Slot} {z : Int32} {rest : List Value} (hret : meth.sig.returnType = some .int)
    (hd : decode c.code pc = .ok (.ireturn, 1)) (hQ : Q (some (.int z)) T.heap locs) : own_Ends p.tables e below (own_Q s Q A B) (T.setTop (mkF m pc Ls (.int z :: rest))) :=
  own_leave X hlk (fun h => by rw [hret] at h; cases h) ha hb hQ fun fs hr => retI X hx hret hd hr
theorem own_retJ (X : Stand p l e R s m args below meth c T locs cells slots) (hx : p.tables.exec = Jvm.exec) (hlk : meth.locks = false) (ha : cells ≤ A) (hb : slots ≤ B) {pc : Nat} {Ls : Array Slot} {z : Int64} {rest : List Value} (hret : meth.sig.returnType = some .long)
    (hd : decode c.code pc = .ok (.lreturn, 1)) (hQ : Q (some (.long z)) T.heap locs) : own_Ends p.tables e below (own_Q s Q A B) (T.setTop (mkF m pc Ls (.long z :: rest))) :=
  own_leave X hlk (fun h => by rw [hret] at h; cases h) ha hb hQ fun fs hr => by
    have hm' : T.vm.method? m = some meth := X.method'
    show Steps p.tables e below (T.setTop { method := m, pc := pc, locals := Ls, stack := _ :: rest, locked := none }) _
    jvm_step X.here [X.here.top, hx, hd, hm', hret, narrow]
    first | (intro acts; rw [hr _ acts rfl rfl rfl]) | rw [hr _ _ rfl rfl rfl]
    exact Steps.refl _
theorem own_retA (X : Stand p l e R s m args below meth c T locs cells slots) (hx : p.tables.exec = Jvm.exec) (hlk : meth.locks = false) (ha : cells ≤ A) (hb : slots ≤ B) {pc : Nat} {Ls : Array Slot} {z : Value} {t : FieldType} {rest : List Value} (hret : meth.sig.returnType = some t) (ht : t.isReference = true) (hz : z.isRef = true)
    (hd : decode c.code pc = .ok (.areturn, 1)) (hQ : Q (some z) T.heap locs) : own_Ends p.tables e below (own_Q s Q A B) (T.setTop (mkF m pc Ls (z :: rest))) :=
  own_leave X hlk (fun h => by rw [hret] at h; cases h) ha hb hQ fun fs hr => by
    have hm' : T.vm.method? m = some meth := X.method'
    show Steps p.tables e below (T.setTop { method := m, pc := pc, locals := Ls, stack := _ :: rest, locked := none }) _
    jvm_step X.here [X.here.top, hx, hd, hm', hret, ht, hz]
    first | (intro acts; rw [hr _ acts rfl rfl rfl]) | rw [hr _ _ rfl rfl rfl]
    exact Steps.refl _
theorem own_ret0 (X : Stand p l e R s m args below meth c T locs cells slots) (hx : p.tables.exec = Jvm.exec) (hlk : meth.locks = false) (ha : cells ≤ A) (hb : slots ≤ B) {pc : Nat} {Ls : Array Slot} (hret : meth.sig.returnType = none)
    (hd : decode c.code pc = .ok (.return_, 1)) (hQ : Q none T.heap locs) : own_Ends p.tables e below (own_Q s Q A B) (T.setTop (mkF m pc Ls [])) :=
  own_leave X hlk (fun _ => rfl) ha hb hQ fun fs hr => X.returnOut hx hret hd hr
theorem own_sel_priv {s : State} {args : Array Value} {n : Nat} {y : MethodName} (hy : y.cls ≠ "java/lang/invoke/MethodHandle" ∧ y.cls ≠ "java/lang/invoke/VarHandle") (hins : (Cond.instantiable y.cls n).before args s = true) (hpriv : (Cond.privateMethod y).before args s = true) (hinst : (Cond.instanceMethod y).before args s = true) :
    (Cond.selects y.cls y y).before args s = true := by
  obtain ⟨c, k, hc, hk, -, hniab, -, -⟩ := Cond.instantiable_spec hins
  have hni : k.isInterface = false := (Bool.or_eq_false_iff.mp hniab).1
  obtain ⟨mk, methM, hnamed, hmethM, -, -⟩ := Cond.instanceMethod_spec hinst
  have hfound : s.methodFound? y.cls y.name y.desc = some mk := State.methodFound?_of_named hnamed hy
  have hcls : mk.cls = c := Option.some.inj ((findClass_of_methodNamed hnamed).symm.trans hc)
  have hsel : selectMethod {} s.vm c mk = .method mk := selectMethod_private hmethM (Cond.privateMethod_at hpriv mk methM hnamed hmethM)
  simp only [Cond.before, Cond.holds, Cond.value, hc, hfound, hnamed, hsel, hcls, hk]
  simp; exact hni
theorem own_pop2J (X : Stand p l e R s m args below meth c T locs cells slots) (hx : p.tables.exec = Jvm.exec) {pc : Nat} {Ls : Array Slot} {z : Int64} {rest : List Value} (hd : decode c.code pc = .ok (.pop2, 1)) {target : State}
    (hr : Steps p.tables e below (T.setTop (mkF m (pc + 1) Ls rest)) target) : Steps p.tables e below (T.setTop (mkF m pc Ls (.long z :: rest))) target := by
  show Steps p.tables e below (T.setTop { method := m, pc := pc, locals := Ls, stack := _ :: rest, locked := none }) _
  jvm_step X.here [X.here.top, hx, hd, Value.category]
  exact hr
def own_NS (h : Heap) (x : Addr) : Prop := ∃ c : Cell, h[x]? = some c ∧ c.vm.isStatics = false
theorem own_ns_exa {Z : State} {h : Heap} {a : Addr} {C : String} (F : Exa Z h a C) : own_NS h a := by obtain ⟨c, k, h1, h2, h3, h4, h5⟩ := F; exact ⟨c, h1, h4⟩
theorem own_ns_arv {Z : State} {h : Heap} {a : Addr} {k : ClassId} {ty : FieldType} {z : Int32} {vs : List Value} {d : Value} (F : Arv Z h a k ty z vs d) : own_NS h a := by obtain ⟨c, A, -⟩ := F; exact ⟨c, A.1, A.plain⟩
theorem own_Sta_keep {Z : State} {h h' : Heap} {ws : List Addr} {C n d : String} {v : Value} (F : Sta Z h C n d v) (K : Keep h h' ws) (q : ∀ x ∈ ws, own_NS h x) : Sta Z h' C n d v := by
  obtain ⟨cf, i, k, f, st, cell, h1, h2, h3, h4, h5, h6, h7⟩ := F
  refine ⟨cf, i, k, f, st, cell, h1, h2, h3, h4, K.2.1 st cell h5 fun m => ?_, h6, h7⟩
  obtain ⟨c, e1, e2⟩ := q st m
  rw [h5] at e1; cases e1; rw [h6] at e2; cases e2
theorem own_lc_lt (x y : Int64) : lcmpW x y < 0 ↔ x < y := by rw [lcW]; exact lc_lt x y
theorem own_lc_gt (x y : Int64) : 0 < lcmpW x y ↔ y < x := by rw [lcW]; exact lc_gt x y
theorem own_lc_eq (x y : Int64) : lcmpW x y = 0 ↔ x = y := by rw [lcW]; exact lc_eq x y
end Own
end Jvm.RoadKit
namespace Jvm.Pilot.@@N@@
open Jvm Jvm.ClassFile Sem Op Lib Jvm.Free Jvm.Stand Jvm.LawKit Jvm.RoadKit Bundle Jvm.Pilot.@@N@@.Jvm.D
def own_counts (p : Int32) : Int32 := if p < 1 then 0 else if 999 < p then 0 else 1
def own_maxI (a b : Int32) : Int32 := if a < b then b else a
def own_minI (a b : Int32) : Int32 := if b < a then b else a
def own_cf (y z : Int32) : Int32 := if own_minI (own_maxI y 1) z = y then 1 else 0
theorem own_key (y : Int32) : own_counts y = own_cf y 999 := by
  unfold own_counts own_cf own_minI own_maxI
  have e1 : (1 : Int32).toInt = 1 := rfl
  have e9 : (999 : Int32).toInt = 999 := rfl
  have q : (1 : Int32) ≠ 0 := by decide
  simp only [Int32.lt_iff_toInt_lt, e1, e9, ← Int32.toInt_inj]
  split
  · rw [if_neg (by split <;> (try rw [e9]) <;> (try rw [e1]) <;> (try omega)
                   )]
  · split
    · rw [if_neg (by simp only [if_neg ‹¬ y.toInt < 1›, if_pos ‹999 < y.toInt›, e9]; omega)]
    · simp [if_neg ‹¬ y.toInt < 1›, if_neg ‹¬ 999 < y.toInt›]
theorem own_d1_0 : decode prog_113_method_1_code 0 = .ok (.iload_n 0, 1) := by decide +kernel
theorem own_d1_1 : decode prog_113_method_1_code 1 = .ok (.iconst 1, 1) := by decide +kernel
theorem own_d1_2 : decode prog_113_method_1_code 2 = .ok (.if_icmp .lt 14, 3) := by decide +kernel
theorem own_d1_5 : decode prog_113_method_1_code 5 = .ok (.iload_n 0, 1) := by decide +kernel
theorem own_d1_6 : decode prog_113_method_1_code 6 = .ok (.sipush 999, 3) := by decide +kernel
theorem own_d1_9 : decode prog_113_method_1_code 9 = .ok (.if_icmp .gt 7, 3) := by decide +kernel
theorem own_d1_12 : decode prog_113_method_1_code 12 = .ok (.iconst 1, 1) := by decide +kernel
theorem own_d1_13 : decode prog_113_method_1_code 13 = .ok (.goto 4, 3) := by decide +kernel
theorem own_d1_16 : decode prog_113_method_1_code 16 = .ok (.iconst 0, 1) := by decide +kernel
theorem own_d1_17 : decode prog_113_method_1_code 17 = .ok (.ireturn, 1) := by decide +kernel
theorem own_pn0 : plainName "com/example/covenantry/covenantry/model/RecurringDates" = true := by first | (simp [plainName, overriddenIn]; done) | decide +kernel
theorem own_ef_1 (m : MethodId) (x0 : Int32) : entryFrame m #[(.int x0)] 1 = mkF m 0 #[.val (.int x0)] [] := by first | (simp [entryFrame, mkF, argsToLocals, Value.category]; done) | rfl
def own_Q_counts (Z : State) (p0 : Int32) (h0 : Heap) (n0 : Nat) (v : Option Value) (h : Heap) (L : List Loc) : Prop := v = some (.int (own_counts p0)) ∧ Fr n0 L ∧ h = h0
set_option maxRecDepth 65536 in
set_option maxHeartbeats 40000000 in
theorem own_rm_counts (l : Launch) (Z : State) (a0 : Array Value) (hw : ∀ d ∈ tables_1, d.before a0 Z = true) (ws : List Jvm.Cond) (p0 : Int32) (h0 : Heap) (n0 : Nat) (Z0 : n0 ≤ h0.size) :
    MetFree l (⟨"com/example/covenantry/covenantry/model/RecurringDates", "countsYears", "(I)Z"⟩ : MethodName) (head1 (Jvm.Cond.code (⟨"com/example/covenantry/covenantry/model/RecurringDates", "countsYears", "(I)Z"⟩ : MethodName) prog_113_method_1_code 1 (some .boolean) :: ws) ({ frames := 0, cells := 0, slots := 0, locals := 0 } : Room)) (fun a U => a = #[(.int p0)] ∧ Z.Warmed39 U.vm ∧ U.heap = h0) (fun _ _ _ _ _ => True) (fun _ U o U' => ∃ v L, o = .returned v ∧ own_Q_counts Z p0 h0 n0 v U'.heap L ∧ FrameEnd U o U' L ({ frames := 0, cells := 0, slots := 0, locals := 0 } : Room).cells ({ frames := 0, cells := 0, slots := 0, locals := 0 } : Room).slots) := by
  refine MetFree.of_bodySF (plainFor_of_name own_pn0) hisR ?_
  intro p e s m args below meth c s₁ Bd hml0 hP hK
  obtain ⟨rfl, hZ, hh⟩ := hP
  have hx := Bd.exec
  have hby := Bd.bytes
  have hlk : meth.locks = false := BodyLoose.notSynchronized Bd
  have hml : c.maxLocals = 1 := hml0
  have hown : s.vm.findClass "com/example/covenantry/covenantry/model/RecurringDates" = some m.cls := findClass_of_methodNamed Bd.named
  have hnm := (name_of_methodNamed Bd.named Bd.method).1
  have X0 : Stand p l e ({ frames := 0, cells := 0, slots := 0, locals := 0 } : Room) s m #[(.int p0)] below meth c s₁ [] 0 0 := Stand.of_body Bd
  have e0 : s₁.heap = h0 := by rw [← hh, Bd.state]; rfl
  have N0 := Fr.nil n0
  have K0 : Keep h0 h0 [] := Keep.refl _ _
  have pre0 : ∀ t, Steps p.tables e below (s₁.setTop (mkF m 0 #[.val (.int p0)] [])) t → Steps p.tables e below (s₁.setTop (entryFrame m #[(.int p0)] 1)) t := fun t k => castTop (own_ef_1 m p0) k
  show own_Ends p.tables e below (own_Q s (own_Q_counts Z p0 h0 n0) ({ frames := 0, cells := 0, slots := 0, locals := 0 } : Room).cells ({ frames := 0, cells := 0, slots := 0, locals := 0 } : Room).slots) (s₁.setTop (entryFrame m #[(.int p0)] 1))
  refine own_step pre0 ?_
  show own_Ends p.tables e below _ (s₁.setTop (mkF m 0 #[.val (.int p0)] []))
  refine own_step (fun _ k => XS.iloadN X0.here hx rfl (hb hby own_d1_0) rfl k) ?_
  show own_Ends p.tables e below _ (s₁.setTop (mkF m 1 #[.val (.int p0)] [(.int p0)]))
  refine own_step (fun _ k => XS.iconst X0.here hx rfl (hb hby own_d1_1) k) ?_
  show own_Ends p.tables e below _ (s₁.setTop (mkF m 2 #[.val (.int p0)] [(.int (1 : Int32)), (.int p0)]))
  by_cases hc2 : p0 < (1 : Int32)
  · refine own_step (fun _ k => XS.icmpYes X0.here hx rfl (pc0 := 2) (pc' := 16) rfl (hb hby own_d1_2) rfl (tlt hc2).1 (by decide) (by decide) k) ?_
    show own_Ends p.tables e below _ (s₁.setTop (mkF m 16 #[.val (.int p0)] []))
    refine own_step (fun _ k => XS.iconst X0.here hx rfl (hb hby own_d1_16) k) ?_
    show own_Ends p.tables e below _ (s₁.setTop (mkF m 17 #[.val (.int p0)] [(.int (0 : Int32))]))
    exact own_retN X0 hx hlk (by decide) (by decide) (t := .boolean) Bd.returns (by simp) (hb hby own_d1_17) (by rw [e0]; exact ⟨by rw [show own_counts p0 = (0 : Int32) by simp [own_counts, hc2]]; rfl, N0, rfl⟩)
  · refine own_step (fun _ k => XS.icmpNo X0.here hx rfl (hb hby own_d1_2) rfl (flt hc2).1 k) ?_
    show own_Ends p.tables e below _ (s₁.setTop (mkF m 5 #[.val (.int p0)] []))
    refine own_step (fun _ k => XS.iloadN X0.here hx rfl (hb hby own_d1_5) rfl k) ?_
    show own_Ends p.tables e below _ (s₁.setTop (mkF m 6 #[.val (.int p0)] [(.int p0)]))
    refine own_step (fun _ k => XS.sipush X0.here hx rfl (hb hby own_d1_6) k) ?_
    show own_Ends p.tables e below _ (s₁.setTop (mkF m 9 #[.val (.int p0)] [(.int (999 : Int32)), (.int p0)]))
    by_cases hc9 : (999 : Int32) < p0
    · refine own_step (fun _ k => XS.icmpYes X0.here hx rfl (pc0 := 9) (pc' := 16) rfl (hb hby own_d1_9) rfl (tlt hc9).2.2.1 (by decide) (by decide) k) ?_
      show own_Ends p.tables e below _ (s₁.setTop (mkF m 16 #[.val (.int p0)] []))
      refine own_step (fun _ k => XS.iconst X0.here hx rfl (hb hby own_d1_16) k) ?_
      show own_Ends p.tables e below _ (s₁.setTop (mkF m 17 #[.val (.int p0)] [(.int (0 : Int32))]))
      exact own_retN X0 hx hlk (by decide) (by decide) (t := .boolean) Bd.returns (by simp) (hb hby own_d1_17) (by rw [e0]; exact ⟨by rw [show own_counts p0 = (0 : Int32) by simp [own_counts, hc2, hc9]]; rfl, N0, rfl⟩)
    · refine own_step (fun _ k => XS.icmpNo X0.here hx rfl (hb hby own_d1_9) rfl (flt hc9).2.2.1 k) ?_
      show own_Ends p.tables e below _ (s₁.setTop (mkF m 12 #[.val (.int p0)] []))
      refine own_step (fun _ k => XS.iconst X0.here hx rfl (hb hby own_d1_12) k) ?_
      show own_Ends p.tables e below _ (s₁.setTop (mkF m 13 #[.val (.int p0)] [(.int (1 : Int32))]))
      refine own_step (fun _ k => XS.goto X0.here hx rfl (pc0 := 13) (pc' := 17) rfl (hb hby own_d1_13) (by decide) (by decide) k) ?_
      show own_Ends p.tables e below _ (s₁.setTop (mkF m 17 #[.val (.int p0)] [(.int (1 : Int32))]))
      exact own_retN X0 hx hlk (by decide) (by decide) (t := .boolean) Bd.returns (by simp) (hb hby own_d1_17) (by rw [e0]; exact ⟨by rw [show own_counts p0 = (1 : Int32) by simp [own_counts, hc2, hc9]]; rfl, N0, rfl⟩)
theorem own_d3_0 : decode jdk_29_method_65_code 0 = .ok (.iload_n 0, 1) := by decide +kernel
theorem own_d3_1 : decode jdk_29_method_65_code 1 = .ok (.iload_n 1, 1) := by decide +kernel
theorem own_d3_2 : decode jdk_29_method_65_code 2 = .ok (.if_icmp .lt 7, 3) := by decide +kernel
theorem own_d3_5 : decode jdk_29_method_65_code 5 = .ok (.iload_n 0, 1) := by decide +kernel
theorem own_d3_6 : decode jdk_29_method_65_code 6 = .ok (.goto 4, 3) := by decide +kernel
theorem own_d3_9 : decode jdk_29_method_65_code 9 = .ok (.iload_n 1, 1) := by decide +kernel
theorem own_d3_10 : decode jdk_29_method_65_code 10 = .ok (.ireturn, 1) := by decide +kernel
theorem own_ef_3 (m : MethodId) (x0 : Int32) (x1 : Int32) : entryFrame m #[(.int x0), (.int x1)] 2 = mkF m 0 #[.val (.int x0), .val (.int x1)] [] := by first | (simp [entryFrame, mkF, argsToLocals, Value.category]; done) | rfl
def own_Q_maxI (Z : State) (p0 : Int32) (p1 : Int32) (h0 : Heap) (n0 : Nat) (v : Option Value) (h : Heap) (L : List Loc) : Prop := v = some (.int (own_maxI p0 p1)) ∧ Fr n0 L ∧ h = h0
set_option maxRecDepth 65536 in
set_option maxHeartbeats 40000000 in
theorem own_rm_maxI (l : Launch) (Z : State) (a0 : Array Value) (hw : ∀ d ∈ tables_1, d.before a0 Z = true) (ws : List Jvm.Cond) (p0 : Int32) (p1 : Int32) (h0 : Heap) (n0 : Nat) (Z0 : n0 ≤ h0.size) :
    MetFree l (⟨"java/lang/Math", "max", "(II)I"⟩ : MethodName) (head1 (Jvm.Cond.code (⟨"java/lang/Math", "max", "(II)I"⟩ : MethodName) jdk_29_method_65_code 2 (some .int) :: ws) ({ frames := 0, cells := 0, slots := 0, locals := 0 } : Room)) (fun a U => a = #[(.int p0), (.int p1)] ∧ Z.Warmed39 U.vm ∧ U.heap = h0) (fun _ _ _ _ _ => True) (fun _ U o U' => ∃ v L, o = .returned v ∧ own_Q_maxI Z p0 p1 h0 n0 v U'.heap L ∧ FrameEnd U o U' L ({ frames := 0, cells := 0, slots := 0, locals := 0 } : Room).cells ({ frames := 0, cells := 0, slots := 0, locals := 0 } : Room).slots) := by
  refine MetFree.of_bodySF (Jvm.Free.JP.mathPlain rfl (by decide +kernel)) hisR ?_
  intro p e s m args below meth c s₁ Bd hml0 hP hK
  obtain ⟨rfl, hZ, hh⟩ := hP
  have hx := Bd.exec
  have hby := Bd.bytes
  have hlk : meth.locks = false := BodyLoose.notSynchronized Bd
  have hml : c.maxLocals = 2 := hml0
  have hown : s.vm.findClass "java/lang/Math" = some m.cls := findClass_of_methodNamed Bd.named
  have hnm := (name_of_methodNamed Bd.named Bd.method).1
  have X0 : Stand p l e ({ frames := 0, cells := 0, slots := 0, locals := 0 } : Room) s m #[(.int p0), (.int p1)] below meth c s₁ [] 0 0 := Stand.of_body Bd
  have e0 : s₁.heap = h0 := by rw [← hh, Bd.state]; rfl
  have N0 := Fr.nil n0
  have K0 : Keep h0 h0 [] := Keep.refl _ _
  have pre0 : ∀ t, Steps p.tables e below (s₁.setTop (mkF m 0 #[.val (.int p0), .val (.int p1)] [])) t → Steps p.tables e below (s₁.setTop (entryFrame m #[(.int p0), (.int p1)] 2)) t := fun t k => castTop (own_ef_3 m p0 p1) k
  show own_Ends p.tables e below (own_Q s (own_Q_maxI Z p0 p1 h0 n0) ({ frames := 0, cells := 0, slots := 0, locals := 0 } : Room).cells ({ frames := 0, cells := 0, slots := 0, locals := 0 } : Room).slots) (s₁.setTop (entryFrame m #[(.int p0), (.int p1)] 2))
  refine own_step pre0 ?_
  show own_Ends p.tables e below _ (s₁.setTop (mkF m 0 #[.val (.int p0), .val (.int p1)] []))
  refine own_step (fun _ k => XS.iloadN X0.here hx rfl (hb hby own_d3_0) rfl k) ?_
  show own_Ends p.tables e below _ (s₁.setTop (mkF m 1 #[.val (.int p0), .val (.int p1)] [(.int p0)]))
  refine own_step (fun _ k => XS.iloadN X0.here hx rfl (hb hby own_d3_1) rfl k) ?_
  show own_Ends p.tables e below _ (s₁.setTop (mkF m 2 #[.val (.int p0), .val (.int p1)] [(.int p1), (.int p0)]))
  by_cases hc2 : p0 < p1
  · refine own_step (fun _ k => XS.icmpYes X0.here hx rfl (pc0 := 2) (pc' := 9) rfl (hb hby own_d3_2) rfl (tlt hc2).1 (by decide) (by decide) k) ?_
    show own_Ends p.tables e below _ (s₁.setTop (mkF m 9 #[.val (.int p0), .val (.int p1)] []))
    refine own_step (fun _ k => XS.iloadN X0.here hx rfl (hb hby own_d3_9) rfl k) ?_
    show own_Ends p.tables e below _ (s₁.setTop (mkF m 10 #[.val (.int p0), .val (.int p1)] [(.int p1)]))
    exact own_retI X0 hx hlk (by decide) (by decide) Bd.returns (hb hby own_d3_10) (by rw [e0]; exact ⟨by rw [show own_maxI p0 p1 = p1 by simp [own_maxI, hc2]], N0, rfl⟩)
  · refine own_step (fun _ k => XS.icmpNo X0.here hx rfl (hb hby own_d3_2) rfl (flt hc2).1 k) ?_
    show own_Ends p.tables e below _ (s₁.setTop (mkF m 5 #[.val (.int p0), .val (.int p1)] []))
    refine own_step (fun _ k => XS.iloadN X0.here hx rfl (hb hby own_d3_5) rfl k) ?_
    show own_Ends p.tables e below _ (s₁.setTop (mkF m 6 #[.val (.int p0), .val (.int p1)] [(.int p0)]))
    refine own_step (fun _ k => XS.goto X0.here hx rfl (pc0 := 6) (pc' := 10) rfl (hb hby own_d3_6) (by decide) (by decide) k) ?_
    show own_Ends p.tables e below _ (s₁.setTop (mkF m 10 #[.val (.int p0), .val (.int p1)] [(.int p0)]))
    exact own_retI X0 hx hlk (by decide) (by decide) Bd.returns (hb hby own_d3_10) (by rw [e0]; exact ⟨by rw [show own_maxI p0 p1 = p0 by simp [own_maxI, hc2]], N0, rfl⟩)
theorem own_d4_0 : decode jdk_29_method_69_code 0 = .ok (.iload_n 0, 1) := by decide +kernel
theorem own_d4_1 : decode jdk_29_method_69_code 1 = .ok (.iload_n 1, 1) := by decide +kernel
theorem own_d4_2 : decode jdk_29_method_69_code 2 = .ok (.if_icmp .gt 7, 3) := by decide +kernel
theorem own_d4_5 : decode jdk_29_method_69_code 5 = .ok (.iload_n 0, 1) := by decide +kernel
theorem own_d4_6 : decode jdk_29_method_69_code 6 = .ok (.goto 4, 3) := by decide +kernel
theorem own_d4_9 : decode jdk_29_method_69_code 9 = .ok (.iload_n 1, 1) := by decide +kernel
theorem own_d4_10 : decode jdk_29_method_69_code 10 = .ok (.ireturn, 1) := by decide +kernel
theorem own_ef_4 (m : MethodId) (x0 : Int32) (x1 : Int32) : entryFrame m #[(.int x0), (.int x1)] 2 = mkF m 0 #[.val (.int x0), .val (.int x1)] [] := by first | (simp [entryFrame, mkF, argsToLocals, Value.category]; done) | rfl
def own_Q_minI (Z : State) (p0 : Int32) (p1 : Int32) (h0 : Heap) (n0 : Nat) (v : Option Value) (h : Heap) (L : List Loc) : Prop := v = some (.int (own_minI p0 p1)) ∧ Fr n0 L ∧ h = h0
set_option maxRecDepth 65536 in
set_option maxHeartbeats 40000000 in
theorem own_rm_minI (l : Launch) (Z : State) (a0 : Array Value) (hw : ∀ d ∈ tables_1, d.before a0 Z = true) (ws : List Jvm.Cond) (p0 : Int32) (p1 : Int32) (h0 : Heap) (n0 : Nat) (Z0 : n0 ≤ h0.size) :
    MetFree l (⟨"java/lang/Math", "min", "(II)I"⟩ : MethodName) (head1 (Jvm.Cond.code (⟨"java/lang/Math", "min", "(II)I"⟩ : MethodName) jdk_29_method_69_code 2 (some .int) :: ws) ({ frames := 0, cells := 0, slots := 0, locals := 0 } : Room)) (fun a U => a = #[(.int p0), (.int p1)] ∧ Z.Warmed39 U.vm ∧ U.heap = h0) (fun _ _ _ _ _ => True) (fun _ U o U' => ∃ v L, o = .returned v ∧ own_Q_minI Z p0 p1 h0 n0 v U'.heap L ∧ FrameEnd U o U' L ({ frames := 0, cells := 0, slots := 0, locals := 0 } : Room).cells ({ frames := 0, cells := 0, slots := 0, locals := 0 } : Room).slots) := by
  refine MetFree.of_bodySF (Jvm.Free.JP.mathPlain rfl (by decide +kernel)) hisR ?_
  intro p e s m args below meth c s₁ Bd hml0 hP hK
  obtain ⟨rfl, hZ, hh⟩ := hP
  have hx := Bd.exec
  have hby := Bd.bytes
  have hlk : meth.locks = false := BodyLoose.notSynchronized Bd
  have hml : c.maxLocals = 2 := hml0
  have hown : s.vm.findClass "java/lang/Math" = some m.cls := findClass_of_methodNamed Bd.named
  have hnm := (name_of_methodNamed Bd.named Bd.method).1
  have X0 : Stand p l e ({ frames := 0, cells := 0, slots := 0, locals := 0 } : Room) s m #[(.int p0), (.int p1)] below meth c s₁ [] 0 0 := Stand.of_body Bd
  have e0 : s₁.heap = h0 := by rw [← hh, Bd.state]; rfl
  have N0 := Fr.nil n0
  have K0 : Keep h0 h0 [] := Keep.refl _ _
  have pre0 : ∀ t, Steps p.tables e below (s₁.setTop (mkF m 0 #[.val (.int p0), .val (.int p1)] [])) t → Steps p.tables e below (s₁.setTop (entryFrame m #[(.int p0), (.int p1)] 2)) t := fun t k => castTop (own_ef_4 m p0 p1) k
  show own_Ends p.tables e below (own_Q s (own_Q_minI Z p0 p1 h0 n0) ({ frames := 0, cells := 0, slots := 0, locals := 0 } : Room).cells ({ frames := 0, cells := 0, slots := 0, locals := 0 } : Room).slots) (s₁.setTop (entryFrame m #[(.int p0), (.int p1)] 2))
  refine own_step pre0 ?_
  show own_Ends p.tables e below _ (s₁.setTop (mkF m 0 #[.val (.int p0), .val (.int p1)] []))
  refine own_step (fun _ k => XS.iloadN X0.here hx rfl (hb hby own_d4_0) rfl k) ?_
  show own_Ends p.tables e below _ (s₁.setTop (mkF m 1 #[.val (.int p0), .val (.int p1)] [(.int p0)]))
  refine own_step (fun _ k => XS.iloadN X0.here hx rfl (hb hby own_d4_1) rfl k) ?_
  show own_Ends p.tables e below _ (s₁.setTop (mkF m 2 #[.val (.int p0), .val (.int p1)] [(.int p1), (.int p0)]))
  by_cases hc2 : p1 < p0
  · refine own_step (fun _ k => XS.icmpYes X0.here hx rfl (pc0 := 2) (pc' := 9) rfl (hb hby own_d4_2) rfl (tlt hc2).2.2.1 (by decide) (by decide) k) ?_
    show own_Ends p.tables e below _ (s₁.setTop (mkF m 9 #[.val (.int p0), .val (.int p1)] []))
    refine own_step (fun _ k => XS.iloadN X0.here hx rfl (hb hby own_d4_9) rfl k) ?_
    show own_Ends p.tables e below _ (s₁.setTop (mkF m 10 #[.val (.int p0), .val (.int p1)] [(.int p1)]))
    exact own_retI X0 hx hlk (by decide) (by decide) Bd.returns (hb hby own_d4_10) (by rw [e0]; exact ⟨by rw [show own_minI p0 p1 = p1 by simp [own_minI, hc2]], N0, rfl⟩)
  · refine own_step (fun _ k => XS.icmpNo X0.here hx rfl (hb hby own_d4_2) rfl (flt hc2).2.2.1 k) ?_
    show own_Ends p.tables e below _ (s₁.setTop (mkF m 5 #[.val (.int p0), .val (.int p1)] []))
    refine own_step (fun _ k => XS.iloadN X0.here hx rfl (hb hby own_d4_5) rfl k) ?_
    show own_Ends p.tables e below _ (s₁.setTop (mkF m 6 #[.val (.int p0), .val (.int p1)] [(.int p0)]))
    refine own_step (fun _ k => XS.goto X0.here hx rfl (pc0 := 6) (pc' := 10) rfl (hb hby own_d4_6) (by decide) (by decide) k) ?_
    show own_Ends p.tables e below _ (s₁.setTop (mkF m 10 #[.val (.int p0), .val (.int p1)] [(.int p0)]))
    exact own_retI X0 hx hlk (by decide) (by decide) Bd.returns (hb hby own_d4_10) (by rw [e0]; exact ⟨by rw [show own_minI p0 p1 = p0 by simp [own_minI, hc2]], N0, rfl⟩)
theorem own_pd0 : parseMethodDescriptor "(II)I" = some ⟨[.int, .int], some .int⟩ := by decide +kernel
theorem own_d2_0 : decode method_2_code 0 = .ok (.iload_n 0, 1) := by decide +kernel
theorem own_d2_1 : decode method_2_code 1 = .ok (.iconst 1, 1) := by decide +kernel
theorem own_d2_2 : decode method_2_code 2 = .ok (.invokestatic 7, 3) := by decide +kernel
theorem own_d2_5 : decode method_2_code 5 = .ok (.iload_n 1, 1) := by decide +kernel
theorem own_d2_6 : decode method_2_code 6 = .ok (.invokestatic 13, 3) := by decide +kernel
theorem own_d2_9 : decode method_2_code 9 = .ok (.iload_n 0, 1) := by decide +kernel
theorem own_d2_10 : decode method_2_code 10 = .ok (.if_icmp .ne 7, 3) := by decide +kernel
theorem own_d2_13 : decode method_2_code 13 = .ok (.iconst 1, 1) := by decide +kernel
theorem own_d2_14 : decode method_2_code 14 = .ok (.goto 4, 3) := by decide +kernel
theorem own_d2_17 : decode method_2_code 17 = .ok (.iconst 0, 1) := by decide +kernel
theorem own_d2_18 : decode method_2_code 18 = .ok (.ireturn, 1) := by decide +kernel
theorem own_pn1 : plainName "com/example/covenantry/covenantry/model/RecurringDatesCountsYearsPinLaw" = true := by first | (simp [plainName, overriddenIn]; done) | decide +kernel
theorem own_ef_2 (m : MethodId) (x0 : Int32) (x1 : Int32) : entryFrame m #[(.int x0), (.int x1)] 2 = mkF m 0 #[.val (.int x0), .val (.int x1)] [] := by first | (simp [entryFrame, mkF, argsToLocals, Value.category]; done) | rfl
def own_Q_cf (Z : State) (p0 : Int32) (p1 : Int32) (h0 : Heap) (n0 : Nat) (v : Option Value) (h : Heap) (L : List Loc) : Prop := v = some (.int (own_cf p0 p1)) ∧ Fr n0 L ∧ h = h0
set_option maxRecDepth 65536 in
set_option maxHeartbeats 40000000 in
theorem own_rm_cf (l : Launch) (Z : State) (a0 : Array Value) (hw : ∀ d ∈ tables_1, d.before a0 Z = true) (ws : List Jvm.Cond) (p0 : Int32) (p1 : Int32) (h0 : Heap) (n0 : Nat) (Z0 : n0 ≤ h0.size) :
    MetFree l (⟨"com/example/covenantry/covenantry/model/RecurringDatesCountsYearsPinLaw", "clampFixed", "(II)Z"⟩ : MethodName) (head1 (Jvm.Cond.code (⟨"com/example/covenantry/covenantry/model/RecurringDatesCountsYearsPinLaw", "clampFixed", "(II)Z"⟩ : MethodName) method_2_code 2 (some .boolean) :: ws) ({ frames := 1, cells := 0, slots := 0, locals := 13 } : Room)) (fun a U => a = #[(.int p0), (.int p1)] ∧ Z.Warmed39 U.vm ∧ U.heap = h0) (fun _ _ _ _ _ => True) (fun _ U o U' => ∃ v L, o = .returned v ∧ own_Q_cf Z p0 p1 h0 n0 v U'.heap L ∧ FrameEnd U o U' L ({ frames := 1, cells := 0, slots := 0, locals := 13 } : Room).cells ({ frames := 1, cells := 0, slots := 0, locals := 13 } : Room).slots) := by
  refine MetFree.of_bodySF (plainFor_of_name own_pn1) hisR ?_
  intro p e s m args below meth c s₁ Bd hml0 hP hK
  obtain ⟨rfl, hZ, hh⟩ := hP
  have hx := Bd.exec
  have hby := Bd.bytes
  have hlk : meth.locks = false := BodyLoose.notSynchronized Bd
  have hml : c.maxLocals = 2 := hml0
  have hown : s.vm.findClass "com/example/covenantry/covenantry/model/RecurringDatesCountsYearsPinLaw" = some m.cls := findClass_of_methodNamed Bd.named
  have hnm := (name_of_methodNamed Bd.named Bd.method).1
  have X0 : Stand p l e ({ frames := 1, cells := 0, slots := 0, locals := 13 } : Room) s m #[(.int p0), (.int p1)] below meth c s₁ [] 0 0 := Stand.of_body Bd
  have e0 : s₁.heap = h0 := by rw [← hh, Bd.state]; rfl
  have N0 := Fr.nil n0
  have K0 : Keep h0 h0 [] := Keep.refl _ _
  have pre0 : ∀ t, Steps p.tables e below (s₁.setTop (mkF m 0 #[.val (.int p0), .val (.int p1)] [])) t → Steps p.tables e below (s₁.setTop (entryFrame m #[(.int p0), (.int p1)] 2)) t := fun t k => castTop (own_ef_2 m p0 p1) k
  show own_Ends p.tables e below (own_Q s (own_Q_cf Z p0 p1 h0 n0) ({ frames := 1, cells := 0, slots := 0, locals := 13 } : Room).cells ({ frames := 1, cells := 0, slots := 0, locals := 13 } : Room).slots) (s₁.setTop (entryFrame m #[(.int p0), (.int p1)] 2))
  refine own_step pre0 ?_
  show own_Ends p.tables e below _ (s₁.setTop (mkF m 0 #[.val (.int p0), .val (.int p1)] []))
  refine own_step (fun _ k => XS.iloadN X0.here hx rfl (hb hby own_d2_0) rfl k) ?_
  show own_Ends p.tables e below _ (s₁.setTop (mkF m 1 #[.val (.int p0), .val (.int p1)] [(.int p0)]))
  refine own_step (fun _ k => XS.iconst X0.here hx rfl (hb hby own_d2_1) k) ?_
  show own_Ends p.tables e below _ (s₁.setTop (mkF m 2 #[.val (.int p0), .val (.int p1)] [(.int (1 : Int32)), (.int p0)]))
  obtain ⟨_, _, ⟨T1, L1, k1, n1⟩, -, X1, ⟨Lc1, hQ1, l1, y1, z1⟩, st1⟩ := Jvm.LawKit.callS X0 hx (y := (⟨"java/lang/Math", "max", "(II)I"⟩ : MethodName)) hown (mvT hZ (hw _ (List.mem_of_getElem? (i := 8) rfl))) (mvT hZ (hw _ (List.mem_of_getElem? (i := 9) rfl))) (mvT hZ (hw _ (List.mem_of_getElem? (i := 10) rfl))) (mvT hZ (hw _ (List.mem_of_getElem? (i := 11) rfl))) (by decide) (backOf (W := 0) (own_rm_maxI l Z a0 hw [] p0 (1 : Int32) h0 n0 Z0 ) hZ (hw _ (List.mem_of_getElem? (i := 11) rfl)) (hw _ (List.mem_of_getElem? (i := 10) rfl)) (by decide) (by decide)) (g := (mkF m 2 #[.val (.int p0), .val (.int p1)] [(.int (1 : Int32)), (.int p0)])) rfl (by rw [hml]; rfl) (argsL := [(.int p0), (.int (1 : Int32))]) (rest := []) (lenOf own_pd0 rfl) rfl (by show 2 * 0 + _ ≤ _; exact Nat.le_of_eq rfl) (hb hby own_d2_2) (fun _ _ => ⟨rfl, e0, (by decide : 0 + 0 ≤ _), (by decide : 0 + 0 ≤ _)⟩)
  dsimp only [Pt.U, Pt.locs, Pt.cells, Pt.slots] at X1 l1 y1 z1 st1 hQ1
  subst l1 y1 z1
  obtain ⟨rfl, N1q, e1⟩ := hQ1
  have N_1 := Fr.app N0 N1q
  refine own_step st1 ?_
  show own_Ends p.tables e below _ (T1.setTop (mkF m 5 #[.val (.int p0), .val (.int p1)] [(.int (own_maxI p0 (1 : Int32)))]))
  refine own_step (fun _ k => XS.iloadN X1.here hx rfl (hb hby own_d2_5) rfl k) ?_
  show own_Ends p.tables e below _ (T1.setTop (mkF m 6 #[.val (.int p0), .val (.int p1)] [(.int p1), (.int (own_maxI p0 (1 : Int32)))]))
  obtain ⟨_, _, ⟨T2, L2, k2, n2⟩, -, X2, ⟨Lc2, hQ2, l2, y2, z2⟩, st2⟩ := Jvm.LawKit.callS X1 hx (y := (⟨"java/lang/Math", "min", "(II)I"⟩ : MethodName)) hown (mvT hZ (hw _ (List.mem_of_getElem? (i := 12) rfl))) (mvT hZ (hw _ (List.mem_of_getElem? (i := 13) rfl))) (mvT hZ (hw _ (List.mem_of_getElem? (i := 10) rfl))) (mvT hZ (hw _ (List.mem_of_getElem? (i := 14) rfl))) (by decide) (backOf (W := 0) (own_rm_minI l Z a0 hw [] (own_maxI p0 (1 : Int32)) p1 h0 n0 Z0 ) hZ (hw _ (List.mem_of_getElem? (i := 14) rfl)) (hw _ (List.mem_of_getElem? (i := 10) rfl)) (by decide) (by decide)) (g := (mkF m 6 #[.val (.int p0), .val (.int p1)] [(.int p1), (.int (own_maxI p0 (1 : Int32)))])) rfl (by rw [hml]; rfl) (argsL := [(.int (own_maxI p0 (1 : Int32))), (.int p1)]) (rest := []) (lenOf own_pd0 rfl) rfl (by show 2 * 0 + _ ≤ _; exact Nat.le_of_eq rfl) (hb hby own_d2_6) (fun _ _ => ⟨rfl, e1, (by decide : 0 + 0 ≤ _), (by decide : 0 + 0 ≤ _)⟩)
  dsimp only [Pt.U, Pt.locs, Pt.cells, Pt.slots] at X2 l2 y2 z2 st2 hQ2
  subst l2 y2 z2
  obtain ⟨rfl, N2q, e2⟩ := hQ2
  have N_2 := Fr.app N_1 N2q
  refine own_step st2 ?_
  show own_Ends p.tables e below _ (T2.setTop (mkF m 9 #[.val (.int p0), .val (.int p1)] [(.int (own_minI (own_maxI p0 (1 : Int32)) p1))]))
  refine own_step (fun _ k => XS.iloadN X2.here hx rfl (hb hby own_d2_9) rfl k) ?_
  show own_Ends p.tables e below _ (T2.setTop (mkF m 10 #[.val (.int p0), .val (.int p1)] [(.int p0), (.int (own_minI (own_maxI p0 (1 : Int32)) p1))]))
  by_cases hc10 : (own_minI (own_maxI p0 (1 : Int32)) p1) = p0
  · refine own_step (fun _ k => XS.icmpNo X2.here hx rfl (hb hby own_d2_10) rfl (teq hc10).2 k) ?_
    show own_Ends p.tables e below _ (T2.setTop (mkF m 13 #[.val (.int p0), .val (.int p1)] []))
    refine own_step (fun _ k => XS.iconst X2.here hx rfl (hb hby own_d2_13) k) ?_
    show own_Ends p.tables e below _ (T2.setTop (mkF m 14 #[.val (.int p0), .val (.int p1)] [(.int (1 : Int32))]))
    refine own_step (fun _ k => XS.goto X2.here hx rfl (pc0 := 14) (pc' := 18) rfl (hb hby own_d2_14) (by decide) (by decide) k) ?_
    show own_Ends p.tables e below _ (T2.setTop (mkF m 18 #[.val (.int p0), .val (.int p1)] [(.int (1 : Int32))]))
    exact own_retN X2 hx hlk (by decide) (by decide) (t := .boolean) Bd.returns (by simp) (hb hby own_d2_18) (by rw [e2]; exact ⟨by rw [show own_cf p0 p1 = (1 : Int32) by simp [own_cf, hc10]]; rfl, N_2, rfl⟩)
  · refine own_step (fun _ k => XS.icmpYes X2.here hx rfl (pc0 := 10) (pc' := 17) rfl (hb hby own_d2_10) rfl (feq hc10).2 (by decide) (by decide) k) ?_
    show own_Ends p.tables e below _ (T2.setTop (mkF m 17 #[.val (.int p0), .val (.int p1)] []))
    refine own_step (fun _ k => XS.iconst X2.here hx rfl (hb hby own_d2_17) k) ?_
    show own_Ends p.tables e below _ (T2.setTop (mkF m 18 #[.val (.int p0), .val (.int p1)] [(.int (0 : Int32))]))
    exact own_retN X2 hx hlk (by decide) (by decide) (t := .boolean) Bd.returns (by simp) (hb hby own_d2_18) (by rw [e2]; exact ⟨by rw [show own_cf p0 p1 = (0 : Int32) by simp [own_cf, hc10]]; rfl, N_2, rfl⟩)
theorem own_pd1 : parseMethodDescriptor "(I)Z" = some ⟨[.int], some .boolean⟩ := by decide +kernel
theorem own_pd2 : parseMethodDescriptor "(II)Z" = some ⟨[.int, .int], some .boolean⟩ := by decide +kernel
theorem own_ef_0 (m : MethodId) (x0 : Int32) (x1 : Int32) : entryFrame m #[(.int x0), (.int x1)] maxLocals = mkF m 0 #[.val (.int x0), .val (.int x1), .unset, .unset, .unset, .unset, .unset] [] := by first | (simp [entryFrame, mkF, argsToLocals, Value.category, maxLocals]; done) | rfl
def own_Q_law (Z : State) (p0 : Int32) (p1 : Int32) (h0 : Heap) (n0 : Nat) (v : Option Value) (h : Heap) (L : List Loc) : Prop := v = some (.int 1) ∧ Fr n0 L
set_option maxRecDepth 65536 in
set_option maxHeartbeats 40000000 in
theorem own_rm_law (l : Launch) (Z : State) (a0 : Array Value) (hw : ∀ d ∈ tables_1, d.before a0 Z = true) (ws : List Jvm.Cond) (p0 : Int32) (p1 : Int32) (h0 : Heap) (n0 : Nat) (Z0 : n0 ≤ h0.size) :
    MetFree l x (head1 (Jvm.Cond.code x code maxLocals ret :: ws) room_1) (fun a U => a = #[(.int p0), (.int p1)] ∧ Z.Warmed39 U.vm ∧ U.heap = h0) (fun _ _ _ _ _ => True) (fun _ U o U' => ∃ v L, o = .returned v ∧ own_Q_law Z p0 p1 h0 n0 v U'.heap L ∧ FrameEnd U o U' L room_1.cells room_1.slots) := by
  refine MetFree.of_bodySF (plainFor_of_name own_pn1) hisR ?_
  intro p e s m args below meth c s₁ Bd hml0 hP hK
  obtain ⟨rfl, hZ, hh⟩ := hP
  have hx := Bd.exec
  have hby := Bd.bytes
  have hlk : meth.locks = false := BodyLoose.notSynchronized Bd
  have hml : c.maxLocals = 7 := hml0
  have hown : s.vm.findClass "com/example/covenantry/covenantry/model/RecurringDatesCountsYearsPinLaw" = some m.cls := findClass_of_methodNamed Bd.named
  have hnm := (name_of_methodNamed Bd.named Bd.method).1
  have X0 : Stand p l e room_1 s m #[(.int p0), (.int p1)] below meth c s₁ [] 0 0 := Stand.of_body Bd
  have e0 : s₁.heap = h0 := by rw [← hh, Bd.state]; rfl
  have N0 := Fr.nil n0
  have K0 : Keep h0 h0 [] := Keep.refl _ _
  have pre0 : ∀ t, Steps p.tables e below (s₁.setTop (mkF m 0 #[.val (.int p0), .val (.int p1), .unset, .unset, .unset, .unset, .unset] [])) t → Steps p.tables e below (s₁.setTop (entryFrame m #[(.int p0), (.int p1)] maxLocals)) t := fun t k => castTop (own_ef_0 m p0 p1) k
  show own_Ends p.tables e below (own_Q s (own_Q_law Z p0 p1 h0 n0) room_1.cells room_1.slots) (s₁.setTop (entryFrame m #[(.int p0), (.int p1)] maxLocals))
  refine own_step pre0 ?_
  show own_Ends p.tables e below _ (s₁.setTop (mkF m 0 #[.val (.int p0), .val (.int p1), .unset, .unset, .unset, .unset, .unset] []))
  refine own_step (fun _ k => XS.sipush X0.here hx rfl (hb hby at_0) k) ?_
  show own_Ends p.tables e below _ (s₁.setTop (mkF m 3 #[.val (.int p0), .val (.int p1), .unset, .unset, .unset, .unset, .unset] [(.int (999 : Int32))]))
  refine own_step (fun _ k => XS.istoreN X0.here hx rfl (hb hby at_3) rfl (l' := #[.val (.int p0), .val (.int p1), .val (.int (999 : Int32)), .unset, .unset, .unset, .unset]) rfl k) ?_
  show own_Ends p.tables e below _ (s₁.setTop (mkF m 4 #[.val (.int p0), .val (.int p1), .val (.int (999 : Int32)), .unset, .unset, .unset, .unset] []))
  refine own_step (fun _ k => XS.iloadN X0.here hx rfl (hb hby at_4) rfl k) ?_
  show own_Ends p.tables e below _ (s₁.setTop (mkF m 5 #[.val (.int p0), .val (.int p1), .val (.int (999 : Int32)), .unset, .unset, .unset, .unset] [(.int (999 : Int32))]))
  refine own_step (fun _ k => XS.sipush X0.here hx rfl (hb hby at_5) k) ?_
  show own_Ends p.tables e below _ (s₁.setTop (mkF m 8 #[.val (.int p0), .val (.int p1), .val (.int (999 : Int32)), .unset, .unset, .unset, .unset] [(.int (999 : Int32)), (.int (999 : Int32))]))
  refine own_step (fun _ k => XS.icmpYes X0.here hx rfl (pc0 := 8) (pc' := 13) rfl (hb hby at_8) rfl (teq (by decide)).1 (by decide) (by decide) k) ?_
  show own_Ends p.tables e below _ (s₁.setTop (mkF m 13 #[.val (.int p0), .val (.int p1), .val (.int (999 : Int32)), .unset, .unset, .unset, .unset] []))
  refine own_step (fun _ k => XS.iloadN X0.here hx rfl (hb hby at_13) rfl k) ?_
  show own_Ends p.tables e below _ (s₁.setTop (mkF m 14 #[.val (.int p0), .val (.int p1), .val (.int (999 : Int32)), .unset, .unset, .unset, .unset] [(.int p1)]))
  refine own_step (fun _ k => XS.bipush X0.here hx rfl (hb hby at_14) k) ?_
  show own_Ends p.tables e below _ (s₁.setTop (mkF m 16 #[.val (.int p0), .val (.int p1), .val (.int (999 : Int32)), .unset, .unset, .unset, .unset] [(.int (7 : Int32)), (.int p1)]))
  refine own_step (fun _ k => XS.iand X0.here hx rfl (hb hby at_16) rfl k) ?_
  show own_Ends p.tables e below _ (s₁.setTop (mkF m 17 #[.val (.int p0), .val (.int p1), .val (.int (999 : Int32)), .unset, .unset, .unset, .unset] [(.int (p1 &&& (7 : Int32)))]))
  refine own_step (fun _ k => XS.iconst X0.here hx rfl (hb hby at_17) k) ?_
  show own_Ends p.tables e below _ (s₁.setTop (mkF m 18 #[.val (.int p0), .val (.int p1), .val (.int (999 : Int32)), .unset, .unset, .unset, .unset] [(.int (4 : Int32)), (.int (p1 &&& (7 : Int32)))]))
  refine own_step (fun _ k => XS.isub X0.here hx rfl (hb hby at_18) rfl k) ?_
  show own_Ends p.tables e below _ (s₁.setTop (mkF m 19 #[.val (.int p0), .val (.int p1), .val (.int (999 : Int32)), .unset, .unset, .unset, .unset] [(.int ((p1 &&& (7 : Int32)) - (4 : Int32)))]))
  refine own_step (fun _ k => XS.iloadN X0.here hx rfl (hb hby at_19) rfl k) ?_
  show own_Ends p.tables e below _ (s₁.setTop (mkF m 20 #[.val (.int p0), .val (.int p1), .val (.int (999 : Int32)), .unset, .unset, .unset, .unset] [(.int p1), (.int ((p1 &&& (7 : Int32)) - (4 : Int32)))]))
  refine own_step (fun _ k => XS.bipush X0.here hx rfl (hb hby at_20) k) ?_
  show own_Ends p.tables e below _ (s₁.setTop (mkF m 22 #[.val (.int p0), .val (.int p1), .val (.int (999 : Int32)), .unset, .unset, .unset, .unset] [(.int (8 : Int32)), (.int p1), (.int ((p1 &&& (7 : Int32)) - (4 : Int32)))]))
  refine own_step (fun _ k => XS.iand X0.here hx rfl (hb hby at_22) rfl k) ?_
  show own_Ends p.tables e below _ (s₁.setTop (mkF m 23 #[.val (.int p0), .val (.int p1), .val (.int (999 : Int32)), .unset, .unset, .unset, .unset] [(.int (p1 &&& (8 : Int32))), (.int ((p1 &&& (7 : Int32)) - (4 : Int32)))]))
  have jn31 : ∀ (zz : Int32), own_Ends p.tables e below (own_Q s (own_Q_law Z p0 p1 h0 n0) room_1.cells room_1.slots) (s₁.setTop (mkF m 31 #[.val (.int p0), .val (.int p1), .val (.int (999 : Int32)), .unset, .unset, .unset, .unset] [(.int zz), (.int ((p1 &&& (7 : Int32)) - (4 : Int32)))])) := by
    intro zz
    refine own_step (fun _ k => XS.iadd X0.here hx rfl (hb hby at_31) rfl k) ?_
    show own_Ends p.tables e below _ (s₁.setTop (mkF m 32 #[.val (.int p0), .val (.int p1), .val (.int (999 : Int32)), .unset, .unset, .unset, .unset] [(.int (((p1 &&& (7 : Int32)) - (4 : Int32)) + zz))]))
    obtain ⟨pr, hpr⟩ : ∃ z, z = (((p1 &&& (7 : Int32)) - (4 : Int32)) + zz) := ⟨_, rfl⟩
    rw [← hpr]
    show own_Ends p.tables e below _ (s₁.setTop (mkF m 32 #[.val (.int p0), .val (.int p1), .val (.int (999 : Int32)), .unset, .unset, .unset, .unset] [(.int pr)]))
    refine own_step (fun _ k => XS.istoreN X0.here hx rfl (hb hby at_32) rfl (l' := #[.val (.int p0), .val (.int p1), .val (.int (999 : Int32)), .val (.int pr), .unset, .unset, .unset]) rfl k) ?_
    show own_Ends p.tables e below _ (s₁.setTop (mkF m 33 #[.val (.int p0), .val (.int p1), .val (.int (999 : Int32)), .val (.int pr), .unset, .unset, .unset] []))
    refine own_step (fun _ k => XS.iloadN X0.here hx rfl (hb hby at_33) rfl k) ?_
    show own_Ends p.tables e below _ (s₁.setTop (mkF m 34 #[.val (.int p0), .val (.int p1), .val (.int (999 : Int32)), .val (.int pr), .unset, .unset, .unset] [(.int p0)]))
    obtain ⟨_, _, ⟨T1, L1, k1, n1⟩, -, X1, ⟨Lc1, hQ1, l1, y1, z1⟩, st1⟩ := Jvm.LawKit.callS X0 hx (y := (⟨"com/example/covenantry/covenantry/model/RecurringDates", "countsYears", "(I)Z"⟩ : MethodName)) hown (mvT hZ (hw _ (List.mem_of_getElem? (i := 0) rfl))) (mvT hZ (hw _ (List.mem_of_getElem? (i := 1) rfl))) (mvT hZ (hw _ (List.mem_of_getElem? (i := 2) rfl))) (mvT hZ (hw _ (List.mem_of_getElem? (i := 3) rfl))) (by decide) (backOf (W := 0) (own_rm_counts l Z a0 hw [] p0 h0 n0 Z0 ) hZ (hw _ (List.mem_of_getElem? (i := 3) rfl)) (hw _ (List.mem_of_getElem? (i := 2) rfl)) (by decide) (by decide)) (g := (mkF m 34 #[.val (.int p0), .val (.int p1), .val (.int (999 : Int32)), .val (.int pr), .unset, .unset, .unset] [(.int p0)])) rfl (by rw [hml]; rfl) (argsL := [(.int p0)]) (rest := []) (lenOf own_pd1 rfl) rfl (by show 2 * 0 + _ ≤ _; exact Nat.le_of_eq rfl) (hb hby at_34) (fun _ _ => ⟨rfl, e0, (by decide : 0 + 0 ≤ _), (by decide : 0 + 0 ≤ _)⟩)
    dsimp only [Pt.U, Pt.locs, Pt.cells, Pt.slots] at X1 l1 y1 z1 st1 hQ1
    subst l1 y1 z1
    obtain ⟨rfl, N1q, e1⟩ := hQ1
    have N_1 := Fr.app N0 N1q
    refine own_step st1 ?_
    show own_Ends p.tables e below _ (T1.setTop (mkF m 37 #[.val (.int p0), .val (.int p1), .val (.int (999 : Int32)), .val (.int pr), .unset, .unset, .unset] [(.int (own_counts p0))]))
    refine own_step (fun _ k => XS.iloadN X1.here hx rfl (hb hby at_37) rfl k) ?_
    show own_Ends p.tables e below _ (T1.setTop (mkF m 38 #[.val (.int p0), .val (.int p1), .val (.int (999 : Int32)), .val (.int pr), .unset, .unset, .unset] [(.int p0), (.int (own_counts p0))]))
    refine own_step (fun _ k => XS.iloadN X1.here hx rfl (hb hby at_38) rfl k) ?_
    show own_Ends p.tables e below _ (T1.setTop (mkF m 39 #[.val (.int p0), .val (.int p1), .val (.int (999 : Int32)), .val (.int pr), .unset, .unset, .unset] [(.int (999 : Int32)), (.int p0), (.int (own_counts p0))]))
    obtain ⟨_, _, ⟨T2, L2, k2, n2⟩, -, X2, ⟨Lc2, hQ2, l2, y2, z2⟩, st2⟩ := Jvm.LawKit.callS X1 hx (y := (⟨"com/example/covenantry/covenantry/model/RecurringDatesCountsYearsPinLaw", "clampFixed", "(II)Z"⟩ : MethodName)) hown (mvT hZ (hw _ (List.mem_of_getElem? (i := 4) rfl))) (mvT hZ (hw _ (List.mem_of_getElem? (i := 5) rfl))) (mvT hZ (hw _ (List.mem_of_getElem? (i := 6) rfl))) (mvT hZ (hw _ (List.mem_of_getElem? (i := 7) rfl))) (by decide) (backOf (W := 1) (own_rm_cf l Z a0 hw [] p0 (999 : Int32) h0 n0 Z0 ) hZ (hw _ (List.mem_of_getElem? (i := 7) rfl)) (hw _ (List.mem_of_getElem? (i := 6) rfl)) (by decide) (by decide)) (g := (mkF m 39 #[.val (.int p0), .val (.int p1), .val (.int (999 : Int32)), .val (.int pr), .unset, .unset, .unset] [(.int (999 : Int32)), (.int p0), (.int (own_counts p0))])) rfl (by rw [hml]; rfl) (argsL := [(.int p0), (.int (999 : Int32))]) (rest := [(.int (own_counts p0))]) (lenOf own_pd2 rfl) rfl (by show 2 * 0 + _ ≤ _; exact Nat.le_of_eq rfl) (hb hby at_39) (fun _ _ => ⟨rfl, e1, (by decide : 0 + 0 ≤ _), (by decide : 0 + 0 ≤ _)⟩)
    dsimp only [Pt.U, Pt.locs, Pt.cells, Pt.slots] at X2 l2 y2 z2 st2 hQ2
    subst l2 y2 z2
    obtain ⟨rfl, N2q, e2⟩ := hQ2
    have N_2 := Fr.app N_1 N2q
    refine own_step st2 ?_
    show own_Ends p.tables e below _ (T2.setTop (mkF m 42 #[.val (.int p0), .val (.int p1), .val (.int (999 : Int32)), .val (.int pr), .unset, .unset, .unset] [(.int (own_cf p0 (999 : Int32))), (.int (own_counts p0))]))
    refine own_step (fun _ k => XS.icmpNo X2.here hx rfl (hb hby at_42) rfl (teq (own_key _)).2 k) ?_
    show own_Ends p.tables e below _ (T2.setTop (mkF m 45 #[.val (.int p0), .val (.int p1), .val (.int (999 : Int32)), .val (.int pr), .unset, .unset, .unset] []))
    refine own_step (fun _ k => XS.iconst X2.here hx rfl (hb hby at_45) k) ?_
    show own_Ends p.tables e below _ (T2.setTop (mkF m 46 #[.val (.int p0), .val (.int p1), .val (.int (999 : Int32)), .val (.int pr), .unset, .unset, .unset] [(.int (1 : Int32))]))
    refine own_step (fun _ k => XS.goto X2.here hx rfl (pc0 := 46) (pc' := 50) rfl (hb hby at_46) (by decide) (by decide) k) ?_
    show own_Ends p.tables e below _ (T2.setTop (mkF m 50 #[.val (.int p0), .val (.int p1), .val (.int (999 : Int32)), .val (.int pr), .unset, .unset, .unset] [(.int (1 : Int32))]))
    refine own_step (fun _ k => XS.istore X2.here hx rfl (hb hby at_50) rfl (l' := #[.val (.int p0), .val (.int p1), .val (.int (999 : Int32)), .val (.int pr), .val (.int (1 : Int32)), .unset, .unset]) rfl k) ?_
    show own_Ends p.tables e below _ (T2.setTop (mkF m 52 #[.val (.int p0), .val (.int p1), .val (.int (999 : Int32)), .val (.int pr), .val (.int (1 : Int32)), .unset, .unset] []))
    refine own_step (fun _ k => XS.iloadN X2.here hx rfl (hb hby at_52) rfl k) ?_
    show own_Ends p.tables e below _ (T2.setTop (mkF m 53 #[.val (.int p0), .val (.int p1), .val (.int (999 : Int32)), .val (.int pr), .val (.int (1 : Int32)), .unset, .unset] [(.int pr)]))
    obtain ⟨_, _, ⟨T3, L3, k3, n3⟩, -, X3, ⟨Lc3, hQ3, l3, y3, z3⟩, st3⟩ := Jvm.LawKit.callS X2 hx (y := (⟨"com/example/covenantry/covenantry/model/RecurringDates", "countsYears", "(I)Z"⟩ : MethodName)) hown (mvT hZ (hw _ (List.mem_of_getElem? (i := 0) rfl))) (mvT hZ (hw _ (List.mem_of_getElem? (i := 1) rfl))) (mvT hZ (hw _ (List.mem_of_getElem? (i := 2) rfl))) (mvT hZ (hw _ (List.mem_of_getElem? (i := 3) rfl))) (by decide) (backOf (W := 0) (own_rm_counts l Z a0 hw [] pr h0 n0 Z0 ) hZ (hw _ (List.mem_of_getElem? (i := 3) rfl)) (hw _ (List.mem_of_getElem? (i := 2) rfl)) (by decide) (by decide)) (g := (mkF m 53 #[.val (.int p0), .val (.int p1), .val (.int (999 : Int32)), .val (.int pr), .val (.int (1 : Int32)), .unset, .unset] [(.int pr)])) rfl (by rw [hml]; rfl) (argsL := [(.int pr)]) (rest := []) (lenOf own_pd1 rfl) rfl (by show 2 * 0 + _ ≤ _; exact Nat.le_of_eq rfl) (hb hby at_53) (fun _ _ => ⟨rfl, e2, (by decide : 0 + 0 ≤ _), (by decide : 0 + 0 ≤ _)⟩)
    dsimp only [Pt.U, Pt.locs, Pt.cells, Pt.slots] at X3 l3 y3 z3 st3 hQ3
    subst l3 y3 z3
    obtain ⟨rfl, N3q, e3⟩ := hQ3
    have N_3 := Fr.app N_2 N3q
    refine own_step st3 ?_
    show own_Ends p.tables e below _ (T3.setTop (mkF m 56 #[.val (.int p0), .val (.int p1), .val (.int (999 : Int32)), .val (.int pr), .val (.int (1 : Int32)), .unset, .unset] [(.int (own_counts pr))]))
    refine own_step (fun _ k => XS.iloadN X3.here hx rfl (hb hby at_56) rfl k) ?_
    show own_Ends p.tables e below _ (T3.setTop (mkF m 57 #[.val (.int p0), .val (.int p1), .val (.int (999 : Int32)), .val (.int pr), .val (.int (1 : Int32)), .unset, .unset] [(.int pr), (.int (own_counts pr))]))
    refine own_step (fun _ k => XS.iloadN X3.here hx rfl (hb hby at_57) rfl k) ?_
    show own_Ends p.tables e below _ (T3.setTop (mkF m 58 #[.val (.int p0), .val (.int p1), .val (.int (999 : Int32)), .val (.int pr), .val (.int (1 : Int32)), .unset, .unset] [(.int (999 : Int32)), (.int pr), (.int (own_counts pr))]))
    obtain ⟨_, _, ⟨T4, L4, k4, n4⟩, -, X4, ⟨Lc4, hQ4, l4, y4, z4⟩, st4⟩ := Jvm.LawKit.callS X3 hx (y := (⟨"com/example/covenantry/covenantry/model/RecurringDatesCountsYearsPinLaw", "clampFixed", "(II)Z"⟩ : MethodName)) hown (mvT hZ (hw _ (List.mem_of_getElem? (i := 4) rfl))) (mvT hZ (hw _ (List.mem_of_getElem? (i := 5) rfl))) (mvT hZ (hw _ (List.mem_of_getElem? (i := 6) rfl))) (mvT hZ (hw _ (List.mem_of_getElem? (i := 7) rfl))) (by decide) (backOf (W := 1) (own_rm_cf l Z a0 hw [] pr (999 : Int32) h0 n0 Z0 ) hZ (hw _ (List.mem_of_getElem? (i := 7) rfl)) (hw _ (List.mem_of_getElem? (i := 6) rfl)) (by decide) (by decide)) (g := (mkF m 58 #[.val (.int p0), .val (.int p1), .val (.int (999 : Int32)), .val (.int pr), .val (.int (1 : Int32)), .unset, .unset] [(.int (999 : Int32)), (.int pr), (.int (own_counts pr))])) rfl (by rw [hml]; rfl) (argsL := [(.int pr), (.int (999 : Int32))]) (rest := [(.int (own_counts pr))]) (lenOf own_pd2 rfl) rfl (by show 2 * 0 + _ ≤ _; exact Nat.le_of_eq rfl) (hb hby at_58) (fun _ _ => ⟨rfl, e3, (by decide : 0 + 0 ≤ _), (by decide : 0 + 0 ≤ _)⟩)
    dsimp only [Pt.U, Pt.locs, Pt.cells, Pt.slots] at X4 l4 y4 z4 st4 hQ4
    subst l4 y4 z4
    obtain ⟨rfl, N4q, e4⟩ := hQ4
    have N_4 := Fr.app N_3 N4q
    refine own_step st4 ?_
    show own_Ends p.tables e below _ (T4.setTop (mkF m 61 #[.val (.int p0), .val (.int p1), .val (.int (999 : Int32)), .val (.int pr), .val (.int (1 : Int32)), .unset, .unset] [(.int (own_cf pr (999 : Int32))), (.int (own_counts pr))]))
    refine own_step (fun _ k => XS.icmpNo X4.here hx rfl (hb hby at_61) rfl (teq (own_key _)).2 k) ?_
    show own_Ends p.tables e below _ (T4.setTop (mkF m 64 #[.val (.int p0), .val (.int p1), .val (.int (999 : Int32)), .val (.int pr), .val (.int (1 : Int32)), .unset, .unset] []))
    refine own_step (fun _ k => XS.iconst X4.here hx rfl (hb hby at_64) k) ?_
    show own_Ends p.tables e below _ (T4.setTop (mkF m 65 #[.val (.int p0), .val (.int p1), .val (.int (999 : Int32)), .val (.int pr), .val (.int (1 : Int32)), .unset, .unset] [(.int (1 : Int32))]))
    refine own_step (fun _ k => XS.goto X4.here hx rfl (pc0 := 65) (pc' := 69) rfl (hb hby at_65) (by decide) (by decide) k) ?_
    show own_Ends p.tables e below _ (T4.setTop (mkF m 69 #[.val (.int p0), .val (.int p1), .val (.int (999 : Int32)), .val (.int pr), .val (.int (1 : Int32)), .unset, .unset] [(.int (1 : Int32))]))
    refine own_step (fun _ k => XS.istore X4.here hx rfl (hb hby at_69) rfl (l' := #[.val (.int p0), .val (.int p1), .val (.int (999 : Int32)), .val (.int pr), .val (.int (1 : Int32)), .val (.int (1 : Int32)), .unset]) rfl k) ?_
    show own_Ends p.tables e below _ (T4.setTop (mkF m 71 #[.val (.int p0), .val (.int p1), .val (.int (999 : Int32)), .val (.int pr), .val (.int (1 : Int32)), .val (.int (1 : Int32)), .unset] []))
    refine own_step (fun _ k => XS.iconst X4.here hx rfl (hb hby at_71) k) ?_
    show own_Ends p.tables e below _ (T4.setTop (mkF m 72 #[.val (.int p0), .val (.int p1), .val (.int (999 : Int32)), .val (.int pr), .val (.int (1 : Int32)), .val (.int (1 : Int32)), .unset] [(.int (1 : Int32))]))
    obtain ⟨_, _, ⟨T5, L5, k5, n5⟩, -, X5, ⟨Lc5, hQ5, l5, y5, z5⟩, st5⟩ := Jvm.LawKit.callS X4 hx (y := (⟨"com/example/covenantry/covenantry/model/RecurringDates", "countsYears", "(I)Z"⟩ : MethodName)) hown (mvT hZ (hw _ (List.mem_of_getElem? (i := 0) rfl))) (mvT hZ (hw _ (List.mem_of_getElem? (i := 1) rfl))) (mvT hZ (hw _ (List.mem_of_getElem? (i := 2) rfl))) (mvT hZ (hw _ (List.mem_of_getElem? (i := 3) rfl))) (by decide) (backOf (W := 0) (own_rm_counts l Z a0 hw [] (1 : Int32) h0 n0 Z0 ) hZ (hw _ (List.mem_of_getElem? (i := 3) rfl)) (hw _ (List.mem_of_getElem? (i := 2) rfl)) (by decide) (by decide)) (g := (mkF m 72 #[.val (.int p0), .val (.int p1), .val (.int (999 : Int32)), .val (.int pr), .val (.int (1 : Int32)), .val (.int (1 : Int32)), .unset] [(.int (1 : Int32))])) rfl (by rw [hml]; rfl) (argsL := [(.int (1 : Int32))]) (rest := []) (lenOf own_pd1 rfl) rfl (by show 2 * 0 + _ ≤ _; exact Nat.le_of_eq rfl) (hb hby at_72) (fun _ _ => ⟨rfl, e4, (by decide : 0 + 0 ≤ _), (by decide : 0 + 0 ≤ _)⟩)
    dsimp only [Pt.U, Pt.locs, Pt.cells, Pt.slots] at X5 l5 y5 z5 st5 hQ5
    subst l5 y5 z5
    obtain ⟨rfl, N5q, e5⟩ := hQ5
    have N_5 := Fr.app N_4 N5q
    refine own_step st5 ?_
    show own_Ends p.tables e below _ (T5.setTop (mkF m 75 #[.val (.int p0), .val (.int p1), .val (.int (999 : Int32)), .val (.int pr), .val (.int (1 : Int32)), .val (.int (1 : Int32)), .unset] [(.int (own_counts (1 : Int32)))]))
    refine own_step (fun _ k => XS.ifNo X5.here hx rfl (hb hby at_75) rfl ((if0 _ _).trans (feq (by decide)).1) k) ?_
    show own_Ends p.tables e below _ (T5.setTop (mkF m 78 #[.val (.int p0), .val (.int p1), .val (.int (999 : Int32)), .val (.int pr), .val (.int (1 : Int32)), .val (.int (1 : Int32)), .unset] []))
    refine own_step (fun _ k => XS.iloadN X5.here hx rfl (hb hby at_78) rfl k) ?_
    show own_Ends p.tables e below _ (T5.setTop (mkF m 79 #[.val (.int p0), .val (.int p1), .val (.int (999 : Int32)), .val (.int pr), .val (.int (1 : Int32)), .val (.int (1 : Int32)), .unset] [(.int (999 : Int32))]))
    obtain ⟨_, _, ⟨T6, L6, k6, n6⟩, -, X6, ⟨Lc6, hQ6, l6, y6, z6⟩, st6⟩ := Jvm.LawKit.callS X5 hx (y := (⟨"com/example/covenantry/covenantry/model/RecurringDates", "countsYears", "(I)Z"⟩ : MethodName)) hown (mvT hZ (hw _ (List.mem_of_getElem? (i := 0) rfl))) (mvT hZ (hw _ (List.mem_of_getElem? (i := 1) rfl))) (mvT hZ (hw _ (List.mem_of_getElem? (i := 2) rfl))) (mvT hZ (hw _ (List.mem_of_getElem? (i := 3) rfl))) (by decide) (backOf (W := 0) (own_rm_counts l Z a0 hw [] (999 : Int32) h0 n0 Z0 ) hZ (hw _ (List.mem_of_getElem? (i := 3) rfl)) (hw _ (List.mem_of_getElem? (i := 2) rfl)) (by decide) (by decide)) (g := (mkF m 79 #[.val (.int p0), .val (.int p1), .val (.int (999 : Int32)), .val (.int pr), .val (.int (1 : Int32)), .val (.int (1 : Int32)), .unset] [(.int (999 : Int32))])) rfl (by rw [hml]; rfl) (argsL := [(.int (999 : Int32))]) (rest := []) (lenOf own_pd1 rfl) rfl (by show 2 * 0 + _ ≤ _; exact Nat.le_of_eq rfl) (hb hby at_79) (fun _ _ => ⟨rfl, e5, (by decide : 0 + 0 ≤ _), (by decide : 0 + 0 ≤ _)⟩)
    dsimp only [Pt.U, Pt.locs, Pt.cells, Pt.slots] at X6 l6 y6 z6 st6 hQ6
    subst l6 y6 z6
    obtain ⟨rfl, N6q, e6⟩ := hQ6
    have N_6 := Fr.app N_5 N6q
    refine own_step st6 ?_
    show own_Ends p.tables e below _ (T6.setTop (mkF m 82 #[.val (.int p0), .val (.int p1), .val (.int (999 : Int32)), .val (.int pr), .val (.int (1 : Int32)), .val (.int (1 : Int32)), .unset] [(.int (own_counts (999 : Int32)))]))
    refine own_step (fun _ k => XS.ifNo X6.here hx rfl (hb hby at_82) rfl ((if0 _ _).trans (feq (by decide)).1) k) ?_
    show own_Ends p.tables e below _ (T6.setTop (mkF m 85 #[.val (.int p0), .val (.int p1), .val (.int (999 : Int32)), .val (.int pr), .val (.int (1 : Int32)), .val (.int (1 : Int32)), .unset] []))
    refine own_step (fun _ k => XS.iconst X6.here hx rfl (hb hby at_85) k) ?_
    show own_Ends p.tables e below _ (T6.setTop (mkF m 86 #[.val (.int p0), .val (.int p1), .val (.int (999 : Int32)), .val (.int pr), .val (.int (1 : Int32)), .val (.int (1 : Int32)), .unset] [(.int (0 : Int32))]))
    obtain ⟨_, _, ⟨T7, L7, k7, n7⟩, -, X7, ⟨Lc7, hQ7, l7, y7, z7⟩, st7⟩ := Jvm.LawKit.callS X6 hx (y := (⟨"com/example/covenantry/covenantry/model/RecurringDates", "countsYears", "(I)Z"⟩ : MethodName)) hown (mvT hZ (hw _ (List.mem_of_getElem? (i := 0) rfl))) (mvT hZ (hw _ (List.mem_of_getElem? (i := 1) rfl))) (mvT hZ (hw _ (List.mem_of_getElem? (i := 2) rfl))) (mvT hZ (hw _ (List.mem_of_getElem? (i := 3) rfl))) (by decide) (backOf (W := 0) (own_rm_counts l Z a0 hw [] (0 : Int32) h0 n0 Z0 ) hZ (hw _ (List.mem_of_getElem? (i := 3) rfl)) (hw _ (List.mem_of_getElem? (i := 2) rfl)) (by decide) (by decide)) (g := (mkF m 86 #[.val (.int p0), .val (.int p1), .val (.int (999 : Int32)), .val (.int pr), .val (.int (1 : Int32)), .val (.int (1 : Int32)), .unset] [(.int (0 : Int32))])) rfl (by rw [hml]; rfl) (argsL := [(.int (0 : Int32))]) (rest := []) (lenOf own_pd1 rfl) rfl (by show 2 * 0 + _ ≤ _; exact Nat.le_of_eq rfl) (hb hby at_86) (fun _ _ => ⟨rfl, e6, (by decide : 0 + 0 ≤ _), (by decide : 0 + 0 ≤ _)⟩)
    dsimp only [Pt.U, Pt.locs, Pt.cells, Pt.slots] at X7 l7 y7 z7 st7 hQ7
    subst l7 y7 z7
    obtain ⟨rfl, N7q, e7⟩ := hQ7
    have N_7 := Fr.app N_6 N7q
    refine own_step st7 ?_
    show own_Ends p.tables e below _ (T7.setTop (mkF m 89 #[.val (.int p0), .val (.int p1), .val (.int (999 : Int32)), .val (.int pr), .val (.int (1 : Int32)), .val (.int (1 : Int32)), .unset] [(.int (own_counts (0 : Int32)))]))
    refine own_step (fun _ k => XS.ifNo X7.here hx rfl (hb hby at_89) rfl ((if0 _ _).trans (teq (by decide)).2) k) ?_
    show own_Ends p.tables e below _ (T7.setTop (mkF m 92 #[.val (.int p0), .val (.int p1), .val (.int (999 : Int32)), .val (.int pr), .val (.int (1 : Int32)), .val (.int (1 : Int32)), .unset] []))
    refine own_step (fun _ k => XS.iloadN X7.here hx rfl (hb hby at_92) rfl k) ?_
    show own_Ends p.tables e below _ (T7.setTop (mkF m 93 #[.val (.int p0), .val (.int p1), .val (.int (999 : Int32)), .val (.int pr), .val (.int (1 : Int32)), .val (.int (1 : Int32)), .unset] [(.int (999 : Int32))]))
    refine own_step (fun _ k => XS.iconst X7.here hx rfl (hb hby at_93) k) ?_
    show own_Ends p.tables e below _ (T7.setTop (mkF m 94 #[.val (.int p0), .val (.int p1), .val (.int (999 : Int32)), .val (.int pr), .val (.int (1 : Int32)), .val (.int (1 : Int32)), .unset] [(.int (1 : Int32)), (.int (999 : Int32))]))
    refine own_step (fun _ k => XS.iadd X7.here hx rfl (hb hby at_94) rfl k) ?_
    show own_Ends p.tables e below _ (T7.setTop (mkF m 95 #[.val (.int p0), .val (.int p1), .val (.int (999 : Int32)), .val (.int pr), .val (.int (1 : Int32)), .val (.int (1 : Int32)), .unset] [(.int ((999 : Int32) + (1 : Int32)))]))
    obtain ⟨_, _, ⟨T8, L8, k8, n8⟩, -, X8, ⟨Lc8, hQ8, l8, y8, z8⟩, st8⟩ := Jvm.LawKit.callS X7 hx (y := (⟨"com/example/covenantry/covenantry/model/RecurringDates", "countsYears", "(I)Z"⟩ : MethodName)) hown (mvT hZ (hw _ (List.mem_of_getElem? (i := 0) rfl))) (mvT hZ (hw _ (List.mem_of_getElem? (i := 1) rfl))) (mvT hZ (hw _ (List.mem_of_getElem? (i := 2) rfl))) (mvT hZ (hw _ (List.mem_of_getElem? (i := 3) rfl))) (by decide) (backOf (W := 0) (own_rm_counts l Z a0 hw [] ((999 : Int32) + (1 : Int32)) h0 n0 Z0 ) hZ (hw _ (List.mem_of_getElem? (i := 3) rfl)) (hw _ (List.mem_of_getElem? (i := 2) rfl)) (by decide) (by decide)) (g := (mkF m 95 #[.val (.int p0), .val (.int p1), .val (.int (999 : Int32)), .val (.int pr), .val (.int (1 : Int32)), .val (.int (1 : Int32)), .unset] [(.int ((999 : Int32) + (1 : Int32)))])) rfl (by rw [hml]; rfl) (argsL := [(.int ((999 : Int32) + (1 : Int32)))]) (rest := []) (lenOf own_pd1 rfl) rfl (by show 2 * 0 + _ ≤ _; exact Nat.le_of_eq rfl) (hb hby at_95) (fun _ _ => ⟨rfl, e7, (by decide : 0 + 0 ≤ _), (by decide : 0 + 0 ≤ _)⟩)
    dsimp only [Pt.U, Pt.locs, Pt.cells, Pt.slots] at X8 l8 y8 z8 st8 hQ8
    subst l8 y8 z8
    obtain ⟨rfl, N8q, e8⟩ := hQ8
    have N_8 := Fr.app N_7 N8q
    refine own_step st8 ?_
    show own_Ends p.tables e below _ (T8.setTop (mkF m 98 #[.val (.int p0), .val (.int p1), .val (.int (999 : Int32)), .val (.int pr), .val (.int (1 : Int32)), .val (.int (1 : Int32)), .unset] [(.int (own_counts ((999 : Int32) + (1 : Int32))))]))
    refine own_step (fun _ k => XS.ifNo X8.here hx rfl (hb hby at_98) rfl ((if0 _ _).trans (teq (by decide)).2) k) ?_
    show own_Ends p.tables e below _ (T8.setTop (mkF m 101 #[.val (.int p0), .val (.int p1), .val (.int (999 : Int32)), .val (.int pr), .val (.int (1 : Int32)), .val (.int (1 : Int32)), .unset] []))
    refine own_step (fun _ k => XS.iconst X8.here hx rfl (hb hby at_101) k) ?_
    show own_Ends p.tables e below _ (T8.setTop (mkF m 102 #[.val (.int p0), .val (.int p1), .val (.int (999 : Int32)), .val (.int pr), .val (.int (1 : Int32)), .val (.int (1 : Int32)), .unset] [(.int (1 : Int32))]))
    refine own_step (fun _ k => XS.goto X8.here hx rfl (pc0 := 102) (pc' := 106) rfl (hb hby at_102) (by decide) (by decide) k) ?_
    show own_Ends p.tables e below _ (T8.setTop (mkF m 106 #[.val (.int p0), .val (.int p1), .val (.int (999 : Int32)), .val (.int pr), .val (.int (1 : Int32)), .val (.int (1 : Int32)), .unset] [(.int (1 : Int32))]))
    refine own_step (fun _ k => XS.istore X8.here hx rfl (hb hby at_106) rfl (l' := #[.val (.int p0), .val (.int p1), .val (.int (999 : Int32)), .val (.int pr), .val (.int (1 : Int32)), .val (.int (1 : Int32)), .val (.int (1 : Int32))]) rfl k) ?_
    show own_Ends p.tables e below _ (T8.setTop (mkF m 108 #[.val (.int p0), .val (.int p1), .val (.int (999 : Int32)), .val (.int pr), .val (.int (1 : Int32)), .val (.int (1 : Int32)), .val (.int (1 : Int32))] []))
    refine own_step (fun _ k => XS.iload X8.here hx rfl (hb hby at_108) rfl k) ?_
    show own_Ends p.tables e below _ (T8.setTop (mkF m 110 #[.val (.int p0), .val (.int p1), .val (.int (999 : Int32)), .val (.int pr), .val (.int (1 : Int32)), .val (.int (1 : Int32)), .val (.int (1 : Int32))] [(.int (1 : Int32))]))
    refine own_step (fun _ k => XS.ifNo X8.here hx rfl (hb hby at_110) rfl ((if0 _ _).trans (feq (by decide)).1) k) ?_
    show own_Ends p.tables e below _ (T8.setTop (mkF m 113 #[.val (.int p0), .val (.int p1), .val (.int (999 : Int32)), .val (.int pr), .val (.int (1 : Int32)), .val (.int (1 : Int32)), .val (.int (1 : Int32))] []))
    refine own_step (fun _ k => XS.iload X8.here hx rfl (hb hby at_113) rfl k) ?_
    show own_Ends p.tables e below _ (T8.setTop (mkF m 115 #[.val (.int p0), .val (.int p1), .val (.int (999 : Int32)), .val (.int pr), .val (.int (1 : Int32)), .val (.int (1 : Int32)), .val (.int (1 : Int32))] [(.int (1 : Int32))]))
    refine own_step (fun _ k => XS.ifNo X8.here hx rfl (hb hby at_115) rfl ((if0 _ _).trans (feq (by decide)).1) k) ?_
    show own_Ends p.tables e below _ (T8.setTop (mkF m 118 #[.val (.int p0), .val (.int p1), .val (.int (999 : Int32)), .val (.int pr), .val (.int (1 : Int32)), .val (.int (1 : Int32)), .val (.int (1 : Int32))] []))
    refine own_step (fun _ k => XS.iload X8.here hx rfl (hb hby at_118) rfl k) ?_
    show own_Ends p.tables e below _ (T8.setTop (mkF m 120 #[.val (.int p0), .val (.int p1), .val (.int (999 : Int32)), .val (.int pr), .val (.int (1 : Int32)), .val (.int (1 : Int32)), .val (.int (1 : Int32))] [(.int (1 : Int32))]))
    refine own_step (fun _ k => XS.ifNo X8.here hx rfl (hb hby at_120) rfl ((if0 _ _).trans (feq (by decide)).1) k) ?_
    show own_Ends p.tables e below _ (T8.setTop (mkF m 123 #[.val (.int p0), .val (.int p1), .val (.int (999 : Int32)), .val (.int pr), .val (.int (1 : Int32)), .val (.int (1 : Int32)), .val (.int (1 : Int32))] []))
    refine own_step (fun _ k => XS.iconst X8.here hx rfl (hb hby at_123) k) ?_
    show own_Ends p.tables e below _ (T8.setTop (mkF m 124 #[.val (.int p0), .val (.int p1), .val (.int (999 : Int32)), .val (.int pr), .val (.int (1 : Int32)), .val (.int (1 : Int32)), .val (.int (1 : Int32))] [(.int (1 : Int32))]))
    refine own_step (fun _ k => XS.goto X8.here hx rfl (pc0 := 124) (pc' := 128) rfl (hb hby at_124) (by decide) (by decide) k) ?_
    show own_Ends p.tables e below _ (T8.setTop (mkF m 128 #[.val (.int p0), .val (.int p1), .val (.int (999 : Int32)), .val (.int pr), .val (.int (1 : Int32)), .val (.int (1 : Int32)), .val (.int (1 : Int32))] [(.int (1 : Int32))]))
    exact own_retN X8 hx hlk (by decide) (by decide) (t := .boolean) Bd.returns (by simp) (hb hby at_128) (by rw [e8]; exact ⟨rfl, N_8⟩)
  show own_Ends p.tables e below _ (s₁.setTop (mkF m 23 #[.val (.int p0), .val (.int p1), .val (.int (999 : Int32)), .unset, .unset, .unset, .unset] [(.int (p1 &&& (8 : Int32))), (.int ((p1 &&& (7 : Int32)) - (4 : Int32)))]))
  by_cases hc23 : (p1 &&& (8 : Int32)) = (0 : Int32)
  · refine own_step (fun _ k => XS.ifYes X0.here hx rfl (pc0 := 23) (pc' := 30) rfl (hb hby at_23) rfl ((if0 _ _).trans (teq hc23).1) (by decide) (by decide) k) ?_
    show own_Ends p.tables e below _ (s₁.setTop (mkF m 30 #[.val (.int p0), .val (.int p1), .val (.int (999 : Int32)), .unset, .unset, .unset, .unset] [(.int ((p1 &&& (7 : Int32)) - (4 : Int32)))]))
    refine own_step (fun _ k => XS.iconst X0.here hx rfl (hb hby at_30) k) ?_
    show own_Ends p.tables e below _ (s₁.setTop (mkF m 31 #[.val (.int p0), .val (.int p1), .val (.int (999 : Int32)), .unset, .unset, .unset, .unset] [(.int (1 : Int32)), (.int ((p1 &&& (7 : Int32)) - (4 : Int32)))]))
    exact jn31 (1 : Int32) 
  · refine own_step (fun _ k => XS.ifNo X0.here hx rfl (hb hby at_23) rfl ((if0 _ _).trans (feq hc23).1) k) ?_
    show own_Ends p.tables e below _ (s₁.setTop (mkF m 26 #[.val (.int p0), .val (.int p1), .val (.int (999 : Int32)), .unset, .unset, .unset, .unset] [(.int ((p1 &&& (7 : Int32)) - (4 : Int32)))]))
    refine own_step (fun _ k => XS.iloadN X0.here hx rfl (hb hby at_26) rfl k) ?_
    show own_Ends p.tables e below _ (s₁.setTop (mkF m 27 #[.val (.int p0), .val (.int p1), .val (.int (999 : Int32)), .unset, .unset, .unset, .unset] [(.int (999 : Int32)), (.int ((p1 &&& (7 : Int32)) - (4 : Int32)))]))
    refine own_step (fun _ k => XS.goto X0.here hx rfl (pc0 := 27) (pc' := 31) rfl (hb hby at_27) (by decide) (by decide) k) ?_
    show own_Ends p.tables e below _ (s₁.setTop (mkF m 31 #[.val (.int p0), .val (.int p1), .val (.int (999 : Int32)), .unset, .unset, .unset, .unset] [(.int (999 : Int32)), (.int ((p1 &&& (7 : Int32)) - (4 : Int32)))]))
    exact jn31 (999 : Int32) 
set_option maxRecDepth 65536 in
set_option maxHeartbeats 40000000 in
theorem own_comes_1 {Post : Tables → Env → Array Value → State → Outcome → State → Prop} (hpost : ∀ tb e args s v u, (limb_1_1.after args s (.returned v) u = true ∧ limb_1_2.after args s (.returned v) u = true ∧ True) → FrameEnd s (.returned v) u (Jvm.fieldLocs frame_1_writes args s ++ Jvm.arrayLocs frame_1_arrays args s ++ Jvm.staticLocs frame_1_statics s) 0 0 → Post tb e args s (.returned v) u) :
    ArmFor flags0 classFile x code maxLocals ret World_1 tables_1 room_1 Calls_1 rest_1 Pre_1 Post := by
  intro l hfl _ _ p e ha hc hk s m args below hf hA hF happ hP
  obtain ⟨hcalls, hrest, hpre⟩ := hP
  obtain ⟨-, -, -, hnamed, -, -, -, hat⟩ := (Spec.applies_iff hf).mp happ
  obtain ⟨hg, hn⟩ := and_e (Cond.before_iff.mp (show (Jvm.Cond.and given_1 narrow_1).before args s = true from hpre))
  obtain ⟨g0, r0⟩ := and_e hg
  obtain ⟨g1, r1⟩ := and_e r0
  obtain ⟨w0, w1, rfl⟩ : ∃ w0 w1 : Value, args = #[w0, w1] := by
    have hs : args.size = 2 := by simpa [Cond.value, given_1] using g0
    obtain ⟨L⟩ := args
    match L, hs with
    | [w0, w1], _ => exact ⟨w0, w1, rfl⟩
  have hw := fun d (hd : d ∈ tables_1) => atoms_spec (ws := Jvm.Cond.code x code maxLocals ret :: tables_1) hat d (List.mem_cons_of_mem _ hd)
  have hfit : Fit s := fun {y c} hc i hi => by
    obtain ⟨ha, rfl⟩ := Array.getElem?_eq_some_iff.mp hc
    have q := List.all_eq_true.mp ((Array.all_eq_true_iff_forall_mem.mp hF) _ (Array.getElem_mem ha)) i (List.mem_range.mpr hi)
    simpa [Array.getElem?_eq_getElem hi] using q
  obtain ⟨i0, ei0⟩ := is_v g1
  obtain rfl : w0 = (.int i0) := Option.some.inj ei0
  obtain ⟨i1, ei1⟩ := is_v r1
  obtain rfl : w1 = (.int i1) := Option.some.inj ei1
  obtain ⟨n, o, h1, h2, h3, _, L, rfl, ⟨rfl, N⟩, hq⟩ := own_rm_law l s _ hw tables_1 i0 i1  s.heap s.heap.size (Nat.le_refl _)  p e ha hc hk s m _ below hf ((Spec.applies_iff_loose hf).mp happ).1 ⟨rfl, State.Warmed39.refl s, rfl⟩ trivial
  refine ⟨n, _, h1, h2, h3, hpost _ _ _ _ _ _ ⟨Cond.after_iff.mpr rfl, Cond.after_iff.mpr (eq_i res_at (Term.int_eval (1)) rfl), trivial⟩ ⟨hq.1, hq.2.1, (hq.2.2.sift fun y hy => Or.inr (N y hy)).mono (by decide) (by decide)⟩⟩
theorem main_1_1 : Claimed_1_1 := own_comes_1 fun _ _ _ _ _ _ h hF => ⟨h.1, hF⟩
theorem main_1_2 : Claimed_1_2 := own_comes_1 fun _ _ _ _ _ _ h hF => ⟨h.2.1, hF⟩
end Jvm.Pilot.@@N@@
namespace Jvm.Pilot.@@N@@
open Jvm Jvm.ClassFile Sem Op Lib Jvm.Free Jvm.Stand Jvm.Pilot.@@N@@.Jvm.D
/-! MADE BY PROGRAM (witnessworld.py) out of the Statement's table words and the real class files: 10 classes; the members and pool entries that the words name. The judged class is class 1, her method 2. -/
namespace start1
open Jvm.ClassFile
def u (s : String) : CpInfo := .utf8 (stringToUtf16 s)
/-- a pool by its gaps: so many unusable entries, then the entry; so many at the end -/
def gap : Nat → List CpInfo → List CpInfo
  | 0, r => r
  | n + 1, r => .unusable :: gap n r
def poolList (es : List (Nat × CpInfo)) (last : Nat) : List CpInfo := es.foldr (fun e r => gap e.1 (e.2 :: r)) (gap last [])
def pool (es : List (Nat × CpInfo)) (last : Nat) : Array CpInfo := ⟨poolList es last⟩
def fileOf (pool : Array CpInfo) (this : Nat) (attrs : Array Attribute := #[]) (ms : Array MethodInfo := #[]) (fl : Nat := 33) (sup : Nat := 0) (ifs : Array Nat := #[]) (fds : Array FieldInfo := #[]) : ClassFile where
  minorVersion := 0
  majorVersion := 65
  constantPool := pool
  accessFlags := fl
  thisClass := this
  superClass := sup
  interfaces := ifs
  fields := fds
  methods := ms
  attributes := attrs
def plain (name : String) (sup : Option ClassId) : Class where
  name := name
  kind := .ordinary
  loader := none
  accessFlags := 33
  super := sup
  interfaces := #[]
  cf := none
  fields := #[]
  methods := #[]
  instanceTypes := #[]
  staticTypes := #[]
  resolved := #[]
  callSites := []
  init := .initialized
  statics := none
  mirror := none

def pool0 : Array CpInfo := pool [(5, u "<init>"), (0, u "()V"), (1, .class_ 10), (1, u "java/lang/Object")] 113

def k0m0 : Method := { name := "<init>", desc := "()V", sig := { parameters := [], returnType := none }, accessFlags := 1, code := none }
/-- java/lang/Object -/
def k0 : Class := { plain "java/lang/Object" none with
  accessFlags := 33
  interfaces := #[]
  cf := some (fileOf pool0 8 #[] #[{ accessFlags := 1, nameIndex := 5, descriptorIndex := 6, attributes := #[] }] 33 0 #[] #[])
  fields := #[]
  methods := #[k0m0]
  instanceTypes := #[]
  staticTypes := #[]
  resolved := Array.replicate 124 none
  statics := none }

def pool1 : Array CpInfo := pool [(2, .class_ 4), (1, u "java/lang/Object"), (0, u "<init>"), (0, u "()V"), (0, .methodref 8 9), (0, .class_ 10), (0, .nameAndType 11 12), (0, u "java/lang/Math"), (0, u "max"), (0, u "(II)I"), (0, .methodref 8 14), (0, .nameAndType 15 12), (0, u "min"), (0, .class_ 17), (0, u "com/example/covenantry/covenantry/model/RecurringDates"), (0, .interfaceMethodref 16 19), (0, .nameAndType 20 21), (0, u "countsYears"), (0, u "(I)Z"), (0, .methodref 23 24), (0, .class_ 25), (0, .nameAndType 26 27), (0, u "com/example/covenantry/covenantry/model/RecurringDatesCountsYearsPinLaw"), (0, u "clampFixed"), (0, u "(II)Z"), (3, u "law")] 2

def k1m0 : Method := { name := "<init>", desc := "()V", sig := { parameters := [], returnType := none }, accessFlags := 2, code := none }
def k1c1 : Code := { maxStack := 2, maxLocals := 2, code := method_2_code, exceptionTable := #[], attributes := #[] }
def k1m1 : Method := { name := "clampFixed", desc := "(II)Z", sig := { parameters := [.int, .int], returnType := some .boolean }, accessFlags := 10, code := some k1c1 }
def k1c2 : Code := { maxStack := 3, maxLocals := 7, code := code, exceptionTable := #[], attributes := #[] }
def k1m2 : Method := { name := "law", desc := "(II)Z", sig := { parameters := [.int, .int], returnType := some .boolean }, accessFlags := 9, code := some k1c2 }
/-- com/example/covenantry/covenantry/model/RecurringDatesCountsYearsPinLaw -/
def k1 : Class := { plain "com/example/covenantry/covenantry/model/RecurringDatesCountsYearsPinLaw" (some 0) with
  accessFlags := 49
  interfaces := #[]
  cf := some (fileOf pool1 23 #[] #[{ accessFlags := 2, nameIndex := 5, descriptorIndex := 6, attributes := #[] }, { accessFlags := 10, nameIndex := 26, descriptorIndex := 27, attributes := #[] }, { accessFlags := 9, nameIndex := 31, descriptorIndex := 27, attributes := #[] }] 49 2 #[] #[])
  fields := #[]
  methods := #[k1m0, k1m1, k1m2]
  instanceTypes := #[]
  staticTypes := #[]
  resolved := Array.replicate 34 none
  statics := none }

def pool2 : Array CpInfo := pool [(1, .class_ 2), (0, u "com/example/covenantry/covenantry/model/RecurringDates"), (14, .class_ 18), (0, u "java/lang/Object"), (0, u "MOST_YEARS_COUNTED"), (0, u "I"), (2, u "countsYears"), (0, u "(I)Z")] 7

def k2c0 : Code := { maxStack := 2, maxLocals := 1, code := prog_113_method_1_code, exceptionTable := #[], attributes := #[] }
def k2m0 : Method := { name := "countsYears", desc := "(I)Z", sig := { parameters := [.int], returnType := some .boolean }, accessFlags := 9, code := some k2c0 }
/-- com/example/covenantry/covenantry/model/RecurringDates -/
def k2 : Class := { plain "com/example/covenantry/covenantry/model/RecurringDates" (some 0) with
  accessFlags := 1537
  interfaces := #[]
  cf := some (fileOf pool2 1 #[] #[{ accessFlags := 9, nameIndex := 23, descriptorIndex := 24, attributes := #[] }] 1537 17 #[] #[{ accessFlags := 25, nameIndex := 19, descriptorIndex := 20, attributes := #[] }])
  fields := #[{ name := "MOST_YEARS_COUNTED", type := .int, accessFlags := 25, slot := 0, constantValue := 0 }]
  methods := #[k2m0]
  instanceTypes := #[]
  staticTypes := #[.int]
  resolved := Array.replicate 32 none
  statics := none }

def pool3 : Array CpInfo := pool [(1, .class_ 2), (0, u "java/lang/Math"), (1, .class_ 6), (1, u "java/lang/Object"), (0, u "<init>"), (0, u "()V"), (89, .class_ 100), (1, u "java/lang/Math$RandomNumberGeneratorHolder"), (71, u "negativeZeroFloatBits"), (0, u "J"), (2, u "negativeZeroDoubleBits"), (21, u "max"), (2, u "min"), (43, u "$assertionsDisabled"), (0, u "Z"), (88, u "(II)I"), (2, u "twoToTheDoubleScaleDown"), (0, u "D"), (4, u "twoToTheDoubleScaleUp"), (9, u "E"), (3, u "PI"), (2, u "TAU"), (2, u "DEGREES_TO_RADIANS"), (0, u "RADIANS_TO_DEGREES")] 94

def k3m0 : Method := { name := "<init>", desc := "()V", sig := { parameters := [], returnType := none }, accessFlags := 2, code := none }
def k3c1 : Code := { maxStack := 2, maxLocals := 2, code := jdk_29_method_65_code, exceptionTable := #[], attributes := #[] }
def k3m1 : Method := { name := "max", desc := "(II)I", sig := { parameters := [.int, .int], returnType := some .int }, accessFlags := 9, code := some k3c1 }
def k3c2 : Code := { maxStack := 2, maxLocals := 2, code := jdk_29_method_69_code, exceptionTable := #[], attributes := #[] }
def k3m2 : Method := { name := "min", desc := "(II)I", sig := { parameters := [.int, .int], returnType := some .int }, accessFlags := 9, code := some k3c2 }
/-- java/lang/Math -/
def k3 : Class := { plain "java/lang/Math" (some 0) with
  accessFlags := 49
  interfaces := #[]
  cf := some (fileOf pool3 1 #[.nestMembers #[98]] #[{ accessFlags := 2, nameIndex := 7, descriptorIndex := 8, attributes := #[] }, { accessFlags := 9, nameIndex := 198, descriptorIndex := 335, attributes := #[] }, { accessFlags := 9, nameIndex := 201, descriptorIndex := 335, attributes := #[] }] 49 4 #[] #[{ accessFlags := 25, nameIndex := 354, descriptorIndex := 339, attributes := #[] }, { accessFlags := 25, nameIndex := 358, descriptorIndex := 339, attributes := #[] }, { accessFlags := 25, nameIndex := 361, descriptorIndex := 339, attributes := #[] }, { accessFlags := 26, nameIndex := 364, descriptorIndex := 339, attributes := #[] }, { accessFlags := 26, nameIndex := 365, descriptorIndex := 339, attributes := #[] }, { accessFlags := 26, nameIndex := 172, descriptorIndex := 173, attributes := #[] }, { accessFlags := 26, nameIndex := 176, descriptorIndex := 173, attributes := #[] }, { accessFlags := 8, nameIndex := 344, descriptorIndex := 339, attributes := #[] }, { accessFlags := 8, nameIndex := 338, descriptorIndex := 339, attributes := #[] }, { accessFlags := 4120, nameIndex := 245, descriptorIndex := 246, attributes := #[] }])
  fields := #[{ name := "E", type := .double, accessFlags := 25, slot := 0, constantValue := 0 }, { name := "PI", type := .double, accessFlags := 25, slot := 1, constantValue := 0 }, { name := "TAU", type := .double, accessFlags := 25, slot := 2, constantValue := 0 }, { name := "DEGREES_TO_RADIANS", type := .double, accessFlags := 26, slot := 3, constantValue := 0 }, { name := "RADIANS_TO_DEGREES", type := .double, accessFlags := 26, slot := 4, constantValue := 0 }, { name := "negativeZeroFloatBits", type := .long, accessFlags := 26, slot := 5, constantValue := 0 }, { name := "negativeZeroDoubleBits", type := .long, accessFlags := 26, slot := 6, constantValue := 0 }, { name := "twoToTheDoubleScaleUp", type := .double, accessFlags := 8, slot := 7, constantValue := 0 }, { name := "twoToTheDoubleScaleDown", type := .double, accessFlags := 8, slot := 8, constantValue := 0 }, { name := "$assertionsDisabled", type := .boolean, accessFlags := 4120, slot := 9, constantValue := 0 }]
  methods := #[k3m0, k3m1, k3m2]
  instanceTypes := #[]
  staticTypes := #[.double, .double, .double, .double, .double, .long, .long, .double, .double, .boolean]
  resolved := Array.replicate 460 none
  statics := none }

def pool4 : Array CpInfo := pool [(1, u "java/lang/Cloneable"), (0, .class_ 1), (0, u "java/lang/Object"), (0, .class_ 3)] 3

/-- java/lang/Cloneable -/
def k4 : Class := { plain "java/lang/Cloneable" (some 0) with
  accessFlags := 1537
  interfaces := #[]
  cf := some (fileOf pool4 2 #[] #[] 1537 4 #[] #[])
  fields := #[]
  methods := #[]
  instanceTypes := #[]
  staticTypes := #[]
  resolved := Array.replicate 8 none
  statics := none }

def pool5 : Array CpInfo := pool [(1, u "java/io/Serializable"), (0, .class_ 1), (0, u "java/lang/Object"), (0, .class_ 3)] 3

/-- java/io/Serializable -/
def k5 : Class := { plain "java/io/Serializable" (some 0) with
  accessFlags := 1537
  interfaces := #[]
  cf := some (fileOf pool5 2 #[] #[] 1537 4 #[] #[])
  fields := #[]
  methods := #[]
  instanceTypes := #[]
  staticTypes := #[]
  resolved := Array.replicate 8 none
  statics := none }

/-- the primitive byte -/
def k6 : Class := { plain "byte" none with kind := .primitive 'B', accessFlags := 0x411 }
/-- [B -/
def k7 : Class := { plain "[B" (some 0) with kind := .array 6 .byte, interfaces := #[4, 5], accessFlags := 1041 }

/-- the primitive int -/
def k8 : Class := { plain "int" none with kind := .primitive 'I', accessFlags := 0x411 }
/-- [I -/
def k9 : Class := { plain "[I" (some 0) with kind := .array 8 .int, interfaces := #[4, 5], accessFlags := 1041 }

def heap : Heap := #[]
def classes : Array Class := #[k0, k1, k2, k3, k4, k5, k6, k7, k8, k9]
def interned : List (Array UInt16 × Addr) := []
def slotsUsed : Nat := 0
def theMethod : MethodId := ⟨1, 2⟩
def args0 : Array Value := #[.int 5, .int 3]
def aboutOver (below : List Frame) : State where
  vm := { classes := classes, interned := interned.toArray }
  heap := heap
  slotsUsed := slotsUsed
  threads := #[{ frames := .invoking theMethod args0 :: below }]
def below0 : List Frame := [.native { method := ⟨0, 0⟩, args := #[] }]
def about1 : State := aboutOver below0
def p0 : Program := .bare "" "" ""
def e0 : Env := launch0.env 0 0 0
theorem w_frames : about1.frames = Frame.invoking theMethod args0 :: below0 := rfl
set_option maxRecDepth 65536 in
theorem w_args : argsFit about1.vm theMethod args0 = true := by decide +kernel
set_option maxRecDepth 65536 in
theorem w_heap : heapFits about1 = true := by decide +kernel
set_option maxRecDepth 65536 in
theorem w_runnable : about1.curStatus? = some .runnable := by decide +kernel
set_option maxRecDepth 65536 in
theorem w_alone : about1.alone = true := by decide +kernel
set_option maxRecDepth 65536 in
theorem w_named : about1.methodNamed? x = some theMethod := by decide +kernel
set_option maxRecDepth 65536 in
theorem w_hears : about1.hears theMethod below0 = true := by decide +kernel
set_option maxRecDepth 65536 in
theorem w_ripe : about1.ripe theMethod args0 below0 = true := by decide +kernel
theorem w_running : about1.status = .running := rfl
set_option maxRecDepth 65536 in
theorem w_room : about1.hasRoom e0.platform room_1 = true :=
  launch0.hasRoom_least _ room_1 (by decide +kernel) (by decide +kernel) (by decide +kernel) (by decide +kernel) (by decide +kernel) (by decide +kernel)
theorem allAtoms_all (ts : List Jvm.Cond) (a : Array Jvm.Value) (st : Jvm.State) : (allAtoms ts).before a st = ts.all (fun c => c.before a st) := by
  induction ts with
  | nil => rfl
  | cons c t ih =>
    show (Jvm.Cond.and c (allAtoms t)).before a st = _
    rw [Jvm.Cond.before_and, ih, List.all_cons]
def words1 : List Jvm.Cond := Jvm.Cond.code x code maxLocals ret :: tables_1
/-- a 'code' word, met by the world's own term for the bytes: nothing is compared byte by byte -/
theorem code_word {y : MethodName} {bytes : ByteArray} {mx : Nat} {rt : Option FieldType} {a : Array Value} {s : State} {m : MethodId} {meth : Method} {c : Code} (h1 : s.methodNamed? y = some m) (h2 : s.vm.method? m = some meth) (h3 : meth.code = some c) (h4 : c.code = bytes)
    (h5 : (c.maxLocals == mx && c.exceptionTable.isEmpty && decide (c.maxStack ≤ mostOperands) && decide (meth.sig.returnType = rt) && !meth.locks && decide (parseMethodDescriptor y.desc = some meth.sig)) = true) : (Jvm.Cond.code y bytes mx rt).before a s = true := by
  simp only [Bool.and_eq_true, beq_iff_eq, Bool.not_eq_true', decide_eq_true_eq] at h5
  obtain ⟨⟨⟨⟨⟨g1, g2⟩, g3⟩, g4⟩, g5⟩, g6⟩ := h5
  simp [Cond.before, Cond.holds, Cond.value, h1, h2, h3, h4, g1, g2, g3, g4, g5, g6]
def isCode : Jvm.Cond → Bool
  | .code _ _ _ _ => true
  | _ => false
theorem all_split {L : List Jvm.Cond} {P : Jvm.Cond → Bool} (h1 : L.all (fun c => isCode c || P c) = true) (h2 : ∀ c ∈ L.filter isCode, P c = true) : L.all P = true := by
  refine List.all_eq_true.mpr fun c hc => ?_
  have h := List.all_eq_true.mp h1 c hc
  rcases Bool.eq_false_or_eq_true (isCode c) with hi | hi
  · exact h2 c (List.mem_filter.mpr ⟨hc, hi⟩)
  · simpa [hi] using h
set_option maxRecDepth 65536 in
theorem w_c0 : (Jvm.Cond.code x code maxLocals ret).before args0 about1 = true := code_word (m := ⟨1, 2⟩) (meth := k1m2) (c := k1c2) (by decide +kernel) rfl rfl rfl (by decide +kernel)
set_option maxRecDepth 65536 in
theorem w_c1 : (Jvm.Cond.code ({ cls := "com/example/covenantry/covenantry/model/RecurringDates", name := "countsYears", desc := "(I)Z" } : Jvm.MethodName) prog_113_method_1_code (1 : Nat) (Option.some Jvm.ClassFile.FieldType.boolean)).before args0 about1 = true := code_word (m := ⟨2, 0⟩) (meth := k2m0) (c := k2c0) (by decide +kernel) rfl rfl rfl (by decide +kernel)
set_option maxRecDepth 65536 in
theorem w_c2 : (Jvm.Cond.code ({ cls := "com/example/covenantry/covenantry/model/RecurringDatesCountsYearsPinLaw", name := "clampFixed", desc := "(II)Z" } : Jvm.MethodName) method_2_code (2 : Nat) (Option.some Jvm.ClassFile.FieldType.boolean)).before args0 about1 = true := code_word (m := ⟨1, 1⟩) (meth := k1m1) (c := k1c1) (by decide +kernel) rfl rfl rfl (by decide +kernel)
set_option maxRecDepth 65536 in
theorem w_c3 : (Jvm.Cond.code ({ cls := "java/lang/Math", name := "max", desc := "(II)I" } : Jvm.MethodName) jdk_29_method_65_code (2 : Nat) (Option.some Jvm.ClassFile.FieldType.int)).before args0 about1 = true := code_word (m := ⟨3, 1⟩) (meth := k3m1) (c := k3c1) (by decide +kernel) rfl rfl rfl (by decide +kernel)
set_option maxRecDepth 65536 in
theorem w_c4 : (Jvm.Cond.code ({ cls := "java/lang/Math", name := "min", desc := "(II)I" } : Jvm.MethodName) jdk_29_method_69_code (2 : Nat) (Option.some Jvm.ClassFile.FieldType.int)).before args0 about1 = true := code_word (m := ⟨3, 2⟩) (meth := k3m2) (c := k3c2) (by decide +kernel) rfl rfl rfl (by decide +kernel)
def codes1 : List Jvm.Cond := [Jvm.Cond.code x code maxLocals ret, Jvm.Cond.code ({ cls := "com/example/covenantry/covenantry/model/RecurringDates", name := "countsYears", desc := "(I)Z" } : Jvm.MethodName) prog_113_method_1_code (1 : Nat) (Option.some Jvm.ClassFile.FieldType.boolean), Jvm.Cond.code ({ cls := "com/example/covenantry/covenantry/model/RecurringDatesCountsYearsPinLaw", name := "clampFixed", desc := "(II)Z" } : Jvm.MethodName) method_2_code (2 : Nat) (Option.some Jvm.ClassFile.FieldType.boolean), Jvm.Cond.code ({ cls := "java/lang/Math", name := "max", desc := "(II)I" } : Jvm.MethodName) jdk_29_method_65_code (2 : Nat) (Option.some Jvm.ClassFile.FieldType.int), Jvm.Cond.code ({ cls := "java/lang/Math", name := "min", desc := "(II)I" } : Jvm.MethodName) jdk_29_method_69_code (2 : Nat) (Option.some Jvm.ClassFile.FieldType.int)]
set_option maxRecDepth 65536 in
theorem codes_eq : words1.filter isCode = codes1 := rfl
theorem w_codes : ∀ c ∈ words1.filter isCode, c.before args0 about1 = true := by
  rw [codes_eq]
  intro c hc
  simp only [codes1, List.mem_cons, List.not_mem_nil, or_false] at hc
  rcases hc with rfl | rfl | rfl | rfl | rfl
  · exact w_c0
  · exact w_c1
  · exact w_c2
  · exact w_c3
  · exact w_c4
set_option maxRecDepth 65536 in
theorem w_t1 : words1.all (fun c => isCode c || c.before args0 about1) = true := by decide +kernel
theorem w_tables : (allAtoms (Jvm.Cond.code x code maxLocals ret :: tables_1)).before args0 about1 = true := by
  rw [allAtoms_all]
  show words1.all (fun c => c.before args0 about1) = true
  refine all_split ?_ w_codes
  rw [w_t1]
set_option maxRecDepth 65536 in
theorem w_case : (Jvm.Cond.and given_1 narrow_1).before args0 about1 = true := by decide +kernel
theorem w_applies : (headSpec (Jvm.Cond.code x code maxLocals ret :: tables_1) room_1).applies x e0.platform about1 = true :=
  (Spec.applies_iff w_frames).mpr ⟨w_running, w_runnable, w_alone, w_named, w_hears, w_ripe, w_room, w_tables⟩
theorem atStart : AtStart classFile x code maxLocals ret World_1 tables_1 room_1 Calls_1 rest_1 Pre_1 launch0 p0 e0 about1 theMethod args0 below0 :=
  ⟨lists_1, trivial, launch0.admits_env _ _ _, launch0.least_env, fairChoices_fair.cas, fairChoices_fair.clock, w_frames, w_args, w_heap, w_applies, trivial, trivial, w_case⟩
end start1
theorem witness_1 : WitnessClaimed_1 := ⟨start1.p0, start1.e0, start1.about1, start1.theMethod, start1.args0, start1.below0, start1.atStart⟩
end Jvm.Pilot.@@N@@
