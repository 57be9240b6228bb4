import JvmDerived
import JvmDerived.Pilot.@@N@@Statement
import JvmDerived.Pilot.@@N@@Code
set_option linter.unusedVariables false
set_option linter.unusedSimpArgs false
namespace Jvm.RoadKit
open Sem ClassFile Op Lib Jvm.Stand Jvm.Free Jvm.LawKit
section Own
variable {p : Program} {l : Launch} {e : Env} {R : Room} {s : State} {m : MethodId} {args : Array Value} {below : List Frame} {meth : Method} {c : Code} {T : State} {locs : List Loc} {cells slots : Nat}
theorem retI (X : Stand p l e R s m args below meth c T locs cells slots) (hx : p.tables.exec = Jvm.exec) {pc : Nat} {Ls : Array Slot} {z : Int32} {rest : List Value} (hret : meth.sig.returnType = some .int) (hd : decode c.code pc = .ok (.ireturn, 1)) {fs : List Frame}
    (hl : ∀ (f : JFrame) (acts : List Action), f.method = m → f.locked = none → f.entered = [] → (doReturn e (T.setTop f) acts (some (.int z))).1 = T.setFrames fs) : Steps p.tables e below (T.setTop (mkF m pc Ls (.int z :: rest))) (T.setFrames fs) := by
  have hm' : T.vm.method? m = some meth := X.method'
  have hn : narrow .int (.int z) = .int z := rfl
  show Steps p.tables e below (T.setTop { method := m, pc := pc, locals := Ls, stack := _ :: rest, locked := none }) _
  jvm_step X.here [X.here.top, hx, hd, hm', hret, hn]
  first | (intro acts; rw [hl _ acts rfl rfl rfl]) | rw [hl _ _ rfl rfl rfl]
  exact Steps.refl _
/-- from U the run comes to an end of which Qo holds -/
def oe (tb : Tables) (e : Env) (below : List Frame) (Qo : Outcome → State → Prop) (U : State) : Prop := ∃ s₂ o, Steps tb e below U s₂ ∧ s₂.status = .running ∧ Ended s₂ below o ∧ Qo o s₂
def oT (s : State) (Q : Option Value → Heap → List Loc → Prop) (A B : Nat) : Outcome → State → Prop := fun o U' => ∃ v L, o = .returned v ∧ Q v U'.heap L ∧ FrameEnd s o U' L A B
theorem ow {tb : Tables} {e : Env} {below : List Frame} {Qo : Outcome → State → Prop} {U V : State} (k : ∀ t, Steps tb e below V t → Steps tb e below U t) (h : oe tb e below Qo V) : oe tb e below Qo U := by
  obtain ⟨s₂, o, h1, h2⟩ := h; exact ⟨s₂, o, k _ h1, h2⟩
variable {Q : Option Value → Heap → List Loc → Prop} {A B : Nat}
theorem oaM (X : Stand p l e R s m args below meth c T locs cells slots) (hlk : meth.locks = false) {v : Option Value} (hv : meth.sig.returnType = none → v = none) (ha : cells ≤ A) (hb : slots ≤ B) (hQ : Q v T.heap locs) {g : JFrame}
    (k : ∀ fs, (∀ (f : JFrame) (acts : List Action), f.method = m → f.locked = none → f.entered = [] → (doReturn e (T.setTop f) acts v).1 = T.setFrames fs) → Steps p.tables e below (T.setTop g) (T.setFrames fs)) : oe p.tables e below (oT s Q A B) (T.setTop g) := by
  obtain ⟨fs, hr, hrun, hended, hW, hsame⟩ := X.leave (v := v) hv hlk
  exact ⟨_, _, k fs hr, hrun, hended, _, _, rfl, (show Q v T.heap locs from hQ), ⟨_, rfl⟩, hW, hsame.mono ha hb⟩
theorem oap (X : Stand p l e R s m args below meth c T locs cells slots) (hx : p.tables.exec = Jvm.exec) (hlk : meth.locks = false) (ha : cells ≤ A) (hb : slots ≤ B) {pc : Nat} {Ls : Array Slot} {z : Int32} {t : FieldType} {rest : List Value} (hret : meth.sig.returnType = some t) (ht : t = .boolean ∨ t = .byte ∨ t = .char ∨ t = .short)
    (hd : decode c.code pc = .ok (.ireturn, 1)) (hQ : Q (some (.int (nar t z))) T.heap locs) : oe p.tables e below (oT s Q A B) (T.setTop (mkF m pc Ls (.int z :: rest))) :=
  oaM X hlk (fun h => by rw [hret] at h; cases h) ha hb hQ fun fs hr => retN X hx hret ht hd hr
theorem oQ (X : Stand p l e R s m args below meth c T locs cells slots) (hx : p.tables.exec = Jvm.exec) (hlk : meth.locks = false) (ha : cells ≤ A) (hb : slots ≤ B) {pc : Nat} {Ls : Array Slot} {z : Int32} {rest : List Value} (hret : meth.sig.returnType = some .int)
    (hd : decode c.code pc = .ok (.ireturn, 1)) (hQ : Q (some (.int z)) T.heap locs) : oe p.tables e below (oT s Q A B) (T.setTop (mkF m pc Ls (.int z :: rest))) :=
  oaM X hlk (fun h => by rw [hret] at h; cases h) ha hb hQ fun fs hr => retI X hx hret hd hr
theorem oaw (X : Stand p l e R s m args below meth c T locs cells slots) (hx : p.tables.exec = Jvm.exec) (hlk : meth.locks = false) (ha : cells ≤ A) (hb : slots ≤ B) {pc : Nat} {Ls : Array Slot} {z : Int64} {rest : List Value} (hret : meth.sig.returnType = some .long)
    (hd : decode c.code pc = .ok (.lreturn, 1)) (hQ : Q (some (.long z)) T.heap locs) : oe p.tables e below (oT s Q A B) (T.setTop (mkF m pc Ls (.long z :: rest))) :=
  oaM X hlk (fun h => by rw [hret] at h; cases h) ha hb hQ fun fs hr => by
    have hm' : T.vm.method? m = some meth := X.method'
    show Steps p.tables e below (T.setTop { method := m, pc := pc, locals := Ls, stack := _ :: rest, locked := none }) _
    jvm_step X.here [X.here.top, hx, hd, hm', hret, narrow]
    first | (intro acts; rw [hr _ acts rfl rfl rfl]) | rw [hr _ _ rfl rfl rfl]
    exact Steps.refl _
theorem oO (X : Stand p l e R s m args below meth c T locs cells slots) (hx : p.tables.exec = Jvm.exec) (hlk : meth.locks = false) (ha : cells ≤ A) (hb : slots ≤ B) {pc : Nat} {Ls : Array Slot} {z : Value} {t : FieldType} {rest : List Value} (hret : meth.sig.returnType = some t) (ht : t.isReference = true) (hz : z.isRef = true)
    (hd : decode c.code pc = .ok (.areturn, 1)) (hQ : Q (some z) T.heap locs) : oe p.tables e below (oT s Q A B) (T.setTop (mkF m pc Ls (z :: rest))) :=
  oaM X hlk (fun h => by rw [hret] at h; cases h) ha hb hQ fun fs hr => by
    have hm' : T.vm.method? m = some meth := X.method'
    show Steps p.tables e below (T.setTop { method := m, pc := pc, locals := Ls, stack := _ :: rest, locked := none }) _
    jvm_step X.here [X.here.top, hx, hd, hm', hret, ht, hz]
    first | (intro acts; rw [hr _ acts rfl rfl rfl]) | rw [hr _ _ rfl rfl rfl]
    exact Steps.refl _
theorem oG (X : Stand p l e R s m args below meth c T locs cells slots) (hx : p.tables.exec = Jvm.exec) (hlk : meth.locks = false) (ha : cells ≤ A) (hb : slots ≤ B) {pc : Nat} {Ls : Array Slot} (hret : meth.sig.returnType = none)
    (hd : decode c.code pc = .ok (.return_, 1)) (hQ : Q none T.heap locs) : oe p.tables e below (oT s Q A B) (T.setTop (mkF m pc Ls [])) :=
  oaM X hlk (fun _ => rfl) ha hb hQ fun fs hr => X.returnOut hx hret hd hr
theorem ocu {s : State} {args : Array Value} {n : Nat} {y : MethodName} (hy : y.cls ≠ "java/lang/invoke/MethodHandle" ∧ y.cls ≠ "java/lang/invoke/VarHandle") (hins : (Cond.instantiable y.cls n).before args s = true) (hpriv : (Cond.privateMethod y).before args s = true) (hinst : (Cond.instanceMethod y).before args s = true) :
    (Cond.selects y.cls y y).before args s = true := by
  obtain ⟨c, k, hc, hk, -, hniab, -, -⟩ := Cond.instantiable_spec hins
  have hni : k.isInterface = false := (Bool.or_eq_false_iff.mp hniab).1
  obtain ⟨mk, methM, hnamed, hmethM, -, -⟩ := Cond.instanceMethod_spec hinst
  have hfound : s.methodFound? y.cls y.name y.desc = some mk := State.methodFound?_of_named hnamed hy
  have hcls : mk.cls = c := Option.some.inj ((findClass_of_methodNamed hnamed).symm.trans hc)
  have hsel : selectMethod {} s.vm c mk = .method mk := selectMethod_private hmethM (Cond.privateMethod_at hpriv mk methM hnamed hmethM)
  simp only [Cond.before, Cond.holds, Cond.value, hc, hfound, hnamed, hsel, hcls, hk]
  simp; exact hni
theorem oj3 (X : Stand p l e R s m args below meth c T locs cells slots) (hx : p.tables.exec = Jvm.exec) {pc : Nat} {Ls : Array Slot} {z : Int64} {rest : List Value} (hd : decode c.code pc = .ok (.pop2, 1)) {target : State}
    (hr : Steps p.tables e below (T.setTop (mkF m (pc + 1) Ls rest)) target) : Steps p.tables e below (T.setTop (mkF m pc Ls (.long z :: rest))) target := by
  show Steps p.tables e below (T.setTop { method := m, pc := pc, locals := Ls, stack := _ :: rest, locked := none }) _
  jvm_step X.here [X.here.top, hx, hd, Value.category]
  exact hr
def obb (h : Heap) (x : Addr) : Prop := ∃ c : Cell, h[x]? = some c ∧ c.vm.isStatics = false
theorem oj4 {Z : State} {h : Heap} {a : Addr} {C : String} (F : Exa Z h a C) : obb h a := by obtain ⟨c, k, h1, h2, h3, h4, h5⟩ := F; exact ⟨c, h1, h4⟩
theorem oj5 {Z : State} {h : Heap} {a : Addr} {k : ClassId} {ty : FieldType} {z : Int32} {vs : List Value} {d : Value} (F : Arv Z h a k ty z vs d) : obb h a := by obtain ⟨c, A, -⟩ := F; exact ⟨c, A.1, A.plain⟩
theorem oj6 {Z : State} {h h' : Heap} {ws : List Addr} {C n d : String} {v : Value} (F : Sta Z h C n d v) (K : Keep h h' ws) (q : ∀ x ∈ ws, obb h x) : Sta Z h' C n d v := by
  obtain ⟨cf, i, k, f, st, cell, h1, h2, h3, h4, h5, h6, h7⟩ := F
  refine ⟨cf, i, k, f, st, cell, h1, h2, h3, h4, K.2.1 st cell h5 fun m => ?_, h6, h7⟩
  obtain ⟨c, e1, e2⟩ := q st m
  rw [h5] at e1; cases e1; rw [h6] at e2; cases e2
theorem ocv (x y : Int64) : lcmpW x y < 0 ↔ x < y := by rw [lcW]; exact lc_lt x y
theorem obq (x y : Int64) : 0 < lcmpW x y ↔ y < x := by rw [lcW]; exact lc_gt x y
theorem oaq (x y : Int64) : lcmpW x y = 0 ↔ x = y := by rw [lcW]; exact lc_eq x y
end Own
end Jvm.RoadKit
namespace Jvm.RoadKit
open Sem ClassFile Op Lib Jvm.Stand Jvm.Free Jvm.LawKit
section Own2
variable {p : Program} {l : Launch} {e : Env} {R : Room} {s : State} {m : MethodId} {args : Array Value} {below : List Frame} {meth : Method} {c : Code} {T : State} {locs : List Loc} {cells slots : Nat} {Z : State} {h h' h'' : Heap}
theorem ocw {aw : Array Value} (hZ : Z.Warmed39 s.vm) {own : String} {i : Nat} {y : MethodName} {d : ClassId} (hy : y.cls ≠ "java/lang/invoke/MethodHandle" ∧ y.cls ≠ "java/lang/invoke/VarHandle")
    (hown : s.vm.findClass own = some d) (href : (Cond.methodRef own i y).before aw Z = true) (U : State) (r : MethodId) (hU : s.WarmedH U.vm) (hr : s.methodNamed? y = some r) : namesResolved U.vm d i r.cls ∧ U.vm.methodReady d i r := by
  have hnZ : Z.methodNamed? y = some r := by
    have := State.methodNamed?_setVm (s := Z) hZ.alike y
    rw [← this]; exact hr
  have h1 := Cond.methodRef_warmed39 hZ hnZ hy href
  have hn1 : (Z.setVm s.vm).methodNamed? y = some r := hr
  have h2 := Cond.methodRef_warmed (s := Z.setVm s.vm) (vm' := U.vm) hU hn1 hy h1
  have hcU : ((Z.setVm s.vm).setVm U.vm).vm.findClass own = some d := by show U.vm.findClass own = some d; rw [hU.alike.findClass]; exact hown
  obtain ⟨m, c', hf, hready, hfind, hnamed⟩ := Cond.methodRef_named ({ classPath := fun _ => none } : Env) hcU h2
  have hnU : ((Z.setVm s.vm).setVm U.vm).methodNamed? y = some r := by
    have := State.methodNamed?_setVm (s := s) hU.alike y
    exact this.trans hr
  cases (State.methodFound?_of_named hnU hy).symm.trans hf
  cases (findClass_of_methodNamed hnU).symm.trans hfind
  exact ⟨hnamed, hready⟩
theorem ocx (X : Stand p l e R s m args below meth c T locs cells slots) (hx : p.tables.exec = Jvm.exec) (hZ : Z.Warmed39 s.vm) {aw : Array Value} {own : String} {index : Nat} {y : MethodName} (hy1 : y.name = "<init>")
    (hown : s.vm.findClass own = some m.cls) (href : (Cond.methodRef own index y).before aw Z = true) (hinst : (Cond.instanceMethod y).before args s = true) {bytes : ByteArray} {maxL : Nat} (hcode : (Cond.code y bytes maxL none).before args s = true)
    (hy : y.cls ≠ "java/lang/invoke/MethodHandle" ∧ y.cls ≠ "java/lang/invoke/VarHandle")
    {W : Nat} {Pre : Pt → Array Value → Prop} {Post : Pt → Array Value → Option Value → Pt → Prop} (hK : Back l R p e below s args y 3 W Pre Post)
    {g : JFrame} (hg : g.method = m) (hsize : g.locals.size = c.maxLocals) {s₀ : State} (hcome : Steps p.tables e below s₀ (T.setTop g)) {a : Addr} {argsL rest : List Value}
    (hlen : ∀ sig, parseMethodDescriptor y.desc = some sig → argsL.length = sig.parameters.length) (hstack : g.stack = argsL.reverse ++ .ref a :: rest) (hW : 2 * g.monitorRoom + (rest.map fun v => v.category).sum ≤ W)
    (hdg : decode c.code g.pc = .ok (.invokespecial index, 3)) (hpre : ∀ vm₁, s.WarmedH vm₁ → Pre ⟨T.setVm vm₁, locs, cells, slots⟩ (.ref a :: argsL).toArray) :
    ∃ (v : Option Value) (vm₁ : Vm) (B : Pt), s.WarmedH vm₁ ∧ Stand p l e R s m args below meth c B.U B.locs B.cells B.slots ∧ Post ⟨T.setVm vm₁, locs, cells, slots⟩ (.ref a :: argsL).toArray v B ∧
      Steps p.tables e below s₀ (B.U.setTop { g with pc := g.pc + 3, stack := v.toList ++ rest }) :=
  (SCall.of_ready hx hy1 hinst hcode (ocw hZ hy hown href) : SCall p l e R s m args below meth c index y) X hK hg hsize hcome hlen hstack hW hdg hpre
theorem obc (X : Stand p l e R s m args below meth c T locs cells slots) (hx : p.tables.exec = Jvm.exec) (hZ : Z.Warmed39 s.vm) {a0 : Array Value} {own C : String} {index : Nat} (hown : s.vm.findClass own = some m.cls)
    (w : (Cond.classLink own index C).before a0 Z = true) {mr : Addr} (M : Mir Z C mr) (eT : T.heap = h) {g : JFrame} (hg : g.method = m) (hd : decode c.code g.pc = .ok (.ldc index, 2)) :
    ∃ T', Stand p l e R s m args below meth c T' locs cells slots ∧ T'.heap = h ∧ ∀ target, Steps p.tables e below (T'.setTop { g with pc := g.pc + 2, stack := .ref mr :: g.stack }) target → Steps p.tables e below (T.setTop g) target := by
  obtain ⟨cc, k, m1, m2, m3, -⟩ := M
  obtain ⟨k', q, ek⟩ := hZ.alike.2.2 _ _ m2
  have m1' : s.vm.findClass C = some cc := by rw [hZ.alike.findClass]; exact m1
  have m3' : k'.mirror = some mr := by rw [ek]; exact m3
  have ev : (Term.mirror C).eval args s none [] s = some (.ref mr) := by
    simp only [Term.eval, m1', q, m3', Option.bind_eq_bind, Option.bind_some, Option.pure_def]
  obtain ⟨vm', X', st⟩ := X.ldcMirror hx hown (mvT hZ w) ev hg hd
  exact ⟨_, X', eT, st⟩
theorem ocy (X : Stand p l e R s m args below meth c T locs cells slots) (hx : p.tables.exec = Jvm.exec) (hZ : Z.Warmed39 s.vm) {a0 : Array Value} {own C : String} {index : Nat} (hown : s.vm.findClass own = some m.cls)
    (w1 : (Cond.methodLink own index ⟨"java/lang/Object", "getClass", "()Ljava/lang/Class;"⟩).before a0 Z = true) (w2 : (Cond.declares ⟨"java/lang/Object", "getClass", "()Ljava/lang/Class;"⟩).before a0 Z = true) (w4 : (Cond.selects C ⟨"java/lang/Object", "getClass", "()Ljava/lang/Class;"⟩ ⟨"java/lang/Object", "getClass", "()Ljava/lang/Class;"⟩).before a0 Z = true)
    (w5 : (Cond.instanceMethod ⟨"java/lang/Object", "getClass", "()Ljava/lang/Class;"⟩).before a0 Z = true) (w6 : (Cond.native ⟨"java/lang/Object", "getClass", "()Ljava/lang/Class;"⟩).before a0 Z = true) (eT : T.heap = h) {a : Addr} (E : Exa Z h a C) {mr : Addr} (M : Mir Z C mr)
    {g : JFrame} (hg : g.method = m) (hsize : g.locals.size = c.maxLocals) {rest : List Value} (hs : g.stack = .ref a :: rest) (hd : decode c.code g.pc = .ok (.invokevirtual index, 3)) (hf : 1 ≤ R.frames) {W : Nat} (hW : 2 * g.monitorRoom + (rest.map fun v => v.category).sum ≤ W) (hl : W + (nativeFrameWords "java/lang/Object" "getClass" 1 + 11) ≤ R.locals) :
    ∃ T', Stand p l e R s m args below meth c T' locs cells slots ∧ T'.heap = h ∧ ∀ target, Steps p.tables e below (T'.setTop { g with pc := g.pc + 3, stack := .ref mr :: rest }) target → Steps p.tables e below (T.setTop g) target := by
  obtain ⟨cB, kB, i1, i2, i3⟩ := isOf hZ eT E
  obtain ⟨cc, kc, m1, m2, m3, -⟩ := M
  rw [hZ.alike.findClass] at i1
  cases i1.symm.trans m1
  obtain ⟨k', q, ek⟩ := hZ.alike.2.2 _ _ m2
  have w4' : (Cond.selects C ⟨"java/lang/Object", "getClass", "()Ljava/lang/Class;"⟩ ⟨"java/lang/Object", "getClass", "()Ljava/lang/Class;"⟩).before args s = true := mvT hZ w4
  obtain ⟨vm', X', st⟩ := X.getClassOf hx hown (mvT hZ w1) (mvT hZ w2) (notFace_of_selects w4') w4' (mvT hZ w5) (mvT hZ w6) (by rw [hZ.alike.findClass]; exact m1) i3 q (by rw [ek]; exact m3) hg hsize hs hd hf (by omega)
  exact ⟨_, X', eT, st⟩
theorem obr {a0 : Array Value} {r o n d : String} (hZ : Z.Warmed39 s.vm) (w : (Cond.interfaceMethod r o n d).before a0 Z = true) : (Cond.interfaceMethod r o n d).before args s = true := by
  have e1 : s.vm.findClass r = Z.vm.findClass r := by rw [hZ.alike.findClass]
  have e2 : s.methodFound? r n d = Z.methodFound? r n d := State.methodFound?_setVm (s := Z) hZ.alike r n d
  have e3 : s.methodNamed? ⟨o, n, d⟩ = Z.methodNamed? ⟨o, n, d⟩ := State.methodNamed?_setVm (s := Z) hZ.alike ⟨o, n, d⟩
  simp only [Cond.before, Cond.holds, Cond.value, e1, e2, e3] at w ⊢
  cases h1 : Z.vm.findClass r with
  | none => simp [h1] at w
  | some cc =>
    cases h2 : Z.methodFound? r n d with
    | none => simp [h1, h2] at w
    | some rr =>
      cases h3 : Z.methodNamed? ⟨o, n, d⟩ with
      | none => simp [h1, h2, h3] at w
      | some mm =>
        cases h4 : Z.vm.classes[cc]? with
        | none => simp [h1, h2, h3, h4] at w
        | some k =>
          obtain ⟨k', q, ek⟩ := hZ.alike.2.2 _ _ h4
          have ei : k'.isInterface = k.isInterface := by rw [ek]; rfl
          simp only [h1, h2, h3, h4, q, Option.any_some, ei] at w ⊢
          exact w
theorem ocz {a0 : Array Value} {own host : String} {index : Nat} {y : MethodName} (hZ : Z.Warmed39 s.vm) (w : (Cond.methodLinkNest own index y host).before a0 Z = true) : (Cond.methodLinkNest own index y host).before args s = true :=
  (Cond.methodLinkNest_kept (args := a0) (State.Shifted.of_warmed39 hZ) (fun m x hx => by rw [hZ.hostNow]; exact hx) w :)
theorem ocA (X : Stand p l e R s m args below meth c T locs cells slots) (hx : p.tables.exec = Jvm.exec) (hZ : Z.Warmed39 s.vm) {a0 : Array Value} {own C : String} {index count : Nat} {xi : MethodName} (hown : s.vm.findClass own = some m.cls)
    (w1 : (Cond.methodLink own index xi).before a0 Z = true) (w2 : (Cond.declares ⟨"java/lang/Object", "getClass", "()Ljava/lang/Class;"⟩).before a0 Z = true) (w3 : (Cond.interfaceMethod xi.cls "java/lang/Object" xi.name xi.desc).before args s = true)
    (w4 : (Cond.selects C xi ⟨"java/lang/Object", "getClass", "()Ljava/lang/Class;"⟩).before a0 Z = true) (w5 : (Cond.instanceMethod ⟨"java/lang/Object", "getClass", "()Ljava/lang/Class;"⟩).before a0 Z = true) (w6 : (Cond.publicMethod ⟨"java/lang/Object", "getClass", "()Ljava/lang/Class;"⟩).before a0 Z = true)
    (w7 : (Cond.unhidden C xi.name xi.desc).before a0 Z = true) (w8 : (Cond.castable C xi.cls).before a0 Z = true) (w9 : (Cond.native ⟨"java/lang/Object", "getClass", "()Ljava/lang/Class;"⟩).before a0 Z = true)
    (hy : xi.cls ≠ "java/lang/invoke/MethodHandle" ∧ xi.cls ≠ "java/lang/invoke/VarHandle") (hxo : xi.cls ≠ "java/lang/Object") (hname : xi.name = "getClass") (hdesc : xi.desc = "()Ljava/lang/Class;") (eT : T.heap = h) {a : Addr} (E : Exa Z h a C) {mr : Addr} (M : Mir Z C mr)
    {g : JFrame} (hg : g.method = m) (hsize : g.locals.size = c.maxLocals) {rest : List Value} (hs : g.stack = .ref a :: rest) (hd : decode c.code g.pc = .ok (.invokeinterface index count, 5)) (hf : 1 ≤ R.frames) {W : Nat} (hW : 2 * g.monitorRoom + (rest.map fun v => v.category).sum ≤ W) (hl : W + (nativeFrameWords "java/lang/Object" "getClass" 1 + 11) ≤ R.locals) :
    ∃ T', Stand p l e R s m args below meth c T' locs cells slots ∧ T'.heap = h ∧ ∀ target, Steps p.tables e below (T'.setTop { g with pc := g.pc + 5, stack := .ref mr :: rest }) target → Steps p.tables e below (T.setTop g) target := by
  obtain ⟨cB, kB, i1, i2, i3⟩ := isOf hZ eT E
  obtain ⟨cc, kc, m1, m2, m3, -⟩ := M
  rw [hZ.alike.findClass] at i1
  cases i1.symm.trans m1
  obtain ⟨k', q, ek⟩ := hZ.alike.2.2 _ _ m2
  obtain ⟨vm', X', st⟩ := X.getClassOfI hx hown (mvT hZ w1) (mvT hZ w2) w3 (mvT hZ w4) (mvT hZ w5) (mvT hZ w6) (mvT hZ w7) (mvT hZ w8) (mvT hZ w9) hy hxo hname hdesc (by rw [hZ.alike.findClass]; exact m1) q i3 (by rw [ek]; exact m3) hg hsize hs hd hf (by omega)
  exact ⟨_, X', eT, st⟩
theorem oar (n : Nat) {a : Addr} {k : ClassId} {ty : FieldType} {z : Int32} {dv : Value} (F : Arv Z h a k ty z [] dv) : Arv Z h a k ty z (List.replicate n dv) dv := F.pad (pad_rep [] dv n)
theorem op (E : Ext h h') : Keep h h' [] := (Keep.refl h []).ext E
/-- what is written lies from lo to hi -/
def oD (h h' : Heap) (lo hi : Nat) : Prop := ∃ ws : List Nat, Keep h h' ws ∧ ∀ x : Nat, x ∈ ws → lo ≤ x ∧ x < hi
variable {lo hi lo' hi' : Nat} {a : Nat}
theorem oD.size (K : oD h h' lo hi) : h.size ≤ h'.size := by obtain ⟨ws, K, -⟩ := K; exact K.1
theorem oD.refl (h : Heap) (lo hi : Nat) : oD h h lo hi := ⟨[], Keep.refl _ _, all0⟩
theorem obs {ws : List Nat} (q : ∀ x : Nat, x ∈ ws → lo ≤ x ∧ x < hi) (ha : a < lo ∨ hi ≤ a) : a ∉ ws := fun z => by have := q a z; omega
theorem oh {C n d : String} {v : Value} (F : Fld Z h a C n d v) (K : oD h h' lo hi) (q : a < lo ∨ hi ≤ a) : Fld Z h' a C n d v := by obtain ⟨ws, K, r⟩ := K; exact F.keep K (obs r q)
theorem oW {C : String} (F : Exa Z h a C) (K : oD h h' lo hi) : Exa Z h' a C := by obtain ⟨ws, K, r⟩ := K; exact F.keep K
theorem oR {k : ClassId} {ty : FieldType} {z : Int32} {vs : List Value} {dv : Value} (F : Arv Z h a k ty z vs dv) (K : oD h h' lo hi) (q : a < lo ∨ hi ≤ a) : Arv Z h' a k ty z vs dv := by obtain ⟨ws, K, r⟩ := K; exact F.keep K (obs r q)
theorem ocB {ws : List Nat} {W : List Nat} (K : Keep h h' ws) (q : ∀ x : Nat, x ∈ ws → x ∈ W) : Keep h h' W := (Keep.refl h W).trans K fun x m => Or.inl (q x m)
theorem oD.trans {ws : List Nat} (K : oD h h' lo hi) (k : Keep h' h'' ws) (q : ∀ x : Nat, x ∈ ws → (lo ≤ x ∧ x < hi) ∨ h.size ≤ x) : oD h h'' lo hi := by
  obtain ⟨W, K, r⟩ := K
  refine ⟨W ++ ws.filter (fun x => decide (lo ≤ x ∧ x < hi)), (ocB K fun x m => List.mem_append_left _ m).trans k fun x m => ?_, fun x m => ?_⟩
  · rcases q x m with u | u
    · exact Or.inl (List.mem_append_right _ (List.mem_filter.mpr ⟨m, decide_eq_true u⟩))
    · exact Or.inr u
  · rcases List.mem_append.mp m with u | u
    · exact r x u
    · exact of_decide_eq_true (List.mem_filter.mp u).2
theorem oD.ext (K : oD h h' lo hi) (E : Ext h' h'') : oD h h'' lo hi := K.trans (op E) all0
theorem oD.wr {sl : Nat} {v : Value} (K : oD h h' lo hi) (W : Wr h' h'' a sl v) (q : (lo ≤ a ∧ a < hi) ∨ h.size ≤ a) : oD h h'' lo hi := K.trans (Keep.of_wr W) (allS q all0)
theorem oD.transI (K : oD h h' lo hi) (k : oD h' h'' lo' hi') (q : (lo ≤ lo' ∧ hi' ≤ hi) ∨ h.size ≤ lo') : oD h h'' lo hi := by
  obtain ⟨ws, k, r⟩ := k
  exact K.trans k fun x m => by have := r x m; omega
theorem oD.of {ws : List Nat} (K : Keep h h' ws) (q : ∀ x : Nat, x ∈ ws → lo ≤ x ∧ x < hi) : oD h h' lo hi := ⟨ws, K, q⟩
theorem oj7 {W : List Nat} (K : Keep h h' W) (k : oD h' h'' lo hi) (q : h.size ≤ lo) : Keep h h'' W := by
  obtain ⟨ws, k, r⟩ := k
  exact K.trans k fun x m => Or.inr (by have := r x m; omega)
theorem ocC {ws : List Nat} (E : Ext h h') (K : Keep h' h'' ws) (q : ∀ x : Nat, x ∈ ws → h.size ≤ x) : Ext h h'' :=
  ⟨Nat.le_trans E.1 K.1, fun x c hx => K.2.1 x c (E.2 x c hx) fun m => by have := q x m; have := (Array.getElem?_eq_some_iff.mp hx).1; omega⟩
/-- an end that may have interned -/
def obd (s : State) (Q : Option Value → Heap → List Loc → Prop) (A B : Nat) : Outcome → State → Prop := fun o U' => ∃ v L, o = .returned v ∧ Q v U'.heap L ∧ ReturnedEndW s o U' L A B
theorem ocD {Q : Option Value → Heap → List Loc → Prop} {A B : Nat} {vm1 : Vm} (X : Stand p l e R (s.setVm vm1) m args below meth c T locs cells slots) (hx : p.tables.exec = Jvm.exec) (hlk : meth.locks = false) {n : Nat} (hS : s.Since vm1 n) (hn : n ≤ T.heap.size) (ha : cells ≤ A) (hb : slots ≤ B) {pc : Nat} {Ls : Array Slot} {z : Int32} {t : FieldType} {rest : List Value} (hret : meth.sig.returnType = some t) (ht : t = .boolean ∨ t = .byte ∨ t = .char ∨ t = .short)
    (hd : decode c.code pc = .ok (.ireturn, 1)) (hQ : Q (some (.int (nar t z))) T.heap locs) : oe p.tables e below (obd s Q A B) (T.setTop (mkF m pc Ls (.int z :: rest))) := by
  obtain ⟨fs, hr, hrun, hended, h1, h2, h3, hsame⟩ := X.leaveW hS hn (v := some (.int (nar t z))) (fun h => by rw [hret] at h; cases h) hlk
  exact ⟨_, _, retN X hx hret ht hd hr, hrun, hended, _, _, rfl, (show Q _ T.heap locs from hQ), h1, h2, h3, hsame.mono ha hb⟩
variable {EL : List (String × Nat)} {vm vm1 : Vm} {h0 h1 : Heap}
theorem ocE (H : CHv Z EL vm h0) (K : Keep h0 h1 []) (C : CHr Z EL vm h1 vm1 h') {x : Nat} (a1 : h0.size ≤ x) (a2 : x < h1.size) : Safe Z EL vm1 h' x :=
  C.safe a2 fun B => Safe.new a1 ((H.keepStep K (fun _ q => nomatch q)).2 _ B)
theorem ocF (H : CHv Z EL vm h) (K : oD h h' lo hi) (q : ∀ x : Nat, lo ≤ x → x < hi → Safe Z EL vm h x) : CHv Z EL vm h' ∧ ∀ x, Safe Z EL vm h x → Safe Z EL vm h' x := by
  obtain ⟨ws, K, r⟩ := K
  have z : ∀ x ∈ ws, Safe Z EL vm h x := fun x m => q x (r x m).1 (r x m).2
  exact ⟨H.keep K z, fun x S => S.keep K z H⟩
theorem obt {b : Nat} (sf : ∀ x : Nat, lo ≤ x → x < hi → Safe Z EL vm h x) (ne : ∀ x, Safe Z EL vm h x → x ≠ a ∧ x ≠ b) : (a < lo ∨ hi ≤ a) ∧ (b < lo ∨ hi ≤ b) := by
  refine ⟨?_, ?_⟩
  · rcases Nat.lt_or_ge a lo with q | q
    · exact Or.inl q
    · rcases Nat.lt_or_ge a hi with r | r
      · exact absurd rfl (ne a (sf a q r)).1
      · exact Or.inr r
  · rcases Nat.lt_or_ge b lo with q | q
    · exact Or.inl q
    · rcases Nat.lt_or_ge b hi with r | r
      · exact absurd rfl (ne b (sf b q r)).2
      · exact Or.inr r
end Own2
end Jvm.RoadKit
namespace Jvm.RoadKit
open Sem ClassFile Op Lib Jvm.Stand Jvm.Free Jvm.LawKit
section Own3
variable {p : Program} {l : Launch} {e : Env} {R : Room} {s : State} {m : MethodId} {args : Array Value} {below : List Frame} {meth : Method} {c : Code} {T : State} {locs : List Loc} {cells slots : Nat} {Z : State} {h : Heap} {Q : Option Value → Heap → List Loc → Prop} {Qo : Outcome → State → Prop}
theorem ob {a0 : Array Value} {C O n d O' n' d' : String} (L : Laid Z a0 C O n d) (L' : Laid Z a0 C O' n' d') (q : (n != n' && (parseFieldDescriptor d).isSome && (parseFieldDescriptor d').isSome) = true) : slotOf Z O n d ≠ slotOf Z O' n' d' := by
  simp only [Bool.and_eq_true, bne_iff_ne, ne_eq] at q
  obtain ⟨t, ht⟩ := Option.isSome_iff_exists.mp q.1.2
  obtain ⟨t', ht'⟩ := Option.isSome_iff_exists.mp q.2
  exact slot_ne L L' q.1.1 ht ht'
/-- a body's contract -/
abbrev ot (l : Launch) (Z : State) (y : MethodName) (b : ByteArray) (ml : Nat) (rt : Option FieldType) (ws : List Cond) (R : Room) (A : Array Value) (h0 : Heap) (Q : Option Value → Heap → List Loc → Prop) : Prop :=
  MetFree l y (head1 (Cond.code y b ml rt :: ws) R) (fun a U => a = A ∧ Z.Warmed39 U.vm ∧ U.heap = h0) (fun _ _ _ _ _ => True) (fun _ U o U' => ∃ v L, o = .returned v ∧ Q v U'.heap L ∧ FrameEnd U o U' L R.cells R.slots)
theorem ou {y : MethodName} {b : ByteArray} {ml : Nat} {rt : Option FieldType} {ws : List Cond} {A : Array Value} {h0 : Heap} {L : Array Slot} (hp : plainFor y = true) (hef : ∀ m, entryFrame m A ml = mkF m 0 L [])
    (body : ∀ p e s m below meth c s₁, BodyLoose p l y (head1 (Cond.code y b ml rt :: ws) R) b ml rt e s m A below meth c s₁ → c.maxLocals = ml → p.tables.exec = Jvm.exec → c.code = b → meth.locks = false → s.vm.findClass y.cls = some m.cls → meth.name = y.name → Z.Warmed39 s.vm → Stand p l e R s m A below meth c s₁ [] 0 0 → s₁.heap = h0 → oe p.tables e below (oT s Q R.cells R.slots) (s₁.setTop (mkF m 0 L []))) : ot l Z y b ml rt ws R A h0 Q := by
  refine MetFree.of_bodySF hp hisR ?_
  intro p e s m args below meth c s₁ Bd hml hP hK
  obtain ⟨rfl, hZ, hh⟩ := hP
  have q := body p e s m below meth c s₁ Bd hml Bd.exec Bd.bytes (BodyLoose.notSynchronized Bd) (findClass_of_methodNamed Bd.named) (name_of_methodNamed Bd.named Bd.method).1 hZ (Stand.of_body Bd) (by rw [← hh, Bd.state]; rfl)
  rw [← hef m] at q
  exact q
theorem oq {cc code : ByteArray} {l : List (Nat × Instr × Nat)} (h : l.all (fun p => decide (decode code p.1 = .ok p.2)) = true) (hby : cc = code) (i : Nat) {a : Nat} {b : Instr} {d : Nat} (hi : l[i]? = some (a, b, d)) : decode cc a = .ok (b, d) := by
  have q := List.all_eq_true.mp h (a, b, d) (List.mem_of_getElem? hi)
  have r : decode code a = .ok (b, d) := of_decide_eq_true q
  rw [hby]; exact r
variable {pc n : Nat} {Ls : Array Slot} {S S' : List Value}
theorem ol {v : Value} (H : ∀ t, Steps p.tables e below (T.setTop { mkF m pc Ls S with pc := (mkF m pc Ls S).pc + n, stack := v :: (mkF m pc Ls S).stack }) t → Steps p.tables e below (T.setTop (mkF m pc Ls S)) t) (k : oe p.tables e below Qo (T.setTop (mkF m (pc + n) Ls (v :: S)))) : oe p.tables e below Qo (T.setTop (mkF m pc Ls S)) := ow H k
theorem og (H : ∀ t, Steps p.tables e below (T.setTop { mkF m pc Ls S with pc := (mkF m pc Ls S).pc + n, stack := S' }) t → Steps p.tables e below (T.setTop (mkF m pc Ls S)) t) (k : oe p.tables e below Qo (T.setTop (mkF m (pc + n) Ls S'))) : oe p.tables e below Qo (T.setTop (mkF m pc Ls S)) := ow H k
theorem oz {L' : Array Slot} (H : ∀ t, Steps p.tables e below (T.setTop { mkF m pc Ls S with pc := (mkF m pc Ls S).pc + n, stack := S', locals := L' }) t → Steps p.tables e below (T.setTop (mkF m pc Ls S)) t) (k : oe p.tables e below Qo (T.setTop (mkF m (pc + n) L' S'))) : oe p.tables e below Qo (T.setTop (mkF m pc Ls S)) := ow H k
theorem oaf {L' : Array Slot} (H : ∀ t, Steps p.tables e below (T.setTop { mkF m pc Ls S with pc := (mkF m pc Ls S).pc + n, locals := L' }) t → Steps p.tables e below (T.setTop (mkF m pc Ls S)) t) (k : oe p.tables e below Qo (T.setTop (mkF m (pc + n) L' S))) : oe p.tables e below Qo (T.setTop (mkF m pc Ls S)) := ow H k
theorem oC {pc' : Nat} (H : ∀ t, Steps p.tables e below (T.setTop { mkF m pc Ls S with pc := pc', stack := S' }) t → Steps p.tables e below (T.setTop (mkF m pc Ls S)) t) (k : oe p.tables e below Qo (T.setTop (mkF m pc' Ls S'))) : oe p.tables e below Qo (T.setTop (mkF m pc Ls S)) := ow H k
theorem oJ {pc' : Nat} (H : ∀ t, Steps p.tables e below (T.setTop { mkF m pc Ls S with pc := pc' }) t → Steps p.tables e below (T.setTop (mkF m pc Ls S)) t) (k : oe p.tables e below Qo (T.setTop (mkF m pc' Ls S))) : oe p.tables e below Qo (T.setTop (mkF m pc Ls S)) := ow H k
theorem oc (X : Stand p l e R s m args below meth c T locs cells slots) (hx : p.tables.exec = Jvm.exec) {k : Fin 4} {v : Value} (hd : decode c.code pc = .ok (.aload_n k, 1)) (hl : Ls[k.val]? = some (.val v)) (hv : v.isRef = true) (q : oe p.tables e below Qo (T.setTop (mkF m (pc + 1) Ls (v :: S)))) : oe p.tables e below Qo (T.setTop (mkF m pc Ls S)) := ol (fun _ k => XS.aloadN X.here hx rfl hd hl hv k) q
theorem oM (X : Stand p l e R s m args below meth c T locs cells slots) (hx : p.tables.exec = Jvm.exec) {k : Nat} {v : Value} (hd : decode c.code pc = .ok (.aload k, 2)) (hl : Ls[k]? = some (.val v)) (hv : v.isRef = true) (q : oe p.tables e below Qo (T.setTop (mkF m (pc + 2) Ls (v :: S)))) : oe p.tables e below Qo (T.setTop (mkF m pc Ls S)) := ol (fun _ k => XS.aload X.here hx rfl hd hl hv k) q
theorem oj (X : Stand p l e R s m args below meth c T locs cells slots) (hx : p.tables.exec = Jvm.exec) {k : Fin 4} {v : Int32} (hd : decode c.code pc = .ok (.iload_n k, 1)) (hl : Ls[k.val]? = some (.val (.int v))) (q : oe p.tables e below Qo (T.setTop (mkF m (pc + 1) Ls (.int v :: S)))) : oe p.tables e below Qo (T.setTop (mkF m pc Ls S)) := ol (fun _ k => XS.iloadN X.here hx rfl hd hl k) q
theorem oH (X : Stand p l e R s m args below meth c T locs cells slots) (hx : p.tables.exec = Jvm.exec) {k : Nat} {v : Int32} (hd : decode c.code pc = .ok (.iload k, 2)) (hl : Ls[k]? = some (.val (.int v))) (q : oe p.tables e below Qo (T.setTop (mkF m (pc + 2) Ls (.int v :: S)))) : oe p.tables e below Qo (T.setTop (mkF m pc Ls S)) := ol (fun _ k => XS.iload X.here hx rfl hd hl k) q
theorem oa {a b : Nat} (h : a < b) : a ∉ [b] := ninS (Nat.ne_of_lt h) nin0
theorem od {a b : Nat} (h : a < b) : a ≠ b := Nat.ne_of_lt h
theorem os {a b n : Nat} (h : a < n) (g : b = n) : a < b := Nat.lt_of_lt_of_le h (Nat.le_of_eq g.symm)
theorem om {a b n : Nat} (h : a ≤ n) (g : b = n) : a ≤ b := Nat.le_trans h (Nat.le_of_eq g.symm)
theorem oi {A B : State → Prop} (H : ∃ T', A T' ∧ B T' ∧ ∀ t, Steps p.tables e below (T'.setTop { mkF m pc Ls S with pc := (mkF m pc Ls S).pc + n, stack := S' }) t → Steps p.tables e below (T.setTop (mkF m pc Ls S)) t) (k : ∀ T', A T' → B T' → oe p.tables e below Qo (T'.setTop (mkF m (pc + n) Ls S'))) : oe p.tables e below Qo (T.setTop (mkF m pc Ls S)) := by
  obtain ⟨T', h1, h2, st⟩ := H; exact ow st (k T' h1 h2)
theorem ox {A B D : State → Heap → Prop} (H : ∃ T' h', A T' h' ∧ B T' h' ∧ D T' h' ∧ ∀ t, Steps p.tables e below (T'.setTop { mkF m pc Ls S with pc := (mkF m pc Ls S).pc + n, stack := S' }) t → Steps p.tables e below (T.setTop (mkF m pc Ls S)) t) (k : ∀ T' h', A T' h' → B T' h' → D T' h' → oe p.tables e below Qo (T'.setTop (mkF m (pc + n) Ls S'))) : oe p.tables e below Qo (T.setTop (mkF m pc Ls S)) := by
  obtain ⟨T', h', h1, h2, h3, st⟩ := H; exact ow st (k T' h' h1 h2 h3)
/-- behind a call -/
theorem oax {rm : Room} {rest : List Value} (H : ∃ (v : Option Value) (vm₁ : Vm) (B : Pt), s.WarmedH vm₁ ∧ Stand p l e R s m args below meth c B.U B.locs B.cells B.slots ∧ (∃ L, Q v B.U.heap L ∧ B.locs = locs ++ L ∧ B.cells = cells + rm.cells ∧ B.slots = slots + rm.slots) ∧ Steps p.tables e below (T.setTop (mkF m pc Ls S)) (B.U.setTop { mkF m pc Ls S with pc := pc + n, stack := v.toList ++ rest }))
    (k : ∀ T' L v, Stand p l e R s m args below meth c T' (locs ++ L) (cells + rm.cells) (slots + rm.slots) → Q v T'.heap L → oe p.tables e below Qo (T'.setTop (mkF m (pc + n) Ls (v.toList ++ rest)))) : oe p.tables e below Qo (T.setTop (mkF m pc Ls S)) := by
  obtain ⟨v, vm₁, ⟨T', L', c', n'⟩, -, X', ⟨L, hQ, hl, hc, hs⟩, st⟩ := H
  dsimp only [Pt.U, Pt.locs, Pt.cells, Pt.slots] at X' hl hc hs hQ st
  subst hl hc hs
  exact ow (fun _ k => st.trans k) (k T' L v X' hQ)
/-- there is room for the call -/
def o4 (R rm : Room) (cells slots maxL : Nat) (w : Nat) : Bool := Nat.ble (rm.frames + 1) R.frames && Nat.ble (w + (maxL + 11) + rm.locals) R.locals && Nat.ble (cells + rm.cells) R.cells && Nat.ble (slots + rm.slots) R.slots
theorem o4.d {rm : Room} {maxL w : Nat} (q : o4 R rm cells slots maxL w = true) : rm.frames + 1 ≤ R.frames ∧ w + (maxL + 11) + rm.locals ≤ R.locals ∧ cells + rm.cells ≤ R.cells ∧ slots + rm.slots ≤ R.slots := by
  simp only [o4, Bool.and_eq_true] at q
  exact ⟨Nat.le_of_ble_eq_true q.1.1.1, Nat.le_of_ble_eq_true q.1.1.2, Nat.le_of_ble_eq_true q.1.2, Nat.le_of_ble_eq_true q.2⟩
variable {aw : Array Value} {own C : String} {index n0 : Nat} {y z : MethodName} {bytes : ByteArray} {maxL : Nat} {rt : Option FieldType} {rm : Room} {as' : Array Value} {b : Addr} {argsL rest : List Value}
theorem oB (X : Stand p l e R s m args below meth c T locs cells slots) (hx : p.tables.exec = Jvm.exec) (hZ : Z.Warmed39 s.vm) (hown : s.vm.findClass own = some m.cls) (w1 : (Cond.methodLink own index y).before aw Z = true) (w2 : (Cond.declares y).before aw Z = true) (w3 : (Cond.selects C y y).before aw Z = true) (w4 : (Cond.instanceMethod y).before aw Z = true) (w5 : (Cond.code y bytes maxL rt).before aw Z = true) (w6 : (Cond.initialized y.cls).before aw Z = true)
    (hy : y.cls ≠ "java/lang/invoke/MethodHandle" ∧ y.cls ≠ "java/lang/invoke/VarHandle") (hM : ot l Z y bytes maxL rt [] rm as' h Q) (eT : T.heap = h) (E : Exa Z h b C) (hml : c.maxLocals = n0) (hsz : Ls.size = n0) (has : (.ref b :: argsL).toArray = as') (hstack : S = argsL.reverse ++ .ref b :: rest)
    (hlen : ∀ sig, parseMethodDescriptor y.desc = some sig → argsL.length = sig.parameters.length) (hd : decode c.code pc = .ok (.invokevirtual index, 3)) (hr : o4 R rm cells slots maxL (2 * 0 + (rest.map fun v => v.category).sum) = true)
    (k : ∀ T' L v, Stand p l e R s m args below meth c T' (locs ++ L) (cells + rm.cells) (slots + rm.slots) → Q v T'.heap L → oe p.tables e below Qo (T'.setTop (mkF m (pc + 3) Ls (v.toList ++ rest)))) : oe p.tables e below Qo (T.setTop (mkF m pc Ls S)) := by
  obtain ⟨r1, r2, r3, r4⟩ := o4.d hr
  obtain ⟨cB, kB, i1, i2, i3⟩ := isOf hZ eT E
  exact oax (X.virtualBack hx hown (mvT hZ w1) (mvT hZ w2) (notFace_of_selects (args := #[]) (mvT hZ w3)) (mvT hZ w3) (mvT hZ w4) hy (backOf hM hZ w5 w6 r1 r2) i1 i3 (g := mkF m pc Ls S) rfl (hsz.trans hml.symm) (Steps.refl _) hlen hstack (Nat.le_refl _) hd (fun _ _ => ⟨has, eT, r3, r4⟩)) k
theorem oS {count : Nat} (X : Stand p l e R s m args below meth c T locs cells slots) (hx : p.tables.exec = Jvm.exec) (hZ : Z.Warmed39 s.vm) (hown : s.vm.findClass own = some m.cls) (w1 : (Cond.methodLink own index y).before aw Z = true) (w2 : (Cond.declares y).before aw Z = true) (w7 : (Cond.interfaceMethod y.cls y.cls y.name y.desc).before aw Z = true) (w3 : (Cond.selects C y z).before aw Z = true) (w4 : (Cond.instanceMethod z).before aw Z = true) (w8 : (Cond.publicMethod z).before aw Z = true) (w9 : (Cond.unhidden C y.name y.desc).before aw Z = true) (w10 : (Cond.castable C y.cls).before aw Z = true) (w5 : (Cond.code z bytes maxL rt).before aw Z = true) (w6 : (Cond.initialized z.cls).before aw Z = true)
    (hy : y.cls ≠ "java/lang/invoke/MethodHandle" ∧ y.cls ≠ "java/lang/invoke/VarHandle") (hM : ot l Z z bytes maxL rt [] rm as' h Q) (eT : T.heap = h) (E : Exa Z h b C) (hml : c.maxLocals = n0) (hsz : Ls.size = n0) (has : (.ref b :: argsL).toArray = as') (hstack : S = argsL.reverse ++ .ref b :: rest)
    (hlen : ∀ sig, parseMethodDescriptor y.desc = some sig → argsL.length = sig.parameters.length) (hd : decode c.code pc = .ok (.invokeinterface index count, 5)) (hr : o4 R rm cells slots maxL (2 * 0 + (rest.map fun v => v.category).sum) = true)
    (k : ∀ T' L v, Stand p l e R s m args below meth c T' (locs ++ L) (cells + rm.cells) (slots + rm.slots) → Q v T'.heap L → oe p.tables e below Qo (T'.setTop (mkF m (pc + 5) Ls (v.toList ++ rest)))) : oe p.tables e below Qo (T.setTop (mkF m pc Ls S)) := by
  obtain ⟨r1, r2, r3, r4⟩ := o4.d hr
  obtain ⟨cB, kB, i1, i2, i3⟩ := isOf hZ eT E
  exact oax (X.interfaceBack hx hown (mvT hZ w1) (mvT hZ w2) (obr hZ w7) (mvT hZ w3) (mvT hZ w4) (mvT hZ w8) (mvT hZ w9) (mvT hZ w10) hy (backOf hM hZ w5 w6 r1 r2) i1 i2 i3 (g := mkF m pc Ls S) rfl (hsz.trans hml.symm) (Steps.refl _) hlen hstack (Nat.le_refl _) hd (fun _ _ => ⟨has, eT, r3, r4⟩)) k
theorem oL (X : Stand p l e R s m args below meth c T locs cells slots) (hx : p.tables.exec = Jvm.exec) (hZ : Z.Warmed39 s.vm) (hown : s.vm.findClass own = some m.cls) (w1 : (Cond.methodLink own index y).before aw Z = true) (w2 : (Cond.static y).before aw Z = true) (w5 : (Cond.code y bytes maxL rt).before aw Z = true) (w6 : (Cond.initialized y.cls).before aw Z = true)
    (hy : y.cls ≠ "java/lang/invoke/MethodHandle" ∧ y.cls ≠ "java/lang/invoke/VarHandle") (hM : ot l Z y bytes maxL rt [] rm as' h Q) (eT : T.heap = h) (hml : c.maxLocals = n0) (hsz : Ls.size = n0) (has : argsL.toArray = as') (hstack : S = argsL.reverse ++ rest)
    (hlen : ∀ sig, parseMethodDescriptor y.desc = some sig → argsL.length = sig.parameters.length) (hd : decode c.code pc = .ok (.invokestatic index, 3)) (hr : o4 R rm cells slots maxL (2 * 0 + (rest.map fun v => v.category).sum) = true)
    (k : ∀ T' L v, Stand p l e R s m args below meth c T' (locs ++ L) (cells + rm.cells) (slots + rm.slots) → Q v T'.heap L → oe p.tables e below Qo (T'.setTop (mkF m (pc + 3) Ls (v.toList ++ rest)))) : oe p.tables e below Qo (T.setTop (mkF m pc Ls S)) := by
  obtain ⟨r1, r2, r3, r4⟩ := o4.d hr
  obtain ⟨v, vm₁, ⟨T', L', c', n'⟩, -, X', ⟨L, hQ, hl, hc, hs⟩, st⟩ := Jvm.LawKit.callS X hx hown (mvT hZ w1) (mvT hZ w2) (mvT hZ w6) (mvT hZ w5) hy (backOf hM hZ w5 w6 r1 r2) (g := mkF m pc Ls S) rfl (hsz.trans hml.symm) hlen hstack (Nat.le_refl _) hd (fun _ _ => ⟨has, eT, r3, r4⟩)
  dsimp only [Pt.U, Pt.locs, Pt.cells, Pt.slots] at X' hl hc hs hQ st
  subst hl hc hs
  exact ow st (k T' L v X' hQ)
theorem oK {host : String} (X : Stand p l e R s m args below meth c T locs cells slots) (hx : p.tables.exec = Jvm.exec) (hZ : Z.Warmed39 s.vm) (hown : s.vm.findClass own = some m.cls) (w1 : (Cond.methodLink own index y).before aw Z = true ∨ (Cond.methodLinkNest own index y host).before aw Z = true ∨ (Cond.methodRef own index y).before aw Z = true) (w4 : (Cond.instanceMethod y).before aw Z = true) (w5 : (Cond.code y bytes maxL none).before aw Z = true) (w6 : (Cond.initialized y.cls).before aw Z = true)
    (hy1 : y.name = "<init>") (hy : y.cls ≠ "java/lang/invoke/MethodHandle" ∧ y.cls ≠ "java/lang/invoke/VarHandle") (hM : ot l Z y bytes maxL none [] rm as' h Q) (eT : T.heap = h) (hml : c.maxLocals = n0) (hsz : Ls.size = n0) (has : (.ref b :: argsL).toArray = as') (hstack : S = argsL.reverse ++ .ref b :: rest)
    (hlen : ∀ sig, parseMethodDescriptor y.desc = some sig → argsL.length = sig.parameters.length) (hd : decode c.code pc = .ok (.invokespecial index, 3)) (hr : o4 R rm cells slots maxL (2 * 0 + (rest.map fun v => v.category).sum) = true)
    (k : ∀ T' L v, Stand p l e R s m args below meth c T' (locs ++ L) (cells + rm.cells) (slots + rm.slots) → Q v T'.heap L → oe p.tables e below Qo (T'.setTop (mkF m (pc + 3) Ls (v.toList ++ rest)))) : oe p.tables e below Qo (T.setTop (mkF m pc Ls S)) := by
  obtain ⟨r1, r2, r3, r4⟩ := o4.d hr
  rcases w1 with w1 | w1 | w1
  · exact oax (X.specialBack hx hy1 hown (mvT hZ w1) (mvT hZ w4) (mvT hZ w5) hy (backOf hM hZ w5 w6 r1 r2) (g := mkF m pc Ls S) rfl (hsz.trans hml.symm) (Steps.refl _) hlen hstack (Nat.le_refl _) hd (fun _ _ => ⟨has, eT, r3, r4⟩)) k
  · exact oax (X.specialBackNest hx hy1 hown (ocz hZ w1) (mvT hZ w4) (mvT hZ w5) hy (backOf hM hZ w5 w6 r1 r2) (g := mkF m pc Ls S) rfl (hsz.trans hml.symm) (Steps.refl _) hlen hstack (Nat.le_refl _) hd (fun _ _ => ⟨has, eT, r3, r4⟩)) k
  · exact oax (ocx X hx hZ hy1 hown w1 (mvT hZ w4) (mvT hZ w5) hy (backOf hM hZ w5 w6 r1 r2) (g := mkF m pc Ls S) rfl (hsz.trans hml.symm) (Steps.refl _) hlen hstack (Nat.le_refl _) hd (fun _ _ => ⟨has, eT, r3, r4⟩)) k
theorem o8 {ni : Nat} (X : Stand p l e R s m args below meth c T locs cells slots) (hx : p.tables.exec = Jvm.exec) (hZ : Z.Warmed39 s.vm) (hown : s.vm.findClass own = some m.cls) (w1 : (Cond.methodLink own index y).before aw Z = true) (w4 : (Cond.instanceMethod y).before aw Z = true) (w7 : (Cond.instantiable y.cls ni).before aw Z = true) (w8 : (Cond.privateMethod y).before aw Z = true) (w5 : (Cond.code y bytes maxL rt).before aw Z = true) (w6 : (Cond.initialized y.cls).before aw Z = true)
    (hy : y.cls ≠ "java/lang/invoke/MethodHandle" ∧ y.cls ≠ "java/lang/invoke/VarHandle") (hM : ot l Z y bytes maxL rt [] rm as' h Q) (eT : T.heap = h) (E : Exa Z h b C) (hml : c.maxLocals = n0) (hsz : Ls.size = n0) (has : (.ref b :: argsL).toArray = as') (hstack : S = argsL.reverse ++ .ref b :: rest)
    (hlen : ∀ sig, parseMethodDescriptor y.desc = some sig → argsL.length = sig.parameters.length) (hd : decode c.code pc = .ok (.invokevirtual index, 3)) (hr : o4 R rm cells slots maxL (2 * 0 + (rest.map fun v => v.category).sum) = true)
    (k : ∀ T' L v, Stand p l e R s m args below meth c T' (locs ++ L) (cells + rm.cells) (slots + rm.slots) → Q v T'.heap L → oe p.tables e below Qo (T'.setTop (mkF m (pc + 3) Ls (v.toList ++ rest)))) : oe p.tables e below Qo (T.setTop (mkF m pc Ls S)) := by
  obtain ⟨r1, r2, r3, r4⟩ := o4.d hr
  obtain ⟨cq, q1, q2⟩ := E.cell
  exact oax (X.privateBack hx hown (mvT hZ w1) (mvT hZ w4) (ocu hy (mvT hZ w7) (mvP hZ w8) (mvT hZ w4)) (Cond.privateMethod_at (mvP hZ w8 (args := #[]))) (mvT hZ w5) hy (backOf hM hZ w5 w6 r1 r2) (g := mkF m pc Ls S) rfl (hsz.trans hml.symm) (Steps.refl _) (by rw [eT]; exact q1) q2 hlen hstack (Nat.le_refl _) hd (fun _ _ => ⟨has, eT, r3, r4⟩)) k
end Own3
end Jvm.RoadKit
namespace Jvm.Pilot.@@N@@
open Jvm Jvm.ClassFile Sem Op Lib Jvm.Free Jvm.Stand Jvm.LawKit Jvm.RoadKit Bundle Jvm.Pilot.@@N@@.Jvm.D
def oU {α : Type} (f : Nat → α) (vs : List α) : Nat → List α
  | 0 => vs
  | j + 1 => (oU f vs j).set j (f j)
theorem o5 {α : Type} (f : Nat → α) (vs : List α) : ∀ j, (oU f vs j).length = vs.length
  | 0 => rfl
  | j + 1 => by rw [oU, List.length_set, o5 f vs j]
theorem oaU {α : Type} (l : List α) (n i : Nat) (v d : α) (h : n < l.length) : (l.set n v).getD i d = if i = n then v else l.getD i d := by
  simp only [List.getD_eq_getElem?_getD, List.getElem?_set]
  by_cases q : n = i
  · subst q; simp [h]
  · rw [if_neg q, if_neg (fun e => q e.symm)]
theorem obe {α : Type} (f : Nat → α) (vs : List α) (i : Nat) (d : α) : ∀ j, j ≤ vs.length → (oU f vs j).getD i d = if i < j then f i else vs.getD i d
  | 0, _ => by simp [oU]
  | j + 1, h => by
    rw [oU, oaU _ _ _ _ _ (by rw [o5]; omega), obe f vs i d j (by omega)]
    by_cases q : i = j
    · subst q; rw [if_pos rfl, if_pos (by omega)]
    · rw [if_neg q]
      by_cases q2 : i < j
      · rw [if_pos q2, if_pos (by omega)]
      · rw [if_neg q2, if_neg (by omega)]
theorem obu {α : Type} (xs : List α) (v d : α) (i : Nat) : (xs ++ [v]).getD i d = if i = xs.length then v else xs.getD i d := by
  simp only [List.getD_eq_getElem?_getD]
  by_cases q : i < xs.length
  · rw [List.getElem?_append_left q, if_neg (by omega)]
  · by_cases q2 : i = xs.length
    · subst q2; simp
    · rw [if_neg q2, List.getElem?_eq_none (by simp; omega), List.getElem?_eq_none (by omega)]
def oaN (xs : List Int64) (vs : List Value) : Prop := ∀ i, i < xs.length → vs.getD i (.int 0) = .int (xs.getD i 0).toInt32 ∧ (xs.getD i 0).toInt32.toInt64 = xs.getD i 0
def oaO (xs : List Int64) (vs : List Value) : Prop := ∀ i, i < xs.length → vs.getD i (.long 0) = .long (xs.getD i 0)
theorem ocG {xs : List Int64} {vs : List Value} {v : Int64} (h : oaN xs vs) (hn : xs.length < vs.length) (hv : v.toInt32.toInt64 = v) : oaN (xs ++ [v]) (vs.set xs.length (.int v.toInt32)) := by
  intro i hi
  rw [List.length_append, List.length_singleton] at hi
  rw [oaU _ _ _ _ _ hn, obu]
  by_cases q : i = xs.length
  · rw [if_pos q, if_pos q]; exact ⟨rfl, hv⟩
  · rw [if_neg q, if_neg q]; exact h i (by omega)
theorem obv {xs : List Int64} {vs : List Value} {v : Int64} (h : oaO xs vs) (hn : xs.length < vs.length) : oaO (xs ++ [v]) (vs.set xs.length (.long v)) := by
  intro i hi
  rw [List.length_append, List.length_singleton] at hi
  rw [oaU _ _ _ _ _ hn, obu]
  by_cases q : i = xs.length
  · rw [if_pos q, if_pos q]
  · rw [if_neg q, if_neg q]; exact h i (by omega)
theorem oaV {xs : List Int64} {sh : Int64} (h : ∀ x ∈ xs, x = sh) (i : Nat) (hi : i < xs.length) : xs.getD i 0 = sh := by
  rw [List.getD_eq_getElem?_getD, List.getElem?_eq_getElem hi]; exact h _ (List.getElem_mem hi)
theorem ocH {xs : List Int64} {vs : List Value} {sh : Int64} (h : ∀ x ∈ xs, x = sh) (hs : sh.toInt32.toInt64 = sh) (hn : xs.length ≤ vs.length) : oaN xs (oU (fun _ => .int sh.toInt32) vs xs.length) := by
  intro i hi
  rw [obe _ _ _ _ _ hn, if_pos hi, oaV h i hi]; exact ⟨rfl, hs⟩
theorem obw {xs : List Int64} {vs : List Value} (hn : xs.length ≤ vs.length) : oaO xs (oU (fun i => .long (xs.getD i 0)) vs xs.length) := by
  intro i hi
  rw [obe _ _ _ _ _ hn, if_pos hi]
theorem oay {n : Nat} (h : n < 2147483648) : (Int32.ofNat n).toInt = n := Int32.toInt_ofNat_of_lt h
theorem oaz {a b : Nat} (ha : a < 2147483648) (hb : b < 2147483648) : (Int32.ofNat a < Int32.ofNat b) ↔ a < b := by
  rw [Int32.lt_iff_toInt_lt, oay ha, oay hb]; omega
theorem obx {a b : Nat} (ha : a < 2147483648) (hb : b < 2147483648) : (Int32.ofNat a = Int32.ofNat b) ↔ a = b := by
  rw [← Int32.toInt_inj, oay ha, oay hb]; omega
theorem oas {a : Nat} (ha : a < 2147483648) : ¬ Int32.ofNat a < 0 := by
  rw [Int32.lt_iff_toInt_lt, oay ha]; show ¬ (a : Int) < 0; omega
theorem oaA {a : Nat} (ha : a < 2147483648) : (Int32.ofNat a).toNatClampNeg = a := by
  rw [Int32.toNatClampNeg, oay ha]; rfl
theorem oaW (c : Nat) : Int32.ofNat c + 1 = Int32.ofNat (c + 1) := by
  rw [Int32.ofNat_add]; rfl
def oat (a b : Int64) : Int64 := if b < a then b else a
def oag (a b : Int32) : Int32 := if a < b then b else a
def oau (n : Int32) : Int32 := (oat ((2 : Int64) * n.toInt64) (2147483639 : Int64)).toInt32
def oaj (v : Int64) : Int32 := if v.toInt32.toInt64 = v then 1 else 0
theorem oby (n : Nat) (h : n < 9) : oag (16 : Int32) (oau (Int32.ofNat n)) = (16 : Int32) := by
  have k : ∀ m : Fin 9, oag (16 : Int32) (oau (Int32.ofNat m.1)) = (16 : Int32) := by decide
  exact k ⟨n, h⟩
theorem obz {v : Int64} (h : ¬ oaj v = 0) : v.toInt32.toInt64 = v := by
  unfold oaj at h; by_cases q : v.toInt32.toInt64 = v
  · exact q
  · rw [if_neg q] at h; exact absurd rfl h
theorem oj8 {n : Nat} (h : n < 16) : ¬ Int32.ofNat n = (16 : Int32) := fun q => by
  have := (obx (a := n) (b := 16) (by omega) (by omega)).mp q; omega
theorem oaB {n : Nat} (h : n < 16) : Int32.ofNat n < (16 : Int32) := (oaz (a := n) (b := 16) (by omega) (by omega)).mpr h
theorem ocI {n : Nat} (h : n < 16) (q : Int32.ofNat n = (0 : Int32)) : n = 0 := (obx (a := n) (b := 0) (by omega) (by omega)).mp q
section Col
variable {Z : State} {h : Heap} {a : Addr} {n0 : Nat} {xs : List Int64}
def ocJ (Z : State) (h : Heap) (a : Addr) (xs : List Int64) : Prop := ∃ sh : Int64, Fld Z h a "com/example/restate/restate/model/LongColumn" "shared" "J" (.long sh) ∧ Fld Z h a "com/example/restate/restate/model/LongColumn" "ints" "[I" .null ∧ Fld Z h a "com/example/restate/restate/model/LongColumn" "longs" "[J" .null ∧ ∀ x ∈ xs, x = sh
def ocK (Z : State) (h : Heap) (a : Addr) (n0 : Nat) (xs : List Int64) : Prop := ∃ (sh : Int64) (b : Addr) (k : ClassId) (vs : List Value), Fld Z h a "com/example/restate/restate/model/LongColumn" "shared" "J" (.long sh) ∧ Fld Z h a "com/example/restate/restate/model/LongColumn" "ints" "[I" (.ref b) ∧ Fld Z h a "com/example/restate/restate/model/LongColumn" "longs" "[J" .null ∧ a ≠ b ∧ n0 ≤ b ∧ Arv Z h b k .int (16 : Int32) vs (.int (0 : Int32)) ∧ vs.length = 16 ∧ oaN xs vs
def ocL (Z : State) (h : Heap) (a : Addr) (n0 : Nat) (xs : List Int64) : Prop := ∃ (sh : Int64) (b : Addr) (k : ClassId) (vs : List Value), Fld Z h a "com/example/restate/restate/model/LongColumn" "shared" "J" (.long sh) ∧ Fld Z h a "com/example/restate/restate/model/LongColumn" "ints" "[I" .null ∧ Fld Z h a "com/example/restate/restate/model/LongColumn" "longs" "[J" (.ref b) ∧ a ≠ b ∧ n0 ≤ b ∧ Arv Z h b k .long (16 : Int32) vs (.long (0 : Int64)) ∧ vs.length = 16 ∧ oaO xs vs
def oX (Z : State) (h : Heap) (a : Addr) (n0 : Nat) (xs : List Int64) : Prop := Exa Z h a "com/example/restate/restate/model/LongColumn" ∧ Fld Z h a "com/example/restate/restate/model/LongColumn" "size" "I" (.int (Int32.ofNat xs.length)) ∧ (ocJ Z h a xs ∨ ocK Z h a n0 xs ∨ ocL Z h a n0 xs)
theorem obf {q : Int64} (F : Fld Z h a "com/example/restate/restate/model/LongColumn" "size" "I" (.int (Int32.ofNat xs.length + (1 : Int32)))) : Fld Z h a "com/example/restate/restate/model/LongColumn" "size" "I" (.int (Int32.ofNat (xs ++ [q]).length)) := by
  rw [oaW] at F; rw [List.length_append]; exact F
theorem obA {q : Int64} (E : Exa Z h a "com/example/restate/restate/model/LongColumn") (Fs : Fld Z h a "com/example/restate/restate/model/LongColumn" "size" "I" (.int (Int32.ofNat xs.length + (1 : Int32)))) (Fh : Fld Z h a "com/example/restate/restate/model/LongColumn" "shared" "J" (.long q)) (Fi : Fld Z h a "com/example/restate/restate/model/LongColumn" "ints" "[I" .null) (Fl : Fld Z h a "com/example/restate/restate/model/LongColumn" "longs" "[J" .null) (hx : ∀ x ∈ xs, x = q) : oX Z h a n0 (xs ++ [q]) :=
  ⟨E, obf Fs, Or.inl ⟨q, Fh, Fi, Fl, fun x hm => (List.mem_append.mp hm).elim (hx x) (fun u => List.mem_singleton.mp u)⟩⟩
theorem ocM {q sh : Int64} {b : Addr} {k : ClassId} {vs : List Value} (E : Exa Z h a "com/example/restate/restate/model/LongColumn") (Fs : Fld Z h a "com/example/restate/restate/model/LongColumn" "size" "I" (.int (Int32.ofNat xs.length + (1 : Int32)))) (Fh : Fld Z h a "com/example/restate/restate/model/LongColumn" "shared" "J" (.long sh)) (Fi : Fld Z h a "com/example/restate/restate/model/LongColumn" "ints" "[I" (.ref b)) (Fl : Fld Z h a "com/example/restate/restate/model/LongColumn" "longs" "[J" .null) (ne : a ≠ b) (ge : n0 ≤ b)
    (A : Arv Z h b k .int (16 : Int32) vs (.int (0 : Int32))) (hl : vs.length = 16) (hR : oaN (xs ++ [q]) vs) : oX Z h a n0 (xs ++ [q]) :=
  ⟨E, obf Fs, Or.inr (Or.inl ⟨sh, b, k, vs, Fh, Fi, Fl, ne, ge, A, hl, hR⟩)⟩
theorem obB {q sh : Int64} {b : Addr} {k : ClassId} {vs : List Value} (E : Exa Z h a "com/example/restate/restate/model/LongColumn") (Fs : Fld Z h a "com/example/restate/restate/model/LongColumn" "size" "I" (.int (Int32.ofNat xs.length + (1 : Int32)))) (Fh : Fld Z h a "com/example/restate/restate/model/LongColumn" "shared" "J" (.long sh)) (Fi : Fld Z h a "com/example/restate/restate/model/LongColumn" "ints" "[I" .null) (Fl : Fld Z h a "com/example/restate/restate/model/LongColumn" "longs" "[J" (.ref b)) (ne : a ≠ b) (ge : n0 ≤ b)
    (A : Arv Z h b k .long (16 : Int32) vs (.long (0 : Int64))) (hl : vs.length = 16) (hR : oaO (xs ++ [q]) vs) : oX Z h a n0 (xs ++ [q]) :=
  ⟨E, obf Fs, Or.inr (Or.inr ⟨sh, b, k, vs, Fh, Fi, Fl, ne, ge, A, hl, hR⟩)⟩
theorem oj9 (E : Exa Z h a "com/example/restate/restate/model/LongColumn") (Fs : Fld Z h a "com/example/restate/restate/model/LongColumn" "size" "I" (.int (0 : Int32))) (Fh : Fld Z h a "com/example/restate/restate/model/LongColumn" "shared" "J" (.long (0 : Int64))) (Fi : Fld Z h a "com/example/restate/restate/model/LongColumn" "ints" "[I" .null) (Fl : Fld Z h a "com/example/restate/restate/model/LongColumn" "longs" "[J" .null) : oX Z h a n0 [] :=
  ⟨E, Fs, Or.inl ⟨0, Fh, Fi, Fl, fun x hm => nomatch hm⟩⟩
end Col
def oaX (r : Int64) (h0 : Heap) (n0 : Nat) (v : Option Value) (h : Heap) (L : List Loc) : Prop := v = some (.long r) ∧ Fr n0 L ∧ h = h0
def ocN (Z : State) (a0 : Addr) (p1 : Int32) (n : Nat) (sh : Int64) (h0 : Heap) (n0 : Nat) (v : Option Value) (h : Heap) (L : List Loc) : Prop := v = none ∧ Fr n0 L ∧ Keep h0 h [a0] ∧ Fld Z h a0 "com/example/restate/restate/model/LongColumn" "size" "I" (.int (Int32.ofNat n)) ∧ Fld Z h a0 "com/example/restate/restate/model/LongColumn" "shared" "J" (.long sh) ∧ Fld Z h a0 "com/example/restate/restate/model/LongColumn" "longs" "[J" .null ∧
  ∃ (b : Addr) (k : ClassId), Fld Z h a0 "com/example/restate/restate/model/LongColumn" "ints" "[I" (.ref b) ∧ a0 ≠ b ∧ h0.size ≤ b ∧ Arv Z h b k .int (16 : Int32) ((oU (fun _ => Value.int sh.toInt32) (List.replicate 16 (.int (0 : Int32))) n).set n (.int p1)) (.int (0 : Int32))
def obC (Z : State) (a0 : Addr) (q1 : Int64) (n : Nat) (sh : Int64) (f : Nat → Int64) (h0 : Heap) (n0 : Nat) (v : Option Value) (h : Heap) (L : List Loc) : Prop := v = none ∧ Fr n0 L ∧ Keep h0 h [a0] ∧ Fld Z h a0 "com/example/restate/restate/model/LongColumn" "size" "I" (.int (Int32.ofNat n)) ∧ Fld Z h a0 "com/example/restate/restate/model/LongColumn" "shared" "J" (.long sh) ∧ Fld Z h a0 "com/example/restate/restate/model/LongColumn" "ints" "[I" .null ∧
  ∃ (b : Addr) (k : ClassId), Fld Z h a0 "com/example/restate/restate/model/LongColumn" "longs" "[J" (.ref b) ∧ a0 ≠ b ∧ h0.size ≤ b ∧ Arv Z h b k .long (16 : Int32) ((oU (fun i => Value.long (f i)) (List.replicate 16 (.long (0 : Int64))) n).set n (.long q1)) (.long (0 : Int64))
def oka (Z : State) (a0 : Addr) (xs : List Int64) (q1 : Int64) (h0 : Heap) (n0 : Nat) (v : Option Value) (h : Heap) (L : List Loc) : Prop := v = none ∧ Fr n0 L ∧ h0.size ≤ h.size ∧ oX Z h a0 n0 (xs ++ [q1])
theorem ocO {n : Nat} (h : n < 16) : ¬ (16 : Int32) < Int32.ofNat n := fun q => by
  have := (oaz (a := 16) (b := n) (by omega) (by omega)).mp q; omega
def ov : Type := (Nat × Nat × Nat × Nat) × (Nat × Nat × Nat × Nat) × (Value × Int32 × List Value)
def ov.de (k : ov) : Nat := k.1.1
def ov.ch (k : ov) : Nat := k.1.2.1
def ov.i0 (k : ov) : Nat := k.1.2.2.1
def ov.mo (k : ov) : Nat := k.1.2.2.2
def ov.ml (k : ov) : Nat := k.2.1.1
def ov.ma (k : ov) : Nat := k.2.1.2.1
def ov.kd (k : ov) : ClassId := k.2.1.2.2.1
def ov.kc (k : ov) : ClassId := k.2.1.2.2.2
def ov.fm (k : ov) : Value := k.2.2.1
def ov.cs (k : ov) : Int32 := k.2.2.2.1
def ov.vc (k : ov) : List Value := k.2.2.2.2
def ocP (Z : State) (h : Heap) (k : ov) : Prop :=
  (Sta Z h "java/util/ArrayList" "DEFAULTCAPACITY_EMPTY_ELEMENTDATA" "[Ljava/lang/Object;" (.ref k.de)) ∧
  (Arv Z h k.de k.kd (.object "java/lang/Object") (0 : Int32) [] .null) ∧
  (Sta Z h "java/util/ImmutableCollections" "$assertionsDisabled" "Z" (.int (1 : Int32))) ∧
  (Sta Z h "java/lang/String" "COMPACT_STRINGS" "Z" (.int k.cs)) ∧
  (¬ k.cs = 0) ∧
  (Sta Z h "jdk/internal/util/Preconditions" "SIOOBE_FORMATTER" "Ljava/util/function/BiFunction;" k.fm) ∧
  (Sta Z h "java/lang/Integer$IntegerCache" "high" "I" (.int (127 : Int32))) ∧
  (Sta Z h "java/lang/Integer$IntegerCache" "cache" "[Ljava/lang/Integer;" (.ref k.ch)) ∧
  (Arv Z h k.ch k.kc (.object "java/lang/Integer") (256 : Int32) k.vc .null) ∧
  (k.vc.getD 128 .null = .ref k.i0) ∧
  (Exa Z h k.i0 "java/lang/Integer") ∧
  (Fld Z h k.i0 "java/lang/Integer" "value" "I" (.int (0 : Int32))) ∧
  (Mir Z "[Ljava/lang/Object;" k.mo) ∧
  (Mir Z "java/util/ImmutableCollections$ListN" k.ml) ∧
  (Mir Z "java/util/ArrayList" k.ma) ∧
  (k.fm.isRef = true)
def oy (Z : State) (h : Heap) (n0 : Nat) (k : ov) : Prop := ∃ hz : Heap, hz.size = n0 ∧ ocP Z hz k ∧ Ext hz h
section Cen
variable {Z : State} {h h' : Heap} {n0 lo up : Nat} {k : ov} {ws : List Nat}
theorem oy.keep (J : oy Z h n0 k) (K : Keep h h' ws) (q : ∀ x : Nat, x ∈ ws → n0 ≤ x) : oy Z h' n0 k := by
  obtain ⟨hz, e, F, E⟩ := J; subst e; exact ⟨hz, rfl, F, ocC E K q⟩
theorem oy.keepI (J : oy Z h n0 k) (K : oD h h' lo up) (q : n0 ≤ lo) : oy Z h' n0 k := by
  obtain ⟨ws, K, r⟩ := K; exact J.keep K fun x m => by have := r x m; omega
theorem oy.de (J : oy Z h n0 k) : Sta Z h "java/util/ArrayList" "DEFAULTCAPACITY_EMPTY_ELEMENTDATA" "[Ljava/lang/Object;" (.ref k.de) := by obtain ⟨hz, e, F, E⟩ := J; exact (F.1).ext E
theorem oy.vde (J : oy Z h n0 k) : Arv Z h k.de k.kd (.object "java/lang/Object") (0 : Int32) [] .null := by obtain ⟨hz, e, F, E⟩ := J; exact (F.2.1).ext E
theorem oy.ad (J : oy Z h n0 k) : Sta Z h "java/util/ImmutableCollections" "$assertionsDisabled" "Z" (.int (1 : Int32)) := by obtain ⟨hz, e, F, E⟩ := J; exact (F.2.2.1).ext E
theorem oy.cs (J : oy Z h n0 k) : Sta Z h "java/lang/String" "COMPACT_STRINGS" "Z" (.int k.cs) := by obtain ⟨hz, e, F, E⟩ := J; exact (F.2.2.2.1).ext E
theorem oy.cs0 (J : oy Z h n0 k) : ¬ k.cs = 0 := by obtain ⟨hz, e, F, E⟩ := J; exact (F.2.2.2.2.1)
theorem oy.fm (J : oy Z h n0 k) : Sta Z h "jdk/internal/util/Preconditions" "SIOOBE_FORMATTER" "Ljava/util/function/BiFunction;" k.fm := by obtain ⟨hz, e, F, E⟩ := J; exact (F.2.2.2.2.2.1).ext E
theorem oy.hi (J : oy Z h n0 k) : Sta Z h "java/lang/Integer$IntegerCache" "high" "I" (.int (127 : Int32)) := by obtain ⟨hz, e, F, E⟩ := J; exact (F.2.2.2.2.2.2.1).ext E
theorem oy.ch (J : oy Z h n0 k) : Sta Z h "java/lang/Integer$IntegerCache" "cache" "[Ljava/lang/Integer;" (.ref k.ch) := by obtain ⟨hz, e, F, E⟩ := J; exact (F.2.2.2.2.2.2.2.1).ext E
theorem oy.vch (J : oy Z h n0 k) : Arv Z h k.ch k.kc (.object "java/lang/Integer") (256 : Int32) k.vc .null := by obtain ⟨hz, e, F, E⟩ := J; exact (F.2.2.2.2.2.2.2.2.1).ext E
theorem oy.at0 (J : oy Z h n0 k) : k.vc.getD 128 .null = .ref k.i0 := by obtain ⟨hz, e, F, E⟩ := J; exact (F.2.2.2.2.2.2.2.2.2.1)
theorem oy.ei0 (J : oy Z h n0 k) : Exa Z h k.i0 "java/lang/Integer" := by obtain ⟨hz, e, F, E⟩ := J; exact (F.2.2.2.2.2.2.2.2.2.2.1).ext E
theorem oy.fi0 (J : oy Z h n0 k) : Fld Z h k.i0 "java/lang/Integer" "value" "I" (.int (0 : Int32)) := by obtain ⟨hz, e, F, E⟩ := J; exact (F.2.2.2.2.2.2.2.2.2.2.2.1).ext E
theorem oy.mo (J : oy Z h n0 k) : Mir Z "[Ljava/lang/Object;" k.mo := by obtain ⟨hz, e, F, E⟩ := J; exact (F.2.2.2.2.2.2.2.2.2.2.2.2.1)
theorem oy.ml (J : oy Z h n0 k) : Mir Z "java/util/ImmutableCollections$ListN" k.ml := by obtain ⟨hz, e, F, E⟩ := J; exact (F.2.2.2.2.2.2.2.2.2.2.2.2.2.1)
theorem oy.ma (J : oy Z h n0 k) : Mir Z "java/util/ArrayList" k.ma := by obtain ⟨hz, e, F, E⟩ := J; exact (F.2.2.2.2.2.2.2.2.2.2.2.2.2.2.1)
theorem oy.fmr (J : oy Z h n0 k) : k.fm.isRef = true := by obtain ⟨hz, e, F, E⟩ := J; exact (F.2.2.2.2.2.2.2.2.2.2.2.2.2.2.2)
theorem oY {a c e : Nat} (q : ∀ x : Nat, x ∈ ws → x < c ∨ e ≤ x) (h1 : c ≤ a) (h2 : a < e) : a ∉ ws := fun m => by have := q a m; omega
def oak (Z : State) (h : Heap) (a n : Nat) (v : Int64) : Prop := Exa Z h a "com/example/restate/restate/model/LongColumn" ∧ Fld Z h a "com/example/restate/restate/model/LongColumn" "size" "I" (.int (Int32.ofNat n)) ∧ Fld Z h a "com/example/restate/restate/model/LongColumn" "shared" "J" (.long v) ∧ Fld Z h a "com/example/restate/restate/model/LongColumn" "ints" "[I" .null ∧ Fld Z h a "com/example/restate/restate/model/LongColumn" "longs" "[J" .null
theorem oak.keep {a n : Nat} {v : Int64} (C : oak Z h a n v) (K : Keep h h' ws) (q : a ∉ ws) : oak Z h' a n v := ⟨C.1.keep K, C.2.1.keep K q, C.2.2.1.keep K q, C.2.2.2.1.keep K q, C.2.2.2.2.keep K q⟩
def oaP (Z : State) (h : Heap) (a de : Nat) : Prop := Exa Z h a "java/util/ArrayList" ∧ Fld Z h a "java/util/AbstractList" "modCount" "I" (.int (0 : Int32)) ∧ Fld Z h a "java/util/ArrayList" "elementData" "[Ljava/lang/Object;" (.ref de) ∧ Fld Z h a "java/util/ArrayList" "size" "I" (.int (0 : Int32))
theorem oaP.keep {a de : Nat} (C : oaP Z h a de) (K : Keep h h' ws) (q : a ∉ ws) : oaP Z h' a de := ⟨C.1.keep K, C.2.1.keep K q, C.2.2.1.keep K q, C.2.2.2.keep K q⟩
def oaY (Z : State) (h : Heap) (a : Nat) : Prop := Exa Z h a "java/util/HashMap" ∧ Fld Z h a "java/util/HashMap" "table" "[Ljava/util/HashMap$Node;" .null ∧ Fld Z h a "java/util/HashMap" "threshold" "I" (.int (0 : Int32)) ∧ Fld Z h a "java/util/HashMap" "size" "I" (.int (0 : Int32)) ∧ Fld Z h a "java/util/HashMap" "modCount" "I" (.int (0 : Int32))
theorem oaY.keep {a : Nat} (C : oaY Z h a) (K : Keep h h' ws) (q : a ∉ ws) : oaY Z h' a := ⟨C.1.keep K, C.2.1.keep K q, C.2.2.1.keep K q, C.2.2.2.1.keep K q, C.2.2.2.2.keep K q⟩
def oaC (Z : State) (h : Heap) (a i0 tb nd : Nat) : Prop := Exa Z h a "java/util/HashMap" ∧ Fld Z h a "java/util/HashMap" "table" "[Ljava/util/HashMap$Node;" (.ref tb) ∧ (∃ (k : ClassId) (vs : List Value), Arv Z h tb k (.object "java/util/HashMap$Node") (16 : Int32) vs .null ∧ vs.getD 0 .null = .ref nd) ∧ Fld Z h nd "java/util/HashMap$Node" "hash" "I" (.int (0 : Int32)) ∧ Fld Z h nd "java/util/HashMap$Node" "key" "Ljava/lang/Object;" .null ∧ Fld Z h nd "java/util/HashMap$Node" "value" "Ljava/lang/Object;" (.ref i0)
theorem oaC.keep {a i0 tb nd : Nat} (C : oaC Z h a i0 tb nd) (K : Keep h h' ws) (q : a ∉ ws) (q1 : tb ∉ ws) (q2 : nd ∉ ws) : oaC Z h' a i0 tb nd := by
  obtain ⟨c1, c2, ⟨k, vs, c3, c4⟩, c5, c6, c7⟩ := C
  exact ⟨c1.keep K, c2.keep K q, ⟨k, vs, c3.keep K q1, c4⟩, c5.keep K q2, c6.keep K q2, c7.keep K q2⟩
def oaQ (Z : State) (h : Heap) (c al hm lc : Nat) : Prop := Exa Z h c "com/example/restate/restate/model/CensusColumns$Codes" ∧ Fld Z h c "com/example/restate/restate/model/CensusColumns$Codes" "values" "Ljava/util/List;" (.ref al) ∧ Fld Z h c "com/example/restate/restate/model/CensusColumns$Codes" "places" "Ljava/util/Map;" (.ref hm) ∧ Fld Z h c "com/example/restate/restate/model/CensusColumns$Codes" "codes" "Lcom/example/restate/restate/model/LongColumn;" (.ref lc)
theorem oaQ.keep {c al hm lc : Nat} (C : oaQ Z h c al hm lc) (K : Keep h h' ws) (q : c ∉ ws) : oaQ Z h' c al hm lc := ⟨C.1.keep K, C.2.1.keep K q, C.2.2.1.keep K q, C.2.2.2.keep K q⟩
def oA (Z : State) (h : Heap) (de c e : Nat) : Prop := ∃ al hm lc : Nat, (c < al ∧ al < hm ∧ hm < lc ∧ lc < e ∧ e ≤ h.size) ∧ oaQ Z h c al hm lc ∧ oaP Z h al de ∧ oaY Z h hm ∧ oak Z h lc 0 0
theorem oA.hi {de c e : Nat} (C : oA Z h de c e) : e ≤ h.size := by obtain ⟨al, hm, lc, o, -⟩ := C; exact o.2.2.2.2
theorem oA.keep {de c e : Nat} (C : oA Z h de c e) (K : Keep h h' ws) (q : ∀ x : Nat, x ∈ ws → x < c ∨ e ≤ x) : oA Z h' de c e := by
  obtain ⟨al, hm, lc, o, c1, c2, c3, c4⟩ := C
  have := K.1
  exact ⟨al, hm, lc, by omega, c1.keep K (oY q (by omega) (by omega)), c2.keep K (oY q (by omega) (by omega)), c3.keep K (oY q (by omega) (by omega)), c4.keep K (oY q (by omega) (by omega))⟩
theorem oA.keepI {de c e : Nat} (C : oA Z h de c e) (K : oD h h' lo up) (q : up ≤ c ∨ e ≤ lo) : oA Z h' de c e := by
  obtain ⟨ws, K, r⟩ := K; exact C.keep K fun x m => by have := r x m; omega
/-- behind the first add: n codes 0; what that add made lies from B on -/
def oZ (Z : State) (h : Heap) (i0 B n c e : Nat) : Prop := ∃ al hm lc tb nd : Nat, (c < al ∧ al < hm ∧ hm < lc ∧ lc < e ∧ e ≤ B ∧ B ≤ tb ∧ B ≤ nd ∧ e ≤ h.size) ∧ oaQ Z h c al hm lc ∧ oaC Z h hm i0 tb nd ∧ oak Z h lc n 0
theorem oZ.hi {i0 B n c e : Nat} (C : oZ Z h i0 B n c e) : e ≤ h.size := by obtain ⟨al, hm, lc, tb, nd, o, -⟩ := C; exact o.2.2.2.2.2.2.2
theorem oZ.keep {i0 B n c e : Nat} (C : oZ Z h i0 B n c e) (K : Keep h h' ws) (q : ∀ x : Nat, x ∈ ws → (x < c ∨ e ≤ x) ∧ x < B) : oZ Z h' i0 B n c e := by
  obtain ⟨al, hm, lc, tb, nd, o, c1, c2, c3⟩ := C
  have := K.1
  have z := fun x m => (q x m).1
  have z2 : ∀ y : Nat, B ≤ y → y ∉ ws := fun y hy m => by have := q y m; omega
  exact ⟨al, hm, lc, tb, nd, by omega, c1.keep K (oY z (by omega) (by omega)), c2.keep K (oY z (by omega) (by omega)) (z2 _ (by omega)) (z2 _ (by omega)), c3.keep K (oY z (by omega) (by omega))⟩
theorem oZ.keepI {i0 B n c e : Nat} (C : oZ Z h i0 B n c e) (K : oD h h' lo up) (q : (up ≤ c ∨ e ≤ lo) ∧ up ≤ B) : oZ Z h' i0 B n c e := by
  obtain ⟨ws, K, r⟩ := K; exact C.keep K fun x m => by have := r x m; omega
def oF (Z : State) (h : Heap) (n m f : Nat) : Prop := ∃ lc : Nat, (m < lc ∧ lc < f ∧ f ≤ h.size) ∧ Exa Z h m "com/example/restate/restate/model/AmountColumn" ∧ Fld Z h m "com/example/restate/restate/model/AmountColumn" "cents" "Lcom/example/restate/restate/model/LongColumn;" (.ref lc) ∧ Fld Z h m "com/example/restate/restate/model/AmountColumn" "complete" "Z" (.int (0 : Int32)) ∧ oak Z h lc n 0
theorem oF.hi {n m f : Nat} (C : oF Z h n m f) : f ≤ h.size := by obtain ⟨lc, o, -⟩ := C; exact o.2.2
theorem oF.keep {n c e : Nat} (C : oF Z h n c e) (K : Keep h h' ws) (q : ∀ x : Nat, x ∈ ws → x < c ∨ e ≤ x) : oF Z h' n c e := by
  obtain ⟨lc, o, c1, c2, c3, c4⟩ := C
  have := K.1
  exact ⟨lc, by omega, c1.keep K, c2.keep K (oY q (by omega) (by omega)), c3.keep K (oY q (by omega) (by omega)), c4.keep K (oY q (by omega) (by omega))⟩
theorem oF.keepI {n c e : Nat} (C : oF Z h n c e) (K : oD h h' lo up) (q : up ≤ c ∨ e ≤ lo) : oF Z h' n c e := by
  obtain ⟨ws, K, r⟩ := K; exact C.keep K fun x m => by have := r x m; omega
/-- the list of the four amount columns -/
def oah (Z : State) (h : Heap) (m1 m2 m3 m4 c e : Nat) : Prop := ∃ (ed : Nat) (k : ClassId), (c < ed ∧ ed < e ∧ e ≤ h.size) ∧ Exa Z h c "java/util/ArrayList" ∧ Fld Z h c "java/util/ArrayList" "size" "I" (.int (4 : Int32)) ∧ Fld Z h c "java/util/ArrayList" "elementData" "[Ljava/lang/Object;" (.ref ed) ∧ Arv Z h ed k (.object "java/lang/Object") (4 : Int32) [.ref m1, .ref m2, .ref m3, .ref m4] .null
theorem oah.hi {m1 m2 m3 m4 c e : Nat} (C : oah Z h m1 m2 m3 m4 c e) : e ≤ h.size := by obtain ⟨ed, k, o, -⟩ := C; exact o.2.2
theorem oah.keep {m1 m2 m3 m4 c e : Nat} (C : oah Z h m1 m2 m3 m4 c e) (K : Keep h h' ws) (q : ∀ x : Nat, x ∈ ws → x < c ∨ e ≤ x) : oah Z h' m1 m2 m3 m4 c e := by
  obtain ⟨ed, k, o, c1, c2, c3, c4⟩ := C
  have := K.1
  exact ⟨ed, k, by omega, c1.keep K, c2.keep K (oY q (by omega) (by omega)), c3.keep K (oY q (by omega) (by omega)), c4.keep K (oY q (by omega) (by omega))⟩
theorem oah.keepI {m1 m2 m3 m4 c e : Nat} (C : oah Z h m1 m2 m3 m4 c e) (K : oD h h' lo up) (q : up ≤ c ∨ e ≤ lo) : oah Z h' m1 m2 m3 m4 c e := by
  obtain ⟨ws, K, r⟩ := K; exact C.keep K fun x m => by have := r x m; omega
/-- idEnds: its first n places hold 0 -/
def oal (Z : State) (h : Heap) (c e : Nat) : Prop := ∃ (k : ClassId) (vs : List Value), (c < e ∧ e ≤ h.size) ∧ Arv Z h c k .int (1024 : Int32) vs (.int (0 : Int32)) ∧ vs.length = 1024 ∧ vs.getD 0 (.int (0 : Int32)) = .int (0 : Int32)
theorem oal.hi {c e : Nat} (C : oal Z h c e) : e ≤ h.size := by obtain ⟨k, vs, o, -⟩ := C; exact o.2
theorem oal.keep {c e : Nat} (C : oal Z h c e) (K : Keep h h' ws) (q : ∀ x : Nat, x ∈ ws → x < c ∨ e ≤ x) : oal Z h' c e := by
  obtain ⟨k, vs, o, c1, c2⟩ := C
  have := K.1
  exact ⟨k, vs, by omega, c1.keep K (oY q (by omega) (by omega)), c2⟩
theorem oal.keepI {c e : Nat} (C : oal Z h c e) (K : oD h h' lo up) (q : up ≤ c ∨ e ≤ lo) : oal Z h' c e := by
  obtain ⟨ws, K, r⟩ := K; exact C.keep K fun x m => by have := r x m; omega
/-- a shared column as a fact with its interval -/
def o3 (Z : State) (h : Heap) (n : Nat) (v : Int64) (c e : Nat) : Prop := (c < e ∧ e ≤ h.size) ∧ oak Z h c n v
theorem o3.hi {n c e : Nat} {v : Int64} (C : o3 Z h n v c e) : e ≤ h.size := C.1.2
theorem o3.keep {n c e : Nat} {v : Int64} (C : o3 Z h n v c e) (K : Keep h h' ws) (q : ∀ x : Nat, x ∈ ws → x < c ∨ e ≤ x) : o3 Z h' n v c e := by
  obtain ⟨o, c1⟩ := C
  have := K.1
  exact ⟨by omega, c1.keep K (oY q (by omega) (by omega))⟩
theorem o3.keepI {n c e : Nat} {v : Int64} (C : o3 Z h n v c e) (K : oD h h' lo up) (q : up ≤ c ∨ e ≤ lo) : o3 Z h' n v c e := by
  obtain ⟨ws, K, r⟩ := K; exact C.keep K fun x m => by have := r x m; omega
def oam (Z : State) (h : Heap) (c e : Nat) : Prop := ∃ (k : ClassId) (vs : List Value), (c < e ∧ e ≤ h.size) ∧ Arv Z h c k .char (8192 : Int32) vs (.int (0 : Int32))
theorem oam.hi {c e : Nat} (C : oam Z h c e) : e ≤ h.size := by obtain ⟨k, vs, o, -⟩ := C; exact o.2
theorem oam.keep {c e : Nat} (C : oam Z h c e) (K : Keep h h' ws) (q : ∀ x : Nat, x ∈ ws → x < c ∨ e ≤ x) : oam Z h' c e := by
  obtain ⟨k, vs, o, c1⟩ := C
  have := K.1
  exact ⟨k, vs, by omega, c1.keep K (oY q (by omega) (by omega))⟩
theorem oam.keepI {c e : Nat} (C : oam Z h c e) (K : oD h h' lo up) (q : up ≤ c ∨ e ≤ lo) : oam Z h' c e := by
  obtain ⟨ws, K, r⟩ := K; exact C.keep K fun x m => by have := r x m; omega
theorem obD {a n : Nat} {q : Int64} (E : Exa Z h a "com/example/restate/restate/model/LongColumn") (Fs : Fld Z h a "com/example/restate/restate/model/LongColumn" "size" "I" (.int (Int32.ofNat n + (1 : Int32)))) (Fh : Fld Z h a "com/example/restate/restate/model/LongColumn" "shared" "J" (.long q)) (Fi : Fld Z h a "com/example/restate/restate/model/LongColumn" "ints" "[I" .null) (Fl : Fld Z h a "com/example/restate/restate/model/LongColumn" "longs" "[J" .null) : oak Z h a (n + 1) q := by
  rw [oaW] at Fs; exact ⟨E, Fs, Fh, Fi, Fl⟩
theorem oA.lt {de c e : Nat} (C : oA Z h de c e) : c < e := by obtain ⟨al, hm, lc, o, -⟩ := C; omega
theorem oF.lt {n m f : Nat} (C : oF Z h n m f) : m < f := by obtain ⟨lc, o, -⟩ := C; omega
theorem ocQ (n : Nat) (v : Value) : (List.replicate n v).getD 0 v = v := by cases n <;> rfl
def ocR (l : List Nat) (i : Nat) : Nat := l.getD i 0
def oP (a : Nat) (A : Nat → Nat) (z : Nat) : Prop := a < A 0 ∧ A 0 < A 1 ∧ A 1 ≤ A 2 ∧ A 2 < A 3 ∧ A 3 ≤ A 4 ∧ A 4 < A 5 ∧ A 5 ≤ A 6 ∧ A 6 < A 7 ∧ A 7 ≤ A 8 ∧ A 8 < A 9 ∧ A 9 ≤ A 10 ∧ A 10 < A 11 ∧ A 11 ≤ A 12 ∧ A 12 < A 13 ∧ A 13 ≤ A 14 ∧ A 14 < A 15 ∧ A 15 ≤ A 16 ∧ A 16 < A 17 ∧ A 17 ≤ A 18 ∧ A 18 < A 19 ∧ A 19 ≤ A 20 ∧ A 20 < A 21 ∧ A 21 ≤ A 22 ∧ A 22 < A 23 ∧ A 23 ≤ A 24 ∧ A 24 < A 25 ∧ A 25 ≤ A 26 ∧ A 26 < A 27 ∧ A 27 ≤ A 28 ∧ A 28 ≤ z
def oao (Z : State) (h : Heap) (a : Nat) (A : Nat → Nat) (n am : Nat) (PC PL : Nat → Nat → Prop) : Prop :=
  oP a A h.size ∧ Exa Z h a "com/example/restate/restate/model/CensusColumns" ∧ Fld Z h a "com/example/restate/restate/model/CensusColumns" "lineOffsets" "Lcom/example/restate/restate/model/LongColumn;" (.ref (A 0)) ∧ Fld Z h a "com/example/restate/restate/model/CensusColumns" "ids" "[C" (.ref (A 2)) ∧ Fld Z h a "com/example/restate/restate/model/CensusColumns" "idEnds" "[I" (.ref (A 4)) ∧ Fld Z h a "com/example/restate/restate/model/CensusColumns" "group" "Lcom/example/restate/restate/model/CensusColumns$Codes;" (.ref (A 6)) ∧ Fld Z h a "com/example/restate/restate/model/CensusColumns" "pension" "Lcom/example/restate/restate/model/CensusColumns$Codes;" (.ref (A 8)) ∧ Fld Z h a "com/example/restate/restate/model/CensusColumns" "yearEndStatus" "Lcom/example/restate/restate/model/CensusColumns$Codes;" (.ref (A 10)) ∧ Fld Z h a "com/example/restate/restate/model/CensusColumns" "segmentStart" "Lcom/example/restate/restate/model/CensusColumns$Codes;" (.ref (A 12)) ∧ Fld Z h a "com/example/restate/restate/model/CensusColumns" "segmentEnd" "Lcom/example/restate/restate/model/CensusColumns$Codes;" (.ref (A 14)) ∧ Fld Z h a "com/example/restate/restate/model/CensusColumns" "birthDate" "Lcom/example/restate/restate/model/CensusColumns$Codes;" (.ref (A 16)) ∧ Fld Z h a "com/example/restate/restate/model/CensusColumns" "compensation" "Lcom/example/restate/restate/model/AmountColumn;" (.ref (A 18)) ∧ Fld Z h a "com/example/restate/restate/model/CensusColumns" "deferrals" "Lcom/example/restate/restate/model/AmountColumn;" (.ref (A 20)) ∧ Fld Z h a "com/example/restate/restate/model/CensusColumns" "catchUp" "Lcom/example/restate/restate/model/AmountColumn;" (.ref (A 22)) ∧ Fld Z h a "com/example/restate/restate/model/CensusColumns" "otherAnnualAdditions" "Lcom/example/restate/restate/model/AmountColumn;" (.ref (A 24)) ∧ Fld Z h a "com/example/restate/restate/model/CensusColumns" "amountColumns" "Ljava/util/List;" (.ref (A 26)) ∧ Fld Z h a "com/example/restate/restate/model/CensusColumns" "size" "I" (.int (Int32.ofNat n)) ∧ PL (A 0) (A 1) ∧ oam Z h (A 2) (A 3) ∧ oal Z h (A 4) (A 5) ∧
  PC (A 6) (A 7) ∧ PC (A 8) (A 9) ∧ PC (A 10) (A 11) ∧ PC (A 12) (A 13) ∧ PC (A 14) (A 15) ∧ PC (A 16) (A 17) ∧ oF Z h am (A 18) (A 19) ∧ oF Z h am (A 20) (A 21) ∧ oF Z h am (A 22) (A 23) ∧ oF Z h am (A 24) (A 25) ∧ oah Z h (A 18) (A 20) (A 22) (A 24) (A 26) (A 27)
end Cen
section Ord
variable {a z : Nat} {A : Nat → Nat}
theorem oP.step (O : oP a A z) (i : Nat) (hi : i < 28) : A i ≤ A (i + 1) := by
  unfold oP at O
  rcases (show i = 0 ∨ i = 1 ∨ i = 2 ∨ i = 3 ∨ i = 4 ∨ i = 5 ∨ i = 6 ∨ i = 7 ∨ i = 8 ∨ i = 9 ∨ i = 10 ∨ i = 11 ∨ i = 12 ∨ i = 13 ∨ i = 14 ∨ i = 15 ∨ i = 16 ∨ i = 17 ∨ i = 18 ∨ i = 19 ∨ i = 20 ∨ i = 21 ∨ i = 22 ∨ i = 23 ∨ i = 24 ∨ i = 25 ∨ i = 26 ∨ i = 27 by omega) with rfl | rfl | rfl | rfl | rfl | rfl | rfl | rfl | rfl | rfl | rfl | rfl | rfl | rfl | rfl | rfl | rfl | rfl | rfl | rfl | rfl | rfl | rfl | rfl | rfl | rfl | rfl | rfl <;> (simp only [Nat.reduceAdd]; omega)
theorem oP.leN (O : oP a A z) {i j : Nat} (h : i ≤ j) (hj : j ≤ 28) : A i ≤ A j := by
  induction j with
  | zero => rw [Nat.le_zero.mp h]; exact Nat.le_refl _
  | succ j ih =>
    rcases Nat.lt_or_ge i (j + 1) with q | q
    · exact Nat.le_trans (ih (by omega) (by omega)) (O.step j (by omega))
    · rw [show i = j + 1 by omega]; exact Nat.le_refl _
theorem oP.ltN (O : oP a A z) {i j : Nat} (h : i < j) (hj : j ≤ 28) (he : i % 2 = 0) : A i < A j := by
  have q : A i < A (i + 1) := by
    have hi : i < 28 := by omega
    unfold oP at O
    rcases (show i = 0 ∨ i = 2 ∨ i = 4 ∨ i = 6 ∨ i = 8 ∨ i = 10 ∨ i = 12 ∨ i = 14 ∨ i = 16 ∨ i = 18 ∨ i = 20 ∨ i = 22 ∨ i = 24 ∨ i = 26 by omega) with rfl | rfl | rfl | rfl | rfl | rfl | rfl | rfl | rfl | rfl | rfl | rfl | rfl | rfl <;> (simp only [Nat.reduceAdd]; omega)
  exact Nat.lt_of_lt_of_le q (O.leN (by omega) hj)
theorem oP.le (O : oP a A z) (i j : Nat) (h : (Nat.ble i j && Nat.ble j 28) = true) : A i ≤ A j := by
  rw [Bool.and_eq_true] at h; exact O.leN (Nat.le_of_ble_eq_true h.1) (Nat.le_of_ble_eq_true h.2)
theorem oP.lt (O : oP a A z) (i j : Nat) (h : (Nat.ble (i + 1) j && Nat.ble j 28 && Nat.beq (i % 2) 0) = true) : A i < A j := by
  rw [Bool.and_eq_true, Bool.and_eq_true] at h; exact O.ltN (Nat.le_of_ble_eq_true h.1.1) (Nat.le_of_ble_eq_true h.1.2) (Nat.eq_of_beq_eq_true h.2)
theorem oP.gt0 (O : oP a A z) (i : Nat) (hi : Nat.ble i 28 = true) : a < A i := Nat.lt_of_lt_of_le O.1 (O.leN (Nat.zero_le _) (Nat.le_of_ble_eq_true hi))
theorem oP.hi (O : oP a A z) (i : Nat) (hi : Nat.ble i 28 = true) : A i ≤ z := Nat.le_trans (O.leN (Nat.le_of_ble_eq_true hi) (Nat.le_refl _)) (by unfold oP at O; omega)
theorem oP.mono (O : oP a A z) {z' : Nat} (h : z ≤ z') : oP a A z' := by unfold oP at O ⊢; omega
theorem okb {x lo hi lo' hi' : Nat} (h : x < lo ∨ hi ≤ x) (h1 : lo ≤ lo') (h2 : hi' ≤ hi) : x < lo' ∨ hi' ≤ x := by omega
theorem oaD {x y lo hi : Nat} (h : x < lo ∨ hi ≤ x) (h1 : lo ≤ y) (h2 : y < hi) : x ≠ y := by omega
end Ord
section Cen2
variable {Z : State} {h h' : Heap} {lo up a n : Nat} {xs : List Int64} {ws : List Nat}
theorem oX.keep (C : oX Z h a n xs) (K : Keep h h' ws) (q : ∀ x : Nat, x ∈ ws → x ≠ a ∧ x < n) : oX Z h' a n xs := by
  have na : a ∉ ws := fun m => (q a m).1 rfl
  have nb : ∀ b : Nat, n ≤ b → b ∉ ws := fun b hb m => by have := (q b m).2; omega
  obtain ⟨E, Fs, C⟩ := C
  refine ⟨E.keep K, Fs.keep K na, ?_⟩
  rcases C with ⟨sh, F1, F2, F3, hx⟩ | ⟨sh, b, k, vs, F1, F2, F3, ne, ge, V, hl, hR⟩ | ⟨sh, b, k, vs, F1, F2, F3, ne, ge, V, hl, hR⟩
  · exact Or.inl ⟨sh, F1.keep K na, F2.keep K na, F3.keep K na, hx⟩
  · exact Or.inr (Or.inl ⟨sh, b, k, vs, F1.keep K na, F2.keep K na, F3.keep K na, ne, ge, V.keep K (nb b ge), hl, hR⟩)
  · exact Or.inr (Or.inr ⟨sh, b, k, vs, F1.keep K na, F2.keep K na, F3.keep K na, ne, ge, V.keep K (nb b ge), hl, hR⟩)
theorem oX.mono {n' : Nat} (C : oX Z h a n xs) (q : n' ≤ n) : oX Z h a n' xs := by
  obtain ⟨E, Fs, C⟩ := C
  refine ⟨E, Fs, ?_⟩
  rcases C with C | ⟨sh, b, k, vs, F1, F2, F3, ne, ge, r⟩ | ⟨sh, b, k, vs, F1, F2, F3, ne, ge, r⟩
  · exact Or.inl C
  · exact Or.inr (Or.inl ⟨sh, b, k, vs, F1, F2, F3, ne, Nat.le_trans q ge, r⟩)
  · exact Or.inr (Or.inr ⟨sh, b, k, vs, F1, F2, F3, ne, Nat.le_trans q ge, r⟩)
/-- a filled column with its interval; its array lies from n on -/
def oai (Z : State) (h : Heap) (n : Nat) (xs : List Int64) (c e : Nat) : Prop := (c < e ∧ e ≤ h.size) ∧ oX Z h c n xs
theorem oai.hi {c e : Nat} (C : oai Z h n xs c e) : e ≤ h.size := C.1.2
theorem oai.keep {c e : Nat} (C : oai Z h n xs c e) (K : Keep h h' ws) (q : ∀ x : Nat, x ∈ ws → (x < c ∨ e ≤ x) ∧ x < n) : oai Z h' n xs c e := by
  obtain ⟨o, C⟩ := C
  have := K.1
  exact ⟨by omega, C.keep K fun x m => by have := q x m; omega⟩
theorem oai.keepI {c e : Nat} (C : oai Z h n xs c e) (K : oD h h' lo up) (q : (up ≤ c ∨ e ≤ lo) ∧ up ≤ n) : oai Z h' n xs c e := by
  obtain ⟨ws, K, r⟩ := K; exact C.keep K fun x m => by have := r x m; omega
theorem oA.exa {de c e : Nat} (C : oA Z h de c e) : Exa Z h c "com/example/restate/restate/model/CensusColumns$Codes" := by obtain ⟨al, hm, lc, o, c1, -⟩ := C; exact c1.1
theorem oZ.exa {i0 B m c e : Nat} (C : oZ Z h i0 B m c e) : Exa Z h c "com/example/restate/restate/model/CensusColumns$Codes" := by obtain ⟨al, hm, lc, tb, nd, o, c1, -⟩ := C; exact c1.1
theorem oF.exa {m c e : Nat} (C : oF Z h m c e) : Exa Z h c "com/example/restate/restate/model/AmountColumn" := by obtain ⟨lc, o, c1, -⟩ := C; exact c1
theorem ocS {vs : List Value} (h : vs.length = 1024) : (vs.set 0 (.int (0 : Int32))).getD 0 (.int (0 : Int32)) = .int (0 : Int32) := by
  rw [oaU _ _ _ _ _ (by omega), if_pos rfl]
theorem ocT {vs : List Value} {i : Nat} {v : Value} (h : vs.length = 1024) : (vs.set i v).length = 1024 := by rw [List.length_set]; exact h
end Cen2
def oan : List (String × Nat) := consts_1
section Cen3
variable {Z : State} {h h' : Heap} {a de : Nat} {A : Nat → Nat}
theorem oao.ext0 (C : oao Z h a A 0 0 (oA Z h de) (o3 Z h 0 0)) (E : Ext h h') : oao Z h' a A 0 0 (oA Z h' de) (o3 Z h' 0 0) := by
  have K := op E
  obtain ⟨O, e, f0, f1, f2, f3, f4, f5, f6, f7, f8, f9, f10, f11, f12, f13, fz, l0, ⟨k1, v1, o1, w1⟩, ⟨k2, v2, o2, w2, w3⟩, c0, c1, c2, c3, c4, c5, m0, m1, m2, m3, l4⟩ := C
  have q := E.1
  exact ⟨O.mono q, e.ext E, f0.ext E, f1.ext E, f2.ext E, f3.ext E, f4.ext E, f5.ext E, f6.ext E, f7.ext E, f8.ext E, f9.ext E, f10.ext E, f11.ext E, f12.ext E, f13.ext E, fz.ext E, l0.keep K all0, ⟨k1, v1, by omega, w1.ext E⟩, ⟨k2, v2, by omega, w2.ext E, w3⟩, c0.keep K all0, c1.keep K all0, c2.keep K all0, c3.keep K all0, c4.keep K all0, c5.keep K all0, m0.keep K all0, m1.keep K all0, m2.keep K all0, m3.keep K all0, l4.keep K all0⟩
end Cen3
theorem ocU (x y : Int64) : (([x - (0 : Int64)] ++ [y]).getD 0 0 + ((Int32.ofNat 0).toInt64)) = x := by
  show x - 0 + (Int32.ofNat 0).toInt64 = x
  rw [show (Int32.ofNat 0).toInt64 = (0 : Int64) by decide]; exact Int64.sub_add_cancel x 0
theorem ocV (x y : Int64) : (([x] ++ [y - (1 : Int64)]).getD 1 0 + ((Int32.ofNat 1).toInt64)) = y := by
  show y - 1 + (Int32.ofNat 1).toInt64 = y
  rw [show (Int32.ofNat 1).toInt64 = (1 : Int64) by decide]; exact Int64.sub_add_cancel y 1
def ocW : List (Nat × Instr × Nat) := [(0, .lload_n 0, 1), (1, .lload_n 2, 1), (2, .lcmp, 1), (3, .ifCond .gt 7, 3), (6, .lload_n 0, 1), (7, .goto 4, 3), (10, .lload_n 2, 1), (11, .lreturn, 1)]
theorem ocX : ocW.all (fun p => decide (decode jdk_29_method_70_code p.1 = .ok p.2)) = true := by decide +kernel
theorem ocY (m : MethodId) (x0 : Int64) (x1 : Int64) : entryFrame m #[(.long x0), (.long x1)] 4 = mkF m 0 #[.val (.long x0), .second, .val (.long x1), .second] [] := by first | (simp [entryFrame, mkF, argsToLocals, Value.category]; done) | rfl
def ocZ (Z : State) (q0 : Int64) (q1 : Int64) (h0 : Heap) (n0 : Nat) (v : Option Value) (h : Heap) (L : List Loc) : Prop := v = some (.long (oat q0 q1)) ∧ Fr n0 L ∧ h = h0
def oc0 : List (Nat × Instr × Nat) := [(0, .iload_n 0, 1), (1, .iload_n 1, 1), (2, .if_icmp .lt 7, 3), (5, .iload_n 0, 1), (6, .goto 4, 3), (9, .iload_n 1, 1), (10, .ireturn, 1)]
theorem oc1 : oc0.all (fun p => decide (decode jdk_29_method_65_code p.1 = .ok p.2)) = true := by decide +kernel
theorem oc2 (m : MethodId) (x0 : Int32) (x1 : Int32) : entryFrame m #[(.int x0), (.int x1)] 2 = mkF m 0 #[.val (.int x0), .val (.int x1)] [] := by first | (simp [entryFrame, mkF, argsToLocals, Value.category]; done) | rfl
def oc3 (Z : State) (p0 : Int32) (p1 : Int32) (h0 : Heap) (n0 : Nat) (v : Option Value) (h : Heap) (L : List Loc) : Prop := v = some (.int (oag p0 p1)) ∧ Fr n0 L ∧ h = h0
theorem oc4 : parseMethodDescriptor "(JJ)J" = some ⟨[.long, .long], some .long⟩ := by decide +kernel
def oc5 : List (Nat × Instr × Nat) := [(0, .ldc2_w 64, 3), (3, .iload_n 0, 1), (4, .i2l, 1), (5, .lmul, 1), (6, .ldc2_w 68, 3), (9, .invokestatic 70, 3), (12, .l2i, 1), (13, .ireturn, 1)]
theorem oc6 : oc5.all (fun p => decide (decode prog_46_method_9_code p.1 = .ok p.2)) = true := by decide +kernel
theorem o9 : plainName "com/example/restate/restate/model/LongColumn" = true := by first | (simp [plainName, overriddenIn]; done) | decide +kernel
theorem oc7 (m : MethodId) (x0 : Int32) : entryFrame m #[(.int x0)] 1 = mkF m 0 #[.val (.int x0)] [] := by first | (simp [entryFrame, mkF, argsToLocals, Value.category]; done) | rfl
def oc8 (Z : State) (p0 : Int32) (h0 : Heap) (n0 : Nat) (v : Option Value) (h : Heap) (L : List Loc) : Prop := v = some (.int (oau p0)) ∧ Fr n0 L ∧ h = h0
def oc9 : List (Nat × Instr × Nat) := [(0, .lload_n 0, 1), (1, .l2i, 1), (2, .i2l, 1), (3, .lload_n 0, 1), (4, .lcmp, 1), (5, .ifCond .ne 7, 3), (8, .iconst 1, 1), (9, .goto 4, 3), (12, .iconst 0, 1), (13, .ireturn, 1)]
theorem oda : oc9.all (fun p => decide (decode prog_46_method_4_code p.1 = .ok p.2)) = true := by decide +kernel
theorem odb (m : MethodId) (x0 : Int64) : entryFrame m #[(.long x0)] 2 = mkF m 0 #[.val (.long x0), .second] [] := by first | (simp [entryFrame, mkF, argsToLocals, Value.category]; done) | rfl
def odc (Z : State) (q0 : Int64) (h0 : Heap) (n0 : Nat) (v : Option Value) (h : Heap) (L : List Loc) : Prop := v = some (.int (oaj q0)) ∧ Fr n0 L ∧ h = h0
theorem oN : parseMethodDescriptor "()V" = some ⟨[], none⟩ := by decide +kernel
def odd : List (Nat × Instr × Nat) := [(0, .aload_n 0, 1), (1, .invokespecial 1, 3), (4, .return_, 1)]
theorem ode : odd.all (fun p => decide (decode prog_46_method_1_code p.1 = .ok p.2)) = true := by decide +kernel
theorem odf (m : MethodId) (x0 : Addr) : entryFrame m #[(.ref x0)] 1 = mkF m 0 #[.val (.ref x0)] [] := by first | (simp [entryFrame, mkF, argsToLocals, Value.category]; done) | rfl
def odg (Z : State) (a0 : Addr) (h0 : Heap) (n0 : Nat) (v : Option Value) (h : Heap) (L : List Loc) : Prop := v = none ∧ Fr n0 L ∧ h = h0
def odh : List (Nat × Instr × Nat) := [(0, .aload_n 0, 1), (1, .getfield 7, 3), (4, .ireturn, 1)]
theorem odi : odh.all (fun p => decide (decode prog_46_method_2_code p.1 = .ok p.2)) = true := by decide +kernel
theorem odj (m : MethodId) (x0 : Addr) : entryFrame m #[(.ref x0)] 1 = mkF m 0 #[.val (.ref x0)] [] := by first | (simp [entryFrame, mkF, argsToLocals, Value.category]; done) | rfl
def odk (Z : State) (a0 : Addr) (z : Int32) (h0 : Heap) (n0 : Nat) (v : Option Value) (h : Heap) (L : List Loc) : Prop := v = some (.int z) ∧ Fr n0 L ∧ h = h0
def odl : List (Nat × Instr × Nat) := [(0, .iload_n 1, 1), (1, .iload_n 2, 1), (2, .if_icmp .le 44, 3), (46, .iload_n 1, 1), (47, .ifCond .ge 12, 3), (59, .iload_n 2, 1), (60, .iload_n 0, 1), (61, .if_icmp .le 12, 3), (73, .return_, 1)]
theorem odm : odl.all (fun p => decide (decode jdk_65_method_30_code p.1 = .ok p.2)) = true := by decide +kernel
theorem oaZ : plainName "java/util/Arrays" = true := by first | (simp [plainName, overriddenIn]; done) | decide +kernel
theorem odn (m : MethodId) (x0 : Int32) (x1 : Int32) (x2 : Int32) : entryFrame m #[(.int x0), (.int x1), (.int x2)] 3 = mkF m 0 #[.val (.int x0), .val (.int x1), .val (.int x2)] [] := by first | (simp [entryFrame, mkF, argsToLocals, Value.category]; done) | rfl
def odo (Z : State) (p0 : Int32) (p1 : Int32) (p2 : Int32) (h0 : Heap) (n0 : Nat) (v : Option Value) (h : Heap) (L : List Loc) : Prop := v = none ∧ Fr n0 L ∧ h = h0
theorem obE : parseMethodDescriptor "(III)V" = some ⟨[.int, .int, .int], none⟩ := by decide +kernel
def odp : List (Nat × Instr × Nat) := [(0, .aload_n 0, 1), (1, .arraylength, 1), (2, .iload_n 1, 1), (3, .iload_n 2, 1), (4, .invokestatic 13, 3), (7, .iload_n 1, 1), (8, .istore 4, 2), (10, .iload 4, 2), (12, .iload_n 2, 1), (13, .if_icmp .ge 14, 3), (16, .aload_n 0, 1), (17, .iload 4, 2), (19, .iload_n 3, 1), (20, .iastore, 1), (21, .iinc 4 1, 3), (24, .goto (-14), 3), (27, .return_, 1)]
theorem odq : odp.all (fun p => decide (decode jdk_65_method_104_code p.1 = .ok p.2)) = true := by decide +kernel
theorem odr (m : MethodId) (x0 : Addr) (x1 : Int32) (x2 : Int32) (x3 : Int32) : entryFrame m #[(.ref x0), (.int x1), (.int x2), (.int x3)] 5 = mkF m 0 #[.val (.ref x0), .val (.int x1), .val (.int x2), .val (.int x3), .unset] [] := by first | (simp [entryFrame, mkF, argsToLocals, Value.category]; done) | rfl
def obF (Z : State) (a0 : Addr) (p3 : Int32) (n : Nat) (k : ClassId) (vs : List Value) (h0 : Heap) (n0 : Nat) (v : Option Value) (h : Heap) (L : List Loc) : Prop := v = none ∧ Fr n0 L ∧ Keep h0 h [a0] ∧ Arv Z h a0 k .int (16 : Int32) (oU (fun _ => Value.int p3) vs n) (.int (0 : Int32))
def ods : List (Nat × Instr × Nat) := [(0, .aload_n 0, 1), (1, .getfield 21, 3), (4, .lstore_n 2, 1), (5, .aload_n 0, 1), (6, .getfield 17, 3), (9, .ifnull 13, 3), (12, .aload_n 0, 1), (13, .getfield 17, 3), (16, .iload_n 1, 1), (17, .laload, 1), (18, .lstore_n 2, 1), (19, .goto 18, 3), (22, .aload_n 0, 1), (23, .getfield 13, 3), (26, .ifnull 11, 3), (29, .aload_n 0, 1), (30, .getfield 13, 3), (33, .iload_n 1, 1), (34, .iaload, 1), (35, .i2l, 1), (36, .lstore_n 2, 1), (37, .lload_n 2, 1), (38, .lreturn, 1)]
theorem obg : ods.all (fun p => decide (decode prog_46_method_7_code p.1 = .ok p.2)) = true := by decide +kernel
theorem obh (m : MethodId) (x0 : Addr) (x1 : Int32) : entryFrame m #[(.ref x0), (.int x1)] 4 = mkF m 0 #[.val (.ref x0), .val (.int x1), .unset, .unset] [] := by first | (simp [entryFrame, mkF, argsToLocals, Value.category]; done) | rfl
theorem oa0 : parseMethodDescriptor "(I)I" = some ⟨[.int], some .int⟩ := by decide +kernel
theorem oav : parseMethodDescriptor "(II)I" = some ⟨[.int, .int], some .int⟩ := by decide +kernel
theorem odt : parseMethodDescriptor "([IIII)V" = some ⟨[(.array .int), .int, .int, .int], none⟩ := by decide +kernel
def odu : List (Nat × Instr × Nat) := [(0, .aload_n 0, 1), (1, .getfield 13, 3), (4, .ifnonnull 41, 3), (7, .aload_n 0, 1), (8, .bipush 16, 2), (10, .aload_n 0, 1), (11, .getfield 7, 3), (14, .invokestatic 37, 3), (17, .invokestatic 41, 3), (20, .newarray .int, 2), (22, .putfield 13, 3), (25, .aload_n 0, 1), (26, .getfield 13, 3), (29, .iconst 0, 1), (30, .aload_n 0, 1), (31, .getfield 7, 3), (34, .aload_n 0, 1), (35, .getfield 21, 3), (38, .l2i, 1), (39, .invokestatic 47, 3), (42, .goto 33, 3), (75, .aload_n 0, 1), (76, .getfield 13, 3), (79, .aload_n 0, 1), (80, .getfield 7, 3), (83, .iload_n 1, 1), (84, .iastore, 1), (85, .return_, 1)]
theorem odv : odu.all (fun p => decide (decode prog_46_method_5_code p.1 = .ok p.2)) = true := by decide +kernel
theorem odw (m : MethodId) (x0 : Addr) (x1 : Int32) : entryFrame m #[(.ref x0), (.int x1)] 2 = mkF m 0 #[.val (.ref x0), .val (.int x1)] [] := by first | (simp [entryFrame, mkF, argsToLocals, Value.category]; done) | rfl
theorem oa1 : parseMethodDescriptor "(I)J" = some ⟨[.int], some .long⟩ := by decide +kernel
def odx : List (Nat × Instr × Nat) := [(0, .aload_n 0, 1), (1, .getfield 17, 3), (4, .ifnonnull 59, 3), (7, .bipush 16, 2), (9, .aload_n 0, 1), (10, .getfield 7, 3), (13, .invokestatic 37, 3), (16, .invokestatic 41, 3), (19, .newarray .long, 2), (21, .astore_n 3, 1), (22, .iconst 0, 1), (23, .istore 4, 2), (25, .iload 4, 2), (27, .aload_n 0, 1), (28, .getfield 7, 3), (31, .if_icmp .ge 19, 3), (34, .aload_n 3, 1), (35, .iload 4, 2), (37, .aload_n 0, 1), (38, .iload 4, 2), (40, .invokevirtual 57, 3), (43, .lastore, 1), (44, .iinc 4 1, 3), (47, .goto (-22), 3), (50, .aload_n 0, 1), (51, .aload_n 3, 1), (52, .putfield 17, 3), (55, .aload_n 0, 1), (56, .aconst_null, 1), (57, .putfield 13, 3), (60, .goto 33, 3), (93, .aload_n 0, 1), (94, .getfield 17, 3), (97, .aload_n 0, 1), (98, .getfield 7, 3), (101, .lload_n 1, 1), (102, .lastore, 1), (103, .return_, 1)]
theorem ody : odx.all (fun p => decide (decode prog_46_method_6_code p.1 = .ok p.2)) = true := by decide +kernel
theorem odz (m : MethodId) (x0 : Addr) (x1 : Int64) : entryFrame m #[(.ref x0), (.long x1)] 5 = mkF m 0 #[.val (.ref x0), .val (.long x1), .second, .unset, .unset] [] := by first | (simp [entryFrame, mkF, argsToLocals, Value.category]; done) | rfl
def odA (Z : State) (a0 : Addr) (xs : List Int64) (q1 : Int64) (h0 : Heap) (n0 : Nat) (v : Option Value) (h : Heap) (L : List Loc) : Prop := v = none ∧ Fr n0 L ∧ Keep h0 h [a0] ∧ oX Z h a0 h0.size (xs ++ [q1])
theorem obG : parseMethodDescriptor "(J)Z" = some ⟨[.long], some .boolean⟩ := by decide +kernel
theorem obi : parseMethodDescriptor "(I)V" = some ⟨[.int], none⟩ := by decide +kernel
theorem oaa : parseMethodDescriptor "(J)V" = some ⟨[.long], none⟩ := by decide +kernel
def odB : List (Nat × Instr × Nat) := [(0, .aload_n 0, 1), (1, .getfield 13, 3), (4, .ifnonnull 14, 3), (7, .aload_n 0, 1), (8, .getfield 17, 3), (11, .ifnonnull 7, 3), (14, .iconst 1, 1), (15, .goto 4, 3), (19, .istore_n 3, 1), (20, .iload_n 3, 1), (21, .ifCond .eq 27, 3), (24, .aload_n 0, 1), (25, .getfield 7, 3), (28, .ifCond .eq 12, 3), (31, .lload_n 1, 1), (32, .aload_n 0, 1), (33, .getfield 21, 3), (36, .lcmp, 1), (37, .ifCond .ne 11, 3), (40, .aload_n 0, 1), (41, .lload_n 1, 1), (42, .putfield 21, 3), (45, .goto 48, 3), (48, .aload_n 0, 1), (49, .getfield 17, 3), (52, .ifnonnull 36, 3), (55, .lload_n 1, 1), (56, .invokestatic 25, 3), (59, .ifCond .eq 29, 3), (62, .aload_n 0, 1), (63, .getfield 13, 3), (66, .ifnonnull 13, 3), (69, .aload_n 0, 1), (70, .getfield 21, 3), (73, .invokestatic 25, 3), (76, .ifCond .eq 12, 3), (79, .aload_n 0, 1), (80, .lload_n 1, 1), (81, .l2i, 1), (82, .invokevirtual 29, 3), (85, .goto 8, 3), (88, .aload_n 0, 1), (89, .lload_n 1, 1), (90, .invokevirtual 33, 3), (93, .aload_n 0, 1), (94, .dup, 1), (95, .getfield 7, 3), (98, .iconst 1, 1), (99, .iadd, 1), (100, .putfield 7, 3), (103, .return_, 1)]
theorem obH : odB.all (fun p => decide (decode prog_46_method_3_code p.1 = .ok p.2)) = true := by decide +kernel
theorem obI (m : MethodId) (x0 : Addr) (x1 : Int64) : entryFrame m #[(.ref x0), (.long x1)] 4 = mkF m 0 #[.val (.ref x0), .val (.long x1), .second, .unset] [] := by first | (simp [entryFrame, mkF, argsToLocals, Value.category]; done) | rfl
def odC : List (Nat × Instr × Nat) := [(0, .aload_n 0, 1), (1, .invokespecial 1, 3), (4, .return_, 1)]
theorem odD : odC.all (fun p => decide (decode jdk_22_method_1_code p.1 = .ok p.2)) = true := by decide +kernel
theorem odE : plainName "java/util/AbstractCollection" = true := by first | (simp [plainName, overriddenIn]; done) | decide +kernel
theorem odF (m : MethodId) (x0 : Addr) : entryFrame m #[(.ref x0)] 1 = mkF m 0 #[.val (.ref x0)] [] := by first | (simp [entryFrame, mkF, argsToLocals, Value.category]; done) | rfl
def odG (Z : State) (a0 : Addr) (h0 : Heap) (n0 : Nat) (v : Option Value) (h : Heap) (L : List Loc) : Prop := v = none ∧ Fr n0 L ∧ h = h0
def odH : List (Nat × Instr × Nat) := [(0, .aload_n 0, 1), (1, .invokespecial 1, 3), (4, .return_, 1)]
theorem odI : odH.all (fun p => decide (decode jdk_71_method_1_code p.1 = .ok p.2)) = true := by decide +kernel
theorem odJ : plainName "java/util/AbstractMap" = true := by first | (simp [plainName, overriddenIn]; done) | decide +kernel
theorem odK (m : MethodId) (x0 : Addr) : entryFrame m #[(.ref x0)] 1 = mkF m 0 #[.val (.ref x0)] [] := by first | (simp [entryFrame, mkF, argsToLocals, Value.category]; done) | rfl
def odL (Z : State) (a0 : Addr) (h0 : Heap) (n0 : Nat) (v : Option Value) (h : Heap) (L : List Loc) : Prop := v = none ∧ Fr n0 L ∧ h = h0
def odM : List (Nat × Instr × Nat) := [(0, .aload_n 0, 1), (1, .invokespecial 1, 3), (4, .return_, 1)]
theorem odN : odM.all (fun p => decide (decode jdk_47_method_1_code p.1 = .ok p.2)) = true := by decide +kernel
theorem odO : plainName "java/util/ImmutableCollections$AbstractImmutableCollection" = true := by first | (simp [plainName, overriddenIn]; done) | decide +kernel
theorem odP (m : MethodId) (x0 : Addr) : entryFrame m #[(.ref x0)] 1 = mkF m 0 #[.val (.ref x0)] [] := by first | (simp [entryFrame, mkF, argsToLocals, Value.category]; done) | rfl
def odQ (Z : State) (a0 : Addr) (h0 : Heap) (n0 : Nat) (v : Option Value) (h : Heap) (L : List Loc) : Prop := v = none ∧ Fr n0 L ∧ h = h0
def odR : List (Nat × Instr × Nat) := [(0, .aload_n 0, 1), (1, .invokespecial 1, 3), (4, .return_, 1)]
theorem odS : odR.all (fun p => decide (decode jdk_46_method_1_code p.1 = .ok p.2)) = true := by decide +kernel
theorem odT : plainName "java/util/ImmutableCollections$AbstractImmutableList" = true := by first | (simp [plainName, overriddenIn]; done) | decide +kernel
theorem odU (m : MethodId) (x0 : Addr) : entryFrame m #[(.ref x0)] 1 = mkF m 0 #[.val (.ref x0)] [] := by first | (simp [entryFrame, mkF, argsToLocals, Value.category]; done) | rfl
def odV (Z : State) (a0 : Addr) (h0 : Heap) (n0 : Nat) (v : Option Value) (h : Heap) (L : List Loc) : Prop := v = none ∧ Fr n0 L ∧ h = h0
def odW : List (Nat × Instr × Nat) := [(0, .aload_n 0, 1), (1, .invokespecial 1, 3), (4, .aload_n 0, 1), (5, .iconst 0, 1), (6, .putfield 7, 3), (9, .return_, 1)]
theorem odX : odW.all (fun p => decide (decode jdk_39_method_1_code p.1 = .ok p.2)) = true := by decide +kernel
theorem odY : plainName "java/util/AbstractList" = true := by first | (simp [plainName, overriddenIn]; done) | decide +kernel
theorem odZ (m : MethodId) (x0 : Addr) : entryFrame m #[(.ref x0)] 1 = mkF m 0 #[.val (.ref x0)] [] := by first | (simp [entryFrame, mkF, argsToLocals, Value.category]; done) | rfl
def od0 (Z : State) (a0 : Addr) (z : Int32) (h0 : Heap) (n0 : Nat) (v : Option Value) (h : Heap) (L : List Loc) : Prop := v = none ∧ Fr n0 L ∧ Wr h0 h a0 (Jvm.RoadKit.slotOf Z "java/util/AbstractList" "modCount" "I") (.int (0 : Int32))
def od1 : List (Nat × Instr × Nat) := [(0, .aload_n 0, 1), (1, .invokespecial 1, 3), (4, .aload_n 0, 1), (5, .getstatic 39, 3), (8, .putfield 9, 3), (11, .return_, 1)]
theorem od2 : od1.all (fun p => decide (decode jdk_38_method_2_code p.1 = .ok p.2)) = true := by decide +kernel
theorem oab : plainName "java/util/ArrayList" = true := by first | (simp [plainName, overriddenIn]; done) | decide +kernel
theorem od3 (m : MethodId) (x0 : Addr) : entryFrame m #[(.ref x0)] 1 = mkF m 0 #[.val (.ref x0)] [] := by first | (simp [entryFrame, mkF, argsToLocals, Value.category]; done) | rfl
def od4 (Z : State) (a0 : Addr) (kk : ov) (h0 : Heap) (n0 : Nat) (v : Option Value) (h : Heap) (L : List Loc) : Prop := v = none ∧ Fr n0 L ∧ Keep h0 h [a0] ∧ oaP Z h a0 kk.de
def od5 : List (Nat × Instr × Nat) := [(0, .aload_n 0, 1), (1, .invokespecial 43, 3), (4, .aload_n 0, 1), (5, .ldc 92, 2), (7, .putfield 81, 3), (10, .return_, 1)]
theorem obJ : od5.all (fun p => decide (decode jdk_69_method_7_code p.1 = .ok p.2)) = true := by decide +kernel
theorem o6 : plainName "java/util/HashMap" = true := by first | (simp [plainName, overriddenIn]; done) | decide +kernel
theorem obK (m : MethodId) (x0 : Addr) : entryFrame m #[(.ref x0)] 1 = mkF m 0 #[.val (.ref x0)] [] := by first | (simp [entryFrame, mkF, argsToLocals, Value.category]; done) | rfl
def od6 (Z : State) (a0 : Addr) (z : UInt32) (h0 : Heap) (n0 : Nat) (v : Option Value) (h : Heap) (L : List Loc) : Prop := v = none ∧ Fr n0 L ∧ Wr h0 h a0 (Jvm.RoadKit.slotOf Z "java/util/HashMap" "loadFactor" "F") (.float (1061158912 : UInt32))
def od7 (Z : State) (a0 : Addr) (z : UInt32) (h0 : Heap) (n0 : Nat) (v : Option Value) (h : Heap) (L : List Loc) : Prop := v = none ∧ Fr n0 L ∧ Wr h0 h a0 (Jvm.RoadKit.slotOf Z "java/util/HashMap" "loadFactor" "F") (.float (1061158912 : UInt32))
def od8 : List (Nat × Instr × Nat) := [(0, .aload_n 0, 1), (1, .invokespecial 1, 3), (4, .aload_n 0, 1), (5, .new 7, 3), (8, .dup, 1), (9, .invokespecial 9, 3), (12, .putfield 10, 3), (15, .aload_n 0, 1), (16, .new 16, 3), (19, .dup, 1), (20, .invokespecial 18, 3), (23, .putfield 19, 3), (26, .aload_n 0, 1), (27, .new 23, 3), (30, .dup, 1), (31, .invokespecial 25, 3), (34, .putfield 26, 3), (37, .return_, 1)]
theorem od9 : od8.all (fun p => decide (decode prog_33_method_1_code p.1 = .ok p.2)) = true := by decide +kernel
theorem obj : plainName "com/example/restate/restate/model/CensusColumns$Codes" = true := by first | (simp [plainName, overriddenIn]; done) | decide +kernel
theorem oea (m : MethodId) (x0 : Addr) : entryFrame m #[(.ref x0)] 1 = mkF m 0 #[.val (.ref x0)] [] := by first | (simp [entryFrame, mkF, argsToLocals, Value.category]; done) | rfl
def oeb (Z : State) (a0 : Addr) (kk : ov) (h0 : Heap) (n0 : Nat) (v : Option Value) (h : Heap) (L : List Loc) : Prop := v = none ∧ Fr n0 L ∧ Keep h0 h [a0] ∧ ∃ e : Nat, oA Z h kk.de a0 e
def oec : List (Nat × Instr × Nat) := [(0, .aload_n 0, 1), (1, .invokespecial 1, 3), (4, .aload_n 0, 1), (5, .new 7, 3), (8, .dup, 1), (9, .invokespecial 9, 3), (12, .putfield 10, 3), (15, .aload_n 0, 1), (16, .new 16, 3), (19, .dup, 1), (20, .invokespecial 18, 3), (23, .putfield 19, 3), (26, .return_, 1)]
theorem oed : oec.all (fun p => decide (decode prog_28_method_1_code p.1 = .ok p.2)) = true := by decide +kernel
theorem oa2 : plainName "com/example/restate/restate/model/AmountColumn" = true := by first | (simp [plainName, overriddenIn]; done) | decide +kernel
theorem oee (m : MethodId) (x0 : Addr) : entryFrame m #[(.ref x0)] 1 = mkF m 0 #[.val (.ref x0)] [] := by first | (simp [entryFrame, mkF, argsToLocals, Value.category]; done) | rfl
def oef (Z : State) (a0 : Addr) (h0 : Heap) (n0 : Nat) (v : Option Value) (h : Heap) (L : List Loc) : Prop := v = none ∧ Fr n0 L ∧ Keep h0 h [a0] ∧ ∃ e : Nat, oF Z h 0 a0 e
def oeg : List (Nat × Instr × Nat) := [(0, .aload_n 0, 1), (1, .ifnonnull 11, 3), (12, .aload_n 0, 1), (13, .areturn, 1)]
theorem oeh : oeg.all (fun p => decide (decode jdk_31_method_10_code p.1 = .ok p.2)) = true := by decide +kernel
theorem obL : plainName "java/util/Objects" = true := by first | (simp [plainName, overriddenIn]; done) | decide +kernel
theorem oei (m : MethodId) (x0 : Addr) : entryFrame m #[(.ref x0)] 1 = mkF m 0 #[.val (.ref x0)] [] := by first | (simp [entryFrame, mkF, argsToLocals, Value.category]; done) | rfl
def oej (Z : State) (a0 : Addr) (h0 : Heap) (n0 : Nat) (v : Option Value) (h : Heap) (L : List Loc) : Prop := v = some (.ref a0) ∧ Fr n0 L ∧ h = h0
def oaE (a b : Int32) : Int32 := if b < a then b else a
def oek : List (Nat × Instr × Nat) := [(0, .iload_n 0, 1), (1, .iload_n 1, 1), (2, .if_icmp .gt 7, 3), (5, .iload_n 0, 1), (6, .goto 4, 3), (9, .iload_n 1, 1), (10, .ireturn, 1)]
theorem oel : oek.all (fun p => decide (decode jdk_29_method_69_code p.1 = .ok p.2)) = true := by decide +kernel
theorem oem (m : MethodId) (x0 : Int32) (x1 : Int32) : entryFrame m #[(.int x0), (.int x1)] 2 = mkF m 0 #[.val (.int x0), .val (.int x1)] [] := by first | (simp [entryFrame, mkF, argsToLocals, Value.category]; done) | rfl
def oen (Z : State) (p0 : Int32) (p1 : Int32) (h0 : Heap) (n0 : Nat) (v : Option Value) (h : Heap) (L : List Loc) : Prop := v = some (.int (oaE p0 p1)) ∧ Fr n0 L ∧ h = h0
def oeo : List (Nat × Instr × Nat) := [(0, .aload_n 0, 1), (1, .invokespecial 1, 3), (4, .aload_n 0, 1), (5, .aload_n 1, 1), (6, .putfield 7, 3), (9, .aload_n 0, 1), (10, .iload_n 2, 1), (11, .putfield 13, 3), (14, .return_, 1)]
theorem oep : oeo.all (fun p => decide (decode jdk_45_method_1_code p.1 = .ok p.2)) = true := by decide +kernel
theorem obM : plainName "java/util/ImmutableCollections$ListN" = true := by first | (simp [plainName, overriddenIn]; done) | decide +kernel
theorem oeq (m : MethodId) (x0 : Addr) (x1 : Addr) (x2 : Int32) : entryFrame m #[(.ref x0), (.ref x1), (.int x2)] 3 = mkF m 0 #[.val (.ref x0), .val (.ref x1), .val (.int x2)] [] := by first | (simp [entryFrame, mkF, argsToLocals, Value.category]; done) | rfl
def oer (Z : State) (a0 : Addr) (a1 : Addr) (h0 : Heap) (n0 : Nat) (v : Option Value) (h : Heap) (L : List Loc) : Prop := v = none ∧ Fr n0 L ∧ Keep h0 h [a0] ∧ Fld Z h a0 "java/util/ImmutableCollections$ListN" "elements" "[Ljava/lang/Object;" (.ref a1)
theorem oaF : parseMethodDescriptor "(Ljava/lang/Object;)Ljava/lang/Object;" = some ⟨[(.object "java/lang/Object")], some (.object "java/lang/Object")⟩ := by decide +kernel
theorem oes : parseMethodDescriptor "([Ljava/lang/Object;Z)V" = some ⟨[(.array (.object "java/lang/Object")), .boolean], none⟩ := by decide +kernel
def oet : List (Nat × Instr × Nat) := [(0, .getstatic 46, 3), (3, .ifCond .ne 20, 3), (23, .aload_n 0, 1), (24, .astore_n 1, 1), (25, .aload_n 1, 1), (26, .arraylength, 1), (27, .istore_n 2, 1), (28, .iconst 0, 1), (29, .istore_n 3, 1), (30, .iload_n 3, 1), (31, .iload_n 2, 1), (32, .if_icmp .ge 20, 3), (35, .aload_n 1, 1), (36, .iload_n 3, 1), (37, .aaload, 1), (38, .astore 4, 2), (40, .aload 4, 2), (42, .invokestatic 37, 3), (45, .pop, 1), (46, .iinc 3 1, 3), (49, .goto (-19), 3), (52, .aload_n 0, 1), (53, .arraylength, 1), (54, .tableswitch 61 0 2 #[26, 32, 45], 26), (115, .new 12, 3), (118, .dup, 1), (119, .aload_n 0, 1), (120, .iconst 0, 1), (121, .invokespecial 43, 3), (124, .areturn, 1)]
theorem oeu : oet.all (fun p => decide (decode jdk_56_method_5_code p.1 = .ok p.2)) = true := by decide +kernel
theorem oev : plainName "java/util/ImmutableCollections" = true := by first | (simp [plainName, overriddenIn]; done) | decide +kernel
theorem oew (m : MethodId) (x0 : Addr) : entryFrame m #[(.ref x0)] 5 = mkF m 0 #[.val (.ref x0), .unset, .unset, .unset, .unset] [] := by first | (simp [entryFrame, mkF, argsToLocals, Value.category]; done) | rfl
def oex (Z : State) (a0 : Addr) (kk : ov) (m1 : Nat) (m2 : Nat) (m3 : Nat) (m4 : Nat) (k : ClassId) (h0 : Heap) (n0 : Nat) (v : Option Value) (h : Heap) (L : List Loc) : Prop := ∃ r : Nat, v = some (.ref r) ∧ Fr n0 L ∧ Keep h0 h [] ∧ h0.size ≤ r ∧ Exa Z h r "java/util/ImmutableCollections$ListN" ∧ Fld Z h r "java/util/ImmutableCollections$ListN" "elements" "[Ljava/lang/Object;" (.ref a0)
theorem oey : parseMethodDescriptor "([Ljava/lang/Object;)Ljava/util/List;" = some ⟨[(.array (.object "java/lang/Object"))], some (.object "java/util/List")⟩ := by decide +kernel
def oez : List (Nat × Instr × Nat) := [(0, .iconst 4, 1), (1, .anewarray 103, 3), (4, .dup, 1), (5, .iconst 0, 1), (6, .aload_n 0, 1), (7, .aastore, 1), (8, .dup, 1), (9, .iconst 1, 1), (10, .aload_n 1, 1), (11, .aastore, 1), (12, .dup, 1), (13, .iconst 2, 1), (14, .aload_n 2, 1), (15, .aastore, 1), (16, .dup, 1), (17, .iconst 3, 1), (18, .aload_n 3, 1), (19, .aastore, 1), (20, .invokestatic 105, 3), (23, .areturn, 1)]
theorem oeA : oez.all (fun p => decide (decode jdk_40_method_40_code p.1 = .ok p.2)) = true := by decide +kernel
theorem oeB : plainName "java/util/List" = true := by first | (simp [plainName, overriddenIn]; done) | decide +kernel
theorem oeC (m : MethodId) (x0 : Addr) (x1 : Addr) (x2 : Addr) (x3 : Addr) : entryFrame m #[(.ref x0), (.ref x1), (.ref x2), (.ref x3)] 4 = mkF m 0 #[.val (.ref x0), .val (.ref x1), .val (.ref x2), .val (.ref x3)] [] := by first | (simp [entryFrame, mkF, argsToLocals, Value.category]; done) | rfl
def oeD (Z : State) (kk : ov) (m1 : Nat) (m2 : Nat) (m3 : Nat) (m4 : Nat) (h0 : Heap) (n0 : Nat) (v : Option Value) (h : Heap) (L : List Loc) : Prop := ∃ r : Nat, v = some (.ref r) ∧ Fr n0 L ∧ Keep h0 h [] ∧ ∃ (a : Nat) (k : ClassId), h0.size ≤ r ∧ h0.size ≤ a ∧ Exa Z h r "java/util/ImmutableCollections$ListN" ∧ Fld Z h r "java/util/ImmutableCollections$ListN" "elements" "[Ljava/lang/Object;" (.ref a) ∧ Arv Z h a k (.object "java/lang/Object") (4 : Int32) [.ref m1, .ref m2, .ref m3, .ref m4] .null ∧ Exa Z h a "[Ljava/lang/Object;"
theorem okc : parseMethodDescriptor "(Ljava/lang/Object;ILjava/lang/Object;II)V" = some ⟨[(.object "java/lang/Object"), .int, (.object "java/lang/Object"), .int, .int], none⟩ := by decide +kernel
def oeE : List (Nat × Instr × Nat) := [(0, .aload_n 2, 1), (1, .ldc 110, 2), (3, .if_acmp .ne 10, 3), (6, .iload_n 1, 1), (7, .anewarray 2, 3), (10, .goto 14, 3), (24, .astore_n 3, 1), (25, .aload_n 0, 1), (26, .iconst 0, 1), (27, .aload_n 3, 1), (28, .iconst 0, 1), (29, .aload_n 0, 1), (30, .arraylength, 1), (31, .iload_n 1, 1), (32, .invokestatic 304, 3), (35, .invokestatic 150, 3), (38, .aload_n 3, 1), (39, .areturn, 1)]
theorem oeF : oeE.all (fun p => decide (decode jdk_65_method_120_code p.1 = .ok p.2)) = true := by decide +kernel
theorem oeG (m : MethodId) (x0 : Addr) (x1 : Int32) (x2 : Addr) : entryFrame m #[(.ref x0), (.int x1), (.ref x2)] 4 = mkF m 0 #[.val (.ref x0), .val (.int x1), .val (.ref x2), .unset] [] := by first | (simp [entryFrame, mkF, argsToLocals, Value.category]; done) | rfl
def oeH (Z : State) (a0 : Addr) (kk : ov) (m1 : Nat) (m2 : Nat) (m3 : Nat) (m4 : Nat) (k : ClassId) (h0 : Heap) (n0 : Nat) (v : Option Value) (h : Heap) (L : List Loc) : Prop := ∃ r : Nat, v = some (.ref r) ∧ Fr n0 L ∧ Keep h0 h [] ∧ ∃ k1 : ClassId, h0.size ≤ r ∧ Arv Z h r k1 (.object "java/lang/Object") (4 : Int32) [.ref m1, .ref m2, .ref m3, .ref m4] .null ∧ Exa Z h r "[Ljava/lang/Object;"
theorem okd : parseMethodDescriptor "()Ljava/lang/Class;" = some ⟨[], some (.object "java/lang/Class")⟩ := by decide +kernel
theorem obN : parseMethodDescriptor "([Ljava/lang/Object;ILjava/lang/Class;)[Ljava/lang/Object;" = some ⟨[(.array (.object "java/lang/Object")), .int, (.object "java/lang/Class")], some (.array (.object "java/lang/Object"))⟩ := by decide +kernel
def oeI : List (Nat × Instr × Nat) := [(0, .aload_n 0, 1), (1, .iload_n 1, 1), (2, .aload_n 0, 1), (3, .invokevirtual 86, 3), (6, .invokestatic 300, 3), (9, .areturn, 1)]
theorem oeJ : oeI.all (fun p => decide (decode jdk_65_method_119_code p.1 = .ok p.2)) = true := by decide +kernel
theorem oeK (m : MethodId) (x0 : Addr) (x1 : Int32) : entryFrame m #[(.ref x0), (.int x1)] 2 = mkF m 0 #[.val (.ref x0), .val (.int x1)] [] := by first | (simp [entryFrame, mkF, argsToLocals, Value.category]; done) | rfl
def oeL (Z : State) (a0 : Addr) (kk : ov) (m1 : Nat) (m2 : Nat) (m3 : Nat) (m4 : Nat) (k : ClassId) (h0 : Heap) (n0 : Nat) (v : Option Value) (h : Heap) (L : List Loc) : Prop := ∃ r : Nat, v = some (.ref r) ∧ Fr n0 L ∧ Keep h0 h [] ∧ ∃ k1 : ClassId, h0.size ≤ r ∧ Arv Z h r k1 (.object "java/lang/Object") (4 : Int32) [.ref m1, .ref m2, .ref m3, .ref m4] .null ∧ Exa Z h r "[Ljava/lang/Object;"
theorem oeM : parseMethodDescriptor "([Ljava/lang/Object;I)[Ljava/lang/Object;" = some ⟨[(.array (.object "java/lang/Object")), .int], some (.array (.object "java/lang/Object"))⟩ := by decide +kernel
def oeN : List (Nat × Instr × Nat) := [(0, .aload_n 0, 1), (1, .getfield 7, 3), (4, .aload_n 0, 1), (5, .getfield 7, 3), (8, .arraylength, 1), (9, .invokestatic 29, 3), (12, .areturn, 1)]
theorem oeO : oeN.all (fun p => decide (decode jdk_45_method_7_code p.1 = .ok p.2)) = true := by decide +kernel
theorem oeP (m : MethodId) (x0 : Addr) : entryFrame m #[(.ref x0)] 1 = mkF m 0 #[.val (.ref x0)] [] := by first | (simp [entryFrame, mkF, argsToLocals, Value.category]; done) | rfl
def oeQ (Z : State) (a0 : Addr) (ar : Nat) (kk : ov) (m1 : Nat) (m2 : Nat) (m3 : Nat) (m4 : Nat) (k : ClassId) (h0 : Heap) (n0 : Nat) (v : Option Value) (h : Heap) (L : List Loc) : Prop := ∃ r : Nat, v = some (.ref r) ∧ Fr n0 L ∧ Keep h0 h [] ∧ ∃ k1 : ClassId, h0.size ≤ r ∧ Arv Z h r k1 (.object "java/lang/Object") (4 : Int32) [.ref m1, .ref m2, .ref m3, .ref m4] .null ∧ Exa Z h r "[Ljava/lang/Object;"
theorem obk : parseMethodDescriptor "()[Ljava/lang/Object;" = some ⟨[], some (.array (.object "java/lang/Object"))⟩ := by decide +kernel
def oeR : List (Nat × Instr × Nat) := [(0, .aload_n 0, 1), (1, .invokespecial 1, 3), (4, .aload_n 1, 1), (5, .invokeinterface 42 1, 5), (10, .astore_n 2, 1), (11, .aload_n 0, 1), (12, .aload_n 2, 1), (13, .arraylength, 1), (14, .dup_x1, 1), (15, .putfield 48, 3), (18, .ifCond .eq 39, 3), (21, .aload_n 1, 1), (22, .invokeinterface 52 1, 5), (27, .ldc 10, 2), (29, .if_acmp .ne 11, 3), (40, .aload_n 0, 1), (41, .aload_n 2, 1), (42, .aload_n 0, 1), (43, .getfield 48, 3), (46, .ldc 56, 2), (48, .invokestatic 57, 3), (51, .putfield 9, 3), (54, .goto 10, 3), (64, .return_, 1)]
theorem oeS : oeR.all (fun p => decide (decode jdk_38_method_3_code p.1 = .ok p.2)) = true := by decide +kernel
theorem oeT (m : MethodId) (x0 : Addr) (x1 : Addr) : entryFrame m #[(.ref x0), (.ref x1)] 3 = mkF m 0 #[.val (.ref x0), .val (.ref x1), .unset] [] := by first | (simp [entryFrame, mkF, argsToLocals, Value.category]; done) | rfl
def oeU (Z : State) (a0 : Addr) (a1 : Addr) (ar : Nat) (kk : ov) (m1 : Nat) (m2 : Nat) (m3 : Nat) (m4 : Nat) (k : ClassId) (h0 : Heap) (n0 : Nat) (v : Option Value) (h : Heap) (L : List Loc) : Prop := v = none ∧ Fr n0 L ∧ Keep h0 h [a0] ∧ ∃ (ed : Nat) (k1 : ClassId), h0.size ≤ ed ∧ Exa Z h a0 "java/util/ArrayList" ∧ Fld Z h a0 "java/util/AbstractList" "modCount" "I" (.int (0 : Int32)) ∧ Fld Z h a0 "java/util/ArrayList" "size" "I" (.int (4 : Int32)) ∧ Fld Z h a0 "java/util/ArrayList" "elementData" "[Ljava/lang/Object;" (.ref ed) ∧ Arv Z h ed k1 (.object "java/lang/Object") (4 : Int32) [.ref m1, .ref m2, .ref m3, .ref m4] .null
def oeV : List (Nat × Instr × Nat) := [(0, .aload_n 0, 1), (1, .aload_n 1, 1), (2, .putfield 1, 3), (5, .aload_n 0, 1), (6, .invokespecial 7, 3), (9, .aload_n 0, 1), (10, .iconst (-1), 1), (11, .putfield 13, 3), (14, .aload_n 0, 1), (15, .aload_n 0, 1), (16, .getfield 1, 3), (19, .getfield 17, 3), (22, .putfield 22, 3), (25, .return_, 1)]
theorem oeW : oeV.all (fun p => decide (decode jdk_49_method_1_code p.1 = .ok p.2)) = true := by decide +kernel
theorem obO : plainName "java/util/ArrayList$Itr" = true := by first | (simp [plainName, overriddenIn]; done) | decide +kernel
theorem oeX (m : MethodId) (x0 : Addr) (x1 : Addr) : entryFrame m #[(.ref x0), (.ref x1)] 2 = mkF m 0 #[.val (.ref x0), .val (.ref x1)] [] := by first | (simp [entryFrame, mkF, argsToLocals, Value.category]; done) | rfl
def oeY (Z : State) (a0 : Addr) (a1 : Addr) (z : Int32) (h0 : Heap) (n0 : Nat) (v : Option Value) (h : Heap) (L : List Loc) : Prop := v = none ∧ Fr n0 L ∧ Keep h0 h [a0] ∧ Fld Z h a0 "java/util/ArrayList$Itr" "cursor" "I" (.int (0 : Int32)) ∧ Fld Z h a0 "java/util/ArrayList$Itr" "this$0" "Ljava/util/ArrayList;" (.ref a1)
theorem oeZ : parseMethodDescriptor "(Ljava/util/ArrayList;)V" = some ⟨[(.object "java/util/ArrayList")], none⟩ := by decide +kernel
def oe0 : List (Nat × Instr × Nat) := [(0, .new 267, 3), (3, .dup, 1), (4, .aload_n 0, 1), (5, .invokespecial 269, 3), (8, .areturn, 1)]
theorem oe1 : oe0.all (fun p => decide (decode jdk_38_method_55_code p.1 = .ok p.2)) = true := by decide +kernel
theorem oe2 (m : MethodId) (x0 : Addr) : entryFrame m #[(.ref x0)] 1 = mkF m 0 #[.val (.ref x0)] [] := by first | (simp [entryFrame, mkF, argsToLocals, Value.category]; done) | rfl
def oe3 (Z : State) (a0 : Addr) (z : Int32) (h0 : Heap) (n0 : Nat) (v : Option Value) (h : Heap) (L : List Loc) : Prop := ∃ r : Nat, v = some (.ref r) ∧ Fr n0 L ∧ Keep h0 h [] ∧ h0.size ≤ r ∧ Exa Z h r "java/util/ArrayList$Itr" ∧ Fld Z h r "java/util/ArrayList$Itr" "cursor" "I" (.int (0 : Int32)) ∧ Fld Z h r "java/util/ArrayList$Itr" "this$0" "Ljava/util/ArrayList;" (.ref a0)
def oe4 : List (Nat × Instr × Nat) := [(0, .aload_n 0, 1), (1, .getfield 25, 3), (4, .aload_n 0, 1), (5, .getfield 1, 3), (8, .getfield 28, 3), (11, .if_icmp .eq 7, 3), (18, .iconst 0, 1), (19, .ireturn, 1)]
theorem oe5 : oe4.all (fun p => decide (decode jdk_49_method_2_code p.1 = .ok p.2)) = true := by decide +kernel
theorem oe6 (m : MethodId) (x0 : Addr) : entryFrame m #[(.ref x0)] 1 = mkF m 0 #[.val (.ref x0)] [] := by first | (simp [entryFrame, mkF, argsToLocals, Value.category]; done) | rfl
def oe7 (Z : State) (a0 : Addr) (al : Nat) (h0 : Heap) (n0 : Nat) (v : Option Value) (h : Heap) (L : List Loc) : Prop := v = some (.int (0 : Int32)) ∧ Fr n0 L ∧ h = h0
def oe8 : List (Nat × Instr × Nat) := [(0, .aload_n 0, 1), (1, .invokespecial 87, 3), (4, .aload_n 0, 1), (5, .iconst 0, 1), (6, .putfield 1, 3), (9, .aload_n 0, 1), (10, .iconst 0, 1), (11, .putfield 64, 3), (14, .return_, 1)]
theorem oe9 : oe8.all (fun p => decide (decode jdk_94_method_16_code p.1 = .ok p.2)) = true := by decide +kernel
theorem oa3 : plainName "java/util/LinkedHashMap" = true := by first | (simp [plainName, overriddenIn]; done) | decide +kernel
theorem ofa (m : MethodId) (x0 : Addr) : entryFrame m #[(.ref x0)] 1 = mkF m 0 #[.val (.ref x0)] [] := by first | (simp [entryFrame, mkF, argsToLocals, Value.category]; done) | rfl
def ofb (Z : State) (a0 : Addr) (z : UInt32) (h0 : Heap) (n0 : Nat) (v : Option Value) (h : Heap) (L : List Loc) : Prop := v = none ∧ Fr n0 L ∧ Keep h0 h [a0] ∧ Fld Z h a0 "java/util/HashMap" "size" "I" (.int (0 : Int32)) ∧ Fld Z h a0 "java/util/LinkedHashMap" "head" "Ljava/util/LinkedHashMap$Entry;" .null ∧ Fld Z h a0 "java/util/AbstractMap" "values" "Ljava/util/Collection;" .null
def ofc : List (Nat × Instr × Nat) := [(0, .aload_n 0, 1), (1, .aload_n 1, 1), (2, .putfield 1, 3), (5, .aload_n 0, 1), (6, .invokespecial 7, 3), (9, .aload_n 0, 1), (10, .iload_n 2, 1), (11, .putfield 13, 3), (14, .return_, 1)]
theorem ofd : ofc.all (fun p => decide (decode jdk_114_method_1_code p.1 = .ok p.2)) = true := by decide +kernel
theorem obP : plainName "java/util/LinkedHashMap$LinkedValues" = true := by first | (simp [plainName, overriddenIn]; done) | decide +kernel
theorem ofe (m : MethodId) (x0 : Addr) (x1 : Addr) (x2 : Int32) : entryFrame m #[(.ref x0), (.ref x1), (.int x2)] 3 = mkF m 0 #[.val (.ref x0), .val (.ref x1), .val (.int x2)] [] := by first | (simp [entryFrame, mkF, argsToLocals, Value.category]; done) | rfl
def off (Z : State) (a0 : Addr) (a1 : Addr) (h0 : Heap) (n0 : Nat) (v : Option Value) (h : Heap) (L : List Loc) : Prop := v = none ∧ Fr n0 L ∧ Keep h0 h [a0] ∧ Fld Z h a0 "java/util/LinkedHashMap$LinkedValues" "this$0" "Ljava/util/LinkedHashMap;" (.ref a1) ∧ Fld Z h a0 "java/util/LinkedHashMap$LinkedValues" "reversed" "Z" (.int (0 : Int32))
theorem ofg : parseMethodDescriptor "(Ljava/util/LinkedHashMap;Z)V" = some ⟨[(.object "java/util/LinkedHashMap"), .boolean], none⟩ := by decide +kernel
def ofh : List (Nat × Instr × Nat) := [(0, .aload_n 0, 1), (1, .getfield 139, 3), (4, .astore_n 1, 1), (5, .aload_n 1, 1), (6, .ifnonnull 20, 3), (9, .new 143, 3), (12, .dup, 1), (13, .aload_n 0, 1), (14, .iconst 0, 1), (15, .invokespecial 145, 3), (18, .astore_n 2, 1), (19, .aload_n 0, 1), (20, .aload_n 2, 1), (21, .putfield 139, 3), (24, .aload_n 2, 1), (25, .areturn, 1)]
theorem ofi : ofh.all (fun p => decide (decode jdk_94_method_31_code p.1 = .ok p.2)) = true := by decide +kernel
theorem ofj (m : MethodId) (x0 : Addr) : entryFrame m #[(.ref x0)] 3 = mkF m 0 #[.val (.ref x0), .unset, .unset] [] := by first | (simp [entryFrame, mkF, argsToLocals, Value.category]; done) | rfl
def ofk (Z : State) (a0 : Addr) (h0 : Heap) (n0 : Nat) (v : Option Value) (h : Heap) (L : List Loc) : Prop := ∃ r : Nat, v = some (.ref r) ∧ Fr n0 L ∧ Keep h0 h [a0] ∧ h0.size ≤ r ∧ Exa Z h r "java/util/LinkedHashMap$LinkedValues" ∧ Fld Z h r "java/util/LinkedHashMap$LinkedValues" "this$0" "Ljava/util/LinkedHashMap;" (.ref a0) ∧ Fld Z h r "java/util/LinkedHashMap$LinkedValues" "reversed" "Z" (.int (0 : Int32)) ∧ Fld Z h a0 "java/util/HashMap" "size" "I" (.int (0 : Int32)) ∧ Fld Z h a0 "java/util/LinkedHashMap" "head" "Ljava/util/LinkedHashMap$Entry;" .null
theorem ofl : parseMethodDescriptor "()Ljava/util/SequencedCollection;" = some ⟨[], some (.object "java/util/SequencedCollection")⟩ := by decide +kernel
def ofm : List (Nat × Instr × Nat) := [(0, .aload_n 0, 1), (1, .invokevirtual 135, 3), (4, .areturn, 1)]
theorem ofn : ofm.all (fun p => decide (decode jdk_94_method_30_code p.1 = .ok p.2)) = true := by decide +kernel
theorem ofo (m : MethodId) (x0 : Addr) : entryFrame m #[(.ref x0)] 1 = mkF m 0 #[.val (.ref x0)] [] := by first | (simp [entryFrame, mkF, argsToLocals, Value.category]; done) | rfl
def ofp (Z : State) (a0 : Addr) (h0 : Heap) (n0 : Nat) (v : Option Value) (h : Heap) (L : List Loc) : Prop := ∃ r : Nat, v = some (.ref r) ∧ Fr n0 L ∧ Keep h0 h [a0] ∧ h0.size ≤ r ∧ Exa Z h r "java/util/LinkedHashMap$LinkedValues" ∧ Fld Z h r "java/util/LinkedHashMap$LinkedValues" "this$0" "Ljava/util/LinkedHashMap;" (.ref a0) ∧ Fld Z h r "java/util/LinkedHashMap$LinkedValues" "reversed" "Z" (.int (0 : Int32)) ∧ Fld Z h a0 "java/util/HashMap" "size" "I" (.int (0 : Int32)) ∧ Fld Z h a0 "java/util/LinkedHashMap" "head" "Ljava/util/LinkedHashMap$Entry;" .null
def ofq : List (Nat × Instr × Nat) := [(0, .aload_n 1, 1), (1, .astore_n 3, 1), (2, .iconst 0, 1), (3, .istore 4, 2), (5, .iload_n 2, 1), (6, .ifCond .eq 39, 3), (45, .aload_n 0, 1), (46, .getfield 7, 3), (49, .astore 5, 2), (51, .aload 5, 2), (53, .ifnull 25, 3), (78, .aload_n 1, 1), (79, .areturn, 1)]
theorem ofr : ofq.all (fun p => decide (decode jdk_94_method_29_code p.1 = .ok p.2)) = true := by decide +kernel
theorem ofs (m : MethodId) (x0 : Addr) (x1 : Addr) (x2 : Int32) : entryFrame m #[(.ref x0), (.ref x1), (.int x2)] 6 = mkF m 0 #[.val (.ref x0), .val (.ref x1), .val (.int x2), .unset, .unset, .unset] [] := by first | (simp [entryFrame, mkF, argsToLocals, Value.category]; done) | rfl
def oft (Z : State) (a0 : Addr) (a1 : Addr) (h0 : Heap) (n0 : Nat) (v : Option Value) (h : Heap) (L : List Loc) : Prop := v = some (.ref a1) ∧ Fr n0 L ∧ h = h0
theorem ofu : parseMethodDescriptor "([Ljava/lang/Object;Z)[Ljava/lang/Object;" = some ⟨[(.array (.object "java/lang/Object")), .boolean], some (.array (.object "java/lang/Object"))⟩ := by decide +kernel
def ofv : List (Nat × Instr × Nat) := [(0, .aload_n 0, 1), (1, .getfield 1, 3), (4, .aload_n 0, 1), (5, .getfield 1, 3), (8, .getfield 17, 3), (11, .anewarray 43, 3), (14, .aload_n 0, 1), (15, .getfield 13, 3), (18, .invokevirtual 45, 3), (21, .areturn, 1)]
theorem ofw : ofv.all (fun p => decide (decode jdk_114_method_7_code p.1 = .ok p.2)) = true := by decide +kernel
theorem ofx (m : MethodId) (x0 : Addr) : entryFrame m #[(.ref x0)] 1 = mkF m 0 #[.val (.ref x0)] [] := by first | (simp [entryFrame, mkF, argsToLocals, Value.category]; done) | rfl
def ofy (Z : State) (a0 : Addr) (lm : Nat) (h0 : Heap) (n0 : Nat) (v : Option Value) (h : Heap) (L : List Loc) : Prop := ∃ r : Nat, v = some (.ref r) ∧ Fr n0 L ∧ Keep h0 h [] ∧ ∃ k1 : ClassId, h0.size ≤ r ∧ Arv Z h r k1 (.object "java/lang/Object") (0 : Int32) [] .null
theorem ofz : parseMethodDescriptor "(I)[Ljava/lang/Object;" = some ⟨[.int], some (.array (.object "java/lang/Object"))⟩ := by decide +kernel
def ofA : List (Nat × Instr × Nat) := [(0, .aload_n 1, 1), (1, .invokeinterface 42 1, 5), (6, .astore_n 2, 1), (7, .aload_n 0, 1), (8, .dup, 1), (9, .getfield 63, 3), (12, .iconst 1, 1), (13, .iadd, 1), (14, .putfield 63, 3), (17, .aload_n 2, 1), (18, .arraylength, 1), (19, .istore_n 3, 1), (20, .iload_n 3, 1), (21, .ifCond .ne 5, 3), (24, .iconst 0, 1), (25, .ireturn, 1)]
theorem ofB : ofA.all (fun p => decide (decode jdk_38_method_41_code p.1 = .ok p.2)) = true := by decide +kernel
theorem ofC (m : MethodId) (x0 : Addr) (x1 : Addr) : entryFrame m #[(.ref x0), (.ref x1)] 6 = mkF m 0 #[.val (.ref x0), .val (.ref x1), .unset, .unset, .unset, .unset] [] := by first | (simp [entryFrame, mkF, argsToLocals, Value.category]; done) | rfl
def ofD (Z : State) (a0 : Addr) (a1 : Addr) (z : Int32) (sz : Int32) (ed : Nat) (lm : Nat) (h0 : Heap) (n0 : Nat) (v : Option Value) (h : Heap) (L : List Loc) : Prop := v = some (.int (0 : Int32)) ∧ Fr n0 L ∧ Keep h0 h [a0] ∧ Fld Z h a0 "java/util/ArrayList" "size" "I" (.int sz) ∧ Fld Z h a0 "java/util/ArrayList" "elementData" "[Ljava/lang/Object;" (.ref ed)
theorem ofE : parseMethodDescriptor "(Ljava/lang/Object;Ljava/lang/Object;Ljava/lang/Object;Ljava/lang/Object;)Ljava/util/List;" = some ⟨[(.object "java/lang/Object"), (.object "java/lang/Object"), (.object "java/lang/Object"), (.object "java/lang/Object")], some (.object "java/util/List")⟩ := by decide +kernel
theorem obQ : parseMethodDescriptor "(Ljava/util/Collection;)V" = some ⟨[(.object "java/util/Collection")], none⟩ := by decide +kernel
theorem ofF : parseMethodDescriptor "()Ljava/util/Iterator;" = some ⟨[], some (.object "java/util/Iterator")⟩ := by decide +kernel
theorem obR : parseMethodDescriptor "()Z" = some ⟨[], some .boolean⟩ := by decide +kernel
theorem ofG : parseMethodDescriptor "()Ljava/util/Collection;" = some ⟨[], some (.object "java/util/Collection")⟩ := by decide +kernel
theorem ofH : parseMethodDescriptor "(Ljava/util/Collection;)Z" = some ⟨[(.object "java/util/Collection")], some .boolean⟩ := by decide +kernel
def ofI : List (Nat × Instr × Nat) := [(0, .aload_n 0, 1), (1, .invokespecial 1, 3), (4, .aload_n 0, 1), (5, .new 7, 3), (8, .dup, 1), (9, .invokespecial 9, 3), (12, .putfield 10, 3), (15, .aload_n 0, 1), (16, .sipush 8192, 3), (19, .newarray .char, 2), (21, .putfield 16, 3), (24, .aload_n 0, 1), (25, .sipush 1024, 3), (28, .newarray .int, 2), (30, .putfield 20, 3), (33, .aload_n 0, 1), (34, .new 24, 3), (37, .dup, 1), (38, .invokespecial 26, 3), (41, .putfield 27, 3), (44, .aload_n 0, 1), (45, .new 24, 3), (48, .dup, 1), (49, .invokespecial 26, 3), (52, .putfield 31, 3), (55, .aload_n 0, 1), (56, .new 24, 3), (59, .dup, 1), (60, .invokespecial 26, 3), (63, .putfield 34, 3), (66, .aload_n 0, 1), (67, .new 24, 3), (70, .dup, 1), (71, .invokespecial 26, 3), (74, .putfield 37, 3), (77, .aload_n 0, 1), (78, .new 24, 3), (81, .dup, 1), (82, .invokespecial 26, 3), (85, .putfield 40, 3), (88, .aload_n 0, 1), (89, .new 24, 3), (92, .dup, 1), (93, .invokespecial 26, 3), (96, .putfield 43, 3), (99, .aload_n 0, 1), (100, .new 46, 3), (103, .dup, 1), (104, .invokespecial 48, 3), (107, .putfield 49, 3), (110, .aload_n 0, 1), (111, .new 46, 3), (114, .dup, 1), (115, .invokespecial 48, 3), (118, .putfield 53, 3), (121, .aload_n 0, 1), (122, .new 46, 3), (125, .dup, 1), (126, .invokespecial 48, 3), (129, .putfield 56, 3), (132, .aload_n 0, 1), (133, .new 46, 3), (136, .dup, 1), (137, .invokespecial 48, 3), (140, .putfield 59, 3), (143, .aload_n 0, 1), (144, .new 62, 3), (147, .dup, 1), (148, .invokespecial 64, 3), (151, .putfield 65, 3), (154, .aload_n 0, 1), (155, .new 69, 3), (158, .dup, 1), (159, .aload_n 0, 1), (160, .getfield 49, 3), (163, .aload_n 0, 1), (164, .getfield 53, 3), (167, .aload_n 0, 1), (168, .getfield 56, 3), (171, .aload_n 0, 1), (172, .getfield 59, 3), (175, .invokestatic 71, 3), (178, .invokespecial 77, 3), (181, .putfield 80, 3), (184, .aload_n 1, 1), (185, .invokeinterface 84 1, 5), (190, .astore_n 2, 1), (191, .aload_n 2, 1), (192, .invokeinterface 90 1, 5), (197, .ifCond .eq 34, 3), (231, .aload_n 0, 1), (232, .getfield 80, 3), (235, .aload_n 0, 1), (236, .getfield 65, 3), (239, .invokeinterface 108 1, 5), (244, .invokeinterface 112 2, 5), (249, .pop, 1), (250, .return_, 1)]
theorem oac : ofI.all (fun p => decide (decode prog_32_method_1_code p.1 = .ok p.2)) = true := by decide +kernel
theorem oad : plainName "com/example/restate/restate/model/CensusColumns" = true := by first | (simp [plainName, overriddenIn]; done) | decide +kernel
theorem ofJ (m : MethodId) (x0 : Addr) (x1 : Addr) : entryFrame m #[(.ref x0), (.ref x1)] 4 = mkF m 0 #[.val (.ref x0), .val (.ref x1), .unset, .unset] [] := by first | (simp [entryFrame, mkF, argsToLocals, Value.category]; done) | rfl
def oae (Z : State) (a0 : Addr) (a1 : Addr) (kk : ov) (h0 : Heap) (n0 : Nat) (v : Option Value) (h : Heap) (L : List Loc) : Prop := v = none ∧ Fr n0 L ∧ Keep h0 h [a0] ∧ ∃ A : Nat → Nat, oao Z h a0 A 0 0 (oA Z h kk.de) (o3 Z h 0 0)
def ofK : List (Nat × Instr × Nat) := [(0, .aload_n 0, 1), (1, .getfield 48, 3), (4, .ireturn, 1)]
theorem ofL : ofK.all (fun p => decide (decode jdk_38_method_8_code p.1 = .ok p.2)) = true := by decide +kernel
theorem ofM (m : MethodId) (x0 : Addr) : entryFrame m #[(.ref x0)] 1 = mkF m 0 #[.val (.ref x0)] [] := by first | (simp [entryFrame, mkF, argsToLocals, Value.category]; done) | rfl
def ofN (Z : State) (a0 : Addr) (z : Int32) (h0 : Heap) (n0 : Nat) (v : Option Value) (h : Heap) (L : List Loc) : Prop := v = some (.int z) ∧ Fr n0 L ∧ h = h0
def ofO : List (Nat × Instr × Nat) := [(0, .iload_n 0, 1), (1, .ifCond .lt 8, 3), (4, .iload_n 0, 1), (5, .iload_n 1, 1), (6, .if_icmp .lt 10, 3), (16, .iload_n 0, 1), (17, .ireturn, 1)]
theorem ofP : ofO.all (fun p => decide (decode jdk_41_method_11_code p.1 = .ok p.2)) = true := by decide +kernel
theorem oaR : plainName "jdk/internal/util/Preconditions" = true := by first | (simp [plainName, overriddenIn]; done) | decide +kernel
theorem ofQ (m : MethodId) (x0 : Int32) (x1 : Int32) : entryFrame m #[(.int x0), (.int x1), .null] 3 = mkF m 0 #[.val (.int x0), .val (.int x1), .val .null] [] := by first | (simp [entryFrame, mkF, argsToLocals, Value.category]; done) | rfl
def ofR (Z : State) (p0 : Int32) (p1 : Int32) (h0 : Heap) (n0 : Nat) (v : Option Value) (h : Heap) (L : List Loc) : Prop := v = some (.int p0) ∧ Fr n0 L ∧ h = h0
theorem ofS : parseMethodDescriptor "(IILjava/util/function/BiFunction;)I" = some ⟨[.int, .int, (.object "java/util/function/BiFunction")], some .int⟩ := by decide +kernel
def ofT : List (Nat × Instr × Nat) := [(0, .iload_n 0, 1), (1, .iload_n 1, 1), (2, .aconst_null, 1), (3, .invokestatic 105, 3), (6, .ireturn, 1)]
theorem ofU : ofT.all (fun p => decide (decode jdk_31_method_17_code p.1 = .ok p.2)) = true := by decide +kernel
theorem ofW (m : MethodId) (x0 : Int32) (x1 : Int32) : entryFrame m #[(.int x0), (.int x1)] 2 = mkF m 0 #[.val (.int x0), .val (.int x1)] [] := by first | (simp [entryFrame, mkF, argsToLocals, Value.category]; done) | rfl
def ofX (Z : State) (p0 : Int32) (p1 : Int32) (h0 : Heap) (n0 : Nat) (v : Option Value) (h : Heap) (L : List Loc) : Prop := v = some (.int p0) ∧ Fr n0 L ∧ h = h0
def ofY : List (Nat × Instr × Nat) := [(0, .aload_n 0, 1), (1, .getfield 9, 3), (4, .iload_n 1, 1), (5, .aaload, 1), (6, .areturn, 1)]
theorem ofZ : ofY.all (fun p => decide (decode jdk_38_method_18_code p.1 = .ok p.2)) = true := by decide +kernel
theorem of0 (m : MethodId) (x0 : Addr) (x1 : Int32) : entryFrame m #[(.ref x0), (.int x1)] 2 = mkF m 0 #[.val (.ref x0), .val (.int x1)] [] := by first | (simp [entryFrame, mkF, argsToLocals, Value.category]; done) | rfl
def of1 (Z : State) (a0 : Addr) (p1 : Int32) (ed : Nat) (k : ClassId) (vs : List Value) (x : Nat) (h0 : Heap) (n0 : Nat) (v : Option Value) (h : Heap) (L : List Loc) : Prop := v = some (.ref x) ∧ Fr n0 L ∧ h = h0
theorem oaS : parseMethodDescriptor "(I)Ljava/lang/Object;" = some ⟨[.int], some (.object "java/lang/Object")⟩ := by decide +kernel
def of2 : List (Nat × Instr × Nat) := [(0, .iload_n 1, 1), (1, .aload_n 0, 1), (2, .getfield 48, 3), (5, .invokestatic 118, 3), (8, .pop, 1), (9, .aload_n 0, 1), (10, .iload_n 1, 1), (11, .invokevirtual 123, 3), (14, .areturn, 1)]
theorem of3 : of2.all (fun p => decide (decode jdk_38_method_20_code p.1 = .ok p.2)) = true := by decide +kernel
theorem of4 (m : MethodId) (x0 : Addr) (x1 : Int32) : entryFrame m #[(.ref x0), (.int x1)] 2 = mkF m 0 #[.val (.ref x0), .val (.int x1)] [] := by first | (simp [entryFrame, mkF, argsToLocals, Value.category]; done) | rfl
def of5 (Z : State) (a0 : Addr) (p1 : Int32) (ed : Nat) (k : ClassId) (vs : List Value) (x : Nat) (h0 : Heap) (n0 : Nat) (v : Option Value) (h : Heap) (L : List Loc) : Prop := v = some (.ref x) ∧ Fr n0 L ∧ h = h0
theorem oV : parseMethodDescriptor "()I" = some ⟨[], some .int⟩ := by decide +kernel
def of6 : List (Nat × Instr × Nat) := [(0, .aload_n 0, 1), (1, .getfield 10, 3), (4, .invokevirtual 23, 3), (7, .ireturn, 1)]
theorem of7 : of6.all (fun p => decide (decode prog_28_method_2_code p.1 = .ok p.2)) = true := by decide +kernel
theorem of8 (m : MethodId) (x0 : Addr) : entryFrame m #[(.ref x0)] 1 = mkF m 0 #[.val (.ref x0)] [] := by first | (simp [entryFrame, mkF, argsToLocals, Value.category]; done) | rfl
def of9 (Z : State) (a0 : Addr) (lc : Nat) (z : Int32) (h0 : Heap) (n0 : Nat) (v : Option Value) (h : Heap) (L : List Loc) : Prop := v = some (.int z) ∧ Fr n0 L ∧ h = h0
def oga : List (Nat × Instr × Nat) := [(0, .iconst 0, 1), (1, .istore_n 2, 1), (2, .iload_n 2, 1), (3, .aload_n 0, 1), (4, .getfield 80, 3), (7, .invokeinterface 164 1, 5), (12, .if_icmp .ge 49, 3), (15, .aload_n 0, 1), (16, .getfield 80, 3), (19, .iload_n 2, 1), (20, .invokeinterface 166 2, 5), (25, .checkcast 46, 3), (28, .astore_n 3, 1), (29, .aload_n 3, 1), (30, .invokevirtual 170, 3), (33, .iload_n 1, 1), (34, .if_icmp .eq 21, 3), (55, .iinc 2 1, 3), (58, .goto (-56), 3), (61, .return_, 1)]
theorem ogb : oga.all (fun p => decide (decode prog_32_method_4_code p.1 = .ok p.2)) = true := by decide +kernel
theorem ogc (m : MethodId) (x0 : Addr) (x1 : Int32) : entryFrame m #[(.ref x0), (.int x1)] 4 = mkF m 0 #[.val (.ref x0), .val (.int x1), .unset, .unset] [] := by first | (simp [entryFrame, mkF, argsToLocals, Value.category]; done) | rfl
def ogd (Z : State) (a0 : Addr) (n : Nat) (al : Nat) (el : Nat) (m1 : Nat) (m2 : Nat) (m3 : Nat) (m4 : Nat) (f1 : Nat) (f2 : Nat) (f3 : Nat) (f4 : Nat) (h0 : Heap) (n0 : Nat) (v : Option Value) (h : Heap) (L : List Loc) : Prop := v = none ∧ Fr n0 L ∧ h = h0
def oge : List (Nat × Instr × Nat) := [(0, .iload_n 1, 1), (1, .ifCond .ne 7, 3), (4, .iconst 0, 1), (5, .goto 11, 3), (8, .aload_n 0, 1), (9, .getfield 20, 3), (12, .iload_n 1, 1), (13, .iconst 1, 1), (14, .isub, 1), (15, .iaload, 1), (16, .ireturn, 1)]
theorem obS : oge.all (fun p => decide (decode prog_32_method_23_code p.1 = .ok p.2)) = true := by decide +kernel
theorem obT (m : MethodId) (x0 : Addr) (x1 : Int32) : entryFrame m #[(.ref x0), (.int x1)] 2 = mkF m 0 #[.val (.ref x0), .val (.int x1)] [] := by first | (simp [entryFrame, mkF, argsToLocals, Value.category]; done) | rfl
def ogf (Z : State) (a0 : Addr) (h0 : Heap) (n0 : Nat) (v : Option Value) (h : Heap) (L : List Loc) : Prop := v = some (.int (0 : Int32)) ∧ Fr n0 L ∧ h = h0
def ogg (Z : State) (a0 : Addr) (ie : Nat) (k : ClassId) (vs : List Value) (h0 : Heap) (n0 : Nat) (v : Option Value) (h : Heap) (L : List Loc) : Prop := v = some (.int (0 : Int32)) ∧ Fr n0 L ∧ h = h0
def ogh : List (Nat × Instr × Nat) := [(0, .getstatic 38, 3), (3, .ifCond .eq 10, 3), (6, .aload_n 0, 1), (7, .getfield 15, 3), (10, .goto 4, 3), (14, .ireturn, 1)]
theorem ogi : ogh.all (fun p => decide (decode jdk_42_method_152_code p.1 = .ok p.2)) = true := by decide +kernel
theorem oaG : plainName "java/lang/String" = true := by first | (simp [plainName, overriddenIn]; done) | decide +kernel
theorem ogj (m : MethodId) (x0 : Addr) : entryFrame m #[(.ref x0)] 1 = mkF m 0 #[.val (.ref x0)] [] := by first | (simp [entryFrame, mkF, argsToLocals, Value.category]; done) | rfl
def ogk (Z : State) (a0 : Addr) (sb : Nat) (k : ClassId) (kk : ov) (h0 : Heap) (n0 : Nat) (v : Option Value) (h : Heap) (L : List Loc) : Prop := v = some (.int (0 : Int32)) ∧ Fr n0 L ∧ h = h0
def ogl : List (Nat × Instr × Nat) := [(0, .getstatic 38, 3), (3, .ifCond .eq 14, 3), (6, .aload_n 0, 1), (7, .getfield 15, 3), (10, .ifCond .ne 7, 3), (13, .iconst 1, 1), (14, .goto 4, 3), (18, .ireturn, 1)]
theorem ogm : ogl.all (fun p => decide (decode jdk_42_method_154_code p.1 = .ok p.2)) = true := by decide +kernel
theorem ogn (m : MethodId) (x0 : Addr) : entryFrame m #[(.ref x0)] 1 = mkF m 0 #[.val (.ref x0)] [] := by first | (simp [entryFrame, mkF, argsToLocals, Value.category]; done) | rfl
def ogo (Z : State) (a0 : Addr) (sb : Nat) (k : ClassId) (kk : ov) (h0 : Heap) (n0 : Nat) (v : Option Value) (h : Heap) (L : List Loc) : Prop := v = some (.int (1 : Int32)) ∧ Fr n0 L ∧ h = h0
theorem ogp : parseMethodDescriptor "()B" = some ⟨[], some .byte⟩ := by decide +kernel
def ogq : List (Nat × Instr × Nat) := [(0, .aload_n 0, 1), (1, .getfield 9, 3), (4, .arraylength, 1), (5, .aload_n 0, 1), (6, .invokevirtual 335, 3), (9, .ishr, 1), (10, .ireturn, 1)]
theorem ogr : ogq.all (fun p => decide (decode jdk_42_method_54_code p.1 = .ok p.2)) = true := by decide +kernel
theorem ogs (m : MethodId) (x0 : Addr) : entryFrame m #[(.ref x0)] 1 = mkF m 0 #[.val (.ref x0)] [] := by first | (simp [entryFrame, mkF, argsToLocals, Value.category]; done) | rfl
def ogt (Z : State) (a0 : Addr) (sb : Nat) (k : ClassId) (kk : ov) (h0 : Heap) (n0 : Nat) (v : Option Value) (h : Heap) (L : List Loc) : Prop := v = some (.int (0 : Int32)) ∧ Fr n0 L ∧ h = h0
def ogu : List (Nat × Instr × Nat) := [(0, .iload_n 0, 1), (1, .iload_n 1, 1), (2, .iadd, 1), (3, .istore_n 2, 1), (4, .iload_n 0, 1), (5, .iload_n 2, 1), (6, .ixor, 1), (7, .iload_n 1, 1), (8, .iload_n 2, 1), (9, .ixor, 1), (10, .iand, 1), (11, .ifCond .ge 13, 3), (24, .iload_n 2, 1), (25, .ireturn, 1)]
theorem ogv : ogu.all (fun p => decide (decode jdk_29_method_24_code p.1 = .ok p.2)) = true := by decide +kernel
theorem ogw (m : MethodId) (x0 : Int32) (x1 : Int32) : entryFrame m #[(.int x1), (.int x1)] 3 = mkF m 0 #[.val (.int x1), .val (.int x1), .unset] [] := by first | (simp [entryFrame, mkF, argsToLocals, Value.category]; done) | rfl
def ogx (Z : State)  (h0 : Heap) (n0 : Nat) (v : Option Value) (h : Heap) (L : List Loc) : Prop := v = some (.int (0 : Int32)) ∧ Fr n0 L ∧ h = h0
def oaH (r : Int32) (h0 : Heap) (n0 : Nat) (v : Option Value) (h : Heap) (L : List Loc) : Prop := v = some (.int r) ∧ Fr n0 L ∧ h = h0
def ogy : List (Nat × Instr × Nat) := [(0, .iload_n 0, 1), (1, .ifCond .lt 13, 3), (4, .iload_n 0, 1), (5, .iload_n 1, 1), (6, .if_icmp .gt 8, 3), (9, .iload_n 1, 1), (10, .iload_n 2, 1), (11, .if_icmp .le 11, 3), (22, .iload_n 0, 1), (23, .ireturn, 1)]
theorem obU : ogy.all (fun p => decide (decode jdk_41_method_12_code p.1 = .ok p.2)) = true := by decide +kernel
theorem ogz (m : MethodId) (x0 : Int32) (x1 : Int32) (x2 : Int32) : entryFrame m #[(.int x0), (.int x1), (.int x2), .null] 4 = mkF m 0 #[.val (.int x0), .val (.int x1), .val (.int x2), .val .null] [] := by first | (simp [entryFrame, mkF, argsToLocals, Value.category]; done) | rfl
theorem ogA (m : MethodId) (x0 : Int32) (x1 : Int32) (x2 : Int32) (x3 : Addr) : entryFrame m #[(.int x0), (.int x1), (.int x2), (.ref x3)] 4 = mkF m 0 #[.val (.int x0), .val (.int x1), .val (.int x2), .val (.ref x3)] [] := by first | (simp [entryFrame, mkF, argsToLocals, Value.category]; done) | rfl
def ogB : List (Nat × Instr × Nat) := [(0, .iload_n 2, 1), (1, .iload_n 0, 1), (2, .ior, 1), (3, .iload_n 1, 1), (4, .ior, 1), (5, .ifCond .lt 10, 3), (8, .iload_n 1, 1), (9, .iload_n 2, 1), (10, .iload_n 0, 1), (11, .isub, 1), (12, .if_icmp .le 11, 3), (23, .iload_n 0, 1), (24, .ireturn, 1)]
theorem obV : ogB.all (fun p => decide (decode jdk_41_method_13_code p.1 = .ok p.2)) = true := by decide +kernel
theorem ogC (m : MethodId) (x0 : Int32) (x1 : Int32) (x2 : Int32) : entryFrame m #[(.int x0), (.int x1), (.int x2), .null] 4 = mkF m 0 #[.val (.int x0), .val (.int x1), .val (.int x2), .val .null] [] := by first | (simp [entryFrame, mkF, argsToLocals, Value.category]; done) | rfl
theorem ogD (m : MethodId) (x0 : Int32) (x1 : Int32) (x2 : Int32) (x3 : Addr) : entryFrame m #[(.int x0), (.int x1), (.int x2), (.ref x3)] 4 = mkF m 0 #[.val (.int x0), .val (.int x1), .val (.int x2), .val (.ref x3)] [] := by first | (simp [entryFrame, mkF, argsToLocals, Value.category]; done) | rfl
theorem obW : parseMethodDescriptor "(IIILjava/util/function/BiFunction;)I" = some ⟨[.int, .int, .int, (.object "java/util/function/BiFunction")], some .int⟩ := by decide +kernel
def ogE : List (Nat × Instr × Nat) := [(0, .iload_n 0, 1), (1, .iload_n 1, 1), (2, .iload_n 2, 1), (3, .getstatic 1053, 3), (6, .invokestatic 1062, 3), (9, .pop, 1), (10, .return_, 1)]
theorem ogF : ogE.all (fun p => decide (decode jdk_42_method_158_code p.1 = .ok p.2)) = true := by decide +kernel
theorem ogG (m : MethodId) (x0 : Int32) (x1 : Int32) (x2 : Int32) : entryFrame m #[(.int x2), (.int x2), (.int x2)] 3 = mkF m 0 #[.val (.int x2), .val (.int x2), .val (.int x2)] [] := by first | (simp [entryFrame, mkF, argsToLocals, Value.category]; done) | rfl
def ogH (Z : State) (kk : ov) (h0 : Heap) (n0 : Nat) (v : Option Value) (h : Heap) (L : List Loc) : Prop := v = none ∧ Fr n0 L ∧ h = h0
def ogI : List (Nat × Instr × Nat) := [(0, .iload_n 0, 1), (1, .iload_n 1, 1), (2, .iload_n 2, 1), (3, .getstatic 1053, 3), (6, .invokestatic 1065, 3), (9, .ireturn, 1)]
theorem ogJ : ogI.all (fun p => decide (decode jdk_42_method_157_code p.1 = .ok p.2)) = true := by decide +kernel
theorem ogK (m : MethodId) (x0 : Int32) (x1 : Int32) (x2 : Int32) : entryFrame m #[(.int x1), (.int x1), (.int x2)] 3 = mkF m 0 #[.val (.int x1), .val (.int x1), .val (.int x2)] [] := by first | (simp [entryFrame, mkF, argsToLocals, Value.category]; done) | rfl
def ogL (Z : State) (kk : ov) (h0 : Heap) (n0 : Nat) (v : Option Value) (h : Heap) (L : List Loc) : Prop := v = some (.int (0 : Int32)) ∧ Fr n0 L ∧ h = h0
def ogM : List (Nat × Instr × Nat) := [(0, .iconst 0, 1), (1, .istore 5, 2), (3, .iload 5, 2), (5, .iload 4, 2), (7, .if_icmp .ge 26, 3), (33, .return_, 1)]
theorem ogN : ogM.all (fun p => decide (decode jdk_43_method_49_code p.1 = .ok p.2)) = true := by decide +kernel
theorem obX : plainName "java/lang/StringLatin1" = true := by first | (simp [plainName, overriddenIn]; done) | decide +kernel
theorem ogO (m : MethodId) (x0 : Addr) (x1 : Int32) (x2 : Addr) (x3 : Int32) (x4 : Int32) : entryFrame m #[(.ref x0), (.int x4), (.ref x2), (.int x4), (.int x4)] 6 = mkF m 0 #[.val (.ref x0), .val (.int x4), .val (.ref x2), .val (.int x4), .val (.int x4), .unset] [] := by first | (simp [entryFrame, mkF, argsToLocals, Value.category]; done) | rfl
def ogP (Z : State) (a0 : Addr) (a2 : Addr) (h0 : Heap) (n0 : Nat) (v : Option Value) (h : Heap) (L : List Loc) : Prop := v = none ∧ Fr n0 L ∧ h = h0
theorem ogQ : parseMethodDescriptor "([BI[CII)V" = some ⟨[(.array .byte), .int, (.array .char), .int, .int], none⟩ := by decide +kernel
def ogR : List (Nat × Instr × Nat) := [(0, .aload_n 0, 1), (1, .iload_n 1, 1), (2, .aload_n 3, 1), (3, .iload 4, 2), (5, .iload_n 2, 1), (6, .iload_n 1, 1), (7, .isub, 1), (8, .invokestatic 13, 3), (11, .return_, 1)]
theorem ogS : ogR.all (fun p => decide (decode jdk_43_method_11_code p.1 = .ok p.2)) = true := by decide +kernel
theorem ogT (m : MethodId) (x0 : Addr) (x1 : Int32) (x2 : Int32) (x3 : Addr) (x4 : Int32) : entryFrame m #[(.ref x0), (.int x4), (.int x4), (.ref x3), (.int x4)] 5 = mkF m 0 #[.val (.ref x0), .val (.int x4), .val (.int x4), .val (.ref x3), .val (.int x4)] [] := by first | (simp [entryFrame, mkF, argsToLocals, Value.category]; done) | rfl
def ogU (Z : State) (a0 : Addr) (a3 : Addr) (h0 : Heap) (n0 : Nat) (v : Option Value) (h : Heap) (L : List Loc) : Prop := v = none ∧ Fr n0 L ∧ h = h0
theorem ogV : parseMethodDescriptor "(III)I" = some ⟨[.int, .int, .int], some .int⟩ := by decide +kernel
theorem ogW : parseMethodDescriptor "([BII[CI)V" = some ⟨[(.array .byte), .int, .int, (.array .char), .int], none⟩ := by decide +kernel
def ogX : List (Nat × Instr × Nat) := [(0, .iload_n 1, 1), (1, .iload_n 2, 1), (2, .aload_n 0, 1), (3, .invokevirtual 505, 3), (6, .invokestatic 521, 3), (9, .iload 4, 2), (11, .iload_n 2, 1), (12, .iload_n 1, 1), (13, .isub, 1), (14, .aload_n 3, 1), (15, .arraylength, 1), (16, .invokestatic 34, 3), (19, .pop, 1), (20, .aload_n 0, 1), (21, .invokevirtual 492, 3), (24, .ifCond .eq 18, 3), (27, .aload_n 0, 1), (28, .getfield 9, 3), (31, .iload_n 1, 1), (32, .iload_n 2, 1), (33, .aload_n 3, 1), (34, .iload 4, 2), (36, .invokestatic 525, 3), (39, .goto 15, 3), (54, .return_, 1)]
theorem ogY : ogX.all (fun p => decide (decode jdk_42_method_61_code p.1 = .ok p.2)) = true := by decide +kernel
theorem ogZ (m : MethodId) (x0 : Addr) (x1 : Int32) (x2 : Int32) (x3 : Addr) (x4 : Int32) : entryFrame m #[(.ref x0), (.int x4), (.int x4), (.ref x3), (.int x4)] 5 = mkF m 0 #[.val (.ref x0), .val (.int x4), .val (.int x4), .val (.ref x3), .val (.int x4)] [] := by first | (simp [entryFrame, mkF, argsToLocals, Value.category]; done) | rfl
def og0 (Z : State) (a0 : Addr) (a3 : Addr) (sb : Nat) (k : ClassId) (kk : ov) (ki : ClassId) (vi : List Value) (h0 : Heap) (n0 : Nat) (v : Option Value) (h : Heap) (L : List Loc) : Prop := v = none ∧ Fr n0 L ∧ h = h0
def og1 (Z : State) (a0 : Addr) (q1 : Int64) (n : Nat) (sh : Int64) (h0 : Heap) (n0 : Nat) (v : Option Value) (h : Heap) (L : List Loc) : Prop := v = none ∧ Fr n0 L ∧ Keep h0 h [a0] ∧ oak Z h a0 (n + 1) q1
def og2 : List (Nat × Instr × Nat) := [(0, .aload_n 0, 1), (1, .ifnonnull 7, 3), (4, .iconst 0, 1), (5, .goto 14, 3), (19, .ireturn, 1)]
theorem og3 : og2.all (fun p => decide (decode jdk_69_method_1_code p.1 = .ok p.2)) = true := by decide +kernel
theorem og4 (m : MethodId)  : entryFrame m #[.null] 2 = mkF m 0 #[.val .null, .unset] [] := by first | (simp [entryFrame, mkF, argsToLocals, Value.category]; done) | rfl
def og5 (Z : State)  (h0 : Heap) (n0 : Nat) (v : Option Value) (h : Heap) (L : List Loc) : Prop := v = some (.int (0 : Int32)) ∧ Fr n0 L ∧ h = h0
theorem obY : parseMethodDescriptor "(Ljava/lang/Object;)I" = some ⟨[(.object "java/lang/Object")], some .int⟩ := by decide +kernel
def og6 : List (Nat × Instr × Nat) := [(0, .aload_n 0, 1), (1, .getfield 105, 3), (4, .dup, 1), (5, .astore_n 2, 1), (6, .ifnull 142, 3), (9, .aload_n 2, 1), (10, .arraylength, 1), (11, .dup, 1), (12, .istore 5, 2), (14, .ifCond .le 134, 3), (17, .aload_n 2, 1), (18, .iload 5, 2), (20, .iconst 1, 1), (21, .isub, 1), (22, .aload_n 1, 1), (23, .invokestatic 149, 3), (26, .dup, 1), (27, .istore 6, 2), (29, .iand, 1), (30, .aaload, 1), (31, .dup, 1), (32, .astore_n 3, 1), (33, .ifnull 115, 3), (36, .aload_n 3, 1), (37, .getfield 168, 3), (40, .iload 6, 2), (42, .if_icmp .ne 29, 3), (45, .aload_n 3, 1), (46, .getfield 170, 3), (49, .dup, 1), (50, .astore 7, 2), (52, .aload_n 1, 1), (53, .if_acmp .eq 16, 3), (69, .aload_n 3, 1), (70, .areturn, 1), (148, .aconst_null, 1), (149, .areturn, 1)]
theorem obZ : og6.all (fun p => decide (decode jdk_69_method_13_code p.1 = .ok p.2)) = true := by decide +kernel
theorem ob0 (m : MethodId) (x0 : Addr) : entryFrame m #[(.ref x0), .null] 8 = mkF m 0 #[.val (.ref x0), .val .null, .unset, .unset, .unset, .unset, .unset, .unset] [] := by first | (simp [entryFrame, mkF, argsToLocals, Value.category]; done) | rfl
def og7 (Z : State) (a0 : Addr) (h0 : Heap) (n0 : Nat) (v : Option Value) (h : Heap) (L : List Loc) : Prop := v = some .null ∧ Fr n0 L ∧ h = h0
def og8 (Z : State) (a0 : Addr) (tb : Nat) (nd : Nat) (k : ClassId) (vs : List Value) (h0 : Heap) (n0 : Nat) (v : Option Value) (h : Heap) (L : List Loc) : Prop := v = some (.ref nd) ∧ Fr n0 L ∧ h = h0
theorem ob1 : parseMethodDescriptor "(Ljava/lang/Object;)Ljava/util/HashMap$Node;" = some ⟨[(.object "java/lang/Object")], some (.object "java/util/HashMap$Node")⟩ := by decide +kernel
def og9 : List (Nat × Instr × Nat) := [(0, .aload_n 0, 1), (1, .aload_n 1, 1), (2, .invokevirtual 158, 3), (5, .dup, 1), (6, .astore_n 2, 1), (7, .ifnonnull 7, 3), (10, .aconst_null, 1), (11, .goto 7, 3), (14, .aload_n 2, 1), (15, .getfield 162, 3), (18, .areturn, 1)]
theorem ob2 : og9.all (fun p => decide (decode jdk_69_method_12_code p.1 = .ok p.2)) = true := by decide +kernel
theorem ob3 (m : MethodId) (x0 : Addr) : entryFrame m #[(.ref x0), .null] 3 = mkF m 0 #[.val (.ref x0), .val .null, .unset] [] := by first | (simp [entryFrame, mkF, argsToLocals, Value.category]; done) | rfl
def oha (Z : State) (a0 : Addr) (h0 : Heap) (n0 : Nat) (v : Option Value) (h : Heap) (L : List Loc) : Prop := v = some .null ∧ Fr n0 L ∧ h = h0
def ohb (Z : State) (a0 : Addr) (tb : Nat) (nd : Nat) (k : ClassId) (vs : List Value) (i0 : Nat) (h0 : Heap) (n0 : Nat) (v : Option Value) (h : Heap) (L : List Loc) : Prop := v = some (.ref i0) ∧ Fr n0 L ∧ h = h0
def ohc : List (Nat × Instr × Nat) := [(0, .aload_n 0, 1), (1, .getfield 105, 3), (4, .astore_n 1, 1), (5, .aload_n 1, 1), (6, .ifnonnull 7, 3), (9, .iconst 0, 1), (10, .goto 5, 3), (15, .istore_n 2, 1), (16, .aload_n 0, 1), (17, .getfield 88, 3), (20, .istore_n 3, 1), (21, .iconst 0, 1), (22, .istore 5, 2), (24, .iload_n 2, 1), (25, .ifCond .le 42, 3), (67, .iload_n 3, 1), (68, .ifCond .le 9, 3), (77, .bipush 16, 2), (79, .istore 4, 2), (81, .bipush 12, 2), (83, .istore 5, 2), (85, .iload 5, 2), (87, .ifCond .ne 38, 3), (125, .aload_n 0, 1), (126, .iload 5, 2), (128, .putfield 88, 3), (131, .iload 4, 2), (133, .anewarray 163, 3), (136, .astore 6, 2), (138, .aload_n 0, 1), (139, .aload 6, 2), (141, .putfield 105, 3), (144, .aload_n 1, 1), (145, .ifnull 208, 3), (353, .aload 6, 2), (355, .areturn, 1)]
theorem ohd : ohc.all (fun p => decide (decode jdk_69_method_17_code p.1 = .ok p.2)) = true := by decide +kernel
theorem ohe (m : MethodId) (x0 : Addr) : entryFrame m #[(.ref x0)] 14 = mkF m 0 #[.val (.ref x0), .unset, .unset, .unset, .unset, .unset, .unset, .unset, .unset, .unset, .unset, .unset, .unset, .unset] [] := by first | (simp [entryFrame, mkF, argsToLocals, Value.category]; done) | rfl
def ohf (Z : State) (a0 : Addr) (h0 : Heap) (n0 : Nat) (v : Option Value) (h : Heap) (L : List Loc) : Prop := ∃ r : Nat, v = some (.ref r) ∧ Fr n0 L ∧ Keep h0 h [a0] ∧ ∃ k : ClassId, h0.size ≤ r ∧ Arv Z h r k (.object "java/util/HashMap$Node") (16 : Int32) (List.replicate 16 .null) .null ∧ Ovr Z k "java/util/HashMap$Node" ∧ Fld Z h a0 "java/util/HashMap" "table" "[Ljava/util/HashMap$Node;" (.ref r) ∧ Fld Z h a0 "java/util/HashMap" "threshold" "I" (.int (12 : Int32)) ∧ Fld Z h a0 "java/util/HashMap" "size" "I" (.int (0 : Int32)) ∧ Fld Z h a0 "java/util/HashMap" "modCount" "I" (.int (0 : Int32))
def ohg : List (Nat × Instr × Nat) := [(0, .aload_n 0, 1), (1, .invokespecial 1, 3), (4, .aload_n 0, 1), (5, .iload_n 1, 1), (6, .putfield 7, 3), (9, .aload_n 0, 1), (10, .aload_n 2, 1), (11, .putfield 13, 3), (14, .aload_n 0, 1), (15, .aload_n 3, 1), (16, .putfield 17, 3), (19, .aload_n 0, 1), (20, .aload 4, 2), (22, .putfield 20, 3), (25, .return_, 1)]
theorem ohh : ohg.all (fun p => decide (decode jdk_70_method_1_code p.1 = .ok p.2)) = true := by decide +kernel
theorem ohi : plainName "java/util/HashMap$Node" = true := by first | (simp [plainName, overriddenIn]; done) | decide +kernel
theorem ohj (m : MethodId) (x0 : Addr) (x1 : Int32) (x3 : Addr) : entryFrame m #[(.ref x0), (.int x1), .null, (.ref x3), .null] 5 = mkF m 0 #[.val (.ref x0), .val (.int x1), .val .null, .val (.ref x3), .val .null] [] := by first | (simp [entryFrame, mkF, argsToLocals, Value.category]; done) | rfl
def ohk (Z : State) (a0 : Addr) (a3 : Addr) (h0 : Heap) (n0 : Nat) (v : Option Value) (h : Heap) (L : List Loc) : Prop := v = none ∧ Fr n0 L ∧ Keep h0 h [a0] ∧ Fld Z h a0 "java/util/HashMap$Node" "hash" "I" (.int (0 : Int32)) ∧ Fld Z h a0 "java/util/HashMap$Node" "key" "Ljava/lang/Object;" .null ∧ Fld Z h a0 "java/util/HashMap$Node" "value" "Ljava/lang/Object;" (.ref a3)
theorem ohl : parseMethodDescriptor "(ILjava/lang/Object;Ljava/lang/Object;Ljava/util/HashMap$Node;)V" = some ⟨[.int, (.object "java/lang/Object"), (.object "java/lang/Object"), (.object "java/util/HashMap$Node")], none⟩ := by decide +kernel
def ohm : List (Nat × Instr × Nat) := [(0, .new 163, 3), (3, .dup, 1), (4, .iload_n 1, 1), (5, .aload_n 2, 1), (6, .aload_n 3, 1), (7, .aload 4, 2), (9, .invokespecial 375, 3), (12, .areturn, 1)]
theorem ohn : ohm.all (fun p => decide (decode jdk_69_method_46_code p.1 = .ok p.2)) = true := by decide +kernel
theorem oho (m : MethodId) (x0 : Addr) (x1 : Int32) (x3 : Addr) : entryFrame m #[(.ref x0), (.int x1), .null, (.ref x3), .null] 5 = mkF m 0 #[.val (.ref x0), .val (.int x1), .val .null, .val (.ref x3), .val .null] [] := by first | (simp [entryFrame, mkF, argsToLocals, Value.category]; done) | rfl
def ohp (Z : State) (a0 : Addr) (a3 : Addr) (h0 : Heap) (n0 : Nat) (v : Option Value) (h : Heap) (L : List Loc) : Prop := ∃ r : Nat, v = some (.ref r) ∧ Fr n0 L ∧ Keep h0 h [] ∧ h0.size ≤ r ∧ Exa Z h r "java/util/HashMap$Node" ∧ Fld Z h r "java/util/HashMap$Node" "hash" "I" (.int (0 : Int32)) ∧ Fld Z h r "java/util/HashMap$Node" "key" "Ljava/lang/Object;" .null ∧ Fld Z h r "java/util/HashMap$Node" "value" "Ljava/lang/Object;" (.ref a3)
def ohq : List (Nat × Instr × Nat) := [(0, .return_, 1)]
theorem ohr : ohq.all (fun p => decide (decode jdk_69_method_52_code p.1 = .ok p.2)) = true := by decide +kernel
theorem ohs (m : MethodId) (x0 : Addr) (x1 : Int32) : entryFrame m #[(.ref x0), (.int x1)] 2 = mkF m 0 #[.val (.ref x0), .val (.int x1)] [] := by first | (simp [entryFrame, mkF, argsToLocals, Value.category]; done) | rfl
def oht (Z : State) (a0 : Addr) (p1 : Int32) (h0 : Heap) (n0 : Nat) (v : Option Value) (h : Heap) (L : List Loc) : Prop := v = none ∧ Fr n0 L ∧ h = h0
theorem ohu : parseMethodDescriptor "()[Ljava/util/HashMap$Node;" = some ⟨[], some (.array (.object "java/util/HashMap$Node"))⟩ := by decide +kernel
theorem ohv : parseMethodDescriptor "(ILjava/lang/Object;Ljava/lang/Object;Ljava/util/HashMap$Node;)Ljava/util/HashMap$Node;" = some ⟨[.int, (.object "java/lang/Object"), (.object "java/lang/Object"), (.object "java/util/HashMap$Node")], some (.object "java/util/HashMap$Node")⟩ := by decide +kernel
theorem ohw : parseMethodDescriptor "(Z)V" = some ⟨[.boolean], none⟩ := by decide +kernel
def ohx : List (Nat × Instr × Nat) := [(0, .aload_n 0, 1), (1, .getfield 105, 3), (4, .dup, 1), (5, .astore 6, 2), (7, .ifnull 12, 3), (19, .aload_n 0, 1), (20, .invokevirtual 117, 3), (23, .dup, 1), (24, .astore 6, 2), (26, .arraylength, 1), (27, .istore 8, 2), (29, .aload 6, 2), (31, .iload 8, 2), (33, .iconst 1, 1), (34, .isub, 1), (35, .iload_n 1, 1), (36, .iand, 1), (37, .dup, 1), (38, .istore 9, 2), (40, .aaload, 1), (41, .dup, 1), (42, .astore 7, 2), (44, .ifnonnull 19, 3), (47, .aload 6, 2), (49, .iload 9, 2), (51, .aload_n 0, 1), (52, .iload_n 1, 1), (53, .aload_n 2, 1), (54, .aload_n 3, 1), (55, .aconst_null, 1), (56, .invokevirtual 186, 3), (59, .aastore, 1), (60, .goto 199, 3), (259, .aload_n 0, 1), (260, .dup, 1), (261, .getfield 202, 3), (264, .iconst 1, 1), (265, .iadd, 1), (266, .putfield 202, 3), (269, .aload_n 0, 1), (270, .dup, 1), (271, .getfield 156, 3), (274, .iconst 1, 1), (275, .iadd, 1), (276, .dup_x1, 1), (277, .putfield 156, 3), (280, .aload_n 0, 1), (281, .getfield 88, 3), (284, .if_icmp .le 8, 3), (292, .aload_n 0, 1), (293, .iload 5, 2), (295, .invokevirtual 205, 3), (298, .aconst_null, 1), (299, .areturn, 1)]
theorem ohy : ohx.all (fun p => decide (decode jdk_69_method_16_code p.1 = .ok p.2)) = true := by decide +kernel
theorem ohz (m : MethodId) (x0 : Addr) (x1 : Int32) (x3 : Addr) (x4 : Int32) (x5 : Int32) : entryFrame m #[(.ref x0), (.int x4), .null, (.ref x3), (.int x4), (.int x5)] 13 = mkF m 0 #[.val (.ref x0), .val (.int x4), .val .null, .val (.ref x3), .val (.int x4), .val (.int x5), .unset, .unset, .unset, .unset, .unset, .unset, .unset] [] := by first | (simp [entryFrame, mkF, argsToLocals, Value.category]; done) | rfl
def ohA (Z : State) (a0 : Addr) (a3 : Addr) (h0 : Heap) (n0 : Nat) (v : Option Value) (h : Heap) (L : List Loc) : Prop := v = some .null ∧ Fr n0 L ∧ Keep h0 h [a0] ∧ ∃ tb nd : Nat, h0.size ≤ tb ∧ h0.size ≤ nd ∧ oaC Z h a0 a3 tb nd
theorem ohB : parseMethodDescriptor "(ILjava/lang/Object;Ljava/lang/Object;ZZ)Ljava/lang/Object;" = some ⟨[.int, (.object "java/lang/Object"), (.object "java/lang/Object"), .boolean, .boolean], some (.object "java/lang/Object")⟩ := by decide +kernel
def ohC : List (Nat × Instr × Nat) := [(0, .aload_n 0, 1), (1, .aload_n 1, 1), (2, .invokestatic 149, 3), (5, .aload_n 1, 1), (6, .aload_n 2, 1), (7, .iconst 0, 1), (8, .iconst 1, 1), (9, .invokevirtual 152, 3), (12, .areturn, 1)]
theorem ohD : ohC.all (fun p => decide (decode jdk_69_method_15_code p.1 = .ok p.2)) = true := by decide +kernel
theorem ohE (m : MethodId) (x0 : Addr) (x2 : Addr) : entryFrame m #[(.ref x0), .null, (.ref x2)] 3 = mkF m 0 #[.val (.ref x0), .val .null, .val (.ref x2)] [] := by first | (simp [entryFrame, mkF, argsToLocals, Value.category]; done) | rfl
def ohF (Z : State) (a0 : Addr) (a2 : Addr) (h0 : Heap) (n0 : Nat) (v : Option Value) (h : Heap) (L : List Loc) : Prop := v = some .null ∧ Fr n0 L ∧ Keep h0 h [a0] ∧ ∃ tb nd : Nat, h0.size ≤ tb ∧ h0.size ≤ nd ∧ oaC Z h a0 a2 tb nd
def ohG : List (Nat × Instr × Nat) := [(0, .iload_n 0, 1), (1, .bipush (-128), 2), (3, .if_icmp .lt 20, 3), (6, .iload_n 0, 1), (7, .getstatic 191, 3), (10, .if_icmp .gt 13, 3), (13, .getstatic 195, 3), (16, .iload_n 0, 1), (17, .sipush 128, 3), (20, .iadd, 1), (21, .aaload, 1), (22, .areturn, 1)]
theorem ohH : ohG.all (fun p => decide (decode jdk_33_method_22_code p.1 = .ok p.2)) = true := by decide +kernel
theorem ob4 : plainName "java/lang/Integer" = true := by first | (simp [plainName, overriddenIn]; done) | decide +kernel
theorem ohI (m : MethodId) (x0 : Int32) : entryFrame m #[(.int x0)] 1 = mkF m 0 #[.val (.int x0)] [] := by first | (simp [entryFrame, mkF, argsToLocals, Value.category]; done) | rfl
def ohJ (Z : State) (kk : ov) (h0 : Heap) (n0 : Nat) (v : Option Value) (h : Heap) (L : List Loc) : Prop := v = some (.ref kk.i0) ∧ Fr n0 L ∧ h = h0
def ohK : List (Nat × Instr × Nat) := [(0, .aload_n 0, 1), (1, .getfield 205, 3), (4, .ireturn, 1)]
theorem ohL : ohK.all (fun p => decide (decode jdk_33_method_27_code p.1 = .ok p.2)) = true := by decide +kernel
theorem ohM (m : MethodId) (x0 : Addr) : entryFrame m #[(.ref x0)] 1 = mkF m 0 #[.val (.ref x0)] [] := by first | (simp [entryFrame, mkF, argsToLocals, Value.category]; done) | rfl
def ohN (Z : State) (a0 : Addr) (z : Int32) (h0 : Heap) (n0 : Nat) (v : Option Value) (h : Heap) (L : List Loc) : Prop := v = some (.int z) ∧ Fr n0 L ∧ h = h0
def ohO : List (Nat × Instr × Nat) := [(0, .aload_n 0, 1), (1, .getfield 9, 3), (4, .arraylength, 1), (5, .istore_n 2, 1), (6, .iload_n 2, 1), (7, .ifCond .gt 13, 3), (10, .aload_n 0, 1), (11, .getfield 9, 3), (14, .getstatic 39, 3), (17, .if_acmp .eq 28, 3), (45, .aload_n 0, 1), (46, .bipush 10, 2), (48, .iload_n 1, 1), (49, .invokestatic 79, 3), (52, .anewarray 7, 3), (55, .dup_x1, 1), (56, .putfield 9, 3), (59, .areturn, 1)]
theorem ohP : ohO.all (fun p => decide (decode jdk_38_method_6_code p.1 = .ok p.2)) = true := by decide +kernel
theorem ohQ (m : MethodId) (x0 : Addr) (x1 : Int32) : entryFrame m #[(.ref x0), (.int x1)] 4 = mkF m 0 #[.val (.ref x0), .val (.int x1), .unset, .unset] [] := by first | (simp [entryFrame, mkF, argsToLocals, Value.category]; done) | rfl
def ohR (Z : State) (a0 : Addr) (kk : ov) (z : Int32) (h0 : Heap) (n0 : Nat) (v : Option Value) (h : Heap) (L : List Loc) : Prop := ∃ r : Nat, v = some (.ref r) ∧ Fr n0 L ∧ Keep h0 h [a0] ∧ ∃ k : ClassId, h0.size ≤ r ∧ Arv Z h r k (.object "java/lang/Object") (10 : Int32) (List.replicate 10 .null) .null ∧ Fld Z h a0 "java/util/ArrayList" "size" "I" (.int (0 : Int32))
def ohS : List (Nat × Instr × Nat) := [(0, .aload_n 0, 1), (1, .aload_n 0, 1), (2, .getfield 48, 3), (5, .iconst 1, 1), (6, .iadd, 1), (7, .invokevirtual 69, 3), (10, .areturn, 1)]
theorem ohT : ohS.all (fun p => decide (decode jdk_38_method_7_code p.1 = .ok p.2)) = true := by decide +kernel
theorem ohU (m : MethodId) (x0 : Addr) : entryFrame m #[(.ref x0)] 1 = mkF m 0 #[.val (.ref x0)] [] := by first | (simp [entryFrame, mkF, argsToLocals, Value.category]; done) | rfl
def ohV (Z : State) (a0 : Addr) (kk : ov) (z : Int32) (h0 : Heap) (n0 : Nat) (v : Option Value) (h : Heap) (L : List Loc) : Prop := ∃ r : Nat, v = some (.ref r) ∧ Fr n0 L ∧ Keep h0 h [a0] ∧ ∃ k : ClassId, h0.size ≤ r ∧ Arv Z h r k (.object "java/lang/Object") (10 : Int32) (List.replicate 10 .null) .null ∧ Fld Z h a0 "java/util/ArrayList" "size" "I" (.int (0 : Int32))
def ohW : List (Nat × Instr × Nat) := [(0, .iload_n 3, 1), (1, .aload_n 2, 1), (2, .arraylength, 1), (3, .if_icmp .ne 8, 3), (6, .aload_n 0, 1), (7, .invokevirtual 129, 3), (10, .astore_n 2, 1), (11, .aload_n 2, 1), (12, .iload_n 3, 1), (13, .aload_n 1, 1), (14, .aastore, 1), (15, .aload_n 0, 1), (16, .iload_n 3, 1), (17, .iconst 1, 1), (18, .iadd, 1), (19, .putfield 48, 3), (22, .return_, 1)]
theorem ohX : ohW.all (fun p => decide (decode jdk_38_method_24_code p.1 = .ok p.2)) = true := by decide +kernel
theorem ohY (m : MethodId) (x0 : Addr) (x2 : Addr) (x3 : Int32) : entryFrame m #[(.ref x0), .null, (.ref x2), (.int x3)] 4 = mkF m 0 #[.val (.ref x0), .val .null, .val (.ref x2), .val (.int x3)] [] := by first | (simp [entryFrame, mkF, argsToLocals, Value.category]; done) | rfl
def ohZ (Z : State) (a0 : Addr) (kk : ov) (z : Int32) (h0 : Heap) (n0 : Nat) (v : Option Value) (h : Heap) (L : List Loc) : Prop := v = none ∧ Fr n0 L ∧ Keep h0 h [a0]
theorem oh0 : parseMethodDescriptor "(Ljava/lang/Object;[Ljava/lang/Object;I)V" = some ⟨[(.object "java/lang/Object"), (.array (.object "java/lang/Object")), .int], none⟩ := by decide +kernel
def oh1 : List (Nat × Instr × Nat) := [(0, .aload_n 0, 1), (1, .dup, 1), (2, .getfield 63, 3), (5, .iconst 1, 1), (6, .iadd, 1), (7, .putfield 63, 3), (10, .aload_n 0, 1), (11, .aload_n 1, 1), (12, .aload_n 0, 1), (13, .getfield 9, 3), (16, .aload_n 0, 1), (17, .getfield 48, 3), (20, .invokevirtual 131, 3), (23, .iconst 1, 1), (24, .ireturn, 1)]
theorem oh2 : oh1.all (fun p => decide (decode jdk_38_method_25_code p.1 = .ok p.2)) = true := by decide +kernel
theorem oh3 (m : MethodId) (x0 : Addr) : entryFrame m #[(.ref x0), .null] 2 = mkF m 0 #[.val (.ref x0), .val .null] [] := by first | (simp [entryFrame, mkF, argsToLocals, Value.category]; done) | rfl
def oh4 (Z : State) (a0 : Addr) (kk : ov) (z : Int32) (h0 : Heap) (n0 : Nat) (v : Option Value) (h : Heap) (L : List Loc) : Prop := v = some (.int (1 : Int32)) ∧ Fr n0 L ∧ Keep h0 h [a0]
theorem oh5 : parseMethodDescriptor "(I)Ljava/lang/Integer;" = some ⟨[.int], some (.object "java/lang/Integer")⟩ := by decide +kernel
theorem oh6 : parseMethodDescriptor "(Ljava/lang/Object;)Z" = some ⟨[(.object "java/lang/Object")], some .boolean⟩ := by decide +kernel
theorem oh7 : parseMethodDescriptor "(Ljava/lang/Object;Ljava/lang/Object;)Ljava/lang/Object;" = some ⟨[(.object "java/lang/Object"), (.object "java/lang/Object")], some (.object "java/lang/Object")⟩ := by decide +kernel
def oh8 : List (Nat × Instr × Nat) := [(0, .aload_n 0, 1), (1, .getfield 19, 3), (4, .aload_n 1, 1), (5, .invokeinterface 30 2, 5), (10, .checkcast 36, 3), (13, .astore_n 2, 1), (14, .aload_n 2, 1), (15, .ifnonnull 39, 3), (18, .aload_n 0, 1), (19, .getfield 10, 3), (22, .invokeinterface 38 1, 5), (27, .invokestatic 44, 3), (30, .astore_n 2, 1), (31, .aload_n 0, 1), (32, .getfield 10, 3), (35, .aload_n 1, 1), (36, .invokeinterface 48 2, 5), (41, .pop, 1), (42, .aload_n 0, 1), (43, .getfield 19, 3), (46, .aload_n 1, 1), (47, .aload_n 2, 1), (48, .invokeinterface 52 3, 5), (53, .pop, 1), (54, .aload_n 0, 1), (55, .getfield 26, 3), (58, .aload_n 2, 1), (59, .invokevirtual 56, 3), (62, .i2l, 1), (63, .invokevirtual 59, 3), (66, .return_, 1)]
theorem ob5 : oh8.all (fun p => decide (decode prog_33_method_2_code p.1 = .ok p.2)) = true := by decide +kernel
theorem ob6 (m : MethodId) (x0 : Addr) : entryFrame m #[(.ref x0), .null] 3 = mkF m 0 #[.val (.ref x0), .val .null, .unset] [] := by first | (simp [entryFrame, mkF, argsToLocals, Value.category]; done) | rfl
def oh9 (Z : State) (a0 : Addr) (kk : ov) (ee : Nat) (B : Nat) (h0 : Heap) (n0 : Nat) (v : Option Value) (h : Heap) (L : List Loc) : Prop := v = none ∧ Fr n0 L ∧ oD h0 h a0 ee ∧ oZ Z h kk.i0 B 1 a0 ee
def oia (Z : State) (a0 : Addr) (kk : ov) (ee : Nat) (B : Nat) (n : Nat) (h0 : Heap) (n0 : Nat) (v : Option Value) (h : Heap) (L : List Loc) : Prop := v = none ∧ Fr n0 L ∧ oD h0 h a0 ee ∧ oZ Z h kk.i0 B (n + 1) a0 ee
def oib : List (Nat × Instr × Nat) := [(0, .aload_n 0, 1), (1, .getfield 65, 3), (4, .ifCond .eq 13, 3), (17, .return_, 1)]
theorem oic : oib.all (fun p => decide (decode prog_28_method_5_code p.1 = .ok p.2)) = true := by decide +kernel
theorem oid (m : MethodId) (x0 : Addr) : entryFrame m #[(.ref x0)] 1 = mkF m 0 #[.val (.ref x0)] [] := by first | (simp [entryFrame, mkF, argsToLocals, Value.category]; done) | rfl
def oie (Z : State) (a0 : Addr) (h0 : Heap) (n0 : Nat) (v : Option Value) (h : Heap) (L : List Loc) : Prop := v = none ∧ Fr n0 L ∧ h = h0
def oif : List (Nat × Instr × Nat) := [(0, .aload_n 0, 1), (1, .invokevirtual 27, 3), (4, .lload_n 1, 1), (5, .lconst 0, 1), (6, .lcmp, 1), (7, .ifCond .ge 17, 3), (24, .aload_n 0, 1), (25, .getfield 10, 3), (28, .lload_n 1, 1), (29, .invokevirtual 52, 3), (32, .return_, 1)]
theorem oig : oif.all (fun p => decide (decode prog_28_method_4_code p.1 = .ok p.2)) = true := by decide +kernel
theorem oih (m : MethodId) (x0 : Addr) (x1 : Int64) : entryFrame m #[(.ref x0), (.long x1)] 3 = mkF m 0 #[.val (.ref x0), .val (.long x1), .second] [] := by first | (simp [entryFrame, mkF, argsToLocals, Value.category]; done) | rfl
def oii (Z : State) (a0 : Addr) (ee : Nat) (h0 : Heap) (n0 : Nat) (v : Option Value) (h : Heap) (L : List Loc) : Prop := v = none ∧ Fr n0 L ∧ oD h0 h a0 ee ∧ oF Z h 1 a0 ee
theorem ob7 : parseMethodDescriptor "(II[CI)V" = some ⟨[.int, .int, (.array .char), .int], none⟩ := by decide +kernel
theorem o7 : parseMethodDescriptor "(Ljava/lang/Object;)V" = some ⟨[(.object "java/lang/Object")], none⟩ := by decide +kernel
def oij : List (Nat × Instr × Nat) := [(0, .aload_n 0, 1), (1, .aload_n 0, 1), (2, .getfield 116, 3), (5, .invokevirtual 120, 3), (8, .aload_n 0, 1), (9, .getfield 116, 3), (12, .istore 10, 2), (14, .iload 10, 2), (16, .aload_n 0, 1), (17, .getfield 20, 3), (20, .arraylength, 1), (21, .if_icmp .ne 19, 3), (40, .aload_n 0, 1), (41, .getfield 10, 3), (44, .lload_n 1, 1), (45, .iload 10, 2), (47, .i2l, 1), (48, .lsub, 1), (49, .invokevirtual 134, 3), (52, .aload_n 0, 1), (53, .iload 10, 2), (55, .invokevirtual 138, 3), (58, .istore 11, 2), (60, .iload 11, 2), (62, .aload_n 3, 1), (63, .invokevirtual 141, 3), (66, .invokestatic 145, 3), (69, .istore 12, 2), (71, .iload 12, 2), (73, .aload_n 0, 1), (74, .getfield 16, 3), (77, .arraylength, 1), (78, .if_icmp .le 27, 3), (105, .aload_n 3, 1), (106, .iconst 0, 1), (107, .aload_n 3, 1), (108, .invokevirtual 141, 3), (111, .aload_n 0, 1), (112, .getfield 16, 3), (115, .iload 11, 2), (117, .invokevirtual 157, 3), (120, .aload_n 0, 1), (121, .getfield 20, 3), (124, .iload 10, 2), (126, .iload 12, 2), (128, .iastore, 1), (129, .aload_n 0, 1), (130, .getfield 27, 3), (133, .aload 4, 2), (135, .invokevirtual 161, 3), (138, .aload_n 0, 1), (139, .getfield 31, 3), (142, .aload 5, 2), (144, .invokevirtual 161, 3), (147, .aload_n 0, 1), (148, .getfield 34, 3), (151, .aload 6, 2), (153, .invokevirtual 161, 3), (156, .aload_n 0, 1), (157, .getfield 37, 3), (160, .aload 7, 2), (162, .invokevirtual 161, 3), (165, .aload_n 0, 1), (166, .getfield 40, 3), (169, .aload 8, 2), (171, .invokevirtual 161, 3), (174, .aload_n 0, 1), (175, .getfield 43, 3), (178, .aload 9, 2), (180, .invokevirtual 161, 3), (183, .aload_n 0, 1), (184, .dup, 1), (185, .getfield 116, 3), (188, .iconst 1, 1), (189, .iadd, 1), (190, .putfield 116, 3), (193, .return_, 1)]
theorem ob8 : oij.all (fun p => decide (decode prog_32_method_3_code p.1 = .ok p.2)) = true := by decide +kernel
theorem ob9 (m : MethodId) (x0 : Addr) (x1 : Int64) (x2 : Addr) : entryFrame m #[(.ref x0), (.long x1), (.ref x2), .null, .null, .null, .null, .null, .null] 13 = mkF m 0 #[.val (.ref x0), .val (.long x1), .second, .val (.ref x2), .val .null, .val .null, .val .null, .val .null, .val .null, .val .null, .unset, .unset, .unset] [] := by first | (simp [entryFrame, mkF, argsToLocals, Value.category]; done) | rfl
def oik (Z : State) (a0 : Addr) (q1 : Int64) (a2 : Addr) (kk : ov) (A : Nat → Nat) (sb : Nat) (ks : ClassId) (h0 : Heap) (n0 : Nat) (v : Option Value) (h : Heap) (L : List Loc) : Prop := v = none ∧ Fr n0 L ∧ oD h0 h a0 (A 28) ∧ oao Z h a0 A 1 0 (oZ Z h kk.i0 (A 28) 1) (o3 Z h 1 (q1 - (0 : Int64)))
def oil (Z : State) (a0 : Addr) (q1 : Int64) (a2 : Addr) (kk : ov) (A : Nat → Nat) (sb : Nat) (ks : ClassId) (v0 : Int64) (h0 : Heap) (n0 : Nat) (v : Option Value) (h : Heap) (L : List Loc) : Prop := v = none ∧ Fr n0 L ∧ oD h0 h a0 (A 28) ∧ Exa Z h a0 "com/example/restate/restate/model/CensusColumns" ∧ Fld Z h a0 "com/example/restate/restate/model/CensusColumns" "lineOffsets" "Lcom/example/restate/restate/model/LongColumn;" (.ref (A 0)) ∧ oai Z h (A 28) ([v0] ++ [q1 - (1 : Int64)]) (A 0) (A 1)
def oim : List (Nat × Instr × Nat) := [(0, .aload_n 0, 1), (1, .getfield 49, 3), (4, .areturn, 1)]
theorem oin : oim.all (fun p => decide (decode prog_32_method_15_code p.1 = .ok p.2)) = true := by decide +kernel
theorem oio (m : MethodId) (x0 : Addr) : entryFrame m #[(.ref x0)] 1 = mkF m 0 #[.val (.ref x0)] [] := by first | (simp [entryFrame, mkF, argsToLocals, Value.category]; done) | rfl
def oip (Z : State) (a0 : Addr) (y : Nat) (h0 : Heap) (n0 : Nat) (v : Option Value) (h : Heap) (L : List Loc) : Prop := v = some (.ref y) ∧ Fr n0 L ∧ h = h0
def oiq : List (Nat × Instr × Nat) := [(0, .aload_n 0, 1), (1, .getfield 53, 3), (4, .areturn, 1)]
theorem oir : oiq.all (fun p => decide (decode prog_32_method_16_code p.1 = .ok p.2)) = true := by decide +kernel
theorem ois (m : MethodId) (x0 : Addr) : entryFrame m #[(.ref x0)] 1 = mkF m 0 #[.val (.ref x0)] [] := by first | (simp [entryFrame, mkF, argsToLocals, Value.category]; done) | rfl
def oit (Z : State) (a0 : Addr) (y : Nat) (h0 : Heap) (n0 : Nat) (v : Option Value) (h : Heap) (L : List Loc) : Prop := v = some (.ref y) ∧ Fr n0 L ∧ h = h0
def oiu : List (Nat × Instr × Nat) := [(0, .aload_n 0, 1), (1, .getfield 56, 3), (4, .areturn, 1)]
theorem oiv : oiu.all (fun p => decide (decode prog_32_method_17_code p.1 = .ok p.2)) = true := by decide +kernel
theorem oiw (m : MethodId) (x0 : Addr) : entryFrame m #[(.ref x0)] 1 = mkF m 0 #[.val (.ref x0)] [] := by first | (simp [entryFrame, mkF, argsToLocals, Value.category]; done) | rfl
def oix (Z : State) (a0 : Addr) (y : Nat) (h0 : Heap) (n0 : Nat) (v : Option Value) (h : Heap) (L : List Loc) : Prop := v = some (.ref y) ∧ Fr n0 L ∧ h = h0
def oiy : List (Nat × Instr × Nat) := [(0, .aload_n 0, 1), (1, .getfield 59, 3), (4, .areturn, 1)]
theorem oiz : oiy.all (fun p => decide (decode prog_32_method_18_code p.1 = .ok p.2)) = true := by decide +kernel
theorem oiA (m : MethodId) (x0 : Addr) : entryFrame m #[(.ref x0)] 1 = mkF m 0 #[.val (.ref x0)] [] := by first | (simp [entryFrame, mkF, argsToLocals, Value.category]; done) | rfl
def oiB (Z : State) (a0 : Addr) (y : Nat) (h0 : Heap) (n0 : Nat) (v : Option Value) (h : Heap) (L : List Loc) : Prop := v = some (.ref y) ∧ Fr n0 L ∧ h = h0
def oiC : List (Nat × Instr × Nat) := [(0, .aload_n 0, 1), (1, .getfield 10, 3), (4, .iload_n 1, 1), (5, .invokevirtual 249, 3), (8, .iload_n 1, 1), (9, .i2l, 1), (10, .ladd, 1), (11, .lreturn, 1)]
theorem oiD : oiC.all (fun p => decide (decode prog_32_method_7_code p.1 = .ok p.2)) = true := by decide +kernel
theorem oiE (m : MethodId) (x0 : Addr) (x1 : Int32) : entryFrame m #[(.ref x0), (.int x1)] 2 = mkF m 0 #[.val (.ref x0), .val (.int x1)] [] := by first | (simp [entryFrame, mkF, argsToLocals, Value.category]; done) | rfl
def oiF (Z : State) (a0 : Addr) (j : Nat) (lc : Nat) (xs : List Int64) (h0 : Heap) (n0 : Nat) (v : Option Value) (h : Heap) (L : List Loc) : Prop := v = some (.long ((xs.getD j 0) + ((Int32.ofNat j).toInt64))) ∧ Fr n0 L ∧ h = h0
theorem oca {Z : State} {aw : Array Value} (hw : ∀ (i : Nat) {d : Jvm.Cond}, tables_1[i]? = some d → d.before aw Z = true) : ∀ a ∈ Bundle.stringAtoms, a.before aw Z = true := by
  intro a ha
  simp only [Bundle.stringAtoms, List.mem_cons, List.not_mem_nil, or_false] at ha
  rcases ha with rfl | rfl | rfl | rfl | rfl | rfl | rfl
  · exact (hw 318 rfl)
  · exact (hw 319 rfl)
  · exact (hw 320 rfl)
  · exact (hw 321 rfl)
  · exact (hw 322 rfl)
  · exact (hw 323 rfl)
  · exact (hw 324 rfl)
theorem obl {Z : State} {aw : Array Value} (hw : ∀ (i : Nat) {d : Jvm.Cond}, tables_1[i]? = some d → d.before aw Z = true) : EW Z aw oan := EW.cons (hw 317 rfl) (fun c hc => nomatch hc) EW.nil
theorem ocb : parseMethodDescriptor "(JLjava/lang/String;Ljava/lang/String;Lcom/example/restate/restate/model/PensionEligibility;Lcom/example/restate/restate/model/YearEndStatus;Ljava/time/LocalDate;Ljava/time/LocalDate;Ljava/time/LocalDate;)V" = some ⟨[.long, (.object "java/lang/String"), (.object "java/lang/String"), (.object "com/example/restate/restate/model/PensionEligibility"), (.object "com/example/restate/restate/model/YearEndStatus"), (.object "java/time/LocalDate"), (.object "java/time/LocalDate"), (.object "java/time/LocalDate")], none⟩ := by decide +kernel
theorem oa4 : parseMethodDescriptor "()Lcom/example/restate/restate/model/AmountColumn;" = some ⟨[], some (.object "com/example/restate/restate/model/AmountColumn")⟩ := by decide +kernel
theorem oiG : plainName "com/example/restate/restate/model/CensusColumnsLinePinLaw" = true := by first | (simp [plainName, overriddenIn]; done) | decide +kernel
theorem oiH (m : MethodId) (x0 : Int64) (x1 : Int64) (x2 : Int32) : entryFrame m #[(.long x0), (.long x1), (.int x2)] maxLocals = mkF m 0 #[.val (.long x0), .second, .val (.long x1), .second, .val (.int x2), .unset, .unset, .unset] [] := by first | (simp [entryFrame, mkF, argsToLocals, Value.category, maxLocals]; done) | rfl
def obm (Z : State) (q0 : Int64) (q1 : Int64) (p2 : Int32) (kk : ov) (h0 : Heap) (n0 : Nat) (v : Option Value) (h : Heap) (L : List Loc) : Prop := v = some (.int 1) ∧ Fr n0 L
abbrev oo (Z : State) (aw : Array Value) : Prop := ∀ (i : Nat) {d : Jvm.Cond}, tables_1[i]? = some d → d.before aw Z = true
section Walks
set_option maxRecDepth 65536
set_option maxHeartbeats 40000000
variable (l : Launch) (Z : State) (aw : Array Value)
theorem oiI (hw : oo Z aw) (ws : List Jvm.Cond) (q0 : Int64) (q1 : Int64) (h0 : Heap) (n0 : Nat) (Z0 : n0 ≤ h0.size) :
    ot l Z (⟨"java/lang/Math", "min", "(JJ)J"⟩ : MethodName) jdk_29_method_70_code 4 (some .long) ws ({ frames := 0, cells := 0, slots := 0, locals := 0 } : Room) #[(.long q0), (.long q1)] h0 (ocZ Z q0 q1 h0 n0) := by
  refine ou (Jvm.Free.JP.mathPlain rfl (by decide +kernel)) (fun m => ocY m q0 q1) ?_
  intro p e s m below meth c ab Bd hml hx hby hlk hown hnm hZ X0 e0
  have hd := oq ocX hby
  have N0 := Fr.nil n0
  have K0 : Keep h0 h0 [] := Keep.refl _ _
  refine ol (fun _ k => XS.lloadN X0.here hx rfl (hd 0 rfl) rfl k) ?_
  refine ol (fun _ k => XS.lloadN X0.here hx rfl (hd 1 rfl) rfl k) ?_
  refine og (S' := [(.int (lcmpW q0 q1))])  (fun _ k => XS.lcmp X0.here hx rfl (hd 2 rfl) rfl k) ?_
  by_cases aa : q1 < q0
  · refine oC (S' := [])  (fun _ k => XS.ifYes X0.here hx rfl (pc0 := 3) (pc' := 10) rfl (hd 3 rfl) rfl ((if0 _ _).trans (tlt ((obq _ _).mpr aa)).2.2.1) (by decide) (by decide) k) ?_
    refine ol (fun _ k => XS.lloadN X0.here hx rfl (hd 6 rfl) rfl k) ?_
    exact oaw X0 hx hlk (by decide) (by decide) Bd.returns (hd 7 rfl) (by rw [e0]; exact ⟨by rw [show oat q0 q1 = q1 by simp [oat, aa]], N0, rfl⟩)
  · refine og (S' := [])  (fun _ k => XS.ifNo X0.here hx rfl (hd 3 rfl) rfl ((if0 _ _).trans (flt (fun q => aa ((obq _ _).mp q))).2.2.1) k) ?_
    refine ol (fun _ k => XS.lloadN X0.here hx rfl (hd 4 rfl) rfl k) ?_
    refine oJ (fun _ k => XS.goto X0.here hx rfl (pc0 := 7) (pc' := 11) rfl (hd 5 rfl) (by decide) (by decide) k) ?_
    exact oaw X0 hx hlk (by decide) (by decide) Bd.returns (hd 7 rfl) (by rw [e0]; exact ⟨by rw [show oat q0 q1 = q0 by simp [oat, aa]], N0, rfl⟩)
theorem obn (hw : oo Z aw) (ws : List Jvm.Cond) (p0 : Int32) (p1 : Int32) (h0 : Heap) (n0 : Nat) (Z0 : n0 ≤ h0.size) :
    ot l Z (⟨"java/lang/Math", "max", "(II)I"⟩ : MethodName) jdk_29_method_65_code 2 (some .int) ws ({ frames := 0, cells := 0, slots := 0, locals := 0 } : Room) #[(.int p0), (.int p1)] h0 (oc3 Z p0 p1 h0 n0) := by
  refine ou (Jvm.Free.JP.mathPlain rfl (by decide +kernel)) (fun m => oc2 m p0 p1) ?_
  intro p e s m below meth c ab Bd hml hx hby hlk hown hnm hZ X0 e0
  have hd := oq oc1 hby
  have N0 := Fr.nil n0
  have K0 : Keep h0 h0 [] := Keep.refl _ _
  refine oj X0 hx (hd 0 rfl) rfl ?_
  refine oj X0 hx (hd 1 rfl) rfl ?_
  by_cases aa : p0 < p1
  · refine oC (S' := [])  (fun _ k => XS.icmpYes X0.here hx rfl (pc0 := 2) (pc' := 9) rfl (hd 2 rfl) rfl (tlt aa).1 (by decide) (by decide) k) ?_
    refine oj X0 hx (hd 5 rfl) rfl ?_
    exact oQ X0 hx hlk (by decide) (by decide) Bd.returns (hd 6 rfl) (by rw [e0]; exact ⟨by rw [show oag p0 p1 = p1 by simp [oag, aa]], N0, rfl⟩)
  · refine og (S' := [])  (fun _ k => XS.icmpNo X0.here hx rfl (hd 2 rfl) rfl (flt aa).1 k) ?_
    refine oj X0 hx (hd 3 rfl) rfl ?_
    refine oJ (fun _ k => XS.goto X0.here hx rfl (pc0 := 6) (pc' := 10) rfl (hd 4 rfl) (by decide) (by decide) k) ?_
    exact oQ X0 hx hlk (by decide) (by decide) Bd.returns (hd 6 rfl) (by rw [e0]; exact ⟨by rw [show oag p0 p1 = p0 by simp [oag, aa]], N0, rfl⟩)
theorem occ (hw : oo Z aw) (ws : List Jvm.Cond) (p0 : Int32) (h0 : Heap) (n0 : Nat) (Z0 : n0 ≤ h0.size) :
    ot l Z (⟨"com/example/restate/restate/model/LongColumn", "doubled", "(I)I"⟩ : MethodName) prog_46_method_9_code 1 (some .int) ws ({ frames := 1, cells := 0, slots := 0, locals := 15 } : Room) #[(.int p0)] h0 (oc8 Z p0 h0 n0) := by
  refine ou (plainFor_of_name o9) (fun m => oc7 m p0) ?_
  intro p e s m below meth c aa Bd hml hx hby hlk hown hnm hZ X0 e0
  have hd := oq oc6 hby
  have N0 := Fr.nil n0
  have K0 : Keep h0 h0 [] := Keep.refl _ _
  refine ow (fun _ k => X0.ldc2Long hx hown (mvT hZ (hw 599 rfl)) rfl (hd 0 rfl) _ k) ?_
  show oe p.tables e below _ (aa.setTop (mkF m 3 #[.val (.int p0)] [(.long (2 : Int64))]))
  refine oj X0 hx (hd 1 rfl) rfl ?_
  refine og (S' := [(.long (p0.toInt64)), (.long (2 : Int64))])  (fun _ k => XS.i2l X0.here hx rfl (hd 2 rfl) rfl k) ?_
  refine og (S' := [(.long ((2 : Int64) * (p0.toInt64)))])  (fun _ k => XS.lmul X0.here hx rfl (hd 3 rfl) rfl k) ?_
  refine ow (fun _ k => X0.ldc2Long hx hown (mvT hZ (hw 600 rfl)) rfl (hd 4 rfl) _ k) ?_
  show oe p.tables e below _ (aa.setTop (mkF m 9 #[.val (.int p0)] [(.long (2147483639 : Int64)), (.long ((2 : Int64) * (p0.toInt64)))]))
  refine oL X0 hx hZ hown (hw 601 rfl) (hw 602 rfl) (hw 603 rfl) (hw 204 rfl) (by decide) (oiI l Z aw hw [] ((2 : Int64) * (p0.toInt64)) (2147483639 : Int64) h0 n0 Z0 ) e0 hml rfl rfl (rest := []) rfl (lenOf oc4 rfl) (hd 5 rfl) rfl fun T1 af v1 X1 ae => ?_
  obtain ⟨rfl, ab, e1⟩ := ae
  have ac := Fr.app N0 ab
  refine og (S' := [(.int ((oat ((2 : Int64) * (p0.toInt64)) (2147483639 : Int64)).toInt32))])  (fun _ k => XS.l2i X1.here hx rfl (hd 6 rfl) rfl k) ?_
  exact oQ X1 hx hlk (by decide) (by decide) Bd.returns (hd 7 rfl) (by rw [e1]; exact ⟨rfl, ac, rfl⟩)
theorem ocd (hw : oo Z aw) (ws : List Jvm.Cond) (q0 : Int64) (h0 : Heap) (n0 : Nat) (Z0 : n0 ≤ h0.size) :
    ot l Z (⟨"com/example/restate/restate/model/LongColumn", "fitsInt", "(J)Z"⟩ : MethodName) prog_46_method_4_code 2 (some .boolean) ws ({ frames := 0, cells := 0, slots := 0, locals := 0 } : Room) #[(.long q0)] h0 (odc Z q0 h0 n0) := by
  refine ou (plainFor_of_name o9) (fun m => odb m q0) ?_
  intro p e s m below meth c ab Bd hml hx hby hlk hown hnm hZ X0 e0
  have hd := oq oda hby
  have N0 := Fr.nil n0
  have K0 : Keep h0 h0 [] := Keep.refl _ _
  refine ol (fun _ k => XS.lloadN X0.here hx rfl (hd 0 rfl) rfl k) ?_
  refine og (S' := [(.int (q0.toInt32))])  (fun _ k => XS.l2i X0.here hx rfl (hd 1 rfl) rfl k) ?_
  refine og (S' := [(.long ((q0.toInt32).toInt64))])  (fun _ k => XS.i2l X0.here hx rfl (hd 2 rfl) rfl k) ?_
  refine ol (fun _ k => XS.lloadN X0.here hx rfl (hd 3 rfl) rfl k) ?_
  refine og (S' := [(.int (lcmpW ((q0.toInt32).toInt64) q0))])  (fun _ k => XS.lcmp X0.here hx rfl (hd 4 rfl) rfl k) ?_
  by_cases aa : ((q0.toInt32).toInt64) = q0
  · refine og (S' := [])  (fun _ k => XS.ifNo X0.here hx rfl (hd 5 rfl) rfl ((if0 _ _).trans (teq ((oaq _ _).mpr aa)).2) k) ?_
    refine ol (v := (.int (1 : Int32))) (fun _ k => XS.iconst X0.here hx rfl (hd 6 rfl) k) ?_
    refine oJ (fun _ k => XS.goto X0.here hx rfl (pc0 := 9) (pc' := 13) rfl (hd 7 rfl) (by decide) (by decide) k) ?_
    exact oap X0 hx hlk (by decide) (by decide) (t := .boolean) Bd.returns (by simp) (hd 9 rfl) (by rw [e0]; exact ⟨by rw [show oaj q0 = (1 : Int32) by simp [oaj, aa]]; rfl, N0, rfl⟩)
  · refine oC (S' := [])  (fun _ k => XS.ifYes X0.here hx rfl (pc0 := 5) (pc' := 12) rfl (hd 5 rfl) rfl ((if0 _ _).trans (feq (fun q => aa ((oaq _ _).mp q))).2) (by decide) (by decide) k) ?_
    refine ol (v := (.int (0 : Int32))) (fun _ k => XS.iconst X0.here hx rfl (hd 8 rfl) k) ?_
    exact oap X0 hx hlk (by decide) (by decide) (t := .boolean) Bd.returns (by simp) (hd 9 rfl) (by rw [e0]; exact ⟨by rw [show oaj q0 = (0 : Int32) by simp [oaj, aa]]; rfl, N0, rfl⟩)
theorem obo (hw : oo Z aw) (ws : List Jvm.Cond) (a0 : Addr) (h0 : Heap) (n0 : Nat) (Z0 : n0 ≤ h0.size) :
    ot l Z (⟨"com/example/restate/restate/model/LongColumn", "<init>", "()V"⟩ : MethodName) prog_46_method_1_code 1 none ws ({ frames := 1, cells := 0, slots := 0, locals := 12 } : Room) #[(.ref a0)] h0 (odg Z a0 h0 n0) := by
  refine ou (plainFor_of_name o9) (fun m => odf m a0) ?_
  intro p e s m below meth c aa Bd hml hx hby hlk hown hnm hZ X0 e0
  have hd := oq ode hby
  have N0 := Fr.nil n0
  have K0 : Keep h0 h0 [] := Keep.refl _ _
  refine oc X0 hx (hd 0 rfl) rfl rfl ?_
  refine oi (initO X0 hx hZ hown (hw 39 rfl) (hw 22 rfl) (hw 23 rfl) e0 rfl (by rw [hml]; rfl) rfl (hd 1 rfl) (by decide) (W := 0) (by show 2 * 0 + _ ≤ _; exact Nat.le_of_eq rfl) (by decide)) fun T1 X1 e1 => ?_
  exact oG X1 hx hlk (by decide) (by decide) Bd.returns (hd 2 rfl) (by rw [e1]; exact ⟨rfl, N0, rfl⟩)
theorem oiJ (hw : oo Z aw) (ws : List Jvm.Cond) (a0 : Addr) (z : Int32) (h0 : Heap) (n0 : Nat) (Z0 : n0 ≤ h0.size) (aa : Fld Z h0 a0 "com/example/restate/restate/model/LongColumn" "size" "I" (.int z)) :
    ot l Z (⟨"com/example/restate/restate/model/LongColumn", "size", "()I"⟩ : MethodName) prog_46_method_2_code 1 (some .int) ws ({ frames := 0, cells := 0, slots := 0, locals := 0 } : Room) #[(.ref a0)] h0 (odk Z a0 z h0 n0) := by
  refine ou (plainFor_of_name o9) (fun m => odj m a0) ?_
  intro p e s m below meth c ab Bd hml hx hby hlk hown hnm hZ X0 e0
  have hd := oq odi hby
  have N0 := Fr.nil n0
  have K0 : Keep h0 h0 [] := Keep.refl _ _
  refine oc X0 hx (hd 0 rfl) rfl rfl ?_
  refine oi (getF X0 hx hZ hown (host := "") (Or.inl (hw 375 rfl)) Via.refl e0 aa rfl rfl (hd 1 rfl)) fun T1 X1 e1 => ?_
  exact oQ X1 hx hlk (by decide) (by decide) Bd.returns (hd 2 rfl) (by rw [e1]; exact ⟨rfl, N0, rfl⟩)
theorem oiK (hw : oo Z aw) (ws : List Jvm.Cond) (p0 : Int32) (p1 : Int32) (p2 : Int32) (h0 : Heap) (n0 : Nat) (Z0 : n0 ≤ h0.size) (u1 : ¬ p2 < p1) (u2 : ¬ p1 < 0) (u3 : ¬ p0 < p2) :
    ot l Z (⟨"java/util/Arrays", "rangeCheck", "(III)V"⟩ : MethodName) jdk_65_method_30_code 3 none ws ({ frames := 0, cells := 0, slots := 0, locals := 0 } : Room) #[(.int p0), (.int p1), (.int p2)] h0 (odo Z p0 p1 p2 h0 n0) := by
  refine ou (plainFor_of_name oaZ) (fun m => odn m p0 p1 p2) ?_
  intro p e s m below meth c aa Bd hml hx hby hlk hown hnm hZ X0 e0
  have hd := oq odm hby
  have N0 := Fr.nil n0
  have K0 : Keep h0 h0 [] := Keep.refl _ _
  refine oj X0 hx (hd 0 rfl) rfl ?_
  refine oj X0 hx (hd 1 rfl) rfl ?_
  refine oC (S' := [])  (fun _ k => XS.icmpYes X0.here hx rfl (pc0 := 2) (pc' := 46) rfl (hd 2 rfl) rfl (flt u1).2.2.2 (by decide) (by decide) k) ?_
  refine oj X0 hx (hd 3 rfl) rfl ?_
  refine oC (S' := [])  (fun _ k => XS.ifYes X0.here hx rfl (pc0 := 47) (pc' := 59) rfl (hd 4 rfl) rfl ((if0 _ _).trans (flt u2).2.1) (by decide) (by decide) k) ?_
  refine oj X0 hx (hd 5 rfl) rfl ?_
  refine oj X0 hx (hd 6 rfl) rfl ?_
  refine oC (S' := [])  (fun _ k => XS.icmpYes X0.here hx rfl (pc0 := 61) (pc' := 73) rfl (hd 7 rfl) rfl (flt u3).2.2.2 (by decide) (by decide) k) ?_
  exact oG X0 hx hlk (by decide) (by decide) Bd.returns (hd 8 rfl) (by rw [e0]; exact ⟨rfl, N0, rfl⟩)
theorem oiL (hw : oo Z aw) (ws : List Jvm.Cond) (a0 : Addr) (p3 : Int32) (n : Nat) (k : ClassId) (vs : List Value) (h0 : Heap) (n0 : Nat) (Z0 : n0 ≤ h0.size) (ao : Arv Z h0 a0 k .int (16 : Int32) vs (.int (0 : Int32))) (hl : vs.length = 16) (hn : n < 16) (ap : n0 ≤ a0) :
    ot l Z (⟨"java/util/Arrays", "fill", "([IIII)V"⟩ : MethodName) jdk_65_method_104_code 5 none ws ({ frames := 1, cells := 0, slots := 0, locals := 14 } : Room) #[(.ref a0), (.int (0 : Int32)), (.int (Int32.ofNat n)), (.int p3)] h0 (obF Z a0 p3 n k vs h0 n0) := by
  refine ou (plainFor_of_name oaZ) (fun m => odr m a0 (0 : Int32) (Int32.ofNat n) p3) ?_
  intro p e s m below meth c av Bd hml hx hby hlk hown hnm hZ X0 e0
  have hd := oq odq hby
  have N0 := Fr.nil n0
  have K0 : Keep h0 h0 [a0] := Keep.refl _ _
  refine oc X0 hx (hd 0 rfl) rfl rfl ?_
  obtain ⟨aK, ax, q1, S1, aD, H1, G1⟩ := id ao
  refine ow (fun _ k => X0.arraylength hx (by rw [e0]; exact ax.1) (State.isArrayOf_alike hZ.alike ax.2.1) rfl rfl (hd 1 rfl) _ k) ?_
  rw [len_of S1 aD]
  show oe p.tables e below _ (av.setTop (mkF m 2 #[.val (.ref a0), .val (.int (0 : Int32)), .val (.int (Int32.ofNat n)), .val (.int p3), .unset] [(.int (16 : Int32))]))
  refine oj X0 hx (hd 2 rfl) rfl ?_
  refine oj X0 hx (hd 3 rfl) rfl ?_
  refine oL X0 hx hZ hown (hw 608 rfl) (hw 609 rfl) (hw 610 rfl) (hw 189 rfl) (by decide) (oiK l Z aw hw [] (16 : Int32) (0 : Int32) (Int32.ofNat n) h0 n0 Z0 (oas (by omega)) (by decide) (ocO (by omega))) e0 hml rfl rfl (rest := []) rfl (lenOf obE rfl) (hd 4 rfl) rfl fun T2 aJ v2 X2 aI => ?_
  obtain ⟨rfl, aA, e2⟩ := aI
  have aB := Fr.app N0 aA
  refine oj X2 hx (hd 5 rfl) rfl ?_
  refine oz (fun _ k => XS.istore X2.here hx rfl (hd 6 rfl) rfl (l' := #[.val (.ref a0), .val (.int (0 : Int32)), .val (.int (Int32.ofNat n)), .val (.int p3), .val (.int (0 : Int32))]) rfl k) ?_
  have au : ∀ (kk : Nat) (af : State) (ae : List Loc) (ac : Heap) (j : Nat) (ab : Stand p l e ({ frames := 1, cells := 0, slots := 0, locals := 14 } : Room) s m #[(.ref a0), (.int (0 : Int32)), (.int (Int32.ofNat n)), (.int p3)] below meth c af ae 0 0) (ai : af.heap = ac) (ah : Fr n0 ae) (ag : Keep h0 ac [a0]) (ak : n0 ≤ ac.size) (aa : Arv Z ac a0 k .int (16 : Int32) (oU (fun _ => Value.int p3) vs j) (.int (0 : Int32))) (hj : j + kk = n), oe p.tables e below (oT s (obF Z a0 p3 n k vs h0 n0) ({ frames := 1, cells := 0, slots := 0, locals := 14 } : Room).cells ({ frames := 1, cells := 0, slots := 0, locals := 14 } : Room).slots) (af.setTop (mkF m 10 #[.val (.ref a0), .val (.int (0 : Int32)), .val (.int (Int32.ofNat n)), .val (.int p3), .val (.int (Int32.ofNat j))] [])) := by
    intro kk
    induction kk with
    | zero =>
      intro af ae ac j ab ai ah ag ak aa hj
      refine oH ab hx (hd 7 rfl) rfl ?_
      refine oj ab hx (hd 8 rfl) rfl ?_
      refine oC (S' := [])  (fun _ k => XS.icmpYes ab.here hx rfl (pc0 := 13) (pc' := 27) rfl (hd 9 rfl) rfl (flt (fun q => by have := (oaz (by omega) (by omega)).mp q; omega)).2.1 (by decide) (by decide) k) ?_
      have aH : j = n := by omega
      have Vf : Arv Z ac a0 k .int (16 : Int32) (oU (fun _ => Value.int p3) vs n) (.int (0 : Int32)) := aH ▸ aa
      exact oG ab hx hlk (by decide) (by decide) Bd.returns (hd 16 rfl) (by rw [ai]; exact ⟨rfl, ah, ag, Vf⟩)
    | succ kk ih =>
      intro af ae ac j ab ai ah ag ak aa hj
      refine oH ab hx (hd 7 rfl) rfl ?_
      refine oj ab hx (hd 8 rfl) rfl ?_
      refine og (S' := [])  (fun _ k => XS.icmpNo ab.here hx rfl (hd 9 rfl) rfl (tlt ((oaz (by omega) (by omega)).mpr (by omega))).2.1 k) ?_
      refine oc ab hx (hd 10 rfl) rfl rfl ?_
      refine oH ab hx (hd 11 rfl) rfl ?_
      refine oj ab hx (hd 12 rfl) rfl ?_
      obtain ⟨aG, ay, q3, S3, aE, H3, G3⟩ := id aa
      have aq : ¬ ((Int32.ofNat j) < 0 ∨ aG.slots.size ≤ ((Int32.ofNat j)).toNatClampNeg) := inb_of S3 ⟨(oas (by omega)), (oaB (by omega))⟩
      refine ox (stI ab hx hZ ai ay (j := (Int32.ofNat j)) aq rfl rfl (hd 13 rfl)) fun T3 h3 X3 e3 W3 => ?_
      have az := ag.wr W3 (Or.inl (List.mem_of_getElem? (i := 0) rfl))
      have aF := Nat.le_trans ak (Keep.of_wr W3).1
      have aC := Fr.snoc X3 ah ap
      have aj : Arv Z h3 a0 k .int (16 : Int32) ((oU (fun _ => Value.int p3) vs j).set j (.int p3)) (.int (0 : Int32)) := Arv.set ay q3 S3 aE H3 G3 rfl W3 j (oaA (by omega)) (by rw [o5]; omega)
      refine oaf (fun _ k => XS.iinc X3.here hx rfl (hd 14 rfl) rfl (l' := #[.val (.ref a0), .val (.int (0 : Int32)), .val (.int (Int32.ofNat n)), .val (.int p3), .val (.int ((Int32.ofNat j) + (1 : Int32)))]) rfl k) ?_
      show oe p.tables e below _ (T3.setTop (mkF m 24 #[.val (.ref a0), .val (.int (0 : Int32)), .val (.int (Int32.ofNat n)), .val (.int p3), .val (.int ((Int32.ofNat j) + (1 : Int32)))] []))
      rw [show (Int32.ofNat j) + (1 : Int32) = Int32.ofNat (j + 1) from oaW j]
      refine oJ (fun _ k => XS.goto X3.here hx rfl (pc0 := 24) (pc' := 10) rfl (hd 15 rfl) (by decide) (by decide) k) ?_
      exact ih _ _ _ (j + 1) X3 e3 aC az aF aj (by omega)
  exact au n _ _ _ 0 X2 e2 aB K0 Z0 ao (by omega)
theorem oce (hw : oo Z aw) (ws : List Jvm.Cond) (a0 : Addr) (p1 : Int32) (sh : Int64) (r : Int64) (h0 : Heap) (n0 : Nat) (Z0 : n0 ≤ h0.size) (aa : Fld Z h0 a0 "com/example/restate/restate/model/LongColumn" "shared" "J" (.long sh)) (ab : Fld Z h0 a0 "com/example/restate/restate/model/LongColumn" "longs" "[J" .null) (ac : Fld Z h0 a0 "com/example/restate/restate/model/LongColumn" "ints" "[I" .null) (hr : sh = r) :
    ot l Z (⟨"com/example/restate/restate/model/LongColumn", "get", "(I)J"⟩ : MethodName) prog_46_method_7_code 4 (some .long) ws ({ frames := 0, cells := 0, slots := 0, locals := 0 } : Room) #[(.ref a0), (.int p1)] h0 (oaX r h0 n0) := by
  refine ou (plainFor_of_name o9) (fun m => obh m a0 p1) ?_
  intro p e s m below meth c ae Bd hml hx hby hlk hown hnm hZ X0 e0
  have hd := oq obg hby
  have N0 := Fr.nil n0
  have K0 : Keep h0 h0 [] := Keep.refl _ _
  refine oc X0 hx (hd 0 rfl) rfl rfl ?_
  refine oi (getF X0 hx hZ hown (host := "") (Or.inl (hw 386 rfl)) Via.refl e0 aa rfl rfl (hd 1 rfl)) fun T1 X1 e1 => ?_
  refine oz (fun _ k => XS.lstoreN X1.here hx rfl (hd 2 rfl) rfl (l' := #[.val (.ref a0), .val (.int p1), .val (.long sh), .second]) rfl k) ?_
  refine oc X1 hx (hd 3 rfl) rfl rfl ?_
  refine oi (getF X1 hx hZ hown (host := "") (Or.inl (hw 384 rfl)) Via.refl e1 ab rfl rfl (hd 4 rfl)) fun T2 X2 e2 => ?_
  refine oC (S' := [])  (fun _ k => XS.ifnullYes X2.here hx rfl (pc0 := 9) (pc' := 22) rfl (hd 5 rfl) rfl (by decide) (by decide) k) ?_
  refine oc X2 hx (hd 12 rfl) rfl rfl ?_
  refine oi (getF X2 hx hZ hown (host := "") (Or.inl (hw 382 rfl)) Via.refl e2 ac rfl rfl (hd 13 rfl)) fun T3 X3 e3 => ?_
  refine oC (S' := [])  (fun _ k => XS.ifnullYes X3.here hx rfl (pc0 := 26) (pc' := 37) rfl (hd 14 rfl) rfl (by decide) (by decide) k) ?_
  refine ol (fun _ k => XS.lloadN X3.here hx rfl (hd 21 rfl) rfl k) ?_
  exact oaw X3 hx hlk (by decide) (by decide) Bd.returns (hd 22 rfl) (by rw [e3]; exact ⟨by rw [hr], N0, rfl⟩)
theorem oiM (hw : oo Z aw) (ws : List Jvm.Cond) (a0 : Addr) (j : Nat) (sh : Int64) (b : Addr) (k : ClassId) (vs : List Value) (y : Int32) (r : Int64) (h0 : Heap) (n0 : Nat) (Z0 : n0 ≤ h0.size) (ab : Fld Z h0 a0 "com/example/restate/restate/model/LongColumn" "shared" "J" (.long sh)) (ac : Fld Z h0 a0 "com/example/restate/restate/model/LongColumn" "longs" "[J" .null) (aa : Fld Z h0 a0 "com/example/restate/restate/model/LongColumn" "ints" "[I" (.ref b)) (ai : Arv Z h0 b k .int (16 : Int32) vs (.int (0 : Int32))) (hj : j < 16) (aj : vs.getD j (.int (0 : Int32)) = .int y) (hr : y.toInt64 = r) :
    ot l Z (⟨"com/example/restate/restate/model/LongColumn", "get", "(I)J"⟩ : MethodName) prog_46_method_7_code 4 (some .long) ws ({ frames := 0, cells := 0, slots := 0, locals := 0 } : Room) #[(.ref a0), (.int (Int32.ofNat j))] h0 (oaX r h0 n0) := by
  refine ou (plainFor_of_name o9) (fun m => obh m a0 (Int32.ofNat j)) ?_
  intro p e s m below meth c ak Bd hml hx hby hlk hown hnm hZ X0 e0
  have hd := oq obg hby
  have N0 := Fr.nil n0
  have K0 : Keep h0 h0 [] := Keep.refl _ _
  refine oc X0 hx (hd 0 rfl) rfl rfl ?_
  refine oi (getF X0 hx hZ hown (host := "") (Or.inl (hw 386 rfl)) Via.refl e0 ab rfl rfl (hd 1 rfl)) fun T1 X1 e1 => ?_
  refine oz (fun _ k => XS.lstoreN X1.here hx rfl (hd 2 rfl) rfl (l' := #[.val (.ref a0), .val (.int (Int32.ofNat j)), .val (.long sh), .second]) rfl k) ?_
  refine oc X1 hx (hd 3 rfl) rfl rfl ?_
  refine oi (getF X1 hx hZ hown (host := "") (Or.inl (hw 384 rfl)) Via.refl e1 ac rfl rfl (hd 4 rfl)) fun T2 X2 e2 => ?_
  refine oC (S' := [])  (fun _ k => XS.ifnullYes X2.here hx rfl (pc0 := 9) (pc' := 22) rfl (hd 5 rfl) rfl (by decide) (by decide) k) ?_
  refine oc X2 hx (hd 12 rfl) rfl rfl ?_
  refine oi (getF X2 hx hZ hown (host := "") (Or.inl (hw 382 rfl)) Via.refl e2 aa rfl rfl (hd 13 rfl)) fun T3 X3 e3 => ?_
  refine og (S' := [])  (fun _ k => XS.ifnullNo X3.here hx rfl (hd 14 rfl) rfl k) ?_
  refine oc X3 hx (hd 15 rfl) rfl rfl ?_
  refine oi (getF X3 hx hZ hown (host := "") (Or.inl (hw 382 rfl)) Via.refl e3 aa rfl rfl (hd 16 rfl)) fun T4 X4 e4 => ?_
  refine oj X4 hx (hd 17 rfl) rfl ?_
  obtain ⟨ah, af, q5, S5, ao, H5, G5⟩ := id ai
  have ae : ¬ ((Int32.ofNat j) < 0 ∨ ah.slots.size ≤ ((Int32.ofNat j)).toNatClampNeg) := inb_of S5 ⟨(oas (by omega)), (oaB hj)⟩
  have ag : ah.slots[((Int32.ofNat j)).toNatClampNeg]? = some (.int y) := H5.at ae (by rw [oaA (by omega)]; exact aj)
  refine ow (fun _ k => X4.iaload hx (j := (Int32.ofNat j)) (v := (.int y)) (by rw [e4]; exact af.1) (State.isArrayOf_alike hZ.alike af.2.1) af.2.2 ae ag rfl rfl (hd 18 rfl) _ k) ?_
  show oe p.tables e below _ (T4.setTop (mkF m 35 #[.val (.ref a0), .val (.int (Int32.ofNat j)), .val (.long sh), .second] [(.int y)]))
  refine og (S' := [(.long (y.toInt64))])  (fun _ k => XS.i2l X4.here hx rfl (hd 19 rfl) rfl k) ?_
  refine oz (fun _ k => XS.lstoreN X4.here hx rfl (hd 20 rfl) rfl (l' := #[.val (.ref a0), .val (.int (Int32.ofNat j)), .val (.long (y.toInt64)), .second]) rfl k) ?_
  refine ol (fun _ k => XS.lloadN X4.here hx rfl (hd 21 rfl) rfl k) ?_
  exact oaw X4 hx hlk (by decide) (by decide) Bd.returns (hd 22 rfl) (by rw [e4]; exact ⟨by rw [hr], N0, rfl⟩)
theorem oiN (hw : oo Z aw) (ws : List Jvm.Cond) (a0 : Addr) (j : Nat) (sh : Int64) (b : Addr) (k : ClassId) (vs : List Value) (r : Int64) (h0 : Heap) (n0 : Nat) (Z0 : n0 ≤ h0.size) (ab : Fld Z h0 a0 "com/example/restate/restate/model/LongColumn" "shared" "J" (.long sh)) (aa : Fld Z h0 a0 "com/example/restate/restate/model/LongColumn" "longs" "[J" (.ref b)) (ah : Arv Z h0 b k .long (16 : Int32) vs (.long (0 : Int64))) (hj : j < 16) (ai : vs.getD j (.long (0 : Int64)) = .long r) :
    ot l Z (⟨"com/example/restate/restate/model/LongColumn", "get", "(I)J"⟩ : MethodName) prog_46_method_7_code 4 (some .long) ws ({ frames := 0, cells := 0, slots := 0, locals := 0 } : Room) #[(.ref a0), (.int (Int32.ofNat j))] h0 (oaX r h0 n0) := by
  refine ou (plainFor_of_name o9) (fun m => obh m a0 (Int32.ofNat j)) ?_
  intro p e s m below meth c aj Bd hml hx hby hlk hown hnm hZ X0 e0
  have hd := oq obg hby
  have N0 := Fr.nil n0
  have K0 : Keep h0 h0 [] := Keep.refl _ _
  refine oc X0 hx (hd 0 rfl) rfl rfl ?_
  refine oi (getF X0 hx hZ hown (host := "") (Or.inl (hw 386 rfl)) Via.refl e0 ab rfl rfl (hd 1 rfl)) fun T1 X1 e1 => ?_
  refine oz (fun _ k => XS.lstoreN X1.here hx rfl (hd 2 rfl) rfl (l' := #[.val (.ref a0), .val (.int (Int32.ofNat j)), .val (.long sh), .second]) rfl k) ?_
  refine oc X1 hx (hd 3 rfl) rfl rfl ?_
  refine oi (getF X1 hx hZ hown (host := "") (Or.inl (hw 384 rfl)) Via.refl e1 aa rfl rfl (hd 4 rfl)) fun T2 X2 e2 => ?_
  refine og (S' := [])  (fun _ k => XS.ifnullNo X2.here hx rfl (hd 5 rfl) rfl k) ?_
  refine oc X2 hx (hd 6 rfl) rfl rfl ?_
  refine oi (getF X2 hx hZ hown (host := "") (Or.inl (hw 384 rfl)) Via.refl e2 aa rfl rfl (hd 7 rfl)) fun T3 X3 e3 => ?_
  refine oj X3 hx (hd 8 rfl) rfl ?_
  obtain ⟨ag, ae, q4, S4, ak, H4, G4⟩ := id ah
  have ac : ¬ ((Int32.ofNat j) < 0 ∨ ag.slots.size ≤ ((Int32.ofNat j)).toNatClampNeg) := inb_of S4 ⟨(oas (by omega)), (oaB hj)⟩
  have af : ag.slots[((Int32.ofNat j)).toNatClampNeg]? = some (.long r) := H4.at ac (by rw [oaA (by omega)]; exact ai)
  refine ow (fun _ k => X3.laload hx (j := (Int32.ofNat j)) (v := (.long r)) (by rw [e3]; exact ae.1) (State.isArrayOf_alike hZ.alike ae.2.1) ae.2.2 ac af rfl rfl (hd 9 rfl) _ k) ?_
  show oe p.tables e below _ (T3.setTop (mkF m 18 #[.val (.ref a0), .val (.int (Int32.ofNat j)), .val (.long sh), .second] [(.long r)]))
  refine oz (fun _ k => XS.lstoreN X3.here hx rfl (hd 10 rfl) rfl (l' := #[.val (.ref a0), .val (.int (Int32.ofNat j)), .val (.long r), .second]) rfl k) ?_
  refine oJ (fun _ k => XS.goto X3.here hx rfl (pc0 := 19) (pc' := 37) rfl (hd 11 rfl) (by decide) (by decide) k) ?_
  refine ol (fun _ k => XS.lloadN X3.here hx rfl (hd 21 rfl) rfl k) ?_
  exact oaw X3 hx hlk (by decide) (by decide) Bd.returns (hd 22 rfl) (by rw [e3]; exact ⟨rfl, N0, rfl⟩)
theorem oiO (hw : oo Z aw) (ws : List Jvm.Cond) (a0 : Addr) (j : Nat) (xs : List Int64) (h0 : Heap) (n0 : Nat) (Z0 : n0 ≤ h0.size) (C : oX Z h0 a0 n0 xs) (hj : j < xs.length) (aa : j < 16) :
    MetFree l (⟨"com/example/restate/restate/model/LongColumn", "get", "(I)J"⟩ : MethodName) (head1 (Jvm.Cond.code (⟨"com/example/restate/restate/model/LongColumn", "get", "(I)J"⟩ : MethodName) prog_46_method_7_code 4 (some .long) :: ws) ({ frames := 0, cells := 0, slots := 0, locals := 0 } : Room)) (fun a U => a = #[(.ref a0), (.int (Int32.ofNat j))] ∧ Z.Warmed39 U.vm ∧ U.heap = h0) (fun _ _ _ _ _ => True) (fun _ U o U' => ∃ v L, o = .returned v ∧ oaX (xs.getD j 0) h0 n0 v U'.heap L ∧ FrameEnd U o U' L ({ frames := 0, cells := 0, slots := 0, locals := 0 } : Room).cells ({ frames := 0, cells := 0, slots := 0, locals := 0 } : Room).slots) := by
  obtain ⟨E, Fs, C⟩ := C
  rcases C with ⟨sh, F1, F2, F3, hx⟩ | ⟨sh, b, k, vs, F1, F2, F3, ne, ge, A, hl, hR⟩ | ⟨sh, b, k, vs, F1, F2, F3, ne, ge, A, hl, hR⟩
  · exact oce l Z aw hw ws a0 _ sh _ h0 n0 Z0 F1 F3 F2 (oaV hx j hj).symm
  · exact oiM l Z aw hw ws a0 j sh b k vs _ _ h0 n0 Z0 F1 F3 F2 A aa (hR j hj).1 (hR j hj).2
  · exact oiN l Z aw hw ws a0 j sh b k vs _ h0 n0 Z0 F1 F3 A aa (hR j hj)
theorem oiP (hw : oo Z aw) (ws : List Jvm.Cond) (a0 : Addr) (p1 : Int32) (n : Nat) (sh : Int64) (h0 : Heap) (n0 : Nat) (Z0 : n0 ≤ h0.size) (aN : Exa Z h0 a0 "com/example/restate/restate/model/LongColumn") (aB : Fld Z h0 a0 "com/example/restate/restate/model/LongColumn" "size" "I" (.int (Int32.ofNat n))) (aA : Fld Z h0 a0 "com/example/restate/restate/model/LongColumn" "shared" "J" (.long sh)) (az : Fld Z h0 a0 "com/example/restate/restate/model/LongColumn" "ints" "[I" .null) (aF : Fld Z h0 a0 "com/example/restate/restate/model/LongColumn" "longs" "[J" .null) (a6 : n0 ≤ a0) (hn : n < 8) :
    ot l Z (⟨"com/example/restate/restate/model/LongColumn", "addInt", "(I)V"⟩ : MethodName) prog_46_method_5_code 2 none ws ({ frames := 2, cells := 1, slots := 16, locals := 30 } : Room) #[(.ref a0), (.int p1)] h0 (ocN Z a0 p1 n sh h0 n0) := by
  refine ou (plainFor_of_name o9) (fun m => odw m a0 p1) ?_
  intro p e s m below meth c bx Bd hml hx hby hlk hown hnm hZ X0 e0
  have hd := oq odv hby
  have N0 := Fr.nil n0
  have K0 : Keep h0 h0 [a0] := Keep.refl _ _
  refine oc X0 hx (hd 0 rfl) rfl rfl ?_
  refine oi (getF X0 hx hZ hown (host := "") (Or.inl (hw 382 rfl)) Via.refl e0 az rfl rfl (hd 1 rfl)) fun T1 X1 e1 => ?_
  refine og (S' := [])  (fun _ k => XS.ifnonnullNo X1.here hx rfl (hd 2 rfl) rfl k) ?_
  refine oc X1 hx (hd 3 rfl) rfl rfl ?_
  refine ol (v := (.int (16 : Int32))) (fun _ k => XS.bipush X1.here hx rfl (hd 4 rfl) k) ?_
  refine oc X1 hx (hd 5 rfl) rfl rfl ?_
  refine oi (getF X1 hx hZ hown (host := "") (Or.inl (hw 375 rfl)) Via.refl e1 aB rfl rfl (hd 6 rfl)) fun T2 X2 e2 => ?_
  refine oL X2 hx hZ hown (hw 596 rfl) (hw 597 rfl) (hw 598 rfl) (hw 35 rfl) (by decide) (occ l Z aw hw [] (Int32.ofNat n) h0 n0 Z0 ) e2 hml rfl rfl (rest := [(.int (16 : Int32)), (.ref a0)]) rfl (lenOf oa0 rfl) (hd 7 rfl) rfl fun T3 bz v3 X3 bu => ?_
  obtain ⟨rfl, bj, e3⟩ := bu
  have bl := Fr.app N0 bj
  refine oL X3 hx hZ hown (hw 604 rfl) (hw 492 rfl) (hw 493 rfl) (hw 204 rfl) (by decide) (obn l Z aw hw [] (16 : Int32) (oau (Int32.ofNat n)) h0 n0 Z0 ) e3 hml rfl rfl (rest := [(.ref a0)]) rfl (lenOf oav rfl) (hd 8 rfl) rfl fun T4 bA v4 X4 bv => ?_
  obtain ⟨rfl, bk, e4⟩ := bv
  have bm := Fr.app bl bk
  show oe p.tables e below _ (T4.setTop (mkF m 20 #[.val (.ref a0), .val (.int p1)] [(.int (oag (16 : Int32) (oau (Int32.ofNat n)))), (.ref a0)]))
  rw [oby n (by omega)]
  obtain ⟨T5, h5, k5, X5, e5, E5, A5, bd⟩ := newP X4 hx hZ (hw 45 rfl) e4 (g := (mkF m 20 #[.val (.ref a0), .val (.int p1)] [(.int (16 : Int32)), (.ref a0)])) rfl (hd 9 rfl) rfl (by decide) (cap := 16) (by decide) (by decide) (by decide) (by decide)
  obtain ⟨b5, g5⟩ : ∃ z, z = h0.size := ⟨_, rfl⟩
  rw [← g5] at A5 bd
  refine ow bd ?_
  have aa : a0 ≠ b5 := Nat.ne_of_lt (os aN.lt g5)
  have aO := om Z0 g5
  have aD := om K0.1 g5
  have ay := aN.ext E5
  have aC := aB.ext E5
  have ap := aA.ext E5
  have af := az.ext E5
  have au := aF.ext E5
  have bg := K0.ext E5
  have bp := Nat.le_trans Z0 E5.1
  have aX : Arv Z h5 b5 k5 .int (16 : Int32) (List.replicate 16 (.int (0 : Int32))) (.int (0 : Int32)) := (Arv.new A5 (by decide)).pad (pad_rep [] (.int (0 : Int32)) 16)
  show oe p.tables e below _ (T5.setTop (mkF m 22 #[.val (.ref a0), .val (.int p1)] [(.ref b5), (.ref a0)]))
  refine ox (putF X5 hx hZ hown (host := "") (Or.inl (hw 382 rfl)) Via.refl e5 af ay (Or.inl (hw 383 rfl)) (hw 34 rfl) (ty := (.array .int)) (by decide) rfl rfl rfl rfl (hd 10 rfl)) fun T6 h6 X6 e6 W6 => ?_
  have aJ := ay.wr W6
  have aj := aC.other W6 (Or.inr (ob (Or.inl (hw 376 rfl)) (Or.inl (hw 383 rfl)) (by decide)))
  have ab := ap.other W6 (Or.inr (ob (Or.inl (hw 387 rfl)) (Or.inl (hw 383 rfl)) (by decide)))
  have ag := af.same W6
  have av := au.other W6 (Or.inr (ob (Or.inl (hw 385 rfl)) (Or.inl (hw 383 rfl)) (by decide)))
  have aK := aX.other W6 (Ne.symm aa)
  have bh := bg.wr W6 (Or.inl (List.mem_of_getElem? (i := 0) rfl))
  have bc := Nat.le_trans bp (Keep.of_wr W6).1
  have bn := Fr.snoc X6 bm a6
  refine oc X6 hx (hd 11 rfl) rfl rfl ?_
  refine oi (getF X6 hx hZ hown (host := "") (Or.inl (hw 382 rfl)) Via.refl e6 ag rfl rfl (hd 12 rfl)) fun T7 X7 e7 => ?_
  refine ol (v := (.int (0 : Int32))) (fun _ k => XS.iconst X7.here hx rfl (hd 13 rfl) k) ?_
  refine oc X7 hx (hd 14 rfl) rfl rfl ?_
  refine oi (getF X7 hx hZ hown (host := "") (Or.inl (hw 375 rfl)) Via.refl e7 aj rfl rfl (hd 15 rfl)) fun T8 X8 e8 => ?_
  refine oc X8 hx (hd 16 rfl) rfl rfl ?_
  refine oi (getF X8 hx hZ hown (host := "") (Or.inl (hw 386 rfl)) Via.refl e8 ab rfl rfl (hd 17 rfl)) fun T9 X9 e9 => ?_
  refine og (S' := [(.int (sh.toInt32)), (.int (Int32.ofNat n)), (.int (0 : Int32)), (.ref b5)])  (fun _ k => XS.l2i X9.here hx rfl (hd 18 rfl) rfl k) ?_
  refine oL X9 hx hZ hown (hw 605 rfl) (hw 606 rfl) (hw 607 rfl) (hw 189 rfl) (by decide) (oiL l Z aw hw [] b5 (sh.toInt32) n k5 (List.replicate 16 (.int (0 : Int32))) h6 n0 bc aK (by simp) (by omega) aO) e9 hml rfl rfl (rest := []) rfl (lenOf odt rfl) (hd 19 rfl) rfl fun bB bi bF aY a7 => ?_
  obtain ⟨rfl, aT, aL, aG⟩ := a7
  have aU := Fr.app bn aT
  have aE := aJ.keep aL
  have ae := aj.keep aL (ninS aa nin0)
  have ah := ab.keep aL (ninS aa nin0)
  have ac := ag.keep aL (ninS aa nin0)
  have ak := av.keep aL (ninS aa nin0)
  have aR := bh.trans aL (allS (Or.inr aD) all0)
  have aZ := Nat.le_trans bc aL.1
  refine oJ (fun _ k => XS.goto aY.here hx rfl (pc0 := 42) (pc' := 75) rfl (hd 20 rfl) (by decide) (by decide) k) ?_
  refine oc aY hx (hd 21 rfl) rfl rfl ?_
  refine oi (getF aY hx hZ hown (host := "") (Or.inl (hw 382 rfl)) Via.refl rfl ac rfl rfl (hd 22 rfl)) fun bC a9 bq => ?_
  refine oc a9 hx (hd 23 rfl) rfl rfl ?_
  refine oi (getF a9 hx hZ hown (host := "") (Or.inl (hw 375 rfl)) Via.refl bq ae rfl rfl (hd 24 rfl)) fun bD ba br => ?_
  refine oj ba hx (hd 25 rfl) rfl ?_
  obtain ⟨a5, aM, bw, a8, aW, bf, be⟩ := id aG
  have aP : ¬ ((Int32.ofNat n) < 0 ∨ a5.slots.size ≤ ((Int32.ofNat n)).toNatClampNeg) := inb_of a8 ⟨(oas (by omega)), (oaB (by omega))⟩
  refine ox (stI ba hx hZ br aM (j := (Int32.ofNat n)) aP rfl rfl (hd 26 rfl)) fun bE bt bb bs aI => ?_
  have aQ := aE.wr aI
  have ax := ae.other aI (Or.inl aa)
  have ai := ah.other aI (Or.inl aa)
  have aq := ac.other aI (Or.inl aa)
  have ao := ak.other aI (Or.inl aa)
  have aS := aR.wr aI (Or.inr aD)
  have bo := Nat.le_trans aZ (Keep.of_wr aI).1
  have aV := Fr.snoc bb aU aO
  have aH : Arv Z bt b5 k5 .int (16 : Int32) ((oU (fun _ => Value.int (sh.toInt32)) (List.replicate 16 (.int (0 : Int32))) n).set n (.int p1)) (.int (0 : Int32)) := Arv.set aM bw a8 aW bf be rfl aI n (oaA (by omega)) (by first | (rw [o5]; simp; omega) | omega)
  exact oG bb hx hlk (by decide) (by decide) Bd.returns (hd 27 rfl) (by rw [bs]; exact ⟨rfl, aV, aS, ax, ai, ao, b5, _, aq, aa, aD, aH⟩)
theorem ocf (hw : oo Z aw) (ws : List Jvm.Cond) (a0 : Addr) (q1 : Int64) (n : Nat) (sh : Int64) (f : Nat → Int64) (h0 : Heap) (n0 : Nat) (Z0 : n0 ≤ h0.size) (bd : Exa Z h0 a0 "com/example/restate/restate/model/LongColumn") (aQ : Fld Z h0 a0 "com/example/restate/restate/model/LongColumn" "size" "I" (.int (Int32.ofNat n))) (aP : Fld Z h0 a0 "com/example/restate/restate/model/LongColumn" "shared" "J" (.long sh)) (a9 : Fld Z h0 a0 "com/example/restate/restate/model/LongColumn" "ints" "[I" .null) (aL : Fld Z h0 a0 "com/example/restate/restate/model/LongColumn" "longs" "[J" .null) (be : n0 ≤ a0) (hn : n < 8) (hf : ∀ i, i < n → f i = sh) :
    ot l Z (⟨"com/example/restate/restate/model/LongColumn", "addLong", "(J)V"⟩ : MethodName) prog_46_method_6_code 5 none ws ({ frames := 2, cells := 1, slots := 16, locals := 28 } : Room) #[(.ref a0), (.long q1)] h0 (obC Z a0 q1 n sh f h0 n0) := by
  refine ou (plainFor_of_name o9) (fun m => odz m a0 q1) ?_
  intro p e s m below meth c ct Bd hml hx hby hlk hown hnm hZ X0 e0
  have hd := oq ody hby
  have N0 := Fr.nil n0
  have K0 : Keep h0 h0 [a0] := Keep.refl _ _
  refine oc X0 hx (hd 0 rfl) rfl rfl ?_
  refine oi (getF X0 hx hZ hown (host := "") (Or.inl (hw 384 rfl)) Via.refl e0 aL rfl rfl (hd 1 rfl)) fun T1 X1 e1 => ?_
  refine og (S' := [])  (fun _ k => XS.ifnonnullNo X1.here hx rfl (hd 2 rfl) rfl k) ?_
  refine ol (v := (.int (16 : Int32))) (fun _ k => XS.bipush X1.here hx rfl (hd 3 rfl) k) ?_
  refine oc X1 hx (hd 4 rfl) rfl rfl ?_
  refine oi (getF X1 hx hZ hown (host := "") (Or.inl (hw 375 rfl)) Via.refl e1 aQ rfl rfl (hd 5 rfl)) fun T2 X2 e2 => ?_
  refine oL X2 hx hZ hown (hw 596 rfl) (hw 597 rfl) (hw 598 rfl) (hw 35 rfl) (by decide) (occ l Z aw hw [] (Int32.ofNat n) h0 n0 Z0 ) e2 hml rfl rfl (rest := [(.int (16 : Int32))]) rfl (lenOf oa0 rfl) (hd 6 rfl) rfl fun T3 cu v3 X3 cn => ?_
  obtain ⟨rfl, bN, e3⟩ := cn
  have bP := Fr.app N0 bN
  refine oL X3 hx hZ hown (hw 604 rfl) (hw 492 rfl) (hw 493 rfl) (hw 204 rfl) (by decide) (obn l Z aw hw [] (16 : Int32) (oau (Int32.ofNat n)) h0 n0 Z0 ) e3 hml rfl rfl (rest := []) rfl (lenOf oav rfl) (hd 7 rfl) rfl fun T4 cv v4 X4 co => ?_
  obtain ⟨rfl, bO, e4⟩ := co
  have bQ := Fr.app bP bO
  show oe p.tables e below _ (T4.setTop (mkF m 19 #[.val (.ref a0), .val (.long q1), .second, .unset, .unset] [(.int (oag (16 : Int32) (oau (Int32.ofNat n))))]))
  rw [oby n (by omega)]
  obtain ⟨T5, h5, k5, X5, e5, E5, A5, bE⟩ := newP X4 hx hZ (hw 630 rfl) e4 (g := (mkF m 19 #[.val (.ref a0), .val (.long q1), .second, .unset, .unset] [(.int (16 : Int32))])) rfl (hd 8 rfl) rfl (by decide) (cap := 16) (by decide) (by decide) (by decide) (by decide)
  obtain ⟨b5, g5⟩ : ∃ z, z = h0.size := ⟨_, rfl⟩
  rw [← g5] at A5 bE
  refine ow bE ?_
  have aa : a0 ≠ b5 := Nat.ne_of_lt (os bd.lt g5)
  have bf := om Z0 g5
  have aU := om K0.1 g5
  have a8 := bd.ext E5
  have aR := aQ.ext E5
  have aK := aP.ext E5
  have aO := a9.ext E5
  have aN := aL.ext E5
  have bJ := K0.ext E5
  have bW := Nat.le_trans Z0 E5.1
  have br : Arv Z h5 b5 k5 .long (16 : Int32) (List.replicate 16 (.long (0 : Int64))) (.long (0 : Int64)) := (Arv.new A5 (by decide)).pad (pad_rep [] (.long (0 : Int64)) 16)
  show oe p.tables e below _ (T5.setTop (mkF m 21 #[.val (.ref a0), .val (.long q1), .second, .unset, .unset] [(.ref b5)]))
  refine oz (fun _ k => XS.astoreN X5.here hx rfl (hd 9 rfl) rfl rfl (l' := #[.val (.ref a0), .val (.long q1), .second, .val (.ref b5), .unset]) rfl k) ?_
  refine ol (v := (.int (0 : Int32))) (fun _ k => XS.iconst X5.here hx rfl (hd 10 rfl) k) ?_
  refine oz (fun _ k => XS.istore X5.here hx rfl (hd 11 rfl) rfl (l' := #[.val (.ref a0), .val (.long q1), .second, .val (.ref b5), .val (.int (0 : Int32))]) rfl k) ?_
  have bz : ∀ (kk : Nat) (aS : State) (aM : List Loc) (ao : Heap) (j : Nat) (aI : Stand p l e ({ frames := 2, cells := 1, slots := 16, locals := 28 } : Room) s m #[(.ref a0), (.long q1)] below meth c aS aM 1 16) (aZ : aS.heap = ao) (aW : Fr n0 aM) (aV : Keep h0 ao [a0]) (aT : n0 ≤ ao.size) (ag : Exa Z ao a0 "com/example/restate/restate/model/LongColumn") (ae : Fld Z ao a0 "com/example/restate/restate/model/LongColumn" "size" "I" (.int (Int32.ofNat n))) (ac : Fld Z ao a0 "com/example/restate/restate/model/LongColumn" "shared" "J" (.long sh)) (af : Fld Z ao a0 "com/example/restate/restate/model/LongColumn" "ints" "[I" .null) (ab : Fld Z ao a0 "com/example/restate/restate/model/LongColumn" "longs" "[J" .null) (ak : Arv Z ao b5 k5 .long (16 : Int32) (oU (fun i => Value.long (f i)) (List.replicate 16 (.long (0 : Int64))) j) (.long (0 : Int64))) (hj : j + kk = n), oe p.tables e below (oT s (obC Z a0 q1 n sh f h0 n0) ({ frames := 2, cells := 1, slots := 16, locals := 28 } : Room).cells ({ frames := 2, cells := 1, slots := 16, locals := 28 } : Room).slots) (aS.setTop (mkF m 25 #[.val (.ref a0), .val (.long q1), .second, .val (.ref b5), .val (.int (Int32.ofNat j))] [])) := by
    intro kk
    induction kk with
    | zero =>
      intro aS aM ao j aI aZ aW aV aT ag ae ac af ab ak hj
      refine oH aI hx (hd 12 rfl) rfl ?_
      refine oc aI hx (hd 13 rfl) rfl rfl ?_
      refine oi (getF aI hx hZ hown (host := "") (Or.inl (hw 375 rfl)) Via.refl aZ ae rfl rfl (hd 14 rfl)) fun T6 X6 e6 => ?_
      refine oC (S' := [])  (fun _ k => XS.icmpYes X6.here hx rfl (pc0 := 31) (pc' := 50) rfl (hd 15 rfl) rfl (flt (fun q => by have := (oaz (by omega) (by omega)).mp q; omega)).2.1 (by decide) (by decide) k) ?_
      have cj : j = n := by omega
      have Vf : Arv Z ao b5 k5 .long (16 : Int32) (oU (fun i => Value.long (f i)) (List.replicate 16 (.long (0 : Int64))) n) (.long (0 : Int64)) := cj ▸ ak
      refine oc X6 hx (hd 24 rfl) rfl rfl ?_
      refine oc X6 hx (hd 25 rfl) rfl rfl ?_
      refine ox (putF X6 hx hZ hown (host := "") (Or.inl (hw 384 rfl)) Via.refl e6 ab ag (Or.inl (hw 385 rfl)) (hw 34 rfl) (ty := (.array .long)) (by decide) rfl rfl rfl rfl (hd 26 rfl)) fun T7 h7 X7 e7 W7 => ?_
      have au := ag.wr W7
      have aG := ae.other W7 (Or.inr (ob (Or.inl (hw 376 rfl)) (Or.inl (hw 385 rfl)) (by decide)))
      have ay := ac.other W7 (Or.inr (ob (Or.inl (hw 387 rfl)) (Or.inl (hw 385 rfl)) (by decide)))
      have ai := af.other W7 (Or.inr (ob (Or.inl (hw 383 rfl)) (Or.inl (hw 385 rfl)) (by decide)))
      have aC := ab.same W7
      have bs := Vf.other W7 (Ne.symm aa)
      have bK := aV.wr W7 (Or.inl (List.mem_of_getElem? (i := 0) rfl))
      have bX := Nat.le_trans aT (Keep.of_wr W7).1
      have bR := Fr.snoc X7 aW be
      refine oc X7 hx (hd 27 rfl) rfl rfl ?_
      refine ol (fun _ k => XS.aconstNull X7.here hx rfl (hd 28 rfl) k) ?_
      refine ox (putF X7 hx hZ hown (host := "") (Or.inl (hw 382 rfl)) Via.refl e7 ai au (Or.inl (hw 383 rfl)) (hw 34 rfl) (ty := (.array .int)) (by decide) rfl rfl rfl rfl (hd 29 rfl)) fun T8 h8 X8 e8 W8 => ?_
      have aJ := au.wr W8
      have aj := aG.other W8 (Or.inr (ob (Or.inl (hw 376 rfl)) (Or.inl (hw 383 rfl)) (by decide)))
      have az := ay.other W8 (Or.inr (ob (Or.inl (hw 387 rfl)) (Or.inl (hw 383 rfl)) (by decide)))
      have aF := ai.same W8
      have ah := aC.other W8 (Or.inr (ob (Or.inl (hw 385 rfl)) (Or.inl (hw 383 rfl)) (by decide)))
      have bt := bs.other W8 (Ne.symm aa)
      have bL := bK.wr W8 (Or.inl (List.mem_of_getElem? (i := 0) rfl))
      have bY := Nat.le_trans bX (Keep.of_wr W8).1
      have bS := Fr.snoc X8 bR be
      refine oJ (fun _ k => XS.goto X8.here hx rfl (pc0 := 60) (pc' := 93) rfl (hd 30 rfl) (by decide) (by decide) k) ?_
      refine oc X8 hx (hd 31 rfl) rfl rfl ?_
      refine oi (getF X8 hx hZ hown (host := "") (Or.inl (hw 384 rfl)) Via.refl e8 ah rfl rfl (hd 32 rfl)) fun T9 X9 e9 => ?_
      refine oc X9 hx (hd 33 rfl) rfl rfl ?_
      refine oi (getF X9 hx hZ hown (host := "") (Or.inl (hw 375 rfl)) Via.refl e9 aj rfl rfl (hd 34 rfl)) fun cw bC bZ => ?_
      refine ol (fun _ k => XS.lloadN bC.here hx rfl (hd 35 rfl) rfl k) ?_
      obtain ⟨bv, bb, cp, bA, bp, bH, bF⟩ := id bt
      have bg : ¬ ((Int32.ofNat n) < 0 ∨ bv.slots.size ≤ ((Int32.ofNat n)).toNatClampNeg) := inb_of bA ⟨(oas (by omega)), (oaB (by omega))⟩
      refine ox (stJ bC hx hZ bZ bb (j := (Int32.ofNat n)) bg rfl rfl (hd 36 rfl)) fun cx ck bD b0 a6 => ?_
      have a5 := aJ.wr a6
      have aD := aj.other a6 (Or.inl aa)
      have ap := az.other a6 (Or.inl aa)
      have aA := aF.other a6 (Or.inl aa)
      have av := ah.other a6 (Or.inl aa)
      have bj := bL.wr a6 (Or.inr aU)
      have bV := Nat.le_trans bY (Keep.of_wr a6).1
      have bm := Fr.snoc bD bS bf
      have aX : Arv Z ck b5 k5 .long (16 : Int32) ((oU (fun i => Value.long (f i)) (List.replicate 16 (.long (0 : Int64))) n).set n (.long q1)) (.long (0 : Int64)) := Arv.set bb cp bA bp bH bF rfl a6 n (oaA (by omega)) (by first | (rw [o5]; simp; omega) | omega)
      exact oG bD hx hlk (by decide) (by decide) Bd.returns (hd 37 rfl) (by rw [b0]; exact ⟨rfl, bm, bj, aD, ap, aA, b5, _, av, aa, aU, aX⟩)
    | succ kk ih =>
      intro aS aM ao j aI aZ aW aV aT ag ae ac af ab ak hj
      refine oH aI hx (hd 12 rfl) rfl ?_
      refine oc aI hx (hd 13 rfl) rfl rfl ?_
      refine oi (getF aI hx hZ hown (host := "") (Or.inl (hw 375 rfl)) Via.refl aZ ae rfl rfl (hd 14 rfl)) fun cy ba ce => ?_
      refine og (S' := [])  (fun _ k => XS.icmpNo ba.here hx rfl (hd 15 rfl) rfl (tlt ((oaz (by omega) (by omega)).mpr (by omega))).2.1 k) ?_
      refine oc ba hx (hd 16 rfl) rfl rfl ?_
      refine oH ba hx (hd 17 rfl) rfl ?_
      refine oc ba hx (hd 18 rfl) rfl rfl ?_
      refine oH ba hx (hd 19 rfl) rfl ?_
      refine oB ba hx hZ hown (hw 631 rfl) (hw 622 rfl) (hw 624 rfl) (hw 623 rfl) (hw 625 rfl) (hw 35 rfl) (by decide) (oce l Z aw hw [] a0 (Int32.ofNat j) sh (f j) ao n0 aT ac ab af (hf j (by omega)).symm) ce ag hml rfl rfl (rest := [(.int (Int32.ofNat j)), (.ref b5)]) rfl (lenOf oa1 rfl) (hd 20 rfl) rfl fun cz bM cA bU bx => ?_
      obtain ⟨rfl, bl, cg⟩ := bx
      have bn := Fr.app aW bl
      obtain ⟨bw, bc, cr, bB, bq, bI, bG⟩ := id ak
      have bh : ¬ ((Int32.ofNat j) < 0 ∨ bw.slots.size ≤ ((Int32.ofNat j)).toNatClampNeg) := inb_of bB ⟨(oas (by omega)), (oaB (by omega))⟩
      refine ox (stJ bU hx hZ cg bc (j := (Int32.ofNat j)) bh rfl rfl (hd 21 rfl)) fun bT cm bi ci a7 => ?_
      have aH := ag.wr a7
      have aE := ae.other a7 (Or.inl aa)
      have aq := ac.other a7 (Or.inl aa)
      have aB := af.other a7 (Or.inl aa)
      have ax := ab.other a7 (Or.inl aa)
      have bk := aV.wr a7 (Or.inr aU)
      have bu := Nat.le_trans aT (Keep.of_wr a7).1
      have bo := Fr.snoc bi bn bf
      have aY : Arv Z cm b5 k5 .long (16 : Int32) ((oU (fun i => Value.long (f i)) (List.replicate 16 (.long (0 : Int64))) j).set j (.long (f j))) (.long (0 : Int64)) := Arv.set bc cr bB bq bI bG rfl a7 j (oaA (by omega)) (by rw [o5]; simp; omega)
      refine oaf (fun _ k => XS.iinc bi.here hx rfl (hd 22 rfl) rfl (l' := #[.val (.ref a0), .val (.long q1), .second, .val (.ref b5), .val (.int ((Int32.ofNat j) + (1 : Int32)))]) rfl k) ?_
      show oe p.tables e below _ (bT.setTop (mkF m 47 #[.val (.ref a0), .val (.long q1), .second, .val (.ref b5), .val (.int ((Int32.ofNat j) + (1 : Int32)))] []))
      rw [show (Int32.ofNat j) + (1 : Int32) = Int32.ofNat (j + 1) from oaW j]
      refine oJ (fun _ k => XS.goto bi.here hx rfl (pc0 := 47) (pc' := 25) rfl (hd 23 rfl) (by decide) (by decide) k) ?_
      exact ih _ _ _ (j + 1) bi ci bo bk bu aH aE aq aB ax aY (by omega)
  exact bz n _ _ _ 0 X5 e5 bQ bJ bW a8 aR aK aO aN br (by omega)
theorem oiQ (hw : oo Z aw) (ws : List Jvm.Cond) (a0 : Addr) (q1 : Int64) (xs : List Int64) (sh : Int64) (h0 : Heap) (n0 : Nat) (Z0 : n0 ≤ h0.size) (ae : Exa Z h0 a0 "com/example/restate/restate/model/LongColumn") (af : Fld Z h0 a0 "com/example/restate/restate/model/LongColumn" "size" "I" (.int (Int32.ofNat xs.length))) (aa : Fld Z h0 a0 "com/example/restate/restate/model/LongColumn" "shared" "J" (.long sh)) (ac : Fld Z h0 a0 "com/example/restate/restate/model/LongColumn" "ints" "[I" .null) (ab : Fld Z h0 a0 "com/example/restate/restate/model/LongColumn" "longs" "[J" .null) (ai : n0 ≤ a0) (hn : xs.length < 8) (br : ∀ x ∈ xs, x = sh) :
    ot l Z (⟨"com/example/restate/restate/model/LongColumn", "add", "(J)V"⟩ : MethodName) prog_46_method_3_code 4 none ws ({ frames := 3, cells := 1, slots := 16, locals := 44 } : Room) #[(.ref a0), (.long q1)] h0 (odA Z a0 xs q1 h0 n0) := by
  refine ou (plainFor_of_name o9) (fun m => obI m a0 q1) ?_
  intro p e s m below meth c dq Bd hml hx hby hlk hown hnm hZ X0 e0
  have hd := oq obH hby
  have N0 := Fr.nil n0
  have K0 : Keep h0 h0 [a0] := Keep.refl _ _
  refine oc X0 hx (hd 0 rfl) rfl rfl ?_
  refine oi (getF X0 hx hZ hown (host := "") (Or.inl (hw 382 rfl)) Via.refl e0 ac rfl rfl (hd 1 rfl)) fun T1 X1 e1 => ?_
  refine og (S' := [])  (fun _ k => XS.ifnonnullNo X1.here hx rfl (hd 2 rfl) rfl k) ?_
  refine oc X1 hx (hd 3 rfl) rfl rfl ?_
  refine oi (getF X1 hx hZ hown (host := "") (Or.inl (hw 384 rfl)) Via.refl e1 ab rfl rfl (hd 4 rfl)) fun T2 X2 e2 => ?_
  refine og (S' := [])  (fun _ k => XS.ifnonnullNo X2.here hx rfl (hd 5 rfl) rfl k) ?_
  refine ol (v := (.int (1 : Int32))) (fun _ k => XS.iconst X2.here hx rfl (hd 6 rfl) k) ?_
  refine oJ (fun _ k => XS.goto X2.here hx rfl (pc0 := 15) (pc' := 19) rfl (hd 7 rfl) (by decide) (by decide) k) ?_
  refine oz (fun _ k => XS.istoreN X2.here hx rfl (hd 8 rfl) rfl (l' := #[.val (.ref a0), .val (.long q1), .second, .val (.int (1 : Int32))]) rfl k) ?_
  refine oj X2 hx (hd 9 rfl) rfl ?_
  refine og (S' := [])  (fun _ k => XS.ifNo X2.here hx rfl (hd 10 rfl) rfl ((if0 _ _).trans (feq (by decide)).1) k) ?_
  refine oc X2 hx (hd 11 rfl) rfl rfl ?_
  refine oi (getF X2 hx hZ hown (host := "") (Or.inl (hw 375 rfl)) Via.refl e2 af rfl rfl (hd 12 rfl)) fun T3 X3 e3 => ?_
  by_cases bh : (Int32.ofNat xs.length) = (0 : Int32)
  · refine oC (S' := [])  (fun _ k => XS.ifYes X3.here hx rfl (pc0 := 28) (pc' := 40) rfl (hd 13 rfl) rfl ((if0 _ _).trans (teq bh).1) (by decide) (by decide) k) ?_
    refine oc X3 hx (hd 19 rfl) rfl rfl ?_
    refine ol (fun _ k => XS.lloadN X3.here hx rfl (hd 20 rfl) rfl k) ?_
    refine ox (putF X3 hx hZ hown (host := "") (Or.inl (hw 386 rfl)) Via.refl e3 aa ae (Or.inl (hw 387 rfl)) (hw 34 rfl) (ty := .long) (by decide) rfl rfl rfl rfl (hd 21 rfl)) fun T4 h4 X4 e4 W4 => ?_
    have aD := ae.wr W4
    have ag := af.other W4 (Or.inr (ob (Or.inl (hw 376 rfl)) (Or.inl (hw 387 rfl)) (by decide)))
    have ao := aa.same W4
    have aF := ac.other W4 (Or.inr (ob (Or.inl (hw 383 rfl)) (Or.inl (hw 387 rfl)) (by decide)))
    have az := ab.other W4 (Or.inr (ob (Or.inl (hw 385 rfl)) (Or.inl (hw 387 rfl)) (by decide)))
    have cI := K0.wr W4 (Or.inl (List.mem_of_getElem? (i := 0) rfl))
    have cY := Nat.le_trans Z0 (Keep.of_wr W4).1
    have cQ := Fr.snoc X4 N0 ai
    refine oJ (fun _ k => XS.goto X4.here hx rfl (pc0 := 45) (pc' := 93) rfl (hd 22 rfl) (by decide) (by decide) k) ?_
    refine oc X4 hx (hd 44 rfl) rfl rfl ?_
    refine og (S' := [(.ref a0), (.ref a0)])  (fun _ k => XS.dup X4.here hx rfl (hd 45 rfl) rfl rfl k) ?_
    refine oi (getF X4 hx hZ hown (host := "") (Or.inl (hw 375 rfl)) Via.refl e4 ag rfl rfl (hd 46 rfl)) fun T5 X5 e5 => ?_
    refine ol (v := (.int (1 : Int32))) (fun _ k => XS.iconst X5.here hx rfl (hd 47 rfl) k) ?_
    refine og (S' := [(.int ((Int32.ofNat xs.length) + (1 : Int32))), (.ref a0)])  (fun _ k => XS.iadd X5.here hx rfl (hd 48 rfl) rfl k) ?_
    refine ox (putF X5 hx hZ hown (host := "") (Or.inl (hw 375 rfl)) Via.refl e5 ag aD (Or.inl (hw 376 rfl)) (hw 34 rfl) (ty := .int) (by decide) rfl rfl rfl rfl (hd 49 rfl)) fun T6 h6 X6 e6 W6 => ?_
    have bb := aD.wr W6
    have aI := ag.same W6
    have ap := ao.other W6 (Or.inr (ob (Or.inl (hw 387 rfl)) (Or.inl (hw 376 rfl)) (by decide)))
    have aG := aF.other W6 (Or.inr (ob (Or.inl (hw 383 rfl)) (Or.inl (hw 376 rfl)) (by decide)))
    have aA := az.other W6 (Or.inr (ob (Or.inl (hw 385 rfl)) (Or.inl (hw 376 rfl)) (by decide)))
    have cJ := cI.wr W6 (Or.inl (List.mem_of_getElem? (i := 0) rfl))
    have dH := Nat.le_trans cY (Keep.of_wr W6).1
    have cR := Fr.snoc X6 cQ ai
    exact oG X6 hx hlk (by decide) (by decide) Bd.returns (hd 50 rfl) (by rw [e6]; exact ⟨rfl, cR, cJ, obA bb aI ap aG aA (by have e := ocI (by omega) bh; intro x hm; rw [List.length_eq_zero_iff.mp e] at hm; cases hm)⟩)
  · refine og (S' := [])  (fun _ k => XS.ifNo X3.here hx rfl (hd 13 rfl) rfl ((if0 _ _).trans (feq bh).1) k) ?_
    refine ol (fun _ k => XS.lloadN X3.here hx rfl (hd 14 rfl) rfl k) ?_
    refine oc X3 hx (hd 15 rfl) rfl rfl ?_
    refine oi (getF X3 hx hZ hown (host := "") (Or.inl (hw 386 rfl)) Via.refl e3 aa rfl rfl (hd 16 rfl)) fun T7 X7 e7 => ?_
    refine og (S' := [(.int (lcmpW q1 sh))])  (fun _ k => XS.lcmp X7.here hx rfl (hd 17 rfl) rfl k) ?_
    by_cases bi : q1 = sh
    · refine og (S' := [])  (fun _ k => XS.ifNo X7.here hx rfl (hd 18 rfl) rfl ((if0 _ _).trans (teq ((oaq _ _).mpr bi)).2) k) ?_
      refine oc X7 hx (hd 19 rfl) rfl rfl ?_
      refine ol (fun _ k => XS.lloadN X7.here hx rfl (hd 20 rfl) rfl k) ?_
      refine ox (putF X7 hx hZ hown (host := "") (Or.inl (hw 386 rfl)) Via.refl e7 aa ae (Or.inl (hw 387 rfl)) (hw 34 rfl) (ty := .long) (by decide) rfl rfl rfl rfl (hd 21 rfl)) fun T8 h8 X8 e8 W8 => ?_
      have aE := ae.wr W8
      have ah := af.other W8 (Or.inr (ob (Or.inl (hw 376 rfl)) (Or.inl (hw 387 rfl)) (by decide)))
      have aq := aa.same W8
      have aH := ac.other W8 (Or.inr (ob (Or.inl (hw 383 rfl)) (Or.inl (hw 387 rfl)) (by decide)))
      have aB := ab.other W8 (Or.inr (ob (Or.inl (hw 385 rfl)) (Or.inl (hw 387 rfl)) (by decide)))
      have cK := K0.wr W8 (Or.inl (List.mem_of_getElem? (i := 0) rfl))
      have cZ := Nat.le_trans Z0 (Keep.of_wr W8).1
      have cS := Fr.snoc X8 N0 ai
      refine oJ (fun _ k => XS.goto X8.here hx rfl (pc0 := 45) (pc' := 93) rfl (hd 22 rfl) (by decide) (by decide) k) ?_
      refine oc X8 hx (hd 44 rfl) rfl rfl ?_
      refine og (S' := [(.ref a0), (.ref a0)])  (fun _ k => XS.dup X8.here hx rfl (hd 45 rfl) rfl rfl k) ?_
      refine oi (getF X8 hx hZ hown (host := "") (Or.inl (hw 375 rfl)) Via.refl e8 ah rfl rfl (hd 46 rfl)) fun T9 X9 e9 => ?_
      refine ol (v := (.int (1 : Int32))) (fun _ k => XS.iconst X9.here hx rfl (hd 47 rfl) k) ?_
      refine og (S' := [(.int ((Int32.ofNat xs.length) + (1 : Int32))), (.ref a0)])  (fun _ k => XS.iadd X9.here hx rfl (hd 48 rfl) rfl k) ?_
      refine ox (putF X9 hx hZ hown (host := "") (Or.inl (hw 375 rfl)) Via.refl e9 ah aE (Or.inl (hw 376 rfl)) (hw 34 rfl) (ty := .int) (by decide) rfl rfl rfl rfl (hd 49 rfl)) fun dr dI cC db bf => ?_
      have aJ := aE.wr bf
      have aC := ah.same bf
      have aj := aq.other bf (Or.inr (ob (Or.inl (hw 387 rfl)) (Or.inl (hw 376 rfl)) (by decide)))
      have ay := aH.other bf (Or.inr (ob (Or.inl (hw 383 rfl)) (Or.inl (hw 376 rfl)) (by decide)))
      have ak := aB.other bf (Or.inr (ob (Or.inl (hw 385 rfl)) (Or.inl (hw 376 rfl)) (by decide)))
      have bC := cK.wr bf (Or.inl (List.mem_of_getElem? (i := 0) rfl))
      have cU := Nat.le_trans cZ (Keep.of_wr bf).1
      have bO := Fr.snoc cC cS ai
      exact oG cC hx hlk (by decide) (by decide) Bd.returns (hd 50 rfl) (by rw [db]; exact ⟨rfl, bO, bC, obA aJ aC aj ay ak (by rw [bi]; exact br)⟩)
    · refine oC (S' := [])  (fun _ k => XS.ifYes X7.here hx rfl (pc0 := 37) (pc' := 48) rfl (hd 18 rfl) rfl ((if0 _ _).trans (feq (fun q => bi ((oaq _ _).mp q))).2) (by decide) (by decide) k) ?_
      refine oc X7 hx (hd 23 rfl) rfl rfl ?_
      refine oi (getF X7 hx hZ hown (host := "") (Or.inl (hw 384 rfl)) Via.refl e7 ab rfl rfl (hd 24 rfl)) fun ds bY dc => ?_
      refine og (S' := [])  (fun _ k => XS.ifnonnullNo bY.here hx rfl (hd 25 rfl) rfl k) ?_
      refine ol (fun _ k => XS.lloadN bY.here hx rfl (hd 26 rfl) rfl k) ?_
      refine oL bY hx hZ hown (hw 589 rfl) (hw 590 rfl) (hw 591 rfl) (hw 35 rfl) (by decide) (ocd l Z aw hw [] q1 h0 n0 Z0 ) dc hml rfl rfl (rest := []) rfl (lenOf obG rfl) (hd 27 rfl) rfl fun dt cL dM bg ct => ?_
      obtain ⟨rfl, bJ, cG⟩ := ct
      have bl := Fr.app N0 bJ
      by_cases bj : (oaj q1) = (0 : Int32)
      · refine oC (S' := [])  (fun _ k => XS.ifYes bg.here hx rfl (pc0 := 59) (pc' := 88) rfl (hd 28 rfl) rfl ((if0 _ _).trans (teq bj).1) (by decide) (by decide) k) ?_
        refine oc bg hx (hd 41 rfl) rfl rfl ?_
        refine ol (fun _ k => XS.lloadN bg.here hx rfl (hd 42 rfl) rfl k) ?_
        refine o8 bg hx hZ hown (hw 626 rfl) (hw 627 rfl) (hw 34 rfl) (hw 628 rfl) (hw 629 rfl) (hw 35 rfl) (by decide) (ocf l Z aw hw [] a0 q1 xs.length sh (fun i => xs.getD i 0) h0 n0 Z0 ae af aa ac ab ai hn (fun i hi => oaV br i hi)) cG ae hml rfl rfl (rest := []) rfl (lenOf oaa rfl) (hd 43 rfl) rfl fun du cM dN bZ cu => ?_
        obtain ⟨rfl, bK, cy, bc, bv, bz, c8, dm, bs, bn, co, bV⟩ := cu
        have bP := Fr.app bl bK
        have au := ae.keep cy
        have bD := K0.trans cy (allS (Or.inl (List.mem_of_getElem? (i := 0) rfl)) all0)
        have ck := Nat.le_trans Z0 cy.1
        refine oc bZ hx (hd 44 rfl) rfl rfl ?_
        refine og (S' := [(.ref a0), (.ref a0)])  (fun _ k => XS.dup bZ.here hx rfl (hd 45 rfl) rfl rfl k) ?_
        refine oi (getF bZ hx hZ hown (host := "") (Or.inl (hw 375 rfl)) Via.refl rfl bc rfl rfl (hd 46 rfl)) fun dw b0 dd => ?_
        refine ol (v := (.int (1 : Int32))) (fun _ k => XS.iconst b0.here hx rfl (hd 47 rfl) k) ?_
        refine og (S' := [(.int ((Int32.ofNat xs.length) + (1 : Int32))), (.ref a0)])  (fun _ k => XS.iadd b0.here hx rfl (hd 48 rfl) rfl k) ?_
        refine ox (putF b0 hx hZ hown (host := "") (Or.inl (hw 375 rfl)) Via.refl dd bc au (Or.inl (hw 376 rfl)) (hw 34 rfl) (ty := .int) (by decide) rfl rfl rfl rfl (hd 49 rfl)) fun dx dJ cD df a8 => ?_
        have aK := au.wr a8
        have aW := bc.same a8
        have aQ := bv.other a8 (Or.inr (ob (Or.inl (hw 387 rfl)) (Or.inl (hw 376 rfl)) (by decide)))
        have aT := bz.other a8 (Or.inr (ob (Or.inl (hw 383 rfl)) (Or.inl (hw 376 rfl)) (by decide)))
        have aN := bs.other a8 (Or.inr (ob (Or.inl (hw 385 rfl)) (Or.inl (hw 376 rfl)) (by decide)))
        have aZ := bV.other a8 (Ne.symm bn)
        have bE := bD.wr a8 (Or.inl (List.mem_of_getElem? (i := 0) rfl))
        have cV := Nat.le_trans ck (Keep.of_wr a8).1
        have bQ := Fr.snoc cD bP ai
        exact oG cD hx hlk (by decide) (by decide) Bd.returns (hd 50 rfl) (by rw [df]; exact ⟨rfl, bQ, bE, obB aK aW aQ aT aN bn co aZ (by rw [List.length_set, o5]; simp) (obv (obw (by simp; omega)) (by rw [o5]; simp; omega))⟩)
      · refine og (S' := [])  (fun _ k => XS.ifNo bg.here hx rfl (hd 28 rfl) rfl ((if0 _ _).trans (feq bj).1) k) ?_
        refine oc bg hx (hd 29 rfl) rfl rfl ?_
        refine oi (getF bg hx hZ hown (host := "") (Or.inl (hw 382 rfl)) Via.refl cG ac rfl rfl (hd 30 rfl)) fun dy ce dg => ?_
        refine og (S' := [])  (fun _ k => XS.ifnonnullNo ce.here hx rfl (hd 31 rfl) rfl k) ?_
        refine oc ce hx (hd 32 rfl) rfl rfl ?_
        refine oi (getF ce hx hZ hown (host := "") (Or.inl (hw 386 rfl)) Via.refl dg aa rfl rfl (hd 33 rfl)) fun dz cT dh => ?_
        refine oL cT hx hZ hown (hw 589 rfl) (hw 590 rfl) (hw 591 rfl) (hw 35 rfl) (by decide) (ocd l Z aw hw [] sh h0 n0 Z0 ) dh hml rfl rfl (rest := []) rfl (lenOf obG rfl) (hd 34 rfl) rfl fun dA cN dO a7 cv => ?_
        obtain ⟨rfl, bL, cH⟩ := cv
        have bm := Fr.app bl bL
        by_cases bk : (oaj sh) = (0 : Int32)
        · refine oC (S' := [])  (fun _ k => XS.ifYes a7.here hx rfl (pc0 := 76) (pc' := 88) rfl (hd 35 rfl) rfl ((if0 _ _).trans (teq bk).1) (by decide) (by decide) k) ?_
          refine oc a7 hx (hd 41 rfl) rfl rfl ?_
          refine ol (fun _ k => XS.lloadN a7.here hx rfl (hd 42 rfl) rfl k) ?_
          refine o8 a7 hx hZ hown (hw 626 rfl) (hw 627 rfl) (hw 34 rfl) (hw 628 rfl) (hw 629 rfl) (hw 35 rfl) (by decide) (ocf l Z aw hw [] a0 q1 xs.length sh (fun i => xs.getD i 0) h0 n0 Z0 ae af aa ac ab ai hn (fun i hi => oaV br i hi)) cH ae hml rfl rfl (rest := []) rfl (lenOf oaa rfl) (hd 43 rfl) rfl fun dB cO dP cg cw => ?_
          obtain ⟨rfl, bM, cz, bd, bw, bA, c9, dn, bt, bo, cp, bW⟩ := cw
          have bR := Fr.app bm bM
          have av := ae.keep cz
          have bF := K0.trans cz (allS (Or.inl (List.mem_of_getElem? (i := 0) rfl)) all0)
          have cm := Nat.le_trans Z0 cz.1
          refine oc cg hx (hd 44 rfl) rfl rfl ?_
          refine og (S' := [(.ref a0), (.ref a0)])  (fun _ k => XS.dup cg.here hx rfl (hd 45 rfl) rfl rfl k) ?_
          refine oi (getF cg hx hZ hown (host := "") (Or.inl (hw 375 rfl)) Via.refl rfl bd rfl rfl (hd 46 rfl)) fun dC ci di => ?_
          refine ol (v := (.int (1 : Int32))) (fun _ k => XS.iconst ci.here hx rfl (hd 47 rfl) k) ?_
          refine og (S' := [(.int ((Int32.ofNat xs.length) + (1 : Int32))), (.ref a0)])  (fun _ k => XS.iadd ci.here hx rfl (hd 48 rfl) rfl k) ?_
          refine ox (putF ci hx hZ hown (host := "") (Or.inl (hw 375 rfl)) Via.refl di bd av (Or.inl (hw 376 rfl)) (hw 34 rfl) (ty := .int) (by decide) rfl rfl rfl rfl (hd 49 rfl)) fun dD dK cE dj a9 => ?_
          have aL := av.wr a9
          have aX := bd.same a9
          have aR := bw.other a9 (Or.inr (ob (Or.inl (hw 387 rfl)) (Or.inl (hw 376 rfl)) (by decide)))
          have aU := bA.other a9 (Or.inr (ob (Or.inl (hw 383 rfl)) (Or.inl (hw 376 rfl)) (by decide)))
          have aO := bt.other a9 (Or.inr (ob (Or.inl (hw 385 rfl)) (Or.inl (hw 376 rfl)) (by decide)))
          have a5 := bW.other a9 (Ne.symm bo)
          have bG := bF.wr a9 (Or.inl (List.mem_of_getElem? (i := 0) rfl))
          have cW := Nat.le_trans cm (Keep.of_wr a9).1
          have bS := Fr.snoc cE bR ai
          exact oG cE hx hlk (by decide) (by decide) Bd.returns (hd 50 rfl) (by rw [dj]; exact ⟨rfl, bS, bG, obB aL aX aR aU aO bo cp a5 (by rw [List.length_set, o5]; simp) (obv (obw (by simp; omega)) (by rw [o5]; simp; omega))⟩)
        · refine og (S' := [])  (fun _ k => XS.ifNo a7.here hx rfl (hd 35 rfl) rfl ((if0 _ _).trans (feq bk).1) k) ?_
          refine oc a7 hx (hd 36 rfl) rfl rfl ?_
          refine ol (fun _ k => XS.lloadN a7.here hx rfl (hd 37 rfl) rfl k) ?_
          refine og (S' := [(.int (q1.toInt32)), (.ref a0)])  (fun _ k => XS.l2i a7.here hx rfl (hd 38 rfl) rfl k) ?_
          refine o8 a7 hx hZ hown (hw 592 rfl) (hw 593 rfl) (hw 34 rfl) (hw 594 rfl) (hw 595 rfl) (hw 35 rfl) (by decide) (oiP l Z aw hw [] a0 (q1.toInt32) xs.length sh h0 n0 Z0 ae af aa ac ab ai hn) cH ae hml rfl rfl (rest := []) rfl (lenOf obi rfl) (hd 39 rfl) rfl fun dE cP dQ bq cx => ?_
          obtain ⟨rfl, bN, cA, be, bx, bB, da, dp, bu, bp, cr, bX⟩ := cx
          have bT := Fr.app bm bN
          have ax := ae.keep cA
          have bH := K0.trans cA (allS (Or.inl (List.mem_of_getElem? (i := 0) rfl)) all0)
          have cn := Nat.le_trans Z0 cA.1
          refine oJ (fun _ k => XS.goto bq.here hx rfl (pc0 := 85) (pc' := 93) rfl (hd 40 rfl) (by decide) (by decide) k) ?_
          refine oc bq hx (hd 44 rfl) rfl rfl ?_
          refine og (S' := [(.ref a0), (.ref a0)])  (fun _ k => XS.dup bq.here hx rfl (hd 45 rfl) rfl rfl k) ?_
          refine oi (getF bq hx hZ hown (host := "") (Or.inl (hw 375 rfl)) Via.refl rfl be rfl rfl (hd 46 rfl)) fun dF cj dk => ?_
          refine ol (v := (.int (1 : Int32))) (fun _ k => XS.iconst cj.here hx rfl (hd 47 rfl) k) ?_
          refine og (S' := [(.int ((Int32.ofNat xs.length) + (1 : Int32))), (.ref a0)])  (fun _ k => XS.iadd cj.here hx rfl (hd 48 rfl) rfl k) ?_
          refine ox (putF cj hx hZ hown (host := "") (Or.inl (hw 375 rfl)) Via.refl dk be ax (Or.inl (hw 376 rfl)) (hw 34 rfl) (ty := .int) (by decide) rfl rfl rfl rfl (hd 49 rfl)) fun dG dL cF dl ba => ?_
          have aM := ax.wr ba
          have aY := be.same ba
          have aS := bx.other ba (Or.inr (ob (Or.inl (hw 387 rfl)) (Or.inl (hw 376 rfl)) (by decide)))
          have aV := bB.other ba (Or.inr (ob (Or.inl (hw 385 rfl)) (Or.inl (hw 376 rfl)) (by decide)))
          have aP := bu.other ba (Or.inr (ob (Or.inl (hw 383 rfl)) (Or.inl (hw 376 rfl)) (by decide)))
          have a6 := bX.other ba (Ne.symm bp)
          have bI := bH.wr ba (Or.inl (List.mem_of_getElem? (i := 0) rfl))
          have cX := Nat.le_trans cn (Keep.of_wr ba).1
          have bU := Fr.snoc cF bT ai
          exact oG cF hx hlk (by decide) (by decide) Bd.returns (hd 50 rfl) (by rw [dl]; exact ⟨rfl, bU, bI, ocM aM aY aS aP aV bp cr a6 (by rw [List.length_set, o5]; simp) (ocG (ocH br (obz bk) (by simp; omega)) (by rw [o5]; simp; omega) (obz bj))⟩)
theorem obp (hw : oo Z aw) (ws : List Jvm.Cond) (a0 : Addr) (h0 : Heap) (n0 : Nat) (Z0 : n0 ≤ h0.size) :
    ot l Z (⟨"java/util/AbstractCollection", "<init>", "()V"⟩ : MethodName) jdk_22_method_1_code 1 none ws ({ frames := 1, cells := 0, slots := 0, locals := 12 } : Room) #[(.ref a0)] h0 (odG Z a0 h0 n0) := by
  refine ou (plainFor_of_name odE) (fun m => odF m a0) ?_
  intro p e s m below meth c aa Bd hml hx hby hlk hown hnm hZ X0 e0
  have hd := oq odD hby
  have N0 := Fr.nil n0
  have K0 : Keep h0 h0 [] := Keep.refl _ _
  refine oc X0 hx (hd 0 rfl) rfl rfl ?_
  refine oi (initO X0 hx hZ hown (hw 21 rfl) (hw 22 rfl) (hw 23 rfl) e0 rfl (by rw [hml]; rfl) rfl (hd 1 rfl) (by decide) (W := 0) (by show 2 * 0 + _ ≤ _; exact Nat.le_of_eq rfl) (by decide)) fun T1 X1 e1 => ?_
  exact oG X1 hx hlk (by decide) (by decide) Bd.returns (hd 2 rfl) (by rw [e1]; exact ⟨rfl, N0, rfl⟩)
theorem ocg (hw : oo Z aw) (ws : List Jvm.Cond) (a0 : Addr) (h0 : Heap) (n0 : Nat) (Z0 : n0 ≤ h0.size) :
    ot l Z (⟨"java/util/AbstractMap", "<init>", "()V"⟩ : MethodName) jdk_71_method_1_code 1 none ws ({ frames := 1, cells := 0, slots := 0, locals := 12 } : Room) #[(.ref a0)] h0 (odL Z a0 h0 n0) := by
  refine ou (plainFor_of_name odJ) (fun m => odK m a0) ?_
  intro p e s m below meth c aa Bd hml hx hby hlk hown hnm hZ X0 e0
  have hd := oq odI hby
  have N0 := Fr.nil n0
  have K0 : Keep h0 h0 [] := Keep.refl _ _
  refine oc X0 hx (hd 0 rfl) rfl rfl ?_
  refine oi (initO X0 hx hZ hown (hw 71 rfl) (hw 22 rfl) (hw 23 rfl) e0 rfl (by rw [hml]; rfl) rfl (hd 1 rfl) (by decide) (W := 0) (by show 2 * 0 + _ ≤ _; exact Nat.le_of_eq rfl) (by decide)) fun T1 X1 e1 => ?_
  exact oG X1 hx hlk (by decide) (by decide) Bd.returns (hd 2 rfl) (by rw [e1]; exact ⟨rfl, N0, rfl⟩)
theorem oiR (hw : oo Z aw) (ws : List Jvm.Cond) (a0 : Addr) (h0 : Heap) (n0 : Nat) (Z0 : n0 ≤ h0.size) :
    ot l Z (⟨"java/util/ImmutableCollections$AbstractImmutableCollection", "<init>", "()V"⟩ : MethodName) jdk_47_method_1_code 1 none ws ({ frames := 2, cells := 0, slots := 0, locals := 24 } : Room) #[(.ref a0)] h0 (odQ Z a0 h0 n0) := by
  refine ou (plainFor_of_name odO) (fun m => odP m a0) ?_
  intro p e s m below meth c ae Bd hml hx hby hlk hown hnm hZ X0 e0
  have hd := oq odN hby
  have N0 := Fr.nil n0
  have K0 : Keep h0 h0 [] := Keep.refl _ _
  refine oc X0 hx (hd 0 rfl) rfl rfl ?_
  refine oK X0 hx hZ hown (host := "") (Or.inl (hw 169 rfl)) (hw 16 rfl) (hw 20 rfl) (hw 19 rfl) rfl (by decide) (obp l Z aw hw [] a0 h0 n0 Z0 ) e0 hml rfl rfl (rest := []) rfl (lenOf oN rfl) (hd 1 rfl) rfl fun T1 af v1 X1 ac => ?_
  obtain ⟨rfl, aa, e1⟩ := ac
  have ab := Fr.app N0 aa
  exact oG X1 hx hlk (by decide) (by decide) Bd.returns (hd 2 rfl) (by rw [e1]; exact ⟨rfl, ab, rfl⟩)
theorem oiS (hw : oo Z aw) (ws : List Jvm.Cond) (a0 : Addr) (h0 : Heap) (n0 : Nat) (Z0 : n0 ≤ h0.size) :
    ot l Z (⟨"java/util/ImmutableCollections$AbstractImmutableList", "<init>", "()V"⟩ : MethodName) jdk_46_method_1_code 1 none ws ({ frames := 3, cells := 0, slots := 0, locals := 36 } : Room) #[(.ref a0)] h0 (odV Z a0 h0 n0) := by
  refine ou (plainFor_of_name odT) (fun m => odU m a0) ?_
  intro p e s m below meth c ae Bd hml hx hby hlk hown hnm hZ X0 e0
  have hd := oq odS hby
  have N0 := Fr.nil n0
  have K0 : Keep h0 h0 [] := Keep.refl _ _
  refine oc X0 hx (hd 0 rfl) rfl rfl ?_
  refine oK X0 hx hZ hown (host := "") (Or.inl (hw 163 rfl)) (hw 164 rfl) (hw 168 rfl) (hw 167 rfl) rfl (by decide) (oiR l Z aw hw [] a0 h0 n0 Z0 ) e0 hml rfl rfl (rest := []) rfl (lenOf oN rfl) (hd 1 rfl) rfl fun T1 af v1 X1 ac => ?_
  obtain ⟨rfl, aa, e1⟩ := ac
  have ab := Fr.app N0 aa
  exact oG X1 hx hlk (by decide) (by decide) Bd.returns (hd 2 rfl) (by rw [e1]; exact ⟨rfl, ab, rfl⟩)
theorem och (hw : oo Z aw) (ws : List Jvm.Cond) (a0 : Addr) (z : Int32) (h0 : Heap) (n0 : Nat) (Z0 : n0 ≤ h0.size) (ab : Exa Z h0 a0 "java/util/ArrayList") (aa : Fld Z h0 a0 "java/util/AbstractList" "modCount" "I" (.int z)) (ac : n0 ≤ a0) :
    ot l Z (⟨"java/util/AbstractList", "<init>", "()V"⟩ : MethodName) jdk_39_method_1_code 1 none ws ({ frames := 2, cells := 0, slots := 0, locals := 24 } : Room) #[(.ref a0)] h0 (od0 Z a0 z h0 n0) := by
  refine ou (plainFor_of_name odY) (fun m => odZ m a0) ?_
  intro p e s m below meth c ai Bd hml hx hby hlk hown hnm hZ X0 e0
  have hd := oq odX hby
  have N0 := Fr.nil n0
  have K0 : Keep h0 h0 [a0] := Keep.refl _ _
  refine oc X0 hx (hd 0 rfl) rfl rfl ?_
  refine oK X0 hx hZ hown (host := "") (Or.inl (hw 15 rfl)) (hw 16 rfl) (hw 20 rfl) (hw 19 rfl) rfl (by decide) (obp l Z aw hw [] a0 h0 n0 Z0 ) e0 hml rfl rfl (rest := []) rfl (lenOf oN rfl) (hd 1 rfl) rfl fun T1 ak v1 X1 ah => ?_
  obtain ⟨rfl, ae, e1⟩ := ah
  have af := Fr.app N0 ae
  refine oc X1 hx (hd 2 rfl) rfl rfl ?_
  refine ol (v := (.int (0 : Int32))) (fun _ k => XS.iconst X1.here hx rfl (hd 3 rfl) k) ?_
  refine ox (putF X1 hx hZ hown (host := "") (Or.inl (hw 24 rfl)) Via.refl e1 aa ab (Or.inl (hw 25 rfl)) (hw 4 rfl) (ty := .int) (by decide) rfl rfl rfl rfl (hd 4 rfl)) fun T2 h2 X2 e2 W2 => ?_
  replace ab := ab.wr W2
  replace aa := aa.same W2
  have aj := K0.wr W2 (Or.inl (List.mem_of_getElem? (i := 0) rfl))
  have ao := Nat.le_trans Z0 (Keep.of_wr W2).1
  have ag := Fr.snoc X2 af ac
  exact oG X2 hx hlk (by decide) (by decide) Bd.returns (hd 5 rfl) (by rw [e2]; exact ⟨rfl, ag, W2⟩)
theorem oci (hw : oo Z aw) (ws : List Jvm.Cond) (a0 : Addr) (kk : ov) (h0 : Heap) (n0 : Nat) (Z0 : n0 ≤ h0.size) (ae : Exa Z h0 a0 "java/util/ArrayList") (ab : Fld Z h0 a0 "java/util/AbstractList" "modCount" "I" (.int (0 : Int32))) (aa : Fld Z h0 a0 "java/util/ArrayList" "elementData" "[Ljava/lang/Object;" .null) (ac : Fld Z h0 a0 "java/util/ArrayList" "size" "I" (.int (0 : Int32))) (af : n0 ≤ a0) (J0 : oy Z h0 n0 kk) :
    ot l Z (⟨"java/util/ArrayList", "<init>", "()V"⟩ : MethodName) jdk_38_method_2_code 1 none ws ({ frames := 3, cells := 0, slots := 0, locals := 36 } : Room) #[(.ref a0)] h0 (od4 Z a0 kk h0 n0) := by
  refine ou (plainFor_of_name oab) (fun m => od3 m a0) ?_
  intro p e s m below meth c av Bd hml hx hby hlk hown hnm hZ X0 e0
  have hd := oq od2 hby
  have N0 := Fr.nil n0
  have K0 : Keep h0 h0 [a0] := Keep.refl _ _
  refine oc X0 hx (hd 0 rfl) rfl rfl ?_
  refine oK X0 hx hZ hown (host := "") (Or.inl (hw 9 rfl)) (hw 10 rfl) (hw 14 rfl) (hw 13 rfl) rfl (by decide) (och l Z aw hw [] a0 (0 : Int32) h0 n0 Z0 ae ab af) e0 hml rfl rfl (rest := []) rfl (lenOf oN rfl) (hd 1 rfl) rfl fun T1 ax v1 X1 au => ?_
  obtain ⟨rfl, aj, W1⟩ := au
  obtain ⟨h1, ag⟩ : ∃ z, z = T1.heap := ⟨_, rfl⟩
  rw [← ag] at W1
  have e1 := ag.symm
  have ak := Fr.app N0 aj
  replace ae := ae.wr W1
  replace ab := ab.same W1
  replace aa := aa.other W1 (Or.inr (ob (Or.inl (hw 28 rfl)) (Or.inl (hw 25 rfl)) (by decide)))
  replace ac := ac.other W1 (Or.inr (ob (Or.inl (hw 211 rfl)) (Or.inl (hw 25 rfl)) (by decide)))
  replace J0 := J0.keep (Keep.of_wr W1) (allS af all0)
  have ah := K0.wr W1 (Or.inl (List.mem_of_getElem? (i := 0) rfl))
  have aq := Nat.le_trans Z0 (Keep.of_wr W1).1
  have ao := ak
  refine oc X1 hx (hd 2 rfl) rfl rfl ?_
  refine oi (getS2 X1 hx hZ hown (host := "") (Or.inl (hw 26 rfl)) Via.refl e1 J0.de rfl (hd 3 rfl)) fun T2 X2 e2 => ?_
  show oe p.tables e below _ (T2.setTop (mkF m 8 #[.val (.ref a0)] [(.ref kk.de), (.ref a0)]))
  refine ox (putF X2 hx hZ hown (host := "") (Or.inl (hw 27 rfl)) Via.refl e2 aa ae (Or.inl (hw 28 rfl)) (hw 4 rfl) (ty := (.array (.object "java/lang/Object"))) (by decide) rfl rfl rfl rfl (hd 4 rfl)) fun T3 h3 X3 e3 W3 => ?_
  replace ae := ae.wr W3
  replace ab := ab.other W3 (Or.inr (ob (Or.inl (hw 25 rfl)) (Or.inl (hw 28 rfl)) (by decide)))
  replace aa := aa.same W3
  replace ac := ac.other W3 (Or.inr (ob (Or.inl (hw 211 rfl)) (Or.inl (hw 28 rfl)) (by decide)))
  replace J0 := J0.keep (Keep.of_wr W3) (allS af all0)
  have ai := ah.wr W3 (Or.inl (List.mem_of_getElem? (i := 0) rfl))
  have ay := Nat.le_trans aq (Keep.of_wr W3).1
  have ap := Fr.snoc X3 ao af
  exact oG X3 hx hlk (by decide) (by decide) Bd.returns (hd 5 rfl) (by rw [e3]; exact ⟨rfl, ap, ai, ae, ab, aa, ac⟩)
theorem ocj (hw : oo Z aw) (ws : List Jvm.Cond) (a0 : Addr) (z : UInt32) (h0 : Heap) (n0 : Nat) (Z0 : n0 ≤ h0.size) (ab : Exa Z h0 a0 "java/util/HashMap") (aa : Fld Z h0 a0 "java/util/HashMap" "loadFactor" "F" (.float z)) (ac : n0 ≤ a0) :
    ot l Z (⟨"java/util/HashMap", "<init>", "()V"⟩ : MethodName) jdk_69_method_7_code 1 none ws ({ frames := 2, cells := 0, slots := 0, locals := 24 } : Room) #[(.ref a0)] h0 (od6 Z a0 z h0 n0) := by
  refine ou (plainFor_of_name o6) (fun m => obK m a0) ?_
  intro p e s m below meth c ai Bd hml hx hby hlk hown hnm hZ X0 e0
  have hd := oq obJ hby
  have N0 := Fr.nil n0
  have K0 : Keep h0 h0 [a0] := Keep.refl _ _
  refine oc X0 hx (hd 0 rfl) rfl rfl ?_
  refine oK X0 hx hZ hown (host := "") (Or.inl (hw 65 rfl)) (hw 66 rfl) (hw 70 rfl) (hw 69 rfl) rfl (by decide) (ocg l Z aw hw [] a0 h0 n0 Z0 ) e0 hml rfl rfl (rest := []) rfl (lenOf oN rfl) (hd 1 rfl) rfl fun T1 ak v1 X1 ah => ?_
  obtain ⟨rfl, ae, e1⟩ := ah
  have af := Fr.app N0 ae
  refine oc X1 hx (hd 2 rfl) rfl rfl ?_
  refine ow (fun _ k => X1.ldcFloatC hx hown (mvT hZ (hw 72 rfl)) rfl (hd 3 rfl) _ k) ?_
  show oe p.tables e below _ (T1.setTop (mkF m 7 #[.val (.ref a0)] [(.float (1061158912 : UInt32)), (.ref a0)]))
  refine ox (putF X1 hx hZ hown (host := "") (Or.inl (hw 73 rfl)) Via.refl e1 aa ab (Or.inr ⟨(hw 74 rfl), rfl, hnm⟩) (hw 60 rfl) (ty := .float) (by decide) rfl rfl rfl rfl (hd 4 rfl)) fun T2 h2 X2 e2 W2 => ?_
  replace ab := ab.wr W2
  replace aa := aa.same W2
  have aj := K0.wr W2 (Or.inl (List.mem_of_getElem? (i := 0) rfl))
  have ao := Nat.le_trans Z0 (Keep.of_wr W2).1
  have ag := Fr.snoc X2 af ac
  exact oG X2 hx hlk (by decide) (by decide) Bd.returns (hd 5 rfl) (by rw [e2]; exact ⟨rfl, ag, W2⟩)
theorem oiT (hw : oo Z aw) (ws : List Jvm.Cond) (a0 : Addr) (z : UInt32) (h0 : Heap) (n0 : Nat) (Z0 : n0 ≤ h0.size) (ab : Exa Z h0 a0 "java/util/LinkedHashMap") (aa : Fld Z h0 a0 "java/util/HashMap" "loadFactor" "F" (.float z)) (ac : n0 ≤ a0) :
    ot l Z (⟨"java/util/HashMap", "<init>", "()V"⟩ : MethodName) jdk_69_method_7_code 1 none ws ({ frames := 2, cells := 0, slots := 0, locals := 24 } : Room) #[(.ref a0)] h0 (od7 Z a0 z h0 n0) := by
  refine ou (plainFor_of_name o6) (fun m => obK m a0) ?_
  intro p e s m below meth c ai Bd hml hx hby hlk hown hnm hZ X0 e0
  have hd := oq obJ hby
  have N0 := Fr.nil n0
  have K0 : Keep h0 h0 [a0] := Keep.refl _ _
  refine oc X0 hx (hd 0 rfl) rfl rfl ?_
  refine oK X0 hx hZ hown (host := "") (Or.inl (hw 65 rfl)) (hw 66 rfl) (hw 70 rfl) (hw 69 rfl) rfl (by decide) (ocg l Z aw hw [] a0 h0 n0 Z0 ) e0 hml rfl rfl (rest := []) rfl (lenOf oN rfl) (hd 1 rfl) rfl fun T1 ak v1 X1 ah => ?_
  obtain ⟨rfl, ae, e1⟩ := ah
  have af := Fr.app N0 ae
  refine oc X1 hx (hd 2 rfl) rfl rfl ?_
  refine ow (fun _ k => X1.ldcFloatC hx hown (mvT hZ (hw 72 rfl)) rfl (hd 3 rfl) _ k) ?_
  show oe p.tables e below _ (T1.setTop (mkF m 7 #[.val (.ref a0)] [(.float (1061158912 : UInt32)), (.ref a0)]))
  refine ox (putF X1 hx hZ hown (host := "") (Or.inl (hw 73 rfl)) Via.refl e1 aa ab (Or.inr ⟨(hw 126 rfl), rfl, hnm⟩) (hw 117 rfl) (ty := .float) (by decide) rfl rfl rfl rfl (hd 4 rfl)) fun T2 h2 X2 e2 W2 => ?_
  replace ab := ab.wr W2
  replace aa := aa.same W2
  have aj := K0.wr W2 (Or.inl (List.mem_of_getElem? (i := 0) rfl))
  have ao := Nat.le_trans Z0 (Keep.of_wr W2).1
  have ag := Fr.snoc X2 af ac
  exact oG X2 hx hlk (by decide) (by decide) Bd.returns (hd 5 rfl) (by rw [e2]; exact ⟨rfl, ag, W2⟩)
theorem oaI (hw : oo Z aw) (ws : List Jvm.Cond) (a0 : Addr) (kk : ov) (h0 : Heap) (n0 : Nat) (Z0 : n0 ≤ h0.size) (ao : Exa Z h0 a0 "com/example/restate/restate/model/CensusColumns$Codes") (ab : Fld Z h0 a0 "com/example/restate/restate/model/CensusColumns$Codes" "values" "Ljava/util/List;" .null) (aa : Fld Z h0 a0 "com/example/restate/restate/model/CensusColumns$Codes" "places" "Ljava/util/Map;" .null) (ac : Fld Z h0 a0 "com/example/restate/restate/model/CensusColumns$Codes" "codes" "Lcom/example/restate/restate/model/LongColumn;" .null) (aG : n0 ≤ a0) (J0 : oy Z h0 n0 kk) :
    ot l Z (⟨"com/example/restate/restate/model/CensusColumns$Codes", "<init>", "()V"⟩ : MethodName) prog_33_method_1_code 1 none ws ({ frames := 4, cells := 3, slots := 15, locals := 50 } : Room) #[(.ref a0)] h0 (oeb Z a0 kk h0 n0) := by
  refine ou (plainFor_of_name obj) (fun m => oea m a0) ?_
  intro p e s m below meth c bt Bd hml hx hby hlk hown hnm hZ X0 e0
  have hd := oq od9 hby
  have N0 := Fr.nil n0
  have K0 : Keep h0 h0 [a0] := Keep.refl _ _
  refine oc X0 hx (hd 0 rfl) rfl rfl ?_
  refine oi (initO X0 hx hZ hown (hw 54 rfl) (hw 22 rfl) (hw 23 rfl) e0 rfl (by rw [hml]; rfl) rfl (hd 1 rfl) (by decide) (W := 0) (by show 2 * 0 + _ ≤ _; exact Nat.le_of_eq rfl) (by decide)) fun T1 X1 e1 => ?_
  refine oc X1 hx (hd 2 rfl) rfl rfl ?_
  obtain ⟨T2, h2, X2, e2, E2, A2, D2, -, aY⟩ := newO X1 hx hZ hown (hw 55 rfl) (hw 4 rfl) (hw 5 rfl) e1 (g := (mkF m 5 #[.val (.ref a0)] [(.ref a0)])) rfl (hd 3 rfl) (by decide) (by decide)
  obtain ⟨b2, g2⟩ : ∃ z, z = h0.size := ⟨_, rfl⟩
  rw [← g2] at A2 D2 aY
  refine ow aY ?_
  have ah := os ao.lt g2
  have aI := om Z0 g2
  have aL := om K0.1 g2
  replace ao := ao.ext E2
  replace ab := ab.ext E2
  replace aa := aa.ext E2
  replace ac := ac.ext E2
  replace J0 := J0.keep (op E2) all0
  have a7 := K0.ext E2
  have aS := Nat.le_trans Z0 E2.1
  have aB : Fld Z h2 b2 "java/util/AbstractList" "modCount" "I" (.int (0 : Int32)) := D2 (Or.inl (hw 25 rfl)) (ty := .int) (by decide)
  have ax : Fld Z h2 b2 "java/util/ArrayList" "elementData" "[Ljava/lang/Object;" .null := D2 (Or.inl (hw 28 rfl)) (ty := (.array (.object "java/lang/Object"))) (by decide)
  have aC : Fld Z h2 b2 "java/util/ArrayList" "size" "I" (.int (0 : Int32)) := D2 (Or.inl (hw 211 rfl)) (ty := .int) (by decide)
  show oe p.tables e below _ (T2.setTop (mkF m 8 #[.val (.ref a0)] [(.ref b2), (.ref a0)]))
  refine og (S' := [(.ref b2), (.ref b2), (.ref a0)])  (fun _ k => XS.dup X2.here hx rfl (hd 4 rfl) rfl rfl k) ?_
  refine oK X2 hx hZ hown (host := "") (Or.inl (hw 56 rfl)) (hw 7 rfl) (hw 8 rfl) (hw 5 rfl) rfl (by decide) (oci l Z aw hw [] b2 kk h2 n0 aS A2 aB ax aC aI J0) e2 hml rfl rfl (rest := [(.ref b2), (.ref a0)]) rfl (lenOf oN rfl) (hd 5 rfl) rfl fun T3 bu v3 X3 bq => ?_
  obtain ⟨rfl, bc, k3, Q3⟩ := bq
  have bg := Fr.app N0 bc
  replace ao := ao.keep k3
  replace ab := ab.keep k3 (oa ah)
  replace aa := aa.keep k3 (oa ah)
  replace ac := ac.keep k3 (oa ah)
  replace J0 := J0.keep k3 (allS aI all0)
  replace A2 := A2.keep k3
  have a8 := a7.trans k3 (allS (Or.inr aL) all0)
  have bm := Nat.le_trans aS k3.1
  obtain ⟨-, aE, aD, aF⟩ := Q3
  refine ox (putF X3 hx hZ hown (host := "") (Or.inl (hw 57 rfl)) Via.refl rfl ab ao (Or.inr ⟨(hw 58 rfl), rfl, hnm⟩) (hw 49 rfl) (ty := (.object "java/util/List")) (by decide) rfl rfl rfl rfl (hd 6 rfl)) fun T4 h4 X4 e4 W4 => ?_
  replace ao := ao.wr W4
  replace ab := ab.same W4
  replace aa := aa.other W4 (Or.inr (ob (Or.inr (hw 76 rfl)) (Or.inr (hw 58 rfl)) (by decide)))
  replace ac := ac.other W4 (Or.inr (ob (Or.inr (hw 80 rfl)) (Or.inr (hw 58 rfl)) (by decide)))
  replace J0 := J0.keep (Keep.of_wr W4) (allS aG all0)
  replace A2 := A2.wr W4
  replace aE := aE.other W4 (Or.inl (Ne.symm (od ah)))
  replace aD := aD.other W4 (Or.inl (Ne.symm (od ah)))
  replace aF := aF.other W4 (Or.inl (Ne.symm (od ah)))
  have aP := a8.wr W4 (Or.inl (List.mem_of_getElem? (i := 0) rfl))
  have aT := Nat.le_trans bm (Keep.of_wr W4).1
  have bh := Fr.snoc X4 bg aG
  refine oc X4 hx (hd 7 rfl) rfl rfl ?_
  obtain ⟨T5, h5, X5, e5, E5, A5, D5, -, aZ⟩ := newO X4 hx hZ hown (hw 59 rfl) (hw 60 rfl) (hw 61 rfl) e4 (g := (mkF m 16 #[.val (.ref a0)] [(.ref a0)])) rfl (hd 8 rfl) (by decide) (by decide)
  obtain ⟨b5, g5⟩ : ∃ z, z = h4.size := ⟨_, rfl⟩
  rw [← g5] at A5 D5 aZ
  refine ow aZ ?_
  have ai := os ao.lt g5
  have av := os A2.lt g5
  have aJ := om aT g5
  have aM := om aP.1 g5
  replace ao := ao.ext E5
  replace ab := ab.ext E5
  replace aa := aa.ext E5
  replace ac := ac.ext E5
  replace J0 := J0.keep (op E5) all0
  replace A2 := A2.ext E5
  replace aE := aE.ext E5
  replace aD := aD.ext E5
  replace aF := aF.ext E5
  have a9 := aP.ext E5
  have aU := Nat.le_trans aT E5.1
  have ae : Fld Z h5 b5 "java/util/HashMap" "loadFactor" "F" (.float (0 : UInt32)) := D5 (Or.inr (hw 74 rfl)) (ty := .float) (by decide)
  have aj : Fld Z h5 b5 "java/util/HashMap" "table" "[Ljava/util/HashMap$Node;" .null := D5 (Or.inl (hw 459 rfl)) (ty := (.array (.object "java/util/HashMap$Node"))) (by decide)
  have af : Fld Z h5 b5 "java/util/HashMap" "threshold" "I" (.int (0 : Int32)) := D5 (Or.inl (hw 517 rfl)) (ty := .int) (by decide)
  have ag : Fld Z h5 b5 "java/util/HashMap" "modCount" "I" (.int (0 : Int32)) := D5 (Or.inl (hw 541 rfl)) (ty := .int) (by decide)
  have ak : Fld Z h5 b5 "java/util/HashMap" "size" "I" (.int (0 : Int32)) := D5 (Or.inl (hw 543 rfl)) (ty := .int) (by decide)
  show oe p.tables e below _ (T5.setTop (mkF m 19 #[.val (.ref a0)] [(.ref b5), (.ref a0)]))
  refine og (S' := [(.ref b5), (.ref b5), (.ref a0)])  (fun _ k => XS.dup X5.here hx rfl (hd 9 rfl) rfl rfl k) ?_
  refine oK X5 hx hZ hown (host := "") (Or.inl (hw 62 rfl)) (hw 63 rfl) (hw 64 rfl) (hw 61 rfl) rfl (by decide) (ocj l Z aw hw [] b5 (0 : UInt32) h5 n0 aU A5 ae aJ) e5 hml rfl rfl (rest := [(.ref b5), (.ref a0)]) rfl (lenOf oN rfl) (hd 10 rfl) rfl fun T6 bv v6 X6 br => ?_
  obtain ⟨rfl, bd, W6⟩ := br
  obtain ⟨h6, aX⟩ : ∃ z, z = T6.heap := ⟨_, rfl⟩
  rw [← aX] at W6
  have e6 := aX.symm
  have be := Fr.app bh bd
  replace ao := ao.wr W6
  replace ab := ab.other W6 (Or.inl (od ai))
  replace aa := aa.other W6 (Or.inl (od ai))
  replace ac := ac.other W6 (Or.inl (od ai))
  replace J0 := J0.keep (Keep.of_wr W6) (allS aJ all0)
  replace A2 := A2.wr W6
  replace aE := aE.other W6 (Or.inl (od av))
  replace aD := aD.other W6 (Or.inl (od av))
  replace aF := aF.other W6 (Or.inl (od av))
  replace A5 := A5.wr W6
  replace ae := ae.same W6
  replace aj := aj.other W6 (Or.inr (ob (Or.inl (hw 459 rfl)) (Or.inr (hw 74 rfl)) (by decide)))
  replace af := af.other W6 (Or.inr (ob (Or.inl (hw 517 rfl)) (Or.inr (hw 74 rfl)) (by decide)))
  replace ag := ag.other W6 (Or.inr (ob (Or.inl (hw 541 rfl)) (Or.inr (hw 74 rfl)) (by decide)))
  replace ak := ak.other W6 (Or.inr (ob (Or.inl (hw 543 rfl)) (Or.inr (hw 74 rfl)) (by decide)))
  have ba := a9.wr W6 (Or.inr aM)
  have bn := Nat.le_trans aU (Keep.of_wr W6).1
  have bi := be
  refine ox (putF X6 hx hZ hown (host := "") (Or.inl (hw 75 rfl)) Via.refl e6 aa ao (Or.inr ⟨(hw 76 rfl), rfl, hnm⟩) (hw 49 rfl) (ty := (.object "java/util/Map")) (by decide) rfl rfl rfl rfl (hd 11 rfl)) fun T7 h7 X7 e7 W7 => ?_
  replace ao := ao.wr W7
  replace ab := ab.other W7 (Or.inr (ob (Or.inr (hw 58 rfl)) (Or.inr (hw 76 rfl)) (by decide)))
  replace aa := aa.same W7
  replace ac := ac.other W7 (Or.inr (ob (Or.inr (hw 80 rfl)) (Or.inr (hw 76 rfl)) (by decide)))
  replace J0 := J0.keep (Keep.of_wr W7) (allS aG all0)
  replace A2 := A2.wr W7
  replace aE := aE.other W7 (Or.inl (Ne.symm (od ah)))
  replace aD := aD.other W7 (Or.inl (Ne.symm (od ah)))
  replace aF := aF.other W7 (Or.inl (Ne.symm (od ah)))
  replace A5 := A5.wr W7
  replace ae := ae.other W7 (Or.inl (Ne.symm (od ai)))
  replace aj := aj.other W7 (Or.inl (Ne.symm (od ai)))
  replace af := af.other W7 (Or.inl (Ne.symm (od ai)))
  replace ag := ag.other W7 (Or.inl (Ne.symm (od ai)))
  replace ak := ak.other W7 (Or.inl (Ne.symm (od ai)))
  have aQ := ba.wr W7 (Or.inl (List.mem_of_getElem? (i := 0) rfl))
  have aV := Nat.le_trans bn (Keep.of_wr W7).1
  have bj := Fr.snoc X7 bi aG
  refine oc X7 hx (hd 12 rfl) rfl rfl ?_
  obtain ⟨T8, h8, X8, e8, E8, A8, D8, -, a5⟩ := newO X7 hx hZ hown (hw 77 rfl) (hw 34 rfl) (hw 35 rfl) e7 (g := (mkF m 27 #[.val (.ref a0)] [(.ref a0)])) rfl (hd 13 rfl) (by decide) (by decide)
  obtain ⟨b8, g8⟩ : ∃ z, z = h7.size := ⟨_, rfl⟩
  rw [← g8] at A8 D8 a5
  refine ow a5 ?_
  have au := os ao.lt g8
  have aK := os A2.lt g8
  have aH := os A5.lt g8
  have bp := om aV g8
  have a6 := om aQ.1 g8
  replace ao := ao.ext E8
  replace ab := ab.ext E8
  replace aa := aa.ext E8
  replace ac := ac.ext E8
  replace J0 := J0.keep (op E8) all0
  replace A2 := A2.ext E8
  replace aE := aE.ext E8
  replace aD := aD.ext E8
  replace aF := aF.ext E8
  replace A5 := A5.ext E8
  replace ae := ae.ext E8
  replace aj := aj.ext E8
  replace af := af.ext E8
  replace ag := ag.ext E8
  replace ak := ak.ext E8
  have bb := aQ.ext E8
  have aW := Nat.le_trans aV E8.1
  have az : Fld Z h8 b8 "com/example/restate/restate/model/LongColumn" "size" "I" (.int (0 : Int32)) := D8 (Or.inl (hw 376 rfl)) (ty := .int) (by decide)
  have ay : Fld Z h8 b8 "com/example/restate/restate/model/LongColumn" "ints" "[I" .null := D8 (Or.inl (hw 383 rfl)) (ty := (.array .int)) (by decide)
  have aq : Fld Z h8 b8 "com/example/restate/restate/model/LongColumn" "longs" "[J" .null := D8 (Or.inl (hw 385 rfl)) (ty := (.array .long)) (by decide)
  have ap : Fld Z h8 b8 "com/example/restate/restate/model/LongColumn" "shared" "J" (.long (0 : Int64)) := D8 (Or.inl (hw 387 rfl)) (ty := .long) (by decide)
  show oe p.tables e below _ (T8.setTop (mkF m 30 #[.val (.ref a0)] [(.ref b8), (.ref a0)]))
  refine og (S' := [(.ref b8), (.ref b8), (.ref a0)])  (fun _ k => XS.dup X8.here hx rfl (hd 14 rfl) rfl rfl k) ?_
  refine oK X8 hx hZ hown (host := "") (Or.inl (hw 78 rfl)) (hw 37 rfl) (hw 38 rfl) (hw 35 rfl) rfl (by decide) (obo l Z aw hw [] b8 h8 n0 aW ) e8 hml rfl rfl (rest := [(.ref b8), (.ref a0)]) rfl (lenOf oN rfl) (hd 15 rfl) rfl fun T9 bw v9 X9 bs => ?_
  obtain ⟨rfl, bf, e9⟩ := bs
  have bk := Fr.app bj bf
  refine ox (putF X9 hx hZ hown (host := "") (Or.inl (hw 79 rfl)) Via.refl e9 ac ao (Or.inr ⟨(hw 80 rfl), rfl, hnm⟩) (hw 49 rfl) (ty := (.object "com/example/restate/restate/model/LongColumn")) (by decide) rfl rfl rfl rfl (hd 16 rfl)) fun bx bz aR bo aA => ?_
  replace ao := ao.wr aA
  replace ab := ab.other aA (Or.inr (ob (Or.inr (hw 58 rfl)) (Or.inr (hw 80 rfl)) (by decide)))
  replace aa := aa.other aA (Or.inr (ob (Or.inr (hw 76 rfl)) (Or.inr (hw 80 rfl)) (by decide)))
  replace ac := ac.same aA
  replace J0 := J0.keep (Keep.of_wr aA) (allS aG all0)
  replace A2 := A2.wr aA
  replace aE := aE.other aA (Or.inl (Ne.symm (od ah)))
  replace aD := aD.other aA (Or.inl (Ne.symm (od ah)))
  replace aF := aF.other aA (Or.inl (Ne.symm (od ah)))
  replace A5 := A5.wr aA
  replace ae := ae.other aA (Or.inl (Ne.symm (od ai)))
  replace aj := aj.other aA (Or.inl (Ne.symm (od ai)))
  replace af := af.other aA (Or.inl (Ne.symm (od ai)))
  replace ag := ag.other aA (Or.inl (Ne.symm (od ai)))
  replace ak := ak.other aA (Or.inl (Ne.symm (od ai)))
  replace A8 := A8.wr aA
  replace az := az.other aA (Or.inl (Ne.symm (od au)))
  replace ay := ay.other aA (Or.inl (Ne.symm (od au)))
  replace aq := aq.other aA (Or.inl (Ne.symm (od au)))
  replace ap := ap.other aA (Or.inl (Ne.symm (od au)))
  have aN := bb.wr aA (Or.inl (List.mem_of_getElem? (i := 0) rfl))
  have bl := Nat.le_trans aW (Keep.of_wr aA).1
  have aO := Fr.snoc aR bk aG
  exact oG aR hx hlk (by decide) (by decide) Bd.returns (hd 17 rfl) (by rw [bo]; exact ⟨rfl, aO, aN, b8 + 1, b2, b5, b8, ⟨ah, av, aH, Nat.lt_succ_self _, A8.lt⟩, ⟨ao, ab, aa, ac⟩, ⟨A2, aE, aD, aF⟩, ⟨A5, aj, af, ak, ag⟩, ⟨A8, az, ap, ay, aq⟩⟩)
theorem oa5 (hw : oo Z aw) (ws : List Jvm.Cond) (a0 : Addr) (h0 : Heap) (n0 : Nat) (Z0 : n0 ≤ h0.size) (av : Exa Z h0 a0 "com/example/restate/restate/model/AmountColumn") (ac : Fld Z h0 a0 "com/example/restate/restate/model/AmountColumn" "cents" "Lcom/example/restate/restate/model/LongColumn;" .null) (aa : Fld Z h0 a0 "com/example/restate/restate/model/AmountColumn" "complete" "Z" (.int (0 : Int32))) (ab : Fld Z h0 a0 "com/example/restate/restate/model/AmountColumn" "others" "Ljava/util/Map;" .null) (ay : n0 ≤ a0) :
    ot l Z (⟨"com/example/restate/restate/model/AmountColumn", "<init>", "()V"⟩ : MethodName) prog_28_method_1_code 1 none ws ({ frames := 3, cells := 2, slots := 12, locals := 38 } : Room) #[(.ref a0)] h0 (oef Z a0 h0 n0) := by
  refine ou (plainFor_of_name oa2) (fun m => oee m a0) ?_
  intro p e s m below meth c aY Bd hml hx hby hlk hown hnm hZ X0 e0
  have hd := oq oed hby
  have N0 := Fr.nil n0
  have K0 : Keep h0 h0 [a0] := Keep.refl _ _
  refine oc X0 hx (hd 0 rfl) rfl rfl ?_
  refine oi (initO X0 hx hZ hown (hw 99 rfl) (hw 22 rfl) (hw 23 rfl) e0 rfl (by rw [hml]; rfl) rfl (hd 1 rfl) (by decide) (W := 0) (by show 2 * 0 + _ ≤ _; exact Nat.le_of_eq rfl) (by decide)) fun T1 X1 e1 => ?_
  refine oc X1 hx (hd 2 rfl) rfl rfl ?_
  obtain ⟨T2, h2, X2, e2, E2, A2, D2, -, aG⟩ := newO X1 hx hZ hown (hw 100 rfl) (hw 34 rfl) (hw 35 rfl) e1 (g := (mkF m 5 #[.val (.ref a0)] [(.ref a0)])) rfl (hd 3 rfl) (by decide) (by decide)
  obtain ⟨b2, g2⟩ : ∃ z, z = h0.size := ⟨_, rfl⟩
  rw [← g2] at A2 D2 aG
  refine ow aG ?_
  have ak := os av.lt g2
  have aV := om Z0 g2
  have aI := om K0.1 g2
  replace av := av.ext E2
  replace ac := ac.ext E2
  replace aa := aa.ext E2
  replace ab := ab.ext E2
  have aJ := K0.ext E2
  have aC := Nat.le_trans Z0 E2.1
  have ai : Fld Z h2 b2 "com/example/restate/restate/model/LongColumn" "size" "I" (.int (0 : Int32)) := D2 (Or.inl (hw 376 rfl)) (ty := .int) (by decide)
  have ah : Fld Z h2 b2 "com/example/restate/restate/model/LongColumn" "ints" "[I" .null := D2 (Or.inl (hw 383 rfl)) (ty := (.array .int)) (by decide)
  have af : Fld Z h2 b2 "com/example/restate/restate/model/LongColumn" "longs" "[J" .null := D2 (Or.inl (hw 385 rfl)) (ty := (.array .long)) (by decide)
  have ae : Fld Z h2 b2 "com/example/restate/restate/model/LongColumn" "shared" "J" (.long (0 : Int64)) := D2 (Or.inl (hw 387 rfl)) (ty := .long) (by decide)
  show oe p.tables e below _ (T2.setTop (mkF m 8 #[.val (.ref a0)] [(.ref b2), (.ref a0)]))
  refine og (S' := [(.ref b2), (.ref b2), (.ref a0)])  (fun _ k => XS.dup X2.here hx rfl (hd 4 rfl) rfl rfl k) ?_
  refine oK X2 hx hZ hown (host := "") (Or.inl (hw 101 rfl)) (hw 37 rfl) (hw 38 rfl) (hw 35 rfl) rfl (by decide) (obo l Z aw hw [] b2 h2 n0 aC ) e2 hml rfl rfl (rest := [(.ref b2), (.ref a0)]) rfl (lenOf oN rfl) (hd 5 rfl) rfl fun T3 aZ v3 X3 aW => ?_
  obtain ⟨rfl, aN, e3⟩ := aW
  have aQ := Fr.app N0 aN
  refine ox (putF X3 hx hZ hown (host := "") (Or.inl (hw 102 rfl)) Via.refl e3 ac av (Or.inr ⟨(hw 103 rfl), rfl, hnm⟩) (hw 94 rfl) (ty := (.object "com/example/restate/restate/model/LongColumn")) (by decide) rfl rfl rfl rfl (hd 6 rfl)) fun T4 h4 X4 e4 W4 => ?_
  replace av := av.wr W4
  replace ac := ac.same W4
  replace aa := aa.other W4 (Or.inr (ob (Or.inl (hw 572 rfl)) (Or.inr (hw 103 rfl)) (by decide)))
  replace ab := ab.other W4 (Or.inr (ob (Or.inr (hw 107 rfl)) (Or.inr (hw 103 rfl)) (by decide)))
  replace A2 := A2.wr W4
  replace ai := ai.other W4 (Or.inl (Ne.symm (od ak)))
  replace ah := ah.other W4 (Or.inl (Ne.symm (od ak)))
  replace af := af.other W4 (Or.inl (Ne.symm (od ak)))
  replace ae := ae.other W4 (Or.inl (Ne.symm (od ak)))
  have aB := aJ.wr W4 (Or.inl (List.mem_of_getElem? (i := 0) rfl))
  have aD := Nat.le_trans aC (Keep.of_wr W4).1
  have aR := Fr.snoc X4 aQ ay
  refine oc X4 hx (hd 7 rfl) rfl rfl ?_
  obtain ⟨T5, h5, X5, e5, E5, A5, D5, -, aH⟩ := newO X4 hx hZ hown (hw 104 rfl) (hw 60 rfl) (hw 61 rfl) e4 (g := (mkF m 16 #[.val (.ref a0)] [(.ref a0)])) rfl (hd 8 rfl) (by decide) (by decide)
  obtain ⟨b5, g5⟩ : ∃ z, z = h4.size := ⟨_, rfl⟩
  rw [← g5] at A5 D5 aH
  refine ow aH ?_
  have ap := os av.lt g5
  have ax := os A2.lt g5
  have aA := om aD g5
  have az := om aB.1 g5
  replace av := av.ext E5
  replace ac := ac.ext E5
  replace aa := aa.ext E5
  replace ab := ab.ext E5
  replace A2 := A2.ext E5
  replace ai := ai.ext E5
  replace ah := ah.ext E5
  replace af := af.ext E5
  replace ae := ae.ext E5
  have aK := aB.ext E5
  have aE := Nat.le_trans aD E5.1
  have ag : Fld Z h5 b5 "java/util/HashMap" "loadFactor" "F" (.float (0 : UInt32)) := D5 (Or.inr (hw 74 rfl)) (ty := .float) (by decide)
  have aq : Fld Z h5 b5 "java/util/HashMap" "table" "[Ljava/util/HashMap$Node;" .null := D5 (Or.inl (hw 459 rfl)) (ty := (.array (.object "java/util/HashMap$Node"))) (by decide)
  have aj : Fld Z h5 b5 "java/util/HashMap" "threshold" "I" (.int (0 : Int32)) := D5 (Or.inl (hw 517 rfl)) (ty := .int) (by decide)
  have ao : Fld Z h5 b5 "java/util/HashMap" "modCount" "I" (.int (0 : Int32)) := D5 (Or.inl (hw 541 rfl)) (ty := .int) (by decide)
  have au : Fld Z h5 b5 "java/util/HashMap" "size" "I" (.int (0 : Int32)) := D5 (Or.inl (hw 543 rfl)) (ty := .int) (by decide)
  show oe p.tables e below _ (T5.setTop (mkF m 19 #[.val (.ref a0)] [(.ref b5), (.ref a0)]))
  refine og (S' := [(.ref b5), (.ref b5), (.ref a0)])  (fun _ k => XS.dup X5.here hx rfl (hd 9 rfl) rfl rfl k) ?_
  refine oK X5 hx hZ hown (host := "") (Or.inl (hw 105 rfl)) (hw 63 rfl) (hw 64 rfl) (hw 61 rfl) rfl (by decide) (ocj l Z aw hw [] b5 (0 : UInt32) h5 n0 aE A5 ag aA) e5 hml rfl rfl (rest := [(.ref b5), (.ref a0)]) rfl (lenOf oN rfl) (hd 10 rfl) rfl fun T6 a5 v6 X6 aX => ?_
  obtain ⟨rfl, aO, W6⟩ := aX
  obtain ⟨h6, aF⟩ : ∃ z, z = T6.heap := ⟨_, rfl⟩
  rw [← aF] at W6
  have e6 := aF.symm
  have aP := Fr.app aR aO
  replace av := av.wr W6
  replace ac := ac.other W6 (Or.inl (od ap))
  replace aa := aa.other W6 (Or.inl (od ap))
  replace ab := ab.other W6 (Or.inl (od ap))
  replace A2 := A2.wr W6
  replace ai := ai.other W6 (Or.inl (od ax))
  replace ah := ah.other W6 (Or.inl (od ax))
  replace af := af.other W6 (Or.inl (od ax))
  replace ae := ae.other W6 (Or.inl (od ax))
  replace A5 := A5.wr W6
  replace ag := ag.same W6
  replace aq := aq.other W6 (Or.inr (ob (Or.inl (hw 459 rfl)) (Or.inr (hw 74 rfl)) (by decide)))
  replace aj := aj.other W6 (Or.inr (ob (Or.inl (hw 517 rfl)) (Or.inr (hw 74 rfl)) (by decide)))
  replace ao := ao.other W6 (Or.inr (ob (Or.inl (hw 541 rfl)) (Or.inr (hw 74 rfl)) (by decide)))
  replace au := au.other W6 (Or.inr (ob (Or.inl (hw 543 rfl)) (Or.inr (hw 74 rfl)) (by decide)))
  have aL := aK.wr W6 (Or.inr az)
  have aU := Nat.le_trans aE (Keep.of_wr W6).1
  have aS := aP
  refine ox (putF X6 hx hZ hown (host := "") (Or.inl (hw 106 rfl)) Via.refl e6 ab av (Or.inr ⟨(hw 107 rfl), rfl, hnm⟩) (hw 94 rfl) (ty := (.object "java/util/Map")) (by decide) rfl rfl rfl rfl (hd 11 rfl)) fun T7 h7 X7 e7 W7 => ?_
  replace av := av.wr W7
  replace ac := ac.other W7 (Or.inr (ob (Or.inr (hw 103 rfl)) (Or.inr (hw 107 rfl)) (by decide)))
  replace aa := aa.other W7 (Or.inr (ob (Or.inl (hw 572 rfl)) (Or.inr (hw 107 rfl)) (by decide)))
  replace ab := ab.same W7
  replace A2 := A2.wr W7
  replace ai := ai.other W7 (Or.inl (Ne.symm (od ak)))
  replace ah := ah.other W7 (Or.inl (Ne.symm (od ak)))
  replace af := af.other W7 (Or.inl (Ne.symm (od ak)))
  replace ae := ae.other W7 (Or.inl (Ne.symm (od ak)))
  replace A5 := A5.wr W7
  replace ag := ag.other W7 (Or.inl (Ne.symm (od ap)))
  replace aq := aq.other W7 (Or.inl (Ne.symm (od ap)))
  replace aj := aj.other W7 (Or.inl (Ne.symm (od ap)))
  replace ao := ao.other W7 (Or.inl (Ne.symm (od ap)))
  replace au := au.other W7 (Or.inl (Ne.symm (od ap)))
  have aM := aL.wr W7 (Or.inl (List.mem_of_getElem? (i := 0) rfl))
  have a6 := Nat.le_trans aU (Keep.of_wr W7).1
  have aT := Fr.snoc X7 aS ay
  exact oG X7 hx hlk (by decide) (by decide) Bd.returns (hd 12 rfl) (by rw [e7]; exact ⟨rfl, aT, aM, b2 + 1, b2, ⟨ak, Nat.lt_succ_self _, A2.lt⟩, av, ac, aa, ⟨A2, ai, ae, ah, af⟩⟩)
theorem oa6 (hw : oo Z aw) (ws : List Jvm.Cond) (a0 : Addr) (h0 : Heap) (n0 : Nat) (Z0 : n0 ≤ h0.size) :
    ot l Z (⟨"java/util/Objects", "requireNonNull", "(Ljava/lang/Object;)Ljava/lang/Object;"⟩ : MethodName) jdk_31_method_10_code 1 (some (.object "java/lang/Object")) ws ({ frames := 0, cells := 0, slots := 0, locals := 0 } : Room) #[(.ref a0)] h0 (oej Z a0 h0 n0) := by
  refine ou (plainFor_of_name obL) (fun m => oei m a0) ?_
  intro p e s m below meth c aa Bd hml hx hby hlk hown hnm hZ X0 e0
  have hd := oq oeh hby
  have N0 := Fr.nil n0
  have K0 : Keep h0 h0 [] := Keep.refl _ _
  refine oc X0 hx (hd 0 rfl) rfl rfl ?_
  refine oC (S' := [])  (fun _ k => XS.ifnonnullYes X0.here hx rfl (pc0 := 1) (pc' := 12) rfl (hd 1 rfl) rfl (by decide) (by decide) k) ?_
  refine oc X0 hx (hd 2 rfl) rfl rfl ?_
  exact oO X0 hx hlk (by decide) (by decide) Bd.returns rfl rfl (hd 3 rfl) (by rw [e0]; exact ⟨rfl, N0, rfl⟩)
theorem oiU (hw : oo Z aw) (ws : List Jvm.Cond) (p0 : Int32) (p1 : Int32) (h0 : Heap) (n0 : Nat) (Z0 : n0 ≤ h0.size) :
    ot l Z (⟨"java/lang/Math", "min", "(II)I"⟩ : MethodName) jdk_29_method_69_code 2 (some .int) ws ({ frames := 0, cells := 0, slots := 0, locals := 0 } : Room) #[(.int p0), (.int p1)] h0 (oen Z p0 p1 h0 n0) := by
  refine ou (Jvm.Free.JP.mathPlain rfl (by decide +kernel)) (fun m => oem m p0 p1) ?_
  intro p e s m below meth c ab Bd hml hx hby hlk hown hnm hZ X0 e0
  have hd := oq oel hby
  have N0 := Fr.nil n0
  have K0 : Keep h0 h0 [] := Keep.refl _ _
  refine oj X0 hx (hd 0 rfl) rfl ?_
  refine oj X0 hx (hd 1 rfl) rfl ?_
  by_cases aa : p1 < p0
  · refine oC (S' := [])  (fun _ k => XS.icmpYes X0.here hx rfl (pc0 := 2) (pc' := 9) rfl (hd 2 rfl) rfl (tlt aa).2.2.1 (by decide) (by decide) k) ?_
    refine oj X0 hx (hd 5 rfl) rfl ?_
    exact oQ X0 hx hlk (by decide) (by decide) Bd.returns (hd 6 rfl) (by rw [e0]; exact ⟨by rw [show oaE p0 p1 = p1 by simp [oaE, aa]], N0, rfl⟩)
  · refine og (S' := [])  (fun _ k => XS.icmpNo X0.here hx rfl (hd 2 rfl) rfl (flt aa).2.2.1 k) ?_
    refine oj X0 hx (hd 3 rfl) rfl ?_
    refine oJ (fun _ k => XS.goto X0.here hx rfl (pc0 := 6) (pc' := 10) rfl (hd 4 rfl) (by decide) (by decide) k) ?_
    exact oQ X0 hx hlk (by decide) (by decide) Bd.returns (hd 6 rfl) (by rw [e0]; exact ⟨by rw [show oaE p0 p1 = p0 by simp [oaE, aa]], N0, rfl⟩)
theorem oiV (hw : oo Z aw) (ws : List Jvm.Cond) (a0 : Addr) (a1 : Addr) (h0 : Heap) (n0 : Nat) (Z0 : n0 ≤ h0.size) (ac : Exa Z h0 a0 "java/util/ImmutableCollections$ListN") (ab : Fld Z h0 a0 "java/util/ImmutableCollections$ListN" "elements" "[Ljava/lang/Object;" .null) (aa : Fld Z h0 a0 "java/util/ImmutableCollections$ListN" "allowNulls" "Z" (.int (0 : Int32))) (ae : n0 ≤ a0) :
    ot l Z (⟨"java/util/ImmutableCollections$ListN", "<init>", "([Ljava/lang/Object;Z)V"⟩ : MethodName) jdk_45_method_1_code 3 none ws ({ frames := 4, cells := 0, slots := 0, locals := 48 } : Room) #[(.ref a0), (.ref a1), (.int (0 : Int32))] h0 (oer Z a0 a1 h0 n0) := by
  refine ou (plainFor_of_name obM) (fun m => oeq m a0 a1 (0 : Int32)) ?_
  intro p e s m below meth c aq Bd hml hx hby hlk hown hnm hZ X0 e0
  have hd := oq oep hby
  have N0 := Fr.nil n0
  have K0 : Keep h0 h0 [a0] := Keep.refl _ _
  refine oc X0 hx (hd 0 rfl) rfl rfl ?_
  refine oK X0 hx hZ hown (host := "") (Or.inl (hw 157 rfl)) (hw 158 rfl) (hw 162 rfl) (hw 161 rfl) rfl (by decide) (oiS l Z aw hw [] a0 h0 n0 Z0 ) e0 hml rfl rfl (rest := []) rfl (lenOf oN rfl) (hd 1 rfl) rfl fun T1 au v1 X1 ap => ?_
  obtain ⟨rfl, ah, e1⟩ := ap
  have ai := Fr.app N0 ah
  refine oc X1 hx (hd 2 rfl) rfl rfl ?_
  refine oc X1 hx (hd 3 rfl) rfl rfl ?_
  refine ox (putF X1 hx hZ hown (host := "") (Or.inl (hw 171 rfl)) Via.refl e1 ab ac (Or.inr ⟨(hw 172 rfl), rfl, hnm⟩) (hw 151 rfl) (ty := (.array (.object "java/lang/Object"))) (by decide) rfl rfl rfl rfl (hd 4 rfl)) fun T2 h2 X2 e2 W2 => ?_
  replace ac := ac.wr W2
  replace ab := ab.same W2
  replace aa := aa.other W2 (Or.inr (ob (Or.inr (hw 174 rfl)) (Or.inr (hw 172 rfl)) (by decide)))
  have af := K0.wr W2 (Or.inl (List.mem_of_getElem? (i := 0) rfl))
  have ao := Nat.le_trans Z0 (Keep.of_wr W2).1
  have aj := Fr.snoc X2 ai ae
  refine oc X2 hx (hd 5 rfl) rfl rfl ?_
  refine oj X2 hx (hd 6 rfl) rfl ?_
  refine ox (putFN X2 hx hZ hown (hw 173 rfl) Via.refl e2 aa ac (Or.inr ⟨(hw 174 rfl), rfl, hnm⟩) (hw 151 rfl) (ty := .boolean) (v' := (.int (0 : Int32))) (by decide) rfl rfl rfl rfl (hd 7 rfl)) fun T3 h3 X3 e3 W3 => ?_
  replace ac := ac.wr W3
  replace ab := ab.other W3 (Or.inr (ob (Or.inr (hw 172 rfl)) (Or.inr (hw 174 rfl)) (by decide)))
  replace aa := aa.same W3
  have ag := af.wr W3 (Or.inl (List.mem_of_getElem? (i := 0) rfl))
  have av := Nat.le_trans ao (Keep.of_wr W3).1
  have ak := Fr.snoc X3 aj ae
  exact oG X3 hx hlk (by decide) (by decide) Bd.returns (hd 8 rfl) (by rw [e3]; exact ⟨rfl, ak, ag, ab⟩)
theorem oiW (hw : oo Z aw) (ws : List Jvm.Cond) (a0 : Addr) (kk : ov) (m1 : Nat) (m2 : Nat) (m3 : Nat) (m4 : Nat) (k : ClassId) (h0 : Heap) (n0 : Nat) (Z0 : n0 ≤ h0.size) (ac : Arv Z h0 a0 k (.object "java/lang/Object") (4 : Int32) [.ref m1, .ref m2, .ref m3, .ref m4] .null) (J0 : oy Z h0 n0 kk) :
    ot l Z (⟨"java/util/ImmutableCollections", "listFromTrustedArray", "([Ljava/lang/Object;)Ljava/util/List;"⟩ : MethodName) jdk_56_method_5_code 5 (some (.object "java/util/List")) ws ({ frames := 5, cells := 1, slots := 2, locals := 63 } : Room) #[(.ref a0)] h0 (oex Z a0 kk m1 m2 m3 m4 k h0 n0) := by
  refine ou (plainFor_of_name oev) (fun m => oew m a0) ?_
  intro p e s m below meth c bq Bd hml hx hby hlk hown hnm hZ X0 e0
  have hd := oq oeu hby
  have N0 := Fr.nil n0
  have K0 : Keep h0 h0 [] := Keep.refl _ _
  refine oi (getS2 X0 hx hZ hown (host := "") (Or.inl (hw 145 rfl)) Via.refl e0 J0.ad rfl (hd 0 rfl)) fun T1 X1 e1 => ?_
  show oe p.tables e below _ (T1.setTop (mkF m 3 #[.val (.ref a0), .unset, .unset, .unset, .unset] [(.int (1 : Int32))]))
  refine oC (S' := [])  (fun _ k => XS.ifYes X1.here hx rfl (pc0 := 3) (pc' := 23) rfl (hd 1 rfl) rfl ((if0 _ _).trans (feq (by decide)).2) (by decide) (by decide) k) ?_
  refine oc X1 hx (hd 2 rfl) rfl rfl ?_
  refine oz (fun _ k => XS.astoreN X1.here hx rfl (hd 3 rfl) rfl rfl (l' := #[.val (.ref a0), .val (.ref a0), .unset, .unset, .unset]) rfl k) ?_
  refine oc X1 hx (hd 4 rfl) rfl rfl ?_
  obtain ⟨bC, aX, q2, S2, bg, H2, G2⟩ := id ac
  refine ow (fun _ k => X1.arraylength hx (by rw [e1]; exact aX.1) (State.isArrayOf_alike hZ.alike aX.2.1) rfl rfl (hd 5 rfl) _ k) ?_
  rw [len_of S2 bg]
  show oe p.tables e below _ (T1.setTop (mkF m 27 #[.val (.ref a0), .val (.ref a0), .unset, .unset, .unset] [(.int (4 : Int32))]))
  refine oz (fun _ k => XS.istoreN X1.here hx rfl (hd 6 rfl) rfl (l' := #[.val (.ref a0), .val (.ref a0), .val (.int (4 : Int32)), .unset, .unset]) rfl k) ?_
  refine ol (v := (.int (0 : Int32))) (fun _ k => XS.iconst X1.here hx rfl (hd 7 rfl) k) ?_
  refine oz (fun _ k => XS.istoreN X1.here hx rfl (hd 8 rfl) rfl (l' := #[.val (.ref a0), .val (.ref a0), .val (.int (4 : Int32)), .val (.int (0 : Int32)), .unset]) rfl k) ?_
  refine oj X1 hx (hd 9 rfl) rfl ?_
  refine oj X1 hx (hd 10 rfl) rfl ?_
  refine og (S' := [])  (fun _ k => XS.icmpNo X1.here hx rfl (hd 11 rfl) rfl (tlt (by decide)).2.1 k) ?_
  refine oc X1 hx (hd 12 rfl) rfl rfl ?_
  refine oj X1 hx (hd 13 rfl) rfl ?_
  obtain ⟨aY, aC, q3, S3, bw, H3, G3⟩ := id ac
  have ap : ¬ ((0 : Int32) < 0 ∨ aY.slots.size ≤ ((0 : Int32)).toNatClampNeg) := inb_of S3 ⟨(by decide), (by decide)⟩
  have aT : aY.slots[((0 : Int32)).toNatClampNeg]? = some (.ref m1) := H3.at ap rfl
  refine ow (fun _ k => X1.aaload hx (j := (0 : Int32)) (v := (.ref m1)) (by rw [e1]; exact aC.1) (State.isArrayOf_alike hZ.alike aC.2.1) rfl aC.2.2 ap aT rfl rfl (hd 14 rfl) _ k) ?_
  show oe p.tables e below _ (T1.setTop (mkF m 38 #[.val (.ref a0), .val (.ref a0), .val (.int (4 : Int32)), .val (.int (0 : Int32)), .unset] [(.ref m1)]))
  refine oz (fun _ k => XS.astore X1.here hx rfl (hd 15 rfl) rfl rfl (l' := #[.val (.ref a0), .val (.ref a0), .val (.int (4 : Int32)), .val (.int (0 : Int32)), .val (.ref m1)]) rfl k) ?_
  refine oM X1 hx (hd 16 rfl) rfl rfl ?_
  refine oL X1 hx hZ hown (hw 146 rfl) (hw 147 rfl) (hw 149 rfl) (hw 148 rfl) (by decide) (oa6 l Z aw hw [] m1 h0 n0 Z0 ) e1 hml rfl rfl (rest := []) rfl (lenOf oaF rfl) (hd 17 rfl) rfl fun T4 bt v4 X4 bn => ?_
  obtain ⟨rfl, ba, e4⟩ := bn
  have bd := Fr.app N0 ba
  refine og (S' := [])  (fun _ k => XS.pop X4.here hx rfl (hd 18 rfl) rfl rfl k) ?_
  refine oaf (fun _ k => XS.iinc X4.here hx rfl (hd 19 rfl) rfl (l' := #[.val (.ref a0), .val (.ref a0), .val (.int (4 : Int32)), .val (.int ((0 : Int32) + (1 : Int32))), .val (.ref m1)]) rfl k) ?_
  show oe p.tables e below _ (T4.setTop (mkF m 49 #[.val (.ref a0), .val (.ref a0), .val (.int (4 : Int32)), .val (.int ((0 : Int32) + (1 : Int32))), .val (.ref m1)] []))
  rw [show ((0 : Int32) + (1 : Int32)) = (1 : Int32) from by decide]
  refine oJ (fun _ k => XS.goto X4.here hx rfl (pc0 := 49) (pc' := 30) rfl (hd 20 rfl) (by decide) (by decide) k) ?_
  refine oj X4 hx (hd 9 rfl) rfl ?_
  refine oj X4 hx (hd 10 rfl) rfl ?_
  refine og (S' := [])  (fun _ k => XS.icmpNo X4.here hx rfl (hd 11 rfl) rfl (tlt (by decide)).2.1 k) ?_
  refine oc X4 hx (hd 12 rfl) rfl rfl ?_
  refine oj X4 hx (hd 13 rfl) rfl ?_
  obtain ⟨aZ, aD, q5, S5, bx, H5, G5⟩ := id ac
  have aq : ¬ ((1 : Int32) < 0 ∨ aZ.slots.size ≤ ((1 : Int32)).toNatClampNeg) := inb_of S5 ⟨(by decide), (by decide)⟩
  have aU : aZ.slots[((1 : Int32)).toNatClampNeg]? = some (.ref m2) := H5.at aq rfl
  refine ow (fun _ k => X4.aaload hx (j := (1 : Int32)) (v := (.ref m2)) (by rw [e4]; exact aD.1) (State.isArrayOf_alike hZ.alike aD.2.1) rfl aD.2.2 aq aU rfl rfl (hd 14 rfl) _ k) ?_
  show oe p.tables e below _ (T4.setTop (mkF m 38 #[.val (.ref a0), .val (.ref a0), .val (.int (4 : Int32)), .val (.int (1 : Int32)), .val (.ref m1)] [(.ref m2)]))
  refine oz (fun _ k => XS.astore X4.here hx rfl (hd 15 rfl) rfl rfl (l' := #[.val (.ref a0), .val (.ref a0), .val (.int (4 : Int32)), .val (.int (1 : Int32)), .val (.ref m2)]) rfl k) ?_
  refine oM X4 hx (hd 16 rfl) rfl rfl ?_
  refine oL X4 hx hZ hown (hw 146 rfl) (hw 147 rfl) (hw 149 rfl) (hw 148 rfl) (by decide) (oa6 l Z aw hw [] m2 h0 n0 Z0 ) e4 hml rfl rfl (rest := []) rfl (lenOf oaF rfl) (hd 17 rfl) rfl fun T6 bu v6 X6 bo => ?_
  obtain ⟨rfl, bb, e6⟩ := bo
  have be := Fr.app bd bb
  refine og (S' := [])  (fun _ k => XS.pop X6.here hx rfl (hd 18 rfl) rfl rfl k) ?_
  refine oaf (fun _ k => XS.iinc X6.here hx rfl (hd 19 rfl) rfl (l' := #[.val (.ref a0), .val (.ref a0), .val (.int (4 : Int32)), .val (.int ((1 : Int32) + (1 : Int32))), .val (.ref m2)]) rfl k) ?_
  show oe p.tables e below _ (T6.setTop (mkF m 49 #[.val (.ref a0), .val (.ref a0), .val (.int (4 : Int32)), .val (.int ((1 : Int32) + (1 : Int32))), .val (.ref m2)] []))
  rw [show ((1 : Int32) + (1 : Int32)) = (2 : Int32) from by decide]
  refine oJ (fun _ k => XS.goto X6.here hx rfl (pc0 := 49) (pc' := 30) rfl (hd 20 rfl) (by decide) (by decide) k) ?_
  refine oj X6 hx (hd 9 rfl) rfl ?_
  refine oj X6 hx (hd 10 rfl) rfl ?_
  refine og (S' := [])  (fun _ k => XS.icmpNo X6.here hx rfl (hd 11 rfl) rfl (tlt (by decide)).2.1 k) ?_
  refine oc X6 hx (hd 12 rfl) rfl rfl ?_
  refine oj X6 hx (hd 13 rfl) rfl ?_
  obtain ⟨a5, aE, q7, S7, bz, H7, G7⟩ := id ac
  have au : ¬ ((2 : Int32) < 0 ∨ a5.slots.size ≤ ((2 : Int32)).toNatClampNeg) := inb_of S7 ⟨(by decide), (by decide)⟩
  have aV : a5.slots[((2 : Int32)).toNatClampNeg]? = some (.ref m3) := H7.at au rfl
  refine ow (fun _ k => X6.aaload hx (j := (2 : Int32)) (v := (.ref m3)) (by rw [e6]; exact aE.1) (State.isArrayOf_alike hZ.alike aE.2.1) rfl aE.2.2 au aV rfl rfl (hd 14 rfl) _ k) ?_
  show oe p.tables e below _ (T6.setTop (mkF m 38 #[.val (.ref a0), .val (.ref a0), .val (.int (4 : Int32)), .val (.int (2 : Int32)), .val (.ref m2)] [(.ref m3)]))
  refine oz (fun _ k => XS.astore X6.here hx rfl (hd 15 rfl) rfl rfl (l' := #[.val (.ref a0), .val (.ref a0), .val (.int (4 : Int32)), .val (.int (2 : Int32)), .val (.ref m3)]) rfl k) ?_
  refine oM X6 hx (hd 16 rfl) rfl rfl ?_
  refine oL X6 hx hZ hown (hw 146 rfl) (hw 147 rfl) (hw 149 rfl) (hw 148 rfl) (by decide) (oa6 l Z aw hw [] m3 h0 n0 Z0 ) e6 hml rfl rfl (rest := []) rfl (lenOf oaF rfl) (hd 17 rfl) rfl fun T8 bv v8 X8 bp => ?_
  obtain ⟨rfl, bc, e8⟩ := bp
  have bf := Fr.app be bc
  refine og (S' := [])  (fun _ k => XS.pop X8.here hx rfl (hd 18 rfl) rfl rfl k) ?_
  refine oaf (fun _ k => XS.iinc X8.here hx rfl (hd 19 rfl) rfl (l' := #[.val (.ref a0), .val (.ref a0), .val (.int (4 : Int32)), .val (.int ((2 : Int32) + (1 : Int32))), .val (.ref m3)]) rfl k) ?_
  show oe p.tables e below _ (T8.setTop (mkF m 49 #[.val (.ref a0), .val (.ref a0), .val (.int (4 : Int32)), .val (.int ((2 : Int32) + (1 : Int32))), .val (.ref m3)] []))
  rw [show ((2 : Int32) + (1 : Int32)) = (3 : Int32) from by decide]
  refine oJ (fun _ k => XS.goto X8.here hx rfl (pc0 := 49) (pc' := 30) rfl (hd 20 rfl) (by decide) (by decide) k) ?_
  refine oj X8 hx (hd 9 rfl) rfl ?_
  refine oj X8 hx (hd 10 rfl) rfl ?_
  refine og (S' := [])  (fun _ k => XS.icmpNo X8.here hx rfl (hd 11 rfl) rfl (tlt (by decide)).2.1 k) ?_
  refine oc X8 hx (hd 12 rfl) rfl rfl ?_
  refine oj X8 hx (hd 13 rfl) rfl ?_
  obtain ⟨a6, aF, q9, S9, bA, H9, G9⟩ := id ac
  have av : ¬ ((3 : Int32) < 0 ∨ a6.slots.size ≤ ((3 : Int32)).toNatClampNeg) := inb_of S9 ⟨(by decide), (by decide)⟩
  have aW : a6.slots[((3 : Int32)).toNatClampNeg]? = some (.ref m4) := H9.at av rfl
  refine ow (fun _ k => X8.aaload hx (j := (3 : Int32)) (v := (.ref m4)) (by rw [e8]; exact aF.1) (State.isArrayOf_alike hZ.alike aF.2.1) rfl aF.2.2 av aW rfl rfl (hd 14 rfl) _ k) ?_
  show oe p.tables e below _ (T8.setTop (mkF m 38 #[.val (.ref a0), .val (.ref a0), .val (.int (4 : Int32)), .val (.int (3 : Int32)), .val (.ref m3)] [(.ref m4)]))
  refine oz (fun _ k => XS.astore X8.here hx rfl (hd 15 rfl) rfl rfl (l' := #[.val (.ref a0), .val (.ref a0), .val (.int (4 : Int32)), .val (.int (3 : Int32)), .val (.ref m4)]) rfl k) ?_
  refine oM X8 hx (hd 16 rfl) rfl rfl ?_
  refine oL X8 hx hZ hown (hw 146 rfl) (hw 147 rfl) (hw 149 rfl) (hw 148 rfl) (by decide) (oa6 l Z aw hw [] m4 h0 n0 Z0 ) e8 hml rfl rfl (rest := []) rfl (lenOf oaF rfl) (hd 17 rfl) rfl fun aP a8 bE ag aR => ?_
  obtain ⟨rfl, aK, a7⟩ := aR
  have aM := Fr.app bf aK
  refine og (S' := [])  (fun _ k => XS.pop ag.here hx rfl (hd 18 rfl) rfl rfl k) ?_
  refine oaf (fun _ k => XS.iinc ag.here hx rfl (hd 19 rfl) rfl (l' := #[.val (.ref a0), .val (.ref a0), .val (.int (4 : Int32)), .val (.int ((3 : Int32) + (1 : Int32))), .val (.ref m4)]) rfl k) ?_
  show oe p.tables e below _ (aP.setTop (mkF m 49 #[.val (.ref a0), .val (.ref a0), .val (.int (4 : Int32)), .val (.int ((3 : Int32) + (1 : Int32))), .val (.ref m4)] []))
  rw [show ((3 : Int32) + (1 : Int32)) = (4 : Int32) from by decide]
  refine oJ (fun _ k => XS.goto ag.here hx rfl (pc0 := 49) (pc' := 30) rfl (hd 20 rfl) (by decide) (by decide) k) ?_
  refine oj ag hx (hd 9 rfl) rfl ?_
  refine oj ag hx (hd 10 rfl) rfl ?_
  refine oC (S' := [])  (fun _ k => XS.icmpYes ag.here hx rfl (pc0 := 32) (pc' := 52) rfl (hd 11 rfl) rfl (flt (by decide)).2.1 (by decide) (by decide) k) ?_
  refine oc ag hx (hd 21 rfl) rfl rfl ?_
  obtain ⟨bl, ak, bD, bh, aO, bs, br⟩ := id ac
  refine ow (fun _ k => ag.arraylength hx (by rw [a7]; exact ak.1) (State.isArrayOf_alike hZ.alike ak.2.1) rfl rfl (hd 22 rfl) _ k) ?_
  rw [len_of bh aO]
  show oe p.tables e below _ (aP.setTop (mkF m 54 #[.val (.ref a0), .val (.ref a0), .val (.int (4 : Int32)), .val (.int (4 : Int32)), .val (.ref m4)] [(.int (4 : Int32))]))
  refine ow (fun _ k => ag.tableswitchOut hx rfl rfl (hd 23 rfl) (by decide) (by show (0 : Int) ≤ ((54 : Nat) : Int) + 61; decide) _ k) ?_
  show oe p.tables e below _ (aP.setTop (mkF m 115 #[.val (.ref a0), .val (.ref a0), .val (.int (4 : Int32)), .val (.int (4 : Int32)), .val (.ref m4)] []))
  obtain ⟨bi, aQ, aA, bm, az, aj, aG, -, ay⟩ := newO ag hx hZ hown (hw 150 rfl) (hw 151 rfl) (hw 152 rfl) a7 (g := (mkF m 115 #[.val (.ref a0), .val (.ref a0), .val (.int (4 : Int32)), .val (.int (4 : Int32)), .val (.ref m4)] [])) rfl (hd 24 rfl) (by decide) (by decide)
  obtain ⟨ah, aB⟩ : ∃ z, z = h0.size := ⟨_, rfl⟩
  rw [← aB] at aj aG ay
  refine ow ay ?_
  have ae := os ac.lt aB
  have ai := om Z0 aB
  have af := om K0.1 aB
  replace ac := ac.ext az
  replace J0 := J0.keep (op az) all0
  have aI := K0.ext az
  have ao := Nat.le_trans Z0 az.1
  have ab : Fld Z aQ ah "java/util/ImmutableCollections$ListN" "elements" "[Ljava/lang/Object;" .null := aG (Or.inr (hw 172 rfl)) (ty := (.array (.object "java/lang/Object"))) (by decide)
  have aa : Fld Z aQ ah "java/util/ImmutableCollections$ListN" "allowNulls" "Z" (.int (0 : Int32)) := aG (Or.inr (hw 174 rfl)) (ty := .boolean) (by decide)
  show oe p.tables e below _ (bi.setTop (mkF m 118 #[.val (.ref a0), .val (.ref a0), .val (.int (4 : Int32)), .val (.int (4 : Int32)), .val (.ref m4)] [(.ref ah)]))
  refine og (S' := [(.ref ah), (.ref ah)])  (fun _ k => XS.dup aA.here hx rfl (hd 25 rfl) rfl rfl k) ?_
  refine oc aA hx (hd 26 rfl) rfl rfl ?_
  refine ol (v := (.int (0 : Int32))) (fun _ k => XS.iconst aA.here hx rfl (hd 27 rfl) k) ?_
  refine oK aA hx hZ hown (Or.inr (Or.inl (hw 153 rfl))) (hw 154 rfl) (hw 156 rfl) (hw 152 rfl) rfl (by decide) (oiV l Z aw hw [] ah a0 aQ n0 ao aj ab aa ai) bm hml rfl rfl (rest := [(.ref ah)]) rfl (lenOf oes rfl) (hd 28 rfl) rfl fun bB a9 bF bj aS => ?_
  obtain ⟨rfl, aL, ax, aH⟩ := aS
  have aN := Fr.app aM aL
  replace ac := ac.keep ax (oa ae)
  replace J0 := J0.keep ax (allS ai all0)
  replace aj := aj.keep ax
  have aJ := aI.trans ax (allS (Or.inr af) all0)
  have bk := Nat.le_trans ao ax.1
  exact oO bj hx hlk (by decide) (by decide) Bd.returns rfl rfl (hd 29 rfl) (⟨ah, rfl, aN, aJ, af, aj, aH⟩)
theorem oiX (hw : oo Z aw) (ws : List Jvm.Cond) (kk : ov) (m1 : Nat) (m2 : Nat) (m3 : Nat) (m4 : Nat) (h0 : Heap) (n0 : Nat) (Z0 : n0 ≤ h0.size) (aa : Exa Z h0 m1 "com/example/restate/restate/model/AmountColumn") (ab : Exa Z h0 m2 "com/example/restate/restate/model/AmountColumn") (ac : Exa Z h0 m3 "com/example/restate/restate/model/AmountColumn") (ae : Exa Z h0 m4 "com/example/restate/restate/model/AmountColumn") (J0 : oy Z h0 n0 kk) :
    ot l Z (⟨"java/util/List", "of", "(Ljava/lang/Object;Ljava/lang/Object;Ljava/lang/Object;Ljava/lang/Object;)Ljava/util/List;"⟩ : MethodName) jdk_40_method_40_code 4 (some (.object "java/util/List")) ws ({ frames := 6, cells := 2, slots := 6, locals := 79 } : Room) #[(.ref m1), (.ref m2), (.ref m3), (.ref m4)] h0 (oeD Z kk m1 m2 m3 m4 h0 n0) := by
  refine ou (plainFor_of_name oeB) (fun m => oeC m m1 m2 m3 m4) ?_
  intro p e s m below meth c br Bd hml hx hby hlk hown hnm hZ X0 e0
  have hd := oq oeA hby
  have N0 := Fr.nil n0
  have K0 : Keep h0 h0 [] := Keep.refl _ _
  refine ol (v := (.int (4 : Int32))) (fun _ k => XS.iconst X0.here hx rfl (hd 0 rfl) k) ?_
  obtain ⟨T1, h1, k1, X1, e1, E1, A1, ap, O1, aU⟩ := newRE X0 hx hZ hown (hw 138 rfl) (hw 139 rfl) e0 (g := (mkF m 1 #[.val (.ref m1), .val (.ref m2), .val (.ref m3), .val (.ref m4)] [(.int (4 : Int32))])) rfl (hd 1 rfl) rfl (by decide) (cap := 4) (by decide) (by decide) (by decide) (by decide) (ad := "[Ljava/lang/Object;") rfl
  obtain ⟨b1, g1⟩ : ∃ z, z = h0.size := ⟨_, rfl⟩
  rw [← g1] at A1 ap aU
  refine ow aU ?_
  have aq := os aa.lt g1
  have av := os ab.lt g1
  have ay := os ac.lt g1
  have aA := os ae.lt g1
  have aq := os aa.lt g1
  have av := os ab.lt g1
  have ay := os ac.lt g1
  have aA := os ae.lt g1
  have ag := om Z0 g1
  have ah := om K0.1 g1
  replace aa := aa.ext E1
  replace ab := ab.ext E1
  replace ac := ac.ext E1
  replace ae := ae.ext E1
  replace J0 := J0.keep (op E1) all0
  have aX := K0.ext E1
  have bh := Nat.le_trans Z0 E1.1
  have aN : Arv Z h1 b1 k1 (.object "java/lang/Object") (4 : Int32) (List.replicate 4 .null) .null := oar 4 (Arv.new A1 (by decide))
  show oe p.tables e below _ (T1.setTop (mkF m 4 #[.val (.ref m1), .val (.ref m2), .val (.ref m3), .val (.ref m4)] [(.ref b1)]))
  refine og (S' := [(.ref b1), (.ref b1)])  (fun _ k => XS.dup X1.here hx rfl (hd 2 rfl) rfl rfl k) ?_
  refine ol (v := (.int (0 : Int32))) (fun _ k => XS.iconst X1.here hx rfl (hd 3 rfl) k) ?_
  refine oc X1 hx (hd 4 rfl) rfl rfl ?_
  obtain ⟨bl, aJ, q2, S2, bd, H2, G2⟩ := id aN
  have aP : ¬ ((0 : Int32) < 0 ∨ bl.slots.size ≤ ((0 : Int32)).toNatClampNeg) := inb_of S2 ⟨(by decide), (by decide)⟩
  refine ox (stR X1 hx hZ e1 aJ (j := (0 : Int32)) aP rfl (Sto.ofV aJ q2 O1 (Ins.of_exa aa (hw 140 rfl))) rfl rfl (hd 5 rfl)) fun T2 h2 X2 e2 W2 => ?_
  replace aa := aa.wr W2
  replace ab := ab.wr W2
  replace ac := ac.wr W2
  replace ae := ae.wr W2
  replace J0 := J0.keep (Keep.of_wr W2) (allS ag all0)
  replace ap := ap.wr W2
  have aY := aX.wr W2 (Or.inr ah)
  have bi := Nat.le_trans bh (Keep.of_wr W2).1
  have a8 := Fr.snoc X2 N0 ag
  have aD : Arv Z h2 b1 k1 (.object "java/lang/Object") (4 : Int32) ((List.replicate 4 .null).set 0 (.ref m1)) .null := Arv.set aJ q2 S2 bd H2 G2 rfl W2 0 (by decide) (by simp)
  refine og (S' := [(.ref b1), (.ref b1)])  (fun _ k => XS.dup X2.here hx rfl (hd 6 rfl) rfl rfl k) ?_
  refine ol (v := (.int (1 : Int32))) (fun _ k => XS.iconst X2.here hx rfl (hd 7 rfl) k) ?_
  refine oc X2 hx (hd 8 rfl) rfl rfl ?_
  obtain ⟨bm, aK, q3, S3, be, H3, G3⟩ := id aD
  have aQ : ¬ ((1 : Int32) < 0 ∨ bm.slots.size ≤ ((1 : Int32)).toNatClampNeg) := inb_of S3 ⟨(by decide), (by decide)⟩
  refine ox (stR X2 hx hZ e2 aK (j := (1 : Int32)) aQ rfl (Sto.ofV aK q3 O1 (Ins.of_exa ab (hw 140 rfl))) rfl rfl (hd 9 rfl)) fun T3 h3 X3 e3 W3 => ?_
  replace aa := aa.wr W3
  replace ab := ab.wr W3
  replace ac := ac.wr W3
  replace ae := ae.wr W3
  replace J0 := J0.keep (Keep.of_wr W3) (allS ag all0)
  replace ap := ap.wr W3
  have aZ := aY.wr W3 (Or.inr ah)
  have bj := Nat.le_trans bi (Keep.of_wr W3).1
  have a9 := Fr.snoc X3 a8 ag
  have aE : Arv Z h3 b1 k1 (.object "java/lang/Object") (4 : Int32) (((List.replicate 4 .null).set 0 (.ref m1)).set 1 (.ref m2)) .null := Arv.set aK q3 S3 be H3 G3 rfl W3 1 (by decide) (by simp)
  refine og (S' := [(.ref b1), (.ref b1)])  (fun _ k => XS.dup X3.here hx rfl (hd 10 rfl) rfl rfl k) ?_
  refine ol (v := (.int (2 : Int32))) (fun _ k => XS.iconst X3.here hx rfl (hd 11 rfl) k) ?_
  refine oc X3 hx (hd 12 rfl) rfl rfl ?_
  obtain ⟨bn, aL, q4, S4, bf, H4, G4⟩ := id aE
  have aR : ¬ ((2 : Int32) < 0 ∨ bn.slots.size ≤ ((2 : Int32)).toNatClampNeg) := inb_of S4 ⟨(by decide), (by decide)⟩
  refine ox (stR X3 hx hZ e3 aL (j := (2 : Int32)) aR rfl (Sto.ofV aL q4 O1 (Ins.of_exa ac (hw 140 rfl))) rfl rfl (hd 13 rfl)) fun T4 h4 X4 e4 W4 => ?_
  replace aa := aa.wr W4
  replace ab := ab.wr W4
  replace ac := ac.wr W4
  replace ae := ae.wr W4
  replace J0 := J0.keep (Keep.of_wr W4) (allS ag all0)
  replace ap := ap.wr W4
  have a5 := aZ.wr W4 (Or.inr ah)
  have bk := Nat.le_trans bj (Keep.of_wr W4).1
  have ba := Fr.snoc X4 a9 ag
  have aF : Arv Z h4 b1 k1 (.object "java/lang/Object") (4 : Int32) ((((List.replicate 4 .null).set 0 (.ref m1)).set 1 (.ref m2)).set 2 (.ref m3)) .null := Arv.set aL q4 S4 bf H4 G4 rfl W4 2 (by decide) (by simp)
  refine og (S' := [(.ref b1), (.ref b1)])  (fun _ k => XS.dup X4.here hx rfl (hd 14 rfl) rfl rfl k) ?_
  refine ol (v := (.int (3 : Int32))) (fun _ k => XS.iconst X4.here hx rfl (hd 15 rfl) k) ?_
  refine oc X4 hx (hd 16 rfl) rfl rfl ?_
  obtain ⟨bo, aM, q5, S5, bg, H5, G5⟩ := id aF
  have aS : ¬ ((3 : Int32) < 0 ∨ bo.slots.size ≤ ((3 : Int32)).toNatClampNeg) := inb_of S5 ⟨(by decide), (by decide)⟩
  refine ox (stR X4 hx hZ e4 aM (j := (3 : Int32)) aS rfl (Sto.ofV aM q5 O1 (Ins.of_exa ae (hw 140 rfl))) rfl rfl (hd 17 rfl)) fun T5 h5 X5 e5 W5 => ?_
  replace aa := aa.wr W5
  replace ab := ab.wr W5
  replace ac := ac.wr W5
  replace ae := ae.wr W5
  replace J0 := J0.keep (Keep.of_wr W5) (allS ag all0)
  replace ap := ap.wr W5
  have aT := a5.wr W5 (Or.inr ah)
  have aO := Nat.le_trans bk (Keep.of_wr W5).1
  have bb := Fr.snoc X5 ba ag
  have af : Arv Z h5 b1 k1 (.object "java/lang/Object") (4 : Int32) (((((List.replicate 4 .null).set 0 (.ref m1)).set 1 (.ref m2)).set 2 (.ref m3)).set 3 (.ref m4)) .null := Arv.set aM q5 S5 bg H5 G5 rfl W5 3 (by decide) (by simp)
  have ai := aa.lt
  have aj := ab.lt
  have ak := ac.lt
  have ao := ae.lt
  have ai := aa.lt
  have aj := ab.lt
  have ak := ac.lt
  have ao := ae.lt
  have aG := ap.lt
  refine oL X5 hx hZ hown (hw 141 rfl) (hw 142 rfl) (hw 144 rfl) (hw 143 rfl) (by decide) (oiW l Z aw hw [] b1 kk m1 m2 m3 m4 k1 h5 n0 aO af J0) e5 hml rfl rfl (rest := []) rfl (lenOf oey rfl) (hd 18 rfl) rfl fun T6 bs v6 X6 bq => ?_
  obtain ⟨r6, rfl, a7, k6, aC, aV, aW⟩ := bq
  have bc := Fr.app bb a7
  replace aa := aa.keep k6
  replace ab := ab.keep k6
  replace ac := ac.keep k6
  replace ae := ae.keep k6
  replace J0 := J0.keep k6 all0
  replace ap := ap.keep k6
  replace af := af.keep k6 nin0
  have a6 := aT.trans k6 all0
  have bt := Nat.le_trans aO k6.1
  have au := Nat.lt_of_lt_of_le ai aC
  have ax := Nat.lt_of_lt_of_le aj aC
  have az := Nat.lt_of_lt_of_le ak aC
  have aB := Nat.lt_of_lt_of_le ao aC
  have au := Nat.lt_of_lt_of_le ai aC
  have ax := Nat.lt_of_lt_of_le aj aC
  have az := Nat.lt_of_lt_of_le ak aC
  have aB := Nat.lt_of_lt_of_le ao aC
  have aH := Nat.lt_of_lt_of_le aG aC
  have bp := Nat.le_trans aO aC
  have aI := Nat.le_trans aT.1 aC
  exact oO X6 hx hlk (by decide) (by decide) Bd.returns rfl rfl (hd 19 rfl) (⟨r6, rfl, bc, a6, b1, k1, aI, ah, aV, aW, af, ap⟩)
theorem ock (hw : oo Z aw) (ws : List Jvm.Cond) (a0 : Addr) (kk : ov) (m1 : Nat) (m2 : Nat) (m3 : Nat) (m4 : Nat) (k : ClassId) (h0 : Heap) (n0 : Nat) (Z0 : n0 ≤ h0.size) (aa : Arv Z h0 a0 k (.object "java/lang/Object") (4 : Int32) [.ref m1, .ref m2, .ref m3, .ref m4] .null) (ab : Exa Z h0 m1 "com/example/restate/restate/model/AmountColumn") (ac : Exa Z h0 m2 "com/example/restate/restate/model/AmountColumn") (ae : Exa Z h0 m3 "com/example/restate/restate/model/AmountColumn") (af : Exa Z h0 m4 "com/example/restate/restate/model/AmountColumn") (J0 : oy Z h0 n0 kk) :
    ot l Z (⟨"java/util/Arrays", "copyOf", "([Ljava/lang/Object;ILjava/lang/Class;)[Ljava/lang/Object;"⟩ : MethodName) jdk_65_method_120_code 4 (some (.array (.object "java/lang/Object"))) ws ({ frames := 1, cells := 1, slots := 4, locals := 18 } : Room) #[(.ref a0), (.int (4 : Int32)), (.ref kk.mo)] h0 (oeH Z a0 kk m1 m2 m3 m4 k h0 n0) := by
  refine ou (plainFor_of_name oaZ) (fun m => oeG m a0 (4 : Int32) kk.mo) ?_
  intro p e s m below meth c aJ Bd hml hx hby hlk hown hnm hZ X0 e0
  have hd := oq oeF hby
  have N0 := Fr.nil n0
  have K0 : Keep h0 h0 [] := Keep.refl _ _
  refine oc X0 hx (hd 0 rfl) rfl rfl ?_
  refine oi (obc X0 hx hZ hown (hw 200 rfl) (J0.mo) e0 rfl (hd 1 rfl)) fun T1 X1 e1 => ?_
  show oe p.tables e below _ (T1.setTop (mkF m 3 #[.val (.ref a0), .val (.int (4 : Int32)), .val (.ref kk.mo), .unset] [(.ref kk.mo), (.ref kk.mo)]))
  refine ow (fun _ k => Jvm.RoadKit.acmp X1 hx rfl rfl rfl (pc0 := 3) (pc' := 6) (same := true) rfl (hd 2 rfl) rfl (by simp) (by decide) (by decide) k) ?_
  show oe p.tables e below _ (T1.setTop (mkF m 6 #[.val (.ref a0), .val (.int (4 : Int32)), .val (.ref kk.mo), .unset] []))
  refine oj X1 hx (hd 3 rfl) rfl ?_
  obtain ⟨T2, h2, k2, X2, e2, E2, A2, av, O2, aA⟩ := newRE X1 hx hZ hown (hw 201 rfl) (hw 139 rfl) e1 (g := (mkF m 7 #[.val (.ref a0), .val (.int (4 : Int32)), .val (.ref kk.mo), .unset] [(.int (4 : Int32))])) rfl (hd 4 rfl) rfl (by decide) (cap := 4) (by decide) (by decide) (by decide) (by decide) (ad := "[Ljava/lang/Object;") rfl
  obtain ⟨b2, g2⟩ : ∃ z, z = h0.size := ⟨_, rfl⟩
  rw [← g2] at A2 av aA
  refine ow aA ?_
  have ag := os aa.lt g2
  have ao := os ab.lt g2
  have ap := os ac.lt g2
  have aq := os ae.lt g2
  have au := os af.lt g2
  have ak := om Z0 g2
  have ah := om K0.1 g2
  replace aa := aa.ext E2
  replace ab := ab.ext E2
  replace ac := ac.ext E2
  replace ae := ae.ext E2
  replace af := af.ext E2
  replace J0 := J0.keep (op E2) all0
  have aB := K0.ext E2
  have az := Nat.le_trans Z0 E2.1
  have aj : Arv Z h2 b2 k2 (.object "java/lang/Object") (4 : Int32) (List.replicate 4 .null) .null := oar 4 (Arv.new A2 (by decide))
  show oe p.tables e below _ (T2.setTop (mkF m 10 #[.val (.ref a0), .val (.int (4 : Int32)), .val (.ref kk.mo), .unset] [(.ref b2)]))
  refine oJ (fun _ k => XS.goto X2.here hx rfl (pc0 := 10) (pc' := 24) rfl (hd 5 rfl) (by decide) (by decide) k) ?_
  refine oz (fun _ k => XS.astoreN X2.here hx rfl (hd 6 rfl) rfl rfl (l' := #[.val (.ref a0), .val (.int (4 : Int32)), .val (.ref kk.mo), .val (.ref b2)]) rfl k) ?_
  refine oc X2 hx (hd 7 rfl) rfl rfl ?_
  refine ol (v := (.int (0 : Int32))) (fun _ k => XS.iconst X2.here hx rfl (hd 8 rfl) k) ?_
  refine oc X2 hx (hd 9 rfl) rfl rfl ?_
  refine ol (v := (.int (0 : Int32))) (fun _ k => XS.iconst X2.here hx rfl (hd 10 rfl) k) ?_
  refine oc X2 hx (hd 11 rfl) rfl rfl ?_
  obtain ⟨aM, ay, q3, S3, aG, H3, G3⟩ := id aa
  refine ow (fun _ k => X2.arraylength hx (by rw [e2]; exact ay.1) (State.isArrayOf_alike hZ.alike ay.2.1) rfl rfl (hd 12 rfl) _ k) ?_
  rw [len_of S3 aG]
  show oe p.tables e below _ (T2.setTop (mkF m 31 #[.val (.ref a0), .val (.int (4 : Int32)), .val (.ref kk.mo), .val (.ref b2)] [(.int (4 : Int32)), (.int (0 : Int32)), (.ref b2), (.int (0 : Int32)), (.ref a0)]))
  refine oj X2 hx (hd 13 rfl) rfl ?_
  refine oL X2 hx hZ hown (hw 202 rfl) (hw 203 rfl) (hw 205 rfl) (hw 204 rfl) (by decide) (oiU l Z aw hw [] (4 : Int32) (4 : Int32) h2 n0 az ) e2 hml rfl rfl (rest := [(.int (0 : Int32)), (.ref b2), (.int (0 : Int32)), (.ref a0)]) rfl (lenOf oav rfl) (hd 14 rfl) rfl fun T4 aK v4 X4 aH => ?_
  obtain ⟨rfl, aD, e4⟩ := aH
  have aE := Fr.app N0 aD
  rw [show (oaE (4 : Int32) (4 : Int32)) = (4 : Int32) by decide]
  obtain ⟨aN, ax, qc, -⟩ := id aj
  obtain ⟨T5, h5, L5, X5, e5, aF, k5, ai, aI⟩ := cpA X4 hx hZ hown (hw 206 rfl) (hw 209 rfl) (hw 207 rfl) (hw 208 rfl) e4 aa aj (Or.inr ⟨rfl, rfl, ⟨Sto.ofV ax qc O2 (Ins.of_exa ab (hw 140 rfl)), Sto.ofV ax qc O2 (Ins.of_exa ac (hw 140 rfl)), Sto.ofV ax qc O2 (Ins.of_exa ae (hw 140 rfl)), Sto.ofV ax qc O2 (Ins.of_exa af (hw 140 rfl)), trivial⟩⟩) (us := [.ref m1, .ref m2, .ref m3, .ref m4]) (by decide) (by decide) (by decide) (by decide) (by decide) rfl (by decide) aE ak (g := (mkF m 35 #[.val (.ref a0), .val (.int (4 : Int32)), .val (.ref kk.mo), .val (.ref b2)] [(.int (4 : Int32)), (.int (0 : Int32)), (.ref b2), (.int (0 : Int32)), (.ref a0)])) rfl (by rw [hml]; rfl) rfl (hd 15 rfl) (by decide) (W := 0) (by show 2 * 0 + _ ≤ _; exact Nat.le_of_eq rfl) (by decide)
  refine ow aI ?_
  replace aa := aa.keep k5 (oa ag)
  replace ab := ab.keep k5
  replace ac := ac.keep k5
  replace ae := ae.keep k5
  replace af := af.keep k5
  replace J0 := J0.keep k5 (allS ak all0)
  replace av := av.keep k5
  have aC := aB.trans k5 (allS (Or.inr ah) all0)
  have aL := Nat.le_trans az k5.1
  show oe p.tables e below _ (T5.setTop (mkF m 38 #[.val (.ref a0), .val (.int (4 : Int32)), .val (.ref kk.mo), .val (.ref b2)] []))
  refine oc X5 hx (hd 16 rfl) rfl rfl ?_
  exact oO X5 hx hlk (by decide) (by decide) Bd.returns rfl rfl (hd 17 rfl) (by rw [e5]; exact ⟨b2, rfl, aF, aC, k2, ah, ai, av⟩)
theorem oiY (hw : oo Z aw) (ws : List Jvm.Cond) (a0 : Addr) (kk : ov) (m1 : Nat) (m2 : Nat) (m3 : Nat) (m4 : Nat) (k : ClassId) (h0 : Heap) (n0 : Nat) (Z0 : n0 ≤ h0.size) (af : Arv Z h0 a0 k (.object "java/lang/Object") (4 : Int32) [.ref m1, .ref m2, .ref m3, .ref m4] .null) (ag : Exa Z h0 a0 "[Ljava/lang/Object;") (aa : Exa Z h0 m1 "com/example/restate/restate/model/AmountColumn") (ab : Exa Z h0 m2 "com/example/restate/restate/model/AmountColumn") (ac : Exa Z h0 m3 "com/example/restate/restate/model/AmountColumn") (ae : Exa Z h0 m4 "com/example/restate/restate/model/AmountColumn") (J0 : oy Z h0 n0 kk) :
    ot l Z (⟨"java/util/Arrays", "copyOf", "([Ljava/lang/Object;I)[Ljava/lang/Object;"⟩ : MethodName) jdk_65_method_119_code 2 (some (.array (.object "java/lang/Object"))) ws ({ frames := 2, cells := 1, slots := 4, locals := 33 } : Room) #[(.ref a0), (.int (4 : Int32))] h0 (oeL Z a0 kk m1 m2 m3 m4 k h0 n0) := by
  refine ou (plainFor_of_name oaZ) (fun m => oeK m a0 (4 : Int32)) ?_
  intro p e s m below meth c aI Bd hml hx hby hlk hown hnm hZ X0 e0
  have hd := oq oeJ hby
  have N0 := Fr.nil n0
  have K0 : Keep h0 h0 [] := Keep.refl _ _
  refine oc X0 hx (hd 0 rfl) rfl rfl ?_
  refine oj X0 hx (hd 1 rfl) rfl ?_
  refine oc X0 hx (hd 2 rfl) rfl rfl ?_
  refine oi (ocy X0 hx hZ hown (hw 191 rfl) (hw 192 rfl) (hw 194 rfl) (hw 193 rfl) (hw 195 rfl) e0 ag (J0.mo) rfl (by rw [hml]; rfl) rfl (hd 3 rfl) (by decide) (W := 2) (by show 2 * 0 + _ ≤ _; exact Nat.le_of_eq rfl) (by decide)) fun T1 X1 e1 => ?_
  have ah := af.lt
  have ai := aa.lt
  have aj := ab.lt
  have ak := ac.lt
  have ao := ae.lt
  refine oL X1 hx hZ hown (hw 197 rfl) (hw 198 rfl) (hw 199 rfl) (hw 189 rfl) (by decide) (ock l Z aw hw [] a0 kk m1 m2 m3 m4 k h0 n0 Z0 af aa ab ac ae J0) e1 hml rfl rfl (rest := []) rfl (lenOf obN rfl) (hd 4 rfl) rfl fun T2 aJ v2 X2 aG => ?_
  obtain ⟨r2, rfl, aC, k2, aH, ap, aE, aA⟩ := aG
  have aD := Fr.app N0 aC
  replace af := af.keep k2 nin0
  replace ag := ag.keep k2
  replace aa := aa.keep k2
  replace ab := ab.keep k2
  replace ac := ac.keep k2
  replace ae := ae.keep k2
  replace J0 := J0.keep k2 all0
  have aB := K0.trans k2 all0
  have aK := Nat.le_trans Z0 k2.1
  have aq := Nat.lt_of_lt_of_le ah ap
  have au := Nat.lt_of_lt_of_le ai ap
  have av := Nat.lt_of_lt_of_le aj ap
  have ax := Nat.lt_of_lt_of_le ak ap
  have ay := Nat.lt_of_lt_of_le ao ap
  have aF := Nat.le_trans Z0 ap
  have az := Nat.le_trans K0.1 ap
  exact oO X2 hx hlk (by decide) (by decide) Bd.returns rfl rfl (hd 5 rfl) (⟨r2, rfl, aD, aB, aH, az, aE, aA⟩)
theorem oiZ (hw : oo Z aw) (ws : List Jvm.Cond) (a0 : Addr) (ar : Nat) (kk : ov) (m1 : Nat) (m2 : Nat) (m3 : Nat) (m4 : Nat) (k : ClassId) (h0 : Heap) (n0 : Nat) (Z0 : n0 ≤ h0.size) (aa : Fld Z h0 a0 "java/util/ImmutableCollections$ListN" "elements" "[Ljava/lang/Object;" (.ref ar)) (ab : Arv Z h0 ar k (.object "java/lang/Object") (4 : Int32) [.ref m1, .ref m2, .ref m3, .ref m4] .null) (ai : Exa Z h0 ar "[Ljava/lang/Object;") (ac : Exa Z h0 m1 "com/example/restate/restate/model/AmountColumn") (ae : Exa Z h0 m2 "com/example/restate/restate/model/AmountColumn") (af : Exa Z h0 m3 "com/example/restate/restate/model/AmountColumn") (ag : Exa Z h0 m4 "com/example/restate/restate/model/AmountColumn") (J0 : oy Z h0 n0 kk) :
    ot l Z (⟨"java/util/ImmutableCollections$ListN", "toArray", "()[Ljava/lang/Object;"⟩ : MethodName) jdk_45_method_7_code 1 (some (.array (.object "java/lang/Object"))) ws ({ frames := 3, cells := 1, slots := 4, locals := 46 } : Room) #[(.ref a0)] h0 (oeQ Z a0 ar kk m1 m2 m3 m4 k h0 n0) := by
  refine ou (plainFor_of_name obM) (fun m => oeP m a0) ?_
  intro p e s m below meth c aN Bd hml hx hby hlk hown hnm hZ X0 e0
  have hd := oq oeO hby
  have N0 := Fr.nil n0
  have K0 : Keep h0 h0 [] := Keep.refl _ _
  refine oc X0 hx (hd 0 rfl) rfl rfl ?_
  refine oi (getF X0 hx hZ hown (host := "") (Or.inl (hw 171 rfl)) Via.refl e0 aa rfl rfl (hd 1 rfl)) fun T1 X1 e1 => ?_
  refine oc X1 hx (hd 2 rfl) rfl rfl ?_
  refine oi (getF X1 hx hZ hown (host := "") (Or.inl (hw 171 rfl)) Via.refl e1 aa rfl rfl (hd 3 rfl)) fun T2 X2 e2 => ?_
  obtain ⟨aQ, aD, q3, S3, aI, H3, G3⟩ := id ab
  refine ow (fun _ k => X2.arraylength hx (by rw [e2]; exact aD.1) (State.isArrayOf_alike hZ.alike aD.2.1) rfl rfl (hd 4 rfl) _ k) ?_
  rw [len_of S3 aI]
  show oe p.tables e below _ (T2.setTop (mkF m 9 #[.val (.ref a0)] [(.int (4 : Int32)), (.ref ar)]))
  have aj := aa.lt
  have ao := ac.lt
  have ap := ae.lt
  have aq := af.lt
  have au := ag.lt
  have ak := ab.lt
  refine oL X2 hx hZ hown (hw 187 rfl) (hw 188 rfl) (hw 190 rfl) (hw 189 rfl) (by decide) (oiY l Z aw hw [] ar kk m1 m2 m3 m4 k h0 n0 Z0 ab ai ac ae af ag J0) e2 hml rfl rfl (rest := []) rfl (lenOf oeM rfl) (hd 5 rfl) rfl fun T4 aO v4 X4 aL => ?_
  obtain ⟨r4, rfl, aG, k4, aM, ah, aJ, aE⟩ := aL
  have aH := Fr.app N0 aG
  replace aa := aa.keep k4 nin0
  replace ab := ab.keep k4 nin0
  replace ai := ai.keep k4
  replace ac := ac.keep k4
  replace ae := ae.keep k4
  replace af := af.keep k4
  replace ag := ag.keep k4
  replace J0 := J0.keep k4 all0
  have aF := K0.trans k4 all0
  have aP := Nat.le_trans Z0 k4.1
  have av := Nat.lt_of_lt_of_le aj ah
  have ay := Nat.lt_of_lt_of_le ao ah
  have az := Nat.lt_of_lt_of_le ap ah
  have aA := Nat.lt_of_lt_of_le aq ah
  have aB := Nat.lt_of_lt_of_le au ah
  have ax := Nat.lt_of_lt_of_le ak ah
  have aK := Nat.le_trans Z0 ah
  have aC := Nat.le_trans K0.1 ah
  exact oO X4 hx hlk (by decide) (by decide) Bd.returns rfl rfl (hd 6 rfl) (⟨r4, rfl, aH, aF, aM, aC, aJ, aE⟩)
theorem oi0 (hw : oo Z aw) (ws : List Jvm.Cond) (a0 : Addr) (a1 : Addr) (ar : Nat) (kk : ov) (m1 : Nat) (m2 : Nat) (m3 : Nat) (m4 : Nat) (k : ClassId) (h0 : Heap) (n0 : Nat) (Z0 : n0 ≤ h0.size) (af : Exa Z h0 a0 "java/util/ArrayList") (ab : Fld Z h0 a0 "java/util/AbstractList" "modCount" "I" (.int (0 : Int32))) (aa : Fld Z h0 a0 "java/util/ArrayList" "elementData" "[Ljava/lang/Object;" .null) (ae : Fld Z h0 a0 "java/util/ArrayList" "size" "I" (.int (0 : Int32))) (ay : n0 ≤ a0) (ag : Exa Z h0 a1 "java/util/ImmutableCollections$ListN") (ac : Fld Z h0 a1 "java/util/ImmutableCollections$ListN" "elements" "[Ljava/lang/Object;" (.ref ar)) (ao : Arv Z h0 ar k (.object "java/lang/Object") (4 : Int32) [.ref m1, .ref m2, .ref m3, .ref m4] .null) (ap : Exa Z h0 ar "[Ljava/lang/Object;") (ah : Exa Z h0 m1 "com/example/restate/restate/model/AmountColumn") (ai : Exa Z h0 m2 "com/example/restate/restate/model/AmountColumn") (aj : Exa Z h0 m3 "com/example/restate/restate/model/AmountColumn") (ak : Exa Z h0 m4 "com/example/restate/restate/model/AmountColumn") (J0 : oy Z h0 n0 kk) (aq : a1 ≠ a0) (au : ar ≠ a0) (bb : m1 ≠ a0) (bc : m2 ≠ a0) (bd : m3 ≠ a0) (be : m4 ≠ a0) :
    ot l Z (⟨"java/util/ArrayList", "<init>", "(Ljava/util/Collection;)V"⟩ : MethodName) jdk_38_method_3_code 3 none ws ({ frames := 4, cells := 2, slots := 8, locals := 58 } : Room) #[(.ref a0), (.ref a1)] h0 (oeU Z a0 a1 ar kk m1 m2 m3 m4 k h0 n0) := by
  refine ou (plainFor_of_name oab) (fun m => oeT m a0 a1) ?_
  intro p e s m below meth c bP Bd hml hx hby hlk hown hnm hZ X0 e0
  have hd := oq oeS hby
  have N0 := Fr.nil n0
  have K0 : Keep h0 h0 [a0] := Keep.refl _ _
  refine oc X0 hx (hd 0 rfl) rfl rfl ?_
  refine oK X0 hx hZ hown (host := "") (Or.inl (hw 9 rfl)) (hw 10 rfl) (hw 14 rfl) (hw 13 rfl) rfl (by decide) (och l Z aw hw [] a0 (0 : Int32) h0 n0 Z0 af ab ay) e0 hml rfl rfl (rest := []) rfl (lenOf oN rfl) (hd 1 rfl) rfl fun T1 bQ v1 X1 bK => ?_
  obtain ⟨rfl, bu, W1⟩ := bK
  obtain ⟨h1, bq⟩ : ∃ z, z = T1.heap := ⟨_, rfl⟩
  rw [← bq] at W1
  have e1 := bq.symm
  have bv := Fr.app N0 bu
  replace af := af.wr W1
  replace ab := ab.same W1
  replace aa := aa.other W1 (Or.inr (ob (Or.inl (hw 28 rfl)) (Or.inl (hw 25 rfl)) (by decide)))
  replace ae := ae.other W1 (Or.inr (ob (Or.inl (hw 211 rfl)) (Or.inl (hw 25 rfl)) (by decide)))
  replace ag := ag.wr W1
  replace ac := ac.other W1 (Or.inl aq)
  replace ao := ao.other W1 au
  replace ap := ap.wr W1
  replace ah := ah.wr W1
  replace ai := ai.wr W1
  replace aj := aj.wr W1
  replace ak := ak.wr W1
  replace J0 := J0.keep (Keep.of_wr W1) (allS ay all0)
  have bo := K0.wr W1 (Or.inl (List.mem_of_getElem? (i := 0) rfl))
  have bk := Nat.le_trans Z0 (Keep.of_wr W1).1
  have bz := bv
  refine oc X1 hx (hd 2 rfl) rfl rfl ?_
  have aD := af.lt
  have aE := ag.lt
  have aG := ah.lt
  have aH := ai.lt
  have aI := aj.lt
  have aJ := ak.lt
  have aF := ao.lt
  refine oS X1 hx hZ hown (hw 178 rfl) (hw 179 rfl) (hw 180 rfl) (hw 181 rfl) (hw 182 rfl) (hw 183 rfl) (hw 184 rfl) (hw 185 rfl) (hw 186 rfl) (hw 152 rfl) (by decide) (oiZ l Z aw hw [] a1 ar kk m1 m2 m3 m4 k h1 n0 bk ac ao ap ah ai aj ak J0) e1 ag hml rfl rfl (rest := []) rfl (lenOf obk rfl) (hd 3 rfl) rfl fun T2 bR v2 X2 bL => ?_
  obtain ⟨r2, rfl, bw, k2, bN, aC, aB, aS⟩ := bL
  have bA := Fr.app bz bw
  replace af := af.keep k2
  replace ab := ab.keep k2 nin0
  replace aa := aa.keep k2 nin0
  replace ae := ae.keep k2 nin0
  replace ag := ag.keep k2
  replace ac := ac.keep k2 nin0
  replace ao := ao.keep k2 nin0
  replace ap := ap.keep k2
  replace ah := ah.keep k2
  replace ai := ai.keep k2
  replace aj := aj.keep k2
  replace ak := ak.keep k2
  replace J0 := J0.keep k2 all0
  have bs := bo.trans k2 all0
  have bF := Nat.le_trans bk k2.1
  have ax := Nat.lt_of_lt_of_le aD aC
  have aT := Nat.lt_of_lt_of_le aE aC
  have aX := Nat.lt_of_lt_of_le aG aC
  have aZ := Nat.lt_of_lt_of_le aH aC
  have a6 := Nat.lt_of_lt_of_le aI aC
  have a8 := Nat.lt_of_lt_of_le aJ aC
  have aV := Nat.lt_of_lt_of_le aF aC
  have bI := Nat.le_trans bk aC
  have br := Nat.le_trans bo.1 aC
  refine oz (fun _ k => XS.astoreN X2.here hx rfl (hd 4 rfl) rfl rfl (l' := #[.val (.ref a0), .val (.ref a1), .val (.ref r2)]) rfl k) ?_
  refine oc X2 hx (hd 5 rfl) rfl rfl ?_
  refine oc X2 hx (hd 6 rfl) rfl rfl ?_
  obtain ⟨bU, bm, q3, S3, bD, H3, G3⟩ := id aB
  refine ow (fun _ k => X2.arraylength hx bm.1 (State.isArrayOf_alike hZ.alike bm.2.1) rfl rfl (hd 7 rfl) _ k) ?_
  rw [len_of S3 bD]
  show oe p.tables e below _ (T2.setTop (mkF m 14 #[.val (.ref a0), .val (.ref a1), .val (.ref r2)] [(.int (4 : Int32)), (.ref a0)]))
  refine og (S' := [(.int (4 : Int32)), (.ref a0), (.int (4 : Int32))])  (fun _ k => XS.dupX1 X2.here hx rfl (hd 8 rfl) rfl rfl rfl k) ?_
  refine ox (putF X2 hx hZ hown (host := "") (Or.inl (hw 210 rfl)) Via.refl rfl ae af (Or.inl (hw 211 rfl)) (hw 4 rfl) (ty := .int) (by decide) rfl rfl rfl rfl (hd 9 rfl)) fun T4 h4 X4 e4 W4 => ?_
  replace af := af.wr W4
  replace ab := ab.other W4 (Or.inr (ob (Or.inl (hw 25 rfl)) (Or.inl (hw 211 rfl)) (by decide)))
  replace aa := aa.other W4 (Or.inr (ob (Or.inl (hw 28 rfl)) (Or.inl (hw 211 rfl)) (by decide)))
  replace ae := ae.same W4
  replace ag := ag.wr W4
  replace ac := ac.other W4 (Or.inl aq)
  replace ao := ao.other W4 au
  replace ap := ap.wr W4
  replace ah := ah.wr W4
  replace ai := ai.wr W4
  replace aj := aj.wr W4
  replace ak := ak.wr W4
  replace J0 := J0.keep (Keep.of_wr W4) (allS ay all0)
  replace aB := aB.other W4 (Ne.symm (od ax))
  replace aS := aS.wr W4
  have bp := bs.wr W4 (Or.inl (List.mem_of_getElem? (i := 0) rfl))
  have bl := Nat.le_trans bF (Keep.of_wr W4).1
  have bB := Fr.snoc X4 bA ay
  refine og (S' := [])  (fun _ k => XS.ifNo X4.here hx rfl (hd 10 rfl) rfl ((if0 _ _).trans (feq (by decide)).1) k) ?_
  refine oc X4 hx (hd 11 rfl) rfl rfl ?_
  refine oi (ocA X4 hx hZ (xi := (⟨"java/util/Collection", "getClass", "()Ljava/lang/Class;"⟩ : MethodName)) hown (hw 212 rfl) (hw 192 rfl) (obr hZ (hw 213 rfl)) (hw 214 rfl) (hw 193 rfl) (hw 215 rfl) (hw 216 rfl) (hw 185 rfl) (hw 195 rfl) (by decide) (by decide) rfl rfl e4 ag (J0.ml) rfl (by rw [hml]; rfl) rfl (hd 12 rfl) (by decide) (W := 0) (by show 2 * 0 + _ ≤ _; exact Nat.le_of_eq rfl) (by decide)) fun T5 X5 e5 => ?_
  refine oi (obc X5 hx hZ hown (hw 217 rfl) (J0.ma) e5 rfl (hd 13 rfl)) fun T6 X6 e6 => ?_
  show oe p.tables e below _ (T6.setTop (mkF m 29 #[.val (.ref a0), .val (.ref a1), .val (.ref r2)] [(.ref kk.ma), (.ref kk.ml)]))
  refine ow (fun _ k => Jvm.RoadKit.acmp X6 hx rfl rfl rfl (pc0 := 29) (pc' := 40) (same := false) rfl (hd 14 rfl) rfl (by have q := Mir.ne J0.ml J0.ma (by decide); simp [q]) (by decide) (by decide) k) ?_
  show oe p.tables e below _ (T6.setTop (mkF m 40 #[.val (.ref a0), .val (.ref a1), .val (.ref r2)] []))
  refine oc X6 hx (hd 15 rfl) rfl rfl ?_
  refine oc X6 hx (hd 16 rfl) rfl rfl ?_
  refine oc X6 hx (hd 17 rfl) rfl rfl ?_
  refine oi (getF X6 hx hZ hown (host := "") (Or.inl (hw 210 rfl)) Via.refl e6 ae rfl rfl (hd 18 rfl)) fun T7 X7 e7 => ?_
  refine oi (obc X7 hx hZ hown (hw 219 rfl) (J0.mo) e7 rfl (hd 19 rfl)) fun T8 X8 e8 => ?_
  show oe p.tables e below _ (T8.setTop (mkF m 48 #[.val (.ref a0), .val (.ref a1), .val (.ref r2)] [(.ref kk.mo), (.int (4 : Int32)), (.ref r2), (.ref a0)]))
  have aK := af.lt
  have aL := ag.lt
  have aN := ah.lt
  have aO := ai.lt
  have aP := aj.lt
  have aQ := ak.lt
  have aM := ao.lt
  have aR := aB.lt
  refine oL X8 hx hZ hown (hw 220 rfl) (hw 198 rfl) (hw 199 rfl) (hw 189 rfl) (by decide) (ock l Z aw hw [] r2 kk m1 m2 m3 m4 bN h4 n0 bl aB ah ai aj ak J0) e8 hml rfl rfl (rest := [(.ref a0)]) rfl (lenOf obN rfl) (hd 20 rfl) rfl fun T9 bS v9 X9 bM => ?_
  obtain ⟨r9, rfl, bx, k9, bO, aA, bi, bn⟩ := bM
  have bC := Fr.app bB bx
  replace af := af.keep k9
  replace ab := ab.keep k9 nin0
  replace aa := aa.keep k9 nin0
  replace ae := ae.keep k9 nin0
  replace ag := ag.keep k9
  replace ac := ac.keep k9 nin0
  replace ao := ao.keep k9 nin0
  replace ap := ap.keep k9
  replace ah := ah.keep k9
  replace ai := ai.keep k9
  replace aj := aj.keep k9
  replace ak := ak.keep k9
  replace J0 := J0.keep k9 all0
  replace aB := aB.keep k9 nin0
  replace aS := aS.keep k9
  have bt := bp.trans k9 all0
  have bG := Nat.le_trans bl k9.1
  have az := Nat.lt_of_lt_of_le aK aA
  have aU := Nat.lt_of_lt_of_le aL aA
  have aY := Nat.lt_of_lt_of_le aN aA
  have a5 := Nat.lt_of_lt_of_le aO aA
  have a7 := Nat.lt_of_lt_of_le aP aA
  have a9 := Nat.lt_of_lt_of_le aQ aA
  have aW := Nat.lt_of_lt_of_le aM aA
  have ba := Nat.lt_of_lt_of_le aR aA
  have bJ := Nat.le_trans bl aA
  have bf := Nat.le_trans bp.1 aA
  refine ox (putF X9 hx hZ hown (host := "") (Or.inl (hw 27 rfl)) Via.refl rfl aa af (Or.inl (hw 28 rfl)) (hw 4 rfl) (ty := (.array (.object "java/lang/Object"))) (by decide) rfl rfl rfl rfl (hd 21 rfl)) fun bT bV bj bH av => ?_
  replace af := af.wr av
  replace ab := ab.other av (Or.inr (ob (Or.inl (hw 25 rfl)) (Or.inl (hw 28 rfl)) (by decide)))
  replace aa := aa.same av
  replace ae := ae.other av (Or.inr (ob (Or.inl (hw 211 rfl)) (Or.inl (hw 28 rfl)) (by decide)))
  replace ag := ag.wr av
  replace ac := ac.other av (Or.inl aq)
  replace ao := ao.other av au
  replace ap := ap.wr av
  replace ah := ah.wr av
  replace ai := ai.wr av
  replace aj := aj.wr av
  replace ak := ak.wr av
  replace J0 := J0.keep (Keep.of_wr av) (allS ay all0)
  replace aB := aB.other av (Ne.symm (od ax))
  replace aS := aS.wr av
  replace bi := bi.other av (Ne.symm (od az))
  replace bn := bn.wr av
  have bg := bt.wr av (Or.inl (List.mem_of_getElem? (i := 0) rfl))
  have bE := Nat.le_trans bG (Keep.of_wr av).1
  have bh := Fr.snoc bj bC ay
  refine oJ (fun _ k => XS.goto bj.here hx rfl (pc0 := 54) (pc' := 64) rfl (hd 22 rfl) (by decide) (by decide) k) ?_
  exact oG bj hx hlk (by decide) (by decide) Bd.returns (hd 23 rfl) (by rw [bH]; exact ⟨rfl, bh, bg, r9, bO, bf, af, ab, ae, aa, bi⟩)
theorem oi1 (hw : oo Z aw) (ws : List Jvm.Cond) (a0 : Addr) (a1 : Addr) (z : Int32) (h0 : Heap) (n0 : Nat) (Z0 : n0 ≤ h0.size) (ah : Exa Z h0 a0 "java/util/ArrayList$Itr") (af : Fld Z h0 a0 "java/util/ArrayList$Itr" "cursor" "I" (.int (0 : Int32))) (ab : Fld Z h0 a0 "java/util/ArrayList$Itr" "this$0" "Ljava/util/ArrayList;" .null) (ae : Fld Z h0 a0 "java/util/ArrayList$Itr" "lastRet" "I" (.int (0 : Int32))) (aa : Fld Z h0 a0 "java/util/ArrayList$Itr" "expectedModCount" "I" (.int (0 : Int32))) (ai : n0 ≤ a0) (ac : Fld Z h0 a1 "java/util/AbstractList" "modCount" "I" (.int z)) (ag : a1 ≠ a0) :
    ot l Z (⟨"java/util/ArrayList$Itr", "<init>", "(Ljava/util/ArrayList;)V"⟩ : MethodName) jdk_49_method_1_code 2 none ws ({ frames := 1, cells := 0, slots := 0, locals := 12 } : Room) #[(.ref a0), (.ref a1)] h0 (oeY Z a0 a1 z h0 n0) := by
  refine ou (plainFor_of_name obO) (fun m => oeX m a0 a1) ?_
  intro p e s m below meth c ay Bd hml hx hby hlk hown hnm hZ X0 e0
  have hd := oq oeW hby
  have N0 := Fr.nil n0
  have K0 : Keep h0 h0 [a0] := Keep.refl _ _
  refine oc X0 hx (hd 0 rfl) rfl rfl ?_
  refine oc X0 hx (hd 1 rfl) rfl rfl ?_
  refine ox (putF X0 hx hZ hown (host := "") (Or.inl (hw 239 rfl)) Via.refl e0 ab ah (Or.inr ⟨(hw 240 rfl), rfl, hnm⟩) (hw 233 rfl) (ty := (.object "java/util/ArrayList")) (by decide) rfl rfl rfl rfl (hd 2 rfl)) fun T1 h1 X1 e1 W1 => ?_
  replace ah := ah.wr W1
  replace af := af.other W1 (Or.inr (ob (Or.inl (hw 258 rfl)) (Or.inr (hw 240 rfl)) (by decide)))
  replace ab := ab.same W1
  replace ae := ae.other W1 (Or.inr (ob (Or.inl (hw 243 rfl)) (Or.inr (hw 240 rfl)) (by decide)))
  replace aa := aa.other W1 (Or.inr (ob (Or.inl (hw 247 rfl)) (Or.inr (hw 240 rfl)) (by decide)))
  replace ac := ac.other W1 (Or.inl ag)
  have aj := K0.wr W1 (Or.inl (List.mem_of_getElem? (i := 0) rfl))
  have av := Nat.le_trans Z0 (Keep.of_wr W1).1
  have ap := Fr.snoc X1 N0 ai
  refine oc X1 hx (hd 3 rfl) rfl rfl ?_
  refine oi (initO X1 hx hZ hown (hw 241 rfl) (hw 22 rfl) (hw 23 rfl) e1 rfl (by rw [hml]; rfl) rfl (hd 4 rfl) (by decide) (W := 0) (by show 2 * 0 + _ ≤ _; exact Nat.le_of_eq rfl) (by decide)) fun T2 X2 e2 => ?_
  refine oc X2 hx (hd 5 rfl) rfl rfl ?_
  refine ol (v := (.int (-1 : Int32))) (fun _ k => XS.iconst X2.here hx rfl (hd 6 rfl) k) ?_
  refine ox (putF X2 hx hZ hown (host := "") (Or.inl (hw 242 rfl)) Via.refl e2 ae ah (Or.inl (hw 243 rfl)) (hw 233 rfl) (ty := .int) (by decide) rfl rfl rfl rfl (hd 7 rfl)) fun T3 h3 X3 e3 W3 => ?_
  replace ah := ah.wr W3
  replace af := af.other W3 (Or.inr (ob (Or.inl (hw 258 rfl)) (Or.inl (hw 243 rfl)) (by decide)))
  replace ab := ab.other W3 (Or.inr (ob (Or.inr (hw 240 rfl)) (Or.inl (hw 243 rfl)) (by decide)))
  replace ae := ae.same W3
  replace aa := aa.other W3 (Or.inr (ob (Or.inl (hw 247 rfl)) (Or.inl (hw 243 rfl)) (by decide)))
  replace ac := ac.other W3 (Or.inl ag)
  have ak := aj.wr W3 (Or.inl (List.mem_of_getElem? (i := 0) rfl))
  have ax := Nat.le_trans av (Keep.of_wr W3).1
  have aq := Fr.snoc X3 ap ai
  refine oc X3 hx (hd 8 rfl) rfl rfl ?_
  refine oc X3 hx (hd 9 rfl) rfl rfl ?_
  refine oi (getF X3 hx hZ hown (host := "") (Or.inl (hw 239 rfl)) Via.refl e3 ab rfl rfl (hd 10 rfl)) fun T4 X4 e4 => ?_
  refine oi (getF X4 hx hZ hown (host := "") (Or.inl (hw 244 rfl)) (Via.of (hw 245 rfl)) e4 ac rfl rfl (hd 11 rfl)) fun T5 X5 e5 => ?_
  refine ox (putF X5 hx hZ hown (host := "") (Or.inl (hw 246 rfl)) Via.refl e5 aa ah (Or.inl (hw 247 rfl)) (hw 233 rfl) (ty := .int) (by decide) rfl rfl rfl rfl (hd 12 rfl)) fun T6 h6 X6 e6 W6 => ?_
  replace ah := ah.wr W6
  replace af := af.other W6 (Or.inr (ob (Or.inl (hw 258 rfl)) (Or.inl (hw 247 rfl)) (by decide)))
  replace ab := ab.other W6 (Or.inr (ob (Or.inr (hw 240 rfl)) (Or.inl (hw 247 rfl)) (by decide)))
  replace ae := ae.other W6 (Or.inr (ob (Or.inl (hw 243 rfl)) (Or.inl (hw 247 rfl)) (by decide)))
  replace aa := aa.same W6
  replace ac := ac.other W6 (Or.inl ag)
  have ao := ak.wr W6 (Or.inl (List.mem_of_getElem? (i := 0) rfl))
  have az := Nat.le_trans ax (Keep.of_wr W6).1
  have au := Fr.snoc X6 aq ai
  exact oG X6 hx hlk (by decide) (by decide) Bd.returns (hd 13 rfl) (by rw [e6]; exact ⟨rfl, au, ao, af, ab⟩)
theorem oi2 (hw : oo Z aw) (ws : List Jvm.Cond) (a0 : Addr) (z : Int32) (h0 : Heap) (n0 : Nat) (Z0 : n0 ≤ h0.size) (aa : Fld Z h0 a0 "java/util/AbstractList" "modCount" "I" (.int z)) :
    ot l Z (⟨"java/util/ArrayList", "iterator", "()Ljava/util/Iterator;"⟩ : MethodName) jdk_38_method_55_code 1 (some (.object "java/util/Iterator")) ws ({ frames := 2, cells := 1, slots := 4, locals := 26 } : Room) #[(.ref a0)] h0 (oe3 Z a0 z h0 n0) := by
  refine ou (plainFor_of_name oab) (fun m => oe2 m a0) ?_
  intro p e s m below meth c az Bd hml hx hby hlk hown hnm hZ X0 e0
  have hd := oq oe1 hby
  have N0 := Fr.nil n0
  have K0 : Keep h0 h0 [] := Keep.refl _ _
  obtain ⟨T1, h1, X1, e1, E1, A1, D1, -, ak⟩ := newO X0 hx hZ hown (hw 232 rfl) (hw 233 rfl) (hw 234 rfl) e0 (g := (mkF m 0 #[.val (.ref a0)] [])) rfl (hd 0 rfl) (by decide) (by decide)
  obtain ⟨b1, g1⟩ : ∃ z, z = h0.size := ⟨_, rfl⟩
  rw [← g1] at A1 D1 ak
  refine ow ak ?_
  have ag := os aa.lt g1
  have ai := om Z0 g1
  have ah := om K0.1 g1
  replace aa := aa.ext E1
  have aq := K0.ext E1
  have aj := Nat.le_trans Z0 E1.1
  have af : Fld Z h1 b1 "java/util/ArrayList$Itr" "this$0" "Ljava/util/ArrayList;" .null := D1 (Or.inr (hw 240 rfl)) (ty := (.object "java/util/ArrayList")) (by decide)
  have ac : Fld Z h1 b1 "java/util/ArrayList$Itr" "lastRet" "I" (.int (0 : Int32)) := D1 (Or.inl (hw 243 rfl)) (ty := .int) (by decide)
  have ab : Fld Z h1 b1 "java/util/ArrayList$Itr" "expectedModCount" "I" (.int (0 : Int32)) := D1 (Or.inl (hw 247 rfl)) (ty := .int) (by decide)
  have ae : Fld Z h1 b1 "java/util/ArrayList$Itr" "cursor" "I" (.int (0 : Int32)) := D1 (Or.inl (hw 258 rfl)) (ty := .int) (by decide)
  show oe p.tables e below _ (T1.setTop (mkF m 3 #[.val (.ref a0)] [(.ref b1)]))
  refine og (S' := [(.ref b1), (.ref b1)])  (fun _ k => XS.dup X1.here hx rfl (hd 1 rfl) rfl rfl k) ?_
  refine oc X1 hx (hd 2 rfl) rfl rfl ?_
  refine oK X1 hx hZ hown (host := "") (Or.inl (hw 235 rfl)) (hw 236 rfl) (hw 238 rfl) (hw 234 rfl) rfl (by decide) (oi1 l Z aw hw [] b1 a0 z h1 n0 aj A1 ae af ac ab ai aa (od ag)) e1 hml rfl rfl (rest := [(.ref b1)]) rfl (lenOf oeZ rfl) (hd 3 rfl) rfl fun T2 aA v2 X2 ay => ?_
  obtain ⟨rfl, av, k2, ao, ap⟩ := ay
  have ax := Fr.app N0 av
  replace aa := aa.keep k2 (oa ag)
  replace A1 := A1.keep k2
  have au := aq.trans k2 (allS (Or.inr ah) all0)
  have aB := Nat.le_trans aj k2.1
  exact oO X2 hx hlk (by decide) (by decide) Bd.returns rfl rfl (hd 4 rfl) (⟨b1, rfl, ax, au, ah, A1, ao, ap⟩)
theorem oi3 (hw : oo Z aw) (ws : List Jvm.Cond) (a0 : Addr) (al : Nat) (h0 : Heap) (n0 : Nat) (Z0 : n0 ≤ h0.size) (aa : Fld Z h0 a0 "java/util/ArrayList$Itr" "cursor" "I" (.int (0 : Int32))) (ab : Fld Z h0 a0 "java/util/ArrayList$Itr" "this$0" "Ljava/util/ArrayList;" (.ref al)) (ac : Fld Z h0 al "java/util/ArrayList" "size" "I" (.int (0 : Int32))) :
    ot l Z (⟨"java/util/ArrayList$Itr", "hasNext", "()Z"⟩ : MethodName) jdk_49_method_2_code 1 (some .boolean) ws ({ frames := 0, cells := 0, slots := 0, locals := 0 } : Room) #[(.ref a0)] h0 (oe7 Z a0 al h0 n0) := by
  refine ou (plainFor_of_name obO) (fun m => oe6 m a0) ?_
  intro p e s m below meth c ae Bd hml hx hby hlk hown hnm hZ X0 e0
  have hd := oq oe5 hby
  have N0 := Fr.nil n0
  have K0 : Keep h0 h0 [] := Keep.refl _ _
  refine oc X0 hx (hd 0 rfl) rfl rfl ?_
  refine oi (getF X0 hx hZ hown (host := "") (Or.inl (hw 257 rfl)) Via.refl e0 aa rfl rfl (hd 1 rfl)) fun T1 X1 e1 => ?_
  refine oc X1 hx (hd 2 rfl) rfl rfl ?_
  refine oi (getF X1 hx hZ hown (host := "") (Or.inl (hw 239 rfl)) Via.refl e1 ab rfl rfl (hd 3 rfl)) fun T2 X2 e2 => ?_
  refine oi (getF X2 hx hZ hown (Or.inr (hw 259 rfl)) Via.refl e2 ac rfl rfl (hd 4 rfl)) fun T3 X3 e3 => ?_
  refine oC (S' := [])  (fun _ k => XS.icmpYes X3.here hx rfl (pc0 := 11) (pc' := 18) rfl (hd 5 rfl) rfl (teq (by decide)).1 (by decide) (by decide) k) ?_
  refine ol (v := (.int (0 : Int32))) (fun _ k => XS.iconst X3.here hx rfl (hd 6 rfl) k) ?_
  exact oap X3 hx hlk (by decide) (by decide) (t := .boolean) Bd.returns (by simp) (hd 7 rfl) (by rw [e3]; exact ⟨rfl, N0, rfl⟩)
theorem oi4 (hw : oo Z aw) (ws : List Jvm.Cond) (a0 : Addr) (z : UInt32) (h0 : Heap) (n0 : Nat) (Z0 : n0 ≤ h0.size) (ah : Exa Z h0 a0 "java/util/LinkedHashMap") (ab : Fld Z h0 a0 "java/util/HashMap" "loadFactor" "F" (.float z)) (ag : Fld Z h0 a0 "java/util/HashMap" "size" "I" (.int (0 : Int32))) (af : Fld Z h0 a0 "java/util/LinkedHashMap" "head" "Ljava/util/LinkedHashMap$Entry;" .null) (ac : Fld Z h0 a0 "java/util/LinkedHashMap" "putMode" "I" (.int (0 : Int32))) (aa : Fld Z h0 a0 "java/util/LinkedHashMap" "accessOrder" "Z" (.int (0 : Int32))) (ae : Fld Z h0 a0 "java/util/AbstractMap" "values" "Ljava/util/Collection;" .null) (ai : n0 ≤ a0) :
    ot l Z (⟨"java/util/LinkedHashMap", "<init>", "()V"⟩ : MethodName) jdk_94_method_16_code 1 none ws ({ frames := 3, cells := 0, slots := 0, locals := 36 } : Room) #[(.ref a0)] h0 (ofb Z a0 z h0 n0) := by
  refine ou (plainFor_of_name oa3) (fun m => ofa m a0) ?_
  intro p e s m below meth c aC Bd hml hx hby hlk hown hnm hZ X0 e0
  have hd := oq oe9 hby
  have N0 := Fr.nil n0
  have K0 : Keep h0 h0 [a0] := Keep.refl _ _
  refine oc X0 hx (hd 0 rfl) rfl rfl ?_
  refine oK X0 hx hZ hown (host := "") (Or.inl (hw 122 rfl)) (hw 63 rfl) (hw 64 rfl) (hw 61 rfl) rfl (by decide) (oiT l Z aw hw [] a0 z h0 n0 Z0 ah ab ai) e0 hml rfl rfl (rest := []) rfl (lenOf oN rfl) (hd 1 rfl) rfl fun T1 aD v1 X1 aB => ?_
  obtain ⟨rfl, aq, W1⟩ := aB
  obtain ⟨h1, aj⟩ : ∃ z, z = T1.heap := ⟨_, rfl⟩
  rw [← aj] at W1
  have e1 := aj.symm
  have au := Fr.app N0 aq
  replace ah := ah.wr W1
  replace ab := ab.same W1
  replace ag := ag.other W1 (Or.inr (ob (Or.inl (hw 307 rfl)) (Or.inr (hw 126 rfl)) (by decide)))
  replace af := af.other W1 (Or.inr (ob (Or.inl (hw 315 rfl)) (Or.inr (hw 126 rfl)) (by decide)))
  replace ac := ac.other W1 (Or.inr (ob (Or.inl (hw 128 rfl)) (Or.inr (hw 126 rfl)) (by decide)))
  replace aa := aa.other W1 (Or.inr (ob (Or.inr (hw 130 rfl)) (Or.inr (hw 126 rfl)) (by decide)))
  replace ae := ae.other W1 (Or.inr (ob (Or.inl (hw 276 rfl)) (Or.inr (hw 126 rfl)) (by decide)))
  have ak := K0.wr W1 (Or.inl (List.mem_of_getElem? (i := 0) rfl))
  have az := Nat.le_trans Z0 (Keep.of_wr W1).1
  have av := au
  refine oc X1 hx (hd 2 rfl) rfl rfl ?_
  refine ol (v := (.int (0 : Int32))) (fun _ k => XS.iconst X1.here hx rfl (hd 3 rfl) k) ?_
  refine ox (putF X1 hx hZ hown (host := "") (Or.inl (hw 127 rfl)) Via.refl e1 ac ah (Or.inl (hw 128 rfl)) (hw 117 rfl) (ty := .int) (by decide) rfl rfl rfl rfl (hd 4 rfl)) fun T2 h2 X2 e2 W2 => ?_
  replace ah := ah.wr W2
  replace ab := ab.other W2 (Or.inr (ob (Or.inr (hw 126 rfl)) (Or.inl (hw 128 rfl)) (by decide)))
  replace ag := ag.other W2 (Or.inr (ob (Or.inl (hw 307 rfl)) (Or.inl (hw 128 rfl)) (by decide)))
  replace af := af.other W2 (Or.inr (ob (Or.inl (hw 315 rfl)) (Or.inl (hw 128 rfl)) (by decide)))
  replace ac := ac.same W2
  replace aa := aa.other W2 (Or.inr (ob (Or.inr (hw 130 rfl)) (Or.inl (hw 128 rfl)) (by decide)))
  replace ae := ae.other W2 (Or.inr (ob (Or.inl (hw 276 rfl)) (Or.inl (hw 128 rfl)) (by decide)))
  have ao := ak.wr W2 (Or.inl (List.mem_of_getElem? (i := 0) rfl))
  have aA := Nat.le_trans az (Keep.of_wr W2).1
  have ax := Fr.snoc X2 av ai
  refine oc X2 hx (hd 5 rfl) rfl rfl ?_
  refine ol (v := (.int (0 : Int32))) (fun _ k => XS.iconst X2.here hx rfl (hd 6 rfl) k) ?_
  refine ox (putFN X2 hx hZ hown (hw 129 rfl) Via.refl e2 aa ah (Or.inr ⟨(hw 130 rfl), rfl, hnm⟩) (hw 117 rfl) (ty := .boolean) (v' := (.int (0 : Int32))) (by decide) rfl rfl rfl rfl (hd 7 rfl)) fun T3 h3 X3 e3 W3 => ?_
  replace ah := ah.wr W3
  replace ab := ab.other W3 (Or.inr (ob (Or.inr (hw 126 rfl)) (Or.inr (hw 130 rfl)) (by decide)))
  replace ag := ag.other W3 (Or.inr (ob (Or.inl (hw 307 rfl)) (Or.inr (hw 130 rfl)) (by decide)))
  replace af := af.other W3 (Or.inr (ob (Or.inl (hw 315 rfl)) (Or.inr (hw 130 rfl)) (by decide)))
  replace ac := ac.other W3 (Or.inr (ob (Or.inl (hw 128 rfl)) (Or.inr (hw 130 rfl)) (by decide)))
  replace aa := aa.same W3
  replace ae := ae.other W3 (Or.inr (ob (Or.inl (hw 276 rfl)) (Or.inr (hw 130 rfl)) (by decide)))
  have ap := ao.wr W3 (Or.inl (List.mem_of_getElem? (i := 0) rfl))
  have aE := Nat.le_trans aA (Keep.of_wr W3).1
  have ay := Fr.snoc X3 ax ai
  exact oG X3 hx hlk (by decide) (by decide) Bd.returns (hd 8 rfl) (by rw [e3]; exact ⟨rfl, ay, ap, ag, af, ae⟩)
theorem oi5 (hw : oo Z aw) (ws : List Jvm.Cond) (a0 : Addr) (a1 : Addr) (h0 : Heap) (n0 : Nat) (Z0 : n0 ≤ h0.size) (ac : Exa Z h0 a0 "java/util/LinkedHashMap$LinkedValues") (ab : Fld Z h0 a0 "java/util/LinkedHashMap$LinkedValues" "this$0" "Ljava/util/LinkedHashMap;" .null) (aa : Fld Z h0 a0 "java/util/LinkedHashMap$LinkedValues" "reversed" "Z" (.int (0 : Int32))) (ae : n0 ≤ a0) :
    ot l Z (⟨"java/util/LinkedHashMap$LinkedValues", "<init>", "(Ljava/util/LinkedHashMap;Z)V"⟩ : MethodName) jdk_114_method_1_code 3 none ws ({ frames := 2, cells := 0, slots := 0, locals := 24 } : Room) #[(.ref a0), (.ref a1), (.int (0 : Int32))] h0 (off Z a0 a1 h0 n0) := by
  refine ou (plainFor_of_name obP) (fun m => ofe m a0 a1 (0 : Int32)) ?_
  intro p e s m below meth c aq Bd hml hx hby hlk hown hnm hZ X0 e0
  have hd := oq ofd hby
  have N0 := Fr.nil n0
  have K0 : Keep h0 h0 [a0] := Keep.refl _ _
  refine oc X0 hx (hd 0 rfl) rfl rfl ?_
  refine oc X0 hx (hd 1 rfl) rfl rfl ?_
  refine ox (putF X0 hx hZ hown (host := "") (Or.inl (hw 284 rfl)) Via.refl e0 ab ac (Or.inr ⟨(hw 285 rfl), rfl, hnm⟩) (hw 278 rfl) (ty := (.object "java/util/LinkedHashMap")) (by decide) rfl rfl rfl rfl (hd 2 rfl)) fun T1 h1 X1 e1 W1 => ?_
  replace ac := ac.wr W1
  replace ab := ab.same W1
  replace aa := aa.other W1 (Or.inr (ob (Or.inr (hw 289 rfl)) (Or.inr (hw 285 rfl)) (by decide)))
  have ag := K0.wr W1 (Or.inl (List.mem_of_getElem? (i := 0) rfl))
  have af := Nat.le_trans Z0 (Keep.of_wr W1).1
  have aj := Fr.snoc X1 N0 ae
  refine oc X1 hx (hd 3 rfl) rfl rfl ?_
  refine oK X1 hx hZ hown (host := "") (Or.inl (hw 286 rfl)) (hw 16 rfl) (hw 20 rfl) (hw 19 rfl) rfl (by decide) (obp l Z aw hw [] a0 h1 n0 af ) e1 hml rfl rfl (rest := []) rfl (lenOf oN rfl) (hd 4 rfl) rfl fun T2 au v2 X2 ap => ?_
  obtain ⟨rfl, ai, e2⟩ := ap
  have ak := Fr.app aj ai
  refine oc X2 hx (hd 5 rfl) rfl rfl ?_
  refine oj X2 hx (hd 6 rfl) rfl ?_
  refine ox (putFN X2 hx hZ hown (hw 288 rfl) Via.refl e2 aa ac (Or.inr ⟨(hw 289 rfl), rfl, hnm⟩) (hw 278 rfl) (ty := .boolean) (v' := (.int (0 : Int32))) (by decide) rfl rfl rfl rfl (hd 7 rfl)) fun T3 h3 X3 e3 W3 => ?_
  replace ac := ac.wr W3
  replace ab := ab.other W3 (Or.inr (ob (Or.inr (hw 285 rfl)) (Or.inr (hw 289 rfl)) (by decide)))
  replace aa := aa.same W3
  have ah := ag.wr W3 (Or.inl (List.mem_of_getElem? (i := 0) rfl))
  have av := Nat.le_trans af (Keep.of_wr W3).1
  have ao := Fr.snoc X3 ak ae
  exact oG X3 hx hlk (by decide) (by decide) Bd.returns (hd 8 rfl) (by rw [e3]; exact ⟨rfl, ao, ah, ab, aa⟩)
theorem oi6 (hw : oo Z aw) (ws : List Jvm.Cond) (a0 : Addr) (h0 : Heap) (n0 : Nat) (Z0 : n0 ≤ h0.size) (ag : Exa Z h0 a0 "java/util/LinkedHashMap") (ac : Fld Z h0 a0 "java/util/HashMap" "size" "I" (.int (0 : Int32))) (ab : Fld Z h0 a0 "java/util/LinkedHashMap" "head" "Ljava/util/LinkedHashMap$Entry;" .null) (aa : Fld Z h0 a0 "java/util/AbstractMap" "values" "Ljava/util/Collection;" .null) (ao : n0 ≤ a0) :
    ot l Z (⟨"java/util/LinkedHashMap", "sequencedValues", "()Ljava/util/SequencedCollection;"⟩ : MethodName) jdk_94_method_31_code 3 (some (.object "java/util/SequencedCollection")) ws ({ frames := 3, cells := 1, slots := 2, locals := 39 } : Room) #[(.ref a0)] h0 (ofk Z a0 h0 n0) := by
  refine ou (plainFor_of_name oa3) (fun m => ofj m a0) ?_
  intro p e s m below meth c aE Bd hml hx hby hlk hown hnm hZ X0 e0
  have hd := oq ofi hby
  have N0 := Fr.nil n0
  have K0 : Keep h0 h0 [a0] := Keep.refl _ _
  refine oc X0 hx (hd 0 rfl) rfl rfl ?_
  refine oi (getF X0 hx hZ hown (host := "") (Or.inl (hw 274 rfl)) (Via.of (hw 275 rfl)) e0 aa rfl rfl (hd 1 rfl)) fun T1 X1 e1 => ?_
  refine oz (fun _ k => XS.astoreN X1.here hx rfl (hd 2 rfl) rfl rfl (l' := #[.val (.ref a0), .val .null, .unset]) rfl k) ?_
  refine oc X1 hx (hd 3 rfl) rfl rfl ?_
  refine og (S' := [])  (fun _ k => XS.ifnonnullNo X1.here hx rfl (hd 4 rfl) rfl k) ?_
  obtain ⟨T2, h2, X2, e2, E2, A2, D2, -, au⟩ := newO X1 hx hZ hown (hw 277 rfl) (hw 278 rfl) (hw 279 rfl) e1 (g := (mkF m 9 #[.val (.ref a0), .val .null, .unset] [])) rfl (hd 5 rfl) (by decide) (by decide)
  obtain ⟨b2, g2⟩ : ∃ z, z = h0.size := ⟨_, rfl⟩
  rw [← g2] at A2 D2 au
  refine ow au ?_
  have ae := os ag.lt g2
  have ap := om Z0 g2
  have ai := om K0.1 g2
  replace ag := ag.ext E2
  replace ac := ac.ext E2
  replace ab := ab.ext E2
  replace aa := aa.ext E2
  have av := K0.ext E2
  have aq := Nat.le_trans Z0 E2.1
  have ah : Fld Z h2 b2 "java/util/LinkedHashMap$LinkedValues" "this$0" "Ljava/util/LinkedHashMap;" .null := D2 (Or.inr (hw 285 rfl)) (ty := (.object "java/util/LinkedHashMap")) (by decide)
  have af : Fld Z h2 b2 "java/util/LinkedHashMap$LinkedValues" "reversed" "Z" (.int (0 : Int32)) := D2 (Or.inr (hw 289 rfl)) (ty := .boolean) (by decide)
  show oe p.tables e below _ (T2.setTop (mkF m 12 #[.val (.ref a0), .val .null, .unset] [(.ref b2)]))
  refine og (S' := [(.ref b2), (.ref b2)])  (fun _ k => XS.dup X2.here hx rfl (hd 6 rfl) rfl rfl k) ?_
  refine oc X2 hx (hd 7 rfl) rfl rfl ?_
  refine ol (v := (.int (0 : Int32))) (fun _ k => XS.iconst X2.here hx rfl (hd 8 rfl) k) ?_
  refine oK X2 hx hZ hown (host := "") (Or.inl (hw 280 rfl)) (hw 281 rfl) (hw 283 rfl) (hw 279 rfl) rfl (by decide) (oi5 l Z aw hw [] b2 a0 h2 n0 aq A2 ah af ap) e2 hml rfl rfl (rest := [(.ref b2)]) rfl (lenOf ofg rfl) (hd 9 rfl) rfl fun T3 aF v3 X3 aD => ?_
  obtain ⟨rfl, az, k3, ak, aj⟩ := aD
  have aA := Fr.app N0 az
  replace ag := ag.keep k3
  replace ac := ac.keep k3 (oa ae)
  replace ab := ab.keep k3 (oa ae)
  replace aa := aa.keep k3 (oa ae)
  replace A2 := A2.keep k3
  have ax := av.trans k3 (allS (Or.inr ai) all0)
  have aC := Nat.le_trans aq k3.1
  refine oz (fun _ k => XS.astoreN X3.here hx rfl (hd 10 rfl) rfl rfl (l' := #[.val (.ref a0), .val .null, .val (.ref b2)]) rfl k) ?_
  refine oc X3 hx (hd 11 rfl) rfl rfl ?_
  refine oc X3 hx (hd 12 rfl) rfl rfl ?_
  refine ox (putF X3 hx hZ hown (host := "") (Or.inl (hw 274 rfl)) (Via.of (hw 275 rfl)) rfl aa ag (Or.inl (hw 276 rfl)) (hw 117 rfl) (ty := (.object "java/util/Collection")) (by decide) rfl rfl rfl rfl (hd 13 rfl)) fun T4 h4 X4 e4 W4 => ?_
  replace ag := ag.wr W4
  replace ac := ac.other W4 (Or.inr (ob (Or.inl (hw 307 rfl)) (Or.inl (hw 276 rfl)) (by decide)))
  replace ab := ab.other W4 (Or.inr (ob (Or.inl (hw 315 rfl)) (Or.inl (hw 276 rfl)) (by decide)))
  replace aa := aa.same W4
  replace A2 := A2.wr W4
  replace ak := ak.other W4 (Or.inl (Ne.symm (od ae)))
  replace aj := aj.other W4 (Or.inl (Ne.symm (od ae)))
  have ay := ax.wr W4 (Or.inl (List.mem_of_getElem? (i := 0) rfl))
  have aG := Nat.le_trans aC (Keep.of_wr W4).1
  have aB := Fr.snoc X4 aA ao
  refine oc X4 hx (hd 14 rfl) rfl rfl ?_
  exact oO X4 hx hlk (by decide) (by decide) Bd.returns rfl rfl (hd 15 rfl) (by rw [e4]; exact ⟨b2, rfl, aB, ay, ai, A2, ak, aj, ac, ab⟩)
theorem oi7 (hw : oo Z aw) (ws : List Jvm.Cond) (a0 : Addr) (h0 : Heap) (n0 : Nat) (Z0 : n0 ≤ h0.size) (ae : Exa Z h0 a0 "java/util/LinkedHashMap") (ac : Fld Z h0 a0 "java/util/HashMap" "size" "I" (.int (0 : Int32))) (ab : Fld Z h0 a0 "java/util/LinkedHashMap" "head" "Ljava/util/LinkedHashMap$Entry;" .null) (aa : Fld Z h0 a0 "java/util/AbstractMap" "values" "Ljava/util/Collection;" .null) (ai : n0 ≤ a0) :
    ot l Z (⟨"java/util/LinkedHashMap", "values", "()Ljava/util/Collection;"⟩ : MethodName) jdk_94_method_30_code 1 (some (.object "java/util/Collection")) ws ({ frames := 4, cells := 1, slots := 2, locals := 53 } : Room) #[(.ref a0)] h0 (ofp Z a0 h0 n0) := by
  refine ou (plainFor_of_name oa3) (fun m => ofo m a0) ?_
  intro p e s m below meth c aB Bd hml hx hby hlk hown hnm hZ X0 e0
  have hd := oq ofn hby
  have N0 := Fr.nil n0
  have K0 : Keep h0 h0 [a0] := Keep.refl _ _
  refine oc X0 hx (hd 0 rfl) rfl rfl ?_
  have af := ae.lt
  refine oB X0 hx hZ hown (hw 269 rfl) (hw 270 rfl) (hw 272 rfl) (hw 271 rfl) (hw 273 rfl) (hw 118 rfl) (by decide) (oi6 l Z aw hw [] a0 h0 n0 Z0 ae ac ab aa ai) e0 ae hml rfl rfl (rest := []) rfl (lenOf ofl rfl) (hd 1 rfl) rfl fun T1 aC v1 X1 aA => ?_
  obtain ⟨r1, rfl, ax, k1, aj, ak, au, ap, aq, ao⟩ := aA
  have ay := Fr.app N0 ax
  replace ae := ae.keep k1
  have av := K0.trans k1 (allS (Or.inl (List.mem_of_getElem? (i := 0) rfl)) all0)
  have aD := Nat.le_trans Z0 k1.1
  have ag := Nat.lt_of_lt_of_le af aj
  have az := Nat.le_trans Z0 aj
  have ah := Nat.le_trans K0.1 aj
  exact oO X1 hx hlk (by decide) (by decide) Bd.returns rfl rfl (hd 2 rfl) (⟨r1, rfl, ay, av, ah, ak, au, ap, aq, ao⟩)
theorem oi8 (hw : oo Z aw) (ws : List Jvm.Cond) (a0 : Addr) (a1 : Addr) (h0 : Heap) (n0 : Nat) (Z0 : n0 ≤ h0.size) (aa : Fld Z h0 a0 "java/util/LinkedHashMap" "head" "Ljava/util/LinkedHashMap$Entry;" .null) :
    ot l Z (⟨"java/util/LinkedHashMap", "valuesToArray", "([Ljava/lang/Object;Z)[Ljava/lang/Object;"⟩ : MethodName) jdk_94_method_29_code 6 (some (.array (.object "java/lang/Object"))) ws ({ frames := 0, cells := 0, slots := 0, locals := 0 } : Room) #[(.ref a0), (.ref a1), (.int (0 : Int32))] h0 (oft Z a0 a1 h0 n0) := by
  refine ou (plainFor_of_name oa3) (fun m => ofs m a0 a1 (0 : Int32)) ?_
  intro p e s m below meth c ab Bd hml hx hby hlk hown hnm hZ X0 e0
  have hd := oq ofr hby
  have N0 := Fr.nil n0
  have K0 : Keep h0 h0 [] := Keep.refl _ _
  refine oc X0 hx (hd 0 rfl) rfl rfl ?_
  refine oz (fun _ k => XS.astoreN X0.here hx rfl (hd 1 rfl) rfl rfl (l' := #[.val (.ref a0), .val (.ref a1), .val (.int (0 : Int32)), .val (.ref a1), .unset, .unset]) rfl k) ?_
  refine ol (v := (.int (0 : Int32))) (fun _ k => XS.iconst X0.here hx rfl (hd 2 rfl) k) ?_
  refine oz (fun _ k => XS.istore X0.here hx rfl (hd 3 rfl) rfl (l' := #[.val (.ref a0), .val (.ref a1), .val (.int (0 : Int32)), .val (.ref a1), .val (.int (0 : Int32)), .unset]) rfl k) ?_
  refine oj X0 hx (hd 4 rfl) rfl ?_
  refine oC (S' := [])  (fun _ k => XS.ifYes X0.here hx rfl (pc0 := 6) (pc' := 45) rfl (hd 5 rfl) rfl ((if0 _ _).trans (teq (by decide)).1) (by decide) (by decide) k) ?_
  refine oc X0 hx (hd 6 rfl) rfl rfl ?_
  refine oi (getF X0 hx hZ hown (host := "") (Or.inl (hw 314 rfl)) Via.refl e0 aa rfl rfl (hd 7 rfl)) fun T1 X1 e1 => ?_
  refine oz (fun _ k => XS.astore X1.here hx rfl (hd 8 rfl) rfl rfl (l' := #[.val (.ref a0), .val (.ref a1), .val (.int (0 : Int32)), .val (.ref a1), .val (.int (0 : Int32)), .val .null]) rfl k) ?_
  refine oM X1 hx (hd 9 rfl) rfl rfl ?_
  refine oC (S' := [])  (fun _ k => XS.ifnullYes X1.here hx rfl (pc0 := 53) (pc' := 78) rfl (hd 10 rfl) rfl (by decide) (by decide) k) ?_
  refine oc X1 hx (hd 11 rfl) rfl rfl ?_
  exact oO X1 hx hlk (by decide) (by decide) Bd.returns rfl rfl (hd 12 rfl) (by rw [e1]; exact ⟨rfl, N0, rfl⟩)
theorem oi9 (hw : oo Z aw) (ws : List Jvm.Cond) (a0 : Addr) (lm : Nat) (h0 : Heap) (n0 : Nat) (Z0 : n0 ≤ h0.size) (aa : Fld Z h0 a0 "java/util/LinkedHashMap$LinkedValues" "this$0" "Ljava/util/LinkedHashMap;" (.ref lm)) (ab : Fld Z h0 a0 "java/util/LinkedHashMap$LinkedValues" "reversed" "Z" (.int (0 : Int32))) (af : Exa Z h0 lm "java/util/LinkedHashMap") (ae : Fld Z h0 lm "java/util/HashMap" "size" "I" (.int (0 : Int32))) (ac : Fld Z h0 lm "java/util/LinkedHashMap" "head" "Ljava/util/LinkedHashMap$Entry;" .null) :
    ot l Z (⟨"java/util/LinkedHashMap$LinkedValues", "toArray", "()[Ljava/lang/Object;"⟩ : MethodName) jdk_114_method_7_code 1 (some (.array (.object "java/lang/Object"))) ws ({ frames := 1, cells := 1, slots := 0, locals := 17 } : Room) #[(.ref a0)] h0 (ofy Z a0 lm h0 n0) := by
  refine ou (plainFor_of_name obP) (fun m => ofx m a0) ?_
  intro p e s m below meth c az Bd hml hx hby hlk hown hnm hZ X0 e0
  have hd := oq ofw hby
  have N0 := Fr.nil n0
  have K0 : Keep h0 h0 [] := Keep.refl _ _
  refine oc X0 hx (hd 0 rfl) rfl rfl ?_
  refine oi (getF X0 hx hZ hown (host := "") (Or.inl (hw 284 rfl)) Via.refl e0 aa rfl rfl (hd 1 rfl)) fun T1 X1 e1 => ?_
  refine oc X1 hx (hd 2 rfl) rfl rfl ?_
  refine oi (getF X1 hx hZ hown (host := "") (Or.inl (hw 284 rfl)) Via.refl e1 aa rfl rfl (hd 3 rfl)) fun T2 X2 e2 => ?_
  refine oi (getF X2 hx hZ hown (host := "") (Or.inl (hw 305 rfl)) (Via.of (hw 306 rfl)) e2 ae rfl rfl (hd 4 rfl)) fun T3 X3 e3 => ?_
  obtain ⟨T4, h4, k4, X4, e4, E4, A4, ao, O4, ak⟩ := newRE X3 hx hZ hown (hw 308 rfl) (hw 139 rfl) e3 (g := (mkF m 11 #[.val (.ref a0)] [(.int (0 : Int32)), (.ref lm)])) rfl (hd 5 rfl) rfl (by decide) (cap := 0) (by decide) (by decide) (by decide) (by decide) (ad := "[Ljava/lang/Object;") rfl
  obtain ⟨b4, g4⟩ : ∃ z, z = h0.size := ⟨_, rfl⟩
  rw [← g4] at A4 ao ak
  refine ow ak ?_
  have ag := os aa.lt g4
  have ah := os af.lt g4
  have ax := om Z0 g4
  have ai := om K0.1 g4
  replace aa := aa.ext E4
  replace ab := ab.ext E4
  replace af := af.ext E4
  replace ae := ae.ext E4
  replace ac := ac.ext E4
  have ap := K0.ext E4
  have av := Nat.le_trans Z0 E4.1
  have aj : Arv Z h4 b4 k4 (.object "java/lang/Object") (0 : Int32) (List.replicate 0 .null) .null := oar 0 (Arv.new A4 (by decide))
  show oe p.tables e below _ (T4.setTop (mkF m 14 #[.val (.ref a0)] [(.ref b4), (.ref lm)]))
  refine oc X4 hx (hd 6 rfl) rfl rfl ?_
  refine oi (getF X4 hx hZ hown (host := "") (Or.inl (hw 288 rfl)) Via.refl e4 ab rfl rfl (hd 7 rfl)) fun T5 X5 e5 => ?_
  refine oB X5 hx hZ hown (hw 309 rfl) (hw 310 rfl) (hw 312 rfl) (hw 311 rfl) (hw 313 rfl) (hw 118 rfl) (by decide) (oi8 l Z aw hw [] lm b4 h4 n0 av ac) e5 af hml rfl rfl (rest := []) rfl (lenOf ofu rfl) (hd 8 rfl) rfl fun T6 aA v6 X6 ay => ?_
  obtain ⟨rfl, aq, e6⟩ := ay
  have au := Fr.app N0 aq
  exact oO X6 hx hlk (by decide) (by decide) Bd.returns rfl rfl (hd 9 rfl) (by rw [e6]; exact ⟨b4, rfl, au, ap, k4, ai, aj⟩)
theorem oja (hw : oo Z aw) (ws : List Jvm.Cond) (a0 : Addr) (a1 : Addr) (z : Int32) (sz : Int32) (ed : Nat) (lm : Nat) (h0 : Heap) (n0 : Nat) (Z0 : n0 ≤ h0.size) (ak : Exa Z h0 a0 "java/util/ArrayList") (ab : Fld Z h0 a0 "java/util/AbstractList" "modCount" "I" (.int z)) (ag : Fld Z h0 a0 "java/util/ArrayList" "size" "I" (.int sz)) (aa : Fld Z h0 a0 "java/util/ArrayList" "elementData" "[Ljava/lang/Object;" (.ref ed)) (aC : n0 ≤ a0) (ao : Exa Z h0 a1 "java/util/LinkedHashMap$LinkedValues") (ae : Fld Z h0 a1 "java/util/LinkedHashMap$LinkedValues" "this$0" "Ljava/util/LinkedHashMap;" (.ref lm)) (ac : Fld Z h0 a1 "java/util/LinkedHashMap$LinkedValues" "reversed" "Z" (.int (0 : Int32))) (ap : Exa Z h0 lm "java/util/LinkedHashMap") (ah : Fld Z h0 lm "java/util/HashMap" "size" "I" (.int (0 : Int32))) (af : Fld Z h0 lm "java/util/LinkedHashMap" "head" "Ljava/util/LinkedHashMap$Entry;" .null) (ai : a1 ≠ a0) (aj : lm ≠ a0) :
    ot l Z (⟨"java/util/ArrayList", "addAll", "(Ljava/util/Collection;)Z"⟩ : MethodName) jdk_38_method_41_code 6 (some .boolean) ws ({ frames := 2, cells := 1, slots := 0, locals := 29 } : Room) #[(.ref a0), (.ref a1)] h0 (ofD Z a0 a1 z sz ed lm h0 n0) := by
  refine ou (plainFor_of_name oab) (fun m => ofC m a0 a1) ?_
  intro p e s m below meth c aO Bd hml hx hby hlk hown hnm hZ X0 e0
  have hd := oq ofB hby
  have N0 := Fr.nil n0
  have K0 : Keep h0 h0 [a0] := Keep.refl _ _
  refine oc X0 hx (hd 0 rfl) rfl rfl ?_
  have au := ak.lt
  have av := ao.lt
  have ax := ap.lt
  refine oS X0 hx hZ hown (hw 178 rfl) (hw 179 rfl) (hw 180 rfl) (hw 299 rfl) (hw 300 rfl) (hw 301 rfl) (hw 302 rfl) (hw 303 rfl) (hw 304 rfl) (hw 279 rfl) (by decide) (oi9 l Z aw hw [] a1 lm h0 n0 Z0 ae ac ap ah af) e0 ao hml rfl rfl (rest := []) rfl (lenOf obk rfl) (hd 1 rfl) rfl fun T1 aP v1 X1 aN => ?_
  obtain ⟨r1, rfl, aH, k1, aS, aA, aB⟩ := aN
  have aI := Fr.app N0 aH
  replace ak := ak.keep k1
  replace ab := ab.keep k1 nin0
  replace ag := ag.keep k1 nin0
  replace aa := aa.keep k1 nin0
  replace ao := ao.keep k1
  replace ae := ae.keep k1 nin0
  replace ac := ac.keep k1 nin0
  replace ap := ap.keep k1
  replace ah := ah.keep k1 nin0
  replace af := af.keep k1 nin0
  have aF := K0.trans k1 all0
  have aL := Nat.le_trans Z0 k1.1
  have aq := Nat.lt_of_lt_of_le au aA
  have ay := Nat.lt_of_lt_of_le av aA
  have az := Nat.lt_of_lt_of_le ax aA
  have aM := Nat.le_trans Z0 aA
  have aE := Nat.le_trans K0.1 aA
  refine oz (fun _ k => XS.astoreN X1.here hx rfl (hd 2 rfl) rfl rfl (l' := #[.val (.ref a0), .val (.ref a1), .val (.ref r1), .unset, .unset, .unset]) rfl k) ?_
  refine oc X1 hx (hd 3 rfl) rfl rfl ?_
  refine og (S' := [(.ref a0), (.ref a0)])  (fun _ k => XS.dup X1.here hx rfl (hd 4 rfl) rfl rfl k) ?_
  refine oi (getF X1 hx hZ hown (host := "") (Or.inl (hw 316 rfl)) (Via.of (hw 245 rfl)) rfl ab rfl rfl (hd 5 rfl)) fun T2 X2 e2 => ?_
  refine ol (v := (.int (1 : Int32))) (fun _ k => XS.iconst X2.here hx rfl (hd 6 rfl) k) ?_
  refine og (S' := [(.int (z + (1 : Int32))), (.ref a0)])  (fun _ k => XS.iadd X2.here hx rfl (hd 7 rfl) rfl k) ?_
  refine ox (putF X2 hx hZ hown (host := "") (Or.inl (hw 316 rfl)) (Via.of (hw 245 rfl)) e2 ab ak (Or.inl (hw 25 rfl)) (hw 4 rfl) (ty := .int) (by decide) rfl rfl rfl rfl (hd 8 rfl)) fun T3 h3 X3 e3 W3 => ?_
  replace ak := ak.wr W3
  replace ab := ab.same W3
  replace ag := ag.other W3 (Or.inr (ob (Or.inl (hw 211 rfl)) (Or.inl (hw 25 rfl)) (by decide)))
  replace aa := aa.other W3 (Or.inr (ob (Or.inl (hw 28 rfl)) (Or.inl (hw 25 rfl)) (by decide)))
  replace ao := ao.wr W3
  replace ae := ae.other W3 (Or.inl ai)
  replace ac := ac.other W3 (Or.inl ai)
  replace ap := ap.wr W3
  replace ah := ah.other W3 (Or.inl aj)
  replace af := af.other W3 (Or.inl aj)
  replace aB := aB.other W3 (Ne.symm (od aq))
  have aG := aF.wr W3 (Or.inl (List.mem_of_getElem? (i := 0) rfl))
  have aQ := Nat.le_trans aL (Keep.of_wr W3).1
  have aJ := Fr.snoc X3 aI aC
  refine oc X3 hx (hd 9 rfl) rfl rfl ?_
  obtain ⟨aR, aD, q4, S4, aK, H4, G4⟩ := id aB
  refine ow (fun _ k => X3.arraylength hx (by rw [e3]; exact aD.1) (State.isArrayOf_alike hZ.alike aD.2.1) rfl rfl (hd 10 rfl) _ k) ?_
  rw [len_of S4 aK]
  show oe p.tables e below _ (T3.setTop (mkF m 19 #[.val (.ref a0), .val (.ref a1), .val (.ref r1), .unset, .unset, .unset] [(.int (0 : Int32))]))
  refine oz (fun _ k => XS.istoreN X3.here hx rfl (hd 11 rfl) rfl (l' := #[.val (.ref a0), .val (.ref a1), .val (.ref r1), .val (.int (0 : Int32)), .unset, .unset]) rfl k) ?_
  refine oj X3 hx (hd 12 rfl) rfl ?_
  refine og (S' := [])  (fun _ k => XS.ifNo X3.here hx rfl (hd 13 rfl) rfl ((if0 _ _).trans (teq (by decide)).2) k) ?_
  refine ol (v := (.int (0 : Int32))) (fun _ k => XS.iconst X3.here hx rfl (hd 14 rfl) k) ?_
  exact oap X3 hx hlk (by decide) (by decide) (t := .boolean) Bd.returns (by simp) (hd 15 rfl) (by rw [e3]; exact ⟨rfl, aJ, aG, ag, aa⟩)
theorem ojb (hw : oo Z aw) (ws : List Jvm.Cond) (a0 : Addr) (a1 : Addr) (kk : ov) (h0 : Heap) (n0 : Nat) {p : Program} {e : Env} {s : State} {m : MethodId} {below : List Frame} {meth : Method} {c : Code} {cY : State} (Bd : BodyLoose p l (⟨"com/example/restate/restate/model/CensusColumns", "<init>", "(Ljava/util/Collection;)V"⟩ : MethodName) (head1 (Jvm.Cond.code (⟨"com/example/restate/restate/model/CensusColumns", "<init>", "(Ljava/util/Collection;)V"⟩ : MethodName) prog_32_method_1_code 4 none :: ws) ({ frames := 7, cells := 48, slots := 9423, locals := 97 } : Room)) prog_32_method_1_code 4 none e s m #[(.ref a0), (.ref a1)] below meth c cY) (hml0 : c.maxLocals = 4) (hZ : Z.Warmed39 s.vm) (b2 : Nat) (b5 : Nat) (b7 : Nat) (b9 : Nat) (cw : Nat) (cx : Nat) (cy : Nat) (cz : Nat) (cA : Nat) (cn : Nat) (co : Nat) (cp : Nat) (cr : Nat) (aL : Nat) (aK : Nat) (aP : Nat) (dj : Nat) (bw : Nat) (bx : Nat) (bz : Nat) (bA : Nat) (bB : Nat) (bC : Nat) (bD : Nat) (bE : Nat) (bF : Nat) (bL : Nat) (k5 : ClassId) (k7 : ClassId) (cv : ClassId) (bR : State) (bN : List Loc) (ag : Heap)
    (ck : Stand p l e ({ frames := 7, cells := 48, slots := 9423, locals := 97 } : Room) s m #[(.ref a0), (.ref a1)] below meth c bR bN 46 9421) (cV : bR.heap = ag) (cR : Fr n0 bN) (cM : Keep h0 ag [a0]) (cm : n0 ≤ ag.size)
    (bu : Exa Z ag a0 "com/example/restate/restate/model/CensusColumns")
    (aj : Fld Z ag a0 "com/example/restate/restate/model/CensusColumns" "lineOffsets" "Lcom/example/restate/restate/model/LongColumn;" (.ref b2))
    (aG : Fld Z ag a0 "com/example/restate/restate/model/CensusColumns" "ids" "[C" (.ref b5))
    (av : Fld Z ag a0 "com/example/restate/restate/model/CensusColumns" "idEnds" "[I" (.ref b7))
    (ay : Fld Z ag a0 "com/example/restate/restate/model/CensusColumns" "group" "Lcom/example/restate/restate/model/CensusColumns$Codes;" (.ref b9))
    (au : Fld Z ag a0 "com/example/restate/restate/model/CensusColumns" "pension" "Lcom/example/restate/restate/model/CensusColumns$Codes;" (.ref cw))
    (af : Fld Z ag a0 "com/example/restate/restate/model/CensusColumns" "yearEndStatus" "Lcom/example/restate/restate/model/CensusColumns$Codes;" (.ref cx))
    (ai : Fld Z ag a0 "com/example/restate/restate/model/CensusColumns" "segmentStart" "Lcom/example/restate/restate/model/CensusColumns$Codes;" (.ref cy))
    (ak : Fld Z ag a0 "com/example/restate/restate/model/CensusColumns" "segmentEnd" "Lcom/example/restate/restate/model/CensusColumns$Codes;" (.ref cz))
    (ao : Fld Z ag a0 "com/example/restate/restate/model/CensusColumns" "birthDate" "Lcom/example/restate/restate/model/CensusColumns$Codes;" (.ref cA))
    (ah : Fld Z ag a0 "com/example/restate/restate/model/CensusColumns" "compensation" "Lcom/example/restate/restate/model/AmountColumn;" (.ref cn))
    (ap : Fld Z ag a0 "com/example/restate/restate/model/CensusColumns" "deferrals" "Lcom/example/restate/restate/model/AmountColumn;" (.ref co))
    (aq : Fld Z ag a0 "com/example/restate/restate/model/CensusColumns" "catchUp" "Lcom/example/restate/restate/model/AmountColumn;" (.ref cp))
    (aa : Fld Z ag a0 "com/example/restate/restate/model/CensusColumns" "otherAnnualAdditions" "Lcom/example/restate/restate/model/AmountColumn;" (.ref cr))
    (ab : Fld Z ag a0 "com/example/restate/restate/model/CensusColumns" "amountColumns" "Ljava/util/List;" (.ref aK))
    (bv : Fld Z ag a0 "com/example/restate/restate/model/CensusColumns" "pay" "Ljava/util/Map;" (.ref aL))
    (aB : Fld Z ag a0 "com/example/restate/restate/model/CensusColumns" "size" "I" (.int (0 : Int32)))
    (A2 : Exa Z ag b2 "com/example/restate/restate/model/LongColumn")
    (aC : Fld Z ag b2 "com/example/restate/restate/model/LongColumn" "size" "I" (.int (0 : Int32)))
    (aA : Fld Z ag b2 "com/example/restate/restate/model/LongColumn" "ints" "[I" .null)
    (az : Fld Z ag b2 "com/example/restate/restate/model/LongColumn" "longs" "[J" .null)
    (ax : Fld Z ag b2 "com/example/restate/restate/model/LongColumn" "shared" "J" (.long (0 : Int64)))
    (bo : Arv Z ag b5 k5 .char (8192 : Int32) (List.replicate 8192 (.int (0 : Int32))) (.int (0 : Int32)))
    (bp : Arv Z ag b7 k7 .int (1024 : Int32) (List.replicate 1024 (.int (0 : Int32))) (.int (0 : Int32)))
    (bU : oA Z ag kk.de b9 bw)
    (bV : oA Z ag kk.de cw bx)
    (bW : oA Z ag kk.de cx bz)
    (bX : oA Z ag kk.de cy bA)
    (bY : oA Z ag kk.de cz bB)
    (bZ : oA Z ag kk.de cA bC)
    (b0 : oF Z ag 0 cn bD)
    (ce : oF Z ag 0 co bE)
    (cg : oF Z ag 0 cp bF)
    (ci : oF Z ag 0 cr bL)
    (cj : Exa Z ag aL "java/util/LinkedHashMap")
    (cH : Fld Z ag aL "java/util/HashMap" "size" "I" (.int (0 : Int32)))
    (cE : Fld Z ag aL "java/util/LinkedHashMap" "head" "Ljava/util/LinkedHashMap$Entry;" .null)
    (cL : Fld Z ag aL "java/util/AbstractMap" "values" "Ljava/util/Collection;" .null)
    (bM : Exa Z ag aK "java/util/ArrayList")
    (bP : Fld Z ag aK "java/util/AbstractList" "modCount" "I" (.int (0 : Int32)))
    (bQ : Fld Z ag aK "java/util/ArrayList" "size" "I" (.int (4 : Int32)))
    (bO : Fld Z ag aK "java/util/ArrayList" "elementData" "[Ljava/lang/Object;" (.ref aP))
    (aO : Arv Z ag aP cv (.object "java/lang/Object") (4 : Int32) [.ref cn, .ref co, .ref cp, .ref cr] .null)
    (bG : @LT.lt Nat _ a0 b2)
    (bH : @LT.lt Nat _ b2 b5)
    (bI : @LT.lt Nat _ b5 b7)
    (bJ : @LT.lt Nat _ b7 b9)
    (ac : @LT.lt Nat _ a0 aL)
    (aI : @LT.lt Nat _ b2 aL)
    (bq : @LT.lt Nat _ b5 aL)
    (bs : @LT.lt Nat _ b7 aL)
    (ae : @LT.lt Nat _ a0 aK)
    (aJ : @LT.lt Nat _ b2 aK)
    (br : @LT.lt Nat _ b5 aK)
    (bt : @LT.lt Nat _ b7 aK)
    (aE : @LT.lt Nat _ aL aK)
    (aN : @LT.lt Nat _ aL aP)
    (aH : @LT.lt Nat _ aK aP)
    (aQ : @LE.le Nat _ bw cw)
    (aT : @LE.le Nat _ bx cx)
    (aW : @LE.le Nat _ bz cy)
    (aZ : @LE.le Nat _ bA cz)
    (a7 : @LE.le Nat _ bB cA)
    (ba : @LE.le Nat _ bC cn)
    (bd : @LE.le Nat _ bD co)
    (bg : @LE.le Nat _ bE cp)
    (bj : @LE.le Nat _ bF cr)
    (aR : @LE.le Nat _ bw aL)
    (aU : @LE.le Nat _ bx aL)
    (aX : @LE.le Nat _ bz aL)
    (a5 : @LE.le Nat _ bA aL)
    (a8 : @LE.le Nat _ bB aL)
    (bb : @LE.le Nat _ bC aL)
    (be : @LE.le Nat _ bD aL)
    (bh : @LE.le Nat _ bE aL)
    (bk : @LE.le Nat _ bF aL)
    (bm : @LE.le Nat _ bL aL)
    (aS : @LE.le Nat _ bw aK)
    (aV : @LE.le Nat _ bx aK)
    (aY : @LE.le Nat _ bz aK)
    (a6 : @LE.le Nat _ bA aK)
    (a9 : @LE.le Nat _ bB aK)
    (bc : @LE.le Nat _ bC aK)
    (bf : @LE.le Nat _ bD aK)
    (bi : @LE.le Nat _ bE aK)
    (bl : @LE.le Nat _ bF aK)
    (aM : @LE.le Nat _ bL aK)
    (ct : n0 ≤ aL)
    (bS : @LE.le Nat _ (Array.size h0) aL)
    (cu : n0 ≤ aK)
    (bT : @LE.le Nat _ (Array.size h0) aK) :
    oe p.tables e below (oT s (oae Z a0 a1 kk h0 n0) ({ frames := 7, cells := 48, slots := 9423, locals := 97 } : Room).cells ({ frames := 7, cells := 48, slots := 9423, locals := 97 } : Room).slots) (bR.setTop (mkF m 231 #[.val (.ref a0), .val (.ref a1), .val (.ref dj), .unset] [])) := by
  have hx := Bd.exec
  have hby := Bd.bytes
  have hlk : meth.locks = false := BodyLoose.notSynchronized Bd
  have hml : c.maxLocals = 4 := hml0
  have hown : s.vm.findClass "com/example/restate/restate/model/CensusColumns" = some m.cls := findClass_of_methodNamed Bd.named
  have hnm := (name_of_methodNamed Bd.named Bd.method).1
  have hd := oq oac hby
  refine oc ck hx (hd 90 rfl) rfl rfl ?_
  refine oi (getF ck hx hZ hown (host := "") (Or.inl (hw 221 rfl)) Via.refl cV ab rfl rfl (hd 91 rfl)) fun dl c8 dh => ?_
  refine oc c8 hx (hd 92 rfl) rfl rfl ?_
  refine oi (getF c8 hx hZ hown (host := "") (Or.inl (hw 131 rfl)) Via.refl dh bv rfl rfl (hd 93 rfl)) fun dm df di => ?_
  have bK := bM.lt
  refine oS df hx hZ hown (hw 260 rfl) (hw 261 rfl) (hw 262 rfl) (hw 263 rfl) (hw 264 rfl) (hw 265 rfl) (hw 266 rfl) (hw 267 rfl) (hw 268 rfl) (hw 118 rfl) (by decide) (oi7 l Z aw hw [] aL ag n0 cm cj cH cE cL ct) di cj hml rfl rfl (rest := [(.ref aK)]) rfl (lenOf ofG rfl) (hd 94 rfl) rfl fun dc da dn dg cW => ?_
  obtain ⟨dk, rfl, cP, aD, cZ, cC, cK, cG, cI, cF⟩ := cW
  have cS := Fr.app cR cP
  replace bu := bu.keep aD
  replace aj := aj.keep aD (oa ac)
  replace aG := aG.keep aD (oa ac)
  replace av := av.keep aD (oa ac)
  replace ay := ay.keep aD (oa ac)
  replace au := au.keep aD (oa ac)
  replace af := af.keep aD (oa ac)
  replace ai := ai.keep aD (oa ac)
  replace ak := ak.keep aD (oa ac)
  replace ao := ao.keep aD (oa ac)
  replace ah := ah.keep aD (oa ac)
  replace ap := ap.keep aD (oa ac)
  replace aq := aq.keep aD (oa ac)
  replace aa := aa.keep aD (oa ac)
  replace ab := ab.keep aD (oa ac)
  replace aB := aB.keep aD (oa ac)
  replace A2 := A2.keep aD
  replace aC := aC.keep aD (oa aI)
  replace aA := aA.keep aD (oa aI)
  replace az := az.keep aD (oa aI)
  replace ax := ax.keep aD (oa aI)
  replace bo := bo.keep aD (oa bq)
  replace bp := bp.keep aD (oa bs)
  replace bU := bU.keep aD (allS (Or.inr aR) all0)
  replace bV := bV.keep aD (allS (Or.inr aU) all0)
  replace bW := bW.keep aD (allS (Or.inr aX) all0)
  replace bX := bX.keep aD (allS (Or.inr a5) all0)
  replace bY := bY.keep aD (allS (Or.inr a8) all0)
  replace bZ := bZ.keep aD (allS (Or.inr bb) all0)
  replace b0 := b0.keep aD (allS (Or.inr be) all0)
  replace ce := ce.keep aD (allS (Or.inr bh) all0)
  replace cg := cg.keep aD (allS (Or.inr bk) all0)
  replace ci := ci.keep aD (allS (Or.inr bm) all0)
  replace cj := cj.keep aD
  replace bM := bM.keep aD
  replace bP := bP.keep aD (ninS (Ne.symm (od aE)) nin0)
  replace bQ := bQ.keep aD (ninS (Ne.symm (od aE)) nin0)
  replace bO := bO.keep aD (ninS (Ne.symm (od aE)) nin0)
  replace aO := aO.keep aD (ninS (Ne.symm (od aN)) nin0)
  have cN := cM.trans aD (allS (Or.inr bS) all0)
  have cU := Nat.le_trans cm aD.1
  have bn := Nat.lt_of_lt_of_le bK cZ
  refine oS dg hx hZ hown (hw 290 rfl) (hw 291 rfl) (hw 292 rfl) (hw 293 rfl) (hw 294 rfl) (hw 295 rfl) (hw 296 rfl) (hw 297 rfl) (hw 298 rfl) (hw 5 rfl) (by decide) (oja l Z aw hw [] aK dk (0 : Int32) (4 : Int32) aP aL (dc.heap) n0 cU bM bP bQ bO cu cC cK cG cj cI cF (Ne.symm (od bn)) (od aE)) rfl bM hml rfl rfl (rest := []) rfl (lenOf ofH rfl) (hd 95 rfl) rfl fun dd db dp c9 cX => ?_
  obtain ⟨rfl, cQ, aF, cJ, cD⟩ := cX
  have cT := Fr.app cS cQ
  replace bu := bu.keep aF
  replace aj := aj.keep aF (oa ae)
  replace aG := aG.keep aF (oa ae)
  replace av := av.keep aF (oa ae)
  replace ay := ay.keep aF (oa ae)
  replace au := au.keep aF (oa ae)
  replace af := af.keep aF (oa ae)
  replace ai := ai.keep aF (oa ae)
  replace ak := ak.keep aF (oa ae)
  replace ao := ao.keep aF (oa ae)
  replace ah := ah.keep aF (oa ae)
  replace ap := ap.keep aF (oa ae)
  replace aq := aq.keep aF (oa ae)
  replace aa := aa.keep aF (oa ae)
  replace ab := ab.keep aF (oa ae)
  replace aB := aB.keep aF (oa ae)
  replace A2 := A2.keep aF
  replace aC := aC.keep aF (oa aJ)
  replace aA := aA.keep aF (oa aJ)
  replace az := az.keep aF (oa aJ)
  replace ax := ax.keep aF (oa aJ)
  replace bo := bo.keep aF (oa br)
  replace bp := bp.keep aF (oa bt)
  replace bU := bU.keep aF (allS (Or.inr aS) all0)
  replace bV := bV.keep aF (allS (Or.inr aV) all0)
  replace bW := bW.keep aF (allS (Or.inr aY) all0)
  replace bX := bX.keep aF (allS (Or.inr a6) all0)
  replace bY := bY.keep aF (allS (Or.inr a9) all0)
  replace bZ := bZ.keep aF (allS (Or.inr bc) all0)
  replace b0 := b0.keep aF (allS (Or.inr bf) all0)
  replace ce := ce.keep aF (allS (Or.inr bi) all0)
  replace cg := cg.keep aF (allS (Or.inr bl) all0)
  replace ci := ci.keep aF (allS (Or.inr aM) all0)
  replace bM := bM.keep aF
  replace aO := aO.keep aF (ninS (Ne.symm (od aH)) nin0)
  have cO := cN.trans aF (allS (Or.inr bT) all0)
  refine og (S' := [])  (fun _ k => XS.pop c9.here hx rfl (hd 96 rfl) rfl rfl k) ?_
  exact oG c9 hx hlk (by decide) (by decide) Bd.returns (hd 97 rfl) (⟨rfl, cT, cO, ocR [b2, b2 + 1, b5, b5 + 1, b7, b7 + 1, b9, bw, cw, bx, cx, bz, cy, bA, cz, bB, cA, bC, cn, bD, co, bE, cp, bF, cr, bL, aK, aP + 1, Array.size dd.heap], ⟨bG, Nat.lt_succ_self _, bH, Nat.lt_succ_self _, bI, Nat.lt_succ_self _, bJ, bU.lt, aQ, bV.lt, aT, bW.lt, aW, bX.lt, aZ, bY.lt, a7, bZ.lt, ba, b0.lt, bd, ce.lt, bg, cg.lt, bj, ci.lt, aM, Nat.lt_succ_of_lt aH, aO.lt, Nat.le_refl _⟩, bu, aj, aG, av, ay, au, af, ai, ak, ao, ah, ap, aq, aa, ab, aB, ⟨⟨Nat.lt_succ_self _, A2.lt⟩, A2, aC, ax, aA, az⟩, ⟨k5, _, ⟨Nat.lt_succ_self _, bo.lt⟩, bo⟩, ⟨k7, _, ⟨Nat.lt_succ_self _, bp.lt⟩, bp, List.length_replicate, ocQ _ _⟩, bU, bV, bW, bX, bY, bZ, b0, ce, cg, ci, ⟨aP, cv, ⟨aH, Nat.lt_succ_self _, aO.lt⟩, bM, cJ, cD, aO⟩⟩)
theorem ojc (hw : oo Z aw) (ws : List Jvm.Cond) (a0 : Addr) (a1 : Addr) (kk : ov) (h0 : Heap) (n0 : Nat) {p : Program} {e : Env} {s : State} {m : MethodId} {below : List Frame} {meth : Method} {c : Code} {cQ : State} (Bd : BodyLoose p l (⟨"com/example/restate/restate/model/CensusColumns", "<init>", "(Ljava/util/Collection;)V"⟩ : MethodName) (head1 (Jvm.Cond.code (⟨"com/example/restate/restate/model/CensusColumns", "<init>", "(Ljava/util/Collection;)V"⟩ : MethodName) prog_32_method_1_code 4 none :: ws) ({ frames := 7, cells := 48, slots := 9423, locals := 97 } : Room)) prog_32_method_1_code 4 none e s m #[(.ref a0), (.ref a1)] below meth c cQ) (hml0 : c.maxLocals = 4) (hZ : Z.Warmed39 s.vm) (b2 : Nat) (b5 : Nat) (b7 : Nat) (b9 : Nat) (cg : Nat) (ci : Nat) (cj : Nat) (ck : Nat) (cm : Nat) (bU : Nat) (bV : Nat) (bW : Nat) (bX : Nat) (aD : Nat) (aE : Nat) (bB : Nat) (br : Nat) (bs : Nat) (bt : Nat) (bu : Nat) (bv : Nat) (bw : Nat) (bx : Nat) (bz : Nat) (bA : Nat) (bG : Nat) (k5 : ClassId) (k7 : ClassId) (b0 : ClassId) (cL : State) (ce : List Loc) (ai : Heap)
    (cT : Stand p l e ({ frames := 7, cells := 48, slots := 9423, locals := 97 } : Room) s m #[(.ref a0), (.ref a1)] below meth c cL ce 45 9417) (c9 : cL.heap = ai) (cY : Fr n0 ce) (cV : Keep h0 ai [a0]) (cU : n0 ≤ ai.size)
    (bH : Exa Z ai a0 "com/example/restate/restate/model/CensusColumns")
    (ag : Fld Z ai a0 "com/example/restate/restate/model/CensusColumns" "lineOffsets" "Lcom/example/restate/restate/model/LongColumn;" (.ref b2))
    (aF : Fld Z ai a0 "com/example/restate/restate/model/CensusColumns" "ids" "[C" (.ref b5))
    (au : Fld Z ai a0 "com/example/restate/restate/model/CensusColumns" "idEnds" "[I" (.ref b7))
    (ax : Fld Z ai a0 "com/example/restate/restate/model/CensusColumns" "group" "Lcom/example/restate/restate/model/CensusColumns$Codes;" (.ref b9))
    (aq : Fld Z ai a0 "com/example/restate/restate/model/CensusColumns" "pension" "Lcom/example/restate/restate/model/CensusColumns$Codes;" (.ref cg))
    (ac : Fld Z ai a0 "com/example/restate/restate/model/CensusColumns" "yearEndStatus" "Lcom/example/restate/restate/model/CensusColumns$Codes;" (.ref ci))
    (af : Fld Z ai a0 "com/example/restate/restate/model/CensusColumns" "segmentStart" "Lcom/example/restate/restate/model/CensusColumns$Codes;" (.ref cj))
    (ah : Fld Z ai a0 "com/example/restate/restate/model/CensusColumns" "segmentEnd" "Lcom/example/restate/restate/model/CensusColumns$Codes;" (.ref ck))
    (aj : Fld Z ai a0 "com/example/restate/restate/model/CensusColumns" "birthDate" "Lcom/example/restate/restate/model/CensusColumns$Codes;" (.ref cm))
    (ae : Fld Z ai a0 "com/example/restate/restate/model/CensusColumns" "compensation" "Lcom/example/restate/restate/model/AmountColumn;" (.ref bU))
    (ak : Fld Z ai a0 "com/example/restate/restate/model/CensusColumns" "deferrals" "Lcom/example/restate/restate/model/AmountColumn;" (.ref bV))
    (ap : Fld Z ai a0 "com/example/restate/restate/model/CensusColumns" "catchUp" "Lcom/example/restate/restate/model/AmountColumn;" (.ref bW))
    (aa : Fld Z ai a0 "com/example/restate/restate/model/CensusColumns" "otherAnnualAdditions" "Lcom/example/restate/restate/model/AmountColumn;" (.ref bX))
    (ab : Fld Z ai a0 "com/example/restate/restate/model/CensusColumns" "amountColumns" "Ljava/util/List;" (.ref aE))
    (aG : Fld Z ai a0 "com/example/restate/restate/model/CensusColumns" "pay" "Ljava/util/Map;" (.ref aD))
    (aA : Fld Z ai a0 "com/example/restate/restate/model/CensusColumns" "size" "I" (.int (0 : Int32)))
    (cx : Exa Z ai a1 "java/util/ArrayList")
    (aH : Fld Z ai a1 "java/util/AbstractList" "modCount" "I" (.int (0 : Int32)))
    (aB : Fld Z ai a1 "java/util/ArrayList" "size" "I" (.int (0 : Int32)))
    (A2 : Exa Z ai b2 "com/example/restate/restate/model/LongColumn")
    (aC : Fld Z ai b2 "com/example/restate/restate/model/LongColumn" "size" "I" (.int (0 : Int32)))
    (az : Fld Z ai b2 "com/example/restate/restate/model/LongColumn" "ints" "[I" .null)
    (ay : Fld Z ai b2 "com/example/restate/restate/model/LongColumn" "longs" "[J" .null)
    (av : Fld Z ai b2 "com/example/restate/restate/model/LongColumn" "shared" "J" (.long (0 : Int64)))
    (bO : Arv Z ai b5 k5 .char (8192 : Int32) (List.replicate 8192 (.int (0 : Int32))) (.int (0 : Int32)))
    (bP : Arv Z ai b7 k7 .int (1024 : Int32) (List.replicate 1024 (.int (0 : Int32))) (.int (0 : Int32)))
    (cp : oA Z ai kk.de b9 br)
    (cr : oA Z ai kk.de cg bs)
    (ct : oA Z ai kk.de ci bt)
    (cu : oA Z ai kk.de cj bu)
    (cv : oA Z ai kk.de ck bv)
    (cw : oA Z ai kk.de cm bw)
    (cD : oF Z ai 0 bU bx)
    (cE : oF Z ai 0 bV bz)
    (cF : oF Z ai 0 bW bA)
    (cG : oF Z ai 0 bX bG)
    (cn : Exa Z ai aD "java/util/LinkedHashMap")
    (bL : Fld Z ai aD "java/util/HashMap" "size" "I" (.int (0 : Int32)))
    (bJ : Fld Z ai aD "java/util/LinkedHashMap" "head" "Ljava/util/LinkedHashMap$Entry;" .null)
    (bN : Fld Z ai aD "java/util/AbstractMap" "values" "Ljava/util/Collection;" .null)
    (co : Exa Z ai aE "java/util/ArrayList")
    (bK : Fld Z ai aE "java/util/AbstractList" "modCount" "I" (.int (0 : Int32)))
    (bM : Fld Z ai aE "java/util/ArrayList" "size" "I" (.int (4 : Int32)))
    (bI : Fld Z ai aE "java/util/ArrayList" "elementData" "[Ljava/lang/Object;" (.ref bB))
    (bQ : Arv Z ai bB b0 (.object "java/lang/Object") (4 : Int32) [.ref bU, .ref bV, .ref bW, .ref bX] .null)
    (bC : @LT.lt Nat _ a0 b2)
    (bD : @LT.lt Nat _ b2 b5)
    (bE : @LT.lt Nat _ b5 b7)
    (bF : @LT.lt Nat _ b7 b9)
    (bj : @LT.lt Nat _ a0 aD)
    (bl : @LT.lt Nat _ b2 aD)
    (bn : @LT.lt Nat _ b5 aD)
    (bp : @LT.lt Nat _ b7 aD)
    (bk : @LT.lt Nat _ a0 aE)
    (bm : @LT.lt Nat _ b2 aE)
    (bo : @LT.lt Nat _ b5 aE)
    (bq : @LT.lt Nat _ b7 aE)
    (bi : @LT.lt Nat _ aD aE)
    (aI : @LT.lt Nat _ aD bB)
    (aJ : @LT.lt Nat _ aE bB)
    (aK : @LE.le Nat _ br cg)
    (aN : @LE.le Nat _ bs ci)
    (aQ : @LE.le Nat _ bt cj)
    (aT : @LE.le Nat _ bu ck)
    (aW : @LE.le Nat _ bv cm)
    (aZ : @LE.le Nat _ bw bU)
    (a7 : @LE.le Nat _ bx bV)
    (ba : @LE.le Nat _ bz bW)
    (bd : @LE.le Nat _ bA bX)
    (aL : @LE.le Nat _ br aD)
    (aO : @LE.le Nat _ bs aD)
    (aR : @LE.le Nat _ bt aD)
    (aU : @LE.le Nat _ bu aD)
    (aX : @LE.le Nat _ bv aD)
    (a5 : @LE.le Nat _ bw aD)
    (a8 : @LE.le Nat _ bx aD)
    (bb : @LE.le Nat _ bz aD)
    (be : @LE.le Nat _ bA aD)
    (bg : @LE.le Nat _ bG aD)
    (aM : @LE.le Nat _ br aE)
    (aP : @LE.le Nat _ bs aE)
    (aS : @LE.le Nat _ bt aE)
    (aV : @LE.le Nat _ bu aE)
    (aY : @LE.le Nat _ bv aE)
    (a6 : @LE.le Nat _ bw aE)
    (a9 : @LE.le Nat _ bx aE)
    (bc : @LE.le Nat _ bz aE)
    (bf : @LE.le Nat _ bA aE)
    (bh : @LE.le Nat _ bG aE)
    (bY : n0 ≤ aD)
    (bR : @LE.le Nat _ (Array.size h0) aD)
    (bZ : n0 ≤ aE)
    (bS : @LE.le Nat _ (Array.size h0) aE) :
    oe p.tables e below (oT s (oae Z a0 a1 kk h0 n0) ({ frames := 7, cells := 48, slots := 9423, locals := 97 } : Room).cells ({ frames := 7, cells := 48, slots := 9423, locals := 97 } : Room).slots) (cL.setTop (mkF m 184 #[.val (.ref a0), .val (.ref a1), .unset, .unset] [])) := by
  have hx := Bd.exec
  have hby := Bd.bytes
  have hlk : meth.locks = false := BodyLoose.notSynchronized Bd
  have hml : c.maxLocals = 4 := hml0
  have hown : s.vm.findClass "com/example/restate/restate/model/CensusColumns" = some m.cls := findClass_of_methodNamed Bd.named
  have hnm := (name_of_methodNamed Bd.named Bd.method).1
  have hd := oq oac hby
  refine oc cT hx (hd 84 rfl) rfl rfl ?_
  refine oS cT hx hZ hown (hw 223 rfl) (hw 224 rfl) (hw 225 rfl) (hw 226 rfl) (hw 227 rfl) (hw 228 rfl) (hw 229 rfl) (hw 230 rfl) (hw 231 rfl) (hw 5 rfl) (by decide) (oi2 l Z aw hw [] a1 (0 : Int32) ai n0 cU aH) c9 cx hml rfl rfl (rest := []) rfl (lenOf ofF rfl) (hd 85 rfl) rfl fun cR cW db cM cN => ?_
  obtain ⟨cP, rfl, cH, ao, da, cy, cz, cA⟩ := cN
  have cJ := Fr.app cY cH
  replace bH := bH.keep ao
  replace ag := ag.keep ao nin0
  replace aF := aF.keep ao nin0
  replace au := au.keep ao nin0
  replace ax := ax.keep ao nin0
  replace aq := aq.keep ao nin0
  replace ac := ac.keep ao nin0
  replace af := af.keep ao nin0
  replace ah := ah.keep ao nin0
  replace aj := aj.keep ao nin0
  replace ae := ae.keep ao nin0
  replace ak := ak.keep ao nin0
  replace ap := ap.keep ao nin0
  replace aa := aa.keep ao nin0
  replace ab := ab.keep ao nin0
  replace aG := aG.keep ao nin0
  replace aA := aA.keep ao nin0
  replace aB := aB.keep ao nin0
  replace A2 := A2.keep ao
  replace aC := aC.keep ao nin0
  replace az := az.keep ao nin0
  replace ay := ay.keep ao nin0
  replace av := av.keep ao nin0
  replace bO := bO.keep ao nin0
  replace bP := bP.keep ao nin0
  replace cp := cp.keep ao all0
  replace cr := cr.keep ao all0
  replace ct := ct.keep ao all0
  replace cu := cu.keep ao all0
  replace cv := cv.keep ao all0
  replace cw := cw.keep ao all0
  replace cD := cD.keep ao all0
  replace cE := cE.keep ao all0
  replace cF := cF.keep ao all0
  replace cG := cG.keep ao all0
  replace cn := cn.keep ao
  replace bL := bL.keep ao nin0
  replace bJ := bJ.keep ao nin0
  replace bN := bN.keep ao nin0
  replace co := co.keep ao
  replace bK := bK.keep ao nin0
  replace bM := bM.keep ao nin0
  replace bI := bI.keep ao nin0
  replace bQ := bQ.keep ao nin0
  have cC := cV.trans ao all0
  have bT := Nat.le_trans cU ao.1
  refine oz (fun _ k => XS.astoreN cM.here hx rfl (hd 86 rfl) rfl rfl (l' := #[.val (.ref a0), .val (.ref a1), .val (.ref cP), .unset]) rfl k) ?_
  refine oc cM hx (hd 87 rfl) rfl rfl ?_
  refine oS cM hx hZ hown (hw 248 rfl) (hw 249 rfl) (hw 250 rfl) (hw 251 rfl) (hw 252 rfl) (hw 253 rfl) (hw 254 rfl) (hw 255 rfl) (hw 256 rfl) (hw 234 rfl) (by decide) (oi3 l Z aw hw [] cP a1 (cR.heap) n0 bT cz cA aB) rfl cy hml rfl rfl (rest := []) rfl (lenOf obR rfl) (hd 88 rfl) rfl fun cZ cX dc cS cO => ?_
  obtain ⟨rfl, cI, c8⟩ := cO
  have cK := Fr.app cJ cI
  refine oC (S' := [])  (fun _ k => XS.ifYes cS.here hx rfl (pc0 := 197) (pc' := 231) rfl (hd 89 rfl) rfl ((if0 _ _).trans (teq (by decide)).1) (by decide) (by decide) k) ?_
  exact ojb l Z aw hw ws a0 a1 kk h0 n0  Bd hml hZ b2 b5 b7 b9 cg ci cj ck cm bU bV bW bX aD aE bB cP br bs bt bu bv bw bx bz bA bG k5 k7 b0 cZ _ (cR.heap) cS c8 cK cC bT bH ag aF au ax aq ac af ah aj ae ak ap aa ab aG aA A2 aC az ay av bO bP cp cr ct cu cv cw cD cE cF cG cn bL bJ bN co bK bM bI bQ bC bD bE bF bj bl bn bp bk bm bo bq bi aI aJ aK aN aQ aT aW aZ a7 ba bd aL aO aR aU aX a5 a8 bb be bg aM aP aS aV aY a6 a9 bc bf bh bY bR bZ bS
theorem ojd (hw : oo Z aw) (ws : List Jvm.Cond) (a0 : Addr) (a1 : Addr) (kk : ov) (h0 : Heap) (n0 : Nat) (dC : n0 ≤ a0) (bf : a1 ≠ a0) {p : Program} {e : Env} {s : State} {m : MethodId} {below : List Frame} {meth : Method} {c : Code} {dH : State} (Bd : BodyLoose p l (⟨"com/example/restate/restate/model/CensusColumns", "<init>", "(Ljava/util/Collection;)V"⟩ : MethodName) (head1 (Jvm.Cond.code (⟨"com/example/restate/restate/model/CensusColumns", "<init>", "(Ljava/util/Collection;)V"⟩ : MethodName) prog_32_method_1_code 4 none :: ws) ({ frames := 7, cells := 48, slots := 9423, locals := 97 } : Room)) prog_32_method_1_code 4 none e s m #[(.ref a0), (.ref a1)] below meth c dH) (hml0 : c.maxLocals = 4) (hZ : Z.Warmed39 s.vm) (b2 : Nat) (b5 : Nat) (b7 : Nat) (b9 : Nat) (cZ : Nat) (c8 : Nat) (c9 : Nat) (da : Nat) (db : Nat) (cz : Nat) (cA : Nat) (cC : Nat) (cD : Nat) (aR : Nat) (aP : Nat) (bY : Nat) (bZ : Nat) (b0 : Nat) (ce : Nat) (cg : Nat) (ci : Nat) (cj : Nat) (ck : Nat) (cm : Nat) (cE : Nat) (k5 : ClassId) (k7 : ClassId) (dw : State) (dd : List Loc) (aE : Heap)
    (dU : Stand p l e ({ frames := 7, cells := 48, slots := 9423, locals := 97 } : Room) s m #[(.ref a0), (.ref a1)] below meth c dw dd 41 9403) (dW : dw.heap = aE) (dP : Fr n0 dd) (dM : Keep h0 aE [a0]) (dL : n0 ≤ aE.size)
    (ba : Exa Z aE a0 "com/example/restate/restate/model/CensusColumns")
    (ah : Fld Z aE a0 "com/example/restate/restate/model/CensusColumns" "lineOffsets" "Lcom/example/restate/restate/model/LongColumn;" (.ref b2))
    (aH : Fld Z aE a0 "com/example/restate/restate/model/CensusColumns" "ids" "[C" (.ref b5))
    (au : Fld Z aE a0 "com/example/restate/restate/model/CensusColumns" "idEnds" "[I" (.ref b7))
    (ax : Fld Z aE a0 "com/example/restate/restate/model/CensusColumns" "group" "Lcom/example/restate/restate/model/CensusColumns$Codes;" (.ref b9))
    (aq : Fld Z aE a0 "com/example/restate/restate/model/CensusColumns" "pension" "Lcom/example/restate/restate/model/CensusColumns$Codes;" (.ref cZ))
    (ae : Fld Z aE a0 "com/example/restate/restate/model/CensusColumns" "yearEndStatus" "Lcom/example/restate/restate/model/CensusColumns$Codes;" (.ref c8))
    (ag : Fld Z aE a0 "com/example/restate/restate/model/CensusColumns" "segmentStart" "Lcom/example/restate/restate/model/CensusColumns$Codes;" (.ref c9))
    (ai : Fld Z aE a0 "com/example/restate/restate/model/CensusColumns" "segmentEnd" "Lcom/example/restate/restate/model/CensusColumns$Codes;" (.ref da))
    (aj : Fld Z aE a0 "com/example/restate/restate/model/CensusColumns" "birthDate" "Lcom/example/restate/restate/model/CensusColumns$Codes;" (.ref db))
    (af : Fld Z aE a0 "com/example/restate/restate/model/CensusColumns" "compensation" "Lcom/example/restate/restate/model/AmountColumn;" (.ref cz))
    (ak : Fld Z aE a0 "com/example/restate/restate/model/CensusColumns" "deferrals" "Lcom/example/restate/restate/model/AmountColumn;" (.ref cA))
    (ap : Fld Z aE a0 "com/example/restate/restate/model/CensusColumns" "catchUp" "Lcom/example/restate/restate/model/AmountColumn;" (.ref cC))
    (aa : Fld Z aE a0 "com/example/restate/restate/model/CensusColumns" "otherAnnualAdditions" "Lcom/example/restate/restate/model/AmountColumn;" (.ref cD))
    (ac : Fld Z aE a0 "com/example/restate/restate/model/CensusColumns" "amountColumns" "Ljava/util/List;" .null)
    (aJ : Fld Z aE a0 "com/example/restate/restate/model/CensusColumns" "pay" "Ljava/util/Map;" (.ref aR))
    (aB : Fld Z aE a0 "com/example/restate/restate/model/CensusColumns" "size" "I" (.int (0 : Int32)))
    (bg : Exa Z aE a1 "java/util/ArrayList")
    (ao : Fld Z aE a1 "java/util/AbstractList" "modCount" "I" (.int (0 : Int32)))
    (aC : Fld Z aE a1 "java/util/ArrayList" "size" "I" (.int (0 : Int32)))
    (J0 : oy Z aE n0 kk)
    (A2 : Exa Z aE b2 "com/example/restate/restate/model/LongColumn")
    (aD : Fld Z aE b2 "com/example/restate/restate/model/LongColumn" "size" "I" (.int (0 : Int32)))
    (aA : Fld Z aE b2 "com/example/restate/restate/model/LongColumn" "ints" "[I" .null)
    (ay : Fld Z aE b2 "com/example/restate/restate/model/LongColumn" "longs" "[J" .null)
    (av : Fld Z aE b2 "com/example/restate/restate/model/LongColumn" "shared" "J" (.long (0 : Int64)))
    (bk : Arv Z aE b5 k5 .char (8192 : Int32) (List.replicate 8192 (.int (0 : Int32))) (.int (0 : Int32)))
    (bl : Arv Z aE b7 k7 .int (1024 : Int32) (List.replicate 1024 (.int (0 : Int32))) (.int (0 : Int32)))
    (cI : oA Z aE kk.de b9 bY)
    (cJ : oA Z aE kk.de cZ bZ)
    (cK : oA Z aE kk.de c8 b0)
    (cL : oA Z aE kk.de c9 ce)
    (cM : oA Z aE kk.de da cg)
    (cN : oA Z aE kk.de db ci)
    (df : Exa Z aE cz "com/example/restate/restate/model/AmountColumn")
    (cR : oF Z aE 0 cz cj)
    (dg : Exa Z aE cA "com/example/restate/restate/model/AmountColumn")
    (cS : oF Z aE 0 cA ck)
    (dh : Exa Z aE cC "com/example/restate/restate/model/AmountColumn")
    (cT : oF Z aE 0 cC cm)
    (di : Exa Z aE cD "com/example/restate/restate/model/AmountColumn")
    (cU : oF Z aE 0 cD cE)
    (cG : Exa Z aE aR "java/util/LinkedHashMap")
    (bi : Fld Z aE aR "java/util/HashMap" "size" "I" (.int (0 : Int32)))
    (bh : Fld Z aE aR "java/util/LinkedHashMap" "head" "Ljava/util/LinkedHashMap$Entry;" .null)
    (bj : Fld Z aE aR "java/util/AbstractMap" "values" "Ljava/util/Collection;" .null)
    (cy : Exa Z aE aP "java/util/ArrayList")
    (aI : Fld Z aE aP "java/util/AbstractList" "modCount" "I" (.int (0 : Int32)))
    (az : Fld Z aE aP "java/util/ArrayList" "elementData" "[Ljava/lang/Object;" .null)
    (aQ : Fld Z aE aP "java/util/ArrayList" "size" "I" (.int (0 : Int32)))
    (aN : @LT.lt Nat _ a0 b2)
    (cn : @LT.lt Nat _ a0 b5)
    (cr : @LT.lt Nat _ b2 b5)
    (co : @LT.lt Nat _ a0 b7)
    (ct : @LT.lt Nat _ b5 b7)
    (cp : @LT.lt Nat _ a0 b9)
    (cu : @LT.lt Nat _ b7 b9)
    (bM : @LT.lt Nat _ a0 cZ)
    (bN : @LT.lt Nat _ a0 c8)
    (bO : @LT.lt Nat _ a0 c9)
    (bP : @LT.lt Nat _ a0 da)
    (bQ : @LT.lt Nat _ a0 db)
    (bR : @LT.lt Nat _ a0 cz)
    (bS : @LT.lt Nat _ a0 cA)
    (bT : @LT.lt Nat _ a0 cC)
    (bU : @LT.lt Nat _ a0 cD)
    (aO : @LT.lt Nat _ a0 aR)
    (bV : @LT.lt Nat _ b2 aR)
    (bW : @LT.lt Nat _ b5 aR)
    (bX : @LT.lt Nat _ b7 aR)
    (ab : @LT.lt Nat _ a0 aP)
    (a7 : @LT.lt Nat _ a1 aP)
    (aL : @LT.lt Nat _ b2 aP)
    (a8 : @LT.lt Nat _ b5 aP)
    (a9 : @LT.lt Nat _ b7 aP)
    (bH : @LT.lt Nat _ cz aP)
    (bI : @LT.lt Nat _ cA aP)
    (bJ : @LT.lt Nat _ cC aP)
    (bK : @LT.lt Nat _ cD aP)
    (aM : @LT.lt Nat _ aR aP)
    (bm : @LE.le Nat _ bY cZ)
    (bo : @LE.le Nat _ bZ c8)
    (bq : @LE.le Nat _ b0 c9)
    (bs : @LE.le Nat _ ce da)
    (bu : @LE.le Nat _ cg db)
    (bw : @LE.le Nat _ ci cz)
    (bz : @LE.le Nat _ cj cA)
    (bB : @LE.le Nat _ ck cC)
    (bD : @LE.le Nat _ cm cD)
    (bn : @LE.le Nat _ bY aR)
    (bp : @LE.le Nat _ bZ aR)
    (br : @LE.le Nat _ b0 aR)
    (bt : @LE.le Nat _ ce aR)
    (bv : @LE.le Nat _ cg aR)
    (bx : @LE.le Nat _ ci aR)
    (bA : @LE.le Nat _ cj aR)
    (bC : @LE.le Nat _ ck aR)
    (bE : @LE.le Nat _ cm aR)
    (bF : @LE.le Nat _ cE aR)
    (aS : @LE.le Nat _ bY aP)
    (aT : @LE.le Nat _ bZ aP)
    (aU : @LE.le Nat _ b0 aP)
    (aV : @LE.le Nat _ ce aP)
    (aW : @LE.le Nat _ cg aP)
    (aX : @LE.le Nat _ ci aP)
    (aY : @LE.le Nat _ cj aP)
    (aZ : @LE.le Nat _ ck aP)
    (a5 : @LE.le Nat _ cm aP)
    (a6 : @LE.le Nat _ cE aP)
    (dc : n0 ≤ aR)
    (cW : @LE.le Nat _ (Array.size h0) aR)
    (cH : n0 ≤ aP)
    (cx : @LE.le Nat _ (Array.size h0) aP) :
    oe p.tables e below (oT s (oae Z a0 a1 kk h0 n0) ({ frames := 7, cells := 48, slots := 9423, locals := 97 } : Room).cells ({ frames := 7, cells := 48, slots := 9423, locals := 97 } : Room).slots) (dw.setTop (mkF m 175 #[.val (.ref a0), .val (.ref a1), .unset, .unset] [(.ref cD), (.ref cC), (.ref cA), (.ref cz), (.ref aP), (.ref aP), (.ref a0)])) := by
  have hx := Bd.exec
  have hby := Bd.bytes
  have hlk : meth.locks = false := BodyLoose.notSynchronized Bd
  have hml : c.maxLocals = 4 := hml0
  have hown : s.vm.findClass "com/example/restate/restate/model/CensusColumns" = some m.cls := findClass_of_methodNamed Bd.named
  have hnm := (name_of_methodNamed Bd.named Bd.method).1
  have hd := oq oac hby
  have be := cy.lt
  refine oL dU hx hZ hown (hw 134 rfl) (hw 135 rfl) (hw 137 rfl) (hw 136 rfl) (by decide) (oiX l Z aw hw [] kk cz cA cC cD aE n0 dL df dg dh di J0) dW hml rfl rfl (rest := [(.ref aP), (.ref aP), (.ref a0)]) rfl (lenOf ofE rfl) (hd 81 rfl) rfl fun dQ dN d0 dS dD => ?_
  obtain ⟨dY, rfl, dq, aF, dA, dG, dJ, dI, dk, dl, dx, dj⟩ := dD
  have ds := Fr.app dP dq
  replace ba := ba.keep aF
  replace ah := ah.keep aF nin0
  replace aH := aH.keep aF nin0
  replace au := au.keep aF nin0
  replace ax := ax.keep aF nin0
  replace aq := aq.keep aF nin0
  replace ae := ae.keep aF nin0
  replace ag := ag.keep aF nin0
  replace ai := ai.keep aF nin0
  replace aj := aj.keep aF nin0
  replace af := af.keep aF nin0
  replace ak := ak.keep aF nin0
  replace ap := ap.keep aF nin0
  replace aa := aa.keep aF nin0
  replace ac := ac.keep aF nin0
  replace aJ := aJ.keep aF nin0
  replace aB := aB.keep aF nin0
  replace bg := bg.keep aF
  replace ao := ao.keep aF nin0
  replace aC := aC.keep aF nin0
  replace J0 := J0.keep aF all0
  replace A2 := A2.keep aF
  replace aD := aD.keep aF nin0
  replace aA := aA.keep aF nin0
  replace ay := ay.keep aF nin0
  replace av := av.keep aF nin0
  replace bk := bk.keep aF nin0
  replace bl := bl.keep aF nin0
  replace cI := cI.keep aF all0
  replace cJ := cJ.keep aF all0
  replace cK := cK.keep aF all0
  replace cL := cL.keep aF all0
  replace cM := cM.keep aF all0
  replace cN := cN.keep aF all0
  replace df := df.keep aF
  replace cR := cR.keep aF all0
  replace dg := dg.keep aF
  replace cS := cS.keep aF all0
  replace dh := dh.keep aF
  replace cT := cT.keep aF all0
  replace di := di.keep aF
  replace cU := cU.keep aF all0
  replace cG := cG.keep aF
  replace bi := bi.keep aF nin0
  replace bh := bh.keep aF nin0
  replace bj := bj.keep aF nin0
  replace cy := cy.keep aF
  replace aI := aI.keep aF nin0
  replace az := az.keep aF nin0
  replace aQ := aQ.keep aF nin0
  have dm := dM.trans aF all0
  have cY := Nat.le_trans dL aF.1
  have bL := Nat.lt_of_lt_of_le be dJ
  have bc := Nat.lt_of_lt_of_le be dI
  have cF := ba.lt
  have cv := cG.lt
  have cw := cy.lt
  refine oK dS hx hZ hown (host := "") (Or.inl (hw 175 rfl)) (hw 176 rfl) (hw 177 rfl) (hw 5 rfl) rfl (by decide) (oi0 l Z aw hw [] aP dY dA kk cz cA cC cD dG (dQ.heap) n0 cY cy aI az aQ cH dk dl dx dj df dg dh di J0 (Ne.symm (od bL)) (Ne.symm (od bc)) (od bH) (od bI) (od bJ) (od bK)) rfl hml rfl rfl (rest := [(.ref aP), (.ref a0)]) rfl (lenOf obQ rfl) (hd 82 rfl) rfl fun dZ dO d1 dT dE => ?_
  obtain ⟨rfl, dr, aK, dB, dF, cX, -, cP, cQ, cO, cV⟩ := dE
  have dt := Fr.app ds dr
  replace ba := ba.keep aK
  replace ah := ah.keep aK (oa ab)
  replace aH := aH.keep aK (oa ab)
  replace au := au.keep aK (oa ab)
  replace ax := ax.keep aK (oa ab)
  replace aq := aq.keep aK (oa ab)
  replace ae := ae.keep aK (oa ab)
  replace ag := ag.keep aK (oa ab)
  replace ai := ai.keep aK (oa ab)
  replace aj := aj.keep aK (oa ab)
  replace af := af.keep aK (oa ab)
  replace ak := ak.keep aK (oa ab)
  replace ap := ap.keep aK (oa ab)
  replace aa := aa.keep aK (oa ab)
  replace ac := ac.keep aK (oa ab)
  replace aJ := aJ.keep aK (oa ab)
  replace aB := aB.keep aK (oa ab)
  replace bg := bg.keep aK
  replace ao := ao.keep aK (oa a7)
  replace aC := aC.keep aK (oa a7)
  replace A2 := A2.keep aK
  replace aD := aD.keep aK (oa aL)
  replace aA := aA.keep aK (oa aL)
  replace ay := ay.keep aK (oa aL)
  replace av := av.keep aK (oa aL)
  replace bk := bk.keep aK (oa a8)
  replace bl := bl.keep aK (oa a9)
  replace cI := cI.keep aK (allS (Or.inr aS) all0)
  replace cJ := cJ.keep aK (allS (Or.inr aT) all0)
  replace cK := cK.keep aK (allS (Or.inr aU) all0)
  replace cL := cL.keep aK (allS (Or.inr aV) all0)
  replace cM := cM.keep aK (allS (Or.inr aW) all0)
  replace cN := cN.keep aK (allS (Or.inr aX) all0)
  replace cR := cR.keep aK (allS (Or.inr aY) all0)
  replace cS := cS.keep aK (allS (Or.inr aZ) all0)
  replace cT := cT.keep aK (allS (Or.inr a5) all0)
  replace cU := cU.keep aK (allS (Or.inr a6) all0)
  replace cG := cG.keep aK
  replace bi := bi.keep aK (oa aM)
  replace bh := bh.keep aK (oa aM)
  replace bj := bj.keep aK (oa aM)
  replace cy := cy.keep aK
  have dn := dm.trans aK (allS (Or.inr cx) all0)
  have dy := Nat.le_trans cY aK.1
  have bG := Nat.lt_of_lt_of_le cF cX
  have bb := Nat.lt_of_lt_of_le cv cX
  have bd := Nat.lt_of_lt_of_le cw cX
  refine ox (putF dT hx hZ hown (host := "") (Or.inl (hw 221 rfl)) Via.refl rfl ac ba (Or.inr ⟨(hw 222 rfl), rfl, hnm⟩) (hw 1 rfl) (ty := (.object "java/util/List")) (by decide) rfl rfl rfl rfl (hd 83 rfl)) fun dR dX dK dV aG => ?_
  replace ba := ba.wr aG
  replace ah := ah.other aG (Or.inr (ob (Or.inr (hw 41 rfl)) (Or.inr (hw 222 rfl)) (by decide)))
  replace aH := aH.other aG (Or.inr (ob (Or.inl (hw 44 rfl)) (Or.inr (hw 222 rfl)) (by decide)))
  replace au := au.other aG (Or.inr (ob (Or.inl (hw 47 rfl)) (Or.inr (hw 222 rfl)) (by decide)))
  replace ax := ax.other aG (Or.inr (ob (Or.inr (hw 82 rfl)) (Or.inr (hw 222 rfl)) (by decide)))
  replace aq := aq.other aG (Or.inr (ob (Or.inr (hw 84 rfl)) (Or.inr (hw 222 rfl)) (by decide)))
  replace ae := ae.other aG (Or.inr (ob (Or.inr (hw 86 rfl)) (Or.inr (hw 222 rfl)) (by decide)))
  replace ag := ag.other aG (Or.inr (ob (Or.inr (hw 88 rfl)) (Or.inr (hw 222 rfl)) (by decide)))
  replace ai := ai.other aG (Or.inr (ob (Or.inr (hw 90 rfl)) (Or.inr (hw 222 rfl)) (by decide)))
  replace aj := aj.other aG (Or.inr (ob (Or.inr (hw 92 rfl)) (Or.inr (hw 222 rfl)) (by decide)))
  replace af := af.other aG (Or.inr (ob (Or.inr (hw 109 rfl)) (Or.inr (hw 222 rfl)) (by decide)))
  replace ak := ak.other aG (Or.inr (ob (Or.inr (hw 111 rfl)) (Or.inr (hw 222 rfl)) (by decide)))
  replace ap := ap.other aG (Or.inr (ob (Or.inr (hw 113 rfl)) (Or.inr (hw 222 rfl)) (by decide)))
  replace aa := aa.other aG (Or.inr (ob (Or.inr (hw 115 rfl)) (Or.inr (hw 222 rfl)) (by decide)))
  replace ac := ac.same aG
  replace aJ := aJ.other aG (Or.inr (ob (Or.inr (hw 132 rfl)) (Or.inr (hw 222 rfl)) (by decide)))
  replace aB := aB.other aG (Or.inr (ob (Or.inl (hw 331 rfl)) (Or.inr (hw 222 rfl)) (by decide)))
  replace bg := bg.wr aG
  replace ao := ao.other aG (Or.inl bf)
  replace aC := aC.other aG (Or.inl bf)
  replace A2 := A2.wr aG
  replace aD := aD.other aG (Or.inl (Ne.symm (od aN)))
  replace aA := aA.other aG (Or.inl (Ne.symm (od aN)))
  replace ay := ay.other aG (Or.inl (Ne.symm (od aN)))
  replace av := av.other aG (Or.inl (Ne.symm (od aN)))
  replace bk := bk.other aG (Ne.symm (od cn))
  replace bl := bl.other aG (Ne.symm (od co))
  replace cI := cI.keep (Keep.of_wr aG) (allS (Or.inl cp) all0)
  replace cJ := cJ.keep (Keep.of_wr aG) (allS (Or.inl bM) all0)
  replace cK := cK.keep (Keep.of_wr aG) (allS (Or.inl bN) all0)
  replace cL := cL.keep (Keep.of_wr aG) (allS (Or.inl bO) all0)
  replace cM := cM.keep (Keep.of_wr aG) (allS (Or.inl bP) all0)
  replace cN := cN.keep (Keep.of_wr aG) (allS (Or.inl bQ) all0)
  replace cR := cR.keep (Keep.of_wr aG) (allS (Or.inl bR) all0)
  replace cS := cS.keep (Keep.of_wr aG) (allS (Or.inl bS) all0)
  replace cT := cT.keep (Keep.of_wr aG) (allS (Or.inl bT) all0)
  replace cU := cU.keep (Keep.of_wr aG) (allS (Or.inl bU) all0)
  replace cG := cG.wr aG
  replace bi := bi.other aG (Or.inl (Ne.symm (od aO)))
  replace bh := bh.other aG (Or.inl (Ne.symm (od aO)))
  replace bj := bj.other aG (Or.inl (Ne.symm (od aO)))
  replace cy := cy.wr aG
  replace cP := cP.other aG (Or.inl (Ne.symm (od ab)))
  replace cQ := cQ.other aG (Or.inl (Ne.symm (od ab)))
  replace cO := cO.other aG (Or.inl (Ne.symm (od ab)))
  replace cV := cV.other aG (Ne.symm (od bG))
  have dp := dn.wr aG (Or.inl (List.mem_of_getElem? (i := 0) rfl))
  have dz := Nat.le_trans dy (Keep.of_wr aG).1
  have du := Fr.snoc dK dt dC
  exact ojc l Z aw hw ws a0 a1 kk h0 n0  Bd hml hZ b2 b5 b7 b9 cZ c8 c9 da db cz cA cC cD aR aP dB bY bZ b0 ce cg ci cj ck cm cE k5 k7 dF dR _ dX dK dV du dp dz ba ah aH au ax aq ae ag ai aj af ak ap aa ac aJ aB bg ao aC A2 aD aA ay av bk bl cI cJ cK cL cM cN cR cS cT cU cG bi bh bj cy cP cQ cO cV aN cr ct cu aO bV bW bX ab aL a8 a9 aM bb bd bm bo bq bs bu bw bz bB bD bn bp br bt bv bx bA bC bE bF aS aT aU aV aW aX aY aZ a5 a6 dc cW cH cx
theorem oje (hw : oo Z aw) (ws : List Jvm.Cond) (a0 : Addr) (a1 : Addr) (kk : ov) (h0 : Heap) (n0 : Nat) (c8 : n0 ≤ a0) (bO : a1 ≠ a0) {p : Program} {e : Env} {s : State} {m : MethodId} {below : List Frame} {meth : Method} {c : Code} {c9 : State} (Bd : BodyLoose p l (⟨"com/example/restate/restate/model/CensusColumns", "<init>", "(Ljava/util/Collection;)V"⟩ : MethodName) (head1 (Jvm.Cond.code (⟨"com/example/restate/restate/model/CensusColumns", "<init>", "(Ljava/util/Collection;)V"⟩ : MethodName) prog_32_method_1_code 4 none :: ws) ({ frames := 7, cells := 48, slots := 9423, locals := 97 } : Room)) prog_32_method_1_code 4 none e s m #[(.ref a0), (.ref a1)] below meth c c9) (hml0 : c.maxLocals = 4) (hZ : Z.Warmed39 s.vm) (b2 : Nat) (b5 : Nat) (b7 : Nat) (b9 : Nat) (cv : Nat) (cw : Nat) (cx : Nat) (cy : Nat) (cz : Nat) (cp : Nat) (cr : Nat) (ct : Nat) (cu : Nat) (aJ : Nat) (bT : Nat) (bU : Nat) (bV : Nat) (bW : Nat) (bX : Nat) (bY : Nat) (bZ : Nat) (b0 : Nat) (ce : Nat) (cm : Nat) (k5 : ClassId) (k7 : ClassId) (cX : State) (cD : List Loc) (aj : Heap)
    (dg : Stand p l e ({ frames := 7, cells := 48, slots := 9423, locals := 97 } : Room) s m #[(.ref a0), (.ref a1)] below meth c cX cD 40 9400) (ds : cX.heap = aj) (di : Fr n0 cD) (db : Keep h0 aj [a0]) (dh : n0 ≤ aj.size)
    (bP : Exa Z aj a0 "com/example/restate/restate/model/CensusColumns")
    (ah : Fld Z aj a0 "com/example/restate/restate/model/CensusColumns" "lineOffsets" "Lcom/example/restate/restate/model/LongColumn;" (.ref b2))
    (aF : Fld Z aj a0 "com/example/restate/restate/model/CensusColumns" "ids" "[C" (.ref b5))
    (av : Fld Z aj a0 "com/example/restate/restate/model/CensusColumns" "idEnds" "[I" (.ref b7))
    (ay : Fld Z aj a0 "com/example/restate/restate/model/CensusColumns" "group" "Lcom/example/restate/restate/model/CensusColumns$Codes;" (.ref b9))
    (au : Fld Z aj a0 "com/example/restate/restate/model/CensusColumns" "pension" "Lcom/example/restate/restate/model/CensusColumns$Codes;" (.ref cv))
    (ae : Fld Z aj a0 "com/example/restate/restate/model/CensusColumns" "yearEndStatus" "Lcom/example/restate/restate/model/CensusColumns$Codes;" (.ref cw))
    (ag : Fld Z aj a0 "com/example/restate/restate/model/CensusColumns" "segmentStart" "Lcom/example/restate/restate/model/CensusColumns$Codes;" (.ref cx))
    (ai : Fld Z aj a0 "com/example/restate/restate/model/CensusColumns" "segmentEnd" "Lcom/example/restate/restate/model/CensusColumns$Codes;" (.ref cy))
    (ap : Fld Z aj a0 "com/example/restate/restate/model/CensusColumns" "birthDate" "Lcom/example/restate/restate/model/CensusColumns$Codes;" (.ref cz))
    (ab : Fld Z aj a0 "com/example/restate/restate/model/CensusColumns" "compensation" "Lcom/example/restate/restate/model/AmountColumn;" (.ref cp))
    (af : Fld Z aj a0 "com/example/restate/restate/model/CensusColumns" "deferrals" "Lcom/example/restate/restate/model/AmountColumn;" (.ref cr))
    (ak : Fld Z aj a0 "com/example/restate/restate/model/CensusColumns" "catchUp" "Lcom/example/restate/restate/model/AmountColumn;" (.ref ct))
    (aa : Fld Z aj a0 "com/example/restate/restate/model/CensusColumns" "otherAnnualAdditions" "Lcom/example/restate/restate/model/AmountColumn;" (.ref cu))
    (ac : Fld Z aj a0 "com/example/restate/restate/model/CensusColumns" "amountColumns" "Ljava/util/List;" .null)
    (aH : Fld Z aj a0 "com/example/restate/restate/model/CensusColumns" "pay" "Ljava/util/Map;" (.ref aJ))
    (aC : Fld Z aj a0 "com/example/restate/restate/model/CensusColumns" "size" "I" (.int (0 : Int32)))
    (bQ : Exa Z aj a1 "java/util/ArrayList")
    (aq : Fld Z aj a1 "java/util/AbstractList" "modCount" "I" (.int (0 : Int32)))
    (aD : Fld Z aj a1 "java/util/ArrayList" "size" "I" (.int (0 : Int32)))
    (J0 : oy Z aj n0 kk)
    (A2 : Exa Z aj b2 "com/example/restate/restate/model/LongColumn")
    (aE : Fld Z aj b2 "com/example/restate/restate/model/LongColumn" "size" "I" (.int (0 : Int32)))
    (aB : Fld Z aj b2 "com/example/restate/restate/model/LongColumn" "ints" "[I" .null)
    (az : Fld Z aj b2 "com/example/restate/restate/model/LongColumn" "longs" "[J" .null)
    (ax : Fld Z aj b2 "com/example/restate/restate/model/LongColumn" "shared" "J" (.long (0 : Int64)))
    (bR : Arv Z aj b5 k5 .char (8192 : Int32) (List.replicate 8192 (.int (0 : Int32))) (.int (0 : Int32)))
    (bS : Arv Z aj b7 k7 .int (1024 : Int32) (List.replicate 1024 (.int (0 : Int32))) (.int (0 : Int32)))
    (cK : oA Z aj kk.de b9 bT)
    (cL : oA Z aj kk.de cv bU)
    (cM : oA Z aj kk.de cw bV)
    (cN : oA Z aj kk.de cx bW)
    (cO : oA Z aj kk.de cy bX)
    (cP : oA Z aj kk.de cz bY)
    (cF : Exa Z aj cp "com/example/restate/restate/model/AmountColumn")
    (cR : oF Z aj 0 cp bZ)
    (cG : Exa Z aj cr "com/example/restate/restate/model/AmountColumn")
    (cS : oF Z aj 0 cr b0)
    (cH : Exa Z aj ct "com/example/restate/restate/model/AmountColumn")
    (cT : oF Z aj 0 ct ce)
    (cI : Exa Z aj cu "com/example/restate/restate/model/AmountColumn")
    (cU : oF Z aj 0 cu cm)
    (cJ : Exa Z aj aJ "java/util/LinkedHashMap")
    (ci : Fld Z aj aJ "java/util/HashMap" "size" "I" (.int (0 : Int32)))
    (cg : Fld Z aj aJ "java/util/LinkedHashMap" "head" "Ljava/util/LinkedHashMap$Entry;" .null)
    (cj : Fld Z aj aJ "java/util/AbstractMap" "values" "Ljava/util/Collection;" .null)
    (bH : @LT.lt Nat _ a0 b2)
    (bI : @LT.lt Nat _ a0 b5)
    (bL : @LT.lt Nat _ b2 b5)
    (bJ : @LT.lt Nat _ a0 b7)
    (bM : @LT.lt Nat _ b5 b7)
    (bK : @LT.lt Nat _ a0 b9)
    (bN : @LT.lt Nat _ b7 b9)
    (bo : @LT.lt Nat _ a0 cv)
    (bp : @LT.lt Nat _ a0 cw)
    (bq : @LT.lt Nat _ a0 cx)
    (br : @LT.lt Nat _ a0 cy)
    (bs : @LT.lt Nat _ a0 cz)
    (bt : @LT.lt Nat _ a0 cp)
    (bu : @LT.lt Nat _ a0 cr)
    (bv : @LT.lt Nat _ a0 ct)
    (bw : @LT.lt Nat _ a0 cu)
    (bx : @LT.lt Nat _ a0 aJ)
    (bB : @LT.lt Nat _ b2 aJ)
    (bD : @LT.lt Nat _ b5 aJ)
    (bF : @LT.lt Nat _ b7 aJ)
    (aL : @LE.le Nat _ bT cv)
    (aO : @LE.le Nat _ bU cw)
    (aR : @LE.le Nat _ bV cx)
    (aU : @LE.le Nat _ bW cy)
    (aX : @LE.le Nat _ bX cz)
    (a5 : @LE.le Nat _ bY cp)
    (a8 : @LE.le Nat _ bZ cr)
    (bb : @LE.le Nat _ b0 ct)
    (be : @LE.le Nat _ ce cu)
    (aM : @LE.le Nat _ bT aJ)
    (aP : @LE.le Nat _ bU aJ)
    (aS : @LE.le Nat _ bV aJ)
    (aV : @LE.le Nat _ bW aJ)
    (aY : @LE.le Nat _ bX aJ)
    (a6 : @LE.le Nat _ bY aJ)
    (a9 : @LE.le Nat _ bZ aJ)
    (bc : @LE.le Nat _ b0 aJ)
    (bf : @LE.le Nat _ ce aJ)
    (bh : @LE.le Nat _ cm aJ)
    (cA : n0 ≤ aJ)
    (cn : @LE.le Nat _ (Array.size h0) aJ) :
    oe p.tables e below (oT s (oae Z a0 a1 kk h0 n0) ({ frames := 7, cells := 48, slots := 9423, locals := 97 } : Room).cells ({ frames := 7, cells := 48, slots := 9423, locals := 97 } : Room).slots) (cX.setTop (mkF m 154 #[.val (.ref a0), .val (.ref a1), .unset, .unset] [])) := by
  have hx := Bd.exec
  have hby := Bd.bytes
  have hlk : meth.locks = false := BodyLoose.notSynchronized Bd
  have hml : c.maxLocals = 4 := hml0
  have hown : s.vm.findClass "com/example/restate/restate/model/CensusColumns" = some m.cls := findClass_of_methodNamed Bd.named
  have hnm := (name_of_methodNamed Bd.named Bd.method).1
  have hd := oq oac hby
  refine oc dg hx (hd 70 rfl) rfl rfl ?_
  obtain ⟨dj, cV, cY, dm, ao, da, cQ, -, cE⟩ := newO dg hx hZ hown (hw 133 rfl) (hw 4 rfl) (hw 5 rfl) ds (g := (mkF m 155 #[.val (.ref a0), .val (.ref a1), .unset, .unset] [(.ref a0)])) rfl (hd 71 rfl) (by decide) (by decide)
  obtain ⟨ck, aI⟩ : ∃ z, z = aj.size := ⟨_, rfl⟩
  rw [← aI] at da cQ cE
  refine ow cE ?_
  have bz := os bP.lt aI
  have bA := os bQ.lt aI
  have bC := os A2.lt aI
  have bE := os bR.lt aI
  have bG := os bS.lt aI
  have bj := os cF.lt aI
  have bk := os cG.lt aI
  have bl := os cH.lt aI
  have bm := os cI.lt aI
  have bn := os cJ.lt aI
  have aN := om cK.hi aI
  have aQ := om cL.hi aI
  have aT := om cM.hi aI
  have aW := om cN.hi aI
  have aZ := om cO.hi aI
  have a7 := om cP.hi aI
  have ba := om cR.hi aI
  have bd := om cS.hi aI
  have bg := om cT.hi aI
  have bi := om cU.hi aI
  have cC := om dh aI
  have co := om db.1 aI
  replace bP := bP.ext ao
  replace ah := ah.ext ao
  replace aF := aF.ext ao
  replace av := av.ext ao
  replace ay := ay.ext ao
  replace au := au.ext ao
  replace ae := ae.ext ao
  replace ag := ag.ext ao
  replace ai := ai.ext ao
  replace ap := ap.ext ao
  replace ab := ab.ext ao
  replace af := af.ext ao
  replace ak := ak.ext ao
  replace aa := aa.ext ao
  replace ac := ac.ext ao
  replace aH := aH.ext ao
  replace aC := aC.ext ao
  replace bQ := bQ.ext ao
  replace aq := aq.ext ao
  replace aD := aD.ext ao
  replace J0 := J0.keep (op ao) all0
  replace A2 := A2.ext ao
  replace aE := aE.ext ao
  replace aB := aB.ext ao
  replace az := az.ext ao
  replace ax := ax.ext ao
  replace bR := bR.ext ao
  replace bS := bS.ext ao
  replace cK := cK.keep (op ao) all0
  replace cL := cL.keep (op ao) all0
  replace cM := cM.keep (op ao) all0
  replace cN := cN.keep (op ao) all0
  replace cO := cO.keep (op ao) all0
  replace cP := cP.keep (op ao) all0
  replace cF := cF.ext ao
  replace cR := cR.keep (op ao) all0
  replace cG := cG.ext ao
  replace cS := cS.keep (op ao) all0
  replace cH := cH.ext ao
  replace cT := cT.keep (op ao) all0
  replace cI := cI.ext ao
  replace cU := cU.keep (op ao) all0
  replace cJ := cJ.ext ao
  replace ci := ci.ext ao
  replace cg := cg.ext ao
  replace cj := cj.ext ao
  have cW := db.ext ao
  have cZ := Nat.le_trans dh ao.1
  have aG : Fld Z cV ck "java/util/AbstractList" "modCount" "I" (.int (0 : Int32)) := cQ (Or.inl (hw 25 rfl)) (ty := .int) (by decide)
  have aA : Fld Z cV ck "java/util/ArrayList" "elementData" "[Ljava/lang/Object;" .null := cQ (Or.inl (hw 28 rfl)) (ty := (.array (.object "java/lang/Object"))) (by decide)
  have aK : Fld Z cV ck "java/util/ArrayList" "size" "I" (.int (0 : Int32)) := cQ (Or.inl (hw 211 rfl)) (ty := .int) (by decide)
  show oe p.tables e below _ (dj.setTop (mkF m 158 #[.val (.ref a0), .val (.ref a1), .unset, .unset] [(.ref ck), (.ref a0)]))
  refine og (S' := [(.ref ck), (.ref ck), (.ref a0)])  (fun _ k => XS.dup cY.here hx rfl (hd 72 rfl) rfl rfl k) ?_
  refine oc cY hx (hd 73 rfl) rfl rfl ?_
  refine oi (getF cY hx hZ hown (host := "") (Or.inl (hw 108 rfl)) Via.refl dm ab rfl rfl (hd 74 rfl)) fun dt dc dn => ?_
  refine oc dc hx (hd 75 rfl) rfl rfl ?_
  refine oi (getF dc hx hZ hown (host := "") (Or.inl (hw 110 rfl)) Via.refl dn af rfl rfl (hd 76 rfl)) fun du dd dp => ?_
  refine oc dd hx (hd 77 rfl) rfl rfl ?_
  refine oi (getF dd hx hZ hown (host := "") (Or.inl (hw 112 rfl)) Via.refl dp ak rfl rfl (hd 78 rfl)) fun dw df dq => ?_
  refine oc df hx (hd 79 rfl) rfl rfl ?_
  refine oi (getF df hx hZ hown (host := "") (Or.inl (hw 114 rfl)) Via.refl dq aa rfl rfl (hd 80 rfl)) fun dk dl dr => ?_
  exact ojd l Z aw hw ws a0 a1 kk h0 n0 c8 bO Bd hml hZ b2 b5 b7 b9 cv cw cx cy cz cp cr ct cu aJ ck bT bU bV bW bX bY bZ b0 ce cm k5 k7 dk _ cV dl dr di cW cZ bP ah aF av ay au ae ag ai ap ab af ak aa ac aH aC bQ aq aD J0 A2 aE aB az ax bR bS cK cL cM cN cO cP cF cR cG cS cH cT cI cU cJ ci cg cj da aG aA aK bH bI bL bJ bM bK bN bo bp bq br bs bt bu bv bw bx bB bD bF bz bA bC bE bG bj bk bl bm bn aL aO aR aU aX a5 a8 bb be aM aP aS aV aY a6 a9 bc bf bh aN aQ aT aW aZ a7 ba bd bg bi cA cn cC co
theorem ojf (hw : oo Z aw) (ws : List Jvm.Cond) (a0 : Addr) (a1 : Addr) (kk : ov) (h0 : Heap) (n0 : Nat) (cp : n0 ≤ a0) (aX : a1 ≠ a0) {p : Program} {e : Env} {s : State} {m : MethodId} {below : List Frame} {meth : Method} {c : Code} {cR : State} (Bd : BodyLoose p l (⟨"com/example/restate/restate/model/CensusColumns", "<init>", "(Ljava/util/Collection;)V"⟩ : MethodName) (head1 (Jvm.Cond.code (⟨"com/example/restate/restate/model/CensusColumns", "<init>", "(Ljava/util/Collection;)V"⟩ : MethodName) prog_32_method_1_code 4 none :: ws) ({ frames := 7, cells := 48, slots := 9423, locals := 97 } : Room)) prog_32_method_1_code 4 none e s m #[(.ref a0), (.ref a1)] below meth c cR) (hml0 : c.maxLocals = 4) (hZ : Z.Warmed39 s.vm) (b2 : Nat) (b5 : Nat) (b7 : Nat) (b9 : Nat) (cy : Nat) (cz : Nat) (cA : Nat) (cC : Nat) (cD : Nat) (ct : Nat) (cu : Nat) (cv : Nat) (cw : Nat) (b0 : Nat) (ce : Nat) (cg : Nat) (ci : Nat) (cj : Nat) (ck : Nat) (cm : Nat) (cn : Nat) (co : Nat) (cE : Nat) (k5 : ClassId) (k7 : ClassId) (cN : State) (cF : List Loc) (aG : Heap)
    (cV : Stand p l e ({ frames := 7, cells := 48, slots := 9423, locals := 97 } : Room) s m #[(.ref a0), (.ref a1)] below meth c cN cF 39 9388) (dc : cN.heap = aG) (cY : Fr n0 cF) (cS : Keep h0 aG [a0]) (cW : n0 ≤ aG.size)
    (bg : Exa Z aG a0 "com/example/restate/restate/model/CensusColumns")
    (ah : Fld Z aG a0 "com/example/restate/restate/model/CensusColumns" "lineOffsets" "Lcom/example/restate/restate/model/LongColumn;" (.ref b2))
    (aF : Fld Z aG a0 "com/example/restate/restate/model/CensusColumns" "ids" "[C" (.ref b5))
    (au : Fld Z aG a0 "com/example/restate/restate/model/CensusColumns" "idEnds" "[I" (.ref b7))
    (ax : Fld Z aG a0 "com/example/restate/restate/model/CensusColumns" "group" "Lcom/example/restate/restate/model/CensusColumns$Codes;" (.ref b9))
    (aq : Fld Z aG a0 "com/example/restate/restate/model/CensusColumns" "pension" "Lcom/example/restate/restate/model/CensusColumns$Codes;" (.ref cy))
    (ae : Fld Z aG a0 "com/example/restate/restate/model/CensusColumns" "yearEndStatus" "Lcom/example/restate/restate/model/CensusColumns$Codes;" (.ref cz))
    (ag : Fld Z aG a0 "com/example/restate/restate/model/CensusColumns" "segmentStart" "Lcom/example/restate/restate/model/CensusColumns$Codes;" (.ref cA))
    (ai : Fld Z aG a0 "com/example/restate/restate/model/CensusColumns" "segmentEnd" "Lcom/example/restate/restate/model/CensusColumns$Codes;" (.ref cC))
    (aj : Fld Z aG a0 "com/example/restate/restate/model/CensusColumns" "birthDate" "Lcom/example/restate/restate/model/CensusColumns$Codes;" (.ref cD))
    (af : Fld Z aG a0 "com/example/restate/restate/model/CensusColumns" "compensation" "Lcom/example/restate/restate/model/AmountColumn;" (.ref ct))
    (ak : Fld Z aG a0 "com/example/restate/restate/model/CensusColumns" "deferrals" "Lcom/example/restate/restate/model/AmountColumn;" (.ref cu))
    (ap : Fld Z aG a0 "com/example/restate/restate/model/CensusColumns" "catchUp" "Lcom/example/restate/restate/model/AmountColumn;" (.ref cv))
    (aa : Fld Z aG a0 "com/example/restate/restate/model/CensusColumns" "otherAnnualAdditions" "Lcom/example/restate/restate/model/AmountColumn;" (.ref cw))
    (ac : Fld Z aG a0 "com/example/restate/restate/model/CensusColumns" "amountColumns" "Ljava/util/List;" .null)
    (aD : Fld Z aG a0 "com/example/restate/restate/model/CensusColumns" "pay" "Ljava/util/Map;" .null)
    (aA : Fld Z aG a0 "com/example/restate/restate/model/CensusColumns" "size" "I" (.int (0 : Int32)))
    (bj : Exa Z aG a1 "java/util/ArrayList")
    (ao : Fld Z aG a1 "java/util/AbstractList" "modCount" "I" (.int (0 : Int32)))
    (aB : Fld Z aG a1 "java/util/ArrayList" "size" "I" (.int (0 : Int32)))
    (J0 : oy Z aG n0 kk)
    (A2 : Exa Z aG b2 "com/example/restate/restate/model/LongColumn")
    (aC : Fld Z aG b2 "com/example/restate/restate/model/LongColumn" "size" "I" (.int (0 : Int32)))
    (az : Fld Z aG b2 "com/example/restate/restate/model/LongColumn" "ints" "[I" .null)
    (ay : Fld Z aG b2 "com/example/restate/restate/model/LongColumn" "longs" "[J" .null)
    (av : Fld Z aG b2 "com/example/restate/restate/model/LongColumn" "shared" "J" (.long (0 : Int64)))
    (bk : Arv Z aG b5 k5 .char (8192 : Int32) (List.replicate 8192 (.int (0 : Int32))) (.int (0 : Int32)))
    (bl : Arv Z aG b7 k7 .int (1024 : Int32) (List.replicate 1024 (.int (0 : Int32))) (.int (0 : Int32)))
    (bH : oA Z aG kk.de b9 b0)
    (bI : oA Z aG kk.de cy ce)
    (bJ : oA Z aG kk.de cz cg)
    (bK : oA Z aG kk.de cA ci)
    (bL : oA Z aG kk.de cC cj)
    (bM : oA Z aG kk.de cD ck)
    (bR : Exa Z aG ct "com/example/restate/restate/model/AmountColumn")
    (bN : oF Z aG 0 ct cm)
    (bS : Exa Z aG cu "com/example/restate/restate/model/AmountColumn")
    (bO : oF Z aG 0 cu cn)
    (bT : Exa Z aG cv "com/example/restate/restate/model/AmountColumn")
    (bP : oF Z aG 0 cv co)
    (bU : Exa Z aG cw "com/example/restate/restate/model/AmountColumn")
    (bQ : oF Z aG 0 cw cE)
    (aK : @LT.lt Nat _ a0 b2)
    (bm : @LT.lt Nat _ a0 b5)
    (bD : @LT.lt Nat _ b2 b5)
    (bn : @LT.lt Nat _ a0 b7)
    (bE : @LT.lt Nat _ b5 b7)
    (bo : @LT.lt Nat _ a0 b9)
    (bF : @LT.lt Nat _ b7 b9)
    (aZ : @LT.lt Nat _ a0 cy)
    (a5 : @LT.lt Nat _ a0 cz)
    (a6 : @LT.lt Nat _ a0 cA)
    (a7 : @LT.lt Nat _ a0 cC)
    (a8 : @LT.lt Nat _ a0 cD)
    (a9 : @LT.lt Nat _ a0 ct)
    (ba : @LT.lt Nat _ a0 cu)
    (bb : @LT.lt Nat _ a0 cv)
    (bc : @LT.lt Nat _ a0 cw)
    (br : @LE.le Nat _ b0 cy)
    (bs : @LE.le Nat _ ce cz)
    (bt : @LE.le Nat _ cg cA)
    (bu : @LE.le Nat _ ci cC)
    (bv : @LE.le Nat _ cj cD)
    (bw : @LE.le Nat _ ck ct)
    (bx : @LE.le Nat _ cm cu)
    (bz : @LE.le Nat _ cn cv)
    (bA : @LE.le Nat _ co cw) :
    oe p.tables e below (oT s (oae Z a0 a1 kk h0 n0) ({ frames := 7, cells := 48, slots := 9423, locals := 97 } : Room).cells ({ frames := 7, cells := 48, slots := 9423, locals := 97 } : Room).slots) (cN.setTop (mkF m 143 #[.val (.ref a0), .val (.ref a1), .unset, .unset] [])) := by
  have hx := Bd.exec
  have hby := Bd.bytes
  have hlk : meth.locks = false := BodyLoose.notSynchronized Bd
  have hml : c.maxLocals = 4 := hml0
  have hown : s.vm.findClass "com/example/restate/restate/model/CensusColumns" = some m.cls := findClass_of_methodNamed Bd.named
  have hnm := (name_of_methodNamed Bd.named Bd.method).1
  have hd := oq oac hby
  refine oc cV hx (hd 65 rfl) rfl rfl ?_
  obtain ⟨cZ, cr, cT, da, aI, bV, bW, -, cG⟩ := newO cV hx hZ hown (hw 116 rfl) (hw 117 rfl) (hw 118 rfl) dc (g := (mkF m 144 #[.val (.ref a0), .val (.ref a1), .unset, .unset] [(.ref a0)])) rfl (hd 66 rfl) (by decide) (by decide)
  obtain ⟨bB, bi⟩ : ∃ z, z = aG.size := ⟨_, rfl⟩
  rw [← bi] at bV bW cG
  refine ow cG ?_
  have ab := os bg.lt bi
  have bd := os bj.lt bi
  have aJ := os A2.lt bi
  have be := os bk.lt bi
  have bf := os bl.lt bi
  have aN := om bH.hi bi
  have aO := om bI.hi bi
  have aP := om bJ.hi bi
  have aQ := om bK.hi bi
  have aR := om bL.hi bi
  have aS := om bM.hi bi
  have aT := om bN.hi bi
  have aU := om bO.hi bi
  have aV := om bP.hi bi
  have aW := om bQ.hi bi
  have bC := om cW bi
  have bG := om cS.1 bi
  replace bg := bg.ext aI
  replace ah := ah.ext aI
  replace aF := aF.ext aI
  replace au := au.ext aI
  replace ax := ax.ext aI
  replace aq := aq.ext aI
  replace ae := ae.ext aI
  replace ag := ag.ext aI
  replace ai := ai.ext aI
  replace aj := aj.ext aI
  replace af := af.ext aI
  replace ak := ak.ext aI
  replace ap := ap.ext aI
  replace aa := aa.ext aI
  replace ac := ac.ext aI
  replace aD := aD.ext aI
  replace aA := aA.ext aI
  replace bj := bj.ext aI
  replace ao := ao.ext aI
  replace aB := aB.ext aI
  replace J0 := J0.keep (op aI) all0
  replace A2 := A2.ext aI
  replace aC := aC.ext aI
  replace az := az.ext aI
  replace ay := ay.ext aI
  replace av := av.ext aI
  replace bk := bk.ext aI
  replace bl := bl.ext aI
  replace bH := bH.keep (op aI) all0
  replace bI := bI.keep (op aI) all0
  replace bJ := bJ.keep (op aI) all0
  replace bK := bK.keep (op aI) all0
  replace bL := bL.keep (op aI) all0
  replace bM := bM.keep (op aI) all0
  replace bR := bR.ext aI
  replace bN := bN.keep (op aI) all0
  replace bS := bS.ext aI
  replace bO := bO.keep (op aI) all0
  replace bT := bT.ext aI
  replace bP := bP.keep (op aI) all0
  replace bU := bU.ext aI
  replace bQ := bQ.keep (op aI) all0
  have cH := cS.ext aI
  have cx := Nat.le_trans cW aI.1
  have aM : Fld Z cr bB "java/util/HashMap" "loadFactor" "F" (.float (0 : UInt32)) := bW (Or.inr (hw 126 rfl)) (ty := .float) (by decide)
  have aY : Fld Z cr bB "java/util/LinkedHashMap" "putMode" "I" (.int (0 : Int32)) := bW (Or.inl (hw 128 rfl)) (ty := .int) (by decide)
  have aL : Fld Z cr bB "java/util/LinkedHashMap" "accessOrder" "Z" (.int (0 : Int32)) := bW (Or.inr (hw 130 rfl)) (ty := .boolean) (by decide)
  have bh : Fld Z cr bB "java/util/AbstractMap" "values" "Ljava/util/Collection;" .null := bW (Or.inl (hw 276 rfl)) (ty := (.object "java/util/Collection")) (by decide)
  have bq : Fld Z cr bB "java/util/HashMap" "size" "I" (.int (0 : Int32)) := bW (Or.inl (hw 307 rfl)) (ty := .int) (by decide)
  have bp : Fld Z cr bB "java/util/LinkedHashMap" "head" "Ljava/util/LinkedHashMap$Entry;" .null := bW (Or.inl (hw 315 rfl)) (ty := (.object "java/util/LinkedHashMap$Entry")) (by decide)
  show oe p.tables e below _ (cZ.setTop (mkF m 147 #[.val (.ref a0), .val (.ref a1), .unset, .unset] [(.ref bB), (.ref a0)]))
  refine og (S' := [(.ref bB), (.ref bB), (.ref a0)])  (fun _ k => XS.dup cT.here hx rfl (hd 67 rfl) rfl rfl k) ?_
  refine oK cT hx hZ hown (host := "") (Or.inl (hw 119 rfl)) (hw 120 rfl) (hw 121 rfl) (hw 118 rfl) rfl (by decide) (oi4 l Z aw hw [] bB (0 : UInt32) cr n0 cx bV aM bq bp aY aL bh bC) da hml rfl rfl (rest := [(.ref bB), (.ref a0)]) rfl (lenOf oN rfl) (hd 68 rfl) rfl fun df cX dg c9 cQ => ?_
  obtain ⟨rfl, cK, aH, bY, bX, bZ⟩ := cQ
  have cL := Fr.app cY cK
  replace bg := bg.keep aH
  replace ah := ah.keep aH (oa ab)
  replace aF := aF.keep aH (oa ab)
  replace au := au.keep aH (oa ab)
  replace ax := ax.keep aH (oa ab)
  replace aq := aq.keep aH (oa ab)
  replace ae := ae.keep aH (oa ab)
  replace ag := ag.keep aH (oa ab)
  replace ai := ai.keep aH (oa ab)
  replace aj := aj.keep aH (oa ab)
  replace af := af.keep aH (oa ab)
  replace ak := ak.keep aH (oa ab)
  replace ap := ap.keep aH (oa ab)
  replace aa := aa.keep aH (oa ab)
  replace ac := ac.keep aH (oa ab)
  replace aD := aD.keep aH (oa ab)
  replace aA := aA.keep aH (oa ab)
  replace bj := bj.keep aH
  replace ao := ao.keep aH (oa bd)
  replace aB := aB.keep aH (oa bd)
  replace J0 := J0.keep aH (allS bC all0)
  replace A2 := A2.keep aH
  replace aC := aC.keep aH (oa aJ)
  replace az := az.keep aH (oa aJ)
  replace ay := ay.keep aH (oa aJ)
  replace av := av.keep aH (oa aJ)
  replace bk := bk.keep aH (oa be)
  replace bl := bl.keep aH (oa bf)
  replace bH := bH.keep aH (allS (Or.inr aN) all0)
  replace bI := bI.keep aH (allS (Or.inr aO) all0)
  replace bJ := bJ.keep aH (allS (Or.inr aP) all0)
  replace bK := bK.keep aH (allS (Or.inr aQ) all0)
  replace bL := bL.keep aH (allS (Or.inr aR) all0)
  replace bM := bM.keep aH (allS (Or.inr aS) all0)
  replace bR := bR.keep aH
  replace bN := bN.keep aH (allS (Or.inr aT) all0)
  replace bS := bS.keep aH
  replace bO := bO.keep aH (allS (Or.inr aU) all0)
  replace bT := bT.keep aH
  replace bP := bP.keep aH (allS (Or.inr aV) all0)
  replace bU := bU.keep aH
  replace bQ := bQ.keep aH (allS (Or.inr aW) all0)
  replace bV := bV.keep aH
  have cI := cH.trans aH (allS (Or.inr bG) all0)
  have cO := Nat.le_trans cx aH.1
  refine ox (putF c9 hx hZ hown (host := "") (Or.inl (hw 131 rfl)) Via.refl rfl aD bg (Or.inr ⟨(hw 132 rfl), rfl, hnm⟩) (hw 1 rfl) (ty := (.object "java/util/Map")) (by decide) rfl rfl rfl rfl (hd 69 rfl)) fun c8 dd cU db aE => ?_
  replace bg := bg.wr aE
  replace ah := ah.other aE (Or.inr (ob (Or.inr (hw 41 rfl)) (Or.inr (hw 132 rfl)) (by decide)))
  replace aF := aF.other aE (Or.inr (ob (Or.inl (hw 44 rfl)) (Or.inr (hw 132 rfl)) (by decide)))
  replace au := au.other aE (Or.inr (ob (Or.inl (hw 47 rfl)) (Or.inr (hw 132 rfl)) (by decide)))
  replace ax := ax.other aE (Or.inr (ob (Or.inr (hw 82 rfl)) (Or.inr (hw 132 rfl)) (by decide)))
  replace aq := aq.other aE (Or.inr (ob (Or.inr (hw 84 rfl)) (Or.inr (hw 132 rfl)) (by decide)))
  replace ae := ae.other aE (Or.inr (ob (Or.inr (hw 86 rfl)) (Or.inr (hw 132 rfl)) (by decide)))
  replace ag := ag.other aE (Or.inr (ob (Or.inr (hw 88 rfl)) (Or.inr (hw 132 rfl)) (by decide)))
  replace ai := ai.other aE (Or.inr (ob (Or.inr (hw 90 rfl)) (Or.inr (hw 132 rfl)) (by decide)))
  replace aj := aj.other aE (Or.inr (ob (Or.inr (hw 92 rfl)) (Or.inr (hw 132 rfl)) (by decide)))
  replace af := af.other aE (Or.inr (ob (Or.inr (hw 109 rfl)) (Or.inr (hw 132 rfl)) (by decide)))
  replace ak := ak.other aE (Or.inr (ob (Or.inr (hw 111 rfl)) (Or.inr (hw 132 rfl)) (by decide)))
  replace ap := ap.other aE (Or.inr (ob (Or.inr (hw 113 rfl)) (Or.inr (hw 132 rfl)) (by decide)))
  replace aa := aa.other aE (Or.inr (ob (Or.inr (hw 115 rfl)) (Or.inr (hw 132 rfl)) (by decide)))
  replace ac := ac.other aE (Or.inr (ob (Or.inr (hw 222 rfl)) (Or.inr (hw 132 rfl)) (by decide)))
  replace aD := aD.same aE
  replace aA := aA.other aE (Or.inr (ob (Or.inl (hw 331 rfl)) (Or.inr (hw 132 rfl)) (by decide)))
  replace bj := bj.wr aE
  replace ao := ao.other aE (Or.inl aX)
  replace aB := aB.other aE (Or.inl aX)
  replace J0 := J0.keep (Keep.of_wr aE) (allS cp all0)
  replace A2 := A2.wr aE
  replace aC := aC.other aE (Or.inl (Ne.symm (od aK)))
  replace az := az.other aE (Or.inl (Ne.symm (od aK)))
  replace ay := ay.other aE (Or.inl (Ne.symm (od aK)))
  replace av := av.other aE (Or.inl (Ne.symm (od aK)))
  replace bk := bk.other aE (Ne.symm (od bm))
  replace bl := bl.other aE (Ne.symm (od bn))
  replace bH := bH.keep (Keep.of_wr aE) (allS (Or.inl bo) all0)
  replace bI := bI.keep (Keep.of_wr aE) (allS (Or.inl aZ) all0)
  replace bJ := bJ.keep (Keep.of_wr aE) (allS (Or.inl a5) all0)
  replace bK := bK.keep (Keep.of_wr aE) (allS (Or.inl a6) all0)
  replace bL := bL.keep (Keep.of_wr aE) (allS (Or.inl a7) all0)
  replace bM := bM.keep (Keep.of_wr aE) (allS (Or.inl a8) all0)
  replace bR := bR.wr aE
  replace bN := bN.keep (Keep.of_wr aE) (allS (Or.inl a9) all0)
  replace bS := bS.wr aE
  replace bO := bO.keep (Keep.of_wr aE) (allS (Or.inl ba) all0)
  replace bT := bT.wr aE
  replace bP := bP.keep (Keep.of_wr aE) (allS (Or.inl bb) all0)
  replace bU := bU.wr aE
  replace bQ := bQ.keep (Keep.of_wr aE) (allS (Or.inl bc) all0)
  replace bV := bV.wr aE
  replace bY := bY.other aE (Or.inl (Ne.symm (od ab)))
  replace bX := bX.other aE (Or.inl (Ne.symm (od ab)))
  replace bZ := bZ.other aE (Or.inl (Ne.symm (od ab)))
  have cJ := cI.wr aE (Or.inl (List.mem_of_getElem? (i := 0) rfl))
  have cP := Nat.le_trans cO (Keep.of_wr aE).1
  have cM := Fr.snoc cU cL cp
  exact oje l Z aw hw ws a0 a1 kk h0 n0 cp aX Bd hml hZ b2 b5 b7 b9 cy cz cA cC cD ct cu cv cw bB b0 ce cg ci cj ck cm cn co cE k5 k7 c8 _ dd cU db cM cJ cP bg ah aF au ax aq ae ag ai aj af ak ap aa ac aD aA bj ao aB J0 A2 aC az ay av bk bl bH bI bJ bK bL bM bR bN bS bO bT bP bU bQ bV bY bX bZ aK bm bD bn bE bo bF aZ a5 a6 a7 a8 a9 ba bb bc ab aJ be bf br bs bt bu bv bw bx bz bA aN aO aP aQ aR aS aT aU aV aW bC bG
theorem ojg (hw : oo Z aw) (ws : List Jvm.Cond) (a0 : Addr) (a1 : Addr) (kk : ov) (h0 : Heap) (n0 : Nat) (bY : n0 ≤ a0) (aP : a1 ≠ a0) {p : Program} {e : Env} {s : State} {m : MethodId} {below : List Frame} {meth : Method} {c : Code} {dn : State} (Bd : BodyLoose p l (⟨"com/example/restate/restate/model/CensusColumns", "<init>", "(Ljava/util/Collection;)V"⟩ : MethodName) (head1 (Jvm.Cond.code (⟨"com/example/restate/restate/model/CensusColumns", "<init>", "(Ljava/util/Collection;)V"⟩ : MethodName) prog_32_method_1_code 4 none :: ws) ({ frames := 7, cells := 48, slots := 9423, locals := 97 } : Room)) prog_32_method_1_code 4 none e s m #[(.ref a0), (.ref a1)] below meth c dn) (hml0 : c.maxLocals = 4) (hZ : Z.Warmed39 s.vm) (b2 : Nat) (b5 : Nat) (b7 : Nat) (b9 : Nat) (cG : Nat) (cH : Nat) (cI : Nat) (cJ : Nat) (cK : Nat) (cz : Nat) (cA : Nat) (co : Nat) (cp : Nat) (cr : Nat) (ct : Nat) (cu : Nat) (cv : Nat) (cw : Nat) (cL : Nat) (k5 : ClassId) (k7 : ClassId) (dd : State) (cM : List Loc) (aL : Heap)
    (dt : Stand p l e ({ frames := 7, cells := 48, slots := 9423, locals := 97 } : Room) s m #[(.ref a0), (.ref a1)] below meth c dd cM 33 9358) (dI : dd.heap = aL) (dy : Fr n0 cM) (dp : Keep h0 aL [a0]) (du : n0 ≤ aL.size)
    (aO : Exa Z aL a0 "com/example/restate/restate/model/CensusColumns")
    (ag : Fld Z aL a0 "com/example/restate/restate/model/CensusColumns" "lineOffsets" "Lcom/example/restate/restate/model/LongColumn;" (.ref b2))
    (aE : Fld Z aL a0 "com/example/restate/restate/model/CensusColumns" "ids" "[C" (.ref b5))
    (av : Fld Z aL a0 "com/example/restate/restate/model/CensusColumns" "idEnds" "[I" (.ref b7))
    (ay : Fld Z aL a0 "com/example/restate/restate/model/CensusColumns" "group" "Lcom/example/restate/restate/model/CensusColumns$Codes;" (.ref b9))
    (ap : Fld Z aL a0 "com/example/restate/restate/model/CensusColumns" "pension" "Lcom/example/restate/restate/model/CensusColumns$Codes;" (.ref cG))
    (ac : Fld Z aL a0 "com/example/restate/restate/model/CensusColumns" "yearEndStatus" "Lcom/example/restate/restate/model/CensusColumns$Codes;" (.ref cH))
    (af : Fld Z aL a0 "com/example/restate/restate/model/CensusColumns" "segmentStart" "Lcom/example/restate/restate/model/CensusColumns$Codes;" (.ref cI))
    (ah : Fld Z aL a0 "com/example/restate/restate/model/CensusColumns" "segmentEnd" "Lcom/example/restate/restate/model/CensusColumns$Codes;" (.ref cJ))
    (ai : Fld Z aL a0 "com/example/restate/restate/model/CensusColumns" "birthDate" "Lcom/example/restate/restate/model/CensusColumns$Codes;" (.ref cK))
    (ae : Fld Z aL a0 "com/example/restate/restate/model/CensusColumns" "compensation" "Lcom/example/restate/restate/model/AmountColumn;" (.ref cz))
    (aj : Fld Z aL a0 "com/example/restate/restate/model/CensusColumns" "deferrals" "Lcom/example/restate/restate/model/AmountColumn;" (.ref cA))
    (ao : Fld Z aL a0 "com/example/restate/restate/model/CensusColumns" "catchUp" "Lcom/example/restate/restate/model/AmountColumn;" .null)
    (aa : Fld Z aL a0 "com/example/restate/restate/model/CensusColumns" "otherAnnualAdditions" "Lcom/example/restate/restate/model/AmountColumn;" .null)
    (ab : Fld Z aL a0 "com/example/restate/restate/model/CensusColumns" "amountColumns" "Ljava/util/List;" .null)
    (aF : Fld Z aL a0 "com/example/restate/restate/model/CensusColumns" "pay" "Ljava/util/Map;" .null)
    (aB : Fld Z aL a0 "com/example/restate/restate/model/CensusColumns" "size" "I" (.int (0 : Int32)))
    (aS : Exa Z aL a1 "java/util/ArrayList")
    (ak : Fld Z aL a1 "java/util/AbstractList" "modCount" "I" (.int (0 : Int32)))
    (aC : Fld Z aL a1 "java/util/ArrayList" "size" "I" (.int (0 : Int32)))
    (J0 : oy Z aL n0 kk)
    (A2 : Exa Z aL b2 "com/example/restate/restate/model/LongColumn")
    (aD : Fld Z aL b2 "com/example/restate/restate/model/LongColumn" "size" "I" (.int (0 : Int32)))
    (aA : Fld Z aL b2 "com/example/restate/restate/model/LongColumn" "ints" "[I" .null)
    (az : Fld Z aL b2 "com/example/restate/restate/model/LongColumn" "longs" "[J" .null)
    (ax : Fld Z aL b2 "com/example/restate/restate/model/LongColumn" "shared" "J" (.long (0 : Int64)))
    (aT : Arv Z aL b5 k5 .char (8192 : Int32) (List.replicate 8192 (.int (0 : Int32))) (.int (0 : Int32)))
    (aU : Arv Z aL b7 k7 .int (1024 : Int32) (List.replicate 1024 (.int (0 : Int32))) (.int (0 : Int32)))
    (bm : oA Z aL kk.de b9 co)
    (bn : oA Z aL kk.de cG cp)
    (bo : oA Z aL kk.de cH cr)
    (bp : oA Z aL kk.de cI ct)
    (bq : oA Z aL kk.de cJ cu)
    (br : oA Z aL kk.de cK cv)
    (bR : Exa Z aL cz "com/example/restate/restate/model/AmountColumn")
    (bs : oF Z aL 0 cz cw)
    (bS : Exa Z aL cA "com/example/restate/restate/model/AmountColumn")
    (bt : oF Z aL 0 cA cL)
    (aG : @LT.lt Nat _ a0 b2)
    (bb : @LT.lt Nat _ a0 b5)
    (bZ : @LT.lt Nat _ b2 b5)
    (bc : @LT.lt Nat _ a0 b7)
    (b0 : @LT.lt Nat _ b5 b7)
    (bd : @LT.lt Nat _ a0 b9)
    (ce : @LT.lt Nat _ b7 b9)
    (aV : @LT.lt Nat _ a0 cG)
    (aW : @LT.lt Nat _ a0 cH)
    (aX : @LT.lt Nat _ a0 cI)
    (aY : @LT.lt Nat _ a0 cJ)
    (aZ : @LT.lt Nat _ a0 cK)
    (a5 : @LT.lt Nat _ a0 cz)
    (a6 : @LT.lt Nat _ a0 cA)
    (bu : @LE.le Nat _ co cG)
    (bx : @LE.le Nat _ cp cH)
    (bB : @LE.le Nat _ cr cI)
    (bE : @LE.le Nat _ ct cJ)
    (bH : @LE.le Nat _ cu cK)
    (bK : @LE.le Nat _ cv cz)
    (bN : @LE.le Nat _ cw cA) :
    oe p.tables e below (oT s (oae Z a0 a1 kk h0 n0) ({ frames := 7, cells := 48, slots := 9423, locals := 97 } : Room).cells ({ frames := 7, cells := 48, slots := 9423, locals := 97 } : Room).slots) (dd.setTop (mkF m 121 #[.val (.ref a0), .val (.ref a1), .unset, .unset] [])) := by
  have hx := Bd.exec
  have hby := Bd.bytes
  have hlk : meth.locks = false := BodyLoose.notSynchronized Bd
  have hml : c.maxLocals = 4 := hml0
  have hown : s.vm.findClass "com/example/restate/restate/model/CensusColumns" = some m.cls := findClass_of_methodNamed Bd.named
  have hnm := (name_of_methodNamed Bd.named Bd.method).1
  have hd := oq oac hby
  refine oc dt hx (hd 55 rfl) rfl rfl ?_
  obtain ⟨dz, cR, dq, dE, aN, bT, cP, -, cN⟩ := newO dt hx hZ hown (hw 93 rfl) (hw 94 rfl) (hw 95 rfl) dI (g := (mkF m 122 #[.val (.ref a0), .val (.ref a1), .unset, .unset] [(.ref a0)])) rfl (hd 56 rfl) (by decide) (by decide)
  obtain ⟨ci, bl⟩ : ∃ z, z = aL.size := ⟨_, rfl⟩
  rw [← bl] at bT cP cN
  refine ow cN ?_
  have aq := os aO.lt bl
  have be := os aS.lt bl
  have aQ := os A2.lt bl
  have bU := os aT.lt bl
  have bW := os aU.lt bl
  have bv := om bm.hi bl
  have bz := om bn.hi bl
  have bC := om bo.hi bl
  have bF := om bp.hi bl
  have bI := om bq.hi bl
  have bL := om br.hi bl
  have bO := om bs.hi bl
  have a9 := om bt.hi bl
  have ck := om du bl
  have cx := om dp.1 bl
  replace aO := aO.ext aN
  replace ag := ag.ext aN
  replace aE := aE.ext aN
  replace av := av.ext aN
  replace ay := ay.ext aN
  replace ap := ap.ext aN
  replace ac := ac.ext aN
  replace af := af.ext aN
  replace ah := ah.ext aN
  replace ai := ai.ext aN
  replace ae := ae.ext aN
  replace aj := aj.ext aN
  replace ao := ao.ext aN
  replace aa := aa.ext aN
  replace ab := ab.ext aN
  replace aF := aF.ext aN
  replace aB := aB.ext aN
  replace aS := aS.ext aN
  replace ak := ak.ext aN
  replace aC := aC.ext aN
  replace J0 := J0.keep (op aN) all0
  replace A2 := A2.ext aN
  replace aD := aD.ext aN
  replace aA := aA.ext aN
  replace az := az.ext aN
  replace ax := ax.ext aN
  replace aT := aT.ext aN
  replace aU := aU.ext aN
  replace bm := bm.keep (op aN) all0
  replace bn := bn.keep (op aN) all0
  replace bo := bo.keep (op aN) all0
  replace bp := bp.keep (op aN) all0
  replace bq := bq.keep (op aN) all0
  replace br := br.keep (op aN) all0
  replace bR := bR.ext aN
  replace bs := bs.keep (op aN) all0
  replace bS := bS.ext aN
  replace bt := bt.keep (op aN) all0
  have cT := dp.ext aN
  have cD := Nat.le_trans du aN.1
  have bi : Fld Z cR ci "com/example/restate/restate/model/AmountColumn" "cents" "Lcom/example/restate/restate/model/LongColumn;" .null := cP (Or.inr (hw 103 rfl)) (ty := (.object "com/example/restate/restate/model/LongColumn")) (by decide)
  have bg : Fld Z cR ci "com/example/restate/restate/model/AmountColumn" "others" "Ljava/util/Map;" .null := cP (Or.inr (hw 107 rfl)) (ty := (.object "java/util/Map")) (by decide)
  have a7 : Fld Z cR ci "com/example/restate/restate/model/AmountColumn" "complete" "Z" (.int (0 : Int32)) := cP (Or.inl (hw 572 rfl)) (ty := .boolean) (by decide)
  show oe p.tables e below _ (dz.setTop (mkF m 125 #[.val (.ref a0), .val (.ref a1), .unset, .unset] [(.ref ci), (.ref a0)]))
  refine og (S' := [(.ref ci), (.ref ci), (.ref a0)])  (fun _ k => XS.dup dq.here hx rfl (hd 57 rfl) rfl rfl k) ?_
  refine oK dq hx hZ hown (host := "") (Or.inl (hw 96 rfl)) (hw 97 rfl) (hw 98 rfl) (hw 95 rfl) rfl (by decide) (oa5 l Z aw hw [] ci cR n0 cD bT bi a7 bg ck) dE hml rfl rfl (rest := [(.ref ci), (.ref a0)]) rfl (lenOf oN rfl) (hd 58 rfl) rfl fun dL dw dO dC dl => ?_
  obtain ⟨rfl, cZ, aM, dj, cg⟩ := dl
  have c9 := Fr.app dy cZ
  replace aO := aO.keep aM
  replace ag := ag.keep aM (oa aq)
  replace aE := aE.keep aM (oa aq)
  replace av := av.keep aM (oa aq)
  replace ay := ay.keep aM (oa aq)
  replace ap := ap.keep aM (oa aq)
  replace ac := ac.keep aM (oa aq)
  replace af := af.keep aM (oa aq)
  replace ah := ah.keep aM (oa aq)
  replace ai := ai.keep aM (oa aq)
  replace ae := ae.keep aM (oa aq)
  replace aj := aj.keep aM (oa aq)
  replace ao := ao.keep aM (oa aq)
  replace aa := aa.keep aM (oa aq)
  replace ab := ab.keep aM (oa aq)
  replace aF := aF.keep aM (oa aq)
  replace aB := aB.keep aM (oa aq)
  replace aS := aS.keep aM
  replace ak := ak.keep aM (oa be)
  replace aC := aC.keep aM (oa be)
  replace J0 := J0.keep aM (allS ck all0)
  replace A2 := A2.keep aM
  replace aD := aD.keep aM (oa aQ)
  replace aA := aA.keep aM (oa aQ)
  replace az := az.keep aM (oa aQ)
  replace ax := ax.keep aM (oa aQ)
  replace aT := aT.keep aM (oa bU)
  replace aU := aU.keep aM (oa bW)
  replace bm := bm.keep aM (allS (Or.inr bv) all0)
  replace bn := bn.keep aM (allS (Or.inr bz) all0)
  replace bo := bo.keep aM (allS (Or.inr bC) all0)
  replace bp := bp.keep aM (allS (Or.inr bF) all0)
  replace bq := bq.keep aM (allS (Or.inr bI) all0)
  replace br := br.keep aM (allS (Or.inr bL) all0)
  replace bR := bR.keep aM
  replace bs := bs.keep aM (allS (Or.inr bO) all0)
  replace bS := bS.keep aM
  replace bt := bt.keep aM (allS (Or.inr a9) all0)
  replace bT := bT.keep aM
  have cU := cT.trans aM (allS (Or.inr cx) all0)
  have dg := Nat.le_trans cD aM.1
  refine ox (putF dC hx hZ hown (host := "") (Or.inl (hw 112 rfl)) Via.refl rfl ao aO (Or.inr ⟨(hw 113 rfl), rfl, hnm⟩) (hw 1 rfl) (ty := (.object "com/example/restate/restate/model/AmountColumn")) (by decide) rfl rfl rfl rfl (hd 59 rfl)) fun dM dJ df dF aK => ?_
  replace aO := aO.wr aK
  replace ag := ag.other aK (Or.inr (ob (Or.inr (hw 41 rfl)) (Or.inr (hw 113 rfl)) (by decide)))
  replace aE := aE.other aK (Or.inr (ob (Or.inl (hw 44 rfl)) (Or.inr (hw 113 rfl)) (by decide)))
  replace av := av.other aK (Or.inr (ob (Or.inl (hw 47 rfl)) (Or.inr (hw 113 rfl)) (by decide)))
  replace ay := ay.other aK (Or.inr (ob (Or.inr (hw 82 rfl)) (Or.inr (hw 113 rfl)) (by decide)))
  replace ap := ap.other aK (Or.inr (ob (Or.inr (hw 84 rfl)) (Or.inr (hw 113 rfl)) (by decide)))
  replace ac := ac.other aK (Or.inr (ob (Or.inr (hw 86 rfl)) (Or.inr (hw 113 rfl)) (by decide)))
  replace af := af.other aK (Or.inr (ob (Or.inr (hw 88 rfl)) (Or.inr (hw 113 rfl)) (by decide)))
  replace ah := ah.other aK (Or.inr (ob (Or.inr (hw 90 rfl)) (Or.inr (hw 113 rfl)) (by decide)))
  replace ai := ai.other aK (Or.inr (ob (Or.inr (hw 92 rfl)) (Or.inr (hw 113 rfl)) (by decide)))
  replace ae := ae.other aK (Or.inr (ob (Or.inr (hw 109 rfl)) (Or.inr (hw 113 rfl)) (by decide)))
  replace aj := aj.other aK (Or.inr (ob (Or.inr (hw 111 rfl)) (Or.inr (hw 113 rfl)) (by decide)))
  replace ao := ao.same aK
  replace aa := aa.other aK (Or.inr (ob (Or.inr (hw 115 rfl)) (Or.inr (hw 113 rfl)) (by decide)))
  replace ab := ab.other aK (Or.inr (ob (Or.inr (hw 222 rfl)) (Or.inr (hw 113 rfl)) (by decide)))
  replace aF := aF.other aK (Or.inr (ob (Or.inr (hw 132 rfl)) (Or.inr (hw 113 rfl)) (by decide)))
  replace aB := aB.other aK (Or.inr (ob (Or.inl (hw 331 rfl)) (Or.inr (hw 113 rfl)) (by decide)))
  replace aS := aS.wr aK
  replace ak := ak.other aK (Or.inl aP)
  replace aC := aC.other aK (Or.inl aP)
  replace J0 := J0.keep (Keep.of_wr aK) (allS bY all0)
  replace A2 := A2.wr aK
  replace aD := aD.other aK (Or.inl (Ne.symm (od aG)))
  replace aA := aA.other aK (Or.inl (Ne.symm (od aG)))
  replace az := az.other aK (Or.inl (Ne.symm (od aG)))
  replace ax := ax.other aK (Or.inl (Ne.symm (od aG)))
  replace aT := aT.other aK (Ne.symm (od bb))
  replace aU := aU.other aK (Ne.symm (od bc))
  replace bm := bm.keep (Keep.of_wr aK) (allS (Or.inl bd) all0)
  replace bn := bn.keep (Keep.of_wr aK) (allS (Or.inl aV) all0)
  replace bo := bo.keep (Keep.of_wr aK) (allS (Or.inl aW) all0)
  replace bp := bp.keep (Keep.of_wr aK) (allS (Or.inl aX) all0)
  replace bq := bq.keep (Keep.of_wr aK) (allS (Or.inl aY) all0)
  replace br := br.keep (Keep.of_wr aK) (allS (Or.inl aZ) all0)
  replace bR := bR.wr aK
  replace bs := bs.keep (Keep.of_wr aK) (allS (Or.inl a5) all0)
  replace bS := bS.wr aK
  replace bt := bt.keep (Keep.of_wr aK) (allS (Or.inl a6) all0)
  replace bT := bT.wr aK
  replace cg := cg.keep (Keep.of_wr aK) (allS (Or.inl aq) all0)
  have cC := cU.wr aK (Or.inl (List.mem_of_getElem? (i := 0) rfl))
  have cE := Nat.le_trans dg (Keep.of_wr aK).1
  have da := Fr.snoc df c9 bY
  refine oc df hx (hd 60 rfl) rfl rfl ?_
  obtain ⟨dA, cS, dr, dG, aJ, cn, cQ, -, cO⟩ := newO df hx hZ hown (hw 93 rfl) (hw 94 rfl) (hw 95 rfl) dF (g := (mkF m 133 #[.val (.ref a0), .val (.ref a1), .unset, .unset] [(.ref a0)])) rfl (hd 61 rfl) (by decide) (by decide)
  obtain ⟨cj, bk⟩ : ∃ z, z = dJ.size := ⟨_, rfl⟩
  rw [← bk] at cn cQ cO
  refine ow cO ?_
  have au := os aO.lt bk
  have bf := os aS.lt bk
  have aR := os A2.lt bk
  have bV := os aT.lt bk
  have bX := os aU.lt bk
  have bw := om bm.hi bk
  have bA := om bn.hi bk
  have bD := om bo.hi bk
  have bG := om bp.hi bk
  have bJ := om bq.hi bk
  have bM := om br.hi bk
  have bP := om bs.hi bk
  have bQ := om bt.hi bk
  have ba := om cg.hi bk
  have cm := om cE bk
  have cy := om cC.1 bk
  replace aO := aO.ext aJ
  replace ag := ag.ext aJ
  replace aE := aE.ext aJ
  replace av := av.ext aJ
  replace ay := ay.ext aJ
  replace ap := ap.ext aJ
  replace ac := ac.ext aJ
  replace af := af.ext aJ
  replace ah := ah.ext aJ
  replace ai := ai.ext aJ
  replace ae := ae.ext aJ
  replace aj := aj.ext aJ
  replace ao := ao.ext aJ
  replace aa := aa.ext aJ
  replace ab := ab.ext aJ
  replace aF := aF.ext aJ
  replace aB := aB.ext aJ
  replace aS := aS.ext aJ
  replace ak := ak.ext aJ
  replace aC := aC.ext aJ
  replace J0 := J0.keep (op aJ) all0
  replace A2 := A2.ext aJ
  replace aD := aD.ext aJ
  replace aA := aA.ext aJ
  replace az := az.ext aJ
  replace ax := ax.ext aJ
  replace aT := aT.ext aJ
  replace aU := aU.ext aJ
  replace bm := bm.keep (op aJ) all0
  replace bn := bn.keep (op aJ) all0
  replace bo := bo.keep (op aJ) all0
  replace bp := bp.keep (op aJ) all0
  replace bq := bq.keep (op aJ) all0
  replace br := br.keep (op aJ) all0
  replace bR := bR.ext aJ
  replace bs := bs.keep (op aJ) all0
  replace bS := bS.ext aJ
  replace bt := bt.keep (op aJ) all0
  replace bT := bT.ext aJ
  replace cg := cg.keep (op aJ) all0
  have cV := cC.ext aJ
  have cF := Nat.le_trans cE aJ.1
  have bj : Fld Z cS cj "com/example/restate/restate/model/AmountColumn" "cents" "Lcom/example/restate/restate/model/LongColumn;" .null := cQ (Or.inr (hw 103 rfl)) (ty := (.object "com/example/restate/restate/model/LongColumn")) (by decide)
  have bh : Fld Z cS cj "com/example/restate/restate/model/AmountColumn" "others" "Ljava/util/Map;" .null := cQ (Or.inr (hw 107 rfl)) (ty := (.object "java/util/Map")) (by decide)
  have a8 : Fld Z cS cj "com/example/restate/restate/model/AmountColumn" "complete" "Z" (.int (0 : Int32)) := cQ (Or.inl (hw 572 rfl)) (ty := .boolean) (by decide)
  show oe p.tables e below _ (dA.setTop (mkF m 136 #[.val (.ref a0), .val (.ref a1), .unset, .unset] [(.ref cj), (.ref a0)]))
  refine og (S' := [(.ref cj), (.ref cj), (.ref a0)])  (fun _ k => XS.dup dr.here hx rfl (hd 62 rfl) rfl rfl k) ?_
  refine oK dr hx hZ hown (host := "") (Or.inl (hw 96 rfl)) (hw 97 rfl) (hw 98 rfl) (hw 95 rfl) rfl (by decide) (oa5 l Z aw hw [] cj cS n0 cF cn bj a8 bh cm) dG hml rfl rfl (rest := [(.ref cj), (.ref a0)]) rfl (lenOf oN rfl) (hd 63 rfl) rfl fun dN dx dP dD dm => ?_
  obtain ⟨rfl, c8, aI, dk, cY⟩ := dm
  have db := Fr.app da c8
  replace aO := aO.keep aI
  replace ag := ag.keep aI (oa au)
  replace aE := aE.keep aI (oa au)
  replace av := av.keep aI (oa au)
  replace ay := ay.keep aI (oa au)
  replace ap := ap.keep aI (oa au)
  replace ac := ac.keep aI (oa au)
  replace af := af.keep aI (oa au)
  replace ah := ah.keep aI (oa au)
  replace ai := ai.keep aI (oa au)
  replace ae := ae.keep aI (oa au)
  replace aj := aj.keep aI (oa au)
  replace ao := ao.keep aI (oa au)
  replace aa := aa.keep aI (oa au)
  replace ab := ab.keep aI (oa au)
  replace aF := aF.keep aI (oa au)
  replace aB := aB.keep aI (oa au)
  replace aS := aS.keep aI
  replace ak := ak.keep aI (oa bf)
  replace aC := aC.keep aI (oa bf)
  replace J0 := J0.keep aI (allS cm all0)
  replace A2 := A2.keep aI
  replace aD := aD.keep aI (oa aR)
  replace aA := aA.keep aI (oa aR)
  replace az := az.keep aI (oa aR)
  replace ax := ax.keep aI (oa aR)
  replace aT := aT.keep aI (oa bV)
  replace aU := aU.keep aI (oa bX)
  replace bm := bm.keep aI (allS (Or.inr bw) all0)
  replace bn := bn.keep aI (allS (Or.inr bA) all0)
  replace bo := bo.keep aI (allS (Or.inr bD) all0)
  replace bp := bp.keep aI (allS (Or.inr bG) all0)
  replace bq := bq.keep aI (allS (Or.inr bJ) all0)
  replace br := br.keep aI (allS (Or.inr bM) all0)
  replace bR := bR.keep aI
  replace bs := bs.keep aI (allS (Or.inr bP) all0)
  replace bS := bS.keep aI
  replace bt := bt.keep aI (allS (Or.inr bQ) all0)
  replace bT := bT.keep aI
  replace cg := cg.keep aI (allS (Or.inr ba) all0)
  replace cn := cn.keep aI
  have cW := cV.trans aI (allS (Or.inr cy) all0)
  have dh := Nat.le_trans cF aI.1
  refine ox (putF dD hx hZ hown (host := "") (Or.inl (hw 114 rfl)) Via.refl rfl aa aO (Or.inr ⟨(hw 115 rfl), rfl, hnm⟩) (hw 1 rfl) (ty := (.object "com/example/restate/restate/model/AmountColumn")) (by decide) rfl rfl rfl rfl (hd 64 rfl)) fun dB dK ds dH aH => ?_
  replace aO := aO.wr aH
  replace ag := ag.other aH (Or.inr (ob (Or.inr (hw 41 rfl)) (Or.inr (hw 115 rfl)) (by decide)))
  replace aE := aE.other aH (Or.inr (ob (Or.inl (hw 44 rfl)) (Or.inr (hw 115 rfl)) (by decide)))
  replace av := av.other aH (Or.inr (ob (Or.inl (hw 47 rfl)) (Or.inr (hw 115 rfl)) (by decide)))
  replace ay := ay.other aH (Or.inr (ob (Or.inr (hw 82 rfl)) (Or.inr (hw 115 rfl)) (by decide)))
  replace ap := ap.other aH (Or.inr (ob (Or.inr (hw 84 rfl)) (Or.inr (hw 115 rfl)) (by decide)))
  replace ac := ac.other aH (Or.inr (ob (Or.inr (hw 86 rfl)) (Or.inr (hw 115 rfl)) (by decide)))
  replace af := af.other aH (Or.inr (ob (Or.inr (hw 88 rfl)) (Or.inr (hw 115 rfl)) (by decide)))
  replace ah := ah.other aH (Or.inr (ob (Or.inr (hw 90 rfl)) (Or.inr (hw 115 rfl)) (by decide)))
  replace ai := ai.other aH (Or.inr (ob (Or.inr (hw 92 rfl)) (Or.inr (hw 115 rfl)) (by decide)))
  replace ae := ae.other aH (Or.inr (ob (Or.inr (hw 109 rfl)) (Or.inr (hw 115 rfl)) (by decide)))
  replace aj := aj.other aH (Or.inr (ob (Or.inr (hw 111 rfl)) (Or.inr (hw 115 rfl)) (by decide)))
  replace ao := ao.other aH (Or.inr (ob (Or.inr (hw 113 rfl)) (Or.inr (hw 115 rfl)) (by decide)))
  replace aa := aa.same aH
  replace ab := ab.other aH (Or.inr (ob (Or.inr (hw 222 rfl)) (Or.inr (hw 115 rfl)) (by decide)))
  replace aF := aF.other aH (Or.inr (ob (Or.inr (hw 132 rfl)) (Or.inr (hw 115 rfl)) (by decide)))
  replace aB := aB.other aH (Or.inr (ob (Or.inl (hw 331 rfl)) (Or.inr (hw 115 rfl)) (by decide)))
  replace aS := aS.wr aH
  replace ak := ak.other aH (Or.inl aP)
  replace aC := aC.other aH (Or.inl aP)
  replace J0 := J0.keep (Keep.of_wr aH) (allS bY all0)
  replace A2 := A2.wr aH
  replace aD := aD.other aH (Or.inl (Ne.symm (od aG)))
  replace aA := aA.other aH (Or.inl (Ne.symm (od aG)))
  replace az := az.other aH (Or.inl (Ne.symm (od aG)))
  replace ax := ax.other aH (Or.inl (Ne.symm (od aG)))
  replace aT := aT.other aH (Ne.symm (od bb))
  replace aU := aU.other aH (Ne.symm (od bc))
  replace bm := bm.keep (Keep.of_wr aH) (allS (Or.inl bd) all0)
  replace bn := bn.keep (Keep.of_wr aH) (allS (Or.inl aV) all0)
  replace bo := bo.keep (Keep.of_wr aH) (allS (Or.inl aW) all0)
  replace bp := bp.keep (Keep.of_wr aH) (allS (Or.inl aX) all0)
  replace bq := bq.keep (Keep.of_wr aH) (allS (Or.inl aY) all0)
  replace br := br.keep (Keep.of_wr aH) (allS (Or.inl aZ) all0)
  replace bR := bR.wr aH
  replace bs := bs.keep (Keep.of_wr aH) (allS (Or.inl a5) all0)
  replace bS := bS.wr aH
  replace bt := bt.keep (Keep.of_wr aH) (allS (Or.inl a6) all0)
  replace bT := bT.wr aH
  replace cg := cg.keep (Keep.of_wr aH) (allS (Or.inl aq) all0)
  replace cn := cn.wr aH
  replace cY := cY.keep (Keep.of_wr aH) (allS (Or.inl au) all0)
  have cX := cW.wr aH (Or.inl (List.mem_of_getElem? (i := 0) rfl))
  have di := Nat.le_trans dh (Keep.of_wr aH).1
  have dc := Fr.snoc ds db bY
  exact ojf l Z aw hw ws a0 a1 kk h0 n0 bY aP Bd hml hZ b2 b5 b7 b9 cG cH cI cJ cK cz cA ci cj co cp cr ct cu cv cw cL dj dk k5 k7 dB _ dK ds dH dc cX di aO ag aE av ay ap ac af ah ai ae aj ao aa ab aF aB aS ak aC J0 A2 aD aA az ax aT aU bm bn bo bp bq br bR bs bS bt bT cg cn cY aG bb bZ bc b0 bd ce aV aW aX aY aZ a5 a6 aq au bu bx bB bE bH bK bN a9 ba
theorem ojh (hw : oo Z aw) (ws : List Jvm.Cond) (a0 : Addr) (a1 : Addr) (kk : ov) (h0 : Heap) (n0 : Nat) (bM : n0 ≤ a0) (aP : a1 ≠ a0) {p : Program} {e : Env} {s : State} {m : MethodId} {below : List Frame} {meth : Method} {c : Code} {cY : State} (Bd : BodyLoose p l (⟨"com/example/restate/restate/model/CensusColumns", "<init>", "(Ljava/util/Collection;)V"⟩ : MethodName) (head1 (Jvm.Cond.code (⟨"com/example/restate/restate/model/CensusColumns", "<init>", "(Ljava/util/Collection;)V"⟩ : MethodName) prog_32_method_1_code 4 none :: ws) ({ frames := 7, cells := 48, slots := 9423, locals := 97 } : Room)) prog_32_method_1_code 4 none e s m #[(.ref a0), (.ref a1)] below meth c cY) (hml0 : c.maxLocals = 4) (hZ : Z.Warmed39 s.vm) (b2 : Nat) (b5 : Nat) (b7 : Nat) (b9 : Nat) (cn : Nat) (co : Nat) (cp : Nat) (cr : Nat) (ct : Nat) (bW : Nat) (bX : Nat) (bY : Nat) (bZ : Nat) (b0 : Nat) (cu : Nat) (k5 : ClassId) (k7 : ClassId) (cP : State) (cv : List Loc) (aL : Heap)
    (db : Stand p l e ({ frames := 7, cells := 48, slots := 9423, locals := 97 } : Room) s m #[(.ref a0), (.ref a1)] below meth c cP cv 27 9328) (dr : cP.heap = aL) (dg : Fr n0 cv) (cZ : Keep h0 aL [a0]) (dc : n0 ≤ aL.size)
    (aO : Exa Z aL a0 "com/example/restate/restate/model/CensusColumns")
    (ag : Fld Z aL a0 "com/example/restate/restate/model/CensusColumns" "lineOffsets" "Lcom/example/restate/restate/model/LongColumn;" (.ref b2))
    (aE : Fld Z aL a0 "com/example/restate/restate/model/CensusColumns" "ids" "[C" (.ref b5))
    (av : Fld Z aL a0 "com/example/restate/restate/model/CensusColumns" "idEnds" "[I" (.ref b7))
    (ay : Fld Z aL a0 "com/example/restate/restate/model/CensusColumns" "group" "Lcom/example/restate/restate/model/CensusColumns$Codes;" (.ref b9))
    (ap : Fld Z aL a0 "com/example/restate/restate/model/CensusColumns" "pension" "Lcom/example/restate/restate/model/CensusColumns$Codes;" (.ref cn))
    (ae : Fld Z aL a0 "com/example/restate/restate/model/CensusColumns" "yearEndStatus" "Lcom/example/restate/restate/model/CensusColumns$Codes;" (.ref co))
    (af : Fld Z aL a0 "com/example/restate/restate/model/CensusColumns" "segmentStart" "Lcom/example/restate/restate/model/CensusColumns$Codes;" (.ref cp))
    (ah : Fld Z aL a0 "com/example/restate/restate/model/CensusColumns" "segmentEnd" "Lcom/example/restate/restate/model/CensusColumns$Codes;" (.ref cr))
    (aj : Fld Z aL a0 "com/example/restate/restate/model/CensusColumns" "birthDate" "Lcom/example/restate/restate/model/CensusColumns$Codes;" (.ref ct))
    (ab : Fld Z aL a0 "com/example/restate/restate/model/CensusColumns" "compensation" "Lcom/example/restate/restate/model/AmountColumn;" .null)
    (ai : Fld Z aL a0 "com/example/restate/restate/model/CensusColumns" "deferrals" "Lcom/example/restate/restate/model/AmountColumn;" .null)
    (ao : Fld Z aL a0 "com/example/restate/restate/model/CensusColumns" "catchUp" "Lcom/example/restate/restate/model/AmountColumn;" .null)
    (aa : Fld Z aL a0 "com/example/restate/restate/model/CensusColumns" "otherAnnualAdditions" "Lcom/example/restate/restate/model/AmountColumn;" .null)
    (ac : Fld Z aL a0 "com/example/restate/restate/model/CensusColumns" "amountColumns" "Ljava/util/List;" .null)
    (aF : Fld Z aL a0 "com/example/restate/restate/model/CensusColumns" "pay" "Ljava/util/Map;" .null)
    (aB : Fld Z aL a0 "com/example/restate/restate/model/CensusColumns" "size" "I" (.int (0 : Int32)))
    (aS : Exa Z aL a1 "java/util/ArrayList")
    (ak : Fld Z aL a1 "java/util/AbstractList" "modCount" "I" (.int (0 : Int32)))
    (aC : Fld Z aL a1 "java/util/ArrayList" "size" "I" (.int (0 : Int32)))
    (J0 : oy Z aL n0 kk)
    (A2 : Exa Z aL b2 "com/example/restate/restate/model/LongColumn")
    (aD : Fld Z aL b2 "com/example/restate/restate/model/LongColumn" "size" "I" (.int (0 : Int32)))
    (aA : Fld Z aL b2 "com/example/restate/restate/model/LongColumn" "ints" "[I" .null)
    (az : Fld Z aL b2 "com/example/restate/restate/model/LongColumn" "longs" "[J" .null)
    (ax : Fld Z aL b2 "com/example/restate/restate/model/LongColumn" "shared" "J" (.long (0 : Int64)))
    (aT : Arv Z aL b5 k5 .char (8192 : Int32) (List.replicate 8192 (.int (0 : Int32))) (.int (0 : Int32)))
    (aU : Arv Z aL b7 k7 .int (1024 : Int32) (List.replicate 1024 (.int (0 : Int32))) (.int (0 : Int32)))
    (bi : oA Z aL kk.de b9 bW)
    (bj : oA Z aL kk.de cn bX)
    (bk : oA Z aL kk.de co bY)
    (bl : oA Z aL kk.de cp bZ)
    (bm : oA Z aL kk.de cr b0)
    (bn : oA Z aL kk.de ct cu)
    (aG : @LT.lt Nat _ a0 b2)
    (a9 : @LT.lt Nat _ a0 b5)
    (bN : @LT.lt Nat _ b2 b5)
    (ba : @LT.lt Nat _ a0 b7)
    (bO : @LT.lt Nat _ b5 b7)
    (bb : @LT.lt Nat _ a0 b9)
    (bP : @LT.lt Nat _ b7 b9)
    (aV : @LT.lt Nat _ a0 cn)
    (aW : @LT.lt Nat _ a0 co)
    (aX : @LT.lt Nat _ a0 cp)
    (aY : @LT.lt Nat _ a0 cr)
    (aZ : @LT.lt Nat _ a0 ct)
    (bp : @LE.le Nat _ bW cn)
    (bs : @LE.le Nat _ bX co)
    (bv : @LE.le Nat _ bY cp)
    (bz : @LE.le Nat _ bZ cr)
    (bC : @LE.le Nat _ b0 ct) :
    oe p.tables e below (oT s (oae Z a0 a1 kk h0 n0) ({ frames := 7, cells := 48, slots := 9423, locals := 97 } : Room).cells ({ frames := 7, cells := 48, slots := 9423, locals := 97 } : Room).slots) (cP.setTop (mkF m 99 #[.val (.ref a0), .val (.ref a1), .unset, .unset] [])) := by
  have hx := Bd.exec
  have hby := Bd.bytes
  have hlk : meth.locks = false := BodyLoose.notSynchronized Bd
  have hml : c.maxLocals = 4 := hml0
  have hown : s.vm.findClass "com/example/restate/restate/model/CensusColumns" = some m.cls := findClass_of_methodNamed Bd.named
  have hnm := (name_of_methodNamed Bd.named Bd.method).1
  have hd := oq oac hby
  refine oc db hx (hd 45 rfl) rfl rfl ?_
  obtain ⟨dh, cA, c8, dm, aN, bH, cy, -, cw⟩ := newO db hx hZ hown (hw 93 rfl) (hw 94 rfl) (hw 95 rfl) dr (g := (mkF m 100 #[.val (.ref a0), .val (.ref a1), .unset, .unset] [(.ref a0)])) rfl (hd 46 rfl) (by decide) (by decide)
  obtain ⟨bR, bG⟩ : ∃ z, z = aL.size := ⟨_, rfl⟩
  rw [← bG] at bH cy cw
  refine ow cw ?_
  have aq := os aO.lt bG
  have bc := os aS.lt bG
  have aQ := os A2.lt bG
  have bI := os aT.lt bG
  have bK := os aU.lt bG
  have bq := om bi.hi bG
  have bt := om bj.hi bG
  have bw := om bk.hi bG
  have bA := om bl.hi bG
  have bD := om bm.hi bG
  have a7 := om bn.hi bG
  have bT := om dc bG
  have ce := om cZ.1 bG
  replace aO := aO.ext aN
  replace ag := ag.ext aN
  replace aE := aE.ext aN
  replace av := av.ext aN
  replace ay := ay.ext aN
  replace ap := ap.ext aN
  replace ae := ae.ext aN
  replace af := af.ext aN
  replace ah := ah.ext aN
  replace aj := aj.ext aN
  replace ab := ab.ext aN
  replace ai := ai.ext aN
  replace ao := ao.ext aN
  replace aa := aa.ext aN
  replace ac := ac.ext aN
  replace aF := aF.ext aN
  replace aB := aB.ext aN
  replace aS := aS.ext aN
  replace ak := ak.ext aN
  replace aC := aC.ext aN
  replace J0 := J0.keep (op aN) all0
  replace A2 := A2.ext aN
  replace aD := aD.ext aN
  replace aA := aA.ext aN
  replace az := az.ext aN
  replace ax := ax.ext aN
  replace aT := aT.ext aN
  replace aU := aU.ext aN
  replace bi := bi.keep (op aN) all0
  replace bj := bj.keep (op aN) all0
  replace bk := bk.keep (op aN) all0
  replace bl := bl.keep (op aN) all0
  replace bm := bm.keep (op aN) all0
  replace bn := bn.keep (op aN) all0
  have cD := cZ.ext aN
  have cj := Nat.le_trans dc aN.1
  have bg : Fld Z cA bR "com/example/restate/restate/model/AmountColumn" "cents" "Lcom/example/restate/restate/model/LongColumn;" .null := cy (Or.inr (hw 103 rfl)) (ty := (.object "com/example/restate/restate/model/LongColumn")) (by decide)
  have be : Fld Z cA bR "com/example/restate/restate/model/AmountColumn" "others" "Ljava/util/Map;" .null := cy (Or.inr (hw 107 rfl)) (ty := (.object "java/util/Map")) (by decide)
  have a5 : Fld Z cA bR "com/example/restate/restate/model/AmountColumn" "complete" "Z" (.int (0 : Int32)) := cy (Or.inl (hw 572 rfl)) (ty := .boolean) (by decide)
  show oe p.tables e below _ (dh.setTop (mkF m 103 #[.val (.ref a0), .val (.ref a1), .unset, .unset] [(.ref bR), (.ref a0)]))
  refine og (S' := [(.ref bR), (.ref bR), (.ref a0)])  (fun _ k => XS.dup c8.here hx rfl (hd 47 rfl) rfl rfl k) ?_
  refine oK c8 hx hZ hown (host := "") (Or.inl (hw 96 rfl)) (hw 97 rfl) (hw 98 rfl) (hw 95 rfl) rfl (by decide) (oa5 l Z aw hw [] bR cA n0 cj bH bg a5 be bT) dm hml rfl rfl (rest := [(.ref bR), (.ref a0)]) rfl (lenOf oN rfl) (hd 48 rfl) rfl fun du dd dy dk cW => ?_
  obtain ⟨rfl, cJ, aM, cU, bQ⟩ := cW
  have cL := Fr.app dg cJ
  replace aO := aO.keep aM
  replace ag := ag.keep aM (oa aq)
  replace aE := aE.keep aM (oa aq)
  replace av := av.keep aM (oa aq)
  replace ay := ay.keep aM (oa aq)
  replace ap := ap.keep aM (oa aq)
  replace ae := ae.keep aM (oa aq)
  replace af := af.keep aM (oa aq)
  replace ah := ah.keep aM (oa aq)
  replace aj := aj.keep aM (oa aq)
  replace ab := ab.keep aM (oa aq)
  replace ai := ai.keep aM (oa aq)
  replace ao := ao.keep aM (oa aq)
  replace aa := aa.keep aM (oa aq)
  replace ac := ac.keep aM (oa aq)
  replace aF := aF.keep aM (oa aq)
  replace aB := aB.keep aM (oa aq)
  replace aS := aS.keep aM
  replace ak := ak.keep aM (oa bc)
  replace aC := aC.keep aM (oa bc)
  replace J0 := J0.keep aM (allS bT all0)
  replace A2 := A2.keep aM
  replace aD := aD.keep aM (oa aQ)
  replace aA := aA.keep aM (oa aQ)
  replace az := az.keep aM (oa aQ)
  replace ax := ax.keep aM (oa aQ)
  replace aT := aT.keep aM (oa bI)
  replace aU := aU.keep aM (oa bK)
  replace bi := bi.keep aM (allS (Or.inr bq) all0)
  replace bj := bj.keep aM (allS (Or.inr bt) all0)
  replace bk := bk.keep aM (allS (Or.inr bw) all0)
  replace bl := bl.keep aM (allS (Or.inr bA) all0)
  replace bm := bm.keep aM (allS (Or.inr bD) all0)
  replace bn := bn.keep aM (allS (Or.inr a7) all0)
  replace bH := bH.keep aM
  have cE := cD.trans aM (allS (Or.inr ce) all0)
  have cR := Nat.le_trans cj aM.1
  refine ox (putF dk hx hZ hown (host := "") (Or.inl (hw 108 rfl)) Via.refl rfl ab aO (Or.inr ⟨(hw 109 rfl), rfl, hnm⟩) (hw 1 rfl) (ty := (.object "com/example/restate/restate/model/AmountColumn")) (by decide) rfl rfl rfl rfl (hd 49 rfl)) fun dw ds cQ dn aK => ?_
  replace aO := aO.wr aK
  replace ag := ag.other aK (Or.inr (ob (Or.inr (hw 41 rfl)) (Or.inr (hw 109 rfl)) (by decide)))
  replace aE := aE.other aK (Or.inr (ob (Or.inl (hw 44 rfl)) (Or.inr (hw 109 rfl)) (by decide)))
  replace av := av.other aK (Or.inr (ob (Or.inl (hw 47 rfl)) (Or.inr (hw 109 rfl)) (by decide)))
  replace ay := ay.other aK (Or.inr (ob (Or.inr (hw 82 rfl)) (Or.inr (hw 109 rfl)) (by decide)))
  replace ap := ap.other aK (Or.inr (ob (Or.inr (hw 84 rfl)) (Or.inr (hw 109 rfl)) (by decide)))
  replace ae := ae.other aK (Or.inr (ob (Or.inr (hw 86 rfl)) (Or.inr (hw 109 rfl)) (by decide)))
  replace af := af.other aK (Or.inr (ob (Or.inr (hw 88 rfl)) (Or.inr (hw 109 rfl)) (by decide)))
  replace ah := ah.other aK (Or.inr (ob (Or.inr (hw 90 rfl)) (Or.inr (hw 109 rfl)) (by decide)))
  replace aj := aj.other aK (Or.inr (ob (Or.inr (hw 92 rfl)) (Or.inr (hw 109 rfl)) (by decide)))
  replace ab := ab.same aK
  replace ai := ai.other aK (Or.inr (ob (Or.inr (hw 111 rfl)) (Or.inr (hw 109 rfl)) (by decide)))
  replace ao := ao.other aK (Or.inr (ob (Or.inr (hw 113 rfl)) (Or.inr (hw 109 rfl)) (by decide)))
  replace aa := aa.other aK (Or.inr (ob (Or.inr (hw 115 rfl)) (Or.inr (hw 109 rfl)) (by decide)))
  replace ac := ac.other aK (Or.inr (ob (Or.inr (hw 222 rfl)) (Or.inr (hw 109 rfl)) (by decide)))
  replace aF := aF.other aK (Or.inr (ob (Or.inr (hw 132 rfl)) (Or.inr (hw 109 rfl)) (by decide)))
  replace aB := aB.other aK (Or.inr (ob (Or.inl (hw 331 rfl)) (Or.inr (hw 109 rfl)) (by decide)))
  replace aS := aS.wr aK
  replace ak := ak.other aK (Or.inl aP)
  replace aC := aC.other aK (Or.inl aP)
  replace J0 := J0.keep (Keep.of_wr aK) (allS bM all0)
  replace A2 := A2.wr aK
  replace aD := aD.other aK (Or.inl (Ne.symm (od aG)))
  replace aA := aA.other aK (Or.inl (Ne.symm (od aG)))
  replace az := az.other aK (Or.inl (Ne.symm (od aG)))
  replace ax := ax.other aK (Or.inl (Ne.symm (od aG)))
  replace aT := aT.other aK (Ne.symm (od a9))
  replace aU := aU.other aK (Ne.symm (od ba))
  replace bi := bi.keep (Keep.of_wr aK) (allS (Or.inl bb) all0)
  replace bj := bj.keep (Keep.of_wr aK) (allS (Or.inl aV) all0)
  replace bk := bk.keep (Keep.of_wr aK) (allS (Or.inl aW) all0)
  replace bl := bl.keep (Keep.of_wr aK) (allS (Or.inl aX) all0)
  replace bm := bm.keep (Keep.of_wr aK) (allS (Or.inl aY) all0)
  replace bn := bn.keep (Keep.of_wr aK) (allS (Or.inl aZ) all0)
  replace bH := bH.wr aK
  replace bQ := bQ.keep (Keep.of_wr aK) (allS (Or.inl aq) all0)
  have ci := cE.wr aK (Or.inl (List.mem_of_getElem? (i := 0) rfl))
  have ck := Nat.le_trans cR (Keep.of_wr aK).1
  have cM := Fr.snoc cQ cL bM
  refine oc cQ hx (hd 50 rfl) rfl rfl ?_
  obtain ⟨di, cC, c9, dp, aJ, bV, cz, -, cx⟩ := newO cQ hx hZ hown (hw 93 rfl) (hw 94 rfl) (hw 95 rfl) dn (g := (mkF m 111 #[.val (.ref a0), .val (.ref a1), .unset, .unset] [(.ref a0)])) rfl (hd 51 rfl) (by decide) (by decide)
  obtain ⟨bS, bo⟩ : ∃ z, z = ds.size := ⟨_, rfl⟩
  rw [← bo] at bV cz cx
  refine ow cx ?_
  have au := os aO.lt bo
  have bd := os aS.lt bo
  have aR := os A2.lt bo
  have bJ := os aT.lt bo
  have bL := os aU.lt bo
  have br := om bi.hi bo
  have bu := om bj.hi bo
  have bx := om bk.hi bo
  have bB := om bl.hi bo
  have bE := om bm.hi bo
  have bF := om bn.hi bo
  have a8 := om bQ.hi bo
  have bU := om ck bo
  have cg := om ci.1 bo
  replace aO := aO.ext aJ
  replace ag := ag.ext aJ
  replace aE := aE.ext aJ
  replace av := av.ext aJ
  replace ay := ay.ext aJ
  replace ap := ap.ext aJ
  replace ae := ae.ext aJ
  replace af := af.ext aJ
  replace ah := ah.ext aJ
  replace aj := aj.ext aJ
  replace ab := ab.ext aJ
  replace ai := ai.ext aJ
  replace ao := ao.ext aJ
  replace aa := aa.ext aJ
  replace ac := ac.ext aJ
  replace aF := aF.ext aJ
  replace aB := aB.ext aJ
  replace aS := aS.ext aJ
  replace ak := ak.ext aJ
  replace aC := aC.ext aJ
  replace J0 := J0.keep (op aJ) all0
  replace A2 := A2.ext aJ
  replace aD := aD.ext aJ
  replace aA := aA.ext aJ
  replace az := az.ext aJ
  replace ax := ax.ext aJ
  replace aT := aT.ext aJ
  replace aU := aU.ext aJ
  replace bi := bi.keep (op aJ) all0
  replace bj := bj.keep (op aJ) all0
  replace bk := bk.keep (op aJ) all0
  replace bl := bl.keep (op aJ) all0
  replace bm := bm.keep (op aJ) all0
  replace bn := bn.keep (op aJ) all0
  replace bH := bH.ext aJ
  replace bQ := bQ.keep (op aJ) all0
  have cF := ci.ext aJ
  have cm := Nat.le_trans ck aJ.1
  have bh : Fld Z cC bS "com/example/restate/restate/model/AmountColumn" "cents" "Lcom/example/restate/restate/model/LongColumn;" .null := cz (Or.inr (hw 103 rfl)) (ty := (.object "com/example/restate/restate/model/LongColumn")) (by decide)
  have bf : Fld Z cC bS "com/example/restate/restate/model/AmountColumn" "others" "Ljava/util/Map;" .null := cz (Or.inr (hw 107 rfl)) (ty := (.object "java/util/Map")) (by decide)
  have a6 : Fld Z cC bS "com/example/restate/restate/model/AmountColumn" "complete" "Z" (.int (0 : Int32)) := cz (Or.inl (hw 572 rfl)) (ty := .boolean) (by decide)
  show oe p.tables e below _ (di.setTop (mkF m 114 #[.val (.ref a0), .val (.ref a1), .unset, .unset] [(.ref bS), (.ref a0)]))
  refine og (S' := [(.ref bS), (.ref bS), (.ref a0)])  (fun _ k => XS.dup c9.here hx rfl (hd 52 rfl) rfl rfl k) ?_
  refine oK c9 hx hZ hown (host := "") (Or.inl (hw 96 rfl)) (hw 97 rfl) (hw 98 rfl) (hw 95 rfl) rfl (by decide) (oa5 l Z aw hw [] bS cC n0 cm bV bh a6 bf bU) dp hml rfl rfl (rest := [(.ref bS), (.ref a0)]) rfl (lenOf oN rfl) (hd 53 rfl) rfl fun dx df dz dl cX => ?_
  obtain ⟨rfl, cK, aI, cV, cI⟩ := cX
  have cN := Fr.app cM cK
  replace aO := aO.keep aI
  replace ag := ag.keep aI (oa au)
  replace aE := aE.keep aI (oa au)
  replace av := av.keep aI (oa au)
  replace ay := ay.keep aI (oa au)
  replace ap := ap.keep aI (oa au)
  replace ae := ae.keep aI (oa au)
  replace af := af.keep aI (oa au)
  replace ah := ah.keep aI (oa au)
  replace aj := aj.keep aI (oa au)
  replace ab := ab.keep aI (oa au)
  replace ai := ai.keep aI (oa au)
  replace ao := ao.keep aI (oa au)
  replace aa := aa.keep aI (oa au)
  replace ac := ac.keep aI (oa au)
  replace aF := aF.keep aI (oa au)
  replace aB := aB.keep aI (oa au)
  replace aS := aS.keep aI
  replace ak := ak.keep aI (oa bd)
  replace aC := aC.keep aI (oa bd)
  replace J0 := J0.keep aI (allS bU all0)
  replace A2 := A2.keep aI
  replace aD := aD.keep aI (oa aR)
  replace aA := aA.keep aI (oa aR)
  replace az := az.keep aI (oa aR)
  replace ax := ax.keep aI (oa aR)
  replace aT := aT.keep aI (oa bJ)
  replace aU := aU.keep aI (oa bL)
  replace bi := bi.keep aI (allS (Or.inr br) all0)
  replace bj := bj.keep aI (allS (Or.inr bu) all0)
  replace bk := bk.keep aI (allS (Or.inr bx) all0)
  replace bl := bl.keep aI (allS (Or.inr bB) all0)
  replace bm := bm.keep aI (allS (Or.inr bE) all0)
  replace bn := bn.keep aI (allS (Or.inr bF) all0)
  replace bH := bH.keep aI
  replace bQ := bQ.keep aI (allS (Or.inr a8) all0)
  replace bV := bV.keep aI
  have cG := cF.trans aI (allS (Or.inr cg) all0)
  have cS := Nat.le_trans cm aI.1
  refine ox (putF dl hx hZ hown (host := "") (Or.inl (hw 110 rfl)) Via.refl rfl ai aO (Or.inr ⟨(hw 111 rfl), rfl, hnm⟩) (hw 1 rfl) (ty := (.object "com/example/restate/restate/model/AmountColumn")) (by decide) rfl rfl rfl rfl (hd 54 rfl)) fun dj dt da dq aH => ?_
  replace aO := aO.wr aH
  replace ag := ag.other aH (Or.inr (ob (Or.inr (hw 41 rfl)) (Or.inr (hw 111 rfl)) (by decide)))
  replace aE := aE.other aH (Or.inr (ob (Or.inl (hw 44 rfl)) (Or.inr (hw 111 rfl)) (by decide)))
  replace av := av.other aH (Or.inr (ob (Or.inl (hw 47 rfl)) (Or.inr (hw 111 rfl)) (by decide)))
  replace ay := ay.other aH (Or.inr (ob (Or.inr (hw 82 rfl)) (Or.inr (hw 111 rfl)) (by decide)))
  replace ap := ap.other aH (Or.inr (ob (Or.inr (hw 84 rfl)) (Or.inr (hw 111 rfl)) (by decide)))
  replace ae := ae.other aH (Or.inr (ob (Or.inr (hw 86 rfl)) (Or.inr (hw 111 rfl)) (by decide)))
  replace af := af.other aH (Or.inr (ob (Or.inr (hw 88 rfl)) (Or.inr (hw 111 rfl)) (by decide)))
  replace ah := ah.other aH (Or.inr (ob (Or.inr (hw 90 rfl)) (Or.inr (hw 111 rfl)) (by decide)))
  replace aj := aj.other aH (Or.inr (ob (Or.inr (hw 92 rfl)) (Or.inr (hw 111 rfl)) (by decide)))
  replace ab := ab.other aH (Or.inr (ob (Or.inr (hw 109 rfl)) (Or.inr (hw 111 rfl)) (by decide)))
  replace ai := ai.same aH
  replace ao := ao.other aH (Or.inr (ob (Or.inr (hw 113 rfl)) (Or.inr (hw 111 rfl)) (by decide)))
  replace aa := aa.other aH (Or.inr (ob (Or.inr (hw 115 rfl)) (Or.inr (hw 111 rfl)) (by decide)))
  replace ac := ac.other aH (Or.inr (ob (Or.inr (hw 222 rfl)) (Or.inr (hw 111 rfl)) (by decide)))
  replace aF := aF.other aH (Or.inr (ob (Or.inr (hw 132 rfl)) (Or.inr (hw 111 rfl)) (by decide)))
  replace aB := aB.other aH (Or.inr (ob (Or.inl (hw 331 rfl)) (Or.inr (hw 111 rfl)) (by decide)))
  replace aS := aS.wr aH
  replace ak := ak.other aH (Or.inl aP)
  replace aC := aC.other aH (Or.inl aP)
  replace J0 := J0.keep (Keep.of_wr aH) (allS bM all0)
  replace A2 := A2.wr aH
  replace aD := aD.other aH (Or.inl (Ne.symm (od aG)))
  replace aA := aA.other aH (Or.inl (Ne.symm (od aG)))
  replace az := az.other aH (Or.inl (Ne.symm (od aG)))
  replace ax := ax.other aH (Or.inl (Ne.symm (od aG)))
  replace aT := aT.other aH (Ne.symm (od a9))
  replace aU := aU.other aH (Ne.symm (od ba))
  replace bi := bi.keep (Keep.of_wr aH) (allS (Or.inl bb) all0)
  replace bj := bj.keep (Keep.of_wr aH) (allS (Or.inl aV) all0)
  replace bk := bk.keep (Keep.of_wr aH) (allS (Or.inl aW) all0)
  replace bl := bl.keep (Keep.of_wr aH) (allS (Or.inl aX) all0)
  replace bm := bm.keep (Keep.of_wr aH) (allS (Or.inl aY) all0)
  replace bn := bn.keep (Keep.of_wr aH) (allS (Or.inl aZ) all0)
  replace bH := bH.wr aH
  replace bQ := bQ.keep (Keep.of_wr aH) (allS (Or.inl aq) all0)
  replace bV := bV.wr aH
  replace cI := cI.keep (Keep.of_wr aH) (allS (Or.inl au) all0)
  have cH := cG.wr aH (Or.inl (List.mem_of_getElem? (i := 0) rfl))
  have cT := Nat.le_trans cS (Keep.of_wr aH).1
  have cO := Fr.snoc da cN bM
  exact ojg l Z aw hw ws a0 a1 kk h0 n0 bM aP Bd hml hZ b2 b5 b7 b9 cn co cp cr ct bR bS bW bX bY bZ b0 cu cU cV k5 k7 dj _ dt da dq cO cH cT aO ag aE av ay ap ae af ah aj ab ai ao aa ac aF aB aS ak aC J0 A2 aD aA az ax aT aU bi bj bk bl bm bn bH bQ bV cI aG a9 bN ba bO bb bP aV aW aX aY aZ aq au bp bs bv bz bC a7 a8
theorem oji (hw : oo Z aw) (ws : List Jvm.Cond) (a0 : Addr) (a1 : Addr) (kk : ov) (h0 : Heap) (n0 : Nat) (bB : n0 ≤ a0) (aN : a1 ≠ a0) {p : Program} {e : Env} {s : State} {m : MethodId} {below : List Frame} {meth : Method} {c : Code} {cI : State} (Bd : BodyLoose p l (⟨"com/example/restate/restate/model/CensusColumns", "<init>", "(Ljava/util/Collection;)V"⟩ : MethodName) (head1 (Jvm.Cond.code (⟨"com/example/restate/restate/model/CensusColumns", "<init>", "(Ljava/util/Collection;)V"⟩ : MethodName) prog_32_method_1_code 4 none :: ws) ({ frames := 7, cells := 48, slots := 9423, locals := 97 } : Room)) prog_32_method_1_code 4 none e s m #[(.ref a0), (.ref a1)] below meth c cI) (hml0 : c.maxLocals = 4) (hZ : Z.Warmed39 s.vm) (b2 : Nat) (b5 : Nat) (b7 : Nat) (b9 : Nat) (bT : Nat) (bU : Nat) (bV : Nat) (bK : Nat) (bL : Nat) (bM : Nat) (bW : Nat) (k5 : ClassId) (k7 : ClassId) (cy : State) (bX : List Loc) (aI : Heap)
    (cP : Stand p l e ({ frames := 7, cells := 48, slots := 9423, locals := 97 } : Room) s m #[(.ref a0), (.ref a1)] below meth c cy bX 19 9292) (db : cy.heap = aI) (cT : Fr n0 bX) (cL : Keep h0 aI [a0]) (cQ : n0 ≤ aI.size)
    (aK : Exa Z aI a0 "com/example/restate/restate/model/CensusColumns")
    (ag : Fld Z aI a0 "com/example/restate/restate/model/CensusColumns" "lineOffsets" "Lcom/example/restate/restate/model/LongColumn;" (.ref b2))
    (aE : Fld Z aI a0 "com/example/restate/restate/model/CensusColumns" "ids" "[C" (.ref b5))
    (av : Fld Z aI a0 "com/example/restate/restate/model/CensusColumns" "idEnds" "[I" (.ref b7))
    (ay : Fld Z aI a0 "com/example/restate/restate/model/CensusColumns" "group" "Lcom/example/restate/restate/model/CensusColumns$Codes;" (.ref b9))
    (ap : Fld Z aI a0 "com/example/restate/restate/model/CensusColumns" "pension" "Lcom/example/restate/restate/model/CensusColumns$Codes;" (.ref bT))
    (ac : Fld Z aI a0 "com/example/restate/restate/model/CensusColumns" "yearEndStatus" "Lcom/example/restate/restate/model/CensusColumns$Codes;" (.ref bU))
    (af : Fld Z aI a0 "com/example/restate/restate/model/CensusColumns" "segmentStart" "Lcom/example/restate/restate/model/CensusColumns$Codes;" (.ref bV))
    (ah : Fld Z aI a0 "com/example/restate/restate/model/CensusColumns" "segmentEnd" "Lcom/example/restate/restate/model/CensusColumns$Codes;" .null)
    (ai : Fld Z aI a0 "com/example/restate/restate/model/CensusColumns" "birthDate" "Lcom/example/restate/restate/model/CensusColumns$Codes;" .null)
    (ae : Fld Z aI a0 "com/example/restate/restate/model/CensusColumns" "compensation" "Lcom/example/restate/restate/model/AmountColumn;" .null)
    (aj : Fld Z aI a0 "com/example/restate/restate/model/CensusColumns" "deferrals" "Lcom/example/restate/restate/model/AmountColumn;" .null)
    (ao : Fld Z aI a0 "com/example/restate/restate/model/CensusColumns" "catchUp" "Lcom/example/restate/restate/model/AmountColumn;" .null)
    (aa : Fld Z aI a0 "com/example/restate/restate/model/CensusColumns" "otherAnnualAdditions" "Lcom/example/restate/restate/model/AmountColumn;" .null)
    (ab : Fld Z aI a0 "com/example/restate/restate/model/CensusColumns" "amountColumns" "Ljava/util/List;" .null)
    (aF : Fld Z aI a0 "com/example/restate/restate/model/CensusColumns" "pay" "Ljava/util/Map;" .null)
    (aB : Fld Z aI a0 "com/example/restate/restate/model/CensusColumns" "size" "I" (.int (0 : Int32)))
    (aS : Exa Z aI a1 "java/util/ArrayList")
    (ak : Fld Z aI a1 "java/util/AbstractList" "modCount" "I" (.int (0 : Int32)))
    (aC : Fld Z aI a1 "java/util/ArrayList" "size" "I" (.int (0 : Int32)))
    (J0 : oy Z aI n0 kk)
    (A2 : Exa Z aI b2 "com/example/restate/restate/model/LongColumn")
    (aD : Fld Z aI b2 "com/example/restate/restate/model/LongColumn" "size" "I" (.int (0 : Int32)))
    (aA : Fld Z aI b2 "com/example/restate/restate/model/LongColumn" "ints" "[I" .null)
    (az : Fld Z aI b2 "com/example/restate/restate/model/LongColumn" "longs" "[J" .null)
    (ax : Fld Z aI b2 "com/example/restate/restate/model/LongColumn" "shared" "J" (.long (0 : Int64)))
    (aT : Arv Z aI b5 k5 .char (8192 : Int32) (List.replicate 8192 (.int (0 : Int32))) (.int (0 : Int32)))
    (aU : Arv Z aI b7 k7 .int (1024 : Int32) (List.replicate 1024 (.int (0 : Int32))) (.int (0 : Int32)))
    (bg : oA Z aI kk.de b9 bK)
    (bh : oA Z aI kk.de bT bL)
    (bi : oA Z aI kk.de bU bM)
    (bj : oA Z aI kk.de bV bW)
    (aG : @LT.lt Nat _ a0 b2)
    (a5 : @LT.lt Nat _ a0 b5)
    (bC : @LT.lt Nat _ b2 b5)
    (a6 : @LT.lt Nat _ a0 b7)
    (bD : @LT.lt Nat _ b5 b7)
    (a7 : @LT.lt Nat _ a0 b9)
    (bE : @LT.lt Nat _ b7 b9)
    (aV : @LT.lt Nat _ a0 bT)
    (aW : @LT.lt Nat _ a0 bU)
    (aX : @LT.lt Nat _ a0 bV)
    (bk : @LE.le Nat _ bK bT)
    (bn : @LE.le Nat _ bL bU)
    (bq : @LE.le Nat _ bM bV) :
    oe p.tables e below (oT s (oae Z a0 a1 kk h0 n0) ({ frames := 7, cells := 48, slots := 9423, locals := 97 } : Room).cells ({ frames := 7, cells := 48, slots := 9423, locals := 97 } : Room).slots) (cy.setTop (mkF m 77 #[.val (.ref a0), .val (.ref a1), .unset, .unset] [])) := by
  have hx := Bd.exec
  have hby := Bd.bytes
  have hlk : meth.locks = false := BodyLoose.notSynchronized Bd
  have hml : c.maxLocals = 4 := hml0
  have hown : s.vm.findClass "com/example/restate/restate/model/CensusColumns" = some m.cls := findClass_of_methodNamed Bd.named
  have hnm := (name_of_methodNamed Bd.named Bd.method).1
  have hd := oq oac hby
  refine oc cP hx (hd 35 rfl) rfl rfl ?_
  obtain ⟨cU, cg, cM, cZ, aO, cJ, b0, -, bY⟩ := newO cP hx hZ hown (hw 48 rfl) (hw 49 rfl) (hw 50 rfl) db (g := (mkF m 78 #[.val (.ref a0), .val (.ref a1), .unset, .unset] [(.ref a0)])) rfl (hd 36 rfl) (by decide) (by decide)
  obtain ⟨bG, bA⟩ : ∃ z, z = aI.size := ⟨_, rfl⟩
  rw [← bA] at cJ b0 bY
  refine ow bY ?_
  have aq := os aK.lt bA
  have a8 := os aS.lt bA
  have aQ := os A2.lt bA
  have bv := os aT.lt bA
  have bx := os aU.lt bA
  have bl := om bg.hi bA
  have bo := om bh.hi bA
  have br := om bi.hi bA
  have aY := om bj.hi bA
  have bI := om cQ bA
  have bN := om cL.1 bA
  replace aK := aK.ext aO
  replace ag := ag.ext aO
  replace aE := aE.ext aO
  replace av := av.ext aO
  replace ay := ay.ext aO
  replace ap := ap.ext aO
  replace ac := ac.ext aO
  replace af := af.ext aO
  replace ah := ah.ext aO
  replace ai := ai.ext aO
  replace ae := ae.ext aO
  replace aj := aj.ext aO
  replace ao := ao.ext aO
  replace aa := aa.ext aO
  replace ab := ab.ext aO
  replace aF := aF.ext aO
  replace aB := aB.ext aO
  replace aS := aS.ext aO
  replace ak := ak.ext aO
  replace aC := aC.ext aO
  replace J0 := J0.keep (op aO) all0
  replace A2 := A2.ext aO
  replace aD := aD.ext aO
  replace aA := aA.ext aO
  replace az := az.ext aO
  replace ax := ax.ext aO
  replace aT := aT.ext aO
  replace aU := aU.ext aO
  replace bg := bg.keep (op aO) all0
  replace bh := bh.keep (op aO) all0
  replace bi := bi.keep (op aO) all0
  replace bj := bj.keep (op aO) all0
  have ck := cL.ext aO
  have bQ := Nat.le_trans cQ aO.1
  have bc : Fld Z cg bG "com/example/restate/restate/model/CensusColumns$Codes" "values" "Ljava/util/List;" .null := b0 (Or.inr (hw 58 rfl)) (ty := (.object "java/util/List")) (by decide)
  have ba : Fld Z cg bG "com/example/restate/restate/model/CensusColumns$Codes" "places" "Ljava/util/Map;" .null := b0 (Or.inr (hw 76 rfl)) (ty := (.object "java/util/Map")) (by decide)
  have be : Fld Z cg bG "com/example/restate/restate/model/CensusColumns$Codes" "codes" "Lcom/example/restate/restate/model/LongColumn;" .null := b0 (Or.inr (hw 80 rfl)) (ty := (.object "com/example/restate/restate/model/LongColumn")) (by decide)
  show oe p.tables e below _ (cU.setTop (mkF m 81 #[.val (.ref a0), .val (.ref a1), .unset, .unset] [(.ref bG), (.ref a0)]))
  refine og (S' := [(.ref bG), (.ref bG), (.ref a0)])  (fun _ k => XS.dup cM.here hx rfl (hd 37 rfl) rfl rfl k) ?_
  refine oK cM hx hZ hown (host := "") (Or.inr (Or.inr (hw 51 rfl))) (hw 52 rfl) (hw 53 rfl) (hw 50 rfl) rfl (by decide) (oaI l Z aw hw [] bG kk cg n0 bQ cJ bc ba be bI J0) cZ hml rfl rfl (rest := [(.ref bG), (.ref a0)]) rfl (lenOf oN rfl) (hd 38 rfl) rfl fun df cR di cX cG => ?_
  obtain ⟨rfl, cr, aP, cE, bF⟩ := cG
  have cu := Fr.app cT cr
  replace aK := aK.keep aP
  replace ag := ag.keep aP (oa aq)
  replace aE := aE.keep aP (oa aq)
  replace av := av.keep aP (oa aq)
  replace ay := ay.keep aP (oa aq)
  replace ap := ap.keep aP (oa aq)
  replace ac := ac.keep aP (oa aq)
  replace af := af.keep aP (oa aq)
  replace ah := ah.keep aP (oa aq)
  replace ai := ai.keep aP (oa aq)
  replace ae := ae.keep aP (oa aq)
  replace aj := aj.keep aP (oa aq)
  replace ao := ao.keep aP (oa aq)
  replace aa := aa.keep aP (oa aq)
  replace ab := ab.keep aP (oa aq)
  replace aF := aF.keep aP (oa aq)
  replace aB := aB.keep aP (oa aq)
  replace aS := aS.keep aP
  replace ak := ak.keep aP (oa a8)
  replace aC := aC.keep aP (oa a8)
  replace J0 := J0.keep aP (allS bI all0)
  replace A2 := A2.keep aP
  replace aD := aD.keep aP (oa aQ)
  replace aA := aA.keep aP (oa aQ)
  replace az := az.keep aP (oa aQ)
  replace ax := ax.keep aP (oa aQ)
  replace aT := aT.keep aP (oa bv)
  replace aU := aU.keep aP (oa bx)
  replace bg := bg.keep aP (allS (Or.inr bl) all0)
  replace bh := bh.keep aP (allS (Or.inr bo) all0)
  replace bi := bi.keep aP (allS (Or.inr br) all0)
  replace bj := bj.keep aP (allS (Or.inr aY) all0)
  have cm := ck.trans aP (allS (Or.inr bN) all0)
  have cA := Nat.le_trans bQ aP.1
  refine ox (putF cX hx hZ hown (host := "") (Or.inl (hw 89 rfl)) Via.refl rfl ah aK (Or.inr ⟨(hw 90 rfl), rfl, hnm⟩) (hw 1 rfl) (ty := (.object "com/example/restate/restate/model/CensusColumns$Codes")) (by decide) rfl rfl rfl rfl (hd 39 rfl)) fun dg dc cz c8 aL => ?_
  replace aK := aK.wr aL
  replace ag := ag.other aL (Or.inr (ob (Or.inr (hw 41 rfl)) (Or.inr (hw 90 rfl)) (by decide)))
  replace aE := aE.other aL (Or.inr (ob (Or.inl (hw 44 rfl)) (Or.inr (hw 90 rfl)) (by decide)))
  replace av := av.other aL (Or.inr (ob (Or.inl (hw 47 rfl)) (Or.inr (hw 90 rfl)) (by decide)))
  replace ay := ay.other aL (Or.inr (ob (Or.inr (hw 82 rfl)) (Or.inr (hw 90 rfl)) (by decide)))
  replace ap := ap.other aL (Or.inr (ob (Or.inr (hw 84 rfl)) (Or.inr (hw 90 rfl)) (by decide)))
  replace ac := ac.other aL (Or.inr (ob (Or.inr (hw 86 rfl)) (Or.inr (hw 90 rfl)) (by decide)))
  replace af := af.other aL (Or.inr (ob (Or.inr (hw 88 rfl)) (Or.inr (hw 90 rfl)) (by decide)))
  replace ah := ah.same aL
  replace ai := ai.other aL (Or.inr (ob (Or.inr (hw 92 rfl)) (Or.inr (hw 90 rfl)) (by decide)))
  replace ae := ae.other aL (Or.inr (ob (Or.inr (hw 109 rfl)) (Or.inr (hw 90 rfl)) (by decide)))
  replace aj := aj.other aL (Or.inr (ob (Or.inr (hw 111 rfl)) (Or.inr (hw 90 rfl)) (by decide)))
  replace ao := ao.other aL (Or.inr (ob (Or.inr (hw 113 rfl)) (Or.inr (hw 90 rfl)) (by decide)))
  replace aa := aa.other aL (Or.inr (ob (Or.inr (hw 115 rfl)) (Or.inr (hw 90 rfl)) (by decide)))
  replace ab := ab.other aL (Or.inr (ob (Or.inr (hw 222 rfl)) (Or.inr (hw 90 rfl)) (by decide)))
  replace aF := aF.other aL (Or.inr (ob (Or.inr (hw 132 rfl)) (Or.inr (hw 90 rfl)) (by decide)))
  replace aB := aB.other aL (Or.inr (ob (Or.inl (hw 331 rfl)) (Or.inr (hw 90 rfl)) (by decide)))
  replace aS := aS.wr aL
  replace ak := ak.other aL (Or.inl aN)
  replace aC := aC.other aL (Or.inl aN)
  replace J0 := J0.keep (Keep.of_wr aL) (allS bB all0)
  replace A2 := A2.wr aL
  replace aD := aD.other aL (Or.inl (Ne.symm (od aG)))
  replace aA := aA.other aL (Or.inl (Ne.symm (od aG)))
  replace az := az.other aL (Or.inl (Ne.symm (od aG)))
  replace ax := ax.other aL (Or.inl (Ne.symm (od aG)))
  replace aT := aT.other aL (Ne.symm (od a5))
  replace aU := aU.other aL (Ne.symm (od a6))
  replace bg := bg.keep (Keep.of_wr aL) (allS (Or.inl a7) all0)
  replace bh := bh.keep (Keep.of_wr aL) (allS (Or.inl aV) all0)
  replace bi := bi.keep (Keep.of_wr aL) (allS (Or.inl aW) all0)
  replace bj := bj.keep (Keep.of_wr aL) (allS (Or.inl aX) all0)
  replace bF := bF.keep (Keep.of_wr aL) (allS (Or.inl aq) all0)
  have bP := cm.wr aL (Or.inl (List.mem_of_getElem? (i := 0) rfl))
  have bR := Nat.le_trans cA (Keep.of_wr aL).1
  have cv := Fr.snoc cz cu bB
  refine oc cz hx (hd 40 rfl) rfl rfl ?_
  obtain ⟨cV, ci, cN, c9, aJ, cK, ce, -, bZ⟩ := newO cz hx hZ hown (hw 48 rfl) (hw 49 rfl) (hw 50 rfl) c8 (g := (mkF m 89 #[.val (.ref a0), .val (.ref a1), .unset, .unset] [(.ref a0)])) rfl (hd 41 rfl) (by decide) (by decide)
  obtain ⟨bH, bu⟩ : ∃ z, z = dc.size := ⟨_, rfl⟩
  rw [← bu] at cK ce bZ
  refine ow bZ ?_
  have au := os aK.lt bu
  have a9 := os aS.lt bu
  have aR := os A2.lt bu
  have bw := os aT.lt bu
  have bz := os aU.lt bu
  have bm := om bg.hi bu
  have bp := om bh.hi bu
  have bs := om bi.hi bu
  have bt := om bj.hi bu
  have aZ := om bF.hi bu
  have bJ := om bR bu
  have bO := om bP.1 bu
  replace aK := aK.ext aJ
  replace ag := ag.ext aJ
  replace aE := aE.ext aJ
  replace av := av.ext aJ
  replace ay := ay.ext aJ
  replace ap := ap.ext aJ
  replace ac := ac.ext aJ
  replace af := af.ext aJ
  replace ah := ah.ext aJ
  replace ai := ai.ext aJ
  replace ae := ae.ext aJ
  replace aj := aj.ext aJ
  replace ao := ao.ext aJ
  replace aa := aa.ext aJ
  replace ab := ab.ext aJ
  replace aF := aF.ext aJ
  replace aB := aB.ext aJ
  replace aS := aS.ext aJ
  replace ak := ak.ext aJ
  replace aC := aC.ext aJ
  replace J0 := J0.keep (op aJ) all0
  replace A2 := A2.ext aJ
  replace aD := aD.ext aJ
  replace aA := aA.ext aJ
  replace az := az.ext aJ
  replace ax := ax.ext aJ
  replace aT := aT.ext aJ
  replace aU := aU.ext aJ
  replace bg := bg.keep (op aJ) all0
  replace bh := bh.keep (op aJ) all0
  replace bi := bi.keep (op aJ) all0
  replace bj := bj.keep (op aJ) all0
  replace bF := bF.keep (op aJ) all0
  have cn := bP.ext aJ
  have bS := Nat.le_trans bR aJ.1
  have bd : Fld Z ci bH "com/example/restate/restate/model/CensusColumns$Codes" "values" "Ljava/util/List;" .null := ce (Or.inr (hw 58 rfl)) (ty := (.object "java/util/List")) (by decide)
  have bb : Fld Z ci bH "com/example/restate/restate/model/CensusColumns$Codes" "places" "Ljava/util/Map;" .null := ce (Or.inr (hw 76 rfl)) (ty := (.object "java/util/Map")) (by decide)
  have bf : Fld Z ci bH "com/example/restate/restate/model/CensusColumns$Codes" "codes" "Lcom/example/restate/restate/model/LongColumn;" .null := ce (Or.inr (hw 80 rfl)) (ty := (.object "com/example/restate/restate/model/LongColumn")) (by decide)
  show oe p.tables e below _ (cV.setTop (mkF m 92 #[.val (.ref a0), .val (.ref a1), .unset, .unset] [(.ref bH), (.ref a0)]))
  refine og (S' := [(.ref bH), (.ref bH), (.ref a0)])  (fun _ k => XS.dup cN.here hx rfl (hd 42 rfl) rfl rfl k) ?_
  refine oK cN hx hZ hown (host := "") (Or.inr (Or.inr (hw 51 rfl))) (hw 52 rfl) (hw 53 rfl) (hw 50 rfl) rfl (by decide) (oaI l Z aw hw [] bH kk ci n0 bS cK bd bb bf bJ J0) c9 hml rfl rfl (rest := [(.ref bH), (.ref a0)]) rfl (lenOf oN rfl) (hd 43 rfl) rfl fun dh cS dj cY cH => ?_
  obtain ⟨rfl, ct, aM, cF, cj⟩ := cH
  have cw := Fr.app cv ct
  replace aK := aK.keep aM
  replace ag := ag.keep aM (oa au)
  replace aE := aE.keep aM (oa au)
  replace av := av.keep aM (oa au)
  replace ay := ay.keep aM (oa au)
  replace ap := ap.keep aM (oa au)
  replace ac := ac.keep aM (oa au)
  replace af := af.keep aM (oa au)
  replace ah := ah.keep aM (oa au)
  replace ai := ai.keep aM (oa au)
  replace ae := ae.keep aM (oa au)
  replace aj := aj.keep aM (oa au)
  replace ao := ao.keep aM (oa au)
  replace aa := aa.keep aM (oa au)
  replace ab := ab.keep aM (oa au)
  replace aF := aF.keep aM (oa au)
  replace aB := aB.keep aM (oa au)
  replace aS := aS.keep aM
  replace ak := ak.keep aM (oa a9)
  replace aC := aC.keep aM (oa a9)
  replace J0 := J0.keep aM (allS bJ all0)
  replace A2 := A2.keep aM
  replace aD := aD.keep aM (oa aR)
  replace aA := aA.keep aM (oa aR)
  replace az := az.keep aM (oa aR)
  replace ax := ax.keep aM (oa aR)
  replace aT := aT.keep aM (oa bw)
  replace aU := aU.keep aM (oa bz)
  replace bg := bg.keep aM (allS (Or.inr bm) all0)
  replace bh := bh.keep aM (allS (Or.inr bp) all0)
  replace bi := bi.keep aM (allS (Or.inr bs) all0)
  replace bj := bj.keep aM (allS (Or.inr bt) all0)
  replace bF := bF.keep aM (allS (Or.inr aZ) all0)
  have co := cn.trans aM (allS (Or.inr bO) all0)
  have cC := Nat.le_trans bS aM.1
  refine ox (putF cY hx hZ hown (host := "") (Or.inl (hw 91 rfl)) Via.refl rfl ai aK (Or.inr ⟨(hw 92 rfl), rfl, hnm⟩) (hw 1 rfl) (ty := (.object "com/example/restate/restate/model/CensusColumns$Codes")) (by decide) rfl rfl rfl rfl (hd 44 rfl)) fun cW dd cO da aH => ?_
  replace aK := aK.wr aH
  replace ag := ag.other aH (Or.inr (ob (Or.inr (hw 41 rfl)) (Or.inr (hw 92 rfl)) (by decide)))
  replace aE := aE.other aH (Or.inr (ob (Or.inl (hw 44 rfl)) (Or.inr (hw 92 rfl)) (by decide)))
  replace av := av.other aH (Or.inr (ob (Or.inl (hw 47 rfl)) (Or.inr (hw 92 rfl)) (by decide)))
  replace ay := ay.other aH (Or.inr (ob (Or.inr (hw 82 rfl)) (Or.inr (hw 92 rfl)) (by decide)))
  replace ap := ap.other aH (Or.inr (ob (Or.inr (hw 84 rfl)) (Or.inr (hw 92 rfl)) (by decide)))
  replace ac := ac.other aH (Or.inr (ob (Or.inr (hw 86 rfl)) (Or.inr (hw 92 rfl)) (by decide)))
  replace af := af.other aH (Or.inr (ob (Or.inr (hw 88 rfl)) (Or.inr (hw 92 rfl)) (by decide)))
  replace ah := ah.other aH (Or.inr (ob (Or.inr (hw 90 rfl)) (Or.inr (hw 92 rfl)) (by decide)))
  replace ai := ai.same aH
  replace ae := ae.other aH (Or.inr (ob (Or.inr (hw 109 rfl)) (Or.inr (hw 92 rfl)) (by decide)))
  replace aj := aj.other aH (Or.inr (ob (Or.inr (hw 111 rfl)) (Or.inr (hw 92 rfl)) (by decide)))
  replace ao := ao.other aH (Or.inr (ob (Or.inr (hw 113 rfl)) (Or.inr (hw 92 rfl)) (by decide)))
  replace aa := aa.other aH (Or.inr (ob (Or.inr (hw 115 rfl)) (Or.inr (hw 92 rfl)) (by decide)))
  replace ab := ab.other aH (Or.inr (ob (Or.inr (hw 222 rfl)) (Or.inr (hw 92 rfl)) (by decide)))
  replace aF := aF.other aH (Or.inr (ob (Or.inr (hw 132 rfl)) (Or.inr (hw 92 rfl)) (by decide)))
  replace aB := aB.other aH (Or.inr (ob (Or.inl (hw 331 rfl)) (Or.inr (hw 92 rfl)) (by decide)))
  replace aS := aS.wr aH
  replace ak := ak.other aH (Or.inl aN)
  replace aC := aC.other aH (Or.inl aN)
  replace J0 := J0.keep (Keep.of_wr aH) (allS bB all0)
  replace A2 := A2.wr aH
  replace aD := aD.other aH (Or.inl (Ne.symm (od aG)))
  replace aA := aA.other aH (Or.inl (Ne.symm (od aG)))
  replace az := az.other aH (Or.inl (Ne.symm (od aG)))
  replace ax := ax.other aH (Or.inl (Ne.symm (od aG)))
  replace aT := aT.other aH (Ne.symm (od a5))
  replace aU := aU.other aH (Ne.symm (od a6))
  replace bg := bg.keep (Keep.of_wr aH) (allS (Or.inl a7) all0)
  replace bh := bh.keep (Keep.of_wr aH) (allS (Or.inl aV) all0)
  replace bi := bi.keep (Keep.of_wr aH) (allS (Or.inl aW) all0)
  replace bj := bj.keep (Keep.of_wr aH) (allS (Or.inl aX) all0)
  replace bF := bF.keep (Keep.of_wr aH) (allS (Or.inl aq) all0)
  replace cj := cj.keep (Keep.of_wr aH) (allS (Or.inl au) all0)
  have cp := co.wr aH (Or.inl (List.mem_of_getElem? (i := 0) rfl))
  have cD := Nat.le_trans cC (Keep.of_wr aH).1
  have cx := Fr.snoc cO cw bB
  exact ojh l Z aw hw ws a0 a1 kk h0 n0 bB aN Bd hml hZ b2 b5 b7 b9 bT bU bV bG bH bK bL bM bW cE cF k5 k7 cW _ dd cO da cx cp cD aK ag aE av ay ap ac af ah ai ae aj ao aa ab aF aB aS ak aC J0 A2 aD aA az ax aT aU bg bh bi bj bF cj aG a5 bC a6 bD a7 bE aV aW aX aq au bk bn bq aY aZ
theorem ojj (hw : oo Z aw) (ws : List Jvm.Cond) (a0 : Addr) (a1 : Addr) (kk : ov) (h0 : Heap) (n0 : Nat) (bp : n0 ≤ a0) (aI : a1 ≠ a0) {p : Program} {e : Env} {s : State} {m : MethodId} {below : List Frame} {meth : Method} {c : Code} {ct : State} (Bd : BodyLoose p l (⟨"com/example/restate/restate/model/CensusColumns", "<init>", "(Ljava/util/Collection;)V"⟩ : MethodName) (head1 (Jvm.Cond.code (⟨"com/example/restate/restate/model/CensusColumns", "<init>", "(Ljava/util/Collection;)V"⟩ : MethodName) prog_32_method_1_code 4 none :: ws) ({ frames := 7, cells := 48, slots := 9423, locals := 97 } : Room)) prog_32_method_1_code 4 none e s m #[(.ref a0), (.ref a1)] below meth c ct) (hml0 : c.maxLocals = 4) (hZ : Z.Warmed39 s.vm) (b2 : Nat) (b5 : Nat) (b7 : Nat) (b9 : Nat) (bH : Nat) (bA : Nat) (bI : Nat) (k5 : ClassId) (k7 : ClassId) (cg : State) (bJ : List Loc) (aK : Heap)
    (cA : Stand p l e ({ frames := 7, cells := 48, slots := 9423, locals := 97 } : Room) s m #[(.ref a0), (.ref a1)] below meth c cg bJ 11 9256) (cP : cg.heap = aK) (cF : Fr n0 bJ) (cw : Keep h0 aK [a0]) (cC : n0 ≤ aK.size)
    (aH : Exa Z aK a0 "com/example/restate/restate/model/CensusColumns")
    (ag : Fld Z aK a0 "com/example/restate/restate/model/CensusColumns" "lineOffsets" "Lcom/example/restate/restate/model/LongColumn;" (.ref b2))
    (aE : Fld Z aK a0 "com/example/restate/restate/model/CensusColumns" "ids" "[C" (.ref b5))
    (av : Fld Z aK a0 "com/example/restate/restate/model/CensusColumns" "idEnds" "[I" (.ref b7))
    (ay : Fld Z aK a0 "com/example/restate/restate/model/CensusColumns" "group" "Lcom/example/restate/restate/model/CensusColumns$Codes;" (.ref b9))
    (ap : Fld Z aK a0 "com/example/restate/restate/model/CensusColumns" "pension" "Lcom/example/restate/restate/model/CensusColumns$Codes;" (.ref bH))
    (ab : Fld Z aK a0 "com/example/restate/restate/model/CensusColumns" "yearEndStatus" "Lcom/example/restate/restate/model/CensusColumns$Codes;" .null)
    (ac : Fld Z aK a0 "com/example/restate/restate/model/CensusColumns" "segmentStart" "Lcom/example/restate/restate/model/CensusColumns$Codes;" .null)
    (ah : Fld Z aK a0 "com/example/restate/restate/model/CensusColumns" "segmentEnd" "Lcom/example/restate/restate/model/CensusColumns$Codes;" .null)
    (ai : Fld Z aK a0 "com/example/restate/restate/model/CensusColumns" "birthDate" "Lcom/example/restate/restate/model/CensusColumns$Codes;" .null)
    (af : Fld Z aK a0 "com/example/restate/restate/model/CensusColumns" "compensation" "Lcom/example/restate/restate/model/AmountColumn;" .null)
    (aj : Fld Z aK a0 "com/example/restate/restate/model/CensusColumns" "deferrals" "Lcom/example/restate/restate/model/AmountColumn;" .null)
    (ao : Fld Z aK a0 "com/example/restate/restate/model/CensusColumns" "catchUp" "Lcom/example/restate/restate/model/AmountColumn;" .null)
    (aa : Fld Z aK a0 "com/example/restate/restate/model/CensusColumns" "otherAnnualAdditions" "Lcom/example/restate/restate/model/AmountColumn;" .null)
    (ae : Fld Z aK a0 "com/example/restate/restate/model/CensusColumns" "amountColumns" "Ljava/util/List;" .null)
    (aF : Fld Z aK a0 "com/example/restate/restate/model/CensusColumns" "pay" "Ljava/util/Map;" .null)
    (aB : Fld Z aK a0 "com/example/restate/restate/model/CensusColumns" "size" "I" (.int (0 : Int32)))
    (aS : Exa Z aK a1 "java/util/ArrayList")
    (ak : Fld Z aK a1 "java/util/AbstractList" "modCount" "I" (.int (0 : Int32)))
    (aC : Fld Z aK a1 "java/util/ArrayList" "size" "I" (.int (0 : Int32)))
    (J0 : oy Z aK n0 kk)
    (A2 : Exa Z aK b2 "com/example/restate/restate/model/LongColumn")
    (aD : Fld Z aK b2 "com/example/restate/restate/model/LongColumn" "size" "I" (.int (0 : Int32)))
    (aA : Fld Z aK b2 "com/example/restate/restate/model/LongColumn" "ints" "[I" .null)
    (az : Fld Z aK b2 "com/example/restate/restate/model/LongColumn" "longs" "[J" .null)
    (ax : Fld Z aK b2 "com/example/restate/restate/model/LongColumn" "shared" "J" (.long (0 : Int64)))
    (aT : Arv Z aK b5 k5 .char (8192 : Int32) (List.replicate 8192 (.int (0 : Int32))) (.int (0 : Int32)))
    (aU : Arv Z aK b7 k7 .int (1024 : Int32) (List.replicate 1024 (.int (0 : Int32))) (.int (0 : Int32)))
    (be : oA Z aK kk.de b9 bA)
    (bf : oA Z aK kk.de bH bI)
    (aG : @LT.lt Nat _ a0 b2)
    (aY : @LT.lt Nat _ a0 b5)
    (bq : @LT.lt Nat _ b2 b5)
    (aZ : @LT.lt Nat _ a0 b7)
    (br : @LT.lt Nat _ b5 b7)
    (a5 : @LT.lt Nat _ a0 b9)
    (bs : @LT.lt Nat _ b7 b9)
    (aV : @LT.lt Nat _ a0 bH)
    (bg : @LE.le Nat _ bA bH) :
    oe p.tables e below (oT s (oae Z a0 a1 kk h0 n0) ({ frames := 7, cells := 48, slots := 9423, locals := 97 } : Room).cells ({ frames := 7, cells := 48, slots := 9423, locals := 97 } : Room).slots) (cg.setTop (mkF m 55 #[.val (.ref a0), .val (.ref a1), .unset, .unset] [])) := by
  have hx := Bd.exec
  have hby := Bd.bytes
  have hlk : meth.locks = false := BodyLoose.notSynchronized Bd
  have hml : c.maxLocals = 4 := hml0
  have hown : s.vm.findClass "com/example/restate/restate/model/CensusColumns" = some m.cls := findClass_of_methodNamed Bd.named
  have hnm := (name_of_methodNamed Bd.named Bd.method).1
  have hd := oq oac hby
  refine oc cA hx (hd 25 rfl) rfl rfl ?_
  obtain ⟨cG, bO, cx, cL, aQ, cu, bM, -, bK⟩ := newO cA hx hZ hown (hw 48 rfl) (hw 49 rfl) (hw 50 rfl) cP (g := (mkF m 56 #[.val (.ref a0), .val (.ref a1), .unset, .unset] [(.ref a0)])) rfl (hd 26 rfl) (by decide) (by decide)
  obtain ⟨bv, bu⟩ : ∃ z, z = aK.size := ⟨_, rfl⟩
  rw [← bu] at cu bM bK
  refine ow bK ?_
  have aq := os aH.lt bu
  have a6 := os aS.lt bu
  have aL := os A2.lt bu
  have bk := os aT.lt bu
  have bm := os aU.lt bu
  have bh := om be.hi bu
  have aW := om bf.hi bu
  have bx := om cC bu
  have bB := om cw.1 bu
  replace aH := aH.ext aQ
  replace ag := ag.ext aQ
  replace aE := aE.ext aQ
  replace av := av.ext aQ
  replace ay := ay.ext aQ
  replace ap := ap.ext aQ
  replace ab := ab.ext aQ
  replace ac := ac.ext aQ
  replace ah := ah.ext aQ
  replace ai := ai.ext aQ
  replace af := af.ext aQ
  replace aj := aj.ext aQ
  replace ao := ao.ext aQ
  replace aa := aa.ext aQ
  replace ae := ae.ext aQ
  replace aF := aF.ext aQ
  replace aB := aB.ext aQ
  replace aS := aS.ext aQ
  replace ak := ak.ext aQ
  replace aC := aC.ext aQ
  replace J0 := J0.keep (op aQ) all0
  replace A2 := A2.ext aQ
  replace aD := aD.ext aQ
  replace aA := aA.ext aQ
  replace az := az.ext aQ
  replace ax := ax.ext aQ
  replace aT := aT.ext aQ
  replace aU := aU.ext aQ
  replace be := be.keep (op aQ) all0
  replace bf := bf.keep (op aQ) all0
  have bR := cw.ext aQ
  have bE := Nat.le_trans cC aQ.1
  have ba : Fld Z bO bv "com/example/restate/restate/model/CensusColumns$Codes" "values" "Ljava/util/List;" .null := bM (Or.inr (hw 58 rfl)) (ty := (.object "java/util/List")) (by decide)
  have a8 : Fld Z bO bv "com/example/restate/restate/model/CensusColumns$Codes" "places" "Ljava/util/Map;" .null := bM (Or.inr (hw 76 rfl)) (ty := (.object "java/util/Map")) (by decide)
  have bc : Fld Z bO bv "com/example/restate/restate/model/CensusColumns$Codes" "codes" "Lcom/example/restate/restate/model/LongColumn;" .null := bM (Or.inr (hw 80 rfl)) (ty := (.object "com/example/restate/restate/model/LongColumn")) (by decide)
  show oe p.tables e below _ (cG.setTop (mkF m 59 #[.val (.ref a0), .val (.ref a1), .unset, .unset] [(.ref bv), (.ref a0)]))
  refine og (S' := [(.ref bv), (.ref bv), (.ref a0)])  (fun _ k => XS.dup cx.here hx rfl (hd 27 rfl) rfl rfl k) ?_
  refine oK cx hx hZ hown (host := "") (Or.inr (Or.inr (hw 51 rfl))) (hw 52 rfl) (hw 53 rfl) (hw 50 rfl) rfl (by decide) (oaI l Z aw hw [] bv kk bO n0 bE cu ba a8 bc bx J0) cL hml rfl rfl (rest := [(.ref bv), (.ref a0)]) rfl (lenOf oN rfl) (hd 28 rfl) rfl fun cS cD cV cJ cp => ?_
  obtain ⟨rfl, bW, aR, cn, bt⟩ := cp
  have bY := Fr.app cF bW
  replace aH := aH.keep aR
  replace ag := ag.keep aR (oa aq)
  replace aE := aE.keep aR (oa aq)
  replace av := av.keep aR (oa aq)
  replace ay := ay.keep aR (oa aq)
  replace ap := ap.keep aR (oa aq)
  replace ab := ab.keep aR (oa aq)
  replace ac := ac.keep aR (oa aq)
  replace ah := ah.keep aR (oa aq)
  replace ai := ai.keep aR (oa aq)
  replace af := af.keep aR (oa aq)
  replace aj := aj.keep aR (oa aq)
  replace ao := ao.keep aR (oa aq)
  replace aa := aa.keep aR (oa aq)
  replace ae := ae.keep aR (oa aq)
  replace aF := aF.keep aR (oa aq)
  replace aB := aB.keep aR (oa aq)
  replace aS := aS.keep aR
  replace ak := ak.keep aR (oa a6)
  replace aC := aC.keep aR (oa a6)
  replace J0 := J0.keep aR (allS bx all0)
  replace A2 := A2.keep aR
  replace aD := aD.keep aR (oa aL)
  replace aA := aA.keep aR (oa aL)
  replace az := az.keep aR (oa aL)
  replace ax := ax.keep aR (oa aL)
  replace aT := aT.keep aR (oa bk)
  replace aU := aU.keep aR (oa bm)
  replace be := be.keep aR (allS (Or.inr bh) all0)
  replace bf := bf.keep aR (allS (Or.inr aW) all0)
  have bS := bR.trans aR (allS (Or.inr bB) all0)
  have cj := Nat.le_trans bE aR.1
  refine ox (putF cJ hx hZ hown (host := "") (Or.inl (hw 85 rfl)) Via.refl rfl ab aH (Or.inr ⟨(hw 86 rfl), rfl, hnm⟩) (hw 1 rfl) (ty := (.object "com/example/restate/restate/model/CensusColumns$Codes")) (by decide) rfl rfl rfl rfl (hd 29 rfl)) fun cT cQ ci cM aO => ?_
  replace aH := aH.wr aO
  replace ag := ag.other aO (Or.inr (ob (Or.inr (hw 41 rfl)) (Or.inr (hw 86 rfl)) (by decide)))
  replace aE := aE.other aO (Or.inr (ob (Or.inl (hw 44 rfl)) (Or.inr (hw 86 rfl)) (by decide)))
  replace av := av.other aO (Or.inr (ob (Or.inl (hw 47 rfl)) (Or.inr (hw 86 rfl)) (by decide)))
  replace ay := ay.other aO (Or.inr (ob (Or.inr (hw 82 rfl)) (Or.inr (hw 86 rfl)) (by decide)))
  replace ap := ap.other aO (Or.inr (ob (Or.inr (hw 84 rfl)) (Or.inr (hw 86 rfl)) (by decide)))
  replace ab := ab.same aO
  replace ac := ac.other aO (Or.inr (ob (Or.inr (hw 88 rfl)) (Or.inr (hw 86 rfl)) (by decide)))
  replace ah := ah.other aO (Or.inr (ob (Or.inr (hw 90 rfl)) (Or.inr (hw 86 rfl)) (by decide)))
  replace ai := ai.other aO (Or.inr (ob (Or.inr (hw 92 rfl)) (Or.inr (hw 86 rfl)) (by decide)))
  replace af := af.other aO (Or.inr (ob (Or.inr (hw 109 rfl)) (Or.inr (hw 86 rfl)) (by decide)))
  replace aj := aj.other aO (Or.inr (ob (Or.inr (hw 111 rfl)) (Or.inr (hw 86 rfl)) (by decide)))
  replace ao := ao.other aO (Or.inr (ob (Or.inr (hw 113 rfl)) (Or.inr (hw 86 rfl)) (by decide)))
  replace aa := aa.other aO (Or.inr (ob (Or.inr (hw 115 rfl)) (Or.inr (hw 86 rfl)) (by decide)))
  replace ae := ae.other aO (Or.inr (ob (Or.inr (hw 222 rfl)) (Or.inr (hw 86 rfl)) (by decide)))
  replace aF := aF.other aO (Or.inr (ob (Or.inr (hw 132 rfl)) (Or.inr (hw 86 rfl)) (by decide)))
  replace aB := aB.other aO (Or.inr (ob (Or.inl (hw 331 rfl)) (Or.inr (hw 86 rfl)) (by decide)))
  replace aS := aS.wr aO
  replace ak := ak.other aO (Or.inl aI)
  replace aC := aC.other aO (Or.inl aI)
  replace J0 := J0.keep (Keep.of_wr aO) (allS bp all0)
  replace A2 := A2.wr aO
  replace aD := aD.other aO (Or.inl (Ne.symm (od aG)))
  replace aA := aA.other aO (Or.inl (Ne.symm (od aG)))
  replace az := az.other aO (Or.inl (Ne.symm (od aG)))
  replace ax := ax.other aO (Or.inl (Ne.symm (od aG)))
  replace aT := aT.other aO (Ne.symm (od aY))
  replace aU := aU.other aO (Ne.symm (od aZ))
  replace be := be.keep (Keep.of_wr aO) (allS (Or.inl a5) all0)
  replace bf := bf.keep (Keep.of_wr aO) (allS (Or.inl aV) all0)
  replace bt := bt.keep (Keep.of_wr aO) (allS (Or.inl aq) all0)
  have bD := bS.wr aO (Or.inl (List.mem_of_getElem? (i := 0) rfl))
  have bF := Nat.le_trans cj (Keep.of_wr aO).1
  have bZ := Fr.snoc ci bY bp
  refine oc ci hx (hd 30 rfl) rfl rfl ?_
  obtain ⟨cH, bP, cy, cN, aN, cv, bN, -, bL⟩ := newO ci hx hZ hown (hw 48 rfl) (hw 49 rfl) (hw 50 rfl) cM (g := (mkF m 67 #[.val (.ref a0), .val (.ref a1), .unset, .unset] [(.ref a0)])) rfl (hd 31 rfl) (by decide) (by decide)
  obtain ⟨bw, bo⟩ : ∃ z, z = cQ.size := ⟨_, rfl⟩
  rw [← bo] at cv bN bL
  refine ow bL ?_
  have au := os aH.lt bo
  have a7 := os aS.lt bo
  have aM := os A2.lt bo
  have bl := os aT.lt bo
  have bn := os aU.lt bo
  have bi := om be.hi bo
  have bj := om bf.hi bo
  have aX := om bt.hi bo
  have bz := om bF bo
  have bC := om bD.1 bo
  replace aH := aH.ext aN
  replace ag := ag.ext aN
  replace aE := aE.ext aN
  replace av := av.ext aN
  replace ay := ay.ext aN
  replace ap := ap.ext aN
  replace ab := ab.ext aN
  replace ac := ac.ext aN
  replace ah := ah.ext aN
  replace ai := ai.ext aN
  replace af := af.ext aN
  replace aj := aj.ext aN
  replace ao := ao.ext aN
  replace aa := aa.ext aN
  replace ae := ae.ext aN
  replace aF := aF.ext aN
  replace aB := aB.ext aN
  replace aS := aS.ext aN
  replace ak := ak.ext aN
  replace aC := aC.ext aN
  replace J0 := J0.keep (op aN) all0
  replace A2 := A2.ext aN
  replace aD := aD.ext aN
  replace aA := aA.ext aN
  replace az := az.ext aN
  replace ax := ax.ext aN
  replace aT := aT.ext aN
  replace aU := aU.ext aN
  replace be := be.keep (op aN) all0
  replace bf := bf.keep (op aN) all0
  replace bt := bt.keep (op aN) all0
  have bT := bD.ext aN
  have bG := Nat.le_trans bF aN.1
  have bb : Fld Z bP bw "com/example/restate/restate/model/CensusColumns$Codes" "values" "Ljava/util/List;" .null := bN (Or.inr (hw 58 rfl)) (ty := (.object "java/util/List")) (by decide)
  have a9 : Fld Z bP bw "com/example/restate/restate/model/CensusColumns$Codes" "places" "Ljava/util/Map;" .null := bN (Or.inr (hw 76 rfl)) (ty := (.object "java/util/Map")) (by decide)
  have bd : Fld Z bP bw "com/example/restate/restate/model/CensusColumns$Codes" "codes" "Lcom/example/restate/restate/model/LongColumn;" .null := bN (Or.inr (hw 80 rfl)) (ty := (.object "com/example/restate/restate/model/LongColumn")) (by decide)
  show oe p.tables e below _ (cH.setTop (mkF m 70 #[.val (.ref a0), .val (.ref a1), .unset, .unset] [(.ref bw), (.ref a0)]))
  refine og (S' := [(.ref bw), (.ref bw), (.ref a0)])  (fun _ k => XS.dup cy.here hx rfl (hd 32 rfl) rfl rfl k) ?_
  refine oK cy hx hZ hown (host := "") (Or.inr (Or.inr (hw 51 rfl))) (hw 52 rfl) (hw 53 rfl) (hw 50 rfl) rfl (by decide) (oaI l Z aw hw [] bw kk bP n0 bG cv bb a9 bd bz J0) cN hml rfl rfl (rest := [(.ref bw), (.ref a0)]) rfl (lenOf oN rfl) (hd 33 rfl) rfl fun cU cE cW cK cr => ?_
  obtain ⟨rfl, bX, aP, co, bQ⟩ := cr
  have b0 := Fr.app bZ bX
  replace aH := aH.keep aP
  replace ag := ag.keep aP (oa au)
  replace aE := aE.keep aP (oa au)
  replace av := av.keep aP (oa au)
  replace ay := ay.keep aP (oa au)
  replace ap := ap.keep aP (oa au)
  replace ab := ab.keep aP (oa au)
  replace ac := ac.keep aP (oa au)
  replace ah := ah.keep aP (oa au)
  replace ai := ai.keep aP (oa au)
  replace af := af.keep aP (oa au)
  replace aj := aj.keep aP (oa au)
  replace ao := ao.keep aP (oa au)
  replace aa := aa.keep aP (oa au)
  replace ae := ae.keep aP (oa au)
  replace aF := aF.keep aP (oa au)
  replace aB := aB.keep aP (oa au)
  replace aS := aS.keep aP
  replace ak := ak.keep aP (oa a7)
  replace aC := aC.keep aP (oa a7)
  replace J0 := J0.keep aP (allS bz all0)
  replace A2 := A2.keep aP
  replace aD := aD.keep aP (oa aM)
  replace aA := aA.keep aP (oa aM)
  replace az := az.keep aP (oa aM)
  replace ax := ax.keep aP (oa aM)
  replace aT := aT.keep aP (oa bl)
  replace aU := aU.keep aP (oa bn)
  replace be := be.keep aP (allS (Or.inr bi) all0)
  replace bf := bf.keep aP (allS (Or.inr bj) all0)
  replace bt := bt.keep aP (allS (Or.inr aX) all0)
  have bU := bT.trans aP (allS (Or.inr bC) all0)
  have ck := Nat.le_trans bG aP.1
  refine ox (putF cK hx hZ hown (host := "") (Or.inl (hw 87 rfl)) Via.refl rfl ac aH (Or.inr ⟨(hw 88 rfl), rfl, hnm⟩) (hw 1 rfl) (ty := (.object "com/example/restate/restate/model/CensusColumns$Codes")) (by decide) rfl rfl rfl rfl (hd 34 rfl)) fun cI cR cz cO aJ => ?_
  replace aH := aH.wr aJ
  replace ag := ag.other aJ (Or.inr (ob (Or.inr (hw 41 rfl)) (Or.inr (hw 88 rfl)) (by decide)))
  replace aE := aE.other aJ (Or.inr (ob (Or.inl (hw 44 rfl)) (Or.inr (hw 88 rfl)) (by decide)))
  replace av := av.other aJ (Or.inr (ob (Or.inl (hw 47 rfl)) (Or.inr (hw 88 rfl)) (by decide)))
  replace ay := ay.other aJ (Or.inr (ob (Or.inr (hw 82 rfl)) (Or.inr (hw 88 rfl)) (by decide)))
  replace ap := ap.other aJ (Or.inr (ob (Or.inr (hw 84 rfl)) (Or.inr (hw 88 rfl)) (by decide)))
  replace ab := ab.other aJ (Or.inr (ob (Or.inr (hw 86 rfl)) (Or.inr (hw 88 rfl)) (by decide)))
  replace ac := ac.same aJ
  replace ah := ah.other aJ (Or.inr (ob (Or.inr (hw 90 rfl)) (Or.inr (hw 88 rfl)) (by decide)))
  replace ai := ai.other aJ (Or.inr (ob (Or.inr (hw 92 rfl)) (Or.inr (hw 88 rfl)) (by decide)))
  replace af := af.other aJ (Or.inr (ob (Or.inr (hw 109 rfl)) (Or.inr (hw 88 rfl)) (by decide)))
  replace aj := aj.other aJ (Or.inr (ob (Or.inr (hw 111 rfl)) (Or.inr (hw 88 rfl)) (by decide)))
  replace ao := ao.other aJ (Or.inr (ob (Or.inr (hw 113 rfl)) (Or.inr (hw 88 rfl)) (by decide)))
  replace aa := aa.other aJ (Or.inr (ob (Or.inr (hw 115 rfl)) (Or.inr (hw 88 rfl)) (by decide)))
  replace ae := ae.other aJ (Or.inr (ob (Or.inr (hw 222 rfl)) (Or.inr (hw 88 rfl)) (by decide)))
  replace aF := aF.other aJ (Or.inr (ob (Or.inr (hw 132 rfl)) (Or.inr (hw 88 rfl)) (by decide)))
  replace aB := aB.other aJ (Or.inr (ob (Or.inl (hw 331 rfl)) (Or.inr (hw 88 rfl)) (by decide)))
  replace aS := aS.wr aJ
  replace ak := ak.other aJ (Or.inl aI)
  replace aC := aC.other aJ (Or.inl aI)
  replace J0 := J0.keep (Keep.of_wr aJ) (allS bp all0)
  replace A2 := A2.wr aJ
  replace aD := aD.other aJ (Or.inl (Ne.symm (od aG)))
  replace aA := aA.other aJ (Or.inl (Ne.symm (od aG)))
  replace az := az.other aJ (Or.inl (Ne.symm (od aG)))
  replace ax := ax.other aJ (Or.inl (Ne.symm (od aG)))
  replace aT := aT.other aJ (Ne.symm (od aY))
  replace aU := aU.other aJ (Ne.symm (od aZ))
  replace be := be.keep (Keep.of_wr aJ) (allS (Or.inl a5) all0)
  replace bf := bf.keep (Keep.of_wr aJ) (allS (Or.inl aV) all0)
  replace bt := bt.keep (Keep.of_wr aJ) (allS (Or.inl aq) all0)
  replace bQ := bQ.keep (Keep.of_wr aJ) (allS (Or.inl au) all0)
  have bV := bU.wr aJ (Or.inl (List.mem_of_getElem? (i := 0) rfl))
  have cm := Nat.le_trans ck (Keep.of_wr aJ).1
  have ce := Fr.snoc cz b0 bp
  exact oji l Z aw hw ws a0 a1 kk h0 n0 bp aI Bd hml hZ b2 b5 b7 b9 bH bv bw bA bI cn co k5 k7 cI _ cR cz cO ce bV cm aH ag aE av ay ap ab ac ah ai af aj ao aa ae aF aB aS ak aC J0 A2 aD aA az ax aT aU be bf bt bQ aG aY bq aZ br a5 bs aV aq au bg aW aX
theorem ojk (hw : oo Z aw) (ws : List Jvm.Cond) (a0 : Addr) (a1 : Addr) (kk : ov) (h0 : Heap) (n0 : Nat) (bd : n0 ≤ a0) (aI : a1 ≠ a0) {p : Program} {e : Env} {s : State} {m : MethodId} {below : List Frame} {meth : Method} {c : Code} {bQ : State} (Bd : BodyLoose p l (⟨"com/example/restate/restate/model/CensusColumns", "<init>", "(Ljava/util/Collection;)V"⟩ : MethodName) (head1 (Jvm.Cond.code (⟨"com/example/restate/restate/model/CensusColumns", "<init>", "(Ljava/util/Collection;)V"⟩ : MethodName) prog_32_method_1_code 4 none :: ws) ({ frames := 7, cells := 48, slots := 9423, locals := 97 } : Room)) prog_32_method_1_code 4 none e s m #[(.ref a0), (.ref a1)] below meth c bQ) (hml0 : c.maxLocals = 4) (hZ : Z.Warmed39 s.vm) (b2 : Nat) (b5 : Nat) (b7 : Nat) (k5 : ClassId) (k7 : ClassId) (bH : State) (bq : List Loc) (aL : Heap)
    (bV : Stand p l e ({ frames := 7, cells := 48, slots := 9423, locals := 97 } : Room) s m #[(.ref a0), (.ref a1)] below meth c bH bq 3 9220) (cr : bH.heap = aL) (cg : Fr n0 bq) (bS : Keep h0 aL [a0]) (bW : n0 ≤ aL.size)
    (aH : Exa Z aL a0 "com/example/restate/restate/model/CensusColumns")
    (ag : Fld Z aL a0 "com/example/restate/restate/model/CensusColumns" "lineOffsets" "Lcom/example/restate/restate/model/LongColumn;" (.ref b2))
    (aE : Fld Z aL a0 "com/example/restate/restate/model/CensusColumns" "ids" "[C" (.ref b5))
    (au : Fld Z aL a0 "com/example/restate/restate/model/CensusColumns" "idEnds" "[I" (.ref b7))
    (ax : Fld Z aL a0 "com/example/restate/restate/model/CensusColumns" "group" "Lcom/example/restate/restate/model/CensusColumns$Codes;" .null)
    (ao : Fld Z aL a0 "com/example/restate/restate/model/CensusColumns" "pension" "Lcom/example/restate/restate/model/CensusColumns$Codes;" .null)
    (ac : Fld Z aL a0 "com/example/restate/restate/model/CensusColumns" "yearEndStatus" "Lcom/example/restate/restate/model/CensusColumns$Codes;" .null)
    (af : Fld Z aL a0 "com/example/restate/restate/model/CensusColumns" "segmentStart" "Lcom/example/restate/restate/model/CensusColumns$Codes;" .null)
    (ah : Fld Z aL a0 "com/example/restate/restate/model/CensusColumns" "segmentEnd" "Lcom/example/restate/restate/model/CensusColumns$Codes;" .null)
    (ai : Fld Z aL a0 "com/example/restate/restate/model/CensusColumns" "birthDate" "Lcom/example/restate/restate/model/CensusColumns$Codes;" .null)
    (ae : Fld Z aL a0 "com/example/restate/restate/model/CensusColumns" "compensation" "Lcom/example/restate/restate/model/AmountColumn;" .null)
    (aj : Fld Z aL a0 "com/example/restate/restate/model/CensusColumns" "deferrals" "Lcom/example/restate/restate/model/AmountColumn;" .null)
    (ap : Fld Z aL a0 "com/example/restate/restate/model/CensusColumns" "catchUp" "Lcom/example/restate/restate/model/AmountColumn;" .null)
    (aa : Fld Z aL a0 "com/example/restate/restate/model/CensusColumns" "otherAnnualAdditions" "Lcom/example/restate/restate/model/AmountColumn;" .null)
    (ab : Fld Z aL a0 "com/example/restate/restate/model/CensusColumns" "amountColumns" "Ljava/util/List;" .null)
    (aF : Fld Z aL a0 "com/example/restate/restate/model/CensusColumns" "pay" "Ljava/util/Map;" .null)
    (aB : Fld Z aL a0 "com/example/restate/restate/model/CensusColumns" "size" "I" (.int (0 : Int32)))
    (aN : Exa Z aL a1 "java/util/ArrayList")
    (ak : Fld Z aL a1 "java/util/AbstractList" "modCount" "I" (.int (0 : Int32)))
    (aC : Fld Z aL a1 "java/util/ArrayList" "size" "I" (.int (0 : Int32)))
    (J0 : oy Z aL n0 kk)
    (A2 : Exa Z aL b2 "com/example/restate/restate/model/LongColumn")
    (aD : Fld Z aL b2 "com/example/restate/restate/model/LongColumn" "size" "I" (.int (0 : Int32)))
    (aA : Fld Z aL b2 "com/example/restate/restate/model/LongColumn" "ints" "[I" .null)
    (az : Fld Z aL b2 "com/example/restate/restate/model/LongColumn" "longs" "[J" .null)
    (av : Fld Z aL b2 "com/example/restate/restate/model/LongColumn" "shared" "J" (.long (0 : Int64)))
    (aO : Arv Z aL b5 k5 .char (8192 : Int32) (List.replicate 8192 (.int (0 : Int32))) (.int (0 : Int32)))
    (aP : Arv Z aL b7 k7 .int (1024 : Int32) (List.replicate 1024 (.int (0 : Int32))) (.int (0 : Int32)))
    (aG : @LT.lt Nat _ a0 b2)
    (aV : @LT.lt Nat _ a0 b5)
    (be : @LT.lt Nat _ b2 b5)
    (aW : @LT.lt Nat _ a0 b7)
    (bf : @LT.lt Nat _ b5 b7) :
    oe p.tables e below (oT s (oae Z a0 a1 kk h0 n0) ({ frames := 7, cells := 48, slots := 9423, locals := 97 } : Room).cells ({ frames := 7, cells := 48, slots := 9423, locals := 97 } : Room).slots) (bH.setTop (mkF m 33 #[.val (.ref a0), .val (.ref a1), .unset, .unset] [])) := by
  have hx := Bd.exec
  have hby := Bd.bytes
  have hlk : meth.locks = false := BodyLoose.notSynchronized Bd
  have hml : c.maxLocals = 4 := hml0
  have hown : s.vm.findClass "com/example/restate/restate/model/CensusColumns" = some m.cls := findClass_of_methodNamed Bd.named
  have hnm := (name_of_methodNamed Bd.named Bd.method).1
  have hd := oq oac hby
  refine oc bV hx (hd 15 rfl) rfl rfl ?_
  obtain ⟨T9, h9, X9, e9, E9, A9, D9, -, bY⟩ := newO bV hx hZ hown (hw 48 rfl) (hw 49 rfl) (hw 50 rfl) cr (g := (mkF m 34 #[.val (.ref a0), .val (.ref a1), .unset, .unset] [(.ref a0)])) rfl (hd 16 rfl) (by decide) (by decide)
  obtain ⟨b9, g9⟩ : ∃ z, z = aL.size := ⟨_, rfl⟩
  rw [← g9] at A9 D9 bY
  refine ow bY ?_
  have ay := os aH.lt g9
  have a8 := os aN.lt g9
  have aT := os A2.lt g9
  have bg := os aO.lt g9
  have a9 := os aP.lt g9
  have bp := om bW g9
  have bs := om bS.1 g9
  replace aH := aH.ext E9
  replace ag := ag.ext E9
  replace aE := aE.ext E9
  replace au := au.ext E9
  replace ax := ax.ext E9
  replace ao := ao.ext E9
  replace ac := ac.ext E9
  replace af := af.ext E9
  replace ah := ah.ext E9
  replace ai := ai.ext E9
  replace ae := ae.ext E9
  replace aj := aj.ext E9
  replace ap := ap.ext E9
  replace aa := aa.ext E9
  replace ab := ab.ext E9
  replace aF := aF.ext E9
  replace aB := aB.ext E9
  replace aN := aN.ext E9
  replace ak := ak.ext E9
  replace aC := aC.ext E9
  replace J0 := J0.keep (op E9) all0
  replace A2 := A2.ext E9
  replace aD := aD.ext E9
  replace aA := aA.ext E9
  replace az := az.ext E9
  replace av := av.ext E9
  replace aO := aO.ext E9
  replace aP := aP.ext E9
  have bZ := bS.ext E9
  have bX := Nat.le_trans bW E9.1
  have a7 : Fld Z h9 b9 "com/example/restate/restate/model/CensusColumns$Codes" "values" "Ljava/util/List;" .null := D9 (Or.inr (hw 58 rfl)) (ty := (.object "java/util/List")) (by decide)
  have a6 : Fld Z h9 b9 "com/example/restate/restate/model/CensusColumns$Codes" "places" "Ljava/util/Map;" .null := D9 (Or.inr (hw 76 rfl)) (ty := (.object "java/util/Map")) (by decide)
  have ba : Fld Z h9 b9 "com/example/restate/restate/model/CensusColumns$Codes" "codes" "Lcom/example/restate/restate/model/LongColumn;" .null := D9 (Or.inr (hw 80 rfl)) (ty := (.object "com/example/restate/restate/model/LongColumn")) (by decide)
  show oe p.tables e below _ (T9.setTop (mkF m 37 #[.val (.ref a0), .val (.ref a1), .unset, .unset] [(.ref b9), (.ref a0)]))
  refine og (S' := [(.ref b9), (.ref b9), (.ref a0)])  (fun _ k => XS.dup X9.here hx rfl (hd 17 rfl) rfl rfl k) ?_
  refine oK X9 hx hZ hown (host := "") (Or.inr (Or.inr (hw 51 rfl))) (hw 52 rfl) (hw 53 rfl) (hw 50 rfl) rfl (by decide) (oaI l Z aw hw [] b9 kk h9 n0 bX A9 a7 a6 ba bp J0) e9 hml rfl rfl (rest := [(.ref b9), (.ref a0)]) rfl (lenOf oN rfl) (hd 18 rfl) rfl fun cv b0 cy ck bO => ?_
  obtain ⟨rfl, bB, aS, bM, bh⟩ := bO
  have bD := Fr.app cg bB
  replace aH := aH.keep aS
  replace ag := ag.keep aS (oa ay)
  replace aE := aE.keep aS (oa ay)
  replace au := au.keep aS (oa ay)
  replace ax := ax.keep aS (oa ay)
  replace ao := ao.keep aS (oa ay)
  replace ac := ac.keep aS (oa ay)
  replace af := af.keep aS (oa ay)
  replace ah := ah.keep aS (oa ay)
  replace ai := ai.keep aS (oa ay)
  replace ae := ae.keep aS (oa ay)
  replace aj := aj.keep aS (oa ay)
  replace ap := ap.keep aS (oa ay)
  replace aa := aa.keep aS (oa ay)
  replace ab := ab.keep aS (oa ay)
  replace aF := aF.keep aS (oa ay)
  replace aB := aB.keep aS (oa ay)
  replace aN := aN.keep aS
  replace ak := ak.keep aS (oa a8)
  replace aC := aC.keep aS (oa a8)
  replace J0 := J0.keep aS (allS bp all0)
  replace A2 := A2.keep aS
  replace aD := aD.keep aS (oa aT)
  replace aA := aA.keep aS (oa aT)
  replace az := az.keep aS (oa aT)
  replace av := av.keep aS (oa aT)
  replace aO := aO.keep aS (oa bg)
  replace aP := aP.keep aS (oa a9)
  have bw := bZ.trans aS (allS (Or.inr bs) all0)
  have bJ := Nat.le_trans bX aS.1
  refine ox (putF ck hx hZ hown (host := "") (Or.inl (hw 81 rfl)) Via.refl rfl ax aH (Or.inr ⟨(hw 82 rfl), rfl, hnm⟩) (hw 1 rfl) (ty := (.object "com/example/restate/restate/model/CensusColumns$Codes")) (by decide) rfl rfl rfl rfl (hd 19 rfl)) fun cw ct bI cn aQ => ?_
  replace aH := aH.wr aQ
  replace ag := ag.other aQ (Or.inr (ob (Or.inr (hw 41 rfl)) (Or.inr (hw 82 rfl)) (by decide)))
  replace aE := aE.other aQ (Or.inr (ob (Or.inl (hw 44 rfl)) (Or.inr (hw 82 rfl)) (by decide)))
  replace au := au.other aQ (Or.inr (ob (Or.inl (hw 47 rfl)) (Or.inr (hw 82 rfl)) (by decide)))
  replace ax := ax.same aQ
  replace ao := ao.other aQ (Or.inr (ob (Or.inr (hw 84 rfl)) (Or.inr (hw 82 rfl)) (by decide)))
  replace ac := ac.other aQ (Or.inr (ob (Or.inr (hw 86 rfl)) (Or.inr (hw 82 rfl)) (by decide)))
  replace af := af.other aQ (Or.inr (ob (Or.inr (hw 88 rfl)) (Or.inr (hw 82 rfl)) (by decide)))
  replace ah := ah.other aQ (Or.inr (ob (Or.inr (hw 90 rfl)) (Or.inr (hw 82 rfl)) (by decide)))
  replace ai := ai.other aQ (Or.inr (ob (Or.inr (hw 92 rfl)) (Or.inr (hw 82 rfl)) (by decide)))
  replace ae := ae.other aQ (Or.inr (ob (Or.inr (hw 109 rfl)) (Or.inr (hw 82 rfl)) (by decide)))
  replace aj := aj.other aQ (Or.inr (ob (Or.inr (hw 111 rfl)) (Or.inr (hw 82 rfl)) (by decide)))
  replace ap := ap.other aQ (Or.inr (ob (Or.inr (hw 113 rfl)) (Or.inr (hw 82 rfl)) (by decide)))
  replace aa := aa.other aQ (Or.inr (ob (Or.inr (hw 115 rfl)) (Or.inr (hw 82 rfl)) (by decide)))
  replace ab := ab.other aQ (Or.inr (ob (Or.inr (hw 222 rfl)) (Or.inr (hw 82 rfl)) (by decide)))
  replace aF := aF.other aQ (Or.inr (ob (Or.inr (hw 132 rfl)) (Or.inr (hw 82 rfl)) (by decide)))
  replace aB := aB.other aQ (Or.inr (ob (Or.inl (hw 331 rfl)) (Or.inr (hw 82 rfl)) (by decide)))
  replace aN := aN.wr aQ
  replace ak := ak.other aQ (Or.inl aI)
  replace aC := aC.other aQ (Or.inl aI)
  replace J0 := J0.keep (Keep.of_wr aQ) (allS bd all0)
  replace A2 := A2.wr aQ
  replace aD := aD.other aQ (Or.inl (Ne.symm (od aG)))
  replace aA := aA.other aQ (Or.inl (Ne.symm (od aG)))
  replace az := az.other aQ (Or.inl (Ne.symm (od aG)))
  replace av := av.other aQ (Or.inl (Ne.symm (od aG)))
  replace aO := aO.other aQ (Ne.symm (od aV))
  replace aP := aP.other aQ (Ne.symm (od aW))
  replace bh := bh.keep (Keep.of_wr aQ) (allS (Or.inl ay) all0)
  have bm := bw.wr aQ (Or.inl (List.mem_of_getElem? (i := 0) rfl))
  have bn := Nat.le_trans bJ (Keep.of_wr aQ).1
  have bE := Fr.snoc bI bD bd
  refine oc bI hx (hd 20 rfl) rfl rfl ?_
  obtain ⟨ci, bu, bT, co, aM, bR, bt, -, br⟩ := newO bI hx hZ hown (hw 48 rfl) (hw 49 rfl) (hw 50 rfl) cn (g := (mkF m 45 #[.val (.ref a0), .val (.ref a1), .unset, .unset] [(.ref a0)])) rfl (hd 21 rfl) (by decide) (by decide)
  obtain ⟨bi, bj⟩ : ∃ z, z = ct.size := ⟨_, rfl⟩
  rw [← bj] at bR bt br
  refine ow br ?_
  have aq := os aH.lt bj
  have aX := os aN.lt bj
  have aJ := os A2.lt bj
  have bb := os aO.lt bj
  have bc := os aP.lt bj
  have aU := om bh.hi bj
  have bk := om bn bj
  have bl := om bm.1 bj
  replace aH := aH.ext aM
  replace ag := ag.ext aM
  replace aE := aE.ext aM
  replace au := au.ext aM
  replace ax := ax.ext aM
  replace ao := ao.ext aM
  replace ac := ac.ext aM
  replace af := af.ext aM
  replace ah := ah.ext aM
  replace ai := ai.ext aM
  replace ae := ae.ext aM
  replace aj := aj.ext aM
  replace ap := ap.ext aM
  replace aa := aa.ext aM
  replace ab := ab.ext aM
  replace aF := aF.ext aM
  replace aB := aB.ext aM
  replace aN := aN.ext aM
  replace ak := ak.ext aM
  replace aC := aC.ext aM
  replace J0 := J0.keep (op aM) all0
  replace A2 := A2.ext aM
  replace aD := aD.ext aM
  replace aA := aA.ext aM
  replace az := az.ext aM
  replace av := av.ext aM
  replace aO := aO.ext aM
  replace aP := aP.ext aM
  replace bh := bh.keep (op aM) all0
  have bx := bm.ext aM
  have bo := Nat.le_trans bn aM.1
  have aZ : Fld Z bu bi "com/example/restate/restate/model/CensusColumns$Codes" "values" "Ljava/util/List;" .null := bt (Or.inr (hw 58 rfl)) (ty := (.object "java/util/List")) (by decide)
  have aY : Fld Z bu bi "com/example/restate/restate/model/CensusColumns$Codes" "places" "Ljava/util/Map;" .null := bt (Or.inr (hw 76 rfl)) (ty := (.object "java/util/Map")) (by decide)
  have a5 : Fld Z bu bi "com/example/restate/restate/model/CensusColumns$Codes" "codes" "Lcom/example/restate/restate/model/LongColumn;" .null := bt (Or.inr (hw 80 rfl)) (ty := (.object "com/example/restate/restate/model/LongColumn")) (by decide)
  show oe p.tables e below _ (ci.setTop (mkF m 48 #[.val (.ref a0), .val (.ref a1), .unset, .unset] [(.ref bi), (.ref a0)]))
  refine og (S' := [(.ref bi), (.ref bi), (.ref a0)])  (fun _ k => XS.dup bT.here hx rfl (hd 22 rfl) rfl rfl k) ?_
  refine oK bT hx hZ hown (host := "") (Or.inr (Or.inr (hw 51 rfl))) (hw 52 rfl) (hw 53 rfl) (hw 50 rfl) rfl (by decide) (oaI l Z aw hw [] bi kk bu n0 bo bR aZ aY a5 bk J0) co hml rfl rfl (rest := [(.ref bi), (.ref a0)]) rfl (lenOf oN rfl) (hd 23 rfl) rfl fun cx ce cz cm bP => ?_
  obtain ⟨rfl, bC, aR, bN, bv⟩ := bP
  have bF := Fr.app bE bC
  replace aH := aH.keep aR
  replace ag := ag.keep aR (oa aq)
  replace aE := aE.keep aR (oa aq)
  replace au := au.keep aR (oa aq)
  replace ax := ax.keep aR (oa aq)
  replace ao := ao.keep aR (oa aq)
  replace ac := ac.keep aR (oa aq)
  replace af := af.keep aR (oa aq)
  replace ah := ah.keep aR (oa aq)
  replace ai := ai.keep aR (oa aq)
  replace ae := ae.keep aR (oa aq)
  replace aj := aj.keep aR (oa aq)
  replace ap := ap.keep aR (oa aq)
  replace aa := aa.keep aR (oa aq)
  replace ab := ab.keep aR (oa aq)
  replace aF := aF.keep aR (oa aq)
  replace aB := aB.keep aR (oa aq)
  replace aN := aN.keep aR
  replace ak := ak.keep aR (oa aX)
  replace aC := aC.keep aR (oa aX)
  replace J0 := J0.keep aR (allS bk all0)
  replace A2 := A2.keep aR
  replace aD := aD.keep aR (oa aJ)
  replace aA := aA.keep aR (oa aJ)
  replace az := az.keep aR (oa aJ)
  replace av := av.keep aR (oa aJ)
  replace aO := aO.keep aR (oa bb)
  replace aP := aP.keep aR (oa bc)
  replace bh := bh.keep aR (allS (Or.inr aU) all0)
  have bz := bx.trans aR (allS (Or.inr bl) all0)
  have bK := Nat.le_trans bo aR.1
  refine ox (putF cm hx hZ hown (host := "") (Or.inl (hw 83 rfl)) Via.refl rfl ao aH (Or.inr ⟨(hw 84 rfl), rfl, hnm⟩) (hw 1 rfl) (ty := (.object "com/example/restate/restate/model/CensusColumns$Codes")) (by decide) rfl rfl rfl rfl (hd 24 rfl)) fun cj cu bU cp aK => ?_
  replace aH := aH.wr aK
  replace ag := ag.other aK (Or.inr (ob (Or.inr (hw 41 rfl)) (Or.inr (hw 84 rfl)) (by decide)))
  replace aE := aE.other aK (Or.inr (ob (Or.inl (hw 44 rfl)) (Or.inr (hw 84 rfl)) (by decide)))
  replace au := au.other aK (Or.inr (ob (Or.inl (hw 47 rfl)) (Or.inr (hw 84 rfl)) (by decide)))
  replace ax := ax.other aK (Or.inr (ob (Or.inr (hw 82 rfl)) (Or.inr (hw 84 rfl)) (by decide)))
  replace ao := ao.same aK
  replace ac := ac.other aK (Or.inr (ob (Or.inr (hw 86 rfl)) (Or.inr (hw 84 rfl)) (by decide)))
  replace af := af.other aK (Or.inr (ob (Or.inr (hw 88 rfl)) (Or.inr (hw 84 rfl)) (by decide)))
  replace ah := ah.other aK (Or.inr (ob (Or.inr (hw 90 rfl)) (Or.inr (hw 84 rfl)) (by decide)))
  replace ai := ai.other aK (Or.inr (ob (Or.inr (hw 92 rfl)) (Or.inr (hw 84 rfl)) (by decide)))
  replace ae := ae.other aK (Or.inr (ob (Or.inr (hw 109 rfl)) (Or.inr (hw 84 rfl)) (by decide)))
  replace aj := aj.other aK (Or.inr (ob (Or.inr (hw 111 rfl)) (Or.inr (hw 84 rfl)) (by decide)))
  replace ap := ap.other aK (Or.inr (ob (Or.inr (hw 113 rfl)) (Or.inr (hw 84 rfl)) (by decide)))
  replace aa := aa.other aK (Or.inr (ob (Or.inr (hw 115 rfl)) (Or.inr (hw 84 rfl)) (by decide)))
  replace ab := ab.other aK (Or.inr (ob (Or.inr (hw 222 rfl)) (Or.inr (hw 84 rfl)) (by decide)))
  replace aF := aF.other aK (Or.inr (ob (Or.inr (hw 132 rfl)) (Or.inr (hw 84 rfl)) (by decide)))
  replace aB := aB.other aK (Or.inr (ob (Or.inl (hw 331 rfl)) (Or.inr (hw 84 rfl)) (by decide)))
  replace aN := aN.wr aK
  replace ak := ak.other aK (Or.inl aI)
  replace aC := aC.other aK (Or.inl aI)
  replace J0 := J0.keep (Keep.of_wr aK) (allS bd all0)
  replace A2 := A2.wr aK
  replace aD := aD.other aK (Or.inl (Ne.symm (od aG)))
  replace aA := aA.other aK (Or.inl (Ne.symm (od aG)))
  replace az := az.other aK (Or.inl (Ne.symm (od aG)))
  replace av := av.other aK (Or.inl (Ne.symm (od aG)))
  replace aO := aO.other aK (Ne.symm (od aV))
  replace aP := aP.other aK (Ne.symm (od aW))
  replace bh := bh.keep (Keep.of_wr aK) (allS (Or.inl ay) all0)
  replace bv := bv.keep (Keep.of_wr aK) (allS (Or.inl aq) all0)
  have bA := bz.wr aK (Or.inl (List.mem_of_getElem? (i := 0) rfl))
  have bL := Nat.le_trans bK (Keep.of_wr aK).1
  have bG := Fr.snoc bU bF bd
  exact ojj l Z aw hw ws a0 a1 kk h0 n0 bd aI Bd hml hZ b2 b5 b7 b9 bi bM bN k5 k7 cj _ cu bU cp bG bA bL aH ag aE au ax ao ac af ah ai ae aj ap aa ab aF aB aN ak aC J0 A2 aD aA az av aO aP bh bv aG aV be aW bf ay a9 aq aU
theorem ojl (hw : oo Z aw) (ws : List Jvm.Cond) (a0 : Addr) (a1 : Addr) (kk : ov) (h0 : Heap) (n0 : Nat) (Z0 : n0 ≤ h0.size) (aG : Exa Z h0 a0 "com/example/restate/restate/model/CensusColumns") (af : Fld Z h0 a0 "com/example/restate/restate/model/CensusColumns" "lineOffsets" "Lcom/example/restate/restate/model/LongColumn;" .null) (aA : Fld Z h0 a0 "com/example/restate/restate/model/CensusColumns" "ids" "[C" .null) (aq : Fld Z h0 a0 "com/example/restate/restate/model/CensusColumns" "idEnds" "[I" .null) (au : Fld Z h0 a0 "com/example/restate/restate/model/CensusColumns" "group" "Lcom/example/restate/restate/model/CensusColumns$Codes;" .null) (ap : Fld Z h0 a0 "com/example/restate/restate/model/CensusColumns" "pension" "Lcom/example/restate/restate/model/CensusColumns$Codes;" .null) (ac : Fld Z h0 a0 "com/example/restate/restate/model/CensusColumns" "yearEndStatus" "Lcom/example/restate/restate/model/CensusColumns$Codes;" .null) (ag : Fld Z h0 a0 "com/example/restate/restate/model/CensusColumns" "segmentStart" "Lcom/example/restate/restate/model/CensusColumns$Codes;" .null) (ah : Fld Z h0 a0 "com/example/restate/restate/model/CensusColumns" "segmentEnd" "Lcom/example/restate/restate/model/CensusColumns$Codes;" .null) (ai : Fld Z h0 a0 "com/example/restate/restate/model/CensusColumns" "birthDate" "Lcom/example/restate/restate/model/CensusColumns$Codes;" .null) (ae : Fld Z h0 a0 "com/example/restate/restate/model/CensusColumns" "compensation" "Lcom/example/restate/restate/model/AmountColumn;" .null) (aj : Fld Z h0 a0 "com/example/restate/restate/model/CensusColumns" "deferrals" "Lcom/example/restate/restate/model/AmountColumn;" .null) (ao : Fld Z h0 a0 "com/example/restate/restate/model/CensusColumns" "catchUp" "Lcom/example/restate/restate/model/AmountColumn;" .null) (aa : Fld Z h0 a0 "com/example/restate/restate/model/CensusColumns" "otherAnnualAdditions" "Lcom/example/restate/restate/model/AmountColumn;" .null) (ab : Fld Z h0 a0 "com/example/restate/restate/model/CensusColumns" "amountColumns" "Ljava/util/List;" .null) (aC : Fld Z h0 a0 "com/example/restate/restate/model/CensusColumns" "pay" "Ljava/util/Map;" .null) (ax : Fld Z h0 a0 "com/example/restate/restate/model/CensusColumns" "size" "I" (.int (0 : Int32))) (aL : n0 ≤ a0) (aH : Exa Z h0 a1 "java/util/ArrayList") (ak : Fld Z h0 a1 "java/util/AbstractList" "modCount" "I" (.int (0 : Int32))) (ay : Fld Z h0 a1 "java/util/ArrayList" "size" "I" (.int (0 : Int32))) (aF : a1 ≠ a0) (J0 : oy Z h0 n0 kk) :
    ot l Z (⟨"com/example/restate/restate/model/CensusColumns", "<init>", "(Ljava/util/Collection;)V"⟩ : MethodName) prog_32_method_1_code 4 none ws ({ frames := 7, cells := 48, slots := 9423, locals := 97 } : Room) #[(.ref a0), (.ref a1)] h0 (oae Z a0 a1 kk h0 n0) := by
  refine ou (plainFor_of_name oad) (fun m => ofJ m a0 a1) ?_
  intro p e s m below meth c bf Bd hml hx hby hlk hown hnm hZ X0 e0
  have hd := oq oac hby
  have N0 := Fr.nil n0
  have K0 : Keep h0 h0 [a0] := Keep.refl _ _
  refine oc X0 hx (hd 0 rfl) rfl rfl ?_
  refine oi (initO X0 hx hZ hown (hw 32 rfl) (hw 22 rfl) (hw 23 rfl) e0 rfl (by rw [hml]; rfl) rfl (hd 1 rfl) (by decide) (W := 0) (by show 2 * 0 + _ ≤ _; exact Nat.le_of_eq rfl) (by decide)) fun T1 X1 e1 => ?_
  refine oc X1 hx (hd 2 rfl) rfl rfl ?_
  obtain ⟨T2, h2, X2, e2, E2, A2, D2, -, aQ⟩ := newO X1 hx hZ hown (hw 33 rfl) (hw 34 rfl) (hw 35 rfl) e1 (g := (mkF m 5 #[.val (.ref a0), .val (.ref a1), .unset, .unset] [(.ref a0)])) rfl (hd 3 rfl) (by decide) (by decide)
  obtain ⟨b2, g2⟩ : ∃ z, z = h0.size := ⟨_, rfl⟩
  rw [← g2] at A2 D2 aQ
  refine ow aQ ?_
  have aE := os aG.lt g2
  replace aG := aG.ext E2
  replace af := af.ext E2
  replace aA := aA.ext E2
  replace aq := aq.ext E2
  replace au := au.ext E2
  replace ap := ap.ext E2
  replace ac := ac.ext E2
  replace ag := ag.ext E2
  replace ah := ah.ext E2
  replace ai := ai.ext E2
  replace ae := ae.ext E2
  replace aj := aj.ext E2
  replace ao := ao.ext E2
  replace aa := aa.ext E2
  replace ab := ab.ext E2
  replace aC := aC.ext E2
  replace ax := ax.ext E2
  replace aH := aH.ext E2
  replace ak := ak.ext E2
  replace ay := ay.ext E2
  replace J0 := J0.keep (op E2) all0
  have aT := K0.ext E2
  have aP := Nat.le_trans Z0 E2.1
  have aD : Fld Z h2 b2 "com/example/restate/restate/model/LongColumn" "size" "I" (.int (0 : Int32)) := D2 (Or.inl (hw 376 rfl)) (ty := .int) (by decide)
  have aB : Fld Z h2 b2 "com/example/restate/restate/model/LongColumn" "ints" "[I" .null := D2 (Or.inl (hw 383 rfl)) (ty := (.array .int)) (by decide)
  have az : Fld Z h2 b2 "com/example/restate/restate/model/LongColumn" "longs" "[J" .null := D2 (Or.inl (hw 385 rfl)) (ty := (.array .long)) (by decide)
  have av : Fld Z h2 b2 "com/example/restate/restate/model/LongColumn" "shared" "J" (.long (0 : Int64)) := D2 (Or.inl (hw 387 rfl)) (ty := .long) (by decide)
  show oe p.tables e below _ (T2.setTop (mkF m 8 #[.val (.ref a0), .val (.ref a1), .unset, .unset] [(.ref b2), (.ref a0)]))
  refine og (S' := [(.ref b2), (.ref b2), (.ref a0)])  (fun _ k => XS.dup X2.here hx rfl (hd 4 rfl) rfl rfl k) ?_
  refine oK X2 hx hZ hown (host := "") (Or.inl (hw 36 rfl)) (hw 37 rfl) (hw 38 rfl) (hw 35 rfl) rfl (by decide) (obo l Z aw hw [] b2 h2 n0 aP ) e2 hml rfl rfl (rest := [(.ref b2), (.ref a0)]) rfl (lenOf oN rfl) (hd 5 rfl) rfl fun T3 bg v3 X3 be => ?_
  obtain ⟨rfl, aZ, e3⟩ := be
  have a5 := Fr.app N0 aZ
  refine ox (putF X3 hx hZ hown (host := "") (Or.inl (hw 40 rfl)) Via.refl e3 af aG (Or.inr ⟨(hw 41 rfl), rfl, hnm⟩) (hw 1 rfl) (ty := (.object "com/example/restate/restate/model/LongColumn")) (by decide) rfl rfl rfl rfl (hd 6 rfl)) fun T4 h4 X4 e4 W4 => ?_
  replace aG := aG.wr W4
  replace af := af.same W4
  replace aA := aA.other W4 (Or.inr (ob (Or.inl (hw 44 rfl)) (Or.inr (hw 41 rfl)) (by decide)))
  replace aq := aq.other W4 (Or.inr (ob (Or.inl (hw 47 rfl)) (Or.inr (hw 41 rfl)) (by decide)))
  replace au := au.other W4 (Or.inr (ob (Or.inr (hw 82 rfl)) (Or.inr (hw 41 rfl)) (by decide)))
  replace ap := ap.other W4 (Or.inr (ob (Or.inr (hw 84 rfl)) (Or.inr (hw 41 rfl)) (by decide)))
  replace ac := ac.other W4 (Or.inr (ob (Or.inr (hw 86 rfl)) (Or.inr (hw 41 rfl)) (by decide)))
  replace ag := ag.other W4 (Or.inr (ob (Or.inr (hw 88 rfl)) (Or.inr (hw 41 rfl)) (by decide)))
  replace ah := ah.other W4 (Or.inr (ob (Or.inr (hw 90 rfl)) (Or.inr (hw 41 rfl)) (by decide)))
  replace ai := ai.other W4 (Or.inr (ob (Or.inr (hw 92 rfl)) (Or.inr (hw 41 rfl)) (by decide)))
  replace ae := ae.other W4 (Or.inr (ob (Or.inr (hw 109 rfl)) (Or.inr (hw 41 rfl)) (by decide)))
  replace aj := aj.other W4 (Or.inr (ob (Or.inr (hw 111 rfl)) (Or.inr (hw 41 rfl)) (by decide)))
  replace ao := ao.other W4 (Or.inr (ob (Or.inr (hw 113 rfl)) (Or.inr (hw 41 rfl)) (by decide)))
  replace aa := aa.other W4 (Or.inr (ob (Or.inr (hw 115 rfl)) (Or.inr (hw 41 rfl)) (by decide)))
  replace ab := ab.other W4 (Or.inr (ob (Or.inr (hw 222 rfl)) (Or.inr (hw 41 rfl)) (by decide)))
  replace aC := aC.other W4 (Or.inr (ob (Or.inr (hw 132 rfl)) (Or.inr (hw 41 rfl)) (by decide)))
  replace ax := ax.other W4 (Or.inr (ob (Or.inl (hw 331 rfl)) (Or.inr (hw 41 rfl)) (by decide)))
  replace aH := aH.wr W4
  replace ak := ak.other W4 (Or.inl aF)
  replace ay := ay.other W4 (Or.inl aF)
  replace J0 := J0.keep (Keep.of_wr W4) (allS aL all0)
  replace A2 := A2.wr W4
  replace aD := aD.other W4 (Or.inl (Ne.symm (od aE)))
  replace aB := aB.other W4 (Or.inl (Ne.symm (od aE)))
  replace az := az.other W4 (Or.inl (Ne.symm (od aE)))
  replace av := av.other W4 (Or.inl (Ne.symm (od aE)))
  have aU := aT.wr W4 (Or.inl (List.mem_of_getElem? (i := 0) rfl))
  have a9 := Nat.le_trans aP (Keep.of_wr W4).1
  have a6 := Fr.snoc X4 a5 aL
  refine oc X4 hx (hd 7 rfl) rfl rfl ?_
  refine ol (v := (.int (8192 : Int32))) (fun _ k => XS.sipush X4.here hx rfl (hd 8 rfl) k) ?_
  obtain ⟨T5, h5, k5, X5, e5, E5, A5, aR⟩ := newP X4 hx hZ (hw 42 rfl) e4 (g := (mkF m 19 #[.val (.ref a0), .val (.ref a1), .unset, .unset] [(.int (8192 : Int32)), (.ref a0)])) rfl (hd 9 rfl) rfl (by decide) (cap := 8192) (by decide) (by decide) (by decide) (by decide)
  obtain ⟨b5, g5⟩ : ∃ z, z = h4.size := ⟨_, rfl⟩
  rw [← g5] at A5 aR
  refine ow aR ?_
  have aI := os aG.lt g5
  have aM := os A2.lt g5
  replace aG := aG.ext E5
  replace af := af.ext E5
  replace aA := aA.ext E5
  replace aq := aq.ext E5
  replace au := au.ext E5
  replace ap := ap.ext E5
  replace ac := ac.ext E5
  replace ag := ag.ext E5
  replace ah := ah.ext E5
  replace ai := ai.ext E5
  replace ae := ae.ext E5
  replace aj := aj.ext E5
  replace ao := ao.ext E5
  replace aa := aa.ext E5
  replace ab := ab.ext E5
  replace aC := aC.ext E5
  replace ax := ax.ext E5
  replace aH := aH.ext E5
  replace ak := ak.ext E5
  replace ay := ay.ext E5
  replace J0 := J0.keep (op E5) all0
  replace A2 := A2.ext E5
  replace aD := aD.ext E5
  replace aB := aB.ext E5
  replace az := az.ext E5
  replace av := av.ext E5
  have aV := aU.ext E5
  have ba := Nat.le_trans a9 E5.1
  have aJ : Arv Z h5 b5 k5 .char (8192 : Int32) (List.replicate 8192 (.int (0 : Int32))) (.int (0 : Int32)) := oar 8192 (Arv.new A5 (by decide))
  show oe p.tables e below _ (T5.setTop (mkF m 21 #[.val (.ref a0), .val (.ref a1), .unset, .unset] [(.ref b5), (.ref a0)]))
  refine ox (putF X5 hx hZ hown (host := "") (Or.inl (hw 43 rfl)) Via.refl e5 aA aG (Or.inl (hw 44 rfl)) (hw 1 rfl) (ty := (.array .char)) (by decide) rfl rfl rfl rfl (hd 10 rfl)) fun T6 h6 X6 e6 W6 => ?_
  replace aG := aG.wr W6
  replace af := af.other W6 (Or.inr (ob (Or.inr (hw 41 rfl)) (Or.inl (hw 44 rfl)) (by decide)))
  replace aA := aA.same W6
  replace aq := aq.other W6 (Or.inr (ob (Or.inl (hw 47 rfl)) (Or.inl (hw 44 rfl)) (by decide)))
  replace au := au.other W6 (Or.inr (ob (Or.inr (hw 82 rfl)) (Or.inl (hw 44 rfl)) (by decide)))
  replace ap := ap.other W6 (Or.inr (ob (Or.inr (hw 84 rfl)) (Or.inl (hw 44 rfl)) (by decide)))
  replace ac := ac.other W6 (Or.inr (ob (Or.inr (hw 86 rfl)) (Or.inl (hw 44 rfl)) (by decide)))
  replace ag := ag.other W6 (Or.inr (ob (Or.inr (hw 88 rfl)) (Or.inl (hw 44 rfl)) (by decide)))
  replace ah := ah.other W6 (Or.inr (ob (Or.inr (hw 90 rfl)) (Or.inl (hw 44 rfl)) (by decide)))
  replace ai := ai.other W6 (Or.inr (ob (Or.inr (hw 92 rfl)) (Or.inl (hw 44 rfl)) (by decide)))
  replace ae := ae.other W6 (Or.inr (ob (Or.inr (hw 109 rfl)) (Or.inl (hw 44 rfl)) (by decide)))
  replace aj := aj.other W6 (Or.inr (ob (Or.inr (hw 111 rfl)) (Or.inl (hw 44 rfl)) (by decide)))
  replace ao := ao.other W6 (Or.inr (ob (Or.inr (hw 113 rfl)) (Or.inl (hw 44 rfl)) (by decide)))
  replace aa := aa.other W6 (Or.inr (ob (Or.inr (hw 115 rfl)) (Or.inl (hw 44 rfl)) (by decide)))
  replace ab := ab.other W6 (Or.inr (ob (Or.inr (hw 222 rfl)) (Or.inl (hw 44 rfl)) (by decide)))
  replace aC := aC.other W6 (Or.inr (ob (Or.inr (hw 132 rfl)) (Or.inl (hw 44 rfl)) (by decide)))
  replace ax := ax.other W6 (Or.inr (ob (Or.inl (hw 331 rfl)) (Or.inl (hw 44 rfl)) (by decide)))
  replace aH := aH.wr W6
  replace ak := ak.other W6 (Or.inl aF)
  replace ay := ay.other W6 (Or.inl aF)
  replace J0 := J0.keep (Keep.of_wr W6) (allS aL all0)
  replace A2 := A2.wr W6
  replace aD := aD.other W6 (Or.inl (Ne.symm (od aE)))
  replace aB := aB.other W6 (Or.inl (Ne.symm (od aE)))
  replace az := az.other W6 (Or.inl (Ne.symm (od aE)))
  replace av := av.other W6 (Or.inl (Ne.symm (od aE)))
  replace aJ := aJ.other W6 (Ne.symm (od aI))
  have aW := aV.wr W6 (Or.inl (List.mem_of_getElem? (i := 0) rfl))
  have bb := Nat.le_trans ba (Keep.of_wr W6).1
  have a7 := Fr.snoc X6 a6 aL
  refine oc X6 hx (hd 11 rfl) rfl rfl ?_
  refine ol (v := (.int (1024 : Int32))) (fun _ k => XS.sipush X6.here hx rfl (hd 12 rfl) k) ?_
  obtain ⟨T7, h7, k7, X7, e7, E7, A7, aS⟩ := newP X6 hx hZ (hw 45 rfl) e6 (g := (mkF m 28 #[.val (.ref a0), .val (.ref a1), .unset, .unset] [(.int (1024 : Int32)), (.ref a0)])) rfl (hd 13 rfl) rfl (by decide) (cap := 1024) (by decide) (by decide) (by decide) (by decide)
  obtain ⟨b7, g7⟩ : ∃ z, z = h6.size := ⟨_, rfl⟩
  rw [← g7] at A7 aS
  refine ow aS ?_
  have aK := os aG.lt g7
  have aN := os aJ.lt g7
  replace aG := aG.ext E7
  replace af := af.ext E7
  replace aA := aA.ext E7
  replace aq := aq.ext E7
  replace au := au.ext E7
  replace ap := ap.ext E7
  replace ac := ac.ext E7
  replace ag := ag.ext E7
  replace ah := ah.ext E7
  replace ai := ai.ext E7
  replace ae := ae.ext E7
  replace aj := aj.ext E7
  replace ao := ao.ext E7
  replace aa := aa.ext E7
  replace ab := ab.ext E7
  replace aC := aC.ext E7
  replace ax := ax.ext E7
  replace aH := aH.ext E7
  replace ak := ak.ext E7
  replace ay := ay.ext E7
  replace J0 := J0.keep (op E7) all0
  replace A2 := A2.ext E7
  replace aD := aD.ext E7
  replace aB := aB.ext E7
  replace az := az.ext E7
  replace av := av.ext E7
  replace aJ := aJ.ext E7
  have aX := aW.ext E7
  have bc := Nat.le_trans bb E7.1
  have aO : Arv Z h7 b7 k7 .int (1024 : Int32) (List.replicate 1024 (.int (0 : Int32))) (.int (0 : Int32)) := oar 1024 (Arv.new A7 (by decide))
  show oe p.tables e below _ (T7.setTop (mkF m 30 #[.val (.ref a0), .val (.ref a1), .unset, .unset] [(.ref b7), (.ref a0)]))
  refine ox (putF X7 hx hZ hown (host := "") (Or.inl (hw 46 rfl)) Via.refl e7 aq aG (Or.inl (hw 47 rfl)) (hw 1 rfl) (ty := (.array .int)) (by decide) rfl rfl rfl rfl (hd 14 rfl)) fun T8 h8 X8 e8 W8 => ?_
  replace aG := aG.wr W8
  replace af := af.other W8 (Or.inr (ob (Or.inr (hw 41 rfl)) (Or.inl (hw 47 rfl)) (by decide)))
  replace aA := aA.other W8 (Or.inr (ob (Or.inl (hw 44 rfl)) (Or.inl (hw 47 rfl)) (by decide)))
  replace aq := aq.same W8
  replace au := au.other W8 (Or.inr (ob (Or.inr (hw 82 rfl)) (Or.inl (hw 47 rfl)) (by decide)))
  replace ap := ap.other W8 (Or.inr (ob (Or.inr (hw 84 rfl)) (Or.inl (hw 47 rfl)) (by decide)))
  replace ac := ac.other W8 (Or.inr (ob (Or.inr (hw 86 rfl)) (Or.inl (hw 47 rfl)) (by decide)))
  replace ag := ag.other W8 (Or.inr (ob (Or.inr (hw 88 rfl)) (Or.inl (hw 47 rfl)) (by decide)))
  replace ah := ah.other W8 (Or.inr (ob (Or.inr (hw 90 rfl)) (Or.inl (hw 47 rfl)) (by decide)))
  replace ai := ai.other W8 (Or.inr (ob (Or.inr (hw 92 rfl)) (Or.inl (hw 47 rfl)) (by decide)))
  replace ae := ae.other W8 (Or.inr (ob (Or.inr (hw 109 rfl)) (Or.inl (hw 47 rfl)) (by decide)))
  replace aj := aj.other W8 (Or.inr (ob (Or.inr (hw 111 rfl)) (Or.inl (hw 47 rfl)) (by decide)))
  replace ao := ao.other W8 (Or.inr (ob (Or.inr (hw 113 rfl)) (Or.inl (hw 47 rfl)) (by decide)))
  replace aa := aa.other W8 (Or.inr (ob (Or.inr (hw 115 rfl)) (Or.inl (hw 47 rfl)) (by decide)))
  replace ab := ab.other W8 (Or.inr (ob (Or.inr (hw 222 rfl)) (Or.inl (hw 47 rfl)) (by decide)))
  replace aC := aC.other W8 (Or.inr (ob (Or.inr (hw 132 rfl)) (Or.inl (hw 47 rfl)) (by decide)))
  replace ax := ax.other W8 (Or.inr (ob (Or.inl (hw 331 rfl)) (Or.inl (hw 47 rfl)) (by decide)))
  replace aH := aH.wr W8
  replace ak := ak.other W8 (Or.inl aF)
  replace ay := ay.other W8 (Or.inl aF)
  replace J0 := J0.keep (Keep.of_wr W8) (allS aL all0)
  replace A2 := A2.wr W8
  replace aD := aD.other W8 (Or.inl (Ne.symm (od aE)))
  replace aB := aB.other W8 (Or.inl (Ne.symm (od aE)))
  replace az := az.other W8 (Or.inl (Ne.symm (od aE)))
  replace av := av.other W8 (Or.inl (Ne.symm (od aE)))
  replace aJ := aJ.other W8 (Ne.symm (od aI))
  replace aO := aO.other W8 (Ne.symm (od aK))
  have aY := aX.wr W8 (Or.inl (List.mem_of_getElem? (i := 0) rfl))
  have bd := Nat.le_trans bc (Keep.of_wr W8).1
  have a8 := Fr.snoc X8 a7 aL
  exact ojk l Z aw hw ws a0 a1 kk h0 n0 aL aF Bd hml hZ b2 b5 b7 k5 k7 T8 _ h8 X8 e8 a8 aY bd aG af aA aq au ap ac ag ah ai ae aj ao aa ab aC ax aH ak ay J0 A2 aD aB az av aJ aO aE aI aM aK aN
theorem oaJ (hw : oo Z aw) (ws : List Jvm.Cond) (a0 : Addr) (z : Int32) (h0 : Heap) (n0 : Nat) (Z0 : n0 ≤ h0.size) (aa : Fld Z h0 a0 "java/util/ArrayList" "size" "I" (.int z)) :
    ot l Z (⟨"java/util/ArrayList", "size", "()I"⟩ : MethodName) jdk_38_method_8_code 1 (some .int) ws ({ frames := 0, cells := 0, slots := 0, locals := 0 } : Room) #[(.ref a0)] h0 (ofN Z a0 z h0 n0) := by
  refine ou (plainFor_of_name oab) (fun m => ofM m a0) ?_
  intro p e s m below meth c ab Bd hml hx hby hlk hown hnm hZ X0 e0
  have hd := oq ofL hby
  have N0 := Fr.nil n0
  have K0 : Keep h0 h0 [] := Keep.refl _ _
  refine oc X0 hx (hd 0 rfl) rfl rfl ?_
  refine oi (getF X0 hx hZ hown (host := "") (Or.inl (hw 210 rfl)) Via.refl e0 aa rfl rfl (hd 1 rfl)) fun T1 X1 e1 => ?_
  exact oQ X1 hx hlk (by decide) (by decide) Bd.returns (hd 2 rfl) (by rw [e1]; exact ⟨rfl, N0, rfl⟩)
theorem ojm (hw : oo Z aw) (ws : List Jvm.Cond) (p0 : Int32) (p1 : Int32) (h0 : Heap) (n0 : Nat) (Z0 : n0 ≤ h0.size) (u1 : ¬ p0 < 0) (u2 : p0 < p1) :
    ot l Z (⟨"jdk/internal/util/Preconditions", "checkIndex", "(IILjava/util/function/BiFunction;)I"⟩ : MethodName) jdk_41_method_11_code 3 (some .int) ws ({ frames := 0, cells := 0, slots := 0, locals := 0 } : Room) #[(.int p0), (.int p1), .null] h0 (ofR Z p0 p1 h0 n0) := by
  refine ou (plainFor_of_name oaR) (fun m => ofQ m p0 p1) ?_
  intro p e s m below meth c aa Bd hml hx hby hlk hown hnm hZ X0 e0
  have hd := oq ofP hby
  have N0 := Fr.nil n0
  have K0 : Keep h0 h0 [] := Keep.refl _ _
  refine oj X0 hx (hd 0 rfl) rfl ?_
  refine og (S' := [])  (fun _ k => XS.ifNo X0.here hx rfl (hd 1 rfl) rfl ((if0 _ _).trans (flt u1).1) k) ?_
  refine oj X0 hx (hd 2 rfl) rfl ?_
  refine oj X0 hx (hd 3 rfl) rfl ?_
  refine oC (S' := [])  (fun _ k => XS.icmpYes X0.here hx rfl (pc0 := 6) (pc' := 16) rfl (hd 4 rfl) rfl (tlt u2).1 (by decide) (by decide) k) ?_
  refine oj X0 hx (hd 5 rfl) rfl ?_
  exact oQ X0 hx hlk (by decide) (by decide) Bd.returns (hd 6 rfl) (by rw [e0]; exact ⟨rfl, N0, rfl⟩)
theorem ojn (hw : oo Z aw) (ws : List Jvm.Cond) (p0 : Int32) (p1 : Int32) (h0 : Heap) (n0 : Nat) (Z0 : n0 ≤ h0.size) (u1 : ¬ p0 < 0) (u2 : p0 < p1) :
    ot l Z (⟨"java/util/Objects", "checkIndex", "(II)I"⟩ : MethodName) jdk_31_method_17_code 2 (some .int) ws ({ frames := 1, cells := 0, slots := 0, locals := 14 } : Room) #[(.int p0), (.int p1)] h0 (ofX Z p0 p1 h0 n0) := by
  refine ou (plainFor_of_name obL) (fun m => ofW m p0 p1) ?_
  intro p e s m below meth c ae Bd hml hx hby hlk hown hnm hZ X0 e0
  have hd := oq ofU hby
  have N0 := Fr.nil n0
  have K0 : Keep h0 h0 [] := Keep.refl _ _
  refine oj X0 hx (hd 0 rfl) rfl ?_
  refine oj X0 hx (hd 1 rfl) rfl ?_
  refine ol (fun _ k => XS.aconstNull X0.here hx rfl (hd 2 rfl) k) ?_
  refine oL X0 hx hZ hown (hw 355 rfl) (hw 356 rfl) (hw 358 rfl) (hw 357 rfl) (by decide) (ojm l Z aw hw [] p0 p1 h0 n0 Z0 u1 u2) e0 hml rfl rfl (rest := []) rfl (lenOf ofS rfl) (hd 3 rfl) rfl fun T1 af v1 X1 ac => ?_
  obtain ⟨rfl, aa, e1⟩ := ac
  have ab := Fr.app N0 aa
  exact oQ X1 hx hlk (by decide) (by decide) Bd.returns (hd 4 rfl) (by rw [e1]; exact ⟨rfl, ab, rfl⟩)
theorem ojo (hw : oo Z aw) (ws : List Jvm.Cond) (a0 : Addr) (p1 : Int32) (ed : Nat) (k : ClassId) (vs : List Value) (x : Nat) (h0 : Heap) (n0 : Nat) (Z0 : n0 ≤ h0.size) (aa : Fld Z h0 a0 "java/util/ArrayList" "elementData" "[Ljava/lang/Object;" (.ref ed)) (ae : Arv Z h0 ed k (.object "java/lang/Object") (4 : Int32) vs .null) (u1 : ¬ p1 < 0) (u2 : p1 < (4 : Int32)) (ah : vs.getD p1.toNatClampNeg .null = .ref x) :
    ot l Z (⟨"java/util/ArrayList", "elementData", "(I)Ljava/lang/Object;"⟩ : MethodName) jdk_38_method_18_code 2 (some (.object "java/lang/Object")) ws ({ frames := 0, cells := 0, slots := 0, locals := 0 } : Room) #[(.ref a0), (.int p1)] h0 (of1 Z a0 p1 ed k vs x h0 n0) := by
  refine ou (plainFor_of_name oab) (fun m => of0 m a0 p1) ?_
  intro p e s m below meth c ai Bd hml hx hby hlk hown hnm hZ X0 e0
  have hd := oq ofZ hby
  have N0 := Fr.nil n0
  have K0 : Keep h0 h0 [] := Keep.refl _ _
  refine oc X0 hx (hd 0 rfl) rfl rfl ?_
  refine oi (getF X0 hx hZ hown (host := "") (Or.inl (hw 27 rfl)) Via.refl e0 aa rfl rfl (hd 1 rfl)) fun T1 X1 e1 => ?_
  refine oj X1 hx (hd 2 rfl) rfl ?_
  obtain ⟨ag, ac, q2, S2, aj, H2, G2⟩ := id ae
  have ab : ¬ (p1 < 0 ∨ ag.slots.size ≤ (p1).toNatClampNeg) := inb_of S2 ⟨u1, u2⟩
  have af : ag.slots[(p1).toNatClampNeg]? = some (.ref x) := H2.at ab ah
  refine ow (fun _ k => X1.aaload hx (j := p1) (v := (.ref x)) (by rw [e1]; exact ac.1) (State.isArrayOf_alike hZ.alike ac.2.1) rfl ac.2.2 ab af rfl rfl (hd 3 rfl) _ k) ?_
  show oe p.tables e below _ (T1.setTop (mkF m 6 #[.val (.ref a0), .val (.int p1)] [(.ref x)]))
  exact oO X1 hx hlk (by decide) (by decide) Bd.returns rfl rfl (hd 4 rfl) (by rw [e1]; exact ⟨rfl, N0, rfl⟩)
theorem oa7 (hw : oo Z aw) (ws : List Jvm.Cond) (a0 : Addr) (p1 : Int32) (ed : Nat) (k : ClassId) (vs : List Value) (x : Nat) (h0 : Heap) (n0 : Nat) (Z0 : n0 ≤ h0.size) (ac : Exa Z h0 a0 "java/util/ArrayList") (ab : Fld Z h0 a0 "java/util/ArrayList" "size" "I" (.int (4 : Int32))) (aa : Fld Z h0 a0 "java/util/ArrayList" "elementData" "[Ljava/lang/Object;" (.ref ed)) (ae : Arv Z h0 ed k (.object "java/lang/Object") (4 : Int32) vs .null) (u1 : ¬ p1 < 0) (u2 : p1 < (4 : Int32)) (ao : vs.getD p1.toNatClampNeg .null = .ref x) :
    ot l Z (⟨"java/util/ArrayList", "get", "(I)Ljava/lang/Object;"⟩ : MethodName) jdk_38_method_20_code 2 (some (.object "java/lang/Object")) ws ({ frames := 2, cells := 0, slots := 0, locals := 27 } : Room) #[(.ref a0), (.int p1)] h0 (of5 Z a0 p1 ed k vs x h0 n0) := by
  refine ou (plainFor_of_name oab) (fun m => of4 m a0 p1) ?_
  intro p e s m below meth c ap Bd hml hx hby hlk hown hnm hZ X0 e0
  have hd := oq of3 hby
  have N0 := Fr.nil n0
  have K0 : Keep h0 h0 [] := Keep.refl _ _
  refine oj X0 hx (hd 0 rfl) rfl ?_
  refine oc X0 hx (hd 1 rfl) rfl rfl ?_
  refine oi (getF X0 hx hZ hown (host := "") (Or.inl (hw 210 rfl)) Via.refl e0 ab rfl rfl (hd 2 rfl)) fun T1 X1 e1 => ?_
  refine oL X1 hx hZ hown (hw 352 rfl) (hw 353 rfl) (hw 354 rfl) (hw 148 rfl) (by decide) (ojn l Z aw hw [] p1 (4 : Int32) h0 n0 Z0 u1 u2) e1 hml rfl rfl (rest := []) rfl (lenOf oav rfl) (hd 3 rfl) rfl fun T2 aq v2 X2 aj => ?_
  obtain ⟨rfl, af, e2⟩ := aj
  have ah := Fr.app N0 af
  refine og (S' := [])  (fun _ k => XS.pop X2.here hx rfl (hd 4 rfl) rfl rfl k) ?_
  refine oc X2 hx (hd 5 rfl) rfl rfl ?_
  refine oj X2 hx (hd 6 rfl) rfl ?_
  refine oB X2 hx hZ hown (hw 359 rfl) (hw 360 rfl) (hw 362 rfl) (hw 361 rfl) (hw 363 rfl) (hw 5 rfl) (by decide) (ojo l Z aw hw [] a0 p1 ed k vs x h0 n0 Z0 aa ae u1 u2 ao) e2 ac hml rfl rfl (rest := []) rfl (lenOf oaS rfl) (hd 7 rfl) rfl fun T3 au v3 X3 ak => ?_
  obtain ⟨rfl, ag, e3⟩ := ak
  have ai := Fr.app ah ag
  exact oO X3 hx hlk (by decide) (by decide) Bd.returns rfl rfl (hd 8 rfl) (by rw [e3]; exact ⟨rfl, ai, rfl⟩)
theorem oa8 (hw : oo Z aw) (ws : List Jvm.Cond) (a0 : Addr) (lc : Nat) (z : Int32) (h0 : Heap) (n0 : Nat) (Z0 : n0 ≤ h0.size) (aa : Fld Z h0 a0 "com/example/restate/restate/model/AmountColumn" "cents" "Lcom/example/restate/restate/model/LongColumn;" (.ref lc)) (ac : Exa Z h0 lc "com/example/restate/restate/model/LongColumn") (ab : Fld Z h0 lc "com/example/restate/restate/model/LongColumn" "size" "I" (.int z)) :
    ot l Z (⟨"com/example/restate/restate/model/AmountColumn", "size", "()I"⟩ : MethodName) prog_28_method_2_code 1 (some .int) ws ({ frames := 1, cells := 0, slots := 0, locals := 12 } : Room) #[(.ref a0)] h0 (of9 Z a0 lc z h0 n0) := by
  refine ou (plainFor_of_name oa2) (fun m => of8 m a0) ?_
  intro p e s m below meth c ah Bd hml hx hby hlk hown hnm hZ X0 e0
  have hd := oq of7 hby
  have N0 := Fr.nil n0
  have K0 : Keep h0 h0 [] := Keep.refl _ _
  refine oc X0 hx (hd 0 rfl) rfl rfl ?_
  refine oi (getF X0 hx hZ hown (host := "") (Or.inl (hw 102 rfl)) Via.refl e0 aa rfl rfl (hd 1 rfl)) fun T1 X1 e1 => ?_
  refine oB X1 hx hZ hown (hw 370 rfl) (hw 371 rfl) (hw 373 rfl) (hw 372 rfl) (hw 374 rfl) (hw 35 rfl) (by decide) (oiJ l Z aw hw [] lc z h0 n0 Z0 ab) e1 ac hml rfl rfl (rest := []) rfl (lenOf oV rfl) (hd 2 rfl) rfl fun T2 ai v2 X2 ag => ?_
  obtain ⟨rfl, ae, e2⟩ := ag
  have af := Fr.app N0 ae
  exact oQ X2 hx hlk (by decide) (by decide) Bd.returns (hd 3 rfl) (by rw [e2]; exact ⟨rfl, af, rfl⟩)
theorem ocl (hw : oo Z aw) (ws : List Jvm.Cond) (a0 : Addr) (n : Nat) (al : Nat) (el : Nat) (m1 : Nat) (m2 : Nat) (m3 : Nat) (m4 : Nat) (f1 : Nat) (f2 : Nat) (f3 : Nat) (f4 : Nat) (h0 : Heap) (n0 : Nat) (Z0 : n0 ≤ h0.size) (aa : Fld Z h0 a0 "com/example/restate/restate/model/CensusColumns" "amountColumns" "Ljava/util/List;" (.ref al)) (L0 : oah Z h0 m1 m2 m3 m4 al el) (M1 : oF Z h0 n m1 f1) (M2 : oF Z h0 n m2 f2) (M3 : oF Z h0 n m3 f3) (M4 : oF Z h0 n m4 f4) :
    ot l Z (⟨"com/example/restate/restate/model/CensusColumns", "checkAmounts", "(I)V"⟩ : MethodName) prog_32_method_4_code 4 none ws ({ frames := 3, cells := 0, slots := 0, locals := 40 } : Room) #[(.ref a0), (.int (Int32.ofNat n))] h0 (ogd Z a0 n al el m1 m2 m3 m4 f1 f2 f3 f4 h0 n0) := by
  refine ou (plainFor_of_name oad) (fun m => ogc m a0 (Int32.ofNat n)) ?_
  intro p e s m below meth c cp Bd hml hx hby hlk hown hnm hZ X0 e0
  have hd := oq ogb hby
  have N0 := Fr.nil n0
  have K0 : Keep h0 h0 [] := Keep.refl _ _
  obtain ⟨ed, k, -, ac, ab, ae, af⟩ := L0
  obtain ⟨l1, -, aj, aq, -, aC, ay, -⟩ := M1
  obtain ⟨l2, -, ak, au, -, aD, az, -⟩ := M2
  obtain ⟨l3, -, ao, av, -, aE, aA, -⟩ := M3
  obtain ⟨l4, -, ap, ax, -, aF, aB, -⟩ := M4
  refine ol (v := (.int (0 : Int32))) (fun _ k => XS.iconst X0.here hx rfl (hd 0 rfl) k) ?_
  refine oz (fun _ k => XS.istoreN X0.here hx rfl (hd 1 rfl) rfl (l' := #[.val (.ref a0), .val (.int (Int32.ofNat n)), .val (.int (0 : Int32)), .unset]) rfl k) ?_
  refine oj X0 hx (hd 2 rfl) rfl ?_
  refine oc X0 hx (hd 3 rfl) rfl rfl ?_
  refine oi (getF X0 hx hZ hown (host := "") (Or.inl (hw 221 rfl)) Via.refl e0 aa rfl rfl (hd 4 rfl)) fun T1 X1 e1 => ?_
  refine oS X1 hx hZ hown (hw 336 rfl) (hw 337 rfl) (hw 338 rfl) (hw 339 rfl) (hw 340 rfl) (hw 341 rfl) (hw 342 rfl) (hw 297 rfl) (hw 343 rfl) (hw 5 rfl) (by decide) (oaJ l Z aw hw [] al (4 : Int32) h0 n0 Z0 ab) e1 ac hml rfl rfl (rest := [(.int (0 : Int32))]) rfl (lenOf oV rfl) (hd 5 rfl) rfl fun T2 cr v2 X2 ck => ?_
  obtain ⟨rfl, bt, e2⟩ := ck
  have bx := Fr.app N0 bt
  refine og (S' := [])  (fun _ k => XS.icmpNo X2.here hx rfl (hd 6 rfl) rfl (tlt (by decide)).2.1 k) ?_
  refine oc X2 hx (hd 7 rfl) rfl rfl ?_
  refine oi (getF X2 hx hZ hown (host := "") (Or.inl (hw 221 rfl)) Via.refl e2 aa rfl rfl (hd 8 rfl)) fun T3 X3 e3 => ?_
  refine oj X3 hx (hd 9 rfl) rfl ?_
  refine oS X3 hx hZ hown (hw 344 rfl) (hw 345 rfl) (hw 346 rfl) (hw 347 rfl) (hw 348 rfl) (hw 349 rfl) (hw 350 rfl) (hw 297 rfl) (hw 351 rfl) (hw 5 rfl) (by decide) (oa7 l Z aw hw [] al (0 : Int32) ed k [.ref m1, .ref m2, .ref m3, .ref m4] m1 h0 n0 Z0 ac ab ae af (by decide) (by decide) rfl) e3 ac hml rfl rfl (rest := []) rfl (lenOf oaS rfl) (hd 10 rfl) rfl fun T4 ct v4 X4 cm => ?_
  obtain ⟨rfl, bu, e4⟩ := cm
  have bz := Fr.app bx bu
  refine oi (castY X4 hx hZ hown (hw 93 rfl) e4 (Ins.self aj) rfl rfl (hd 11 rfl)) fun T5 X5 e5 => ?_
  show oe p.tables e below _ (T5.setTop (mkF m 28 #[.val (.ref a0), .val (.int (Int32.ofNat n)), .val (.int (0 : Int32)), .unset] [(.ref m1)]))
  refine oz (fun _ k => XS.astoreN X5.here hx rfl (hd 12 rfl) rfl rfl (l' := #[.val (.ref a0), .val (.int (Int32.ofNat n)), .val (.int (0 : Int32)), .val (.ref m1)]) rfl k) ?_
  refine oc X5 hx (hd 13 rfl) rfl rfl ?_
  refine oB X5 hx hZ hown (hw 365 rfl) (hw 366 rfl) (hw 368 rfl) (hw 367 rfl) (hw 369 rfl) (hw 95 rfl) (by decide) (oa8 l Z aw hw [] m1 l1 (Int32.ofNat n) h0 n0 Z0 aq aC ay) e5 aj hml rfl rfl (rest := []) rfl (lenOf oV rfl) (hd 14 rfl) rfl fun T6 cu v6 X6 cn => ?_
  obtain ⟨rfl, bv, e6⟩ := cn
  have bA := Fr.app bz bv
  refine oj X6 hx (hd 15 rfl) rfl ?_
  refine oC (S' := [])  (fun _ k => XS.icmpYes X6.here hx rfl (pc0 := 34) (pc' := 55) rfl (hd 16 rfl) rfl (teq rfl).1 (by decide) (by decide) k) ?_
  refine oaf (fun _ k => XS.iinc X6.here hx rfl (hd 17 rfl) rfl (l' := #[.val (.ref a0), .val (.int (Int32.ofNat n)), .val (.int ((0 : Int32) + (1 : Int32))), .val (.ref m1)]) rfl k) ?_
  show oe p.tables e below _ (T6.setTop (mkF m 58 #[.val (.ref a0), .val (.int (Int32.ofNat n)), .val (.int ((0 : Int32) + (1 : Int32))), .val (.ref m1)] []))
  rw [show ((0 : Int32) + (1 : Int32)) = (1 : Int32) from by decide]
  refine oJ (fun _ k => XS.goto X6.here hx rfl (pc0 := 58) (pc' := 2) rfl (hd 18 rfl) (by decide) (by decide) k) ?_
  refine oj X6 hx (hd 2 rfl) rfl ?_
  refine oc X6 hx (hd 3 rfl) rfl rfl ?_
  refine oi (getF X6 hx hZ hown (host := "") (Or.inl (hw 221 rfl)) Via.refl e6 aa rfl rfl (hd 4 rfl)) fun T7 X7 e7 => ?_
  refine oS X7 hx hZ hown (hw 336 rfl) (hw 337 rfl) (hw 338 rfl) (hw 339 rfl) (hw 340 rfl) (hw 341 rfl) (hw 342 rfl) (hw 297 rfl) (hw 343 rfl) (hw 5 rfl) (by decide) (oaJ l Z aw hw [] al (4 : Int32) h0 n0 Z0 ab) e7 ac hml rfl rfl (rest := [(.int (1 : Int32))]) rfl (lenOf oV rfl) (hd 5 rfl) rfl fun T8 cv v8 X8 co => ?_
  obtain ⟨rfl, bw, e8⟩ := co
  have bB := Fr.app bA bw
  refine og (S' := [])  (fun _ k => XS.icmpNo X8.here hx rfl (hd 6 rfl) rfl (tlt (by decide)).2.1 k) ?_
  refine oc X8 hx (hd 7 rfl) rfl rfl ?_
  refine oi (getF X8 hx hZ hown (host := "") (Or.inl (hw 221 rfl)) Via.refl e8 aa rfl rfl (hd 8 rfl)) fun T9 X9 e9 => ?_
  refine oj X9 hx (hd 9 rfl) rfl ?_
  refine oS X9 hx hZ hown (hw 344 rfl) (hw 345 rfl) (hw 346 rfl) (hw 347 rfl) (hw 348 rfl) (hw 349 rfl) (hw 350 rfl) (hw 297 rfl) (hw 351 rfl) (hw 5 rfl) (by decide) (oa7 l Z aw hw [] al (1 : Int32) ed k [.ref m1, .ref m2, .ref m3, .ref m4] m2 h0 n0 Z0 ac ab ae af (by decide) (by decide) rfl) e9 ac hml rfl rfl (rest := []) rfl (lenOf oaS rfl) (hd 10 rfl) rfl fun cw bk cI bI a8 => ?_
  obtain ⟨rfl, aG, bO⟩ := a8
  have aP := Fr.app bB aG
  refine oi (castY bI hx hZ hown (hw 93 rfl) bO (Ins.self ak) rfl rfl (hd 11 rfl)) fun bC aY bP => ?_
  show oe p.tables e below _ (bC.setTop (mkF m 28 #[.val (.ref a0), .val (.int (Int32.ofNat n)), .val (.int (1 : Int32)), .val (.ref m1)] [(.ref m2)]))
  refine oz (fun _ k => XS.astoreN aY.here hx rfl (hd 12 rfl) rfl rfl (l' := #[.val (.ref a0), .val (.int (Int32.ofNat n)), .val (.int (1 : Int32)), .val (.ref m2)]) rfl k) ?_
  refine oc aY hx (hd 13 rfl) rfl rfl ?_
  refine oB aY hx hZ hown (hw 365 rfl) (hw 366 rfl) (hw 368 rfl) (hw 367 rfl) (hw 369 rfl) (hw 95 rfl) (by decide) (oa8 l Z aw hw [] m2 l2 (Int32.ofNat n) h0 n0 Z0 au aD az) bP ak hml rfl rfl (rest := []) rfl (lenOf oV rfl) (hd 14 rfl) rfl fun bD bl cJ ag a9 => ?_
  obtain ⟨rfl, aH, bQ⟩ := a9
  have aQ := Fr.app aP aH
  refine oj ag hx (hd 15 rfl) rfl ?_
  refine oC (S' := [])  (fun _ k => XS.icmpYes ag.here hx rfl (pc0 := 34) (pc' := 55) rfl (hd 16 rfl) rfl (teq rfl).1 (by decide) (by decide) k) ?_
  refine oaf (fun _ k => XS.iinc ag.here hx rfl (hd 17 rfl) rfl (l' := #[.val (.ref a0), .val (.int (Int32.ofNat n)), .val (.int ((1 : Int32) + (1 : Int32))), .val (.ref m2)]) rfl k) ?_
  show oe p.tables e below _ (bD.setTop (mkF m 58 #[.val (.ref a0), .val (.int (Int32.ofNat n)), .val (.int ((1 : Int32) + (1 : Int32))), .val (.ref m2)] []))
  rw [show ((1 : Int32) + (1 : Int32)) = (2 : Int32) from by decide]
  refine oJ (fun _ k => XS.goto ag.here hx rfl (pc0 := 58) (pc' := 2) rfl (hd 18 rfl) (by decide) (by decide) k) ?_
  refine oj ag hx (hd 2 rfl) rfl ?_
  refine oc ag hx (hd 3 rfl) rfl rfl ?_
  refine oi (getF ag hx hZ hown (host := "") (Or.inl (hw 221 rfl)) Via.refl bQ aa rfl rfl (hd 4 rfl)) fun cx bJ bR => ?_
  refine oS bJ hx hZ hown (hw 336 rfl) (hw 337 rfl) (hw 338 rfl) (hw 339 rfl) (hw 340 rfl) (hw 341 rfl) (hw 342 rfl) (hw 297 rfl) (hw 343 rfl) (hw 5 rfl) (by decide) (oaJ l Z aw hw [] al (4 : Int32) h0 n0 Z0 ab) bR ac hml rfl rfl (rest := [(.int (2 : Int32))]) rfl (lenOf oV rfl) (hd 5 rfl) rfl fun cy bm cK aZ ba => ?_
  obtain ⟨rfl, aI, bS⟩ := ba
  have aR := Fr.app aQ aI
  refine og (S' := [])  (fun _ k => XS.icmpNo aZ.here hx rfl (hd 6 rfl) rfl (tlt (by decide)).2.1 k) ?_
  refine oc aZ hx (hd 7 rfl) rfl rfl ?_
  refine oi (getF aZ hx hZ hown (host := "") (Or.inl (hw 221 rfl)) Via.refl bS aa rfl rfl (hd 8 rfl)) fun cz bh bT => ?_
  refine oj bh hx (hd 9 rfl) rfl ?_
  refine oS bh hx hZ hown (hw 344 rfl) (hw 345 rfl) (hw 346 rfl) (hw 347 rfl) (hw 348 rfl) (hw 349 rfl) (hw 350 rfl) (hw 297 rfl) (hw 351 rfl) (hw 5 rfl) (by decide) (oa7 l Z aw hw [] al (2 : Int32) ed k [.ref m1, .ref m2, .ref m3, .ref m4] m3 h0 n0 Z0 ac ab ae af (by decide) (by decide) rfl) bT ac hml rfl rfl (rest := []) rfl (lenOf oaS rfl) (hd 10 rfl) rfl fun cA bn cL bK bb => ?_
  obtain ⟨rfl, aJ, bU⟩ := bb
  have aS := Fr.app aR aJ
  refine oi (castY bK hx hZ hown (hw 93 rfl) bU (Ins.self ao) rfl rfl (hd 11 rfl)) fun bE a5 bV => ?_
  show oe p.tables e below _ (bE.setTop (mkF m 28 #[.val (.ref a0), .val (.int (Int32.ofNat n)), .val (.int (2 : Int32)), .val (.ref m2)] [(.ref m3)]))
  refine oz (fun _ k => XS.astoreN a5.here hx rfl (hd 12 rfl) rfl rfl (l' := #[.val (.ref a0), .val (.int (Int32.ofNat n)), .val (.int (2 : Int32)), .val (.ref m3)]) rfl k) ?_
  refine oc a5 hx (hd 13 rfl) rfl rfl ?_
  refine oB a5 hx hZ hown (hw 365 rfl) (hw 366 rfl) (hw 368 rfl) (hw 367 rfl) (hw 369 rfl) (hw 95 rfl) (by decide) (oa8 l Z aw hw [] m3 l3 (Int32.ofNat n) h0 n0 Z0 av aE aA) bV ao hml rfl rfl (rest := []) rfl (lenOf oV rfl) (hd 14 rfl) rfl fun bF bo cM ah bc => ?_
  obtain ⟨rfl, aK, bW⟩ := bc
  have aT := Fr.app aS aK
  refine oj ah hx (hd 15 rfl) rfl ?_
  refine oC (S' := [])  (fun _ k => XS.icmpYes ah.here hx rfl (pc0 := 34) (pc' := 55) rfl (hd 16 rfl) rfl (teq rfl).1 (by decide) (by decide) k) ?_
  refine oaf (fun _ k => XS.iinc ah.here hx rfl (hd 17 rfl) rfl (l' := #[.val (.ref a0), .val (.int (Int32.ofNat n)), .val (.int ((2 : Int32) + (1 : Int32))), .val (.ref m3)]) rfl k) ?_
  show oe p.tables e below _ (bF.setTop (mkF m 58 #[.val (.ref a0), .val (.int (Int32.ofNat n)), .val (.int ((2 : Int32) + (1 : Int32))), .val (.ref m3)] []))
  rw [show ((2 : Int32) + (1 : Int32)) = (3 : Int32) from by decide]
  refine oJ (fun _ k => XS.goto ah.here hx rfl (pc0 := 58) (pc' := 2) rfl (hd 18 rfl) (by decide) (by decide) k) ?_
  refine oj ah hx (hd 2 rfl) rfl ?_
  refine oc ah hx (hd 3 rfl) rfl rfl ?_
  refine oi (getF ah hx hZ hown (host := "") (Or.inl (hw 221 rfl)) Via.refl bW aa rfl rfl (hd 4 rfl)) fun cC bL bX => ?_
  refine oS bL hx hZ hown (hw 336 rfl) (hw 337 rfl) (hw 338 rfl) (hw 339 rfl) (hw 340 rfl) (hw 341 rfl) (hw 342 rfl) (hw 297 rfl) (hw 343 rfl) (hw 5 rfl) (by decide) (oaJ l Z aw hw [] al (4 : Int32) h0 n0 Z0 ab) bX ac hml rfl rfl (rest := [(.int (3 : Int32))]) rfl (lenOf oV rfl) (hd 5 rfl) rfl fun cD bp cN a6 bd => ?_
  obtain ⟨rfl, aL, bY⟩ := bd
  have aU := Fr.app aT aL
  refine og (S' := [])  (fun _ k => XS.icmpNo a6.here hx rfl (hd 6 rfl) rfl (tlt (by decide)).2.1 k) ?_
  refine oc a6 hx (hd 7 rfl) rfl rfl ?_
  refine oi (getF a6 hx hZ hown (host := "") (Or.inl (hw 221 rfl)) Via.refl bY aa rfl rfl (hd 8 rfl)) fun cE bi bZ => ?_
  refine oj bi hx (hd 9 rfl) rfl ?_
  refine oS bi hx hZ hown (hw 344 rfl) (hw 345 rfl) (hw 346 rfl) (hw 347 rfl) (hw 348 rfl) (hw 349 rfl) (hw 350 rfl) (hw 297 rfl) (hw 351 rfl) (hw 5 rfl) (by decide) (oa7 l Z aw hw [] al (3 : Int32) ed k [.ref m1, .ref m2, .ref m3, .ref m4] m4 h0 n0 Z0 ac ab ae af (by decide) (by decide) rfl) bZ ac hml rfl rfl (rest := []) rfl (lenOf oaS rfl) (hd 10 rfl) rfl fun cF bq cO bM be => ?_
  obtain ⟨rfl, aM, b0⟩ := be
  have aV := Fr.app aU aM
  refine oi (castY bM hx hZ hown (hw 93 rfl) b0 (Ins.self ap) rfl rfl (hd 11 rfl)) fun bG a7 ce => ?_
  show oe p.tables e below _ (bG.setTop (mkF m 28 #[.val (.ref a0), .val (.int (Int32.ofNat n)), .val (.int (3 : Int32)), .val (.ref m3)] [(.ref m4)]))
  refine oz (fun _ k => XS.astoreN a7.here hx rfl (hd 12 rfl) rfl rfl (l' := #[.val (.ref a0), .val (.int (Int32.ofNat n)), .val (.int (3 : Int32)), .val (.ref m4)]) rfl k) ?_
  refine oc a7 hx (hd 13 rfl) rfl rfl ?_
  refine oB a7 hx hZ hown (hw 365 rfl) (hw 366 rfl) (hw 368 rfl) (hw 367 rfl) (hw 369 rfl) (hw 95 rfl) (by decide) (oa8 l Z aw hw [] m4 l4 (Int32.ofNat n) h0 n0 Z0 ax aF aB) ce ap hml rfl rfl (rest := []) rfl (lenOf oV rfl) (hd 14 rfl) rfl fun bH br cP ai bf => ?_
  obtain ⟨rfl, aN, cg⟩ := bf
  have aW := Fr.app aV aN
  refine oj ai hx (hd 15 rfl) rfl ?_
  refine oC (S' := [])  (fun _ k => XS.icmpYes ai.here hx rfl (pc0 := 34) (pc' := 55) rfl (hd 16 rfl) rfl (teq rfl).1 (by decide) (by decide) k) ?_
  refine oaf (fun _ k => XS.iinc ai.here hx rfl (hd 17 rfl) rfl (l' := #[.val (.ref a0), .val (.int (Int32.ofNat n)), .val (.int ((3 : Int32) + (1 : Int32))), .val (.ref m4)]) rfl k) ?_
  show oe p.tables e below _ (bH.setTop (mkF m 58 #[.val (.ref a0), .val (.int (Int32.ofNat n)), .val (.int ((3 : Int32) + (1 : Int32))), .val (.ref m4)] []))
  rw [show ((3 : Int32) + (1 : Int32)) = (4 : Int32) from by decide]
  refine oJ (fun _ k => XS.goto ai.here hx rfl (pc0 := 58) (pc' := 2) rfl (hd 18 rfl) (by decide) (by decide) k) ?_
  refine oj ai hx (hd 2 rfl) rfl ?_
  refine oc ai hx (hd 3 rfl) rfl rfl ?_
  refine oi (getF ai hx hZ hown (host := "") (Or.inl (hw 221 rfl)) Via.refl cg aa rfl rfl (hd 4 rfl)) fun cG bN ci => ?_
  refine oS bN hx hZ hown (hw 336 rfl) (hw 337 rfl) (hw 338 rfl) (hw 339 rfl) (hw 340 rfl) (hw 341 rfl) (hw 342 rfl) (hw 297 rfl) (hw 343 rfl) (hw 5 rfl) (by decide) (oaJ l Z aw hw [] al (4 : Int32) h0 n0 Z0 ab) ci ac hml rfl rfl (rest := [(.int (4 : Int32))]) rfl (lenOf oV rfl) (hd 5 rfl) rfl fun cH bs cQ bj bg => ?_
  obtain ⟨rfl, aO, cj⟩ := bg
  have aX := Fr.app aW aO
  refine oC (S' := [])  (fun _ k => XS.icmpYes bj.here hx rfl (pc0 := 12) (pc' := 61) rfl (hd 6 rfl) rfl (flt (by decide)).2.1 (by decide) (by decide) k) ?_
  exact oG bj hx hlk (by decide) (by decide) Bd.returns (hd 19 rfl) (by rw [cj]; exact ⟨rfl, aX, rfl⟩)
theorem ojp (hw : oo Z aw) (ws : List Jvm.Cond) (a0 : Addr) (h0 : Heap) (n0 : Nat) (Z0 : n0 ≤ h0.size) :
    ot l Z (⟨"com/example/restate/restate/model/CensusColumns", "idStart", "(I)I"⟩ : MethodName) prog_32_method_23_code 2 (some .int) ws ({ frames := 0, cells := 0, slots := 0, locals := 0 } : Room) #[(.ref a0), (.int (0 : Int32))] h0 (ogf Z a0 h0 n0) := by
  refine ou (plainFor_of_name oad) (fun m => obT m a0 (0 : Int32)) ?_
  intro p e s m below meth c aa Bd hml hx hby hlk hown hnm hZ X0 e0
  have hd := oq obS hby
  have N0 := Fr.nil n0
  have K0 : Keep h0 h0 [] := Keep.refl _ _
  refine oj X0 hx (hd 0 rfl) rfl ?_
  refine og (S' := [])  (fun _ k => XS.ifNo X0.here hx rfl (hd 1 rfl) rfl ((if0 _ _).trans (teq (by decide)).2) k) ?_
  refine ol (v := (.int (0 : Int32))) (fun _ k => XS.iconst X0.here hx rfl (hd 2 rfl) k) ?_
  refine oJ (fun _ k => XS.goto X0.here hx rfl (pc0 := 5) (pc' := 16) rfl (hd 3 rfl) (by decide) (by decide) k) ?_
  exact oQ X0 hx hlk (by decide) (by decide) Bd.returns (hd 10 rfl) (by rw [e0]; exact ⟨rfl, N0, rfl⟩)
theorem ojq (hw : oo Z aw) (ws : List Jvm.Cond) (a0 : Addr) (ie : Nat) (k : ClassId) (vs : List Value) (h0 : Heap) (n0 : Nat) (Z0 : n0 ≤ h0.size) (aa : Fld Z h0 a0 "com/example/restate/restate/model/CensusColumns" "idEnds" "[I" (.ref ie)) (ae : Arv Z h0 ie k .int (1024 : Int32) vs (.int (0 : Int32))) (ah : vs.getD 0 (.int (0 : Int32)) = .int (0 : Int32)) :
    ot l Z (⟨"com/example/restate/restate/model/CensusColumns", "idStart", "(I)I"⟩ : MethodName) prog_32_method_23_code 2 (some .int) ws ({ frames := 0, cells := 0, slots := 0, locals := 0 } : Room) #[(.ref a0), (.int (1 : Int32))] h0 (ogg Z a0 ie k vs h0 n0) := by
  refine ou (plainFor_of_name oad) (fun m => obT m a0 (1 : Int32)) ?_
  intro p e s m below meth c ai Bd hml hx hby hlk hown hnm hZ X0 e0
  have hd := oq obS hby
  have N0 := Fr.nil n0
  have K0 : Keep h0 h0 [] := Keep.refl _ _
  refine oj X0 hx (hd 0 rfl) rfl ?_
  refine oC (S' := [])  (fun _ k => XS.ifYes X0.here hx rfl (pc0 := 1) (pc' := 8) rfl (hd 1 rfl) rfl ((if0 _ _).trans (feq (by decide)).2) (by decide) (by decide) k) ?_
  refine oc X0 hx (hd 4 rfl) rfl rfl ?_
  refine oi (getF X0 hx hZ hown (host := "") (Or.inl (hw 46 rfl)) Via.refl e0 aa rfl rfl (hd 5 rfl)) fun T1 X1 e1 => ?_
  refine oj X1 hx (hd 6 rfl) rfl ?_
  refine ol (v := (.int (1 : Int32))) (fun _ k => XS.iconst X1.here hx rfl (hd 7 rfl) k) ?_
  refine og (S' := [(.int ((1 : Int32) - (1 : Int32))), (.ref ie)])  (fun _ k => XS.isub X1.here hx rfl (hd 8 rfl) rfl k) ?_
  show oe p.tables e below _ (T1.setTop (mkF m 15 #[.val (.ref a0), .val (.int (1 : Int32))] [(.int ((1 : Int32) - (1 : Int32))), (.ref ie)]))
  rw [show ((1 : Int32) - (1 : Int32)) = (0 : Int32) from by decide]
  obtain ⟨ag, ac, q2, S2, aj, H2, G2⟩ := id ae
  have ab : ¬ ((0 : Int32) < 0 ∨ ag.slots.size ≤ ((0 : Int32)).toNatClampNeg) := inb_of S2 ⟨(by decide), (by decide)⟩
  have af : ag.slots[((0 : Int32)).toNatClampNeg]? = some (.int (0 : Int32)) := H2.at ab ah
  refine ow (fun _ k => X1.iaload hx (j := (0 : Int32)) (v := (.int (0 : Int32))) (by rw [e1]; exact ac.1) (State.isArrayOf_alike hZ.alike ac.2.1) ac.2.2 ab af rfl rfl (hd 9 rfl) _ k) ?_
  show oe p.tables e below _ (T1.setTop (mkF m 16 #[.val (.ref a0), .val (.int (1 : Int32))] [(.int (0 : Int32))]))
  exact oQ X1 hx hlk (by decide) (by decide) Bd.returns (hd 10 rfl) (by rw [e1]; exact ⟨rfl, N0, rfl⟩)
theorem ojr (hw : oo Z aw) (ws : List Jvm.Cond) (a0 : Addr) (sb : Nat) (k : ClassId) (kk : ov) (h0 : Heap) (n0 : Nat) (Z0 : n0 ≤ h0.size) (ac : Exa Z h0 a0 "java/lang/String") (aa : Fld Z h0 a0 "java/lang/String" "coder" "B" (.int (0 : Int32))) (ab : Fld Z h0 a0 "java/lang/String" "value" "[B" (.ref sb)) (ae : Arv Z h0 sb k .byte (0 : Int32) [] (.int (0 : Int32))) (J0 : oy Z h0 n0 kk) :
    ot l Z (⟨"java/lang/String", "coder", "()B"⟩ : MethodName) jdk_42_method_152_code 1 (some .byte) ws ({ frames := 0, cells := 0, slots := 0, locals := 0 } : Room) #[(.ref a0)] h0 (ogk Z a0 sb k kk h0 n0) := by
  refine ou (plainFor_of_name oaG) (fun m => ogj m a0) ?_
  intro p e s m below meth c af Bd hml hx hby hlk hown hnm hZ X0 e0
  have hd := oq ogi hby
  have N0 := Fr.nil n0
  have K0 : Keep h0 h0 [] := Keep.refl _ _
  refine oi (getS2 X0 hx hZ hown (host := "") (Or.inl (hw 403 rfl)) Via.refl e0 J0.cs rfl (hd 0 rfl)) fun T1 X1 e1 => ?_
  show oe p.tables e below _ (T1.setTop (mkF m 3 #[.val (.ref a0)] [(.int kk.cs)]))
  refine og (S' := [])  (fun _ k => XS.ifNo X1.here hx rfl (hd 1 rfl) rfl ((if0 _ _).trans (feq J0.cs0).1) k) ?_
  refine oc X1 hx (hd 2 rfl) rfl rfl ?_
  refine oi (getF X1 hx hZ hown (host := "") (Or.inl (hw 404 rfl)) Via.refl e1 aa rfl rfl (hd 3 rfl)) fun T2 X2 e2 => ?_
  refine oJ (fun _ k => XS.goto X2.here hx rfl (pc0 := 10) (pc' := 14) rfl (hd 4 rfl) (by decide) (by decide) k) ?_
  exact oap X2 hx hlk (by decide) (by decide) (t := .byte) Bd.returns (by simp) (hd 5 rfl) (by rw [e2]; exact ⟨rfl, N0, rfl⟩)
theorem ojs (hw : oo Z aw) (ws : List Jvm.Cond) (a0 : Addr) (sb : Nat) (k : ClassId) (kk : ov) (h0 : Heap) (n0 : Nat) (Z0 : n0 ≤ h0.size) (ac : Exa Z h0 a0 "java/lang/String") (aa : Fld Z h0 a0 "java/lang/String" "coder" "B" (.int (0 : Int32))) (ab : Fld Z h0 a0 "java/lang/String" "value" "[B" (.ref sb)) (ae : Arv Z h0 sb k .byte (0 : Int32) [] (.int (0 : Int32))) (J0 : oy Z h0 n0 kk) :
    ot l Z (⟨"java/lang/String", "isLatin1", "()Z"⟩ : MethodName) jdk_42_method_154_code 1 (some .boolean) ws ({ frames := 0, cells := 0, slots := 0, locals := 0 } : Room) #[(.ref a0)] h0 (ogo Z a0 sb k kk h0 n0) := by
  refine ou (plainFor_of_name oaG) (fun m => ogn m a0) ?_
  intro p e s m below meth c af Bd hml hx hby hlk hown hnm hZ X0 e0
  have hd := oq ogm hby
  have N0 := Fr.nil n0
  have K0 : Keep h0 h0 [] := Keep.refl _ _
  refine oi (getS2 X0 hx hZ hown (host := "") (Or.inl (hw 403 rfl)) Via.refl e0 J0.cs rfl (hd 0 rfl)) fun T1 X1 e1 => ?_
  show oe p.tables e below _ (T1.setTop (mkF m 3 #[.val (.ref a0)] [(.int kk.cs)]))
  refine og (S' := [])  (fun _ k => XS.ifNo X1.here hx rfl (hd 1 rfl) rfl ((if0 _ _).trans (feq J0.cs0).1) k) ?_
  refine oc X1 hx (hd 2 rfl) rfl rfl ?_
  refine oi (getF X1 hx hZ hown (host := "") (Or.inl (hw 404 rfl)) Via.refl e1 aa rfl rfl (hd 3 rfl)) fun T2 X2 e2 => ?_
  refine og (S' := [])  (fun _ k => XS.ifNo X2.here hx rfl (hd 4 rfl) rfl ((if0 _ _).trans (teq (by decide)).2) k) ?_
  refine ol (v := (.int (1 : Int32))) (fun _ k => XS.iconst X2.here hx rfl (hd 5 rfl) k) ?_
  refine oJ (fun _ k => XS.goto X2.here hx rfl (pc0 := 14) (pc' := 18) rfl (hd 6 rfl) (by decide) (by decide) k) ?_
  exact oap X2 hx hlk (by decide) (by decide) (t := .boolean) Bd.returns (by simp) (hd 7 rfl) (by rw [e2]; exact ⟨rfl, N0, rfl⟩)
theorem oaT (hw : oo Z aw) (ws : List Jvm.Cond) (a0 : Addr) (sb : Nat) (k : ClassId) (kk : ov) (h0 : Heap) (n0 : Nat) (Z0 : n0 ≤ h0.size) (ac : Exa Z h0 a0 "java/lang/String") (ab : Fld Z h0 a0 "java/lang/String" "coder" "B" (.int (0 : Int32))) (aa : Fld Z h0 a0 "java/lang/String" "value" "[B" (.ref sb)) (ae : Arv Z h0 sb k .byte (0 : Int32) [] (.int (0 : Int32))) (J0 : oy Z h0 n0 kk) :
    ot l Z (⟨"java/lang/String", "length", "()I"⟩ : MethodName) jdk_42_method_54_code 1 (some .int) ws ({ frames := 1, cells := 0, slots := 0, locals := 13 } : Room) #[(.ref a0)] h0 (ogt Z a0 sb k kk h0 n0) := by
  refine ou (plainFor_of_name oaG) (fun m => ogs m a0) ?_
  intro p e s m below meth c ak Bd hml hx hby hlk hown hnm hZ X0 e0
  have hd := oq ogr hby
  have N0 := Fr.nil n0
  have K0 : Keep h0 h0 [] := Keep.refl _ _
  refine oc X0 hx (hd 0 rfl) rfl rfl ?_
  refine oi (getF X0 hx hZ hown (host := "") (Or.inl (hw 397 rfl)) Via.refl e0 aa rfl rfl (hd 1 rfl)) fun T1 X1 e1 => ?_
  obtain ⟨ap, af, q2, S2, ai, H2, G2⟩ := id ae
  refine ow (fun _ k => X1.arraylength hx (by rw [e1]; exact af.1) (State.isArrayOf_alike hZ.alike af.2.1) rfl rfl (hd 2 rfl) _ k) ?_
  rw [len_of S2 ai]
  show oe p.tables e below _ (T1.setTop (mkF m 5 #[.val (.ref a0)] [(.int (0 : Int32))]))
  refine oc X1 hx (hd 3 rfl) rfl rfl ?_
  refine oB X1 hx hZ hown (hw 398 rfl) (hw 399 rfl) (hw 401 rfl) (hw 400 rfl) (hw 402 rfl) (hw 318 rfl) (by decide) (ojr l Z aw hw [] a0 sb k kk h0 n0 Z0 ac ab aa ae J0) e1 ac hml rfl rfl (rest := [(.int (0 : Int32))]) rfl (lenOf ogp rfl) (hd 4 rfl) rfl fun T3 ao v3 X3 aj => ?_
  obtain ⟨rfl, ag, e3⟩ := aj
  have ah := Fr.app N0 ag
  refine og (S' := [(.int ((0 : Int32) >>> ((0 : Int32) &&& 31)))])  (fun _ k => XS.ishr X3.here hx rfl (hd 5 rfl) rfl k) ?_
  show oe p.tables e below _ (T3.setTop (mkF m 10 #[.val (.ref a0)] [(.int ((0 : Int32) >>> ((0 : Int32) &&& 31)))]))
  rw [show ((0 : Int32) >>> ((0 : Int32) &&& 31)) = (0 : Int32) from by decide]
  exact oQ X3 hx hlk (by decide) (by decide) Bd.returns (hd 6 rfl) (by rw [e3]; exact ⟨rfl, ah, rfl⟩)
theorem ocm (hw : oo Z aw) (ws : List Jvm.Cond)  (h0 : Heap) (n0 : Nat) (Z0 : n0 ≤ h0.size) :
    ot l Z (⟨"java/lang/Math", "addExact", "(II)I"⟩ : MethodName) jdk_29_method_24_code 3 (some .int) ws ({ frames := 0, cells := 0, slots := 0, locals := 0 } : Room) #[(.int (0 : Int32)), (.int (0 : Int32))] h0 (ogx Z  h0 n0) := by
  refine ou (Jvm.Free.JP.mathPlain rfl (by decide +kernel)) (fun m => ogw m (0 : Int32) (0 : Int32)) ?_
  intro p e s m below meth c aa Bd hml hx hby hlk hown hnm hZ X0 e0
  have hd := oq ogv hby
  have N0 := Fr.nil n0
  have K0 : Keep h0 h0 [] := Keep.refl _ _
  refine oj X0 hx (hd 0 rfl) rfl ?_
  refine oj X0 hx (hd 1 rfl) rfl ?_
  refine og (S' := [(.int ((0 : Int32) + (0 : Int32)))])  (fun _ k => XS.iadd X0.here hx rfl (hd 2 rfl) rfl k) ?_
  show oe p.tables e below _ (aa.setTop (mkF m 3 #[.val (.int (0 : Int32)), .val (.int (0 : Int32)), .unset] [(.int ((0 : Int32) + (0 : Int32)))]))
  rw [show ((0 : Int32) + (0 : Int32)) = (0 : Int32) from by decide]
  refine oz (fun _ k => XS.istoreN X0.here hx rfl (hd 3 rfl) rfl (l' := #[.val (.int (0 : Int32)), .val (.int (0 : Int32)), .val (.int (0 : Int32))]) rfl k) ?_
  refine oj X0 hx (hd 4 rfl) rfl ?_
  refine oj X0 hx (hd 5 rfl) rfl ?_
  refine og (S' := [(.int ((0 : Int32) ^^^ (0 : Int32)))])  (fun _ k => XS.ixor X0.here hx rfl (hd 6 rfl) rfl k) ?_
  show oe p.tables e below _ (aa.setTop (mkF m 7 #[.val (.int (0 : Int32)), .val (.int (0 : Int32)), .val (.int (0 : Int32))] [(.int ((0 : Int32) ^^^ (0 : Int32)))]))
  rw [show ((0 : Int32) ^^^ (0 : Int32)) = (0 : Int32) from by decide]
  refine oj X0 hx (hd 7 rfl) rfl ?_
  refine oj X0 hx (hd 8 rfl) rfl ?_
  refine og (S' := [(.int ((0 : Int32) ^^^ (0 : Int32))), (.int (0 : Int32))])  (fun _ k => XS.ixor X0.here hx rfl (hd 9 rfl) rfl k) ?_
  show oe p.tables e below _ (aa.setTop (mkF m 10 #[.val (.int (0 : Int32)), .val (.int (0 : Int32)), .val (.int (0 : Int32))] [(.int ((0 : Int32) ^^^ (0 : Int32))), (.int (0 : Int32))]))
  rw [show ((0 : Int32) ^^^ (0 : Int32)) = (0 : Int32) from by decide]
  refine og (S' := [(.int ((0 : Int32) &&& (0 : Int32)))])  (fun _ k => XS.iand X0.here hx rfl (hd 10 rfl) rfl k) ?_
  show oe p.tables e below _ (aa.setTop (mkF m 11 #[.val (.int (0 : Int32)), .val (.int (0 : Int32)), .val (.int (0 : Int32))] [(.int ((0 : Int32) &&& (0 : Int32)))]))
  rw [show ((0 : Int32) &&& (0 : Int32)) = (0 : Int32) from by decide]
  refine oC (S' := [])  (fun _ k => XS.ifYes X0.here hx rfl (pc0 := 11) (pc' := 24) rfl (hd 11 rfl) rfl ((if0 _ _).trans (flt (by decide)).2.1) (by decide) (by decide) k) ?_
  refine oj X0 hx (hd 12 rfl) rfl ?_
  exact oQ X0 hx hlk (by decide) (by decide) Bd.returns (hd 13 rfl) (by rw [e0]; exact ⟨rfl, N0, rfl⟩)
theorem ojt (hw : oo Z aw) (ws : List Jvm.Cond)  (h0 : Heap) (n0 : Nat) (Z0 : n0 ≤ h0.size) :
    ot l Z (⟨"jdk/internal/util/Preconditions", "checkFromToIndex", "(IIILjava/util/function/BiFunction;)I"⟩ : MethodName) jdk_41_method_12_code 4 (some .int) ws ({ frames := 0, cells := 0, slots := 0, locals := 0 } : Room) #[(.int (0 : Int32)), (.int (0 : Int32)), (.int (0 : Int32)), .null] h0 (oaH (0 : Int32) h0 n0) := by
  refine ou (plainFor_of_name oaR) (fun m => ogz m (0 : Int32) (0 : Int32) (0 : Int32)) ?_
  intro p e s m below meth c aa Bd hml hx hby hlk hown hnm hZ X0 e0
  have hd := oq obU hby
  have N0 := Fr.nil n0
  have K0 : Keep h0 h0 [] := Keep.refl _ _
  refine oj X0 hx (hd 0 rfl) rfl ?_
  refine og (S' := [])  (fun _ k => XS.ifNo X0.here hx rfl (hd 1 rfl) rfl ((if0 _ _).trans (flt (by decide)).1) k) ?_
  refine oj X0 hx (hd 2 rfl) rfl ?_
  refine oj X0 hx (hd 3 rfl) rfl ?_
  refine og (S' := [])  (fun _ k => XS.icmpNo X0.here hx rfl (hd 4 rfl) rfl (flt (by decide)).2.2.1 k) ?_
  refine oj X0 hx (hd 5 rfl) rfl ?_
  refine oj X0 hx (hd 6 rfl) rfl ?_
  refine oC (S' := [])  (fun _ k => XS.icmpYes X0.here hx rfl (pc0 := 11) (pc' := 22) rfl (hd 7 rfl) rfl (flt (by decide)).2.2.2 (by decide) (by decide) k) ?_
  refine oj X0 hx (hd 8 rfl) rfl ?_
  exact oQ X0 hx hlk (by decide) (by decide) Bd.returns (hd 9 rfl) (by rw [e0]; exact ⟨rfl, N0, rfl⟩)
theorem oju (hw : oo Z aw) (ws : List Jvm.Cond) (y : Addr) (h0 : Heap) (n0 : Nat) (Z0 : n0 ≤ h0.size) :
    ot l Z (⟨"jdk/internal/util/Preconditions", "checkFromToIndex", "(IIILjava/util/function/BiFunction;)I"⟩ : MethodName) jdk_41_method_12_code 4 (some .int) ws ({ frames := 0, cells := 0, slots := 0, locals := 0 } : Room) #[(.int (0 : Int32)), (.int (0 : Int32)), (.int (0 : Int32)), (.ref y)] h0 (oaH (0 : Int32) h0 n0) := by
  refine ou (plainFor_of_name oaR) (fun m => ogA m (0 : Int32) (0 : Int32) (0 : Int32) y) ?_
  intro p e s m below meth c aa Bd hml hx hby hlk hown hnm hZ X0 e0
  have hd := oq obU hby
  have N0 := Fr.nil n0
  have K0 : Keep h0 h0 [] := Keep.refl _ _
  refine oj X0 hx (hd 0 rfl) rfl ?_
  refine og (S' := [])  (fun _ k => XS.ifNo X0.here hx rfl (hd 1 rfl) rfl ((if0 _ _).trans (flt (by decide)).1) k) ?_
  refine oj X0 hx (hd 2 rfl) rfl ?_
  refine oj X0 hx (hd 3 rfl) rfl ?_
  refine og (S' := [])  (fun _ k => XS.icmpNo X0.here hx rfl (hd 4 rfl) rfl (flt (by decide)).2.2.1 k) ?_
  refine oj X0 hx (hd 5 rfl) rfl ?_
  refine oj X0 hx (hd 6 rfl) rfl ?_
  refine oC (S' := [])  (fun _ k => XS.icmpYes X0.here hx rfl (pc0 := 11) (pc' := 22) rfl (hd 7 rfl) rfl (flt (by decide)).2.2.2 (by decide) (by decide) k) ?_
  refine oj X0 hx (hd 8 rfl) rfl ?_
  exact oQ X0 hx hlk (by decide) (by decide) Bd.returns (hd 9 rfl) (by rw [e0]; exact ⟨rfl, N0, rfl⟩)
theorem ojv (hw : oo Z aw) (ws : List Jvm.Cond) (u : Value) (h0 : Heap) (n0 : Nat) (Z0 : n0 ≤ h0.size) (hr : u.isRef = true) :
    MetFree l (⟨"jdk/internal/util/Preconditions", "checkFromToIndex", "(IIILjava/util/function/BiFunction;)I"⟩ : MethodName) (head1 (Jvm.Cond.code (⟨"jdk/internal/util/Preconditions", "checkFromToIndex", "(IIILjava/util/function/BiFunction;)I"⟩ : MethodName) jdk_41_method_12_code 4 (some .int) :: ws) ({ frames := 0, cells := 0, slots := 0, locals := 0 } : Room)) (fun a U => a = #[(.int (0 : Int32)), (.int (0 : Int32)), (.int (0 : Int32)), u] ∧ Z.Warmed39 U.vm ∧ U.heap = h0) (fun _ _ _ _ _ => True) (fun _ U o U' => ∃ v L, o = .returned v ∧ oaH (0 : Int32) h0 n0 v U'.heap L ∧ FrameEnd U o U' L ({ frames := 0, cells := 0, slots := 0, locals := 0 } : Room).cells ({ frames := 0, cells := 0, slots := 0, locals := 0 } : Room).slots) := by
  cases u with
  | null => exact ojt l Z aw hw ws h0 n0 Z0
  | ref y => exact oju l Z aw hw ws y h0 n0 Z0
  | _ => cases hr
theorem ojw (hw : oo Z aw) (ws : List Jvm.Cond)  (h0 : Heap) (n0 : Nat) (Z0 : n0 ≤ h0.size) :
    ot l Z (⟨"jdk/internal/util/Preconditions", "checkFromIndexSize", "(IIILjava/util/function/BiFunction;)I"⟩ : MethodName) jdk_41_method_13_code 4 (some .int) ws ({ frames := 0, cells := 0, slots := 0, locals := 0 } : Room) #[(.int (0 : Int32)), (.int (0 : Int32)), (.int (8192 : Int32)), .null] h0 (oaH (0 : Int32) h0 n0) := by
  refine ou (plainFor_of_name oaR) (fun m => ogC m (0 : Int32) (0 : Int32) (8192 : Int32)) ?_
  intro p e s m below meth c aa Bd hml hx hby hlk hown hnm hZ X0 e0
  have hd := oq obV hby
  have N0 := Fr.nil n0
  have K0 : Keep h0 h0 [] := Keep.refl _ _
  refine oj X0 hx (hd 0 rfl) rfl ?_
  refine oj X0 hx (hd 1 rfl) rfl ?_
  refine og (S' := [(.int ((8192 : Int32) ||| (0 : Int32)))])  (fun _ k => XS.ior X0.here hx rfl (hd 2 rfl) rfl k) ?_
  show oe p.tables e below _ (aa.setTop (mkF m 3 #[.val (.int (0 : Int32)), .val (.int (0 : Int32)), .val (.int (8192 : Int32)), .val .null] [(.int ((8192 : Int32) ||| (0 : Int32)))]))
  rw [show ((8192 : Int32) ||| (0 : Int32)) = (8192 : Int32) from by decide]
  refine oj X0 hx (hd 3 rfl) rfl ?_
  refine og (S' := [(.int ((8192 : Int32) ||| (0 : Int32)))])  (fun _ k => XS.ior X0.here hx rfl (hd 4 rfl) rfl k) ?_
  show oe p.tables e below _ (aa.setTop (mkF m 5 #[.val (.int (0 : Int32)), .val (.int (0 : Int32)), .val (.int (8192 : Int32)), .val .null] [(.int ((8192 : Int32) ||| (0 : Int32)))]))
  rw [show ((8192 : Int32) ||| (0 : Int32)) = (8192 : Int32) from by decide]
  refine og (S' := [])  (fun _ k => XS.ifNo X0.here hx rfl (hd 5 rfl) rfl ((if0 _ _).trans (flt (by decide)).1) k) ?_
  refine oj X0 hx (hd 6 rfl) rfl ?_
  refine oj X0 hx (hd 7 rfl) rfl ?_
  refine oj X0 hx (hd 8 rfl) rfl ?_
  refine og (S' := [(.int ((8192 : Int32) - (0 : Int32))), (.int (0 : Int32))])  (fun _ k => XS.isub X0.here hx rfl (hd 9 rfl) rfl k) ?_
  show oe p.tables e below _ (aa.setTop (mkF m 12 #[.val (.int (0 : Int32)), .val (.int (0 : Int32)), .val (.int (8192 : Int32)), .val .null] [(.int ((8192 : Int32) - (0 : Int32))), (.int (0 : Int32))]))
  rw [show ((8192 : Int32) - (0 : Int32)) = (8192 : Int32) from by decide]
  refine oC (S' := [])  (fun _ k => XS.icmpYes X0.here hx rfl (pc0 := 12) (pc' := 23) rfl (hd 10 rfl) rfl (flt (by decide)).2.2.2 (by decide) (by decide) k) ?_
  refine oj X0 hx (hd 11 rfl) rfl ?_
  exact oQ X0 hx hlk (by decide) (by decide) Bd.returns (hd 12 rfl) (by rw [e0]; exact ⟨rfl, N0, rfl⟩)
theorem ojx (hw : oo Z aw) (ws : List Jvm.Cond) (y : Addr) (h0 : Heap) (n0 : Nat) (Z0 : n0 ≤ h0.size) :
    ot l Z (⟨"jdk/internal/util/Preconditions", "checkFromIndexSize", "(IIILjava/util/function/BiFunction;)I"⟩ : MethodName) jdk_41_method_13_code 4 (some .int) ws ({ frames := 0, cells := 0, slots := 0, locals := 0 } : Room) #[(.int (0 : Int32)), (.int (0 : Int32)), (.int (8192 : Int32)), (.ref y)] h0 (oaH (0 : Int32) h0 n0) := by
  refine ou (plainFor_of_name oaR) (fun m => ogD m (0 : Int32) (0 : Int32) (8192 : Int32) y) ?_
  intro p e s m below meth c aa Bd hml hx hby hlk hown hnm hZ X0 e0
  have hd := oq obV hby
  have N0 := Fr.nil n0
  have K0 : Keep h0 h0 [] := Keep.refl _ _
  refine oj X0 hx (hd 0 rfl) rfl ?_
  refine oj X0 hx (hd 1 rfl) rfl ?_
  refine og (S' := [(.int ((8192 : Int32) ||| (0 : Int32)))])  (fun _ k => XS.ior X0.here hx rfl (hd 2 rfl) rfl k) ?_
  show oe p.tables e below _ (aa.setTop (mkF m 3 #[.val (.int (0 : Int32)), .val (.int (0 : Int32)), .val (.int (8192 : Int32)), .val (.ref y)] [(.int ((8192 : Int32) ||| (0 : Int32)))]))
  rw [show ((8192 : Int32) ||| (0 : Int32)) = (8192 : Int32) from by decide]
  refine oj X0 hx (hd 3 rfl) rfl ?_
  refine og (S' := [(.int ((8192 : Int32) ||| (0 : Int32)))])  (fun _ k => XS.ior X0.here hx rfl (hd 4 rfl) rfl k) ?_
  show oe p.tables e below _ (aa.setTop (mkF m 5 #[.val (.int (0 : Int32)), .val (.int (0 : Int32)), .val (.int (8192 : Int32)), .val (.ref y)] [(.int ((8192 : Int32) ||| (0 : Int32)))]))
  rw [show ((8192 : Int32) ||| (0 : Int32)) = (8192 : Int32) from by decide]
  refine og (S' := [])  (fun _ k => XS.ifNo X0.here hx rfl (hd 5 rfl) rfl ((if0 _ _).trans (flt (by decide)).1) k) ?_
  refine oj X0 hx (hd 6 rfl) rfl ?_
  refine oj X0 hx (hd 7 rfl) rfl ?_
  refine oj X0 hx (hd 8 rfl) rfl ?_
  refine og (S' := [(.int ((8192 : Int32) - (0 : Int32))), (.int (0 : Int32))])  (fun _ k => XS.isub X0.here hx rfl (hd 9 rfl) rfl k) ?_
  show oe p.tables e below _ (aa.setTop (mkF m 12 #[.val (.int (0 : Int32)), .val (.int (0 : Int32)), .val (.int (8192 : Int32)), .val (.ref y)] [(.int ((8192 : Int32) - (0 : Int32))), (.int (0 : Int32))]))
  rw [show ((8192 : Int32) - (0 : Int32)) = (8192 : Int32) from by decide]
  refine oC (S' := [])  (fun _ k => XS.icmpYes X0.here hx rfl (pc0 := 12) (pc' := 23) rfl (hd 10 rfl) rfl (flt (by decide)).2.2.2 (by decide) (by decide) k) ?_
  refine oj X0 hx (hd 11 rfl) rfl ?_
  exact oQ X0 hx hlk (by decide) (by decide) Bd.returns (hd 12 rfl) (by rw [e0]; exact ⟨rfl, N0, rfl⟩)
theorem ojy (hw : oo Z aw) (ws : List Jvm.Cond) (u : Value) (h0 : Heap) (n0 : Nat) (Z0 : n0 ≤ h0.size) (hr : u.isRef = true) :
    MetFree l (⟨"jdk/internal/util/Preconditions", "checkFromIndexSize", "(IIILjava/util/function/BiFunction;)I"⟩ : MethodName) (head1 (Jvm.Cond.code (⟨"jdk/internal/util/Preconditions", "checkFromIndexSize", "(IIILjava/util/function/BiFunction;)I"⟩ : MethodName) jdk_41_method_13_code 4 (some .int) :: ws) ({ frames := 0, cells := 0, slots := 0, locals := 0 } : Room)) (fun a U => a = #[(.int (0 : Int32)), (.int (0 : Int32)), (.int (8192 : Int32)), u] ∧ Z.Warmed39 U.vm ∧ U.heap = h0) (fun _ _ _ _ _ => True) (fun _ U o U' => ∃ v L, o = .returned v ∧ oaH (0 : Int32) h0 n0 v U'.heap L ∧ FrameEnd U o U' L ({ frames := 0, cells := 0, slots := 0, locals := 0 } : Room).cells ({ frames := 0, cells := 0, slots := 0, locals := 0 } : Room).slots) := by
  cases u with
  | null => exact ojw l Z aw hw ws h0 n0 Z0
  | ref y => exact ojx l Z aw hw ws y h0 n0 Z0
  | _ => cases hr
theorem ojz (hw : oo Z aw) (ws : List Jvm.Cond) (kk : ov) (h0 : Heap) (n0 : Nat) (Z0 : n0 ≤ h0.size) (J0 : oy Z h0 n0 kk) :
    ot l Z (⟨"java/lang/String", "checkBoundsBeginEnd", "(III)V"⟩ : MethodName) jdk_42_method_158_code 3 none ws ({ frames := 1, cells := 0, slots := 0, locals := 15 } : Room) #[(.int (0 : Int32)), (.int (0 : Int32)), (.int (0 : Int32))] h0 (ogH Z kk h0 n0) := by
  refine ou (plainFor_of_name oaG) (fun m => ogG m (0 : Int32) (0 : Int32) (0 : Int32)) ?_
  intro p e s m below meth c ae Bd hml hx hby hlk hown hnm hZ X0 e0
  have hd := oq ogF hby
  have N0 := Fr.nil n0
  have K0 : Keep h0 h0 [] := Keep.refl _ _
  refine oj X0 hx (hd 0 rfl) rfl ?_
  refine oj X0 hx (hd 1 rfl) rfl ?_
  refine oj X0 hx (hd 2 rfl) rfl ?_
  refine oi (getS2 X0 hx hZ hown (host := "") (Or.inl (hw 417 rfl)) Via.refl e0 J0.fm rfl (hd 3 rfl)) fun T1 X1 e1 => ?_
  show oe p.tables e below _ (T1.setTop (mkF m 6 #[.val (.int (0 : Int32)), .val (.int (0 : Int32)), .val (.int (0 : Int32))] [kk.fm, (.int (0 : Int32)), (.int (0 : Int32)), (.int (0 : Int32))]))
  refine oL X1 hx hZ hown (hw 418 rfl) (hw 419 rfl) (hw 420 rfl) (hw 357 rfl) (by decide) (ojv l Z aw hw [] kk.fm h0 n0 Z0 J0.fmr) e1 hml rfl rfl (rest := []) rfl (lenOf obW rfl) (hd 4 rfl) rfl fun T2 af v2 X2 ac => ?_
  obtain ⟨rfl, aa, e2⟩ := ac
  have ab := Fr.app N0 aa
  refine og (S' := [])  (fun _ k => XS.pop X2.here hx rfl (hd 5 rfl) rfl rfl k) ?_
  exact oG X2 hx hlk (by decide) (by decide) Bd.returns (hd 6 rfl) (by rw [e2]; exact ⟨rfl, ab, rfl⟩)
theorem ojA (hw : oo Z aw) (ws : List Jvm.Cond) (kk : ov) (h0 : Heap) (n0 : Nat) (Z0 : n0 ≤ h0.size) (J0 : oy Z h0 n0 kk) :
    ot l Z (⟨"java/lang/String", "checkBoundsOffCount", "(III)I"⟩ : MethodName) jdk_42_method_157_code 3 (some .int) ws ({ frames := 1, cells := 0, slots := 0, locals := 15 } : Room) #[(.int (0 : Int32)), (.int (0 : Int32)), (.int (8192 : Int32))] h0 (ogL Z kk h0 n0) := by
  refine ou (plainFor_of_name oaG) (fun m => ogK m (0 : Int32) (0 : Int32) (8192 : Int32)) ?_
  intro p e s m below meth c ae Bd hml hx hby hlk hown hnm hZ X0 e0
  have hd := oq ogJ hby
  have N0 := Fr.nil n0
  have K0 : Keep h0 h0 [] := Keep.refl _ _
  refine oj X0 hx (hd 0 rfl) rfl ?_
  refine oj X0 hx (hd 1 rfl) rfl ?_
  refine oj X0 hx (hd 2 rfl) rfl ?_
  refine oi (getS2 X0 hx hZ hown (host := "") (Or.inl (hw 417 rfl)) Via.refl e0 J0.fm rfl (hd 3 rfl)) fun T1 X1 e1 => ?_
  show oe p.tables e below _ (T1.setTop (mkF m 6 #[.val (.int (0 : Int32)), .val (.int (0 : Int32)), .val (.int (8192 : Int32))] [kk.fm, (.int (8192 : Int32)), (.int (0 : Int32)), (.int (0 : Int32))]))
  refine oL X1 hx hZ hown (hw 424 rfl) (hw 425 rfl) (hw 426 rfl) (hw 357 rfl) (by decide) (ojy l Z aw hw [] kk.fm h0 n0 Z0 J0.fmr) e1 hml rfl rfl (rest := []) rfl (lenOf obW rfl) (hd 4 rfl) rfl fun T2 af v2 X2 ac => ?_
  obtain ⟨rfl, aa, e2⟩ := ac
  have ab := Fr.app N0 aa
  exact oQ X2 hx hlk (by decide) (by decide) Bd.returns (hd 5 rfl) (by rw [e2]; exact ⟨rfl, ab, rfl⟩)
theorem ojB (hw : oo Z aw) (ws : List Jvm.Cond) (a0 : Addr) (a2 : Addr) (h0 : Heap) (n0 : Nat) (Z0 : n0 ≤ h0.size) :
    ot l Z (⟨"java/lang/StringLatin1", "inflate", "([BI[CII)V"⟩ : MethodName) jdk_43_method_49_code 6 none ws ({ frames := 0, cells := 0, slots := 0, locals := 0 } : Room) #[(.ref a0), (.int (0 : Int32)), (.ref a2), (.int (0 : Int32)), (.int (0 : Int32))] h0 (ogP Z a0 a2 h0 n0) := by
  refine ou (plainFor_of_name obX) (fun m => ogO m a0 (0 : Int32) a2 (0 : Int32) (0 : Int32)) ?_
  intro p e s m below meth c aa Bd hml hx hby hlk hown hnm hZ X0 e0
  have hd := oq ogN hby
  have N0 := Fr.nil n0
  have K0 : Keep h0 h0 [] := Keep.refl _ _
  refine ol (v := (.int (0 : Int32))) (fun _ k => XS.iconst X0.here hx rfl (hd 0 rfl) k) ?_
  refine oz (fun _ k => XS.istore X0.here hx rfl (hd 1 rfl) rfl (l' := #[.val (.ref a0), .val (.int (0 : Int32)), .val (.ref a2), .val (.int (0 : Int32)), .val (.int (0 : Int32)), .val (.int (0 : Int32))]) rfl k) ?_
  refine oH X0 hx (hd 2 rfl) rfl ?_
  refine oH X0 hx (hd 3 rfl) rfl ?_
  refine oC (S' := [])  (fun _ k => XS.icmpYes X0.here hx rfl (pc0 := 7) (pc' := 33) rfl (hd 4 rfl) rfl (flt (by decide)).2.1 (by decide) (by decide) k) ?_
  exact oG X0 hx hlk (by decide) (by decide) Bd.returns (hd 5 rfl) (by rw [e0]; exact ⟨rfl, N0, rfl⟩)
theorem ojC (hw : oo Z aw) (ws : List Jvm.Cond) (a0 : Addr) (a3 : Addr) (h0 : Heap) (n0 : Nat) (Z0 : n0 ≤ h0.size) :
    ot l Z (⟨"java/lang/StringLatin1", "getChars", "([BII[CI)V"⟩ : MethodName) jdk_43_method_11_code 5 none ws ({ frames := 1, cells := 0, slots := 0, locals := 17 } : Room) #[(.ref a0), (.int (0 : Int32)), (.int (0 : Int32)), (.ref a3), (.int (0 : Int32))] h0 (ogU Z a0 a3 h0 n0) := by
  refine ou (plainFor_of_name obX) (fun m => ogT m a0 (0 : Int32) (0 : Int32) a3 (0 : Int32)) ?_
  intro p e s m below meth c aa Bd hml hx hby hlk hown hnm hZ X0 e0
  have hd := oq ogS hby
  have N0 := Fr.nil n0
  have K0 : Keep h0 h0 [] := Keep.refl _ _
  refine oc X0 hx (hd 0 rfl) rfl rfl ?_
  refine oj X0 hx (hd 1 rfl) rfl ?_
  refine oc X0 hx (hd 2 rfl) rfl rfl ?_
  refine oH X0 hx (hd 3 rfl) rfl ?_
  refine oj X0 hx (hd 4 rfl) rfl ?_
  refine oj X0 hx (hd 5 rfl) rfl ?_
  refine og (S' := [(.int ((0 : Int32) - (0 : Int32))), (.int (0 : Int32)), (.ref a3), (.int (0 : Int32)), (.ref a0)])  (fun _ k => XS.isub X0.here hx rfl (hd 6 rfl) rfl k) ?_
  show oe p.tables e below _ (aa.setTop (mkF m 8 #[.val (.ref a0), .val (.int (0 : Int32)), .val (.int (0 : Int32)), .val (.ref a3), .val (.int (0 : Int32))] [(.int ((0 : Int32) - (0 : Int32))), (.int (0 : Int32)), (.ref a3), (.int (0 : Int32)), (.ref a0)]))
  rw [show ((0 : Int32) - (0 : Int32)) = (0 : Int32) from by decide]
  refine oL X0 hx hZ hown (hw 436 rfl) (hw 437 rfl) (hw 438 rfl) (hw 434 rfl) (by decide) (ojB l Z aw hw [] a0 a3 h0 n0 Z0 ) e0 hml rfl rfl (rest := []) rfl (lenOf ogQ rfl) (hd 7 rfl) rfl fun T1 af v1 X1 ae => ?_
  obtain ⟨rfl, ab, e1⟩ := ae
  have ac := Fr.app N0 ab
  exact oG X1 hx hlk (by decide) (by decide) Bd.returns (hd 8 rfl) (by rw [e1]; exact ⟨rfl, ac, rfl⟩)
theorem ocn (hw : oo Z aw) (ws : List Jvm.Cond) (a0 : Addr) (a3 : Addr) (sb : Nat) (k : ClassId) (kk : ov) (ki : ClassId) (vi : List Value) (h0 : Heap) (n0 : Nat) (Z0 : n0 ≤ h0.size) (ac : Exa Z h0 a0 "java/lang/String") (ab : Fld Z h0 a0 "java/lang/String" "coder" "B" (.int (0 : Int32))) (aa : Fld Z h0 a0 "java/lang/String" "value" "[B" (.ref sb)) (ae : Arv Z h0 sb k .byte (0 : Int32) [] (.int (0 : Int32))) (J0 : oy Z h0 n0 kk) (af : Arv Z h0 a3 ki .char (8192 : Int32) vi (.int (0 : Int32))) :
    ot l Z (⟨"java/lang/String", "getChars", "(II[CI)V"⟩ : MethodName) jdk_42_method_61_code 5 none ws ({ frames := 2, cells := 0, slots := 0, locals := 33 } : Room) #[(.ref a0), (.int (0 : Int32)), (.int (0 : Int32)), (.ref a3), (.int (0 : Int32))] h0 (og0 Z a0 a3 sb k kk ki vi h0 n0) := by
  refine ou (plainFor_of_name oaG) (fun m => ogZ m a0 (0 : Int32) (0 : Int32) a3 (0 : Int32)) ?_
  intro p e s m below meth c aE Bd hml hx hby hlk hown hnm hZ X0 e0
  have hd := oq ogY hby
  have N0 := Fr.nil n0
  have K0 : Keep h0 h0 [] := Keep.refl _ _
  refine oj X0 hx (hd 0 rfl) rfl ?_
  refine oj X0 hx (hd 1 rfl) rfl ?_
  refine oc X0 hx (hd 2 rfl) rfl rfl ?_
  refine oB X0 hx hZ hown (hw 413 rfl) (hw 393 rfl) (hw 395 rfl) (hw 394 rfl) (hw 396 rfl) (hw 318 rfl) (by decide) (oaT l Z aw hw [] a0 sb k kk h0 n0 Z0 ac ab aa ae J0) e0 ac hml rfl rfl (rest := [(.int (0 : Int32)), (.int (0 : Int32))]) rfl (lenOf oV rfl) (hd 3 rfl) rfl fun T1 aF v1 X1 az => ?_
  obtain ⟨rfl, ah, e1⟩ := az
  have ap := Fr.app N0 ah
  refine oL X1 hx hZ hown (hw 414 rfl) (hw 415 rfl) (hw 416 rfl) (hw 318 rfl) (by decide) (ojz l Z aw hw [] kk h0 n0 Z0 J0) e1 hml rfl rfl (rest := []) rfl (lenOf obE rfl) (hd 4 rfl) rfl fun T2 aG v2 X2 aA => ?_
  obtain ⟨rfl, ai, e2⟩ := aA
  have aq := Fr.app ap ai
  refine oH X2 hx (hd 5 rfl) rfl ?_
  refine oj X2 hx (hd 6 rfl) rfl ?_
  refine oj X2 hx (hd 7 rfl) rfl ?_
  refine og (S' := [(.int ((0 : Int32) - (0 : Int32))), (.int (0 : Int32))])  (fun _ k => XS.isub X2.here hx rfl (hd 8 rfl) rfl k) ?_
  show oe p.tables e below _ (T2.setTop (mkF m 14 #[.val (.ref a0), .val (.int (0 : Int32)), .val (.int (0 : Int32)), .val (.ref a3), .val (.int (0 : Int32))] [(.int ((0 : Int32) - (0 : Int32))), (.int (0 : Int32))]))
  rw [show ((0 : Int32) - (0 : Int32)) = (0 : Int32) from by decide]
  refine oc X2 hx (hd 9 rfl) rfl rfl ?_
  obtain ⟨aK, ag, q3, S3, ay, H3, G3⟩ := id af
  refine ow (fun _ k => X2.arraylength hx (by rw [e2]; exact ag.1) (State.isArrayOf_alike hZ.alike ag.2.1) rfl rfl (hd 10 rfl) _ k) ?_
  rw [len_of S3 ay]
  show oe p.tables e below _ (T2.setTop (mkF m 16 #[.val (.ref a0), .val (.int (0 : Int32)), .val (.int (0 : Int32)), .val (.ref a3), .val (.int (0 : Int32))] [(.int (8192 : Int32)), (.int (0 : Int32)), (.int (0 : Int32))]))
  refine oL X2 hx hZ hown (hw 421 rfl) (hw 422 rfl) (hw 423 rfl) (hw 318 rfl) (by decide) (ojA l Z aw hw [] kk h0 n0 Z0 J0) e2 hml rfl rfl (rest := []) rfl (lenOf ogV rfl) (hd 11 rfl) rfl fun T4 aH v4 X4 aB => ?_
  obtain ⟨rfl, aj, e4⟩ := aB
  have au := Fr.app aq aj
  refine og (S' := [])  (fun _ k => XS.pop X4.here hx rfl (hd 12 rfl) rfl rfl k) ?_
  refine oc X4 hx (hd 13 rfl) rfl rfl ?_
  refine oB X4 hx hZ hown (hw 427 rfl) (hw 428 rfl) (hw 430 rfl) (hw 429 rfl) (hw 431 rfl) (hw 318 rfl) (by decide) (ojs l Z aw hw [] a0 sb k kk h0 n0 Z0 ac ab aa ae J0) e4 ac hml rfl rfl (rest := []) rfl (lenOf obR rfl) (hd 14 rfl) rfl fun T5 aI v5 X5 aC => ?_
  obtain ⟨rfl, ak, e5⟩ := aC
  have av := Fr.app au ak
  refine og (S' := [])  (fun _ k => XS.ifNo X5.here hx rfl (hd 15 rfl) rfl ((if0 _ _).trans (feq (by decide)).1) k) ?_
  refine oc X5 hx (hd 16 rfl) rfl rfl ?_
  refine oi (getF X5 hx hZ hown (host := "") (Or.inl (hw 397 rfl)) Via.refl e5 aa rfl rfl (hd 17 rfl)) fun T6 X6 e6 => ?_
  refine oj X6 hx (hd 18 rfl) rfl ?_
  refine oj X6 hx (hd 19 rfl) rfl ?_
  refine oc X6 hx (hd 20 rfl) rfl rfl ?_
  refine oH X6 hx (hd 21 rfl) rfl ?_
  refine oL X6 hx hZ hown (hw 432 rfl) (hw 433 rfl) (hw 435 rfl) (hw 434 rfl) (by decide) (ojC l Z aw hw [] sb a3 h0 n0 Z0 ) e6 hml rfl rfl (rest := []) rfl (lenOf ogW rfl) (hd 22 rfl) rfl fun T7 aJ v7 X7 aD => ?_
  obtain ⟨rfl, ao, e7⟩ := aD
  have ax := Fr.app av ao
  refine oJ (fun _ k => XS.goto X7.here hx rfl (pc0 := 39) (pc' := 54) rfl (hd 23 rfl) (by decide) (by decide) k) ?_
  exact oG X7 hx hlk (by decide) (by decide) Bd.returns (hd 24 rfl) (by rw [e7]; exact ⟨rfl, ax, rfl⟩)
theorem oa9 (hw : oo Z aw) (ws : List Jvm.Cond) (a0 : Addr) (q1 : Int64) (n : Nat) (sh : Int64) (h0 : Heap) (n0 : Nat) (Z0 : n0 ≤ h0.size) (af : Exa Z h0 a0 "com/example/restate/restate/model/LongColumn") (ab : Fld Z h0 a0 "com/example/restate/restate/model/LongColumn" "size" "I" (.int (Int32.ofNat n))) (aa : Fld Z h0 a0 "com/example/restate/restate/model/LongColumn" "shared" "J" (.long sh)) (ae : Fld Z h0 a0 "com/example/restate/restate/model/LongColumn" "ints" "[I" .null) (ac : Fld Z h0 a0 "com/example/restate/restate/model/LongColumn" "longs" "[J" .null) (ag : n0 ≤ a0) (hn : n < 16) (hv : n = 0 ∨ q1 = sh) :
    ot l Z (⟨"com/example/restate/restate/model/LongColumn", "add", "(J)V"⟩ : MethodName) prog_46_method_3_code 4 none ws ({ frames := 3, cells := 1, slots := 16, locals := 44 } : Room) #[(.ref a0), (.long q1)] h0 (og1 Z a0 q1 n sh h0 n0) := by
  refine ou (plainFor_of_name o9) (fun m => obI m a0 q1) ?_
  intro p e s m below meth c aD Bd hml hx hby hlk hown hnm hZ X0 e0
  have hd := oq obH hby
  have N0 := Fr.nil n0
  have K0 : Keep h0 h0 [a0] := Keep.refl _ _
  refine oc X0 hx (hd 0 rfl) rfl rfl ?_
  refine oi (getF X0 hx hZ hown (host := "") (Or.inl (hw 382 rfl)) Via.refl e0 ae rfl rfl (hd 1 rfl)) fun T1 X1 e1 => ?_
  refine og (S' := [])  (fun _ k => XS.ifnonnullNo X1.here hx rfl (hd 2 rfl) rfl k) ?_
  refine oc X1 hx (hd 3 rfl) rfl rfl ?_
  refine oi (getF X1 hx hZ hown (host := "") (Or.inl (hw 384 rfl)) Via.refl e1 ac rfl rfl (hd 4 rfl)) fun T2 X2 e2 => ?_
  refine og (S' := [])  (fun _ k => XS.ifnonnullNo X2.here hx rfl (hd 5 rfl) rfl k) ?_
  refine ol (v := (.int (1 : Int32))) (fun _ k => XS.iconst X2.here hx rfl (hd 6 rfl) k) ?_
  refine oJ (fun _ k => XS.goto X2.here hx rfl (pc0 := 15) (pc' := 19) rfl (hd 7 rfl) (by decide) (by decide) k) ?_
  refine oz (fun _ k => XS.istoreN X2.here hx rfl (hd 8 rfl) rfl (l' := #[.val (.ref a0), .val (.long q1), .second, .val (.int (1 : Int32))]) rfl k) ?_
  refine oj X2 hx (hd 9 rfl) rfl ?_
  refine og (S' := [])  (fun _ k => XS.ifNo X2.here hx rfl (hd 10 rfl) rfl ((if0 _ _).trans (feq (by decide)).1) k) ?_
  refine oc X2 hx (hd 11 rfl) rfl rfl ?_
  refine oi (getF X2 hx hZ hown (host := "") (Or.inl (hw 375 rfl)) Via.refl e2 ab rfl rfl (hd 12 rfl)) fun T3 X3 e3 => ?_
  by_cases ai : (Int32.ofNat n) = (0 : Int32)
  · refine oC (S' := [])  (fun _ k => XS.ifYes X3.here hx rfl (pc0 := 28) (pc' := 40) rfl (hd 13 rfl) rfl ((if0 _ _).trans (teq ai).1) (by decide) (by decide) k) ?_
    refine oc X3 hx (hd 19 rfl) rfl rfl ?_
    refine ol (fun _ k => XS.lloadN X3.here hx rfl (hd 20 rfl) rfl k) ?_
    refine ox (putF X3 hx hZ hown (host := "") (Or.inl (hw 386 rfl)) Via.refl e3 aa af (Or.inl (hw 387 rfl)) (hw 34 rfl) (ty := .long) (by decide) rfl rfl rfl rfl (hd 21 rfl)) fun T4 h4 X4 e4 W4 => ?_
    replace af := af.wr W4
    replace ab := ab.other W4 (Or.inr (ob (Or.inl (hw 376 rfl)) (Or.inl (hw 387 rfl)) (by decide)))
    replace aa := aa.same W4
    replace ae := ae.other W4 (Or.inr (ob (Or.inl (hw 383 rfl)) (Or.inl (hw 387 rfl)) (by decide)))
    replace ac := ac.other W4 (Or.inr (ob (Or.inl (hw 385 rfl)) (Or.inl (hw 387 rfl)) (by decide)))
    have ap := K0.wr W4 (Or.inl (List.mem_of_getElem? (i := 0) rfl))
    have aA := Nat.le_trans Z0 (Keep.of_wr W4).1
    have av := Fr.snoc X4 N0 ag
    refine oJ (fun _ k => XS.goto X4.here hx rfl (pc0 := 45) (pc' := 93) rfl (hd 22 rfl) (by decide) (by decide) k) ?_
    refine oc X4 hx (hd 44 rfl) rfl rfl ?_
    refine og (S' := [(.ref a0), (.ref a0)])  (fun _ k => XS.dup X4.here hx rfl (hd 45 rfl) rfl rfl k) ?_
    refine oi (getF X4 hx hZ hown (host := "") (Or.inl (hw 375 rfl)) Via.refl e4 ab rfl rfl (hd 46 rfl)) fun T5 X5 e5 => ?_
    refine ol (v := (.int (1 : Int32))) (fun _ k => XS.iconst X5.here hx rfl (hd 47 rfl) k) ?_
    refine og (S' := [(.int ((Int32.ofNat n) + (1 : Int32))), (.ref a0)])  (fun _ k => XS.iadd X5.here hx rfl (hd 48 rfl) rfl k) ?_
    refine ox (putF X5 hx hZ hown (host := "") (Or.inl (hw 375 rfl)) Via.refl e5 ab af (Or.inl (hw 376 rfl)) (hw 34 rfl) (ty := .int) (by decide) rfl rfl rfl rfl (hd 49 rfl)) fun T6 h6 X6 e6 W6 => ?_
    replace af := af.wr W6
    replace ab := ab.same W6
    replace aa := aa.other W6 (Or.inr (ob (Or.inl (hw 387 rfl)) (Or.inl (hw 376 rfl)) (by decide)))
    replace ae := ae.other W6 (Or.inr (ob (Or.inl (hw 383 rfl)) (Or.inl (hw 376 rfl)) (by decide)))
    replace ac := ac.other W6 (Or.inr (ob (Or.inl (hw 385 rfl)) (Or.inl (hw 376 rfl)) (by decide)))
    have aq := ap.wr W6 (Or.inl (List.mem_of_getElem? (i := 0) rfl))
    have aF := Nat.le_trans aA (Keep.of_wr W6).1
    have ax := Fr.snoc X6 av ag
    exact oG X6 hx hlk (by decide) (by decide) Bd.returns (hd 50 rfl) (by rw [e6]; exact ⟨rfl, ax, aq, obD af ab aa ae ac⟩)
  · refine og (S' := [])  (fun _ k => XS.ifNo X3.here hx rfl (hd 13 rfl) rfl ((if0 _ _).trans (feq ai).1) k) ?_
    refine ol (fun _ k => XS.lloadN X3.here hx rfl (hd 14 rfl) rfl k) ?_
    refine oc X3 hx (hd 15 rfl) rfl rfl ?_
    refine oi (getF X3 hx hZ hown (host := "") (Or.inl (hw 386 rfl)) Via.refl e3 aa rfl rfl (hd 16 rfl)) fun T7 X7 e7 => ?_
    refine og (S' := [(.int (lcmpW q1 sh))])  (fun _ k => XS.lcmp X7.here hx rfl (hd 17 rfl) rfl k) ?_
    refine og (S' := [])  (fun _ k => XS.ifNo X7.here hx rfl (hd 18 rfl) rfl ((if0 _ _).trans (teq ((oaq _ _).mpr (hv.resolve_left (fun q => ai (by rw [q]; rfl))))).2) k) ?_
    refine oc X7 hx (hd 19 rfl) rfl rfl ?_
    refine ol (fun _ k => XS.lloadN X7.here hx rfl (hd 20 rfl) rfl k) ?_
    refine ox (putF X7 hx hZ hown (host := "") (Or.inl (hw 386 rfl)) Via.refl e7 aa af (Or.inl (hw 387 rfl)) (hw 34 rfl) (ty := .long) (by decide) rfl rfl rfl rfl (hd 21 rfl)) fun T8 h8 X8 e8 W8 => ?_
    replace af := af.wr W8
    replace ab := ab.other W8 (Or.inr (ob (Or.inl (hw 376 rfl)) (Or.inl (hw 387 rfl)) (by decide)))
    replace aa := aa.same W8
    replace ae := ae.other W8 (Or.inr (ob (Or.inl (hw 383 rfl)) (Or.inl (hw 387 rfl)) (by decide)))
    replace ac := ac.other W8 (Or.inr (ob (Or.inl (hw 385 rfl)) (Or.inl (hw 387 rfl)) (by decide)))
    have au := K0.wr W8 (Or.inl (List.mem_of_getElem? (i := 0) rfl))
    have aB := Nat.le_trans Z0 (Keep.of_wr W8).1
    have ay := Fr.snoc X8 N0 ag
    refine oJ (fun _ k => XS.goto X8.here hx rfl (pc0 := 45) (pc' := 93) rfl (hd 22 rfl) (by decide) (by decide) k) ?_
    refine oc X8 hx (hd 44 rfl) rfl rfl ?_
    refine og (S' := [(.ref a0), (.ref a0)])  (fun _ k => XS.dup X8.here hx rfl (hd 45 rfl) rfl rfl k) ?_
    refine oi (getF X8 hx hZ hown (host := "") (Or.inl (hw 375 rfl)) Via.refl e8 ab rfl rfl (hd 46 rfl)) fun T9 X9 e9 => ?_
    refine ol (v := (.int (1 : Int32))) (fun _ k => XS.iconst X9.here hx rfl (hd 47 rfl) k) ?_
    refine og (S' := [(.int ((Int32.ofNat n) + (1 : Int32))), (.ref a0)])  (fun _ k => XS.iadd X9.here hx rfl (hd 48 rfl) rfl k) ?_
    refine ox (putF X9 hx hZ hown (host := "") (Or.inl (hw 375 rfl)) Via.refl e9 ab af (Or.inl (hw 376 rfl)) (hw 34 rfl) (ty := .int) (by decide) rfl rfl rfl rfl (hd 49 rfl)) fun aE aG ao aC ah => ?_
    replace af := af.wr ah
    replace ab := ab.same ah
    replace aa := aa.other ah (Or.inr (ob (Or.inl (hw 387 rfl)) (Or.inl (hw 376 rfl)) (by decide)))
    replace ae := ae.other ah (Or.inr (ob (Or.inl (hw 383 rfl)) (Or.inl (hw 376 rfl)) (by decide)))
    replace ac := ac.other ah (Or.inr (ob (Or.inl (hw 385 rfl)) (Or.inl (hw 376 rfl)) (by decide)))
    have aj := au.wr ah (Or.inl (List.mem_of_getElem? (i := 0) rfl))
    have az := Nat.le_trans aB (Keep.of_wr ah).1
    have ak := Fr.snoc ao ay ag
    exact oG ao hx hlk (by decide) (by decide) Bd.returns (hd 50 rfl) (by rw [aC]; exact ⟨rfl, ak, aj, obD af ab aa ae ac⟩)
theorem oco (hw : oo Z aw) (ws : List Jvm.Cond)  (h0 : Heap) (n0 : Nat) (Z0 : n0 ≤ h0.size) :
    ot l Z (⟨"java/util/HashMap", "hash", "(Ljava/lang/Object;)I"⟩ : MethodName) jdk_69_method_1_code 2 (some .int) ws ({ frames := 0, cells := 0, slots := 0, locals := 0 } : Room) #[.null] h0 (og5 Z  h0 n0) := by
  refine ou (plainFor_of_name o6) (fun m => og4 m ) ?_
  intro p e s m below meth c aa Bd hml hx hby hlk hown hnm hZ X0 e0
  have hd := oq og3 hby
  have N0 := Fr.nil n0
  have K0 : Keep h0 h0 [] := Keep.refl _ _
  refine oc X0 hx (hd 0 rfl) rfl rfl ?_
  refine og (S' := [])  (fun _ k => XS.ifnonnullNo X0.here hx rfl (hd 1 rfl) rfl k) ?_
  refine ol (v := (.int (0 : Int32))) (fun _ k => XS.iconst X0.here hx rfl (hd 2 rfl) k) ?_
  refine oJ (fun _ k => XS.goto X0.here hx rfl (pc0 := 5) (pc' := 19) rfl (hd 3 rfl) (by decide) (by decide) k) ?_
  exact oQ X0 hx hlk (by decide) (by decide) Bd.returns (hd 4 rfl) (by rw [e0]; exact ⟨rfl, N0, rfl⟩)
theorem ojD (hw : oo Z aw) (ws : List Jvm.Cond) (a0 : Addr) (h0 : Heap) (n0 : Nat) (Z0 : n0 ≤ h0.size) (ab : Exa Z h0 a0 "java/util/HashMap") (aa : Fld Z h0 a0 "java/util/HashMap" "table" "[Ljava/util/HashMap$Node;" .null) :
    ot l Z (⟨"java/util/HashMap", "getNode", "(Ljava/lang/Object;)Ljava/util/HashMap$Node;"⟩ : MethodName) jdk_69_method_13_code 8 (some (.object "java/util/HashMap$Node")) ws ({ frames := 1, cells := 0, slots := 0, locals := 15 } : Room) #[(.ref a0), .null] h0 (og7 Z a0 h0 n0) := by
  refine ou (plainFor_of_name o6) (fun m => ob0 m a0) ?_
  intro p e s m below meth c ac Bd hml hx hby hlk hown hnm hZ X0 e0
  have hd := oq obZ hby
  have N0 := Fr.nil n0
  have K0 : Keep h0 h0 [] := Keep.refl _ _
  refine oc X0 hx (hd 0 rfl) rfl rfl ?_
  refine oi (getF X0 hx hZ hown (host := "") (Or.inl (hw 458 rfl)) Via.refl e0 aa rfl rfl (hd 1 rfl)) fun T1 X1 e1 => ?_
  refine og (S' := [.null, .null])  (fun _ k => XS.dup X1.here hx rfl (hd 2 rfl) rfl rfl k) ?_
  refine oz (fun _ k => XS.astoreN X1.here hx rfl (hd 3 rfl) rfl rfl (l' := #[.val (.ref a0), .val .null, .val .null, .unset, .unset, .unset, .unset, .unset]) rfl k) ?_
  refine oC (S' := [])  (fun _ k => XS.ifnullYes X1.here hx rfl (pc0 := 6) (pc' := 148) rfl (hd 4 rfl) rfl (by decide) (by decide) k) ?_
  refine ol (fun _ k => XS.aconstNull X1.here hx rfl (hd 35 rfl) k) ?_
  exact oO X1 hx hlk (by decide) (by decide) Bd.returns rfl rfl (hd 36 rfl) (by rw [e1]; exact ⟨rfl, N0, rfl⟩)
theorem ojE (hw : oo Z aw) (ws : List Jvm.Cond) (a0 : Addr) (tb : Nat) (nd : Nat) (k : ClassId) (vs : List Value) (h0 : Heap) (n0 : Nat) (Z0 : n0 ≤ h0.size) (ak : Exa Z h0 a0 "java/util/HashMap") (aa : Fld Z h0 a0 "java/util/HashMap" "table" "[Ljava/util/HashMap$Node;" (.ref tb)) (ae : Arv Z h0 tb k (.object "java/util/HashMap$Node") (16 : Int32) vs .null) (av : vs.getD 0 .null = .ref nd) (ab : Fld Z h0 nd "java/util/HashMap$Node" "hash" "I" (.int (0 : Int32))) (ac : Fld Z h0 nd "java/util/HashMap$Node" "key" "Ljava/lang/Object;" .null) :
    ot l Z (⟨"java/util/HashMap", "getNode", "(Ljava/lang/Object;)Ljava/util/HashMap$Node;"⟩ : MethodName) jdk_69_method_13_code 8 (some (.object "java/util/HashMap$Node")) ws ({ frames := 1, cells := 0, slots := 0, locals := 15 } : Room) #[(.ref a0), .null] h0 (og8 Z a0 tb nd k vs h0 n0) := by
  refine ou (plainFor_of_name o6) (fun m => ob0 m a0) ?_
  intro p e s m below meth c ax Bd hml hx hby hlk hown hnm hZ X0 e0
  have hd := oq obZ hby
  have N0 := Fr.nil n0
  have K0 : Keep h0 h0 [] := Keep.refl _ _
  refine oc X0 hx (hd 0 rfl) rfl rfl ?_
  refine oi (getF X0 hx hZ hown (host := "") (Or.inl (hw 458 rfl)) Via.refl e0 aa rfl rfl (hd 1 rfl)) fun T1 X1 e1 => ?_
  refine og (S' := [(.ref tb), (.ref tb)])  (fun _ k => XS.dup X1.here hx rfl (hd 2 rfl) rfl rfl k) ?_
  refine oz (fun _ k => XS.astoreN X1.here hx rfl (hd 3 rfl) rfl rfl (l' := #[.val (.ref a0), .val .null, .val (.ref tb), .unset, .unset, .unset, .unset, .unset]) rfl k) ?_
  refine og (S' := [])  (fun _ k => XS.ifnullNo X1.here hx rfl (hd 4 rfl) rfl k) ?_
  refine oc X1 hx (hd 5 rfl) rfl rfl ?_
  obtain ⟨aA, ai, q2, S2, aq, H2, G2⟩ := id ae
  refine ow (fun _ k => X1.arraylength hx (by rw [e1]; exact ai.1) (State.isArrayOf_alike hZ.alike ai.2.1) rfl rfl (hd 6 rfl) _ k) ?_
  rw [len_of S2 aq]
  show oe p.tables e below _ (T1.setTop (mkF m 11 #[.val (.ref a0), .val .null, .val (.ref tb), .unset, .unset, .unset, .unset, .unset] [(.int (16 : Int32))]))
  refine og (S' := [(.int (16 : Int32)), (.int (16 : Int32))])  (fun _ k => XS.dup X1.here hx rfl (hd 7 rfl) rfl rfl k) ?_
  refine oz (fun _ k => XS.istore X1.here hx rfl (hd 8 rfl) rfl (l' := #[.val (.ref a0), .val .null, .val (.ref tb), .unset, .unset, .val (.int (16 : Int32)), .unset, .unset]) rfl k) ?_
  refine og (S' := [])  (fun _ k => XS.ifNo X1.here hx rfl (hd 9 rfl) rfl ((if0 _ _).trans (tlt (by decide)).2.2.2) k) ?_
  refine oc X1 hx (hd 10 rfl) rfl rfl ?_
  refine oH X1 hx (hd 11 rfl) rfl ?_
  refine ol (v := (.int (1 : Int32))) (fun _ k => XS.iconst X1.here hx rfl (hd 12 rfl) k) ?_
  refine og (S' := [(.int ((16 : Int32) - (1 : Int32))), (.ref tb)])  (fun _ k => XS.isub X1.here hx rfl (hd 13 rfl) rfl k) ?_
  show oe p.tables e below _ (T1.setTop (mkF m 22 #[.val (.ref a0), .val .null, .val (.ref tb), .unset, .unset, .val (.int (16 : Int32)), .unset, .unset] [(.int ((16 : Int32) - (1 : Int32))), (.ref tb)]))
  rw [show ((16 : Int32) - (1 : Int32)) = (15 : Int32) from by decide]
  refine oc X1 hx (hd 14 rfl) rfl rfl ?_
  refine oL X1 hx hZ hown (hw 503 rfl) (hw 504 rfl) (hw 505 rfl) (hw 61 rfl) (by decide) (oco l Z aw hw []  h0 n0 Z0 ) e1 hml rfl rfl (rest := [(.int (15 : Int32)), (.ref tb)]) rfl (lenOf obY rfl) (hd 15 rfl) rfl fun T3 ay v3 X3 au => ?_
  obtain ⟨rfl, ao, e3⟩ := au
  have ap := Fr.app N0 ao
  refine og (S' := [(.int (0 : Int32)), (.int (0 : Int32)), (.int (15 : Int32)), (.ref tb)])  (fun _ k => XS.dup X3.here hx rfl (hd 16 rfl) rfl rfl k) ?_
  refine oz (fun _ k => XS.istore X3.here hx rfl (hd 17 rfl) rfl (l' := #[.val (.ref a0), .val .null, .val (.ref tb), .unset, .unset, .val (.int (16 : Int32)), .val (.int (0 : Int32)), .unset]) rfl k) ?_
  refine og (S' := [(.int ((15 : Int32) &&& (0 : Int32))), (.ref tb)])  (fun _ k => XS.iand X3.here hx rfl (hd 18 rfl) rfl k) ?_
  show oe p.tables e below _ (T3.setTop (mkF m 30 #[.val (.ref a0), .val .null, .val (.ref tb), .unset, .unset, .val (.int (16 : Int32)), .val (.int (0 : Int32)), .unset] [(.int ((15 : Int32) &&& (0 : Int32))), (.ref tb)]))
  rw [show ((15 : Int32) &&& (0 : Int32)) = (0 : Int32) from by decide]
  obtain ⟨aj, ag, q4, S4, az, H4, G4⟩ := id ae
  have af : ¬ ((0 : Int32) < 0 ∨ aj.slots.size ≤ ((0 : Int32)).toNatClampNeg) := inb_of S4 ⟨(by decide), (by decide)⟩
  have ah : aj.slots[((0 : Int32)).toNatClampNeg]? = some (.ref nd) := H4.at af av
  refine ow (fun _ k => X3.aaload hx (j := (0 : Int32)) (v := (.ref nd)) (by rw [e3]; exact ag.1) (State.isArrayOf_alike hZ.alike ag.2.1) rfl ag.2.2 af ah rfl rfl (hd 19 rfl) _ k) ?_
  show oe p.tables e below _ (T3.setTop (mkF m 31 #[.val (.ref a0), .val .null, .val (.ref tb), .unset, .unset, .val (.int (16 : Int32)), .val (.int (0 : Int32)), .unset] [(.ref nd)]))
  refine og (S' := [(.ref nd), (.ref nd)])  (fun _ k => XS.dup X3.here hx rfl (hd 20 rfl) rfl rfl k) ?_
  refine oz (fun _ k => XS.astoreN X3.here hx rfl (hd 21 rfl) rfl rfl (l' := #[.val (.ref a0), .val .null, .val (.ref tb), .val (.ref nd), .unset, .val (.int (16 : Int32)), .val (.int (0 : Int32)), .unset]) rfl k) ?_
  refine og (S' := [])  (fun _ k => XS.ifnullNo X3.here hx rfl (hd 22 rfl) rfl k) ?_
  refine oc X3 hx (hd 23 rfl) rfl rfl ?_
  refine oi (getF X3 hx hZ hown (host := "") (Or.inl (hw 611 rfl)) Via.refl e3 ab rfl rfl (hd 24 rfl)) fun T5 X5 e5 => ?_
  refine oH X5 hx (hd 25 rfl) rfl ?_
  refine og (S' := [])  (fun _ k => XS.icmpNo X5.here hx rfl (hd 26 rfl) rfl (teq (by decide)).2 k) ?_
  refine oc X5 hx (hd 27 rfl) rfl rfl ?_
  refine oi (getF X5 hx hZ hown (host := "") (Or.inl (hw 612 rfl)) Via.refl e5 ac rfl rfl (hd 28 rfl)) fun T6 X6 e6 => ?_
  refine og (S' := [.null, .null])  (fun _ k => XS.dup X6.here hx rfl (hd 29 rfl) rfl rfl k) ?_
  refine oz (fun _ k => XS.astore X6.here hx rfl (hd 30 rfl) rfl rfl (l' := #[.val (.ref a0), .val .null, .val (.ref tb), .val (.ref nd), .unset, .val (.int (16 : Int32)), .val (.int (0 : Int32)), .val .null]) rfl k) ?_
  refine oc X6 hx (hd 31 rfl) rfl rfl ?_
  refine ow (fun _ k => Jvm.RoadKit.acmp X6 hx rfl rfl rfl (pc0 := 53) (pc' := 69) (same := true) rfl (hd 32 rfl) rfl (by simp) (by decide) (by decide) k) ?_
  show oe p.tables e below _ (T6.setTop (mkF m 69 #[.val (.ref a0), .val .null, .val (.ref tb), .val (.ref nd), .unset, .val (.int (16 : Int32)), .val (.int (0 : Int32)), .val .null] []))
  refine oc X6 hx (hd 33 rfl) rfl rfl ?_
  exact oO X6 hx hlk (by decide) (by decide) Bd.returns rfl rfl (hd 34 rfl) (by rw [e6]; exact ⟨rfl, ap, rfl⟩)
theorem ojF (hw : oo Z aw) (ws : List Jvm.Cond) (a0 : Addr) (h0 : Heap) (n0 : Nat) (Z0 : n0 ≤ h0.size) (ab : Exa Z h0 a0 "java/util/HashMap") (aa : Fld Z h0 a0 "java/util/HashMap" "table" "[Ljava/util/HashMap$Node;" .null) :
    ot l Z (⟨"java/util/HashMap", "get", "(Ljava/lang/Object;)Ljava/lang/Object;"⟩ : MethodName) jdk_69_method_12_code 3 (some (.object "java/lang/Object")) ws ({ frames := 2, cells := 0, slots := 0, locals := 34 } : Room) #[(.ref a0), .null] h0 (oha Z a0 h0 n0) := by
  refine ou (plainFor_of_name o6) (fun m => ob3 m a0) ?_
  intro p e s m below meth c ag Bd hml hx hby hlk hown hnm hZ X0 e0
  have hd := oq ob2 hby
  have N0 := Fr.nil n0
  have K0 : Keep h0 h0 [] := Keep.refl _ _
  refine oc X0 hx (hd 0 rfl) rfl rfl ?_
  refine oc X0 hx (hd 1 rfl) rfl rfl ?_
  refine oB X0 hx hZ hown (hw 453 rfl) (hw 454 rfl) (hw 456 rfl) (hw 455 rfl) (hw 457 rfl) (hw 61 rfl) (by decide) (ojD l Z aw hw [] a0 h0 n0 Z0 ab aa) e0 ab hml rfl rfl (rest := []) rfl (lenOf ob1 rfl) (hd 2 rfl) rfl fun T1 ah v1 X1 af => ?_
  obtain ⟨rfl, ac, e1⟩ := af
  have ae := Fr.app N0 ac
  refine og (S' := [.null, .null])  (fun _ k => XS.dup X1.here hx rfl (hd 3 rfl) rfl rfl k) ?_
  refine oz (fun _ k => XS.astoreN X1.here hx rfl (hd 4 rfl) rfl rfl (l' := #[.val (.ref a0), .val .null, .val .null]) rfl k) ?_
  refine og (S' := [])  (fun _ k => XS.ifnonnullNo X1.here hx rfl (hd 5 rfl) rfl k) ?_
  refine ol (fun _ k => XS.aconstNull X1.here hx rfl (hd 6 rfl) k) ?_
  refine oJ (fun _ k => XS.goto X1.here hx rfl (pc0 := 11) (pc' := 18) rfl (hd 7 rfl) (by decide) (by decide) k) ?_
  exact oO X1 hx hlk (by decide) (by decide) Bd.returns rfl rfl (hd 10 rfl) (by rw [e1]; exact ⟨rfl, ae, rfl⟩)
theorem ojG (hw : oo Z aw) (ws : List Jvm.Cond) (a0 : Addr) (tb : Nat) (nd : Nat) (k : ClassId) (vs : List Value) (i0 : Nat) (h0 : Heap) (n0 : Nat) (Z0 : n0 ≤ h0.size) (af : Exa Z h0 a0 "java/util/HashMap") (aa : Fld Z h0 a0 "java/util/HashMap" "table" "[Ljava/util/HashMap$Node;" (.ref tb)) (ag : Arv Z h0 tb k (.object "java/util/HashMap$Node") (16 : Int32) vs .null) (ak : vs.getD 0 .null = .ref nd) (ac : Fld Z h0 nd "java/util/HashMap$Node" "hash" "I" (.int (0 : Int32))) (ae : Fld Z h0 nd "java/util/HashMap$Node" "key" "Ljava/lang/Object;" .null) (ab : Fld Z h0 nd "java/util/HashMap$Node" "value" "Ljava/lang/Object;" (.ref i0)) :
    ot l Z (⟨"java/util/HashMap", "get", "(Ljava/lang/Object;)Ljava/lang/Object;"⟩ : MethodName) jdk_69_method_12_code 3 (some (.object "java/lang/Object")) ws ({ frames := 2, cells := 0, slots := 0, locals := 34 } : Room) #[(.ref a0), .null] h0 (ohb Z a0 tb nd k vs i0 h0 n0) := by
  refine ou (plainFor_of_name o6) (fun m => ob3 m a0) ?_
  intro p e s m below meth c ao Bd hml hx hby hlk hown hnm hZ X0 e0
  have hd := oq ob2 hby
  have N0 := Fr.nil n0
  have K0 : Keep h0 h0 [] := Keep.refl _ _
  refine oc X0 hx (hd 0 rfl) rfl rfl ?_
  refine oc X0 hx (hd 1 rfl) rfl rfl ?_
  refine oB X0 hx hZ hown (hw 453 rfl) (hw 454 rfl) (hw 456 rfl) (hw 455 rfl) (hw 457 rfl) (hw 61 rfl) (by decide) (ojE l Z aw hw [] a0 tb nd k vs h0 n0 Z0 af aa ag ak ac ae) e0 af hml rfl rfl (rest := []) rfl (lenOf ob1 rfl) (hd 2 rfl) rfl fun T1 ap v1 X1 aj => ?_
  obtain ⟨rfl, ah, e1⟩ := aj
  have ai := Fr.app N0 ah
  refine og (S' := [(.ref nd), (.ref nd)])  (fun _ k => XS.dup X1.here hx rfl (hd 3 rfl) rfl rfl k) ?_
  refine oz (fun _ k => XS.astoreN X1.here hx rfl (hd 4 rfl) rfl rfl (l' := #[.val (.ref a0), .val .null, .val (.ref nd)]) rfl k) ?_
  refine oC (S' := [])  (fun _ k => XS.ifnonnullYes X1.here hx rfl (pc0 := 7) (pc' := 14) rfl (hd 5 rfl) rfl (by decide) (by decide) k) ?_
  refine oc X1 hx (hd 8 rfl) rfl rfl ?_
  refine oi (getF X1 hx hZ hown (host := "") (Or.inl (hw 613 rfl)) Via.refl e1 ab rfl rfl (hd 9 rfl)) fun T2 X2 e2 => ?_
  exact oO X2 hx hlk (by decide) (by decide) Bd.returns rfl rfl (hd 10 rfl) (by rw [e2]; exact ⟨rfl, ai, rfl⟩)
theorem ojH (hw : oo Z aw) (ws : List Jvm.Cond) (a0 : Addr) (h0 : Heap) (n0 : Nat) (Z0 : n0 ≤ h0.size) (af : Exa Z h0 a0 "java/util/HashMap") (ac : Fld Z h0 a0 "java/util/HashMap" "table" "[Ljava/util/HashMap$Node;" .null) (aa : Fld Z h0 a0 "java/util/HashMap" "threshold" "I" (.int (0 : Int32))) (ae : Fld Z h0 a0 "java/util/HashMap" "size" "I" (.int (0 : Int32))) (ab : Fld Z h0 a0 "java/util/HashMap" "modCount" "I" (.int (0 : Int32))) (ai : n0 ≤ a0) :
    ot l Z (⟨"java/util/HashMap", "resize", "()[Ljava/util/HashMap$Node;"⟩ : MethodName) jdk_69_method_17_code 14 (some (.array (.object "java/util/HashMap$Node"))) ws ({ frames := 0, cells := 1, slots := 16, locals := 0 } : Room) #[(.ref a0)] h0 (ohf Z a0 h0 n0) := by
  refine ou (plainFor_of_name o6) (fun m => ohe m a0) ?_
  intro p e s m below meth c aB Bd hml hx hby hlk hown hnm hZ X0 e0
  have hd := oq ohd hby
  have N0 := Fr.nil n0
  have K0 : Keep h0 h0 [a0] := Keep.refl _ _
  refine oc X0 hx (hd 0 rfl) rfl rfl ?_
  refine oi (getF X0 hx hZ hown (host := "") (Or.inl (hw 458 rfl)) Via.refl e0 ac rfl rfl (hd 1 rfl)) fun T1 X1 e1 => ?_
  refine oz (fun _ k => XS.astoreN X1.here hx rfl (hd 2 rfl) rfl rfl (l' := #[.val (.ref a0), .val .null, .unset, .unset, .unset, .unset, .unset, .unset, .unset, .unset, .unset, .unset, .unset, .unset]) rfl k) ?_
  refine oc X1 hx (hd 3 rfl) rfl rfl ?_
  refine og (S' := [])  (fun _ k => XS.ifnonnullNo X1.here hx rfl (hd 4 rfl) rfl k) ?_
  refine ol (v := (.int (0 : Int32))) (fun _ k => XS.iconst X1.here hx rfl (hd 5 rfl) k) ?_
  refine oJ (fun _ k => XS.goto X1.here hx rfl (pc0 := 10) (pc' := 15) rfl (hd 6 rfl) (by decide) (by decide) k) ?_
  refine oz (fun _ k => XS.istoreN X1.here hx rfl (hd 7 rfl) rfl (l' := #[.val (.ref a0), .val .null, .val (.int (0 : Int32)), .unset, .unset, .unset, .unset, .unset, .unset, .unset, .unset, .unset, .unset, .unset]) rfl k) ?_
  refine oc X1 hx (hd 8 rfl) rfl rfl ?_
  refine oi (getF X1 hx hZ hown (host := "") (Or.inl (hw 516 rfl)) Via.refl e1 aa rfl rfl (hd 9 rfl)) fun T2 X2 e2 => ?_
  refine oz (fun _ k => XS.istoreN X2.here hx rfl (hd 10 rfl) rfl (l' := #[.val (.ref a0), .val .null, .val (.int (0 : Int32)), .val (.int (0 : Int32)), .unset, .unset, .unset, .unset, .unset, .unset, .unset, .unset, .unset, .unset]) rfl k) ?_
  refine ol (v := (.int (0 : Int32))) (fun _ k => XS.iconst X2.here hx rfl (hd 11 rfl) k) ?_
  refine oz (fun _ k => XS.istore X2.here hx rfl (hd 12 rfl) rfl (l' := #[.val (.ref a0), .val .null, .val (.int (0 : Int32)), .val (.int (0 : Int32)), .unset, .val (.int (0 : Int32)), .unset, .unset, .unset, .unset, .unset, .unset, .unset, .unset]) rfl k) ?_
  refine oj X2 hx (hd 13 rfl) rfl ?_
  refine oC (S' := [])  (fun _ k => XS.ifYes X2.here hx rfl (pc0 := 25) (pc' := 67) rfl (hd 14 rfl) rfl ((if0 _ _).trans (flt (by decide)).2.2.2) (by decide) (by decide) k) ?_
  refine oj X2 hx (hd 15 rfl) rfl ?_
  refine oC (S' := [])  (fun _ k => XS.ifYes X2.here hx rfl (pc0 := 68) (pc' := 77) rfl (hd 16 rfl) rfl ((if0 _ _).trans (flt (by decide)).2.2.2) (by decide) (by decide) k) ?_
  refine ol (v := (.int (16 : Int32))) (fun _ k => XS.bipush X2.here hx rfl (hd 17 rfl) k) ?_
  refine oz (fun _ k => XS.istore X2.here hx rfl (hd 18 rfl) rfl (l' := #[.val (.ref a0), .val .null, .val (.int (0 : Int32)), .val (.int (0 : Int32)), .val (.int (16 : Int32)), .val (.int (0 : Int32)), .unset, .unset, .unset, .unset, .unset, .unset, .unset, .unset]) rfl k) ?_
  refine ol (v := (.int (12 : Int32))) (fun _ k => XS.bipush X2.here hx rfl (hd 19 rfl) k) ?_
  refine oz (fun _ k => XS.istore X2.here hx rfl (hd 20 rfl) rfl (l' := #[.val (.ref a0), .val .null, .val (.int (0 : Int32)), .val (.int (0 : Int32)), .val (.int (16 : Int32)), .val (.int (12 : Int32)), .unset, .unset, .unset, .unset, .unset, .unset, .unset, .unset]) rfl k) ?_
  refine oH X2 hx (hd 21 rfl) rfl ?_
  refine oC (S' := [])  (fun _ k => XS.ifYes X2.here hx rfl (pc0 := 87) (pc' := 125) rfl (hd 22 rfl) rfl ((if0 _ _).trans (feq (by decide)).2) (by decide) (by decide) k) ?_
  refine oc X2 hx (hd 23 rfl) rfl rfl ?_
  refine oH X2 hx (hd 24 rfl) rfl ?_
  refine ox (putF X2 hx hZ hown (host := "") (Or.inl (hw 516 rfl)) Via.refl e2 aa af (Or.inl (hw 517 rfl)) (hw 60 rfl) (ty := .int) (by decide) rfl rfl rfl rfl (hd 25 rfl)) fun T3 h3 X3 e3 W3 => ?_
  replace af := af.wr W3
  replace ac := ac.other W3 (Or.inr (ob (Or.inl (hw 459 rfl)) (Or.inl (hw 517 rfl)) (by decide)))
  replace aa := aa.same W3
  replace ae := ae.other W3 (Or.inr (ob (Or.inl (hw 543 rfl)) (Or.inl (hw 517 rfl)) (by decide)))
  replace ab := ab.other W3 (Or.inr (ob (Or.inl (hw 541 rfl)) (Or.inl (hw 517 rfl)) (by decide)))
  have ao := K0.wr W3 (Or.inl (List.mem_of_getElem? (i := 0) rfl))
  have ap := Nat.le_trans Z0 (Keep.of_wr W3).1
  have ax := Fr.snoc X3 N0 ai
  refine oH X3 hx (hd 26 rfl) rfl ?_
  obtain ⟨T4, h4, k4, X4, e4, E4, A4, ak, O4, aq⟩ := newRE X3 hx hZ hown (hw 518 rfl) (hw 519 rfl) e3 (g := (mkF m 133 #[.val (.ref a0), .val .null, .val (.int (0 : Int32)), .val (.int (0 : Int32)), .val (.int (16 : Int32)), .val (.int (12 : Int32)), .unset, .unset, .unset, .unset, .unset, .unset, .unset, .unset] [(.int (16 : Int32))])) rfl (hd 27 rfl) rfl (by decide) (cap := 16) (by decide) (by decide) (by decide) (by decide) (ad := "[Ljava/util/HashMap$Node;") rfl
  obtain ⟨b4, g4⟩ : ∃ z, z = h3.size := ⟨_, rfl⟩
  rw [← g4] at A4 ak aq
  refine ow aq ?_
  have ag := os af.lt g4
  have aA := om ap g4
  have aj := om ao.1 g4
  replace af := af.ext E4
  replace ac := ac.ext E4
  replace aa := aa.ext E4
  replace ae := ae.ext E4
  replace ab := ab.ext E4
  have au := ao.ext E4
  have az := Nat.le_trans ap E4.1
  have ah : Arv Z h4 b4 k4 (.object "java/util/HashMap$Node") (16 : Int32) (List.replicate 16 .null) .null := oar 16 (Arv.new A4 (by decide))
  show oe p.tables e below _ (T4.setTop (mkF m 136 #[.val (.ref a0), .val .null, .val (.int (0 : Int32)), .val (.int (0 : Int32)), .val (.int (16 : Int32)), .val (.int (12 : Int32)), .unset, .unset, .unset, .unset, .unset, .unset, .unset, .unset] [(.ref b4)]))
  refine oz (fun _ k => XS.astore X4.here hx rfl (hd 28 rfl) rfl rfl (l' := #[.val (.ref a0), .val .null, .val (.int (0 : Int32)), .val (.int (0 : Int32)), .val (.int (16 : Int32)), .val (.int (12 : Int32)), .val (.ref b4), .unset, .unset, .unset, .unset, .unset, .unset, .unset]) rfl k) ?_
  refine oc X4 hx (hd 29 rfl) rfl rfl ?_
  refine oM X4 hx (hd 30 rfl) rfl rfl ?_
  refine ox (putF X4 hx hZ hown (host := "") (Or.inl (hw 458 rfl)) Via.refl e4 ac af (Or.inl (hw 459 rfl)) (hw 60 rfl) (ty := (.array (.object "java/util/HashMap$Node"))) (by decide) rfl rfl rfl rfl (hd 31 rfl)) fun T5 h5 X5 e5 W5 => ?_
  replace af := af.wr W5
  replace ac := ac.same W5
  replace aa := aa.other W5 (Or.inr (ob (Or.inl (hw 517 rfl)) (Or.inl (hw 459 rfl)) (by decide)))
  replace ae := ae.other W5 (Or.inr (ob (Or.inl (hw 543 rfl)) (Or.inl (hw 459 rfl)) (by decide)))
  replace ab := ab.other W5 (Or.inr (ob (Or.inl (hw 541 rfl)) (Or.inl (hw 459 rfl)) (by decide)))
  replace ah := ah.other W5 (Ne.symm (od ag))
  replace ak := ak.wr W5
  have av := au.wr W5 (Or.inl (List.mem_of_getElem? (i := 0) rfl))
  have aC := Nat.le_trans az (Keep.of_wr W5).1
  have ay := Fr.snoc X5 ax ai
  refine oc X5 hx (hd 32 rfl) rfl rfl ?_
  refine oC (S' := [])  (fun _ k => XS.ifnullYes X5.here hx rfl (pc0 := 145) (pc' := 353) rfl (hd 33 rfl) rfl (by decide) (by decide) k) ?_
  refine oM X5 hx (hd 34 rfl) rfl rfl ?_
  exact oO X5 hx hlk (by decide) (by decide) Bd.returns rfl rfl (hd 35 rfl) (by rw [e5]; exact ⟨b4, rfl, ay, av, k4, aj, ah, O4, ac, aa, ae, ab⟩)
theorem ojI (hw : oo Z aw) (ws : List Jvm.Cond) (a0 : Addr) (a3 : Addr) (h0 : Heap) (n0 : Nat) (Z0 : n0 ≤ h0.size) (af : Exa Z h0 a0 "java/util/HashMap$Node") (ab : Fld Z h0 a0 "java/util/HashMap$Node" "hash" "I" (.int (0 : Int32))) (ae : Fld Z h0 a0 "java/util/HashMap$Node" "key" "Ljava/lang/Object;" .null) (aa : Fld Z h0 a0 "java/util/HashMap$Node" "value" "Ljava/lang/Object;" .null) (ac : Fld Z h0 a0 "java/util/HashMap$Node" "next" "Ljava/util/HashMap$Node;" .null) (ag : n0 ≤ a0) :
    ot l Z (⟨"java/util/HashMap$Node", "<init>", "(ILjava/lang/Object;Ljava/lang/Object;Ljava/util/HashMap$Node;)V"⟩ : MethodName) jdk_70_method_1_code 5 none ws ({ frames := 1, cells := 0, slots := 0, locals := 12 } : Room) #[(.ref a0), (.int (0 : Int32)), .null, (.ref a3), .null] h0 (ohk Z a0 a3 h0 n0) := by
  refine ou (plainFor_of_name ohi) (fun m => ohj m a0 (0 : Int32) a3) ?_
  intro p e s m below meth c az Bd hml hx hby hlk hown hnm hZ X0 e0
  have hd := oq ohh hby
  have N0 := Fr.nil n0
  have K0 : Keep h0 h0 [a0] := Keep.refl _ _
  refine oc X0 hx (hd 0 rfl) rfl rfl ?_
  refine oi (initO X0 hx hZ hown (hw 531 rfl) (hw 22 rfl) (hw 23 rfl) e0 rfl (by rw [hml]; rfl) rfl (hd 1 rfl) (by decide) (W := 0) (by show 2 * 0 + _ ≤ _; exact Nat.le_of_eq rfl) (by decide)) fun T1 X1 e1 => ?_
  refine oc X1 hx (hd 2 rfl) rfl rfl ?_
  refine oj X1 hx (hd 3 rfl) rfl ?_
  refine ox (putF X1 hx hZ hown (host := "") (Or.inl (hw 532 rfl)) Via.refl e1 ab af (Or.inr ⟨(hw 533 rfl), rfl, hnm⟩) (hw 525 rfl) (ty := .int) (by decide) rfl rfl rfl rfl (hd 4 rfl)) fun T2 h2 X2 e2 W2 => ?_
  replace af := af.wr W2
  replace ab := ab.same W2
  replace ae := ae.other W2 (Or.inr (ob (Or.inr (hw 535 rfl)) (Or.inr (hw 533 rfl)) (by decide)))
  replace aa := aa.other W2 (Or.inr (ob (Or.inl (hw 537 rfl)) (Or.inr (hw 533 rfl)) (by decide)))
  replace ac := ac.other W2 (Or.inr (ob (Or.inl (hw 539 rfl)) (Or.inr (hw 533 rfl)) (by decide)))
  have ah := K0.wr W2 (Or.inl (List.mem_of_getElem? (i := 0) rfl))
  have av := Nat.le_trans Z0 (Keep.of_wr W2).1
  have ao := Fr.snoc X2 N0 ag
  refine oc X2 hx (hd 5 rfl) rfl rfl ?_
  refine oc X2 hx (hd 6 rfl) rfl rfl ?_
  refine ox (putF X2 hx hZ hown (host := "") (Or.inl (hw 534 rfl)) Via.refl e2 ae af (Or.inr ⟨(hw 535 rfl), rfl, hnm⟩) (hw 525 rfl) (ty := (.object "java/lang/Object")) (by decide) rfl rfl rfl rfl (hd 7 rfl)) fun T3 h3 X3 e3 W3 => ?_
  replace af := af.wr W3
  replace ab := ab.other W3 (Or.inr (ob (Or.inr (hw 533 rfl)) (Or.inr (hw 535 rfl)) (by decide)))
  replace ae := ae.same W3
  replace aa := aa.other W3 (Or.inr (ob (Or.inl (hw 537 rfl)) (Or.inr (hw 535 rfl)) (by decide)))
  replace ac := ac.other W3 (Or.inr (ob (Or.inl (hw 539 rfl)) (Or.inr (hw 535 rfl)) (by decide)))
  have ai := ah.wr W3 (Or.inl (List.mem_of_getElem? (i := 0) rfl))
  have ax := Nat.le_trans av (Keep.of_wr W3).1
  have ap := Fr.snoc X3 ao ag
  refine oc X3 hx (hd 8 rfl) rfl rfl ?_
  refine oc X3 hx (hd 9 rfl) rfl rfl ?_
  refine ox (putF X3 hx hZ hown (host := "") (Or.inl (hw 536 rfl)) Via.refl e3 aa af (Or.inl (hw 537 rfl)) (hw 525 rfl) (ty := (.object "java/lang/Object")) (by decide) rfl rfl rfl rfl (hd 10 rfl)) fun T4 h4 X4 e4 W4 => ?_
  replace af := af.wr W4
  replace ab := ab.other W4 (Or.inr (ob (Or.inr (hw 533 rfl)) (Or.inl (hw 537 rfl)) (by decide)))
  replace ae := ae.other W4 (Or.inr (ob (Or.inr (hw 535 rfl)) (Or.inl (hw 537 rfl)) (by decide)))
  replace aa := aa.same W4
  replace ac := ac.other W4 (Or.inr (ob (Or.inl (hw 539 rfl)) (Or.inl (hw 537 rfl)) (by decide)))
  have aj := ai.wr W4 (Or.inl (List.mem_of_getElem? (i := 0) rfl))
  have ay := Nat.le_trans ax (Keep.of_wr W4).1
  have aq := Fr.snoc X4 ap ag
  refine oc X4 hx (hd 11 rfl) rfl rfl ?_
  refine oM X4 hx (hd 12 rfl) rfl rfl ?_
  refine ox (putF X4 hx hZ hown (host := "") (Or.inl (hw 538 rfl)) Via.refl e4 ac af (Or.inl (hw 539 rfl)) (hw 525 rfl) (ty := (.object "java/util/HashMap$Node")) (by decide) rfl rfl rfl rfl (hd 13 rfl)) fun T5 h5 X5 e5 W5 => ?_
  replace af := af.wr W5
  replace ab := ab.other W5 (Or.inr (ob (Or.inr (hw 533 rfl)) (Or.inl (hw 539 rfl)) (by decide)))
  replace ae := ae.other W5 (Or.inr (ob (Or.inr (hw 535 rfl)) (Or.inl (hw 539 rfl)) (by decide)))
  replace aa := aa.other W5 (Or.inr (ob (Or.inl (hw 537 rfl)) (Or.inl (hw 539 rfl)) (by decide)))
  replace ac := ac.same W5
  have ak := aj.wr W5 (Or.inl (List.mem_of_getElem? (i := 0) rfl))
  have aA := Nat.le_trans ay (Keep.of_wr W5).1
  have au := Fr.snoc X5 aq ag
  exact oG X5 hx hlk (by decide) (by decide) Bd.returns (hd 14 rfl) (by rw [e5]; exact ⟨rfl, au, ak, ab, ae, aa⟩)
theorem ojJ (hw : oo Z aw) (ws : List Jvm.Cond) (a0 : Addr) (a3 : Addr) (h0 : Heap) (n0 : Nat) (Z0 : n0 ≤ h0.size) :
    ot l Z (⟨"java/util/HashMap", "newNode", "(ILjava/lang/Object;Ljava/lang/Object;Ljava/util/HashMap$Node;)Ljava/util/HashMap$Node;"⟩ : MethodName) jdk_69_method_46_code 5 (some (.object "java/util/HashMap$Node")) ws ({ frames := 2, cells := 1, slots := 4, locals := 29 } : Room) #[(.ref a0), (.int (0 : Int32)), .null, (.ref a3), .null] h0 (ohp Z a0 a3 h0 n0) := by
  refine ou (plainFor_of_name o6) (fun m => oho m a0 (0 : Int32) a3) ?_
  intro p e s m below meth c ay Bd hml hx hby hlk hown hnm hZ X0 e0
  have hd := oq ohn hby
  have N0 := Fr.nil n0
  have K0 : Keep h0 h0 [] := Keep.refl _ _
  obtain ⟨T1, h1, X1, e1, E1, A1, D1, -, ai⟩ := newO X0 hx hZ hown (hw 518 rfl) (hw 525 rfl) (hw 526 rfl) e0 (g := (mkF m 0 #[.val (.ref a0), .val (.int (0 : Int32)), .val .null, .val (.ref a3), .val .null] [])) rfl (hd 0 rfl) (by decide) (by decide)
  obtain ⟨b1, g1⟩ : ∃ z, z = h0.size := ⟨_, rfl⟩
  rw [← g1] at A1 D1 ai
  refine ow ai ?_
  have ag := om Z0 g1
  have af := om K0.1 g1
  have ap := K0.ext E1
  have ah := Nat.le_trans Z0 E1.1
  have ab : Fld Z h1 b1 "java/util/HashMap$Node" "hash" "I" (.int (0 : Int32)) := D1 (Or.inr (hw 533 rfl)) (ty := .int) (by decide)
  have ae : Fld Z h1 b1 "java/util/HashMap$Node" "key" "Ljava/lang/Object;" .null := D1 (Or.inr (hw 535 rfl)) (ty := (.object "java/lang/Object")) (by decide)
  have aa : Fld Z h1 b1 "java/util/HashMap$Node" "value" "Ljava/lang/Object;" .null := D1 (Or.inl (hw 537 rfl)) (ty := (.object "java/lang/Object")) (by decide)
  have ac : Fld Z h1 b1 "java/util/HashMap$Node" "next" "Ljava/util/HashMap$Node;" .null := D1 (Or.inl (hw 539 rfl)) (ty := (.object "java/util/HashMap$Node")) (by decide)
  show oe p.tables e below _ (T1.setTop (mkF m 3 #[.val (.ref a0), .val (.int (0 : Int32)), .val .null, .val (.ref a3), .val .null] [(.ref b1)]))
  refine og (S' := [(.ref b1), (.ref b1)])  (fun _ k => XS.dup X1.here hx rfl (hd 1 rfl) rfl rfl k) ?_
  refine oj X1 hx (hd 2 rfl) rfl ?_
  refine oc X1 hx (hd 3 rfl) rfl rfl ?_
  refine oc X1 hx (hd 4 rfl) rfl rfl ?_
  refine oM X1 hx (hd 5 rfl) rfl rfl ?_
  refine oK X1 hx hZ hown (host := "") (Or.inl (hw 527 rfl)) (hw 528 rfl) (hw 530 rfl) (hw 526 rfl) rfl (by decide) (ojI l Z aw hw [] b1 a3 h1 n0 ah A1 ab ae aa ac ag) e1 hml rfl rfl (rest := [(.ref b1)]) rfl (lenOf ohl rfl) (hd 6 rfl) rfl fun T2 az v2 X2 ax => ?_
  obtain ⟨rfl, au, k2, aj, ak, ao⟩ := ax
  have av := Fr.app N0 au
  replace A1 := A1.keep k2
  have aq := ap.trans k2 (allS (Or.inr af) all0)
  have aA := Nat.le_trans ah k2.1
  exact oO X2 hx hlk (by decide) (by decide) Bd.returns rfl rfl (hd 7 rfl) (⟨b1, rfl, av, aq, af, A1, aj, ak, ao⟩)
theorem ojK (hw : oo Z aw) (ws : List Jvm.Cond) (a0 : Addr) (p1 : Int32) (h0 : Heap) (n0 : Nat) (Z0 : n0 ≤ h0.size) :
    ot l Z (⟨"java/util/HashMap", "afterNodeInsertion", "(Z)V"⟩ : MethodName) jdk_69_method_52_code 2 none ws ({ frames := 0, cells := 0, slots := 0, locals := 0 } : Room) #[(.ref a0), (.int p1)] h0 (oht Z a0 p1 h0 n0) := by
  refine ou (plainFor_of_name o6) (fun m => ohs m a0 p1) ?_
  intro p e s m below meth c aa Bd hml hx hby hlk hown hnm hZ X0 e0
  have hd := oq ohr hby
  have N0 := Fr.nil n0
  have K0 : Keep h0 h0 [] := Keep.refl _ _
  exact oG X0 hx hlk (by decide) (by decide) Bd.returns (hd 0 rfl) (by rw [e0]; exact ⟨rfl, N0, rfl⟩)
theorem ojL (hw : oo Z aw) (ws : List Jvm.Cond) (a0 : Addr) (a3 : Addr) (h0 : Heap) (n0 : Nat) (Z0 : n0 ≤ h0.size) (ac : Exa Z h0 a0 "java/util/HashMap") (ae : Fld Z h0 a0 "java/util/HashMap" "table" "[Ljava/util/HashMap$Node;" .null) (af : Fld Z h0 a0 "java/util/HashMap" "threshold" "I" (.int (0 : Int32))) (aj : Fld Z h0 a0 "java/util/HashMap" "size" "I" (.int (0 : Int32))) (ai : Fld Z h0 a0 "java/util/HashMap" "modCount" "I" (.int (0 : Int32))) (aB : n0 ≤ a0) :
    ot l Z (⟨"java/util/HashMap", "putVal", "(ILjava/lang/Object;Ljava/lang/Object;ZZ)Ljava/lang/Object;"⟩ : MethodName) jdk_69_method_16_code 13 (some (.object "java/lang/Object")) ws ({ frames := 3, cells := 2, slots := 20, locals := 47 } : Room) #[(.ref a0), (.int (0 : Int32)), .null, (.ref a3), (.int (0 : Int32)), (.int (1 : Int32))] h0 (ohA Z a0 a3 h0 n0) := by
  refine ou (plainFor_of_name o6) (fun m => ohz m a0 (0 : Int32) a3 (0 : Int32) (1 : Int32)) ?_
  intro p e s m below meth c bv Bd hml hx hby hlk hown hnm hZ X0 e0
  have hd := oq ohy hby
  have N0 := Fr.nil n0
  have K0 : Keep h0 h0 [a0] := Keep.refl _ _
  refine oc X0 hx (hd 0 rfl) rfl rfl ?_
  refine oi (getF X0 hx hZ hown (host := "") (Or.inl (hw 458 rfl)) Via.refl e0 ae rfl rfl (hd 1 rfl)) fun T1 X1 e1 => ?_
  refine og (S' := [.null, .null])  (fun _ k => XS.dup X1.here hx rfl (hd 2 rfl) rfl rfl k) ?_
  refine oz (fun _ k => XS.astore X1.here hx rfl (hd 3 rfl) rfl rfl (l' := #[.val (.ref a0), .val (.int (0 : Int32)), .val .null, .val (.ref a3), .val (.int (0 : Int32)), .val (.int (1 : Int32)), .val .null, .unset, .unset, .unset, .unset, .unset, .unset]) rfl k) ?_
  refine oC (S' := [])  (fun _ k => XS.ifnullYes X1.here hx rfl (pc0 := 7) (pc' := 19) rfl (hd 4 rfl) rfl (by decide) (by decide) k) ?_
  refine oc X1 hx (hd 5 rfl) rfl rfl ?_
  have aC := ac.lt
  refine oB X1 hx hZ hown (hw 511 rfl) (hw 512 rfl) (hw 514 rfl) (hw 513 rfl) (hw 515 rfl) (hw 61 rfl) (by decide) (ojH l Z aw hw [] a0 h0 n0 Z0 ac ae af aj ai aB) e1 ac hml rfl rfl (rest := []) rfl (lenOf ohu rfl) (hd 6 rfl) rfl fun T2 bw v2 X2 bt => ?_
  obtain ⟨r2, rfl, bc, k2, a7, aX, aF, O2, au, aq, ap, ao⟩ := bt
  have be := Fr.app N0 bc
  replace ac := ac.keep k2
  have aZ := K0.trans k2 (allS (Or.inl (List.mem_of_getElem? (i := 0) rfl)) all0)
  have aS := Nat.le_trans Z0 k2.1
  have aa := Nat.lt_of_lt_of_le aC aX
  have aT := Nat.le_trans Z0 aX
  have av := Nat.le_trans K0.1 aX
  refine og (S' := [(.ref r2), (.ref r2)])  (fun _ k => XS.dup X2.here hx rfl (hd 7 rfl) rfl rfl k) ?_
  refine oz (fun _ k => XS.astore X2.here hx rfl (hd 8 rfl) rfl rfl (l' := #[.val (.ref a0), .val (.int (0 : Int32)), .val .null, .val (.ref a3), .val (.int (0 : Int32)), .val (.int (1 : Int32)), .val (.ref r2), .unset, .unset, .unset, .unset, .unset, .unset]) rfl k) ?_
  obtain ⟨bD, aY, q3, S3, bi, H3, G3⟩ := id aF
  refine ow (fun _ k => X2.arraylength hx aY.1 (State.isArrayOf_alike hZ.alike aY.2.1) rfl rfl (hd 9 rfl) _ k) ?_
  rw [len_of S3 bi]
  show oe p.tables e below _ (T2.setTop (mkF m 27 #[.val (.ref a0), .val (.int (0 : Int32)), .val .null, .val (.ref a3), .val (.int (0 : Int32)), .val (.int (1 : Int32)), .val (.ref r2), .unset, .unset, .unset, .unset, .unset, .unset] [(.int (16 : Int32))]))
  refine oz (fun _ k => XS.istore X2.here hx rfl (hd 10 rfl) rfl (l' := #[.val (.ref a0), .val (.int (0 : Int32)), .val .null, .val (.ref a3), .val (.int (0 : Int32)), .val (.int (1 : Int32)), .val (.ref r2), .unset, .val (.int (16 : Int32)), .unset, .unset, .unset, .unset]) rfl k) ?_
  refine oM X2 hx (hd 11 rfl) rfl rfl ?_
  refine oH X2 hx (hd 12 rfl) rfl ?_
  refine ol (v := (.int (1 : Int32))) (fun _ k => XS.iconst X2.here hx rfl (hd 13 rfl) k) ?_
  refine og (S' := [(.int ((16 : Int32) - (1 : Int32))), (.ref r2)])  (fun _ k => XS.isub X2.here hx rfl (hd 14 rfl) rfl k) ?_
  show oe p.tables e below _ (T2.setTop (mkF m 35 #[.val (.ref a0), .val (.int (0 : Int32)), .val .null, .val (.ref a3), .val (.int (0 : Int32)), .val (.int (1 : Int32)), .val (.ref r2), .unset, .val (.int (16 : Int32)), .unset, .unset, .unset, .unset] [(.int ((16 : Int32) - (1 : Int32))), (.ref r2)]))
  rw [show ((16 : Int32) - (1 : Int32)) = (15 : Int32) from by decide]
  refine oj X2 hx (hd 15 rfl) rfl ?_
  refine og (S' := [(.int ((15 : Int32) &&& (0 : Int32))), (.ref r2)])  (fun _ k => XS.iand X2.here hx rfl (hd 16 rfl) rfl k) ?_
  show oe p.tables e below _ (T2.setTop (mkF m 37 #[.val (.ref a0), .val (.int (0 : Int32)), .val .null, .val (.ref a3), .val (.int (0 : Int32)), .val (.int (1 : Int32)), .val (.ref r2), .unset, .val (.int (16 : Int32)), .unset, .unset, .unset, .unset] [(.int ((15 : Int32) &&& (0 : Int32))), (.ref r2)]))
  rw [show ((15 : Int32) &&& (0 : Int32)) = (0 : Int32) from by decide]
  refine og (S' := [(.int (0 : Int32)), (.int (0 : Int32)), (.ref r2)])  (fun _ k => XS.dup X2.here hx rfl (hd 17 rfl) rfl rfl k) ?_
  refine oz (fun _ k => XS.istore X2.here hx rfl (hd 18 rfl) rfl (l' := #[.val (.ref a0), .val (.int (0 : Int32)), .val .null, .val (.ref a3), .val (.int (0 : Int32)), .val (.int (1 : Int32)), .val (.ref r2), .unset, .val (.int (16 : Int32)), .val (.int (0 : Int32)), .unset, .unset, .unset]) rfl k) ?_
  obtain ⟨a6, aK, q4, S4, bz, H4, G4⟩ := id aF
  have aG : ¬ ((0 : Int32) < 0 ∨ a6.slots.size ≤ ((0 : Int32)).toNatClampNeg) := inb_of S4 ⟨(by decide), (by decide)⟩
  have aV : a6.slots[((0 : Int32)).toNatClampNeg]? = some .null := H4.at aG rfl
  refine ow (fun _ k => X2.aaload hx (j := (0 : Int32)) (v := .null) aK.1 (State.isArrayOf_alike hZ.alike aK.2.1) rfl aK.2.2 aG aV rfl rfl (hd 19 rfl) _ k) ?_
  show oe p.tables e below _ (T2.setTop (mkF m 41 #[.val (.ref a0), .val (.int (0 : Int32)), .val .null, .val (.ref a3), .val (.int (0 : Int32)), .val (.int (1 : Int32)), .val (.ref r2), .unset, .val (.int (16 : Int32)), .val (.int (0 : Int32)), .unset, .unset, .unset] [.null]))
  refine og (S' := [.null, .null])  (fun _ k => XS.dup X2.here hx rfl (hd 20 rfl) rfl rfl k) ?_
  refine oz (fun _ k => XS.astore X2.here hx rfl (hd 21 rfl) rfl rfl (l' := #[.val (.ref a0), .val (.int (0 : Int32)), .val .null, .val (.ref a3), .val (.int (0 : Int32)), .val (.int (1 : Int32)), .val (.ref r2), .val .null, .val (.int (16 : Int32)), .val (.int (0 : Int32)), .unset, .unset, .unset]) rfl k) ?_
  refine og (S' := [])  (fun _ k => XS.ifnonnullNo X2.here hx rfl (hd 22 rfl) rfl k) ?_
  refine oM X2 hx (hd 23 rfl) rfl rfl ?_
  refine oH X2 hx (hd 24 rfl) rfl ?_
  refine oc X2 hx (hd 25 rfl) rfl rfl ?_
  refine oj X2 hx (hd 26 rfl) rfl ?_
  refine oc X2 hx (hd 27 rfl) rfl rfl ?_
  refine oc X2 hx (hd 28 rfl) rfl rfl ?_
  refine ol (fun _ k => XS.aconstNull X2.here hx rfl (hd 29 rfl) k) ?_
  have aD := ac.lt
  have aE := aF.lt
  refine oB X2 hx hZ hown (hw 520 rfl) (hw 521 rfl) (hw 523 rfl) (hw 522 rfl) (hw 524 rfl) (hw 61 rfl) (by decide) (ojJ l Z aw hw [] a0 a3 (T2.heap) n0 aS ) rfl ac hml rfl rfl (rest := [(.int (0 : Int32)), (.ref r2)]) rfl (lenOf ohv rfl) (hd 30 rfl) rfl fun T5 bx v5 X5 bu => ?_
  obtain ⟨r5, rfl, bd, k5, aJ, ax, ay, az, aA⟩ := bu
  have bf := Fr.app be bd
  replace ac := ac.keep k5
  replace aF := aF.keep k5 nin0
  replace au := au.keep k5 nin0
  replace aq := aq.keep k5 nin0
  replace ap := ap.keep k5 nin0
  replace ao := ao.keep k5 nin0
  have a8 := aZ.trans k5 all0
  have bk := Nat.le_trans aS k5.1
  have ab := Nat.lt_of_lt_of_le aD aJ
  have ah := Nat.lt_of_lt_of_le aE aJ
  have br := Nat.le_trans aS aJ
  have aH := Nat.le_trans aZ.1 aJ
  obtain ⟨bn, aL, q6, S6, bj, H6, G6⟩ := id aF
  have aW : ¬ ((0 : Int32) < 0 ∨ bn.slots.size ≤ ((0 : Int32)).toNatClampNeg) := inb_of S6 ⟨(by decide), (by decide)⟩
  refine ox (stR X5 hx hZ rfl aL (j := (0 : Int32)) aW rfl (Sto.ofV aL q6 O2 (Ins.self ax)) rfl rfl (hd 31 rfl)) fun T6 h6 X6 e6 W6 => ?_
  replace ac := ac.wr W6
  replace au := au.other W6 (Or.inl (od aa))
  replace aq := aq.other W6 (Or.inl (od aa))
  replace ap := ap.other W6 (Or.inl (od aa))
  replace ao := ao.other W6 (Or.inl (od aa))
  replace ax := ax.wr W6
  replace ay := ay.other W6 (Or.inl (Ne.symm (od ah)))
  replace az := az.other W6 (Or.inl (Ne.symm (od ah)))
  replace aA := aA.other W6 (Or.inl (Ne.symm (od ah)))
  have a9 := a8.wr W6 (Or.inr av)
  have bl := Nat.le_trans bk (Keep.of_wr W6).1
  have bg := Fr.snoc X6 bf aT
  have ag : Arv Z h6 r2 a7 (.object "java/util/HashMap$Node") (16 : Int32) ((List.replicate 16 .null).set 0 (.ref r5)) .null := Arv.set aL q6 S6 bj H6 G6 rfl W6 0 (by decide) (by simp)
  refine oJ (fun _ k => XS.goto X6.here hx rfl (pc0 := 60) (pc' := 259) rfl (hd 32 rfl) (by decide) (by decide) k) ?_
  refine oc X6 hx (hd 33 rfl) rfl rfl ?_
  refine og (S' := [(.ref a0), (.ref a0)])  (fun _ k => XS.dup X6.here hx rfl (hd 34 rfl) rfl rfl k) ?_
  refine oi (getF X6 hx hZ hown (host := "") (Or.inl (hw 540 rfl)) Via.refl e6 ao rfl rfl (hd 35 rfl)) fun T7 X7 e7 => ?_
  refine ol (v := (.int (1 : Int32))) (fun _ k => XS.iconst X7.here hx rfl (hd 36 rfl) k) ?_
  refine og (S' := [(.int ((0 : Int32) + (1 : Int32))), (.ref a0)])  (fun _ k => XS.iadd X7.here hx rfl (hd 37 rfl) rfl k) ?_
  show oe p.tables e below _ (T7.setTop (mkF m 266 #[.val (.ref a0), .val (.int (0 : Int32)), .val .null, .val (.ref a3), .val (.int (0 : Int32)), .val (.int (1 : Int32)), .val (.ref r2), .val .null, .val (.int (16 : Int32)), .val (.int (0 : Int32)), .unset, .unset, .unset] [(.int ((0 : Int32) + (1 : Int32))), (.ref a0)]))
  rw [show ((0 : Int32) + (1 : Int32)) = (1 : Int32) from by decide]
  refine ox (putF X7 hx hZ hown (host := "") (Or.inl (hw 540 rfl)) Via.refl e7 ao ac (Or.inl (hw 541 rfl)) (hw 60 rfl) (ty := .int) (by decide) rfl rfl rfl rfl (hd 38 rfl)) fun T8 h8 X8 e8 W8 => ?_
  replace ac := ac.wr W8
  replace au := au.other W8 (Or.inr (ob (Or.inl (hw 459 rfl)) (Or.inl (hw 541 rfl)) (by decide)))
  replace aq := aq.other W8 (Or.inr (ob (Or.inl (hw 517 rfl)) (Or.inl (hw 541 rfl)) (by decide)))
  replace ap := ap.other W8 (Or.inr (ob (Or.inl (hw 543 rfl)) (Or.inl (hw 541 rfl)) (by decide)))
  replace ao := ao.same W8
  replace ax := ax.wr W8
  replace ay := ay.other W8 (Or.inl (Ne.symm (od ab)))
  replace az := az.other W8 (Or.inl (Ne.symm (od ab)))
  replace aA := aA.other W8 (Or.inl (Ne.symm (od ab)))
  replace ag := ag.other W8 (Ne.symm (od aa))
  have ba := a9.wr W8 (Or.inl (List.mem_of_getElem? (i := 0) rfl))
  have bm := Nat.le_trans bl (Keep.of_wr W8).1
  have bh := Fr.snoc X8 bg aB
  refine oc X8 hx (hd 39 rfl) rfl rfl ?_
  refine og (S' := [(.ref a0), (.ref a0)])  (fun _ k => XS.dup X8.here hx rfl (hd 40 rfl) rfl rfl k) ?_
  refine oi (getF X8 hx hZ hown (host := "") (Or.inl (hw 542 rfl)) Via.refl e8 ap rfl rfl (hd 41 rfl)) fun T9 X9 e9 => ?_
  refine ol (v := (.int (1 : Int32))) (fun _ k => XS.iconst X9.here hx rfl (hd 42 rfl) k) ?_
  refine og (S' := [(.int ((0 : Int32) + (1 : Int32))), (.ref a0)])  (fun _ k => XS.iadd X9.here hx rfl (hd 43 rfl) rfl k) ?_
  show oe p.tables e below _ (T9.setTop (mkF m 276 #[.val (.ref a0), .val (.int (0 : Int32)), .val .null, .val (.ref a3), .val (.int (0 : Int32)), .val (.int (1 : Int32)), .val (.ref r2), .val .null, .val (.int (16 : Int32)), .val (.int (0 : Int32)), .unset, .unset, .unset] [(.int ((0 : Int32) + (1 : Int32))), (.ref a0)]))
  rw [show ((0 : Int32) + (1 : Int32)) = (1 : Int32) from by decide]
  refine og (S' := [(.int (1 : Int32)), (.ref a0), (.int (1 : Int32))])  (fun _ k => XS.dupX1 X9.here hx rfl (hd 44 rfl) rfl rfl rfl k) ?_
  refine ox (putF X9 hx hZ hown (host := "") (Or.inl (hw 542 rfl)) Via.refl e9 ap ac (Or.inl (hw 543 rfl)) (hw 60 rfl) (ty := .int) (by decide) rfl rfl rfl rfl (hd 45 rfl)) fun bA bs aQ bo ak => ?_
  replace ac := ac.wr ak
  replace au := au.other ak (Or.inr (ob (Or.inl (hw 459 rfl)) (Or.inl (hw 543 rfl)) (by decide)))
  replace aq := aq.other ak (Or.inr (ob (Or.inl (hw 517 rfl)) (Or.inl (hw 543 rfl)) (by decide)))
  replace ap := ap.same ak
  replace ao := ao.other ak (Or.inr (ob (Or.inl (hw 541 rfl)) (Or.inl (hw 543 rfl)) (by decide)))
  replace ax := ax.wr ak
  replace ay := ay.other ak (Or.inl (Ne.symm (od ab)))
  replace az := az.other ak (Or.inl (Ne.symm (od ab)))
  replace aA := aA.other ak (Or.inl (Ne.symm (od ab)))
  replace ag := ag.other ak (Ne.symm (od aa))
  have aM := ba.wr ak (Or.inl (List.mem_of_getElem? (i := 0) rfl))
  have aR := Nat.le_trans bm (Keep.of_wr ak).1
  have aO := Fr.snoc aQ bh aB
  refine oc aQ hx (hd 46 rfl) rfl rfl ?_
  refine oi (getF aQ hx hZ hown (host := "") (Or.inl (hw 516 rfl)) Via.refl bo aq rfl rfl (hd 47 rfl)) fun bB aI bp => ?_
  refine oC (S' := [])  (fun _ k => XS.icmpYes aI.here hx rfl (pc0 := 284) (pc' := 292) rfl (hd 48 rfl) rfl (flt (by decide)).2.2.2 (by decide) (by decide) k) ?_
  refine oc aI hx (hd 49 rfl) rfl rfl ?_
  refine oH aI hx (hd 50 rfl) rfl ?_
  refine oB aI hx hZ hown (hw 544 rfl) (hw 545 rfl) (hw 547 rfl) (hw 546 rfl) (hw 548 rfl) (hw 61 rfl) (by decide) (ojK l Z aw hw [] a0 (1 : Int32) bs n0 aR ) bp ac hml rfl rfl (rest := []) rfl (lenOf ohw rfl) (hd 51 rfl) rfl fun bC bb bE a5 aU => ?_
  obtain ⟨rfl, aN, bq⟩ := aU
  have aP := Fr.app aO aN
  refine ol (fun _ k => XS.aconstNull a5.here hx rfl (hd 52 rfl) k) ?_
  exact oO a5 hx hlk (by decide) (by decide) Bd.returns rfl rfl (hd 53 rfl) (by rw [bq]; exact ⟨rfl, aP, aM, r2, r5, av, aH, ac, au, ⟨a7, _, ag, rfl⟩, ay, az, aA⟩)
theorem ojM (hw : oo Z aw) (ws : List Jvm.Cond) (a0 : Addr) (a2 : Addr) (h0 : Heap) (n0 : Nat) (Z0 : n0 ≤ h0.size) (ae : Exa Z h0 a0 "java/util/HashMap") (ac : Fld Z h0 a0 "java/util/HashMap" "table" "[Ljava/util/HashMap$Node;" .null) (aa : Fld Z h0 a0 "java/util/HashMap" "threshold" "I" (.int (0 : Int32))) (af : Fld Z h0 a0 "java/util/HashMap" "size" "I" (.int (0 : Int32))) (ab : Fld Z h0 a0 "java/util/HashMap" "modCount" "I" (.int (0 : Int32))) (ao : n0 ≤ a0) :
    ot l Z (⟨"java/util/HashMap", "put", "(Ljava/lang/Object;Ljava/lang/Object;)Ljava/lang/Object;"⟩ : MethodName) jdk_69_method_15_code 3 (some (.object "java/lang/Object")) ws ({ frames := 4, cells := 2, slots := 20, locals := 71 } : Room) #[(.ref a0), .null, (.ref a2)] h0 (ohF Z a0 a2 h0 n0) := by
  refine ou (plainFor_of_name o6) (fun m => ohE m a0 a2) ?_
  intro p e s m below meth c aM Bd hml hx hby hlk hown hnm hZ X0 e0
  have hd := oq ohD hby
  have N0 := Fr.nil n0
  have K0 : Keep h0 h0 [a0] := Keep.refl _ _
  refine oc X0 hx (hd 0 rfl) rfl rfl ?_
  refine oc X0 hx (hd 1 rfl) rfl rfl ?_
  refine oL X0 hx hZ hown (hw 503 rfl) (hw 504 rfl) (hw 505 rfl) (hw 61 rfl) (by decide) (oco l Z aw hw []  h0 n0 Z0 ) e0 hml rfl rfl (rest := [(.ref a0)]) rfl (lenOf obY rfl) (hd 2 rfl) rfl fun T1 aP v1 X1 aI => ?_
  obtain ⟨rfl, aD, e1⟩ := aI
  have aF := Fr.app N0 aD
  refine oc X1 hx (hd 3 rfl) rfl rfl ?_
  refine oc X1 hx (hd 4 rfl) rfl rfl ?_
  refine ol (v := (.int (0 : Int32))) (fun _ k => XS.iconst X1.here hx rfl (hd 5 rfl) k) ?_
  refine ol (v := (.int (1 : Int32))) (fun _ k => XS.iconst X1.here hx rfl (hd 6 rfl) k) ?_
  have ag := ae.lt
  refine oB X1 hx hZ hown (hw 506 rfl) (hw 507 rfl) (hw 509 rfl) (hw 508 rfl) (hw 510 rfl) (hw 61 rfl) (by decide) (ojL l Z aw hw [] a0 a2 h0 n0 Z0 ae ac aa af ab ao) e1 ae hml rfl rfl (rest := []) rfl (lenOf ohB rfl) (hd 7 rfl) rfl fun T2 aQ v2 X2 aJ => ?_
  obtain ⟨rfl, aE, k2, aN, aL, au, aq, Q2⟩ := aJ
  have aG := Fr.app aF aE
  replace ae := ae.keep k2
  have aC := K0.trans k2 (allS (Or.inl (List.mem_of_getElem? (i := 0) rfl)) all0)
  have aR := Nat.le_trans Z0 k2.1
  have ak := Nat.lt_of_lt_of_le ag au
  have ax := Nat.le_trans Z0 au
  have ai := Nat.le_trans K0.1 au
  have aj := Nat.lt_of_lt_of_le ag aq
  have av := Nat.le_trans Z0 aq
  have ah := Nat.le_trans K0.1 aq
  obtain ⟨-, aA, ⟨aK, aO, aH, ap⟩, ay, az, aB⟩ := Q2
  exact oO X2 hx hlk (by decide) (by decide) Bd.returns rfl rfl (hd 8 rfl) (⟨rfl, aG, aC, aN, aL, ai, ah, ae, aA, ⟨aK, aO, aH, ap⟩, ay, az, aB⟩)
theorem ojN (hw : oo Z aw) (ws : List Jvm.Cond) (kk : ov) (h0 : Heap) (n0 : Nat) (Z0 : n0 ≤ h0.size) (J0 : oy Z h0 n0 kk) :
    ot l Z (⟨"java/lang/Integer", "valueOf", "(I)Ljava/lang/Integer;"⟩ : MethodName) jdk_33_method_22_code 1 (some (.object "java/lang/Integer")) ws ({ frames := 0, cells := 0, slots := 0, locals := 0 } : Room) #[(.int (0 : Int32))] h0 (ohJ Z kk h0 n0) := by
  refine ou (plainFor_of_name ob4) (fun m => ohI m (0 : Int32)) ?_
  intro p e s m below meth c af Bd hml hx hby hlk hown hnm hZ X0 e0
  have hd := oq ohH hby
  have N0 := Fr.nil n0
  have K0 : Keep h0 h0 [] := Keep.refl _ _
  refine oj X0 hx (hd 0 rfl) rfl ?_
  refine ol (v := (.int (-128 : Int32))) (fun _ k => XS.bipush X0.here hx rfl (hd 1 rfl) k) ?_
  refine og (S' := [])  (fun _ k => XS.icmpNo X0.here hx rfl (hd 2 rfl) rfl (flt (by decide)).1 k) ?_
  refine oj X0 hx (hd 3 rfl) rfl ?_
  refine oi (getS2 X0 hx hZ hown (host := "") (Or.inl (hw 465 rfl)) Via.refl e0 J0.hi rfl (hd 4 rfl)) fun T1 X1 e1 => ?_
  show oe p.tables e below _ (T1.setTop (mkF m 10 #[.val (.int (0 : Int32))] [(.int (127 : Int32)), (.int (0 : Int32))]))
  refine og (S' := [])  (fun _ k => XS.icmpNo X1.here hx rfl (hd 5 rfl) rfl (flt (by decide)).2.2.1 k) ?_
  refine oi (getS2 X1 hx hZ hown (host := "") (Or.inl (hw 467 rfl)) Via.refl e1 J0.ch rfl (hd 6 rfl)) fun T2 X2 e2 => ?_
  show oe p.tables e below _ (T2.setTop (mkF m 16 #[.val (.int (0 : Int32))] [(.ref kk.ch)]))
  refine oj X2 hx (hd 7 rfl) rfl ?_
  refine ol (v := (.int (128 : Int32))) (fun _ k => XS.sipush X2.here hx rfl (hd 8 rfl) k) ?_
  refine og (S' := [(.int ((0 : Int32) + (128 : Int32))), (.ref kk.ch)])  (fun _ k => XS.iadd X2.here hx rfl (hd 9 rfl) rfl k) ?_
  show oe p.tables e below _ (T2.setTop (mkF m 21 #[.val (.int (0 : Int32))] [(.int ((0 : Int32) + (128 : Int32))), (.ref kk.ch)]))
  rw [show ((0 : Int32) + (128 : Int32)) = (128 : Int32) from by decide]
  obtain ⟨ae, ab, q3, S3, ag, H3, G3⟩ := id (J0.vch)
  have aa : ¬ ((128 : Int32) < 0 ∨ ae.slots.size ≤ ((128 : Int32)).toNatClampNeg) := inb_of S3 ⟨(by decide), (by decide)⟩
  have ac : ae.slots[((128 : Int32)).toNatClampNeg]? = some (.ref kk.i0) := H3.at aa J0.at0
  refine ow (fun _ k => X2.aaload hx (j := (128 : Int32)) (v := (.ref kk.i0)) (by rw [e2]; exact ab.1) (State.isArrayOf_alike hZ.alike ab.2.1) rfl ab.2.2 aa ac rfl rfl (hd 10 rfl) _ k) ?_
  show oe p.tables e below _ (T2.setTop (mkF m 22 #[.val (.int (0 : Int32))] [(.ref kk.i0)]))
  exact oO X2 hx hlk (by decide) (by decide) Bd.returns rfl rfl (hd 11 rfl) (by rw [e2]; exact ⟨rfl, N0, rfl⟩)
theorem ocp (hw : oo Z aw) (ws : List Jvm.Cond) (a0 : Addr) (z : Int32) (h0 : Heap) (n0 : Nat) (Z0 : n0 ≤ h0.size) (aa : Fld Z h0 a0 "java/lang/Integer" "value" "I" (.int z)) :
    ot l Z (⟨"java/lang/Integer", "intValue", "()I"⟩ : MethodName) jdk_33_method_27_code 1 (some .int) ws ({ frames := 0, cells := 0, slots := 0, locals := 0 } : Room) #[(.ref a0)] h0 (ohN Z a0 z h0 n0) := by
  refine ou (plainFor_of_name ob4) (fun m => ohM m a0) ?_
  intro p e s m below meth c ab Bd hml hx hby hlk hown hnm hZ X0 e0
  have hd := oq ohL hby
  have N0 := Fr.nil n0
  have K0 : Keep h0 h0 [] := Keep.refl _ _
  refine oc X0 hx (hd 0 rfl) rfl rfl ?_
  refine oi (getF X0 hx hZ hown (host := "") (Or.inl (hw 554 rfl)) Via.refl e0 aa rfl rfl (hd 1 rfl)) fun T1 X1 e1 => ?_
  exact oQ X1 hx hlk (by decide) (by decide) Bd.returns (hd 2 rfl) (by rw [e1]; exact ⟨rfl, N0, rfl⟩)
theorem ojO (hw : oo Z aw) (ws : List Jvm.Cond) (a0 : Addr) (kk : ov) (z : Int32) (h0 : Heap) (n0 : Nat) (Z0 : n0 ≤ h0.size) (ae : Exa Z h0 a0 "java/util/ArrayList") (ab : Fld Z h0 a0 "java/util/AbstractList" "modCount" "I" (.int z)) (aa : Fld Z h0 a0 "java/util/ArrayList" "elementData" "[Ljava/lang/Object;" (.ref kk.de)) (ac : Fld Z h0 a0 "java/util/ArrayList" "size" "I" (.int (0 : Int32))) (ah : n0 ≤ a0) (J0 : oy Z h0 n0 kk) :
    ot l Z (⟨"java/util/ArrayList", "grow", "(I)[Ljava/lang/Object;"⟩ : MethodName) jdk_38_method_6_code 4 (some (.array (.object "java/lang/Object"))) ws ({ frames := 1, cells := 1, slots := 10, locals := 14 } : Room) #[(.ref a0), (.int (1 : Int32))] h0 (ohR Z a0 kk z h0 n0) := by
  refine ou (plainFor_of_name oab) (fun m => ohQ m a0 (1 : Int32)) ?_
  intro p e s m below meth c aC Bd hml hx hby hlk hown hnm hZ X0 e0
  have hd := oq ohP hby
  have N0 := Fr.nil n0
  have K0 : Keep h0 h0 [a0] := Keep.refl _ _
  refine oc X0 hx (hd 0 rfl) rfl rfl ?_
  refine oi (getF X0 hx hZ hown (host := "") (Or.inl (hw 27 rfl)) Via.refl e0 aa rfl rfl (hd 1 rfl)) fun T1 X1 e1 => ?_
  obtain ⟨aF, ak, q2, S2, ay, H2, G2⟩ := id (J0.vde)
  refine ow (fun _ k => X1.arraylength hx (by rw [e1]; exact ak.1) (State.isArrayOf_alike hZ.alike ak.2.1) rfl rfl (hd 2 rfl) _ k) ?_
  rw [len_of S2 ay]
  show oe p.tables e below _ (T1.setTop (mkF m 5 #[.val (.ref a0), .val (.int (1 : Int32)), .unset, .unset] [(.int (0 : Int32))]))
  refine oz (fun _ k => XS.istoreN X1.here hx rfl (hd 3 rfl) rfl (l' := #[.val (.ref a0), .val (.int (1 : Int32)), .val (.int (0 : Int32)), .unset]) rfl k) ?_
  refine oj X1 hx (hd 4 rfl) rfl ?_
  refine og (S' := [])  (fun _ k => XS.ifNo X1.here hx rfl (hd 5 rfl) rfl ((if0 _ _).trans (flt (by decide)).2.2.1) k) ?_
  refine oc X1 hx (hd 6 rfl) rfl rfl ?_
  refine oi (getF X1 hx hZ hown (host := "") (Or.inl (hw 27 rfl)) Via.refl e1 aa rfl rfl (hd 7 rfl)) fun T3 X3 e3 => ?_
  refine oi (getS2 X3 hx hZ hown (host := "") (Or.inl (hw 26 rfl)) Via.refl e3 J0.de rfl (hd 8 rfl)) fun T4 X4 e4 => ?_
  show oe p.tables e below _ (T4.setTop (mkF m 17 #[.val (.ref a0), .val (.int (1 : Int32)), .val (.int (0 : Int32)), .unset] [(.ref kk.de), (.ref kk.de)]))
  refine ow (fun _ k => Jvm.RoadKit.acmp X4 hx rfl rfl rfl (pc0 := 17) (pc' := 45) (same := true) rfl (hd 9 rfl) rfl (by simp) (by decide) (by decide) k) ?_
  show oe p.tables e below _ (T4.setTop (mkF m 45 #[.val (.ref a0), .val (.int (1 : Int32)), .val (.int (0 : Int32)), .unset] []))
  refine oc X4 hx (hd 10 rfl) rfl rfl ?_
  refine ol (v := (.int (10 : Int32))) (fun _ k => XS.bipush X4.here hx rfl (hd 11 rfl) k) ?_
  refine oj X4 hx (hd 12 rfl) rfl ?_
  refine oL X4 hx hZ hown (hw 491 rfl) (hw 492 rfl) (hw 493 rfl) (hw 204 rfl) (by decide) (obn l Z aw hw [] (10 : Int32) (1 : Int32) h0 n0 Z0 ) e4 hml rfl rfl (rest := [(.ref a0)]) rfl (lenOf oav rfl) (hd 13 rfl) rfl fun T5 aD v5 X5 aB => ?_
  obtain ⟨rfl, au, e5⟩ := aB
  have av := Fr.app N0 au
  rw [show (oag (10 : Int32) (1 : Int32)) = (10 : Int32) by decide]
  obtain ⟨T6, h6, k6, X6, e6, E6, A6, aj, O6, ao⟩ := newRE X5 hx hZ hown (hw 494 rfl) (hw 139 rfl) e5 (g := (mkF m 52 #[.val (.ref a0), .val (.int (1 : Int32)), .val (.int (0 : Int32)), .unset] [(.int (10 : Int32)), (.ref a0)])) rfl (hd 14 rfl) rfl (by decide) (cap := 10) (by decide) (by decide) (by decide) (by decide) (ad := "[Ljava/lang/Object;") rfl
  obtain ⟨b6, g6⟩ : ∃ z, z = h0.size := ⟨_, rfl⟩
  rw [← g6] at A6 aj ao
  refine ow ao ?_
  have af := os ae.lt g6
  have aA := om Z0 g6
  have ai := om K0.1 g6
  replace ae := ae.ext E6
  replace ab := ab.ext E6
  replace aa := aa.ext E6
  replace ac := ac.ext E6
  replace J0 := J0.keep (op E6) all0
  have ap := K0.ext E6
  have az := Nat.le_trans Z0 E6.1
  have ag : Arv Z h6 b6 k6 (.object "java/lang/Object") (10 : Int32) (List.replicate 10 .null) .null := oar 10 (Arv.new A6 (by decide))
  show oe p.tables e below _ (T6.setTop (mkF m 55 #[.val (.ref a0), .val (.int (1 : Int32)), .val (.int (0 : Int32)), .unset] [(.ref b6), (.ref a0)]))
  refine og (S' := [(.ref b6), (.ref a0), (.ref b6)])  (fun _ k => XS.dupX1 X6.here hx rfl (hd 15 rfl) rfl rfl rfl k) ?_
  refine ox (putF X6 hx hZ hown (host := "") (Or.inl (hw 27 rfl)) Via.refl e6 aa ae (Or.inl (hw 28 rfl)) (hw 4 rfl) (ty := (.array (.object "java/lang/Object"))) (by decide) rfl rfl rfl rfl (hd 16 rfl)) fun T7 h7 X7 e7 W7 => ?_
  replace ae := ae.wr W7
  replace ab := ab.other W7 (Or.inr (ob (Or.inl (hw 25 rfl)) (Or.inl (hw 28 rfl)) (by decide)))
  replace aa := aa.same W7
  replace ac := ac.other W7 (Or.inr (ob (Or.inl (hw 211 rfl)) (Or.inl (hw 28 rfl)) (by decide)))
  replace J0 := J0.keep (Keep.of_wr W7) (allS ah all0)
  replace ag := ag.other W7 (Ne.symm (od af))
  replace aj := aj.wr W7
  have aq := ap.wr W7 (Or.inl (List.mem_of_getElem? (i := 0) rfl))
  have aE := Nat.le_trans az (Keep.of_wr W7).1
  have ax := Fr.snoc X7 av ah
  exact oO X7 hx hlk (by decide) (by decide) Bd.returns rfl rfl (hd 17 rfl) (by rw [e7]; exact ⟨b6, rfl, ax, aq, k6, ai, ag, ac⟩)
theorem ojP (hw : oo Z aw) (ws : List Jvm.Cond) (a0 : Addr) (kk : ov) (z : Int32) (h0 : Heap) (n0 : Nat) (Z0 : n0 ≤ h0.size) (ae : Exa Z h0 a0 "java/util/ArrayList") (ab : Fld Z h0 a0 "java/util/AbstractList" "modCount" "I" (.int z)) (aa : Fld Z h0 a0 "java/util/ArrayList" "elementData" "[Ljava/lang/Object;" (.ref kk.de)) (ac : Fld Z h0 a0 "java/util/ArrayList" "size" "I" (.int (0 : Int32))) (ag : n0 ≤ a0) (J0 : oy Z h0 n0 kk) :
    ot l Z (⟨"java/util/ArrayList", "grow", "()[Ljava/lang/Object;"⟩ : MethodName) jdk_38_method_7_code 1 (some (.array (.object "java/lang/Object"))) ws ({ frames := 2, cells := 1, slots := 10, locals := 29 } : Room) #[(.ref a0)] h0 (ohV Z a0 kk z h0 n0) := by
  refine ou (plainFor_of_name oab) (fun m => ohU m a0) ?_
  intro p e s m below meth c az Bd hml hx hby hlk hown hnm hZ X0 e0
  have hd := oq ohT hby
  have N0 := Fr.nil n0
  have K0 : Keep h0 h0 [a0] := Keep.refl _ _
  refine oc X0 hx (hd 0 rfl) rfl rfl ?_
  refine oc X0 hx (hd 1 rfl) rfl rfl ?_
  refine oi (getF X0 hx hZ hown (host := "") (Or.inl (hw 210 rfl)) Via.refl e0 ac rfl rfl (hd 2 rfl)) fun T1 X1 e1 => ?_
  refine ol (v := (.int (1 : Int32))) (fun _ k => XS.iconst X1.here hx rfl (hd 3 rfl) k) ?_
  refine og (S' := [(.int ((0 : Int32) + (1 : Int32))), (.ref a0)])  (fun _ k => XS.iadd X1.here hx rfl (hd 4 rfl) rfl k) ?_
  show oe p.tables e below _ (T1.setTop (mkF m 7 #[.val (.ref a0)] [(.int ((0 : Int32) + (1 : Int32))), (.ref a0)]))
  rw [show ((0 : Int32) + (1 : Int32)) = (1 : Int32) from by decide]
  have af := ae.lt
  refine o8 X1 hx hZ hown (hw 486 rfl) (hw 487 rfl) (hw 4 rfl) (hw 488 rfl) (hw 490 rfl) (hw 5 rfl) (by decide) (ojO l Z aw hw [] a0 kk z h0 n0 Z0 ae ab aa ac ag J0) e1 ae hml rfl rfl (rest := []) rfl (lenOf ofz rfl) (hd 5 rfl) rfl fun T2 aA v2 X2 ax => ?_
  obtain ⟨r2, rfl, ap, k2, ay, aj, au, ak⟩ := ax
  have aq := Fr.app N0 ap
  replace ae := ae.keep k2
  replace J0 := J0.keep k2 (allS ag all0)
  have ao := K0.trans k2 (allS (Or.inl (List.mem_of_getElem? (i := 0) rfl)) all0)
  have aB := Nat.le_trans Z0 k2.1
  have ah := Nat.lt_of_lt_of_le af aj
  have av := Nat.le_trans Z0 aj
  have ai := Nat.le_trans K0.1 aj
  exact oO X2 hx hlk (by decide) (by decide) Bd.returns rfl rfl (hd 6 rfl) (⟨r2, rfl, aq, ao, ay, ai, au, ak⟩)
theorem ojQ (hw : oo Z aw) (ws : List Jvm.Cond) (a0 : Addr) (kk : ov) (z : Int32) (h0 : Heap) (n0 : Nat) (Z0 : n0 ≤ h0.size) (ab : Exa Z h0 a0 "java/util/ArrayList") (ac : Fld Z h0 a0 "java/util/AbstractList" "modCount" "I" (.int z)) (aa : Fld Z h0 a0 "java/util/ArrayList" "elementData" "[Ljava/lang/Object;" (.ref kk.de)) (af : Fld Z h0 a0 "java/util/ArrayList" "size" "I" (.int (0 : Int32))) (ah : n0 ≤ a0) (J0 : oy Z h0 n0 kk) :
    ot l Z (⟨"java/util/ArrayList", "add", "(Ljava/lang/Object;[Ljava/lang/Object;I)V"⟩ : MethodName) jdk_38_method_24_code 4 none ws ({ frames := 3, cells := 1, slots := 10, locals := 41 } : Room) #[(.ref a0), .null, (.ref kk.de), (.int (0 : Int32))] h0 (ohZ Z a0 kk z h0 n0) := by
  refine ou (plainFor_of_name oab) (fun m => ohY m a0 kk.de (0 : Int32)) ?_
  intro p e s m below meth c aq Bd hml hx hby hlk hown hnm hZ X0 e0
  have hd := oq ohX hby
  have N0 := Fr.nil n0
  have K0 : Keep h0 h0 [a0] := Keep.refl _ _
  refine oj X0 hx (hd 0 rfl) rfl ?_
  refine oc X0 hx (hd 1 rfl) rfl rfl ?_
  obtain ⟨aP, av, q1, S1, aF, H1, G1⟩ := id (J0.vde)
  refine ow (fun _ k => X0.arraylength hx (by rw [e0]; exact av.1) (State.isArrayOf_alike hZ.alike av.2.1) rfl rfl (hd 2 rfl) _ k) ?_
  rw [len_of S1 aF]
  show oe p.tables e below _ (aq.setTop (mkF m 3 #[.val (.ref a0), .val .null, .val (.ref kk.de), .val (.int (0 : Int32))] [(.int (0 : Int32)), (.int (0 : Int32))]))
  refine og (S' := [])  (fun _ k => XS.icmpNo X0.here hx rfl (hd 3 rfl) rfl (teq (by decide)).2 k) ?_
  refine oc X0 hx (hd 4 rfl) rfl rfl ?_
  have ai := ab.lt
  refine o8 X0 hx hZ hown (hw 481 rfl) (hw 482 rfl) (hw 4 rfl) (hw 483 rfl) (hw 485 rfl) (hw 5 rfl) (by decide) (ojP l Z aw hw [] a0 kk z h0 n0 Z0 ab ac aa af ah J0) e0 ab hml rfl rfl (rest := []) rfl (lenOf obk rfl) (hd 5 rfl) rfl fun T2 aN v2 X2 aL => ?_
  obtain ⟨r2, rfl, aB, k2, aM, au, aH, aj⟩ := aL
  have aC := Fr.app N0 aB
  replace ab := ab.keep k2
  replace J0 := J0.keep k2 (allS ah all0)
  have ay := K0.trans k2 (allS (Or.inl (List.mem_of_getElem? (i := 0) rfl)) all0)
  have aI := Nat.le_trans Z0 k2.1
  have ae := Nat.lt_of_lt_of_le ai au
  have ak := Nat.le_trans Z0 au
  have ao := Nat.le_trans K0.1 au
  refine oz (fun _ k => XS.astoreN X2.here hx rfl (hd 6 rfl) rfl rfl (l' := #[.val (.ref a0), .val .null, .val (.ref r2), .val (.int (0 : Int32))]) rfl k) ?_
  refine oc X2 hx (hd 7 rfl) rfl rfl ?_
  refine oj X2 hx (hd 8 rfl) rfl ?_
  refine oc X2 hx (hd 9 rfl) rfl rfl ?_
  obtain ⟨aK, ax, q3, S3, aG, H3, G3⟩ := id aH
  have ap : ¬ ((0 : Int32) < 0 ∨ aK.slots.size ≤ ((0 : Int32)).toNatClampNeg) := inb_of S3 ⟨(by decide), (by decide)⟩
  refine ox (stR X2 hx hZ rfl ax (j := (0 : Int32)) ap rfl (Or.inl rfl) rfl rfl (hd 10 rfl)) fun T3 h3 X3 e3 W3 => ?_
  replace ab := ab.wr W3
  replace J0 := J0.keep (Keep.of_wr W3) (allS ak all0)
  replace aj := aj.other W3 (Or.inl (od ae))
  have az := ay.wr W3 (Or.inr ao)
  have aJ := Nat.le_trans aI (Keep.of_wr W3).1
  have aD := Fr.snoc X3 aC ak
  have ag : Arv Z h3 r2 aM (.object "java/lang/Object") (10 : Int32) ((List.replicate 10 .null).set 0 .null) .null := Arv.set ax q3 S3 aG H3 G3 rfl W3 0 (by decide) (by simp)
  refine oc X3 hx (hd 11 rfl) rfl rfl ?_
  refine oj X3 hx (hd 12 rfl) rfl ?_
  refine ol (v := (.int (1 : Int32))) (fun _ k => XS.iconst X3.here hx rfl (hd 13 rfl) k) ?_
  refine og (S' := [(.int ((0 : Int32) + (1 : Int32))), (.ref a0)])  (fun _ k => XS.iadd X3.here hx rfl (hd 14 rfl) rfl k) ?_
  show oe p.tables e below _ (T3.setTop (mkF m 19 #[.val (.ref a0), .val .null, .val (.ref r2), .val (.int (0 : Int32))] [(.int ((0 : Int32) + (1 : Int32))), (.ref a0)]))
  rw [show ((0 : Int32) + (1 : Int32)) = (1 : Int32) from by decide]
  refine ox (putF X3 hx hZ hown (host := "") (Or.inl (hw 210 rfl)) Via.refl e3 aj ab (Or.inl (hw 211 rfl)) (hw 4 rfl) (ty := .int) (by decide) rfl rfl rfl rfl (hd 15 rfl)) fun T4 h4 X4 e4 W4 => ?_
  replace ab := ab.wr W4
  replace J0 := J0.keep (Keep.of_wr W4) (allS ah all0)
  replace aj := aj.same W4
  replace ag := ag.other W4 (Ne.symm (od ae))
  have aA := az.wr W4 (Or.inl (List.mem_of_getElem? (i := 0) rfl))
  have aO := Nat.le_trans aJ (Keep.of_wr W4).1
  have aE := Fr.snoc X4 aD ah
  exact oG X4 hx hlk (by decide) (by decide) Bd.returns (hd 16 rfl) (by rw [e4]; exact ⟨rfl, aE, aA⟩)
theorem ojR (hw : oo Z aw) (ws : List Jvm.Cond) (a0 : Addr) (kk : ov) (z : Int32) (h0 : Heap) (n0 : Nat) (Z0 : n0 ≤ h0.size) (ae : Exa Z h0 a0 "java/util/ArrayList") (ab : Fld Z h0 a0 "java/util/AbstractList" "modCount" "I" (.int z)) (aa : Fld Z h0 a0 "java/util/ArrayList" "elementData" "[Ljava/lang/Object;" (.ref kk.de)) (ac : Fld Z h0 a0 "java/util/ArrayList" "size" "I" (.int (0 : Int32))) (af : n0 ≤ a0) (J0 : oy Z h0 n0 kk) :
    ot l Z (⟨"java/util/ArrayList", "add", "(Ljava/lang/Object;)Z"⟩ : MethodName) jdk_38_method_25_code 2 (some .boolean) ws ({ frames := 4, cells := 1, slots := 10, locals := 56 } : Room) #[(.ref a0), .null] h0 (oh4 Z a0 kk z h0 n0) := by
  refine ou (plainFor_of_name oab) (fun m => oh3 m a0) ?_
  intro p e s m below meth c aq Bd hml hx hby hlk hown hnm hZ X0 e0
  have hd := oq oh2 hby
  have N0 := Fr.nil n0
  have K0 : Keep h0 h0 [a0] := Keep.refl _ _
  refine oc X0 hx (hd 0 rfl) rfl rfl ?_
  refine og (S' := [(.ref a0), (.ref a0)])  (fun _ k => XS.dup X0.here hx rfl (hd 1 rfl) rfl rfl k) ?_
  refine oi (getF X0 hx hZ hown (host := "") (Or.inl (hw 316 rfl)) (Via.of (hw 245 rfl)) e0 ab rfl rfl (hd 2 rfl)) fun T1 X1 e1 => ?_
  refine ol (v := (.int (1 : Int32))) (fun _ k => XS.iconst X1.here hx rfl (hd 3 rfl) k) ?_
  refine og (S' := [(.int (z + (1 : Int32))), (.ref a0)])  (fun _ k => XS.iadd X1.here hx rfl (hd 4 rfl) rfl k) ?_
  refine ox (putF X1 hx hZ hown (host := "") (Or.inl (hw 316 rfl)) (Via.of (hw 245 rfl)) e1 ab ae (Or.inl (hw 25 rfl)) (hw 4 rfl) (ty := .int) (by decide) rfl rfl rfl rfl (hd 5 rfl)) fun T2 h2 X2 e2 W2 => ?_
  replace ae := ae.wr W2
  replace ab := ab.same W2
  replace aa := aa.other W2 (Or.inr (ob (Or.inl (hw 28 rfl)) (Or.inl (hw 25 rfl)) (by decide)))
  replace ac := ac.other W2 (Or.inr (ob (Or.inl (hw 211 rfl)) (Or.inl (hw 25 rfl)) (by decide)))
  replace J0 := J0.keep (Keep.of_wr W2) (allS af all0)
  have ah := K0.wr W2 (Or.inl (List.mem_of_getElem? (i := 0) rfl))
  have ag := Nat.le_trans Z0 (Keep.of_wr W2).1
  have ak := Fr.snoc X2 N0 af
  refine oc X2 hx (hd 6 rfl) rfl rfl ?_
  refine oc X2 hx (hd 7 rfl) rfl rfl ?_
  refine oc X2 hx (hd 8 rfl) rfl rfl ?_
  refine oi (getF X2 hx hZ hown (host := "") (Or.inl (hw 27 rfl)) Via.refl e2 aa rfl rfl (hd 9 rfl)) fun T3 X3 e3 => ?_
  refine oc X3 hx (hd 10 rfl) rfl rfl ?_
  refine oi (getF X3 hx hZ hown (host := "") (Or.inl (hw 210 rfl)) Via.refl e3 ac rfl rfl (hd 11 rfl)) fun T4 X4 e4 => ?_
  refine o8 X4 hx hZ hown (hw 476 rfl) (hw 477 rfl) (hw 4 rfl) (hw 478 rfl) (hw 480 rfl) (hw 5 rfl) (by decide) (ojQ l Z aw hw [] a0 kk (z + (1 : Int32)) h2 n0 ag ae ab aa ac af J0) e4 ae hml rfl rfl (rest := []) rfl (lenOf oh0 rfl) (hd 12 rfl) rfl fun T5 au v5 X5 ap => ?_
  obtain ⟨rfl, aj, k5⟩ := ap
  have ao := Fr.app ak aj
  replace ae := ae.keep k5
  replace J0 := J0.keep k5 (allS af all0)
  have ai := ah.trans k5 (allS (Or.inl (List.mem_of_getElem? (i := 0) rfl)) all0)
  have av := Nat.le_trans ag k5.1
  refine ol (v := (.int (1 : Int32))) (fun _ k => XS.iconst X5.here hx rfl (hd 13 rfl) k) ?_
  exact oap X5 hx hlk (by decide) (by decide) (t := .boolean) Bd.returns (by simp) (hd 14 rfl) (⟨rfl, ao, ai⟩)
theorem oaK (hw : oo Z aw) (ws : List Jvm.Cond) (a0 : Addr) (kk : ov) (ee : Nat) (B : Nat) (h0 : Heap) (n0 : Nat) (Z0 : n0 ≤ h0.size) (C0 : oA Z h0 kk.de a0 ee) (bP : ee ≤ B) (bu : B ≤ Array.size h0) (aM : n0 ≤ a0) (J0 : oy Z h0 n0 kk) :
    ot l Z (⟨"com/example/restate/restate/model/CensusColumns$Codes", "add", "(Ljava/lang/Object;)V"⟩ : MethodName) prog_33_method_2_code 3 none ws ({ frames := 5, cells := 4, slots := 46, locals := 85 } : Room) #[(.ref a0), .null] h0 (oh9 Z a0 kk ee B h0 n0) := by
  refine ou (plainFor_of_name obj) (fun m => ob6 m a0) ?_
  intro p e s m below meth c bX Bd hml hx hby hlk hown hnm hZ X0 e0
  have hd := oq ob5 hby
  have N0 := Fr.nil n0
  have K0 : Keep h0 h0 [] := Keep.refl _ _
  obtain ⟨al, hm, lc, o0, ⟨au, ae, ac, ai⟩, ⟨ap, aY, aX, aK⟩, ⟨aj, aB, aD, aF, aE⟩, ⟨aq, az, av, ax, ay⟩⟩ := C0
  have af : @LT.lt Nat _ a0 al := by have := o0; omega
  have ak : @LT.lt Nat _ a0 hm := by have := o0; omega
  have ao : @LT.lt Nat _ a0 lc := by have := o0; omega
  have ab : @LT.lt Nat _ al hm := by have := o0; omega
  have ag : @LT.lt Nat _ al lc := by have := o0; omega
  have aa : @LT.lt Nat _ hm lc := by have := o0; omega
  have a5 : n0 ≤ al := by have := o0; have := aM; omega
  have a6 : n0 ≤ hm := by have := o0; have := aM; omega
  have a7 : n0 ≤ lc := by have := o0; have := aM; omega
  have a8 : @LE.le Nat _ a0 al ∧ al < ee := by have := o0; omega
  have a9 : @LE.le Nat _ a0 hm ∧ hm < ee := by have := o0; omega
  have ba : @LE.le Nat _ a0 lc ∧ lc < ee := by have := o0; omega
  have K0 : oD h0 h0 a0 ee := oD.refl _ _ _
  refine oc X0 hx (hd 0 rfl) rfl rfl ?_
  refine oi (getF X0 hx hZ hown (host := "") (Or.inl (hw 75 rfl)) Via.refl e0 ac rfl rfl (hd 1 rfl)) fun T1 X1 e1 => ?_
  refine oc X1 hx (hd 2 rfl) rfl rfl ?_
  refine oS X1 hx hZ hown (hw 444 rfl) (hw 445 rfl) (hw 446 rfl) (hw 447 rfl) (hw 448 rfl) (hw 449 rfl) (hw 450 rfl) (hw 451 rfl) (hw 452 rfl) (hw 61 rfl) (by decide) (ojF l Z aw hw [] hm h0 n0 Z0 aj aB) e1 aj hml rfl rfl (rest := []) rfl (lenOf oaF rfl) (hd 3 rfl) rfl fun T2 b0 v2 X2 bQ => ?_
  obtain ⟨rfl, bz, e2⟩ := bQ
  have bE := Fr.app N0 bz
  refine ow (fun _ k => X2.checkcastNull hx rfl rfl (hd 4 rfl) _ k) ?_
  show oe p.tables e below _ (T2.setTop (mkF m 13 #[.val (.ref a0), .val .null, .unset] [.null]))
  refine oz (fun _ k => XS.astoreN X2.here hx rfl (hd 5 rfl) rfl rfl (l' := #[.val (.ref a0), .val .null, .val .null]) rfl k) ?_
  refine oc X2 hx (hd 6 rfl) rfl rfl ?_
  refine og (S' := [])  (fun _ k => XS.ifnonnullNo X2.here hx rfl (hd 7 rfl) rfl k) ?_
  refine oc X2 hx (hd 8 rfl) rfl rfl ?_
  refine oi (getF X2 hx hZ hown (host := "") (Or.inl (hw 57 rfl)) Via.refl e2 ae rfl rfl (hd 9 rfl)) fun T3 X3 e3 => ?_
  refine oS X3 hx hZ hown (hw 460 rfl) (hw 337 rfl) (hw 338 rfl) (hw 339 rfl) (hw 340 rfl) (hw 341 rfl) (hw 342 rfl) (hw 297 rfl) (hw 343 rfl) (hw 5 rfl) (by decide) (oaJ l Z aw hw [] al (0 : Int32) h0 n0 Z0 aK) e3 ap hml rfl rfl (rest := []) rfl (lenOf oV rfl) (hd 10 rfl) rfl fun T4 ce v4 X4 bR => ?_
  obtain ⟨rfl, bA, e4⟩ := bR
  have bF := Fr.app bE bA
  refine oL X4 hx hZ hown (hw 461 rfl) (hw 462 rfl) (hw 464 rfl) (hw 463 rfl) (by decide) (ojN l Z aw hw [] kk h0 n0 Z0 J0) e4 hml rfl rfl (rest := []) rfl (lenOf oh5 rfl) (hd 11 rfl) rfl fun T5 cg v5 X5 bS => ?_
  obtain ⟨rfl, bB, e5⟩ := bS
  have bG := Fr.app bF bB
  have aL := J0.ei0
  refine oz (fun _ k => XS.astoreN X5.here hx rfl (hd 12 rfl) rfl rfl (l' := #[.val (.ref a0), .val .null, .val (.ref kk.i0)]) rfl k) ?_
  refine oc X5 hx (hd 13 rfl) rfl rfl ?_
  refine oi (getF X5 hx hZ hown (host := "") (Or.inl (hw 57 rfl)) Via.refl e5 ae rfl rfl (hd 14 rfl)) fun T6 X6 e6 => ?_
  refine oc X6 hx (hd 15 rfl) rfl rfl ?_
  refine oS X6 hx hZ hown (hw 468 rfl) (hw 469 rfl) (hw 470 rfl) (hw 471 rfl) (hw 472 rfl) (hw 473 rfl) (hw 474 rfl) (hw 297 rfl) (hw 475 rfl) (hw 5 rfl) (by decide) (ojR l Z aw hw [] al kk (0 : Int32) h0 n0 Z0 ap aY aX aK a5 J0) e6 ap hml rfl rfl (rest := []) rfl (lenOf oh6 rfl) (hd 16 rfl) rfl fun T7 ci v7 X7 bT => ?_
  obtain ⟨rfl, bC, k7⟩ := bT
  have bH := Fr.app bG bC
  replace au := au.keep k7
  replace ae := ae.keep k7 (oa af)
  replace ac := ac.keep k7 (oa af)
  replace ai := ai.keep k7 (oa af)
  replace ap := ap.keep k7
  replace aj := aj.keep k7
  replace aB := aB.keep k7 (ninS (Ne.symm (od ab)) nin0)
  replace aD := aD.keep k7 (ninS (Ne.symm (od ab)) nin0)
  replace aF := aF.keep k7 (ninS (Ne.symm (od ab)) nin0)
  replace aE := aE.keep k7 (ninS (Ne.symm (od ab)) nin0)
  replace aq := aq.keep k7
  replace az := az.keep k7 (ninS (Ne.symm (od ag)) nin0)
  replace av := av.keep k7 (ninS (Ne.symm (od ag)) nin0)
  replace ax := ax.keep k7 (ninS (Ne.symm (od ag)) nin0)
  replace ay := ay.keep k7 (ninS (Ne.symm (od ag)) nin0)
  replace J0 := J0.keep k7 (allS a5 all0)
  replace aL := aL.keep k7
  have bg := K0.trans k7 (allS (Or.inl a8) all0)
  have bb := Nat.le_trans Z0 k7.1
  refine og (S' := [])  (fun _ k => XS.pop X7.here hx rfl (hd 17 rfl) rfl rfl k) ?_
  refine oc X7 hx (hd 18 rfl) rfl rfl ?_
  refine oi (getF X7 hx hZ hown (host := "") (Or.inl (hw 75 rfl)) Via.refl rfl ac rfl rfl (hd 19 rfl)) fun T8 X8 e8 => ?_
  refine oc X8 hx (hd 20 rfl) rfl rfl ?_
  refine oc X8 hx (hd 21 rfl) rfl rfl ?_
  have aG := au.lt
  have aH := ap.lt
  have aI := aj.lt
  have aJ := aq.lt
  refine oS X8 hx hZ hown (hw 495 rfl) (hw 496 rfl) (hw 497 rfl) (hw 498 rfl) (hw 499 rfl) (hw 500 rfl) (hw 501 rfl) (hw 451 rfl) (hw 502 rfl) (hw 61 rfl) (by decide) (ojM l Z aw hw [] hm kk.i0 (T7.heap) n0 bb aj aB aD aF aE a6) e8 aj hml rfl rfl (rest := []) rfl (lenOf oh7 rfl) (hd 22 rfl) rfl fun T9 cj v9 X9 bU => ?_
  obtain ⟨rfl, bD, k9, bY, bW, aW, aV, Q9⟩ := bU
  have bI := Fr.app bH bD
  replace au := au.keep k9
  replace ae := ae.keep k9 (oa ak)
  replace ac := ac.keep k9 (oa ak)
  replace ai := ai.keep k9 (oa ak)
  replace ap := ap.keep k9
  replace aj := aj.keep k9
  replace aq := aq.keep k9
  replace az := az.keep k9 (ninS (Ne.symm (od aa)) nin0)
  replace av := av.keep k9 (ninS (Ne.symm (od aa)) nin0)
  replace ax := ax.keep k9 (ninS (Ne.symm (od aa)) nin0)
  replace ay := ay.keep k9 (ninS (Ne.symm (od aa)) nin0)
  replace J0 := J0.keep k9 (allS a6 all0)
  replace aL := aL.keep k9
  have bv := bg.trans k9 (allS (Or.inl a9) all0)
  have bm := Nat.le_trans bb k9.1
  have aQ := Nat.lt_of_lt_of_le aG aW
  have aS := Nat.lt_of_lt_of_le aH aW
  have aU := Nat.lt_of_lt_of_le aI aW
  have aC := Nat.lt_of_lt_of_le aJ aW
  have bt := Nat.le_trans bb aW
  have aO := Nat.le_trans bg.size aW
  have aP := Nat.lt_of_lt_of_le aG aV
  have aR := Nat.lt_of_lt_of_le aH aV
  have aT := Nat.lt_of_lt_of_le aI aV
  have ah := Nat.lt_of_lt_of_le aJ aV
  have bs := Nat.le_trans bb aV
  have aN := Nat.le_trans bg.size aV
  obtain ⟨-, be, ⟨bV, bZ, bl, bp⟩, bc, bd, bf⟩ := Q9
  refine og (S' := [])  (fun _ k => XS.pop X9.here hx rfl (hd 23 rfl) rfl rfl k) ?_
  refine oc X9 hx (hd 24 rfl) rfl rfl ?_
  refine oi (getF X9 hx hZ hown (host := "") (Or.inl (hw 79 rfl)) Via.refl rfl ai rfl rfl (hd 25 rfl)) fun ck bq bN => ?_
  refine oc bq hx (hd 26 rfl) rfl rfl ?_
  refine oB bq hx hZ hown (hw 549 rfl) (hw 550 rfl) (hw 552 rfl) (hw 551 rfl) (hw 553 rfl) (hw 463 rfl) (by decide) (ocp l Z aw hw [] kk.i0 (0 : Int32) (T9.heap) n0 bm J0.fi0) bN aL hml rfl rfl (rest := [(.ref lc)]) rfl (lenOf oV rfl) (hd 27 rfl) rfl fun bK bw cn br bn => ?_
  obtain ⟨rfl, bh, bO⟩ := bn
  have bj := Fr.app bI bh
  refine og (S' := [(.long ((0 : Int32).toInt64)), (.ref lc)])  (fun _ k => XS.i2l br.here hx rfl (hd 28 rfl) rfl k) ?_
  show oe p.tables e below _ (bK.setTop (mkF m 63 #[.val (.ref a0), .val .null, .val (.ref kk.i0)] [(.long ((0 : Int32).toInt64)), (.ref lc)]))
  rw [show ((0 : Int32).toInt64) = (0 : Int64) from by decide]
  refine oB br hx hZ hown (hw 556 rfl) (hw 378 rfl) (hw 380 rfl) (hw 379 rfl) (hw 381 rfl) (hw 35 rfl) (by decide) (oa9 l Z aw hw [] lc (0 : Int64) 0 (0 : Int64) (T9.heap) n0 bm aq az av ax ay a7 (by decide) (Or.inl rfl)) bO aq hml rfl rfl (rest := []) rfl (lenOf oaa rfl) (hd 29 rfl) rfl fun cm bx co bL bo => ?_
  obtain ⟨rfl, bi, aA, bJ⟩ := bo
  have bk := Fr.app bj bi
  replace au := au.keep aA
  replace ae := ae.keep aA (oa ao)
  replace ac := ac.keep aA (oa ao)
  replace ai := ai.keep aA (oa ao)
  replace ap := ap.keep aA
  replace aj := aj.keep aA
  replace aq := aq.keep aA
  replace J0 := J0.keep aA (allS a7 all0)
  replace aL := aL.keep aA
  replace be := be.keep aA (oa aa)
  replace bl := bl.keep aA (ninS (Ne.symm (od aC)) nin0)
  replace bc := bc.keep aA (ninS (Ne.symm (od ah)) nin0)
  replace bd := bd.keep aA (ninS (Ne.symm (od ah)) nin0)
  replace bf := bf.keep aA (ninS (Ne.symm (od ah)) nin0)
  have aZ := bv.trans aA (allS (Or.inl ba) all0)
  have bM := Nat.le_trans bm aA.1
  exact oG bL hx hlk (by decide) (by decide) Bd.returns (hd 30 rfl) (⟨rfl, bk, aZ, al, hm, lc, bY, bW, ⟨af, ab, aa, o0.2.2.2.1, bP, Nat.le_trans bu aO, Nat.le_trans bu aN, Nat.le_trans o0.2.2.2.2 aZ.size⟩, ⟨au, ae, ac, ai⟩, ⟨aj, be, ⟨bV, bZ, bl, bp⟩, bc, bd, bf⟩, bJ⟩)
theorem oaL (hw : oo Z aw) (ws : List Jvm.Cond) (a0 : Addr) (kk : ov) (ee : Nat) (B : Nat) (n : Nat) (h0 : Heap) (n0 : Nat) (Z0 : n0 ≤ h0.size) (C0 : oZ Z h0 kk.i0 B n a0 ee) (hn : n < 16) (az : n0 ≤ a0) (J0 : oy Z h0 n0 kk) :
    ot l Z (⟨"com/example/restate/restate/model/CensusColumns$Codes", "add", "(Ljava/lang/Object;)V"⟩ : MethodName) prog_33_method_2_code 3 none ws ({ frames := 5, cells := 4, slots := 46, locals := 85 } : Room) #[(.ref a0), .null] h0 (oia Z a0 kk ee B n h0 n0) := by
  refine ou (plainFor_of_name obj) (fun m => ob6 m a0) ?_
  intro p e s m below meth c aY Bd hml hx hby hlk hown hnm hZ X0 e0
  have hd := oq ob5 hby
  have N0 := Fr.nil n0
  have K0 : Keep h0 h0 [] := Keep.refl _ _
  obtain ⟨al, hm, lc, tb, nd, o0, ⟨ay, ao, ah, ae⟩, ⟨ak, ai, ⟨kt, vt, ax, aK⟩, af, ag, aj⟩, ⟨av, aD, aA, aB, aC⟩⟩ := C0
  have au : lc < tb := by have := o0; omega
  have ab : lc < nd := by have := o0; omega
  have ap : @LT.lt Nat _ a0 al := by have := o0; omega
  have aG : @LT.lt Nat _ a0 hm := by have := o0; omega
  have aa : @LT.lt Nat _ a0 lc := by have := o0; omega
  have aq : @LT.lt Nat _ al hm := by have := o0; omega
  have aH : @LT.lt Nat _ al lc := by have := o0; omega
  have ac : @LT.lt Nat _ hm lc := by have := o0; omega
  have aT : n0 ≤ al := by have := o0; have := az; omega
  have aU : n0 ≤ hm := by have := o0; have := az; omega
  have aE : n0 ≤ lc := by have := o0; have := az; omega
  have aL : @LE.le Nat _ a0 al ∧ al < ee := by have := o0; omega
  have aM : @LE.le Nat _ a0 hm ∧ hm < ee := by have := o0; omega
  have aF : @LE.le Nat _ a0 lc ∧ lc < ee := by have := o0; omega
  have K0 : oD h0 h0 a0 ee := oD.refl _ _ _
  refine oc X0 hx (hd 0 rfl) rfl rfl ?_
  refine oi (getF X0 hx hZ hown (host := "") (Or.inl (hw 75 rfl)) Via.refl e0 ah rfl rfl (hd 1 rfl)) fun T1 X1 e1 => ?_
  refine oc X1 hx (hd 2 rfl) rfl rfl ?_
  refine oS X1 hx hZ hown (hw 444 rfl) (hw 445 rfl) (hw 446 rfl) (hw 447 rfl) (hw 448 rfl) (hw 449 rfl) (hw 450 rfl) (hw 451 rfl) (hw 452 rfl) (hw 61 rfl) (by decide) (ojG l Z aw hw [] hm tb nd kt vt kk.i0 h0 n0 Z0 ak ai ax aK af ag aj) e1 ak hml rfl rfl (rest := []) rfl (lenOf oaF rfl) (hd 3 rfl) rfl fun T2 aZ v2 X2 aV => ?_
  obtain ⟨rfl, aN, e2⟩ := aV
  have aQ := Fr.app N0 aN
  have aI := J0.ei0
  refine oi (castY X2 hx hZ hown (hw 614 rfl) e2 (Ins.self aI) rfl rfl (hd 4 rfl)) fun T3 X3 e3 => ?_
  show oe p.tables e below _ (T3.setTop (mkF m 13 #[.val (.ref a0), .val .null, .unset] [(.ref kk.i0)]))
  refine oz (fun _ k => XS.astoreN X3.here hx rfl (hd 5 rfl) rfl rfl (l' := #[.val (.ref a0), .val .null, .val (.ref kk.i0)]) rfl k) ?_
  refine oc X3 hx (hd 6 rfl) rfl rfl ?_
  refine oC (S' := [])  (fun _ k => XS.ifnonnullYes X3.here hx rfl (pc0 := 15) (pc' := 54) rfl (hd 7 rfl) rfl (by decide) (by decide) k) ?_
  refine oc X3 hx (hd 24 rfl) rfl rfl ?_
  refine oi (getF X3 hx hZ hown (host := "") (Or.inl (hw 79 rfl)) Via.refl e3 ae rfl rfl (hd 25 rfl)) fun T4 X4 e4 => ?_
  refine oc X4 hx (hd 26 rfl) rfl rfl ?_
  refine oB X4 hx hZ hown (hw 549 rfl) (hw 550 rfl) (hw 552 rfl) (hw 551 rfl) (hw 553 rfl) (hw 463 rfl) (by decide) (ocp l Z aw hw [] kk.i0 (0 : Int32) h0 n0 Z0 J0.fi0) e4 aI hml rfl rfl (rest := [(.ref lc)]) rfl (lenOf oV rfl) (hd 27 rfl) rfl fun T5 a5 v5 X5 aW => ?_
  obtain ⟨rfl, aO, e5⟩ := aW
  have aR := Fr.app aQ aO
  refine og (S' := [(.long ((0 : Int32).toInt64)), (.ref lc)])  (fun _ k => XS.i2l X5.here hx rfl (hd 28 rfl) rfl k) ?_
  show oe p.tables e below _ (T5.setTop (mkF m 63 #[.val (.ref a0), .val .null, .val (.ref kk.i0)] [(.long ((0 : Int32).toInt64)), (.ref lc)]))
  rw [show ((0 : Int32).toInt64) = (0 : Int64) from by decide]
  refine oB X5 hx hZ hown (hw 556 rfl) (hw 378 rfl) (hw 380 rfl) (hw 379 rfl) (hw 381 rfl) (hw 35 rfl) (by decide) (oa9 l Z aw hw [] lc (0 : Int64) n (0 : Int64) h0 n0 Z0 av aD aA aB aC aE hn (Or.inr rfl)) e5 av hml rfl rfl (rest := []) rfl (lenOf oaa rfl) (hd 29 rfl) rfl fun T6 a6 v6 X6 aX => ?_
  obtain ⟨rfl, aP, k6, Q6⟩ := aX
  have aS := Fr.app aR aP
  replace ay := ay.keep k6
  replace ao := ao.keep k6 (oa aa)
  replace ah := ah.keep k6 (oa aa)
  replace ae := ae.keep k6 (oa aa)
  replace ak := ak.keep k6
  replace av := av.keep k6
  replace J0 := J0.keep k6 (allS aE all0)
  replace ai := ai.keep k6 (oa ac)
  replace ax := ax.keep k6 (ninS (Ne.symm (od au)) nin0)
  replace af := af.keep k6 (ninS (Ne.symm (od ab)) nin0)
  replace ag := ag.keep k6 (ninS (Ne.symm (od ab)) nin0)
  replace aj := aj.keep k6 (ninS (Ne.symm (od ab)) nin0)
  replace aI := aI.keep k6
  have aJ := K0.trans k6 (allS (Or.inl aF) all0)
  have a7 := Nat.le_trans Z0 k6.1
  exact oG X6 hx hlk (by decide) (by decide) Bd.returns (hd 30 rfl) (⟨rfl, aS, aJ, al, hm, lc, tb, nd, ⟨ap, aq, ac, o0.2.2.2.1, o0.2.2.2.2.1, o0.2.2.2.2.2.1, o0.2.2.2.2.2.2.1, Nat.le_trans o0.2.2.2.2.2.2.2 aJ.size⟩, ⟨ay, ao, ah, ae⟩, ⟨ak, ai, ⟨kt, vt, ax, aK⟩, af, ag, aj⟩, Q6⟩)
theorem ojS (hw : oo Z aw) (ws : List Jvm.Cond) (a0 : Addr) (h0 : Heap) (n0 : Nat) (Z0 : n0 ≤ h0.size) (aa : Fld Z h0 a0 "com/example/restate/restate/model/AmountColumn" "complete" "Z" (.int (0 : Int32))) :
    ot l Z (⟨"com/example/restate/restate/model/AmountColumn", "checkOpen", "()V"⟩ : MethodName) prog_28_method_5_code 1 none ws ({ frames := 0, cells := 0, slots := 0, locals := 0 } : Room) #[(.ref a0)] h0 (oie Z a0 h0 n0) := by
  refine ou (plainFor_of_name oa2) (fun m => oid m a0) ?_
  intro p e s m below meth c ab Bd hml hx hby hlk hown hnm hZ X0 e0
  have hd := oq oic hby
  have N0 := Fr.nil n0
  have K0 : Keep h0 h0 [] := Keep.refl _ _
  refine oc X0 hx (hd 0 rfl) rfl rfl ?_
  refine oi (getF X0 hx hZ hown (host := "") (Or.inl (hw 571 rfl)) Via.refl e0 aa rfl rfl (hd 1 rfl)) fun T1 X1 e1 => ?_
  refine oC (S' := [])  (fun _ k => XS.ifYes X1.here hx rfl (pc0 := 4) (pc' := 17) rfl (hd 2 rfl) rfl ((if0 _ _).trans (teq (by decide)).1) (by decide) (by decide) k) ?_
  exact oG X1 hx hlk (by decide) (by decide) Bd.returns (hd 3 rfl) (by rw [e1]; exact ⟨rfl, N0, rfl⟩)
theorem oba (hw : oo Z aw) (ws : List Jvm.Cond) (a0 : Addr) (ee : Nat) (h0 : Heap) (n0 : Nat) (Z0 : n0 ≤ h0.size) (M0 : oF Z h0 0 a0 ee) (ao : n0 ≤ a0) :
    ot l Z (⟨"com/example/restate/restate/model/AmountColumn", "addCents", "(J)V"⟩ : MethodName) prog_28_method_4_code 3 none ws ({ frames := 4, cells := 1, slots := 16, locals := 59 } : Room) #[(.ref a0), (.long (0 : Int64))] h0 (oii Z a0 ee h0 n0) := by
  refine ou (plainFor_of_name oa2) (fun m => oih m a0 (0 : Int64)) ?_
  intro p e s m below meth c aB Bd hml hx hby hlk hown hnm hZ X0 e0
  have hd := oq oig hby
  have N0 := Fr.nil n0
  have K0 : Keep h0 h0 [] := Keep.refl _ _
  obtain ⟨lc, o0, ae, ab, ac, ⟨af, aj, ag, ah, ai⟩⟩ := M0
  have aa : @LT.lt Nat _ a0 lc := by have := o0; omega
  have ap : n0 ≤ lc := by have := o0; have := ao; omega
  have ak : @LE.le Nat _ a0 lc ∧ lc < ee := by have := o0; omega
  have K0 : oD h0 h0 a0 ee := oD.refl _ _ _
  refine oc X0 hx (hd 0 rfl) rfl rfl ?_
  refine o8 X0 hx hZ hown (hw 567 rfl) (hw 568 rfl) (hw 94 rfl) (hw 569 rfl) (hw 570 rfl) (hw 95 rfl) (by decide) (ojS l Z aw hw [] a0 h0 n0 Z0 ac) e0 ae hml rfl rfl (rest := []) rfl (lenOf oN rfl) (hd 1 rfl) rfl fun T1 aC v1 X1 az => ?_
  obtain ⟨rfl, au, e1⟩ := az
  have ax := Fr.app N0 au
  refine ol (fun _ k => XS.lloadN X1.here hx rfl (hd 2 rfl) rfl k) ?_
  refine ol (v := (.long (0 : Int64))) (fun _ k => XS.lconst X1.here hx rfl (hd 3 rfl) k) ?_
  refine og (S' := [(.int (lcmpW (0 : Int64) (0 : Int64)))])  (fun _ k => XS.lcmp X1.here hx rfl (hd 4 rfl) rfl k) ?_
  refine oC (S' := [])  (fun _ k => XS.ifYes X1.here hx rfl (pc0 := 7) (pc' := 24) rfl (hd 5 rfl) rfl ((if0 _ _).trans (flt (fun q => (by decide : ¬ ((0 : Int64) < (0 : Int64))) ((ocv _ _).mp q))).2.1) (by decide) (by decide) k) ?_
  refine oc X1 hx (hd 6 rfl) rfl rfl ?_
  refine oi (getF X1 hx hZ hown (host := "") (Or.inl (hw 102 rfl)) Via.refl e1 ab rfl rfl (hd 7 rfl)) fun T2 X2 e2 => ?_
  refine ol (fun _ k => XS.lloadN X2.here hx rfl (hd 8 rfl) rfl k) ?_
  refine oB X2 hx hZ hown (hw 573 rfl) (hw 378 rfl) (hw 380 rfl) (hw 379 rfl) (hw 381 rfl) (hw 35 rfl) (by decide) (oa9 l Z aw hw [] lc (0 : Int64) 0 (0 : Int64) h0 n0 Z0 af aj ag ah ai ap (by decide) (Or.inl rfl)) e2 af hml rfl rfl (rest := []) rfl (lenOf oaa rfl) (hd 9 rfl) rfl fun T3 aD v3 X3 aA => ?_
  obtain ⟨rfl, av, k3, Q3⟩ := aA
  have ay := Fr.app ax av
  replace ae := ae.keep k3
  replace ab := ab.keep k3 (oa aa)
  replace ac := ac.keep k3 (oa aa)
  replace af := af.keep k3
  have aq := K0.trans k3 (allS (Or.inl ak) all0)
  have aE := Nat.le_trans Z0 k3.1
  exact oG X3 hx hlk (by decide) (by decide) Bd.returns (hd 10 rfl) (⟨rfl, ay, aq, lc, ⟨aa, o0.2.1, Nat.le_trans o0.2.2 aq.size⟩, ae, ab, ac, Q3⟩)
theorem ojT (hw : oo Z aw) (ws : List Jvm.Cond) (a0 : Addr) (q1 : Int64) (a2 : Addr) (kk : ov) (A : Nat → Nat) (sb : Nat) (ks : ClassId) (h0 : Heap) (n0 : Nat) (Z0 : n0 ≤ h0.size) (cV : oao Z h0 a0 A 0 0 (oA Z h0 kk.de) (o3 Z h0 0 0)) (aU : Exa Z h0 a2 "java/lang/String") (ay : Fld Z h0 a2 "java/lang/String" "coder" "B" (.int (0 : Int32))) (az : Fld Z h0 a2 "java/lang/String" "value" "[B" (.ref sb)) (aX : Arv Z h0 sb ks .byte (0 : Int32) [] (.int (0 : Int32))) (cU : @LT.lt Nat _ a2 a0 ∨ @LE.le Nat _ (A 28) a2) (dS : @LT.lt Nat _ sb a0 ∨ @LE.le Nat _ (A 28) sb) (aH : n0 ≤ a0) (J0 : oy Z h0 n0 kk) :
    ot l Z (⟨"com/example/restate/restate/model/CensusColumns", "add", "(JLjava/lang/String;Ljava/lang/String;Lcom/example/restate/restate/model/PensionEligibility;Lcom/example/restate/restate/model/YearEndStatus;Ljava/time/LocalDate;Ljava/time/LocalDate;Ljava/time/LocalDate;)V"⟩ : MethodName) prog_32_method_3_code 13 none ws ({ frames := 6, cells := 25, slots := 292, locals := 99 } : Room) #[(.ref a0), (.long q1), (.ref a2), .null, .null, .null, .null, .null, .null] h0 (oik Z a0 q1 a2 kk A sb ks h0 n0) := by
  refine ou (plainFor_of_name oad) (fun m => ob9 m a0 q1 a2) ?_
  intro p e s m below meth c dU Bd hml hx hby hlk hown hnm hZ X0 e0
  have hd := oq ob8 hby
  have N0 := Fr.nil n0
  have K0 : Keep h0 h0 [] := Keep.refl _ _
  obtain ⟨O, aA, ag, av, ap, au, ak, ac, ae, ah, ai, af, aj, ao, aa, ab, aq, PL, ⟨kI, vI, oI, aS⟩, ⟨kE, vE, oE, bz, cy, em⟩, a7, a5, aR, aQ, aP, aF, aB, aC, aD, aE, aT⟩ := cV
  obtain ⟨-, bh, bl, bi, bj, bk⟩ := PL
  have aq : Fld Z h0 a0 "com/example/restate/restate/model/CensusColumns" "size" "I" (.int (0 : Int32)) := aq
  have K0 : oD h0 h0 a0 (A 28) := oD.refl _ _ _
  refine oc X0 hx (hd 0 rfl) rfl rfl ?_
  refine oc X0 hx (hd 1 rfl) rfl rfl ?_
  refine oi (getF X0 hx hZ hown (host := "") (Or.inl (hw 330 rfl)) Via.refl e0 aq rfl rfl (hd 2 rfl)) fun T1 X1 e1 => ?_
  refine o8 X1 hx hZ hown (hw 332 rfl) (hw 333 rfl) (hw 1 rfl) (hw 334 rfl) (hw 335 rfl) (hw 2 rfl) (by decide) (ocl l Z aw hw [] a0 0 (A 26) (A 27) (A 18) (A 20) (A 22) (A 24) (A 19) (A 21) (A 23) (A 25) h0 n0 Z0 ab aT aB aC aD aE) e1 aA hml rfl rfl (rest := []) rfl (lenOf obi rfl) (hd 3 rfl) rfl fun T2 dX v2 X2 dO => ?_
  obtain ⟨rfl, dg, e2⟩ := dO
  have dk := Fr.app N0 dg
  refine oc X2 hx (hd 4 rfl) rfl rfl ?_
  refine oi (getF X2 hx hZ hown (host := "") (Or.inl (hw 330 rfl)) Via.refl e2 aq rfl rfl (hd 5 rfl)) fun T3 X3 e3 => ?_
  refine oz (fun _ k => XS.istore X3.here hx rfl (hd 6 rfl) rfl (l' := #[.val (.ref a0), .val (.long q1), .second, .val (.ref a2), .val .null, .val .null, .val .null, .val .null, .val .null, .val .null, .val (.int (0 : Int32)), .unset, .unset]) rfl k) ?_
  refine oH X3 hx (hd 7 rfl) rfl ?_
  refine oc X3 hx (hd 8 rfl) rfl rfl ?_
  refine oi (getF X3 hx hZ hown (host := "") (Or.inl (hw 46 rfl)) Via.refl e3 ap rfl rfl (hd 9 rfl)) fun T4 X4 e4 => ?_
  obtain ⟨eh, cz, q5, S5, dp, H5, G5⟩ := id bz
  refine ow (fun _ k => X4.arraylength hx (by rw [e4]; exact cz.1) (State.isArrayOf_alike hZ.alike cz.2.1) rfl rfl (hd 10 rfl) _ k) ?_
  rw [len_of S5 dp]
  show oe p.tables e below _ (T4.setTop (mkF m 21 #[.val (.ref a0), .val (.long q1), .second, .val (.ref a2), .val .null, .val .null, .val .null, .val .null, .val .null, .val .null, .val (.int (0 : Int32)), .unset, .unset] [(.int (1024 : Int32)), (.int (0 : Int32))]))
  refine oC (S' := [])  (fun _ k => XS.icmpYes X4.here hx rfl (pc0 := 21) (pc' := 40) rfl (hd 11 rfl) rfl (feq (by decide)).2 (by decide) (by decide) k) ?_
  refine oc X4 hx (hd 12 rfl) rfl rfl ?_
  refine oi (getF X4 hx hZ hown (host := "") (Or.inl (hw 40 rfl)) Via.refl e4 ag rfl rfl (hd 13 rfl)) fun T6 X6 e6 => ?_
  refine ol (fun _ k => XS.lloadN X6.here hx rfl (hd 14 rfl) rfl k) ?_
  refine oH X6 hx (hd 15 rfl) rfl ?_
  refine og (S' := [(.long ((0 : Int32).toInt64)), (.long q1), (.ref (A 0))])  (fun _ k => XS.i2l X6.here hx rfl (hd 16 rfl) rfl k) ?_
  show oe p.tables e below _ (T6.setTop (mkF m 48 #[.val (.ref a0), .val (.long q1), .second, .val (.ref a2), .val .null, .val .null, .val .null, .val .null, .val .null, .val .null, .val (.int (0 : Int32)), .unset, .unset] [(.long ((0 : Int32).toInt64)), (.long q1), (.ref (A 0))]))
  rw [show ((0 : Int32).toInt64) = (0 : Int64) from by decide]
  refine og (S' := [(.long (q1 - (0 : Int64))), (.ref (A 0))])  (fun _ k => XS.lsub X6.here hx rfl (hd 17 rfl) rfl k) ?_
  refine oB X6 hx hZ hown (hw 377 rfl) (hw 378 rfl) (hw 380 rfl) (hw 379 rfl) (hw 381 rfl) (hw 35 rfl) (by decide) (oa9 l Z aw hw [] (A 0) (q1 - (0 : Int64)) 0 (0 : Int64) h0 n0 Z0 bh bl bi bj bk (Nat.le_trans aH (Nat.le_of_lt (O.gt0 0 rfl))) (by decide) (Or.inl rfl)) e6 bh hml rfl rfl (rest := []) rfl (lenOf oaa rfl) (hd 18 rfl) rfl fun T7 dY v7 X7 dP => ?_
  obtain ⟨rfl, dh, k7, Q7⟩ := dP
  have dl := Fr.app dk dh
  replace aU := aU.keep k7
  replace ay := ay.keep k7 (ninS (oaD cU (Nat.le_of_lt (O.gt0 0 rfl)) (O.lt 0 28 rfl)) nin0)
  replace az := az.keep k7 (ninS (oaD cU (Nat.le_of_lt (O.gt0 0 rfl)) (O.lt 0 28 rfl)) nin0)
  replace aX := aX.keep k7 (ninS (oaD dS (Nat.le_of_lt (O.gt0 0 rfl)) (O.lt 0 28 rfl)) nin0)
  replace J0 := J0.keep k7 (allS (Nat.le_trans aH (Nat.le_of_lt (O.gt0 0 rfl))) all0)
  replace aA := aA.keep k7
  replace ag := ag.keep k7 (ninS (Nat.ne_of_lt (O.gt0 0 rfl)) nin0)
  replace av := av.keep k7 (ninS (Nat.ne_of_lt (O.gt0 0 rfl)) nin0)
  replace ap := ap.keep k7 (ninS (Nat.ne_of_lt (O.gt0 0 rfl)) nin0)
  replace au := au.keep k7 (ninS (Nat.ne_of_lt (O.gt0 0 rfl)) nin0)
  replace ak := ak.keep k7 (ninS (Nat.ne_of_lt (O.gt0 0 rfl)) nin0)
  replace ac := ac.keep k7 (ninS (Nat.ne_of_lt (O.gt0 0 rfl)) nin0)
  replace ae := ae.keep k7 (ninS (Nat.ne_of_lt (O.gt0 0 rfl)) nin0)
  replace ah := ah.keep k7 (ninS (Nat.ne_of_lt (O.gt0 0 rfl)) nin0)
  replace ai := ai.keep k7 (ninS (Nat.ne_of_lt (O.gt0 0 rfl)) nin0)
  replace af := af.keep k7 (ninS (Nat.ne_of_lt (O.gt0 0 rfl)) nin0)
  replace aj := aj.keep k7 (ninS (Nat.ne_of_lt (O.gt0 0 rfl)) nin0)
  replace ao := ao.keep k7 (ninS (Nat.ne_of_lt (O.gt0 0 rfl)) nin0)
  replace aa := aa.keep k7 (ninS (Nat.ne_of_lt (O.gt0 0 rfl)) nin0)
  replace ab := ab.keep k7 (ninS (Nat.ne_of_lt (O.gt0 0 rfl)) nin0)
  replace aq := aq.keep k7 (ninS (Nat.ne_of_lt (O.gt0 0 rfl)) nin0)
  replace aS := aS.keep k7 (ninS (Ne.symm (Nat.ne_of_lt (O.lt 0 2 rfl))) nin0)
  replace bz := bz.keep k7 (ninS (Ne.symm (Nat.ne_of_lt (O.lt 0 4 rfl))) nin0)
  replace a7 := a7.keep k7 (allS (Or.inl (O.lt 0 6 rfl)) all0)
  replace a5 := a5.keep k7 (allS (Or.inl (O.lt 0 8 rfl)) all0)
  replace aR := aR.keep k7 (allS (Or.inl (O.lt 0 10 rfl)) all0)
  replace aQ := aQ.keep k7 (allS (Or.inl (O.lt 0 12 rfl)) all0)
  replace aP := aP.keep k7 (allS (Or.inl (O.lt 0 14 rfl)) all0)
  replace aF := aF.keep k7 (allS (Or.inl (O.lt 0 16 rfl)) all0)
  replace aB := aB.keep k7 (allS (Or.inl (O.lt 0 18 rfl)) all0)
  replace aC := aC.keep k7 (allS (Or.inl (O.lt 0 20 rfl)) all0)
  replace aD := aD.keep k7 (allS (Or.inl (O.lt 0 22 rfl)) all0)
  replace aE := aE.keep k7 (allS (Or.inl (O.lt 0 24 rfl)) all0)
  replace aT := aT.keep k7 (allS (Or.inl (O.lt 0 26 rfl)) all0)
  have cA := K0.trans k7 (allS (Or.inl ⟨(Nat.le_of_lt (O.gt0 0 rfl)), (O.lt 0 28 rfl)⟩) all0)
  have a9 := Nat.le_trans Z0 k7.1
  have PL : o3 Z T7.heap 1 (q1 - (0 : Int64)) (A 0) (A 1) := ⟨⟨(O.lt 0 1 rfl), Nat.le_trans (O.hi 1 rfl) cA.size⟩, Q7⟩
  refine oc X7 hx (hd 19 rfl) rfl rfl ?_
  refine oH X7 hx (hd 20 rfl) rfl ?_
  refine o8 X7 hx hZ hown (hw 388 rfl) (hw 389 rfl) (hw 1 rfl) (hw 390 rfl) (hw 391 rfl) (hw 2 rfl) (by decide) (ojp l Z aw hw [] a0 (T7.heap) n0 a9 ) rfl aA hml rfl rfl (rest := []) rfl (lenOf oa0 rfl) (hd 21 rfl) rfl fun T8 dZ v8 X8 dQ => ?_
  obtain ⟨rfl, di, e8⟩ := dQ
  have dm := Fr.app dl di
  refine oz (fun _ k => XS.istore X8.here hx rfl (hd 22 rfl) rfl (l' := #[.val (.ref a0), .val (.long q1), .second, .val (.ref a2), .val .null, .val .null, .val .null, .val .null, .val .null, .val .null, .val (.int (0 : Int32)), .val (.int (0 : Int32)), .unset]) rfl k) ?_
  refine oH X8 hx (hd 23 rfl) rfl ?_
  refine oc X8 hx (hd 24 rfl) rfl rfl ?_
  refine oB X8 hx hZ hown (hw 392 rfl) (hw 393 rfl) (hw 395 rfl) (hw 394 rfl) (hw 396 rfl) (hw 318 rfl) (by decide) (oaT l Z aw hw [] a2 sb ks kk (T7.heap) n0 a9 aU ay az aX J0) e8 aU hml rfl rfl (rest := [(.int (0 : Int32))]) rfl (lenOf oV rfl) (hd 25 rfl) rfl fun T9 d0 v9 X9 dR => ?_
  obtain ⟨rfl, dj, e9⟩ := dR
  have dn := Fr.app dm dj
  refine oL X9 hx hZ hown (hw 405 rfl) (hw 406 rfl) (hw 407 rfl) (hw 204 rfl) (by decide) (ocm l Z aw hw []  (T7.heap) n0 a9 ) e9 hml rfl rfl (rest := []) rfl (lenOf oav rfl) (hd 26 rfl) rfl fun d1 cY eo bA cn => ?_
  obtain ⟨rfl, bF, dA⟩ := cn
  have bO := Fr.app dn bF
  refine oz (fun _ k => XS.istore bA.here hx rfl (hd 27 rfl) rfl (l' := #[.val (.ref a0), .val (.long q1), .second, .val (.ref a2), .val .null, .val .null, .val .null, .val .null, .val .null, .val .null, .val (.int (0 : Int32)), .val (.int (0 : Int32)), .val (.int (0 : Int32))]) rfl k) ?_
  refine oH bA hx (hd 28 rfl) rfl ?_
  refine oc bA hx (hd 29 rfl) rfl rfl ?_
  refine oi (getF bA hx hZ hown (host := "") (Or.inl (hw 43 rfl)) Via.refl dA av rfl rfl (hd 30 rfl)) fun dr a8 cS => ?_
  obtain ⟨dz, ba, en, dq, bZ, dW, dV⟩ := id aS
  refine ow (fun _ k => a8.arraylength hx (by rw [cS]; exact ba.1) (State.isArrayOf_alike hZ.alike ba.2.1) rfl rfl (hd 31 rfl) _ k) ?_
  rw [len_of dq bZ]
  show oe p.tables e below _ (dr.setTop (mkF m 78 #[.val (.ref a0), .val (.long q1), .second, .val (.ref a2), .val .null, .val .null, .val .null, .val .null, .val .null, .val .null, .val (.int (0 : Int32)), .val (.int (0 : Int32)), .val (.int (0 : Int32))] [(.int (8192 : Int32)), (.int (0 : Int32))]))
  refine oC (S' := [])  (fun _ k => XS.icmpYes a8.here hx rfl (pc0 := 78) (pc' := 105) rfl (hd 32 rfl) rfl (flt (by decide)).2.2.2 (by decide) (by decide) k) ?_
  refine oc a8 hx (hd 33 rfl) rfl rfl ?_
  refine ol (v := (.int (0 : Int32))) (fun _ k => XS.iconst a8.here hx rfl (hd 34 rfl) k) ?_
  refine oc a8 hx (hd 35 rfl) rfl rfl ?_
  refine oB a8 hx hZ hown (hw 392 rfl) (hw 393 rfl) (hw 395 rfl) (hw 394 rfl) (hw 396 rfl) (hw 318 rfl) (by decide) (oaT l Z aw hw [] a2 sb ks kk (T7.heap) n0 a9 aU ay az aX J0) cS aU hml rfl rfl (rest := [(.int (0 : Int32)), (.ref a2)]) rfl (lenOf oV rfl) (hd 36 rfl) rfl fun d2 cZ ep cD co => ?_
  obtain ⟨rfl, bG, dB⟩ := co
  have bP := Fr.app bO bG
  refine oc cD hx (hd 37 rfl) rfl rfl ?_
  refine oi (getF cD hx hZ hown (host := "") (Or.inl (hw 43 rfl)) Via.refl dB av rfl rfl (hd 38 rfl)) fun d3 cE dC => ?_
  refine oH cE hx (hd 39 rfl) rfl ?_
  refine oB cE hx hZ hown (hw 408 rfl) (hw 409 rfl) (hw 411 rfl) (hw 410 rfl) (hw 412 rfl) (hw 318 rfl) (by decide) (ocn l Z aw hw [] a2 (A 2) sb ks kk kI vI (T7.heap) n0 a9 aU ay az aX J0 aS) dC aU hml rfl rfl (rest := []) rfl (lenOf ob7 rfl) (hd 40 rfl) rfl fun d4 c8 er cF cp => ?_
  obtain ⟨rfl, bH, dD⟩ := cp
  have bQ := Fr.app bP bH
  refine oc cF hx (hd 41 rfl) rfl rfl ?_
  refine oi (getF cF hx hZ hown (host := "") (Or.inl (hw 46 rfl)) Via.refl dD ap rfl rfl (hd 42 rfl)) fun d5 ce dE => ?_
  refine oH ce hx (hd 43 rfl) rfl ?_
  refine oH ce hx (hd 44 rfl) rfl ?_
  obtain ⟨cm, bb, dT, cC, b0, cX, cW⟩ := id bz
  have bx : ¬ ((0 : Int32) < 0 ∨ cm.slots.size ≤ ((0 : Int32)).toNatClampNeg) := inb_of cC ⟨(by decide), (by decide)⟩
  refine ox (stI ce hx hZ dE bb (j := (0 : Int32)) bx rfl rfl (hd 45 rfl)) fun d6 cT cg dF aG => ?_
  replace J0 := J0.keep (Keep.of_wr aG) (allS (Nat.le_trans aH (Nat.le_of_lt (O.gt0 4 rfl))) all0)
  replace aA := aA.wr aG
  replace ag := ag.other aG (Or.inl (Nat.ne_of_lt (O.gt0 4 rfl)))
  replace av := av.other aG (Or.inl (Nat.ne_of_lt (O.gt0 4 rfl)))
  replace ap := ap.other aG (Or.inl (Nat.ne_of_lt (O.gt0 4 rfl)))
  replace au := au.other aG (Or.inl (Nat.ne_of_lt (O.gt0 4 rfl)))
  replace ak := ak.other aG (Or.inl (Nat.ne_of_lt (O.gt0 4 rfl)))
  replace ac := ac.other aG (Or.inl (Nat.ne_of_lt (O.gt0 4 rfl)))
  replace ae := ae.other aG (Or.inl (Nat.ne_of_lt (O.gt0 4 rfl)))
  replace ah := ah.other aG (Or.inl (Nat.ne_of_lt (O.gt0 4 rfl)))
  replace ai := ai.other aG (Or.inl (Nat.ne_of_lt (O.gt0 4 rfl)))
  replace af := af.other aG (Or.inl (Nat.ne_of_lt (O.gt0 4 rfl)))
  replace aj := aj.other aG (Or.inl (Nat.ne_of_lt (O.gt0 4 rfl)))
  replace ao := ao.other aG (Or.inl (Nat.ne_of_lt (O.gt0 4 rfl)))
  replace aa := aa.other aG (Or.inl (Nat.ne_of_lt (O.gt0 4 rfl)))
  replace ab := ab.other aG (Or.inl (Nat.ne_of_lt (O.gt0 4 rfl)))
  replace aq := aq.other aG (Or.inl (Nat.ne_of_lt (O.gt0 4 rfl)))
  replace aS := aS.other aG (Nat.ne_of_lt (O.lt 2 4 rfl))
  replace a7 := a7.keep (Keep.of_wr aG) (allS (Or.inl (O.lt 4 6 rfl)) all0)
  replace a5 := a5.keep (Keep.of_wr aG) (allS (Or.inl (O.lt 4 8 rfl)) all0)
  replace aR := aR.keep (Keep.of_wr aG) (allS (Or.inl (O.lt 4 10 rfl)) all0)
  replace aQ := aQ.keep (Keep.of_wr aG) (allS (Or.inl (O.lt 4 12 rfl)) all0)
  replace aP := aP.keep (Keep.of_wr aG) (allS (Or.inl (O.lt 4 14 rfl)) all0)
  replace aF := aF.keep (Keep.of_wr aG) (allS (Or.inl (O.lt 4 16 rfl)) all0)
  replace aB := aB.keep (Keep.of_wr aG) (allS (Or.inl (O.lt 4 18 rfl)) all0)
  replace aC := aC.keep (Keep.of_wr aG) (allS (Or.inl (O.lt 4 20 rfl)) all0)
  replace aD := aD.keep (Keep.of_wr aG) (allS (Or.inl (O.lt 4 22 rfl)) all0)
  replace aE := aE.keep (Keep.of_wr aG) (allS (Or.inl (O.lt 4 24 rfl)) all0)
  replace aT := aT.keep (Keep.of_wr aG) (allS (Or.inl (O.lt 4 26 rfl)) all0)
  replace PL := PL.keep (Keep.of_wr aG) (allS (Or.inr (O.le 1 4 rfl)) all0)
  have bm := cA.wr aG (Or.inl ⟨(Nat.le_of_lt (O.gt0 4 rfl)), (O.lt 4 28 rfl)⟩)
  have bs := Nat.le_trans a9 (Keep.of_wr aG).1
  have bR := Fr.snoc cg bQ (Nat.le_trans aH (Nat.le_of_lt (O.gt0 4 rfl)))
  have ax : Arv Z cT (A 4) kE .int (1024 : Int32) (vE.set 0 (.int (0 : Int32))) (.int (0 : Int32)) := Arv.set bb dT cC b0 cX cW rfl aG 0 (by decide) (by rw [cy]; decide)
  refine oc cg hx (hd 46 rfl) rfl rfl ?_
  refine oi (getF cg hx hZ hown (host := "") (Or.inl (hw 81 rfl)) Via.refl dF au rfl rfl (hd 47 rfl)) fun d7 cG dG => ?_
  refine oM cG hx (hd 48 rfl) rfl rfl ?_
  have bC := a7.exa
  refine oB cG hx hZ hown (hw 439 rfl) (hw 440 rfl) (hw 442 rfl) (hw 441 rfl) (hw 443 rfl) (hw 50 rfl) (by decide) (oaK l Z aw hw [] (A 6) kk (A 7) (A 28) cT n0 bs a7 (O.le 7 28 rfl) (Nat.le_trans (O.hi 28 rfl) bm.size) (Nat.le_trans aH (Nat.le_of_lt (O.gt0 6 rfl))) J0) dG bC hml rfl rfl (rest := []) rfl (lenOf o7 rfl) (hd 49 rfl) rfl fun ds c9 es cH cr => ?_
  obtain ⟨rfl, bI, aI, aV⟩ := cr
  have bS := Fr.app bR bI
  replace J0 := J0.keepI aI (Nat.le_trans aH (Nat.le_of_lt (O.gt0 6 rfl)))
  replace aA := oW aA aI
  replace ag := oh ag aI (Or.inl (O.gt0 6 rfl))
  replace av := oh av aI (Or.inl (O.gt0 6 rfl))
  replace ap := oh ap aI (Or.inl (O.gt0 6 rfl))
  replace au := oh au aI (Or.inl (O.gt0 6 rfl))
  replace ak := oh ak aI (Or.inl (O.gt0 6 rfl))
  replace ac := oh ac aI (Or.inl (O.gt0 6 rfl))
  replace ae := oh ae aI (Or.inl (O.gt0 6 rfl))
  replace ah := oh ah aI (Or.inl (O.gt0 6 rfl))
  replace ai := oh ai aI (Or.inl (O.gt0 6 rfl))
  replace af := oh af aI (Or.inl (O.gt0 6 rfl))
  replace aj := oh aj aI (Or.inl (O.gt0 6 rfl))
  replace ao := oh ao aI (Or.inl (O.gt0 6 rfl))
  replace aa := oh aa aI (Or.inl (O.gt0 6 rfl))
  replace ab := oh ab aI (Or.inl (O.gt0 6 rfl))
  replace aq := oh aq aI (Or.inl (O.gt0 6 rfl))
  replace aS := oR aS aI (Or.inl (O.lt 2 6 rfl))
  replace a5 := a5.keepI aI (Or.inl (O.le 7 8 rfl))
  replace aR := aR.keepI aI (Or.inl (O.le 7 10 rfl))
  replace aQ := aQ.keepI aI (Or.inl (O.le 7 12 rfl))
  replace aP := aP.keepI aI (Or.inl (O.le 7 14 rfl))
  replace aF := aF.keepI aI (Or.inl (O.le 7 16 rfl))
  replace aB := aB.keepI aI (Or.inl (O.le 7 18 rfl))
  replace aC := aC.keepI aI (Or.inl (O.le 7 20 rfl))
  replace aD := aD.keepI aI (Or.inl (O.le 7 22 rfl))
  replace aE := aE.keepI aI (Or.inl (O.le 7 24 rfl))
  replace aT := aT.keepI aI (Or.inl (O.le 7 26 rfl))
  replace PL := PL.keepI aI (Or.inr (O.le 1 6 rfl))
  replace ax := oR ax aI (Or.inl (O.lt 4 6 rfl))
  have bn := bm.transI aI (Or.inl ⟨(Nat.le_of_lt (O.gt0 6 rfl)), (O.le 7 28 rfl)⟩)
  have bt := Nat.le_trans bs aI.size
  refine oc cH hx (hd 50 rfl) rfl rfl ?_
  refine oi (getF cH hx hZ hown (host := "") (Or.inl (hw 83 rfl)) Via.refl rfl ak rfl rfl (hd 51 rfl)) fun d8 cI dH => ?_
  refine oM cI hx (hd 52 rfl) rfl rfl ?_
  have bD := a5.exa
  refine oB cI hx hZ hown (hw 439 rfl) (hw 440 rfl) (hw 442 rfl) (hw 441 rfl) (hw 443 rfl) (hw 50 rfl) (by decide) (oaK l Z aw hw [] (A 8) kk (A 9) (A 28) (ds.heap) n0 bt a5 (O.le 9 28 rfl) (Nat.le_trans (O.hi 28 rfl) bn.size) (Nat.le_trans aH (Nat.le_of_lt (O.gt0 8 rfl))) J0) dH bD hml rfl rfl (rest := []) rfl (lenOf o7 rfl) (hd 53 rfl) rfl fun dt da et cJ ct => ?_
  obtain ⟨rfl, bJ, aJ, aW⟩ := ct
  have bT := Fr.app bS bJ
  replace J0 := J0.keepI aJ (Nat.le_trans aH (Nat.le_of_lt (O.gt0 8 rfl)))
  replace aA := oW aA aJ
  replace ag := oh ag aJ (Or.inl (O.gt0 8 rfl))
  replace av := oh av aJ (Or.inl (O.gt0 8 rfl))
  replace ap := oh ap aJ (Or.inl (O.gt0 8 rfl))
  replace au := oh au aJ (Or.inl (O.gt0 8 rfl))
  replace ak := oh ak aJ (Or.inl (O.gt0 8 rfl))
  replace ac := oh ac aJ (Or.inl (O.gt0 8 rfl))
  replace ae := oh ae aJ (Or.inl (O.gt0 8 rfl))
  replace ah := oh ah aJ (Or.inl (O.gt0 8 rfl))
  replace ai := oh ai aJ (Or.inl (O.gt0 8 rfl))
  replace af := oh af aJ (Or.inl (O.gt0 8 rfl))
  replace aj := oh aj aJ (Or.inl (O.gt0 8 rfl))
  replace ao := oh ao aJ (Or.inl (O.gt0 8 rfl))
  replace aa := oh aa aJ (Or.inl (O.gt0 8 rfl))
  replace ab := oh ab aJ (Or.inl (O.gt0 8 rfl))
  replace aq := oh aq aJ (Or.inl (O.gt0 8 rfl))
  replace aS := oR aS aJ (Or.inl (O.lt 2 8 rfl))
  replace aR := aR.keepI aJ (Or.inl (O.le 9 10 rfl))
  replace aQ := aQ.keepI aJ (Or.inl (O.le 9 12 rfl))
  replace aP := aP.keepI aJ (Or.inl (O.le 9 14 rfl))
  replace aF := aF.keepI aJ (Or.inl (O.le 9 16 rfl))
  replace aB := aB.keepI aJ (Or.inl (O.le 9 18 rfl))
  replace aC := aC.keepI aJ (Or.inl (O.le 9 20 rfl))
  replace aD := aD.keepI aJ (Or.inl (O.le 9 22 rfl))
  replace aE := aE.keepI aJ (Or.inl (O.le 9 24 rfl))
  replace aT := aT.keepI aJ (Or.inl (O.le 9 26 rfl))
  replace PL := PL.keepI aJ (Or.inr (O.le 1 8 rfl))
  replace ax := oR ax aJ (Or.inl (O.lt 4 8 rfl))
  replace aV := aV.keepI aJ ⟨(Or.inr (O.le 7 8 rfl)), (O.le 9 28 rfl)⟩
  have bo := bn.transI aJ (Or.inl ⟨(Nat.le_of_lt (O.gt0 8 rfl)), (O.le 9 28 rfl)⟩)
  have bu := Nat.le_trans bt aJ.size
  refine oc cJ hx (hd 54 rfl) rfl rfl ?_
  refine oi (getF cJ hx hZ hown (host := "") (Or.inl (hw 85 rfl)) Via.refl rfl ac rfl rfl (hd 55 rfl)) fun d9 cK dI => ?_
  refine oM cK hx (hd 56 rfl) rfl rfl ?_
  have bd := aR.exa
  refine oB cK hx hZ hown (hw 439 rfl) (hw 440 rfl) (hw 442 rfl) (hw 441 rfl) (hw 443 rfl) (hw 50 rfl) (by decide) (oaK l Z aw hw [] (A 10) kk (A 11) (A 28) (dt.heap) n0 bu aR (O.le 11 28 rfl) (Nat.le_trans (O.hi 28 rfl) bo.size) (Nat.le_trans aH (Nat.le_of_lt (O.gt0 10 rfl))) J0) dI bd hml rfl rfl (rest := []) rfl (lenOf o7 rfl) (hd 57 rfl) rfl fun du db eu cL cu => ?_
  obtain ⟨rfl, bK, aK, aY⟩ := cu
  have bU := Fr.app bT bK
  replace J0 := J0.keepI aK (Nat.le_trans aH (Nat.le_of_lt (O.gt0 10 rfl)))
  replace aA := oW aA aK
  replace ag := oh ag aK (Or.inl (O.gt0 10 rfl))
  replace av := oh av aK (Or.inl (O.gt0 10 rfl))
  replace ap := oh ap aK (Or.inl (O.gt0 10 rfl))
  replace au := oh au aK (Or.inl (O.gt0 10 rfl))
  replace ak := oh ak aK (Or.inl (O.gt0 10 rfl))
  replace ac := oh ac aK (Or.inl (O.gt0 10 rfl))
  replace ae := oh ae aK (Or.inl (O.gt0 10 rfl))
  replace ah := oh ah aK (Or.inl (O.gt0 10 rfl))
  replace ai := oh ai aK (Or.inl (O.gt0 10 rfl))
  replace af := oh af aK (Or.inl (O.gt0 10 rfl))
  replace aj := oh aj aK (Or.inl (O.gt0 10 rfl))
  replace ao := oh ao aK (Or.inl (O.gt0 10 rfl))
  replace aa := oh aa aK (Or.inl (O.gt0 10 rfl))
  replace ab := oh ab aK (Or.inl (O.gt0 10 rfl))
  replace aq := oh aq aK (Or.inl (O.gt0 10 rfl))
  replace aS := oR aS aK (Or.inl (O.lt 2 10 rfl))
  replace aQ := aQ.keepI aK (Or.inl (O.le 11 12 rfl))
  replace aP := aP.keepI aK (Or.inl (O.le 11 14 rfl))
  replace aF := aF.keepI aK (Or.inl (O.le 11 16 rfl))
  replace aB := aB.keepI aK (Or.inl (O.le 11 18 rfl))
  replace aC := aC.keepI aK (Or.inl (O.le 11 20 rfl))
  replace aD := aD.keepI aK (Or.inl (O.le 11 22 rfl))
  replace aE := aE.keepI aK (Or.inl (O.le 11 24 rfl))
  replace aT := aT.keepI aK (Or.inl (O.le 11 26 rfl))
  replace PL := PL.keepI aK (Or.inr (O.le 1 10 rfl))
  replace ax := oR ax aK (Or.inl (O.lt 4 10 rfl))
  replace aV := aV.keepI aK ⟨(Or.inr (O.le 7 10 rfl)), (O.le 11 28 rfl)⟩
  replace aW := aW.keepI aK ⟨(Or.inr (O.le 9 10 rfl)), (O.le 11 28 rfl)⟩
  have bp := bo.transI aK (Or.inl ⟨(Nat.le_of_lt (O.gt0 10 rfl)), (O.le 11 28 rfl)⟩)
  have bv := Nat.le_trans bu aK.size
  refine oc cL hx (hd 58 rfl) rfl rfl ?_
  refine oi (getF cL hx hZ hown (host := "") (Or.inl (hw 87 rfl)) Via.refl rfl ae rfl rfl (hd 59 rfl)) fun ea cM dJ => ?_
  refine oM cM hx (hd 60 rfl) rfl rfl ?_
  have be := aQ.exa
  refine oB cM hx hZ hown (hw 439 rfl) (hw 440 rfl) (hw 442 rfl) (hw 441 rfl) (hw 443 rfl) (hw 50 rfl) (by decide) (oaK l Z aw hw [] (A 12) kk (A 13) (A 28) (du.heap) n0 bv aQ (O.le 13 28 rfl) (Nat.le_trans (O.hi 28 rfl) bp.size) (Nat.le_trans aH (Nat.le_of_lt (O.gt0 12 rfl))) J0) dJ be hml rfl rfl (rest := []) rfl (lenOf o7 rfl) (hd 61 rfl) rfl fun dw dc ew cN cv => ?_
  obtain ⟨rfl, bL, aL, a6⟩ := cv
  have bV := Fr.app bU bL
  replace J0 := J0.keepI aL (Nat.le_trans aH (Nat.le_of_lt (O.gt0 12 rfl)))
  replace aA := oW aA aL
  replace ag := oh ag aL (Or.inl (O.gt0 12 rfl))
  replace av := oh av aL (Or.inl (O.gt0 12 rfl))
  replace ap := oh ap aL (Or.inl (O.gt0 12 rfl))
  replace au := oh au aL (Or.inl (O.gt0 12 rfl))
  replace ak := oh ak aL (Or.inl (O.gt0 12 rfl))
  replace ac := oh ac aL (Or.inl (O.gt0 12 rfl))
  replace ae := oh ae aL (Or.inl (O.gt0 12 rfl))
  replace ah := oh ah aL (Or.inl (O.gt0 12 rfl))
  replace ai := oh ai aL (Or.inl (O.gt0 12 rfl))
  replace af := oh af aL (Or.inl (O.gt0 12 rfl))
  replace aj := oh aj aL (Or.inl (O.gt0 12 rfl))
  replace ao := oh ao aL (Or.inl (O.gt0 12 rfl))
  replace aa := oh aa aL (Or.inl (O.gt0 12 rfl))
  replace ab := oh ab aL (Or.inl (O.gt0 12 rfl))
  replace aq := oh aq aL (Or.inl (O.gt0 12 rfl))
  replace aS := oR aS aL (Or.inl (O.lt 2 12 rfl))
  replace aP := aP.keepI aL (Or.inl (O.le 13 14 rfl))
  replace aF := aF.keepI aL (Or.inl (O.le 13 16 rfl))
  replace aB := aB.keepI aL (Or.inl (O.le 13 18 rfl))
  replace aC := aC.keepI aL (Or.inl (O.le 13 20 rfl))
  replace aD := aD.keepI aL (Or.inl (O.le 13 22 rfl))
  replace aE := aE.keepI aL (Or.inl (O.le 13 24 rfl))
  replace aT := aT.keepI aL (Or.inl (O.le 13 26 rfl))
  replace PL := PL.keepI aL (Or.inr (O.le 1 12 rfl))
  replace ax := oR ax aL (Or.inl (O.lt 4 12 rfl))
  replace aV := aV.keepI aL ⟨(Or.inr (O.le 7 12 rfl)), (O.le 13 28 rfl)⟩
  replace aW := aW.keepI aL ⟨(Or.inr (O.le 9 12 rfl)), (O.le 13 28 rfl)⟩
  replace aY := aY.keepI aL ⟨(Or.inr (O.le 11 12 rfl)), (O.le 13 28 rfl)⟩
  have bq := bp.transI aL (Or.inl ⟨(Nat.le_of_lt (O.gt0 12 rfl)), (O.le 13 28 rfl)⟩)
  have bw := Nat.le_trans bv aL.size
  refine oc cN hx (hd 62 rfl) rfl rfl ?_
  refine oi (getF cN hx hZ hown (host := "") (Or.inl (hw 89 rfl)) Via.refl rfl ah rfl rfl (hd 63 rfl)) fun eb cO dK => ?_
  refine oM cO hx (hd 64 rfl) rfl rfl ?_
  have bf := aP.exa
  refine oB cO hx hZ hown (hw 439 rfl) (hw 440 rfl) (hw 442 rfl) (hw 441 rfl) (hw 443 rfl) (hw 50 rfl) (by decide) (oaK l Z aw hw [] (A 14) kk (A 15) (A 28) (dw.heap) n0 bw aP (O.le 15 28 rfl) (Nat.le_trans (O.hi 28 rfl) bq.size) (Nat.le_trans aH (Nat.le_of_lt (O.gt0 14 rfl))) J0) dK bf hml rfl rfl (rest := []) rfl (lenOf o7 rfl) (hd 65 rfl) rfl fun dx dd ex cP cw => ?_
  obtain ⟨rfl, bM, aM, bc⟩ := cw
  have bW := Fr.app bV bM
  replace J0 := J0.keepI aM (Nat.le_trans aH (Nat.le_of_lt (O.gt0 14 rfl)))
  replace aA := oW aA aM
  replace ag := oh ag aM (Or.inl (O.gt0 14 rfl))
  replace av := oh av aM (Or.inl (O.gt0 14 rfl))
  replace ap := oh ap aM (Or.inl (O.gt0 14 rfl))
  replace au := oh au aM (Or.inl (O.gt0 14 rfl))
  replace ak := oh ak aM (Or.inl (O.gt0 14 rfl))
  replace ac := oh ac aM (Or.inl (O.gt0 14 rfl))
  replace ae := oh ae aM (Or.inl (O.gt0 14 rfl))
  replace ah := oh ah aM (Or.inl (O.gt0 14 rfl))
  replace ai := oh ai aM (Or.inl (O.gt0 14 rfl))
  replace af := oh af aM (Or.inl (O.gt0 14 rfl))
  replace aj := oh aj aM (Or.inl (O.gt0 14 rfl))
  replace ao := oh ao aM (Or.inl (O.gt0 14 rfl))
  replace aa := oh aa aM (Or.inl (O.gt0 14 rfl))
  replace ab := oh ab aM (Or.inl (O.gt0 14 rfl))
  replace aq := oh aq aM (Or.inl (O.gt0 14 rfl))
  replace aS := oR aS aM (Or.inl (O.lt 2 14 rfl))
  replace aF := aF.keepI aM (Or.inl (O.le 15 16 rfl))
  replace aB := aB.keepI aM (Or.inl (O.le 15 18 rfl))
  replace aC := aC.keepI aM (Or.inl (O.le 15 20 rfl))
  replace aD := aD.keepI aM (Or.inl (O.le 15 22 rfl))
  replace aE := aE.keepI aM (Or.inl (O.le 15 24 rfl))
  replace aT := aT.keepI aM (Or.inl (O.le 15 26 rfl))
  replace PL := PL.keepI aM (Or.inr (O.le 1 14 rfl))
  replace ax := oR ax aM (Or.inl (O.lt 4 14 rfl))
  replace aV := aV.keepI aM ⟨(Or.inr (O.le 7 14 rfl)), (O.le 15 28 rfl)⟩
  replace aW := aW.keepI aM ⟨(Or.inr (O.le 9 14 rfl)), (O.le 15 28 rfl)⟩
  replace aY := aY.keepI aM ⟨(Or.inr (O.le 11 14 rfl)), (O.le 15 28 rfl)⟩
  replace a6 := a6.keepI aM ⟨(Or.inr (O.le 13 14 rfl)), (O.le 15 28 rfl)⟩
  have br := bq.transI aM (Or.inl ⟨(Nat.le_of_lt (O.gt0 14 rfl)), (O.le 15 28 rfl)⟩)
  have ck := Nat.le_trans bw aM.size
  refine oc cP hx (hd 66 rfl) rfl rfl ?_
  refine oi (getF cP hx hZ hown (host := "") (Or.inl (hw 91 rfl)) Via.refl rfl ai rfl rfl (hd 67 rfl)) fun ec cQ dL => ?_
  refine oM cQ hx (hd 68 rfl) rfl rfl ?_
  have bg := aF.exa
  refine oB cQ hx hZ hown (hw 439 rfl) (hw 440 rfl) (hw 442 rfl) (hw 441 rfl) (hw 443 rfl) (hw 50 rfl) (by decide) (oaK l Z aw hw [] (A 16) kk (A 17) (A 28) (dx.heap) n0 ck aF (O.le 17 28 rfl) (Nat.le_trans (O.hi 28 rfl) br.size) (Nat.le_trans aH (Nat.le_of_lt (O.gt0 16 rfl))) J0) dL bg hml rfl rfl (rest := []) rfl (lenOf o7 rfl) (hd 69 rfl) rfl fun ef df ey ci cx => ?_
  obtain ⟨rfl, bN, aO, bB⟩ := cx
  have bX := Fr.app bW bN
  replace aA := oW aA aO
  replace ag := oh ag aO (Or.inl (O.gt0 16 rfl))
  replace av := oh av aO (Or.inl (O.gt0 16 rfl))
  replace ap := oh ap aO (Or.inl (O.gt0 16 rfl))
  replace au := oh au aO (Or.inl (O.gt0 16 rfl))
  replace ak := oh ak aO (Or.inl (O.gt0 16 rfl))
  replace ac := oh ac aO (Or.inl (O.gt0 16 rfl))
  replace ae := oh ae aO (Or.inl (O.gt0 16 rfl))
  replace ah := oh ah aO (Or.inl (O.gt0 16 rfl))
  replace ai := oh ai aO (Or.inl (O.gt0 16 rfl))
  replace af := oh af aO (Or.inl (O.gt0 16 rfl))
  replace aj := oh aj aO (Or.inl (O.gt0 16 rfl))
  replace ao := oh ao aO (Or.inl (O.gt0 16 rfl))
  replace aa := oh aa aO (Or.inl (O.gt0 16 rfl))
  replace ab := oh ab aO (Or.inl (O.gt0 16 rfl))
  replace aq := oh aq aO (Or.inl (O.gt0 16 rfl))
  replace aS := oR aS aO (Or.inl (O.lt 2 16 rfl))
  replace aB := aB.keepI aO (Or.inl (O.le 17 18 rfl))
  replace aC := aC.keepI aO (Or.inl (O.le 17 20 rfl))
  replace aD := aD.keepI aO (Or.inl (O.le 17 22 rfl))
  replace aE := aE.keepI aO (Or.inl (O.le 17 24 rfl))
  replace aT := aT.keepI aO (Or.inl (O.le 17 26 rfl))
  replace PL := PL.keepI aO (Or.inr (O.le 1 16 rfl))
  replace ax := oR ax aO (Or.inl (O.lt 4 16 rfl))
  replace aV := aV.keepI aO ⟨(Or.inr (O.le 7 16 rfl)), (O.le 17 28 rfl)⟩
  replace aW := aW.keepI aO ⟨(Or.inr (O.le 9 16 rfl)), (O.le 17 28 rfl)⟩
  replace aY := aY.keepI aO ⟨(Or.inr (O.le 11 16 rfl)), (O.le 17 28 rfl)⟩
  replace a6 := a6.keepI aO ⟨(Or.inr (O.le 13 16 rfl)), (O.le 17 28 rfl)⟩
  replace bc := bc.keepI aO ⟨(Or.inr (O.le 15 16 rfl)), (O.le 17 28 rfl)⟩
  have bE := br.transI aO (Or.inl ⟨(Nat.le_of_lt (O.gt0 16 rfl)), (O.le 17 28 rfl)⟩)
  refine oc ci hx (hd 70 rfl) rfl rfl ?_
  refine og (S' := [(.ref a0), (.ref a0)])  (fun _ k => XS.dup ci.here hx rfl (hd 71 rfl) rfl rfl k) ?_
  refine oi (getF ci hx hZ hown (host := "") (Or.inl (hw 330 rfl)) Via.refl rfl aq rfl rfl (hd 72 rfl)) fun dy cj dM => ?_
  refine ol (v := (.int (1 : Int32))) (fun _ k => XS.iconst cj.here hx rfl (hd 73 rfl) k) ?_
  refine og (S' := [(.int ((0 : Int32) + (1 : Int32))), (.ref a0)])  (fun _ k => XS.iadd cj.here hx rfl (hd 74 rfl) rfl k) ?_
  show oe p.tables e below _ (dy.setTop (mkF m 190 #[.val (.ref a0), .val (.long q1), .second, .val (.ref a2), .val .null, .val .null, .val .null, .val .null, .val .null, .val .null, .val (.int (0 : Int32)), .val (.int (0 : Int32)), .val (.int (0 : Int32))] [(.int ((0 : Int32) + (1 : Int32))), (.ref a0)]))
  rw [show ((0 : Int32) + (1 : Int32)) = (1 : Int32) from by decide]
  refine ox (putF cj hx hZ hown (host := "") (Or.inl (hw 330 rfl)) Via.refl dM aq aA (Or.inl (hw 331 rfl)) (hw 1 rfl) (ty := .int) (by decide) rfl rfl rfl rfl (hd 75 rfl)) fun eg ej cR dN aN => ?_
  replace aA := aA.wr aN
  replace ag := ag.other aN (Or.inr (ob (Or.inr (hw 41 rfl)) (Or.inl (hw 331 rfl)) (by decide)))
  replace av := av.other aN (Or.inr (ob (Or.inl (hw 44 rfl)) (Or.inl (hw 331 rfl)) (by decide)))
  replace ap := ap.other aN (Or.inr (ob (Or.inl (hw 47 rfl)) (Or.inl (hw 331 rfl)) (by decide)))
  replace au := au.other aN (Or.inr (ob (Or.inr (hw 82 rfl)) (Or.inl (hw 331 rfl)) (by decide)))
  replace ak := ak.other aN (Or.inr (ob (Or.inr (hw 84 rfl)) (Or.inl (hw 331 rfl)) (by decide)))
  replace ac := ac.other aN (Or.inr (ob (Or.inr (hw 86 rfl)) (Or.inl (hw 331 rfl)) (by decide)))
  replace ae := ae.other aN (Or.inr (ob (Or.inr (hw 88 rfl)) (Or.inl (hw 331 rfl)) (by decide)))
  replace ah := ah.other aN (Or.inr (ob (Or.inr (hw 90 rfl)) (Or.inl (hw 331 rfl)) (by decide)))
  replace ai := ai.other aN (Or.inr (ob (Or.inr (hw 92 rfl)) (Or.inl (hw 331 rfl)) (by decide)))
  replace af := af.other aN (Or.inr (ob (Or.inr (hw 109 rfl)) (Or.inl (hw 331 rfl)) (by decide)))
  replace aj := aj.other aN (Or.inr (ob (Or.inr (hw 111 rfl)) (Or.inl (hw 331 rfl)) (by decide)))
  replace ao := ao.other aN (Or.inr (ob (Or.inr (hw 113 rfl)) (Or.inl (hw 331 rfl)) (by decide)))
  replace aa := aa.other aN (Or.inr (ob (Or.inr (hw 115 rfl)) (Or.inl (hw 331 rfl)) (by decide)))
  replace ab := ab.other aN (Or.inr (ob (Or.inr (hw 222 rfl)) (Or.inl (hw 331 rfl)) (by decide)))
  replace aq := aq.same aN
  replace aS := aS.other aN (Ne.symm (Nat.ne_of_lt (O.gt0 2 rfl)))
  replace aB := aB.keep (Keep.of_wr aN) (allS (Or.inl (O.gt0 18 rfl)) all0)
  replace aC := aC.keep (Keep.of_wr aN) (allS (Or.inl (O.gt0 20 rfl)) all0)
  replace aD := aD.keep (Keep.of_wr aN) (allS (Or.inl (O.gt0 22 rfl)) all0)
  replace aE := aE.keep (Keep.of_wr aN) (allS (Or.inl (O.gt0 24 rfl)) all0)
  replace aT := aT.keep (Keep.of_wr aN) (allS (Or.inl (O.gt0 26 rfl)) all0)
  replace PL := PL.keep (Keep.of_wr aN) (allS (Or.inl (O.gt0 0 rfl)) all0)
  replace ax := ax.other aN (Ne.symm (Nat.ne_of_lt (O.gt0 4 rfl)))
  replace aV := aV.keep (Keep.of_wr aN) (allS ⟨(Or.inl (O.gt0 6 rfl)), (O.gt0 28 rfl)⟩ all0)
  replace aW := aW.keep (Keep.of_wr aN) (allS ⟨(Or.inl (O.gt0 8 rfl)), (O.gt0 28 rfl)⟩ all0)
  replace aY := aY.keep (Keep.of_wr aN) (allS ⟨(Or.inl (O.gt0 10 rfl)), (O.gt0 28 rfl)⟩ all0)
  replace a6 := a6.keep (Keep.of_wr aN) (allS ⟨(Or.inl (O.gt0 12 rfl)), (O.gt0 28 rfl)⟩ all0)
  replace bc := bc.keep (Keep.of_wr aN) (allS ⟨(Or.inl (O.gt0 14 rfl)), (O.gt0 28 rfl)⟩ all0)
  replace bB := bB.keep (Keep.of_wr aN) (allS ⟨(Or.inl (O.gt0 16 rfl)), (O.gt0 28 rfl)⟩ all0)
  have aZ := bE.wr aN (Or.inl ⟨Nat.le_refl _, (O.gt0 28 rfl)⟩)
  have bY := Fr.snoc cR bX aH
  exact oG cR hx hlk (by decide) (by decide) Bd.returns (hd 76 rfl) (by rw [dN]; exact ⟨rfl, bY, aZ, O.mono aZ.size, aA, ag, av, ap, au, ak, ac, ae, ah, ai, af, aj, ao, aa, ab, aq, PL, ⟨kI, vI, ⟨(O.lt 2 3 rfl), Nat.le_trans (O.hi 3 rfl) aZ.size⟩, aS⟩, ⟨kE, _, ⟨(O.lt 4 5 rfl), Nat.le_trans (O.hi 5 rfl) aZ.size⟩, ax, ocT cy, ocS cy⟩, aV, aW, aY, a6, bc, bB, aB, aC, aD, aE, aT⟩)
theorem ojU (hw : oo Z aw) (ws : List Jvm.Cond) (a0 : Addr) (q1 : Int64) (a2 : Addr) (kk : ov) (A : Nat → Nat) (sb : Nat) (ks : ClassId) (v0 : Int64) (h0 : Heap) (n0 : Nat) (Z0 : n0 ≤ h0.size) (cJ : oao Z h0 a0 A 1 1 (oZ Z h0 kk.i0 (A 28) 1) (o3 Z h0 1 v0)) (aD : Exa Z h0 a2 "java/lang/String") (aj : Fld Z h0 a2 "java/lang/String" "coder" "B" (.int (0 : Int32))) (ao : Fld Z h0 a2 "java/lang/String" "value" "[B" (.ref sb)) (aJ : Arv Z h0 sb ks .byte (0 : Int32) [] (.int (0 : Int32))) (cI : @LT.lt Nat _ a2 a0 ∨ @LE.le Nat _ (A 28) a2) (dJ : @LT.lt Nat _ sb a0 ∨ @LE.le Nat _ (A 28) sb) (au : n0 ≤ a0) (J0 : oy Z h0 n0 kk) :
    ot l Z (⟨"com/example/restate/restate/model/CensusColumns", "add", "(JLjava/lang/String;Ljava/lang/String;Lcom/example/restate/restate/model/PensionEligibility;Lcom/example/restate/restate/model/YearEndStatus;Ljava/time/LocalDate;Ljava/time/LocalDate;Ljava/time/LocalDate;)V"⟩ : MethodName) prog_32_method_3_code 13 none ws ({ frames := 6, cells := 25, slots := 292, locals := 99 } : Room) #[(.ref a0), (.long q1), (.ref a2), .null, .null, .null, .null, .null, .null] h0 (oil Z a0 q1 a2 kk A sb ks v0 h0 n0) := by
  refine ou (plainFor_of_name oad) (fun m => ob9 m a0 q1 a2) ?_
  intro p e s m below meth c dK Bd hml hx hby hlk hown hnm hZ X0 e0
  have hd := oq ob8 hby
  have N0 := Fr.nil n0
  have K0 : Keep h0 h0 [] := Keep.refl _ _
  obtain ⟨O, ap, aa, ax, ai, ak, ah, ag, ae, ac, ab, aG, aI, aL, aA, av, af, PL, ⟨kI, vI, oI, be⟩, ⟨kE, vE, oE, a6, eh, dI⟩, aO, aN, aB, az, ay, aq, bO, bP, bQ, bR, db⟩ := cJ
  obtain ⟨-, aW, a5, aX, aY, aZ⟩ := PL
  have af : Fld Z h0 a0 "com/example/restate/restate/model/CensusColumns" "size" "I" (.int (1 : Int32)) := af
  have K0 : oD h0 h0 a0 (A 28) := oD.refl _ _ _
  refine oc X0 hx (hd 0 rfl) rfl rfl ?_
  refine oc X0 hx (hd 1 rfl) rfl rfl ?_
  refine oi (getF X0 hx hZ hown (host := "") (Or.inl (hw 330 rfl)) Via.refl e0 af rfl rfl (hd 2 rfl)) fun T1 X1 e1 => ?_
  refine o8 X1 hx hZ hown (hw 332 rfl) (hw 333 rfl) (hw 1 rfl) (hw 334 rfl) (hw 335 rfl) (hw 2 rfl) (by decide) (ocl l Z aw hw [] a0 1 (A 26) (A 27) (A 18) (A 20) (A 22) (A 24) (A 19) (A 21) (A 23) (A 25) h0 n0 Z0 av db bO bP bQ bR) e1 ap hml rfl rfl (rest := []) rfl (lenOf obi rfl) (hd 3 rfl) rfl fun T2 dV v2 X2 dE => ?_
  obtain ⟨rfl, cT, e2⟩ := dE
  have cX := Fr.app N0 cT
  refine oc X2 hx (hd 4 rfl) rfl rfl ?_
  refine oi (getF X2 hx hZ hown (host := "") (Or.inl (hw 330 rfl)) Via.refl e2 af rfl rfl (hd 5 rfl)) fun T3 X3 e3 => ?_
  refine oz (fun _ k => XS.istore X3.here hx rfl (hd 6 rfl) rfl (l' := #[.val (.ref a0), .val (.long q1), .second, .val (.ref a2), .val .null, .val .null, .val .null, .val .null, .val .null, .val .null, .val (.int (1 : Int32)), .unset, .unset]) rfl k) ?_
  refine oH X3 hx (hd 7 rfl) rfl ?_
  refine oc X3 hx (hd 8 rfl) rfl rfl ?_
  refine oi (getF X3 hx hZ hown (host := "") (Or.inl (hw 46 rfl)) Via.refl e3 ai rfl rfl (hd 9 rfl)) fun T4 X4 e4 => ?_
  obtain ⟨ef, cn, q5, S5, da, H5, G5⟩ := id a6
  refine ow (fun _ k => X4.arraylength hx (by rw [e4]; exact cn.1) (State.isArrayOf_alike hZ.alike cn.2.1) rfl rfl (hd 10 rfl) _ k) ?_
  rw [len_of S5 da]
  show oe p.tables e below _ (T4.setTop (mkF m 21 #[.val (.ref a0), .val (.long q1), .second, .val (.ref a2), .val .null, .val .null, .val .null, .val .null, .val .null, .val .null, .val (.int (1 : Int32)), .unset, .unset] [(.int (1024 : Int32)), (.int (1 : Int32))]))
  refine oC (S' := [])  (fun _ k => XS.icmpYes X4.here hx rfl (pc0 := 21) (pc' := 40) rfl (hd 11 rfl) rfl (feq (by decide)).2 (by decide) (by decide) k) ?_
  refine oc X4 hx (hd 12 rfl) rfl rfl ?_
  refine oi (getF X4 hx hZ hown (host := "") (Or.inl (hw 40 rfl)) Via.refl e4 aa rfl rfl (hd 13 rfl)) fun T6 X6 e6 => ?_
  refine ol (fun _ k => XS.lloadN X6.here hx rfl (hd 14 rfl) rfl k) ?_
  refine oH X6 hx (hd 15 rfl) rfl ?_
  refine og (S' := [(.long ((1 : Int32).toInt64)), (.long q1), (.ref (A 0))])  (fun _ k => XS.i2l X6.here hx rfl (hd 16 rfl) rfl k) ?_
  show oe p.tables e below _ (T6.setTop (mkF m 48 #[.val (.ref a0), .val (.long q1), .second, .val (.ref a2), .val .null, .val .null, .val .null, .val .null, .val .null, .val .null, .val (.int (1 : Int32)), .unset, .unset] [(.long ((1 : Int32).toInt64)), (.long q1), (.ref (A 0))]))
  rw [show ((1 : Int32).toInt64) = (1 : Int64) from by decide]
  refine og (S' := [(.long (q1 - (1 : Int64))), (.ref (A 0))])  (fun _ k => XS.lsub X6.here hx rfl (hd 17 rfl) rfl k) ?_
  refine oB X6 hx hZ hown (hw 377 rfl) (hw 378 rfl) (hw 380 rfl) (hw 379 rfl) (hw 381 rfl) (hw 35 rfl) (by decide) (oiQ l Z aw hw [] (A 0) (q1 - (1 : Int64)) [v0] v0 h0 n0 Z0 aW a5 aX aY aZ (Nat.le_trans au (Nat.le_of_lt (O.gt0 0 rfl))) (by simp) (by simp)) e6 aW hml rfl rfl (rest := []) rfl (lenOf oaa rfl) (hd 18 rfl) rfl fun T7 dW v7 X7 dF => ?_
  obtain ⟨rfl, cU, k7, Q7⟩ := dF
  have cY := Fr.app cX cU
  replace aD := aD.keep k7
  replace aj := aj.keep k7 (ninS (oaD cI (Nat.le_of_lt (O.gt0 0 rfl)) (O.lt 0 28 rfl)) nin0)
  replace ao := ao.keep k7 (ninS (oaD cI (Nat.le_of_lt (O.gt0 0 rfl)) (O.lt 0 28 rfl)) nin0)
  replace aJ := aJ.keep k7 (ninS (oaD dJ (Nat.le_of_lt (O.gt0 0 rfl)) (O.lt 0 28 rfl)) nin0)
  replace J0 := J0.keep k7 (allS (Nat.le_trans au (Nat.le_of_lt (O.gt0 0 rfl))) all0)
  replace ap := ap.keep k7
  replace aa := aa.keep k7 (ninS (Nat.ne_of_lt (O.gt0 0 rfl)) nin0)
  replace ax := ax.keep k7 (ninS (Nat.ne_of_lt (O.gt0 0 rfl)) nin0)
  replace ai := ai.keep k7 (ninS (Nat.ne_of_lt (O.gt0 0 rfl)) nin0)
  replace ak := ak.keep k7 (ninS (Nat.ne_of_lt (O.gt0 0 rfl)) nin0)
  replace ah := ah.keep k7 (ninS (Nat.ne_of_lt (O.gt0 0 rfl)) nin0)
  replace ag := ag.keep k7 (ninS (Nat.ne_of_lt (O.gt0 0 rfl)) nin0)
  replace ae := ae.keep k7 (ninS (Nat.ne_of_lt (O.gt0 0 rfl)) nin0)
  replace ac := ac.keep k7 (ninS (Nat.ne_of_lt (O.gt0 0 rfl)) nin0)
  replace ab := ab.keep k7 (ninS (Nat.ne_of_lt (O.gt0 0 rfl)) nin0)
  replace af := af.keep k7 (ninS (Nat.ne_of_lt (O.gt0 0 rfl)) nin0)
  replace be := be.keep k7 (ninS (Ne.symm (Nat.ne_of_lt (O.lt 0 2 rfl))) nin0)
  replace a6 := a6.keep k7 (ninS (Ne.symm (Nat.ne_of_lt (O.lt 0 4 rfl))) nin0)
  replace aO := aO.keep k7 (allS ⟨(Or.inl (O.lt 0 6 rfl)), (O.lt 0 28 rfl)⟩ all0)
  replace aN := aN.keep k7 (allS ⟨(Or.inl (O.lt 0 8 rfl)), (O.lt 0 28 rfl)⟩ all0)
  replace aB := aB.keep k7 (allS ⟨(Or.inl (O.lt 0 10 rfl)), (O.lt 0 28 rfl)⟩ all0)
  replace az := az.keep k7 (allS ⟨(Or.inl (O.lt 0 12 rfl)), (O.lt 0 28 rfl)⟩ all0)
  replace ay := ay.keep k7 (allS ⟨(Or.inl (O.lt 0 14 rfl)), (O.lt 0 28 rfl)⟩ all0)
  replace aq := aq.keep k7 (allS ⟨(Or.inl (O.lt 0 16 rfl)), (O.lt 0 28 rfl)⟩ all0)
  have co := K0.trans k7 (allS (Or.inl ⟨(Nat.le_of_lt (O.gt0 0 rfl)), (O.lt 0 28 rfl)⟩) all0)
  have aQ := Nat.le_trans Z0 k7.1
  have PL : oai Z T7.heap (A 28) ([v0] ++ [(q1 - (1 : Int64))]) (A 0) (A 1) := ⟨⟨(O.lt 0 1 rfl), Nat.le_trans (O.hi 1 rfl) co.size⟩, Q7.mono (O.hi 28 rfl)⟩
  refine oc X7 hx (hd 19 rfl) rfl rfl ?_
  refine oH X7 hx (hd 20 rfl) rfl ?_
  refine o8 X7 hx hZ hown (hw 388 rfl) (hw 389 rfl) (hw 1 rfl) (hw 390 rfl) (hw 391 rfl) (hw 2 rfl) (by decide) (ojq l Z aw hw [] a0 (A 4) kE vE (T7.heap) n0 aQ ai a6 dI) rfl ap hml rfl rfl (rest := []) rfl (lenOf oa0 rfl) (hd 21 rfl) rfl fun T8 dX v8 X8 dG => ?_
  obtain ⟨rfl, cV, e8⟩ := dG
  have cZ := Fr.app cY cV
  refine oz (fun _ k => XS.istore X8.here hx rfl (hd 22 rfl) rfl (l' := #[.val (.ref a0), .val (.long q1), .second, .val (.ref a2), .val .null, .val .null, .val .null, .val .null, .val .null, .val .null, .val (.int (1 : Int32)), .val (.int (0 : Int32)), .unset]) rfl k) ?_
  refine oH X8 hx (hd 23 rfl) rfl ?_
  refine oc X8 hx (hd 24 rfl) rfl rfl ?_
  refine oB X8 hx hZ hown (hw 392 rfl) (hw 393 rfl) (hw 395 rfl) (hw 394 rfl) (hw 396 rfl) (hw 318 rfl) (by decide) (oaT l Z aw hw [] a2 sb ks kk (T7.heap) n0 aQ aD aj ao aJ J0) e8 aD hml rfl rfl (rest := [(.int (0 : Int32))]) rfl (lenOf oV rfl) (hd 25 rfl) rfl fun T9 dY v9 X9 dH => ?_
  obtain ⟨rfl, cW, e9⟩ := dH
  have c8 := Fr.app cZ cW
  refine oL X9 hx hZ hown (hw 405 rfl) (hw 406 rfl) (hw 407 rfl) (hw 204 rfl) (by decide) (ocm l Z aw hw []  (T7.heap) n0 aQ ) e9 hml rfl rfl (rest := []) rfl (lenOf oav rfl) (hd 26 rfl) rfl fun dZ cK en bg bY => ?_
  obtain ⟨rfl, bs, dn⟩ := bY
  have bC := Fr.app c8 bs
  refine oz (fun _ k => XS.istore bg.here hx rfl (hd 27 rfl) rfl (l' := #[.val (.ref a0), .val (.long q1), .second, .val (.ref a2), .val .null, .val .null, .val .null, .val .null, .val .null, .val .null, .val (.int (1 : Int32)), .val (.int (0 : Int32)), .val (.int (0 : Int32))]) rfl k) ?_
  refine oH bg hx (hd 28 rfl) rfl ?_
  refine oc bg hx (hd 29 rfl) rfl rfl ?_
  refine oi (getF bg hx hZ hown (host := "") (Or.inl (hw 43 rfl)) Via.refl dn ax rfl rfl (hd 30 rfl)) fun df aP cH => ?_
  obtain ⟨dm, aR, ej, dc, bN, dT, dR⟩ := id be
  refine ow (fun _ k => aP.arraylength hx (by rw [cH]; exact aR.1) (State.isArrayOf_alike hZ.alike aR.2.1) rfl rfl (hd 31 rfl) _ k) ?_
  rw [len_of dc bN]
  show oe p.tables e below _ (df.setTop (mkF m 78 #[.val (.ref a0), .val (.long q1), .second, .val (.ref a2), .val .null, .val .null, .val .null, .val .null, .val .null, .val .null, .val (.int (1 : Int32)), .val (.int (0 : Int32)), .val (.int (0 : Int32))] [(.int (8192 : Int32)), (.int (0 : Int32))]))
  refine oC (S' := [])  (fun _ k => XS.icmpYes aP.here hx rfl (pc0 := 78) (pc' := 105) rfl (hd 32 rfl) rfl (flt (by decide)).2.2.2 (by decide) (by decide) k) ?_
  refine oc aP hx (hd 33 rfl) rfl rfl ?_
  refine ol (v := (.int (0 : Int32))) (fun _ k => XS.iconst aP.here hx rfl (hd 34 rfl) k) ?_
  refine oc aP hx (hd 35 rfl) rfl rfl ?_
  refine oB aP hx hZ hown (hw 392 rfl) (hw 393 rfl) (hw 395 rfl) (hw 394 rfl) (hw 396 rfl) (hw 318 rfl) (by decide) (oaT l Z aw hw [] a2 sb ks kk (T7.heap) n0 aQ aD aj ao aJ J0) cH aD hml rfl rfl (rest := [(.int (0 : Int32)), (.ref a2)]) rfl (lenOf oV rfl) (hd 36 rfl) rfl fun d0 cL eo cp bZ => ?_
  obtain ⟨rfl, bt, dp⟩ := bZ
  have bD := Fr.app bC bt
  refine oc cp hx (hd 37 rfl) rfl rfl ?_
  refine oi (getF cp hx hZ hown (host := "") (Or.inl (hw 43 rfl)) Via.refl dp ax rfl rfl (hd 38 rfl)) fun d1 cr dq => ?_
  refine oH cr hx (hd 39 rfl) rfl ?_
  refine oB cr hx hZ hown (hw 408 rfl) (hw 409 rfl) (hw 411 rfl) (hw 410 rfl) (hw 412 rfl) (hw 318 rfl) (by decide) (ocn l Z aw hw [] a2 (A 2) sb ks kk kI vI (T7.heap) n0 aQ aD aj ao aJ J0 be) dq aD hml rfl rfl (rest := []) rfl (lenOf ob7 rfl) (hd 40 rfl) rfl fun d2 cM ep ct b0 => ?_
  obtain ⟨rfl, bu, dr⟩ := b0
  have bE := Fr.app bD bu
  refine oc ct hx (hd 41 rfl) rfl rfl ?_
  refine oi (getF ct hx hZ hown (host := "") (Or.inl (hw 46 rfl)) Via.refl dr ai rfl rfl (hd 42 rfl)) fun d3 bS ds => ?_
  refine oH bS hx (hd 43 rfl) rfl ?_
  refine oH bS hx (hd 44 rfl) rfl ?_
  obtain ⟨bX, bh, em, dd, c9, dU, dS⟩ := id a6
  have bc : ¬ ((1 : Int32) < 0 ∨ bX.slots.size ≤ ((1 : Int32)).toNatClampNeg) := inb_of dd ⟨(by decide), (by decide)⟩
  refine ox (stI bS hx hZ ds bh (j := (1 : Int32)) bc rfl rfl (hd 45 rfl)) fun d4 dD bT dt aC => ?_
  replace J0 := J0.keep (Keep.of_wr aC) (allS (Nat.le_trans au (Nat.le_of_lt (O.gt0 4 rfl))) all0)
  replace ap := ap.wr aC
  replace aa := aa.other aC (Or.inl (Nat.ne_of_lt (O.gt0 4 rfl)))
  replace ak := ak.other aC (Or.inl (Nat.ne_of_lt (O.gt0 4 rfl)))
  replace ah := ah.other aC (Or.inl (Nat.ne_of_lt (O.gt0 4 rfl)))
  replace ag := ag.other aC (Or.inl (Nat.ne_of_lt (O.gt0 4 rfl)))
  replace ae := ae.other aC (Or.inl (Nat.ne_of_lt (O.gt0 4 rfl)))
  replace ac := ac.other aC (Or.inl (Nat.ne_of_lt (O.gt0 4 rfl)))
  replace ab := ab.other aC (Or.inl (Nat.ne_of_lt (O.gt0 4 rfl)))
  replace af := af.other aC (Or.inl (Nat.ne_of_lt (O.gt0 4 rfl)))
  replace aO := aO.keep (Keep.of_wr aC) (allS ⟨(Or.inl (O.lt 4 6 rfl)), (O.lt 4 28 rfl)⟩ all0)
  replace aN := aN.keep (Keep.of_wr aC) (allS ⟨(Or.inl (O.lt 4 8 rfl)), (O.lt 4 28 rfl)⟩ all0)
  replace aB := aB.keep (Keep.of_wr aC) (allS ⟨(Or.inl (O.lt 4 10 rfl)), (O.lt 4 28 rfl)⟩ all0)
  replace az := az.keep (Keep.of_wr aC) (allS ⟨(Or.inl (O.lt 4 12 rfl)), (O.lt 4 28 rfl)⟩ all0)
  replace ay := ay.keep (Keep.of_wr aC) (allS ⟨(Or.inl (O.lt 4 14 rfl)), (O.lt 4 28 rfl)⟩ all0)
  replace aq := aq.keep (Keep.of_wr aC) (allS ⟨(Or.inl (O.lt 4 16 rfl)), (O.lt 4 28 rfl)⟩ all0)
  replace PL := PL.keep (Keep.of_wr aC) (allS ⟨(Or.inr (O.le 1 4 rfl)), (O.lt 4 28 rfl)⟩ all0)
  have bk := co.wr aC (Or.inl ⟨(Nat.le_of_lt (O.gt0 4 rfl)), (O.lt 4 28 rfl)⟩)
  have a7 := Nat.le_trans aQ (Keep.of_wr aC).1
  have bF := Fr.snoc bT bE (Nat.le_trans au (Nat.le_of_lt (O.gt0 4 rfl)))
  refine oc bT hx (hd 46 rfl) rfl rfl ?_
  refine oi (getF bT hx hZ hown (host := "") (Or.inl (hw 81 rfl)) Via.refl dt ak rfl rfl (hd 47 rfl)) fun d5 cu du => ?_
  refine oM cu hx (hd 48 rfl) rfl rfl ?_
  have bi := aO.exa
  refine oB cu hx hZ hown (hw 439 rfl) (hw 440 rfl) (hw 442 rfl) (hw 441 rfl) (hw 443 rfl) (hw 50 rfl) (by decide) (oaL l Z aw hw [] (A 6) kk (A 7) (A 28) 1 dD n0 a7 aO (by decide) (Nat.le_trans au (Nat.le_of_lt (O.gt0 6 rfl))) J0) du bi hml rfl rfl (rest := []) rfl (lenOf o7 rfl) (hd 49 rfl) rfl fun dg cN er cv ce => ?_
  obtain ⟨rfl, bv, aE, dL⟩ := ce
  have bG := Fr.app bF bv
  replace J0 := J0.keepI aE (Nat.le_trans au (Nat.le_of_lt (O.gt0 6 rfl)))
  replace ap := oW ap aE
  replace aa := oh aa aE (Or.inl (O.gt0 6 rfl))
  replace ah := oh ah aE (Or.inl (O.gt0 6 rfl))
  replace ag := oh ag aE (Or.inl (O.gt0 6 rfl))
  replace ae := oh ae aE (Or.inl (O.gt0 6 rfl))
  replace ac := oh ac aE (Or.inl (O.gt0 6 rfl))
  replace ab := oh ab aE (Or.inl (O.gt0 6 rfl))
  replace af := oh af aE (Or.inl (O.gt0 6 rfl))
  replace aN := aN.keepI aE ⟨(Or.inl (O.le 7 8 rfl)), (O.le 7 28 rfl)⟩
  replace aB := aB.keepI aE ⟨(Or.inl (O.le 7 10 rfl)), (O.le 7 28 rfl)⟩
  replace az := az.keepI aE ⟨(Or.inl (O.le 7 12 rfl)), (O.le 7 28 rfl)⟩
  replace ay := ay.keepI aE ⟨(Or.inl (O.le 7 14 rfl)), (O.le 7 28 rfl)⟩
  replace aq := aq.keepI aE ⟨(Or.inl (O.le 7 16 rfl)), (O.le 7 28 rfl)⟩
  replace PL := PL.keepI aE ⟨(Or.inr (O.le 1 6 rfl)), (O.le 7 28 rfl)⟩
  have bl := bk.transI aE (Or.inl ⟨(Nat.le_of_lt (O.gt0 6 rfl)), (O.le 7 28 rfl)⟩)
  have a8 := Nat.le_trans a7 aE.size
  refine oc cv hx (hd 50 rfl) rfl rfl ?_
  refine oi (getF cv hx hZ hown (host := "") (Or.inl (hw 83 rfl)) Via.refl rfl ah rfl rfl (hd 51 rfl)) fun d6 cw dw => ?_
  refine oM cw hx (hd 52 rfl) rfl rfl ?_
  have bj := aN.exa
  refine oB cw hx hZ hown (hw 439 rfl) (hw 440 rfl) (hw 442 rfl) (hw 441 rfl) (hw 443 rfl) (hw 50 rfl) (by decide) (oaL l Z aw hw [] (A 8) kk (A 9) (A 28) 1 (dg.heap) n0 a8 aN (by decide) (Nat.le_trans au (Nat.le_of_lt (O.gt0 8 rfl))) J0) dw bj hml rfl rfl (rest := []) rfl (lenOf o7 rfl) (hd 53 rfl) rfl fun dh cO es cx cg => ?_
  obtain ⟨rfl, bw, aF, dM⟩ := cg
  have bH := Fr.app bG bw
  replace J0 := J0.keepI aF (Nat.le_trans au (Nat.le_of_lt (O.gt0 8 rfl)))
  replace ap := oW ap aF
  replace aa := oh aa aF (Or.inl (O.gt0 8 rfl))
  replace ag := oh ag aF (Or.inl (O.gt0 8 rfl))
  replace ae := oh ae aF (Or.inl (O.gt0 8 rfl))
  replace ac := oh ac aF (Or.inl (O.gt0 8 rfl))
  replace ab := oh ab aF (Or.inl (O.gt0 8 rfl))
  replace af := oh af aF (Or.inl (O.gt0 8 rfl))
  replace aB := aB.keepI aF ⟨(Or.inl (O.le 9 10 rfl)), (O.le 9 28 rfl)⟩
  replace az := az.keepI aF ⟨(Or.inl (O.le 9 12 rfl)), (O.le 9 28 rfl)⟩
  replace ay := ay.keepI aF ⟨(Or.inl (O.le 9 14 rfl)), (O.le 9 28 rfl)⟩
  replace aq := aq.keepI aF ⟨(Or.inl (O.le 9 16 rfl)), (O.le 9 28 rfl)⟩
  replace PL := PL.keepI aF ⟨(Or.inr (O.le 1 8 rfl)), (O.le 9 28 rfl)⟩
  have bm := bl.transI aF (Or.inl ⟨(Nat.le_of_lt (O.gt0 8 rfl)), (O.le 9 28 rfl)⟩)
  have a9 := Nat.le_trans a8 aF.size
  refine oc cx hx (hd 54 rfl) rfl rfl ?_
  refine oi (getF cx hx hZ hown (host := "") (Or.inl (hw 85 rfl)) Via.refl rfl ag rfl rfl (hd 55 rfl)) fun d7 cy dx => ?_
  refine oM cy hx (hd 56 rfl) rfl rfl ?_
  have aS := aB.exa
  refine oB cy hx hZ hown (hw 439 rfl) (hw 440 rfl) (hw 442 rfl) (hw 441 rfl) (hw 443 rfl) (hw 50 rfl) (by decide) (oaL l Z aw hw [] (A 10) kk (A 11) (A 28) 1 (dh.heap) n0 a9 aB (by decide) (Nat.le_trans au (Nat.le_of_lt (O.gt0 10 rfl))) J0) dx aS hml rfl rfl (rest := []) rfl (lenOf o7 rfl) (hd 57 rfl) rfl fun di cP et cz ci => ?_
  obtain ⟨rfl, bx, aH, dN⟩ := ci
  have bI := Fr.app bH bx
  replace J0 := J0.keepI aH (Nat.le_trans au (Nat.le_of_lt (O.gt0 10 rfl)))
  replace ap := oW ap aH
  replace aa := oh aa aH (Or.inl (O.gt0 10 rfl))
  replace ae := oh ae aH (Or.inl (O.gt0 10 rfl))
  replace ac := oh ac aH (Or.inl (O.gt0 10 rfl))
  replace ab := oh ab aH (Or.inl (O.gt0 10 rfl))
  replace af := oh af aH (Or.inl (O.gt0 10 rfl))
  replace az := az.keepI aH ⟨(Or.inl (O.le 11 12 rfl)), (O.le 11 28 rfl)⟩
  replace ay := ay.keepI aH ⟨(Or.inl (O.le 11 14 rfl)), (O.le 11 28 rfl)⟩
  replace aq := aq.keepI aH ⟨(Or.inl (O.le 11 16 rfl)), (O.le 11 28 rfl)⟩
  replace PL := PL.keepI aH ⟨(Or.inr (O.le 1 10 rfl)), (O.le 11 28 rfl)⟩
  have bn := bm.transI aH (Or.inl ⟨(Nat.le_of_lt (O.gt0 10 rfl)), (O.le 11 28 rfl)⟩)
  have ba := Nat.le_trans a9 aH.size
  refine oc cz hx (hd 58 rfl) rfl rfl ?_
  refine oi (getF cz hx hZ hown (host := "") (Or.inl (hw 87 rfl)) Via.refl rfl ae rfl rfl (hd 59 rfl)) fun d8 cA dy => ?_
  refine oM cA hx (hd 60 rfl) rfl rfl ?_
  have aT := az.exa
  refine oB cA hx hZ hown (hw 439 rfl) (hw 440 rfl) (hw 442 rfl) (hw 441 rfl) (hw 443 rfl) (hw 50 rfl) (by decide) (oaL l Z aw hw [] (A 12) kk (A 13) (A 28) 1 (di.heap) n0 ba az (by decide) (Nat.le_trans au (Nat.le_of_lt (O.gt0 12 rfl))) J0) dy aT hml rfl rfl (rest := []) rfl (lenOf o7 rfl) (hd 61 rfl) rfl fun dj cQ eu cC cj => ?_
  obtain ⟨rfl, bz, aK, dO⟩ := cj
  have bJ := Fr.app bI bz
  replace J0 := J0.keepI aK (Nat.le_trans au (Nat.le_of_lt (O.gt0 12 rfl)))
  replace ap := oW ap aK
  replace aa := oh aa aK (Or.inl (O.gt0 12 rfl))
  replace ac := oh ac aK (Or.inl (O.gt0 12 rfl))
  replace ab := oh ab aK (Or.inl (O.gt0 12 rfl))
  replace af := oh af aK (Or.inl (O.gt0 12 rfl))
  replace ay := ay.keepI aK ⟨(Or.inl (O.le 13 14 rfl)), (O.le 13 28 rfl)⟩
  replace aq := aq.keepI aK ⟨(Or.inl (O.le 13 16 rfl)), (O.le 13 28 rfl)⟩
  replace PL := PL.keepI aK ⟨(Or.inr (O.le 1 12 rfl)), (O.le 13 28 rfl)⟩
  have bo := bn.transI aK (Or.inl ⟨(Nat.le_of_lt (O.gt0 12 rfl)), (O.le 13 28 rfl)⟩)
  have bb := Nat.le_trans ba aK.size
  refine oc cC hx (hd 62 rfl) rfl rfl ?_
  refine oi (getF cC hx hZ hown (host := "") (Or.inl (hw 89 rfl)) Via.refl rfl ac rfl rfl (hd 63 rfl)) fun d9 cD dz => ?_
  refine oM cD hx (hd 64 rfl) rfl rfl ?_
  have aU := ay.exa
  refine oB cD hx hZ hown (hw 439 rfl) (hw 440 rfl) (hw 442 rfl) (hw 441 rfl) (hw 443 rfl) (hw 50 rfl) (by decide) (oaL l Z aw hw [] (A 14) kk (A 15) (A 28) 1 (dj.heap) n0 bb ay (by decide) (Nat.le_trans au (Nat.le_of_lt (O.gt0 14 rfl))) J0) dz aU hml rfl rfl (rest := []) rfl (lenOf o7 rfl) (hd 65 rfl) rfl fun dk cR ew cE ck => ?_
  obtain ⟨rfl, bA, aM, dP⟩ := ck
  have bK := Fr.app bJ bA
  replace J0 := J0.keepI aM (Nat.le_trans au (Nat.le_of_lt (O.gt0 14 rfl)))
  replace ap := oW ap aM
  replace aa := oh aa aM (Or.inl (O.gt0 14 rfl))
  replace ab := oh ab aM (Or.inl (O.gt0 14 rfl))
  replace af := oh af aM (Or.inl (O.gt0 14 rfl))
  replace aq := aq.keepI aM ⟨(Or.inl (O.le 15 16 rfl)), (O.le 15 28 rfl)⟩
  replace PL := PL.keepI aM ⟨(Or.inr (O.le 1 14 rfl)), (O.le 15 28 rfl)⟩
  have bp := bo.transI aM (Or.inl ⟨(Nat.le_of_lt (O.gt0 14 rfl)), (O.le 15 28 rfl)⟩)
  have bW := Nat.le_trans bb aM.size
  refine oc cE hx (hd 66 rfl) rfl rfl ?_
  refine oi (getF cE hx hZ hown (host := "") (Or.inl (hw 91 rfl)) Via.refl rfl ab rfl rfl (hd 67 rfl)) fun ea cF dA => ?_
  refine oM cF hx (hd 68 rfl) rfl rfl ?_
  have aV := aq.exa
  refine oB cF hx hZ hown (hw 439 rfl) (hw 440 rfl) (hw 442 rfl) (hw 441 rfl) (hw 443 rfl) (hw 50 rfl) (by decide) (oaL l Z aw hw [] (A 16) kk (A 17) (A 28) 1 (dk.heap) n0 bW aq (by decide) (Nat.le_trans au (Nat.le_of_lt (O.gt0 16 rfl))) J0) dA aV hml rfl rfl (rest := []) rfl (lenOf o7 rfl) (hd 69 rfl) rfl fun eb cS ex bU cm => ?_
  obtain ⟨rfl, bB, bd, dQ⟩ := cm
  have bL := Fr.app bK bB
  replace ap := oW ap bd
  replace aa := oh aa bd (Or.inl (O.gt0 16 rfl))
  replace af := oh af bd (Or.inl (O.gt0 16 rfl))
  replace PL := PL.keepI bd ⟨(Or.inr (O.le 1 16 rfl)), (O.le 17 28 rfl)⟩
  have bq := bp.transI bd (Or.inl ⟨(Nat.le_of_lt (O.gt0 16 rfl)), (O.le 17 28 rfl)⟩)
  refine oc bU hx (hd 70 rfl) rfl rfl ?_
  refine og (S' := [(.ref a0), (.ref a0)])  (fun _ k => XS.dup bU.here hx rfl (hd 71 rfl) rfl rfl k) ?_
  refine oi (getF bU hx hZ hown (host := "") (Or.inl (hw 330 rfl)) Via.refl rfl af rfl rfl (hd 72 rfl)) fun dl bV dB => ?_
  refine ol (v := (.int (1 : Int32))) (fun _ k => XS.iconst bV.here hx rfl (hd 73 rfl) k) ?_
  refine og (S' := [(.int ((1 : Int32) + (1 : Int32))), (.ref a0)])  (fun _ k => XS.iadd bV.here hx rfl (hd 74 rfl) rfl k) ?_
  show oe p.tables e below _ (dl.setTop (mkF m 190 #[.val (.ref a0), .val (.long q1), .second, .val (.ref a2), .val .null, .val .null, .val .null, .val .null, .val .null, .val .null, .val (.int (1 : Int32)), .val (.int (0 : Int32)), .val (.int (0 : Int32))] [(.int ((1 : Int32) + (1 : Int32))), (.ref a0)]))
  rw [show ((1 : Int32) + (1 : Int32)) = (2 : Int32) from by decide]
  refine ox (putF bV hx hZ hown (host := "") (Or.inl (hw 330 rfl)) Via.refl dB af ap (Or.inl (hw 331 rfl)) (hw 1 rfl) (ty := .int) (by decide) rfl rfl rfl rfl (hd 75 rfl)) fun ec eg cG dC bf => ?_
  replace ap := ap.wr bf
  replace aa := aa.other bf (Or.inr (ob (Or.inr (hw 41 rfl)) (Or.inl (hw 331 rfl)) (by decide)))
  replace PL := PL.keep (Keep.of_wr bf) (allS ⟨(Or.inl (O.gt0 0 rfl)), (O.gt0 28 rfl)⟩ all0)
  have br := bq.wr bf (Or.inl ⟨Nat.le_refl _, (O.gt0 28 rfl)⟩)
  have bM := Fr.snoc cG bL au
  exact oG cG hx hlk (by decide) (by decide) Bd.returns (hd 76 rfl) (by rw [dC]; exact ⟨rfl, bM, br, ap, aa, PL⟩)
theorem ojV (hw : oo Z aw) (ws : List Jvm.Cond) (a0 : Addr) (y : Nat) (h0 : Heap) (n0 : Nat) (Z0 : n0 ≤ h0.size) (aa : Fld Z h0 a0 "com/example/restate/restate/model/CensusColumns" "compensation" "Lcom/example/restate/restate/model/AmountColumn;" (.ref y)) :
    ot l Z (⟨"com/example/restate/restate/model/CensusColumns", "compensation", "()Lcom/example/restate/restate/model/AmountColumn;"⟩ : MethodName) prog_32_method_15_code 1 (some (.object "com/example/restate/restate/model/AmountColumn")) ws ({ frames := 0, cells := 0, slots := 0, locals := 0 } : Room) #[(.ref a0)] h0 (oip Z a0 y h0 n0) := by
  refine ou (plainFor_of_name oad) (fun m => oio m a0) ?_
  intro p e s m below meth c ab Bd hml hx hby hlk hown hnm hZ X0 e0
  have hd := oq oin hby
  have N0 := Fr.nil n0
  have K0 : Keep h0 h0 [] := Keep.refl _ _
  refine oc X0 hx (hd 0 rfl) rfl rfl ?_
  refine oi (getF X0 hx hZ hown (host := "") (Or.inl (hw 108 rfl)) Via.refl e0 aa rfl rfl (hd 1 rfl)) fun T1 X1 e1 => ?_
  exact oO X1 hx hlk (by decide) (by decide) Bd.returns rfl rfl (hd 2 rfl) (by rw [e1]; exact ⟨rfl, N0, rfl⟩)
theorem ojW (hw : oo Z aw) (ws : List Jvm.Cond) (a0 : Addr) (y : Nat) (h0 : Heap) (n0 : Nat) (Z0 : n0 ≤ h0.size) (aa : Fld Z h0 a0 "com/example/restate/restate/model/CensusColumns" "deferrals" "Lcom/example/restate/restate/model/AmountColumn;" (.ref y)) :
    ot l Z (⟨"com/example/restate/restate/model/CensusColumns", "deferrals", "()Lcom/example/restate/restate/model/AmountColumn;"⟩ : MethodName) prog_32_method_16_code 1 (some (.object "com/example/restate/restate/model/AmountColumn")) ws ({ frames := 0, cells := 0, slots := 0, locals := 0 } : Room) #[(.ref a0)] h0 (oit Z a0 y h0 n0) := by
  refine ou (plainFor_of_name oad) (fun m => ois m a0) ?_
  intro p e s m below meth c ab Bd hml hx hby hlk hown hnm hZ X0 e0
  have hd := oq oir hby
  have N0 := Fr.nil n0
  have K0 : Keep h0 h0 [] := Keep.refl _ _
  refine oc X0 hx (hd 0 rfl) rfl rfl ?_
  refine oi (getF X0 hx hZ hown (host := "") (Or.inl (hw 110 rfl)) Via.refl e0 aa rfl rfl (hd 1 rfl)) fun T1 X1 e1 => ?_
  exact oO X1 hx hlk (by decide) (by decide) Bd.returns rfl rfl (hd 2 rfl) (by rw [e1]; exact ⟨rfl, N0, rfl⟩)
theorem ojX (hw : oo Z aw) (ws : List Jvm.Cond) (a0 : Addr) (y : Nat) (h0 : Heap) (n0 : Nat) (Z0 : n0 ≤ h0.size) (aa : Fld Z h0 a0 "com/example/restate/restate/model/CensusColumns" "catchUp" "Lcom/example/restate/restate/model/AmountColumn;" (.ref y)) :
    ot l Z (⟨"com/example/restate/restate/model/CensusColumns", "catchUp", "()Lcom/example/restate/restate/model/AmountColumn;"⟩ : MethodName) prog_32_method_17_code 1 (some (.object "com/example/restate/restate/model/AmountColumn")) ws ({ frames := 0, cells := 0, slots := 0, locals := 0 } : Room) #[(.ref a0)] h0 (oix Z a0 y h0 n0) := by
  refine ou (plainFor_of_name oad) (fun m => oiw m a0) ?_
  intro p e s m below meth c ab Bd hml hx hby hlk hown hnm hZ X0 e0
  have hd := oq oiv hby
  have N0 := Fr.nil n0
  have K0 : Keep h0 h0 [] := Keep.refl _ _
  refine oc X0 hx (hd 0 rfl) rfl rfl ?_
  refine oi (getF X0 hx hZ hown (host := "") (Or.inl (hw 112 rfl)) Via.refl e0 aa rfl rfl (hd 1 rfl)) fun T1 X1 e1 => ?_
  exact oO X1 hx hlk (by decide) (by decide) Bd.returns rfl rfl (hd 2 rfl) (by rw [e1]; exact ⟨rfl, N0, rfl⟩)
theorem ojY (hw : oo Z aw) (ws : List Jvm.Cond) (a0 : Addr) (y : Nat) (h0 : Heap) (n0 : Nat) (Z0 : n0 ≤ h0.size) (aa : Fld Z h0 a0 "com/example/restate/restate/model/CensusColumns" "otherAnnualAdditions" "Lcom/example/restate/restate/model/AmountColumn;" (.ref y)) :
    ot l Z (⟨"com/example/restate/restate/model/CensusColumns", "otherAnnualAdditions", "()Lcom/example/restate/restate/model/AmountColumn;"⟩ : MethodName) prog_32_method_18_code 1 (some (.object "com/example/restate/restate/model/AmountColumn")) ws ({ frames := 0, cells := 0, slots := 0, locals := 0 } : Room) #[(.ref a0)] h0 (oiB Z a0 y h0 n0) := by
  refine ou (plainFor_of_name oad) (fun m => oiA m a0) ?_
  intro p e s m below meth c ab Bd hml hx hby hlk hown hnm hZ X0 e0
  have hd := oq oiz hby
  have N0 := Fr.nil n0
  have K0 : Keep h0 h0 [] := Keep.refl _ _
  refine oc X0 hx (hd 0 rfl) rfl rfl ?_
  refine oi (getF X0 hx hZ hown (host := "") (Or.inl (hw 114 rfl)) Via.refl e0 aa rfl rfl (hd 1 rfl)) fun T1 X1 e1 => ?_
  exact oO X1 hx hlk (by decide) (by decide) Bd.returns rfl rfl (hd 2 rfl) (by rw [e1]; exact ⟨rfl, N0, rfl⟩)
theorem ocq (hw : oo Z aw) (ws : List Jvm.Cond) (a0 : Addr) (j : Nat) (lc : Nat) (xs : List Int64) (h0 : Heap) (n0 : Nat) (Z0 : n0 ≤ h0.size) (aa : Fld Z h0 a0 "com/example/restate/restate/model/CensusColumns" "lineOffsets" "Lcom/example/restate/restate/model/LongColumn;" (.ref lc)) (C : oX Z h0 lc n0 xs) (hj : j < xs.length) (ag : j < 16) :
    ot l Z (⟨"com/example/restate/restate/model/CensusColumns", "line", "(I)J"⟩ : MethodName) prog_32_method_7_code 2 (some .long) ws ({ frames := 1, cells := 0, slots := 0, locals := 15 } : Room) #[(.ref a0), (.int (Int32.ofNat j))] h0 (oiF Z a0 j lc xs h0 n0) := by
  refine ou (plainFor_of_name oad) (fun m => oiE m a0 (Int32.ofNat j)) ?_
  intro p e s m below meth c ah Bd hml hx hby hlk hown hnm hZ X0 e0
  have hd := oq oiD hby
  have N0 := Fr.nil n0
  have K0 : Keep h0 h0 [] := Keep.refl _ _
  have ab := C.1
  refine oc X0 hx (hd 0 rfl) rfl rfl ?_
  refine oi (getF X0 hx hZ hown (host := "") (Or.inl (hw 40 rfl)) Via.refl e0 aa rfl rfl (hd 1 rfl)) fun T1 X1 e1 => ?_
  refine oj X1 hx (hd 2 rfl) rfl ?_
  refine oB X1 hx hZ hown (hw 621 rfl) (hw 622 rfl) (hw 624 rfl) (hw 623 rfl) (hw 625 rfl) (hw 35 rfl) (by decide) (oiO l Z aw hw [] lc j xs h0 n0 Z0 C hj ag) e1 ab hml rfl rfl (rest := []) rfl (lenOf oa1 rfl) (hd 3 rfl) rfl fun T2 ai v2 X2 af => ?_
  obtain ⟨rfl, ac, e2⟩ := af
  have ae := Fr.app N0 ac
  refine oj X2 hx (hd 4 rfl) rfl ?_
  refine og (S' := [(.long ((Int32.ofNat j).toInt64)), (.long (xs.getD j 0))])  (fun _ k => XS.i2l X2.here hx rfl (hd 5 rfl) rfl k) ?_
  refine og (S' := [(.long ((xs.getD j 0) + ((Int32.ofNat j).toInt64)))])  (fun _ k => XS.ladd X2.here hx rfl (hd 6 rfl) rfl k) ?_
  exact oaw X2 hx hlk (by decide) (by decide) Bd.returns (hd 7 rfl) (by rw [e2]; exact ⟨rfl, ae, rfl⟩)
theorem ojZ (hw : oo Z aw) (ws : List Jvm.Cond) (q0 : Int64) (q1 : Int64) (p2 : Int32) (kk : ov) (h0 : Heap) (n0 : Nat) (Z0 : n0 ≤ h0.size) (J0 : oy Z h0 n0 kk) :
    MetFree l x (head1 (Jvm.Cond.code x code maxLocals ret :: ws) room_1) (fun a U => a = #[(.long q0), (.long q1), (.int p2)] ∧ Z.Warmed39 U.vm ∧ U.heap = h0 ∧ CHv Z oan U.vm h0) (fun _ _ _ _ _ => True) (fun _ U o U' => ∃ v L, o = .returned v ∧ obm Z q0 q1 p2 kk h0 n0 v U'.heap L ∧ ReturnedEndW U o U' L room_1.cells room_1.slots) := by
  refine MetFree.of_bodySF (plainFor_of_name oiG) hisR ?_
  intro p e s m dJ below meth c a8 Bd hml0 hP hK
  obtain ⟨rfl, hZ, hh, hH⟩ := hP
  have hx := Bd.exec
  have hby := Bd.bytes
  have hlk : meth.locks = false := BodyLoose.notSynchronized Bd
  have hml : c.maxLocals = 8 := hml0
  have hown : s.vm.findClass "com/example/restate/restate/model/CensusColumnsLinePinLaw" = some m.cls := findClass_of_methodNamed Bd.named
  have hnm := (name_of_methodNamed Bd.named Bd.method).1
  have X0 : Stand p l e room_1 s m #[(.long q0), (.long q1), (.int p2)] below meth c a8 [] 0 0 := Stand.of_body Bd
  have e0 : a8.heap = h0 := by rw [← hh, Bd.state]; rfl
  have N0 := Fr.nil n0
  have K0 : Keep h0 h0 [] := Keep.refl _ _
  have cx : ∀ t, Steps p.tables e below (a8.setTop (mkF m 0 #[.val (.long q0), .second, .val (.long q1), .second, .val (.int p2), .unset, .unset, .unset] [])) t → Steps p.tables e below (a8.setTop (entryFrame m #[(.long q0), (.long q1), (.int p2)] maxLocals)) t := fun t k => castTop (oiH m q0 q1 p2) k
  show oe p.tables e below (obd s (obm Z q0 q1 p2 kk h0 n0) room_1.cells room_1.slots) (a8.setTop (entryFrame m #[(.long q0), (.long q1), (.int p2)] maxLocals))
  refine ow cx ?_
  refine oH X0 hx (hb hby at_0) rfl ?_
  refine ol (v := (.int (1 : Int32))) (fun _ k => XS.iconst X0.here hx rfl (hb hby at_2) k) ?_
  refine og (S' := [(.int (p2 &&& (1 : Int32)))])  (fun _ k => XS.iand X0.here hx rfl (hb hby at_3) rfl k) ?_
  have bD : ∀ (v : Int64), oe p.tables e below (obd s (obm Z q0 q1 p2 kk h0 n0) room_1.cells room_1.slots) (a8.setTop (mkF m 20 #[.val (.long q0), .second, .val (.long q1), .second, .val (.int p2), .unset, .unset, .unset] [(.long v)])) := by
    intro v
    refine oz (fun _ k => XS.lstore X0.here hx rfl (hb hby at_20) rfl (l' := #[.val (.long q0), .second, .val (.long q1), .second, .val (.int p2), .val (.long v), .second, .unset]) rfl k) ?_
    obtain ⟨T1, h1, X1, e1, E1, A1, D1, -, cV⟩ := newO X0 hx hZ hown (hw 0 rfl) (hw 1 rfl) (hw 2 rfl) e0 (g := (mkF m 22 #[.val (.long q0), .second, .val (.long q1), .second, .val (.int p2), .val (.long v), .second, .unset] [])) rfl (hb hby at_22) (by decide) (by decide)
    obtain ⟨b1, g1⟩ : ∃ z, z = h0.size := ⟨_, rfl⟩
    rw [← g1] at A1 D1 cV
    refine ow cV ?_
    have aT := om Z0 g1
    have bh := om K0.1 g1
    replace J0 := J0.keep (op E1) all0
    have cD := K0.ext E1
    have cM := Nat.le_trans Z0 E1.1
    have aB : Fld Z h1 b1 "com/example/restate/restate/model/CensusColumns" "lineOffsets" "Lcom/example/restate/restate/model/LongColumn;" .null := D1 (Or.inr (hw 41 rfl)) (ty := (.object "com/example/restate/restate/model/LongColumn")) (by decide)
    have aM : Fld Z h1 b1 "com/example/restate/restate/model/CensusColumns" "ids" "[C" .null := D1 (Or.inl (hw 44 rfl)) (ty := (.array .char)) (by decide)
    have aJ : Fld Z h1 b1 "com/example/restate/restate/model/CensusColumns" "idEnds" "[I" .null := D1 (Or.inl (hw 47 rfl)) (ty := (.array .int)) (by decide)
    have aK : Fld Z h1 b1 "com/example/restate/restate/model/CensusColumns" "group" "Lcom/example/restate/restate/model/CensusColumns$Codes;" .null := D1 (Or.inr (hw 82 rfl)) (ty := (.object "com/example/restate/restate/model/CensusColumns$Codes")) (by decide)
    have aI : Fld Z h1 b1 "com/example/restate/restate/model/CensusColumns" "pension" "Lcom/example/restate/restate/model/CensusColumns$Codes;" .null := D1 (Or.inr (hw 84 rfl)) (ty := (.object "com/example/restate/restate/model/CensusColumns$Codes")) (by decide)
    have ay : Fld Z h1 b1 "com/example/restate/restate/model/CensusColumns" "yearEndStatus" "Lcom/example/restate/restate/model/CensusColumns$Codes;" .null := D1 (Or.inr (hw 86 rfl)) (ty := (.object "com/example/restate/restate/model/CensusColumns$Codes")) (by decide)
    have aA : Fld Z h1 b1 "com/example/restate/restate/model/CensusColumns" "segmentStart" "Lcom/example/restate/restate/model/CensusColumns$Codes;" .null := D1 (Or.inr (hw 88 rfl)) (ty := (.object "com/example/restate/restate/model/CensusColumns$Codes")) (by decide)
    have aD : Fld Z h1 b1 "com/example/restate/restate/model/CensusColumns" "segmentEnd" "Lcom/example/restate/restate/model/CensusColumns$Codes;" .null := D1 (Or.inr (hw 90 rfl)) (ty := (.object "com/example/restate/restate/model/CensusColumns$Codes")) (by decide)
    have aE : Fld Z h1 b1 "com/example/restate/restate/model/CensusColumns" "birthDate" "Lcom/example/restate/restate/model/CensusColumns$Codes;" .null := D1 (Or.inr (hw 92 rfl)) (ty := (.object "com/example/restate/restate/model/CensusColumns$Codes")) (by decide)
    have az : Fld Z h1 b1 "com/example/restate/restate/model/CensusColumns" "compensation" "Lcom/example/restate/restate/model/AmountColumn;" .null := D1 (Or.inr (hw 109 rfl)) (ty := (.object "com/example/restate/restate/model/AmountColumn")) (by decide)
    have aF : Fld Z h1 b1 "com/example/restate/restate/model/CensusColumns" "deferrals" "Lcom/example/restate/restate/model/AmountColumn;" .null := D1 (Or.inr (hw 111 rfl)) (ty := (.object "com/example/restate/restate/model/AmountColumn")) (by decide)
    have aH : Fld Z h1 b1 "com/example/restate/restate/model/CensusColumns" "catchUp" "Lcom/example/restate/restate/model/AmountColumn;" .null := D1 (Or.inr (hw 113 rfl)) (ty := (.object "com/example/restate/restate/model/AmountColumn")) (by decide)
    have ak : Fld Z h1 b1 "com/example/restate/restate/model/CensusColumns" "otherAnnualAdditions" "Lcom/example/restate/restate/model/AmountColumn;" .null := D1 (Or.inr (hw 115 rfl)) (ty := (.object "com/example/restate/restate/model/AmountColumn")) (by decide)
    have aN : Fld Z h1 b1 "com/example/restate/restate/model/CensusColumns" "pay" "Ljava/util/Map;" .null := D1 (Or.inr (hw 132 rfl)) (ty := (.object "java/util/Map")) (by decide)
    have av : Fld Z h1 b1 "com/example/restate/restate/model/CensusColumns" "amountColumns" "Ljava/util/List;" .null := D1 (Or.inr (hw 222 rfl)) (ty := (.object "java/util/List")) (by decide)
    have aL : Fld Z h1 b1 "com/example/restate/restate/model/CensusColumns" "size" "I" (.int (0 : Int32)) := D1 (Or.inl (hw 331 rfl)) (ty := .int) (by decide)
    show oe p.tables e below _ (T1.setTop (mkF m 25 #[.val (.long q0), .second, .val (.long q1), .second, .val (.int p2), .val (.long v), .second, .unset] [(.ref b1)]))
    refine og (S' := [(.ref b1), (.ref b1)])  (fun _ k => XS.dup X1.here hx rfl (hb hby at_25) rfl rfl k) ?_
    obtain ⟨T2, h2, X2, e2, E2, A2, D2, -, cW⟩ := newO X1 hx hZ hown (hw 3 rfl) (hw 4 rfl) (hw 5 rfl) e1 (g := (mkF m 26 #[.val (.long q0), .second, .val (.long q1), .second, .val (.int p2), .val (.long v), .second, .unset] [(.ref b1), (.ref b1)])) rfl (hb hby at_26) (by decide) (by decide)
    obtain ⟨b2, g2⟩ : ∃ z, z = h1.size := ⟨_, rfl⟩
    rw [← g2] at A2 D2 cW
    refine ow cW ?_
    have au := os A1.lt g2
    have bB := om cM g2
    have bE := om cD.1 g2
    replace J0 := J0.keep (op E2) all0
    replace A1 := A1.ext E2
    replace aB := aB.ext E2
    replace aM := aM.ext E2
    replace aJ := aJ.ext E2
    replace aK := aK.ext E2
    replace aI := aI.ext E2
    replace ay := ay.ext E2
    replace aA := aA.ext E2
    replace aD := aD.ext E2
    replace aE := aE.ext E2
    replace az := az.ext E2
    replace aF := aF.ext E2
    replace aH := aH.ext E2
    replace ak := ak.ext E2
    replace aN := aN.ext E2
    replace av := av.ext E2
    replace aL := aL.ext E2
    have df := cD.ext E2
    have cN := Nat.le_trans cM E2.1
    have aZ : Fld Z h2 b2 "java/util/AbstractList" "modCount" "I" (.int (0 : Int32)) := D2 (Or.inl (hw 25 rfl)) (ty := .int) (by decide)
    have aU : Fld Z h2 b2 "java/util/ArrayList" "elementData" "[Ljava/lang/Object;" .null := D2 (Or.inl (hw 28 rfl)) (ty := (.array (.object "java/lang/Object"))) (by decide)
    have a6 : Fld Z h2 b2 "java/util/ArrayList" "size" "I" (.int (0 : Int32)) := D2 (Or.inl (hw 211 rfl)) (ty := .int) (by decide)
    show oe p.tables e below _ (T2.setTop (mkF m 29 #[.val (.long q0), .second, .val (.long q1), .second, .val (.int p2), .val (.long v), .second, .unset] [(.ref b2), (.ref b1), (.ref b1)]))
    refine og (S' := [(.ref b2), (.ref b2), (.ref b1), (.ref b1)])  (fun _ k => XS.dup X2.here hx rfl (hb hby at_29) rfl rfl k) ?_
    refine oK X2 hx hZ hown (host := "") (Or.inl (hw 6 rfl)) (hw 7 rfl) (hw 8 rfl) (hw 5 rfl) rfl (by decide) (oci l Z aw hw [] b2 kk h2 n0 cN A2 aZ aU a6 bB J0) e2 hml rfl rfl (rest := [(.ref b2), (.ref b1), (.ref b1)]) rfl (lenOf oN rfl) (hb hby at_30) rfl fun T3 eg v3 X3 dO => ?_
    obtain ⟨rfl, dq, k3, Q3⟩ := dO
    have dx := Fr.app N0 dq
    replace J0 := J0.keep k3 (allS bB all0)
    replace A1 := A1.keep k3
    replace aB := aB.keep k3 (oa au)
    replace aM := aM.keep k3 (oa au)
    replace aJ := aJ.keep k3 (oa au)
    replace aK := aK.keep k3 (oa au)
    replace aI := aI.keep k3 (oa au)
    replace ay := ay.keep k3 (oa au)
    replace aA := aA.keep k3 (oa au)
    replace aD := aD.keep k3 (oa au)
    replace aE := aE.keep k3 (oa au)
    replace az := az.keep k3 (oa au)
    replace aF := aF.keep k3 (oa au)
    replace aH := aH.keep k3 (oa au)
    replace ak := ak.keep k3 (oa au)
    replace aN := aN.keep k3 (oa au)
    replace av := av.keep k3 (oa au)
    replace aL := aL.keep k3 (oa au)
    replace A2 := A2.keep k3
    have dg := df.trans k3 (allS (Or.inr bE) all0)
    have cO := Nat.le_trans cN k3.1
    obtain ⟨-, da, ef, db⟩ := Q3
    refine oK X3 hx hZ hown (host := "") (Or.inl (hw 29 rfl)) (hw 30 rfl) (hw 31 rfl) (hw 2 rfl) rfl (by decide) (ojl l Z aw hw [] b1 b2 kk (T3.heap) n0 cO A1 aB aM aJ aK aI ay aA aD aE az aF aH ak av aN aL aT A2 da db (Ne.symm (od au)) J0) rfl hml rfl rfl (rest := [(.ref b1)]) rfl (lenOf obQ rfl) (hb hby at_33) rfl fun T4 eh v4 X4 dP => ?_
    obtain ⟨rfl, dr, k4, A, bo⟩ := dP
    have dy := Fr.app dx dr
    replace J0 := J0.keep k4 (allS aT all0)
    have cE := dg.trans k4 (allS (Or.inr bh) all0)
    have dI := Nat.le_trans cO k4.1
    have O0 := bo.1
    refine oz (fun _ k => XS.astore X4.here hx rfl (hb hby at_36) rfl rfl (l' := #[.val (.long q0), .second, .val (.long q1), .second, .val (.int p2), .val (.long v), .second, .val (.ref b1)]) rfl k) ?_
    refine oM X4 hx (hb hby at_38) rfl rfl ?_
    refine ol (fun _ k => XS.lloadN X4.here hx rfl (hb hby at_40) rfl k) ?_
    have cX : CHv Z oan s.vm T4.heap := CHv.keep cE (fun _ q => nomatch q) hH
    obtain ⟨cQ, T5, h5, es, d9, d4, X5, e5, E5, dU, dX, hZ, hown, cY, c8, dc, dG, -, -, C1, -, d7, ec⟩ := ldcCH (s := s) (vm0 := s.vm) (EL := oan) X4 hx hZ hown (hw 317 rfl) (oca hw) rfl ((State.WarmedH.refl s).since 0) (Nat.zero_le _) (obl hw) (List.mem_of_getElem? (i := 0) rfl) cX (vs := []) (z := (0 : Int32)) ⟨(fun c hc => nomatch hc), rfl⟩ (by decide) (by decide) (g := (mkF m 41 #[.val (.long q0), .second, .val (.long q1), .second, .val (.int p2), .val (.long v), .second, .val (.ref b1)] [(.long q0), (.ref b1)])) rfl (hb hby at_41) (n := 0) (by decide) (by decide) (by decide) (by decide)
    refine ow ec ?_
    replace J0 := J0.keep (op E5) all0
    have cP := Nat.le_trans dI E5.1
    have bf := bo.ext0 E5
    have cy : ∀ x : Nat, b1 ≤ x → x < A 28 → Safe Z oan T5.vm h5 x := fun x h1 h2 => ocE hH cE C1 (Nat.le_trans bh h1) (Nat.lt_of_lt_of_le h2 (O0.hi 28 rfl))
    obtain ⟨dZ, d1⟩ := obt cy d7
    show oe p.tables e below _ (T5.setTop (mkF m 43 #[.val (.long q0), .second, .val (.long q1), .second, .val (.int p2), .val (.long v), .second, .val (.ref b1)] [(.ref cQ), (.long q0), (.ref b1)]))
    refine ol (fun _ k => XS.aconstNull X5.here hx rfl (hb hby at_43) k) ?_
    refine ol (fun _ k => XS.aconstNull X5.here hx rfl (hb hby at_44) k) ?_
    refine ol (fun _ k => XS.aconstNull X5.here hx rfl (hb hby at_45) k) ?_
    refine ol (fun _ k => XS.aconstNull X5.here hx rfl (hb hby at_46) k) ?_
    refine ol (fun _ k => XS.aconstNull X5.here hx rfl (hb hby at_47) k) ?_
    refine ol (fun _ k => XS.aconstNull X5.here hx rfl (hb hby at_48) k) ?_
    have bI := bf.2.1
    refine oB X5 hx hZ hown (hw 325 rfl) (hw 326 rfl) (hw 328 rfl) (hw 327 rfl) (hw 329 rfl) (hw 2 rfl) (by decide) (ojT l Z aw hw [] b1 q0 cQ kk A d9 d4 h5 n0 cP bf cY c8 dc dG dZ d1 aT J0) e5 bI hml rfl rfl (rest := []) rfl (lenOf ocb rfl) (hb hby at_49) rfl fun T6 ej v6 X6 dQ => ?_
    obtain ⟨rfl, ds, k6, bF⟩ := dQ
    have dz := Fr.app dy ds
    have ck := Nat.le_trans cP k6.size
    replace J0 := J0.keepI k6 aT
    obtain ⟨O, aP, ag, aG, aq, ax, ap, ae, af, ai, aj, ab, ah, ao, aa, ac, aC, PL, ⟨kI, vI, oI, bc⟩, ⟨kE, vE, oE, bd, d6, dW⟩, ba, bb, aV, aW, aX, aY, bx, be, a7, a5, a9⟩ := bF
    refine oM X6 hx (hb hby at_52) rfl rfl ?_
    refine oB X6 hx hZ hown (hw 557 rfl) (hw 558 rfl) (hw 560 rfl) (hw 559 rfl) (hw 561 rfl) (hw 2 rfl) (by decide) (ojV l Z aw hw [] b1 (A 18) (T6.heap) n0 ck ab) rfl aP hml rfl rfl (rest := []) rfl (lenOf oa4 rfl) (hb hby at_54) rfl fun T7 em v7 X7 dR => ?_
    obtain ⟨rfl, dt, e7⟩ := dR
    have dA := Fr.app dz dt
    refine ol (v := (.long (0 : Int64))) (fun _ k => XS.lconst X7.here hx rfl (hb hby at_57) k) ?_
    have bq := bx.exa
    refine oB X7 hx hZ hown (hw 562 rfl) (hw 563 rfl) (hw 565 rfl) (hw 564 rfl) (hw 566 rfl) (hw 95 rfl) (by decide) (oba l Z aw hw [] (A 18) (A 19) (T6.heap) n0 ck bx (Nat.le_trans aT (Nat.le_of_lt (O.gt0 18 rfl)))) e7 bq hml rfl rfl (rest := []) rfl (lenOf oaa rfl) (hb hby at_58) rfl fun T8 en v8 X8 dS => ?_
    obtain ⟨rfl, du, k8, M8⟩ := dS
    have dB := Fr.app dA du
    have cm := Nat.le_trans ck k8.size
    replace J0 := J0.keepI k8 (Nat.le_trans aT (Nat.le_of_lt (O.gt0 18 rfl)))
    replace aP := oW aP k8
    replace ag := oh ag k8 (Or.inl (O.gt0 18 rfl))
    replace aG := oh aG k8 (Or.inl (O.gt0 18 rfl))
    replace aq := oh aq k8 (Or.inl (O.gt0 18 rfl))
    replace ax := oh ax k8 (Or.inl (O.gt0 18 rfl))
    replace ap := oh ap k8 (Or.inl (O.gt0 18 rfl))
    replace ae := oh ae k8 (Or.inl (O.gt0 18 rfl))
    replace af := oh af k8 (Or.inl (O.gt0 18 rfl))
    replace ai := oh ai k8 (Or.inl (O.gt0 18 rfl))
    replace aj := oh aj k8 (Or.inl (O.gt0 18 rfl))
    replace ab := oh ab k8 (Or.inl (O.gt0 18 rfl))
    replace ah := oh ah k8 (Or.inl (O.gt0 18 rfl))
    replace ao := oh ao k8 (Or.inl (O.gt0 18 rfl))
    replace aa := oh aa k8 (Or.inl (O.gt0 18 rfl))
    replace ac := oh ac k8 (Or.inl (O.gt0 18 rfl))
    replace aC := oh aC k8 (Or.inl (O.gt0 18 rfl))
    replace bc := oR bc k8 (Or.inl (O.lt 2 18 rfl))
    replace bd := oR bd k8 (Or.inl (O.lt 4 18 rfl))
    replace ba := ba.keepI k8 ⟨(Or.inr (O.le 7 18 rfl)), (O.le 19 28 rfl)⟩
    replace bb := bb.keepI k8 ⟨(Or.inr (O.le 9 18 rfl)), (O.le 19 28 rfl)⟩
    replace aV := aV.keepI k8 ⟨(Or.inr (O.le 11 18 rfl)), (O.le 19 28 rfl)⟩
    replace aW := aW.keepI k8 ⟨(Or.inr (O.le 13 18 rfl)), (O.le 19 28 rfl)⟩
    replace aX := aX.keepI k8 ⟨(Or.inr (O.le 15 18 rfl)), (O.le 19 28 rfl)⟩
    replace aY := aY.keepI k8 ⟨(Or.inr (O.le 17 18 rfl)), (O.le 19 28 rfl)⟩
    replace be := be.keepI k8 (Or.inl (O.le 19 20 rfl))
    replace a7 := a7.keepI k8 (Or.inl (O.le 19 22 rfl))
    replace a5 := a5.keepI k8 (Or.inl (O.le 19 24 rfl))
    replace a9 := a9.keepI k8 (Or.inl (O.le 19 26 rfl))
    replace PL := PL.keepI k8 (Or.inr (O.le 1 18 rfl))
    have bJ := k6.transI k8 (Or.inl ⟨(Nat.le_of_lt (O.gt0 18 rfl)), (O.le 19 28 rfl)⟩)
    replace O := O.mono k8.size
    refine oM X8 hx (hb hby at_61) rfl rfl ?_
    refine oB X8 hx hZ hown (hw 574 rfl) (hw 575 rfl) (hw 577 rfl) (hw 576 rfl) (hw 578 rfl) (hw 2 rfl) (by decide) (ojW l Z aw hw [] b1 (A 20) (T8.heap) n0 cm ah) rfl aP hml rfl rfl (rest := []) rfl (lenOf oa4 rfl) (hb hby at_63) rfl fun T9 eo v9 X9 dT => ?_
    obtain ⟨rfl, dw, e9⟩ := dT
    have dC := Fr.app dB dw
    refine ol (v := (.long (0 : Int64))) (fun _ k => XS.lconst X9.here hx rfl (hb hby at_66) k) ?_
    have br := be.exa
    refine oB X9 hx hZ hown (hw 562 rfl) (hw 563 rfl) (hw 565 rfl) (hw 564 rfl) (hw 566 rfl) (hw 95 rfl) (by decide) (oba l Z aw hw [] (A 20) (A 21) (T8.heap) n0 cm be (Nat.le_trans aT (Nat.le_of_lt (O.gt0 20 rfl)))) e9 br hml rfl rfl (rest := []) rfl (lenOf oaa rfl) (hb hby at_67) rfl fun cF dh et cI cn => ?_
    obtain ⟨rfl, bL, aQ, bi⟩ := cn
    have bT := Fr.app dC bL
    have bk := Nat.le_trans cm aQ.size
    replace J0 := J0.keepI aQ (Nat.le_trans aT (Nat.le_of_lt (O.gt0 20 rfl)))
    replace aP := oW aP aQ
    replace ag := oh ag aQ (Or.inl (O.gt0 20 rfl))
    replace aG := oh aG aQ (Or.inl (O.gt0 20 rfl))
    replace aq := oh aq aQ (Or.inl (O.gt0 20 rfl))
    replace ax := oh ax aQ (Or.inl (O.gt0 20 rfl))
    replace ap := oh ap aQ (Or.inl (O.gt0 20 rfl))
    replace ae := oh ae aQ (Or.inl (O.gt0 20 rfl))
    replace af := oh af aQ (Or.inl (O.gt0 20 rfl))
    replace ai := oh ai aQ (Or.inl (O.gt0 20 rfl))
    replace aj := oh aj aQ (Or.inl (O.gt0 20 rfl))
    replace ab := oh ab aQ (Or.inl (O.gt0 20 rfl))
    replace ah := oh ah aQ (Or.inl (O.gt0 20 rfl))
    replace ao := oh ao aQ (Or.inl (O.gt0 20 rfl))
    replace aa := oh aa aQ (Or.inl (O.gt0 20 rfl))
    replace ac := oh ac aQ (Or.inl (O.gt0 20 rfl))
    replace aC := oh aC aQ (Or.inl (O.gt0 20 rfl))
    replace bc := oR bc aQ (Or.inl (O.lt 2 20 rfl))
    replace bd := oR bd aQ (Or.inl (O.lt 4 20 rfl))
    replace ba := ba.keepI aQ ⟨(Or.inr (O.le 7 20 rfl)), (O.le 21 28 rfl)⟩
    replace bb := bb.keepI aQ ⟨(Or.inr (O.le 9 20 rfl)), (O.le 21 28 rfl)⟩
    replace aV := aV.keepI aQ ⟨(Or.inr (O.le 11 20 rfl)), (O.le 21 28 rfl)⟩
    replace aW := aW.keepI aQ ⟨(Or.inr (O.le 13 20 rfl)), (O.le 21 28 rfl)⟩
    replace aX := aX.keepI aQ ⟨(Or.inr (O.le 15 20 rfl)), (O.le 21 28 rfl)⟩
    replace aY := aY.keepI aQ ⟨(Or.inr (O.le 17 20 rfl)), (O.le 21 28 rfl)⟩
    replace a7 := a7.keepI aQ (Or.inl (O.le 21 22 rfl))
    replace a5 := a5.keepI aQ (Or.inl (O.le 21 24 rfl))
    replace a9 := a9.keepI aQ (Or.inl (O.le 21 26 rfl))
    replace PL := PL.keepI aQ (Or.inr (O.le 1 20 rfl))
    replace M8 := M8.keepI aQ (Or.inr (O.le 19 20 rfl))
    have bu := bJ.transI aQ (Or.inl ⟨(Nat.le_of_lt (O.gt0 20 rfl)), (O.le 21 28 rfl)⟩)
    replace O := O.mono aQ.size
    refine oM cI hx (hb hby at_70) rfl rfl ?_
    refine oB cI hx hZ hown (hw 579 rfl) (hw 580 rfl) (hw 582 rfl) (hw 581 rfl) (hw 583 rfl) (hw 2 rfl) (by decide) (ojX l Z aw hw [] b1 (A 22) (cF.heap) n0 bk ao) rfl aP hml rfl rfl (rest := []) rfl (lenOf oa4 rfl) (hb hby at_72) rfl fun ep di eu cJ co => ?_
    obtain ⟨rfl, bM, dK⟩ := co
    have bU := Fr.app bT bM
    refine ol (v := (.long (0 : Int64))) (fun _ k => XS.lconst cJ.here hx rfl (hb hby at_75) k) ?_
    have bs := a7.exa
    refine oB cJ hx hZ hown (hw 562 rfl) (hw 563 rfl) (hw 565 rfl) (hw 564 rfl) (hw 566 rfl) (hw 95 rfl) (by decide) (oba l Z aw hw [] (A 22) (A 23) (cF.heap) n0 bk a7 (Nat.le_trans aT (Nat.le_of_lt (O.gt0 22 rfl)))) dK bs hml rfl rfl (rest := []) rfl (lenOf oaa rfl) (hb hby at_76) rfl fun cG dj ew cK cp => ?_
    obtain ⟨rfl, bN, aR, bw⟩ := cp
    have bV := Fr.app bU bN
    have bl := Nat.le_trans bk aR.size
    replace J0 := J0.keepI aR (Nat.le_trans aT (Nat.le_of_lt (O.gt0 22 rfl)))
    replace aP := oW aP aR
    replace ag := oh ag aR (Or.inl (O.gt0 22 rfl))
    replace aG := oh aG aR (Or.inl (O.gt0 22 rfl))
    replace aq := oh aq aR (Or.inl (O.gt0 22 rfl))
    replace ax := oh ax aR (Or.inl (O.gt0 22 rfl))
    replace ap := oh ap aR (Or.inl (O.gt0 22 rfl))
    replace ae := oh ae aR (Or.inl (O.gt0 22 rfl))
    replace af := oh af aR (Or.inl (O.gt0 22 rfl))
    replace ai := oh ai aR (Or.inl (O.gt0 22 rfl))
    replace aj := oh aj aR (Or.inl (O.gt0 22 rfl))
    replace ab := oh ab aR (Or.inl (O.gt0 22 rfl))
    replace ah := oh ah aR (Or.inl (O.gt0 22 rfl))
    replace ao := oh ao aR (Or.inl (O.gt0 22 rfl))
    replace aa := oh aa aR (Or.inl (O.gt0 22 rfl))
    replace ac := oh ac aR (Or.inl (O.gt0 22 rfl))
    replace aC := oh aC aR (Or.inl (O.gt0 22 rfl))
    replace bc := oR bc aR (Or.inl (O.lt 2 22 rfl))
    replace bd := oR bd aR (Or.inl (O.lt 4 22 rfl))
    replace ba := ba.keepI aR ⟨(Or.inr (O.le 7 22 rfl)), (O.le 23 28 rfl)⟩
    replace bb := bb.keepI aR ⟨(Or.inr (O.le 9 22 rfl)), (O.le 23 28 rfl)⟩
    replace aV := aV.keepI aR ⟨(Or.inr (O.le 11 22 rfl)), (O.le 23 28 rfl)⟩
    replace aW := aW.keepI aR ⟨(Or.inr (O.le 13 22 rfl)), (O.le 23 28 rfl)⟩
    replace aX := aX.keepI aR ⟨(Or.inr (O.le 15 22 rfl)), (O.le 23 28 rfl)⟩
    replace aY := aY.keepI aR ⟨(Or.inr (O.le 17 22 rfl)), (O.le 23 28 rfl)⟩
    replace a5 := a5.keepI aR (Or.inl (O.le 23 24 rfl))
    replace a9 := a9.keepI aR (Or.inl (O.le 23 26 rfl))
    replace PL := PL.keepI aR (Or.inr (O.le 1 22 rfl))
    replace M8 := M8.keepI aR (Or.inr (O.le 19 22 rfl))
    replace bi := bi.keepI aR (Or.inr (O.le 21 22 rfl))
    have bv := bu.transI aR (Or.inl ⟨(Nat.le_of_lt (O.gt0 22 rfl)), (O.le 23 28 rfl)⟩)
    replace O := O.mono aR.size
    refine oM cK hx (hb hby at_79) rfl rfl ?_
    refine oB cK hx hZ hown (hw 584 rfl) (hw 585 rfl) (hw 587 rfl) (hw 586 rfl) (hw 588 rfl) (hw 2 rfl) (by decide) (ojY l Z aw hw [] b1 (A 24) (cG.heap) n0 bl aa) rfl aP hml rfl rfl (rest := []) rfl (lenOf oa4 rfl) (hb hby at_81) rfl fun er dk ex cL cr => ?_
    obtain ⟨rfl, bO, dL⟩ := cr
    have bW := Fr.app bV bO
    refine ol (v := (.long (0 : Int64))) (fun _ k => XS.lconst cL.here hx rfl (hb hby at_84) k) ?_
    have bt := a5.exa
    refine oB cL hx hZ hown (hw 562 rfl) (hw 563 rfl) (hw 565 rfl) (hw 564 rfl) (hw 566 rfl) (hw 95 rfl) (by decide) (oba l Z aw hw [] (A 24) (A 25) (cG.heap) n0 bl a5 (Nat.le_trans aT (Nat.le_of_lt (O.gt0 24 rfl)))) dL bt hml rfl rfl (rest := []) rfl (lenOf oaa rfl) (hb hby at_85) rfl fun dD dl ey cg ct => ?_
    obtain ⟨rfl, bP, aS, bK⟩ := ct
    have bX := Fr.app bW bP
    have cj := Nat.le_trans bl aS.size
    replace J0 := J0.keepI aS (Nat.le_trans aT (Nat.le_of_lt (O.gt0 24 rfl)))
    replace aP := oW aP aS
    replace ag := oh ag aS (Or.inl (O.gt0 24 rfl))
    replace aG := oh aG aS (Or.inl (O.gt0 24 rfl))
    replace aq := oh aq aS (Or.inl (O.gt0 24 rfl))
    replace ax := oh ax aS (Or.inl (O.gt0 24 rfl))
    replace ap := oh ap aS (Or.inl (O.gt0 24 rfl))
    replace ae := oh ae aS (Or.inl (O.gt0 24 rfl))
    replace af := oh af aS (Or.inl (O.gt0 24 rfl))
    replace ai := oh ai aS (Or.inl (O.gt0 24 rfl))
    replace aj := oh aj aS (Or.inl (O.gt0 24 rfl))
    replace ab := oh ab aS (Or.inl (O.gt0 24 rfl))
    replace ah := oh ah aS (Or.inl (O.gt0 24 rfl))
    replace ao := oh ao aS (Or.inl (O.gt0 24 rfl))
    replace aa := oh aa aS (Or.inl (O.gt0 24 rfl))
    replace ac := oh ac aS (Or.inl (O.gt0 24 rfl))
    replace aC := oh aC aS (Or.inl (O.gt0 24 rfl))
    replace bc := oR bc aS (Or.inl (O.lt 2 24 rfl))
    replace bd := oR bd aS (Or.inl (O.lt 4 24 rfl))
    replace ba := ba.keepI aS ⟨(Or.inr (O.le 7 24 rfl)), (O.le 25 28 rfl)⟩
    replace bb := bb.keepI aS ⟨(Or.inr (O.le 9 24 rfl)), (O.le 25 28 rfl)⟩
    replace aV := aV.keepI aS ⟨(Or.inr (O.le 11 24 rfl)), (O.le 25 28 rfl)⟩
    replace aW := aW.keepI aS ⟨(Or.inr (O.le 13 24 rfl)), (O.le 25 28 rfl)⟩
    replace aX := aX.keepI aS ⟨(Or.inr (O.le 15 24 rfl)), (O.le 25 28 rfl)⟩
    replace aY := aY.keepI aS ⟨(Or.inr (O.le 17 24 rfl)), (O.le 25 28 rfl)⟩
    replace a9 := a9.keepI aS (Or.inl (O.le 25 26 rfl))
    replace PL := PL.keepI aS (Or.inr (O.le 1 24 rfl))
    replace M8 := M8.keepI aS (Or.inr (O.le 19 24 rfl))
    replace bi := bi.keepI aS (Or.inr (O.le 21 24 rfl))
    replace bw := bw.keepI aS (Or.inr (O.le 23 24 rfl))
    have bg := bv.transI aS (Or.inl ⟨(Nat.le_of_lt (O.gt0 24 rfl)), (O.le 25 28 rfl)⟩)
    replace O := O.mono aS.size
    refine oM cg hx (hb hby at_88) rfl rfl ?_
    refine ol (fun _ k => XS.lload cg.here hx rfl (hb hby at_90) rfl k) ?_
    have bp := ocF C1.1 bg cy
    have bH : CHv Z oan T5.vm dD.heap := bp.1
    obtain ⟨cR, cH, bC, d3, ea, d5, bj, dM, aO, dV, dY, hZ, hown, cZ, c9, dd, dH, -, -, C2, -, d8, cz⟩ := ldcCH (s := s) (vm0 := T5.vm) (EL := oan) cg hx hZ hown (hw 317 rfl) (oca hw) rfl dU (Nat.le_trans dX bg.size) (obl hw) (List.mem_of_getElem? (i := 0) rfl) bH (vs := []) (z := (0 : Int32)) ⟨(fun c hc => nomatch hc), rfl⟩ (by decide) (by decide) (g := (mkF m 92 #[.val (.long q0), .second, .val (.long q1), .second, .val (.int p2), .val (.long v), .second, .val (.ref b1)] [(.long v), (.ref b1)])) rfl (hb hby at_92) (n := 0) (by decide) (by decide) (by decide) (by decide)
    refine ow cz ?_
    replace J0 := J0.keep (op aO) all0
    replace aP := aP.ext aO
    replace ag := ag.ext aO
    replace aG := aG.ext aO
    replace aq := aq.ext aO
    replace ax := ax.ext aO
    replace ap := ap.ext aO
    replace ae := ae.ext aO
    replace af := af.ext aO
    replace ai := ai.ext aO
    replace aj := aj.ext aO
    replace ab := ab.ext aO
    replace ah := ah.ext aO
    replace ao := ao.ext aO
    replace aa := aa.ext aO
    replace ac := ac.ext aO
    replace aC := aC.ext aO
    replace bc := bc.ext aO
    replace bd := bd.ext aO
    replace ba := ba.keep (op aO) all0
    replace bb := bb.keep (op aO) all0
    replace aV := aV.keep (op aO) all0
    replace aW := aW.keep (op aO) all0
    replace aX := aX.keep (op aO) all0
    replace aY := aY.keep (op aO) all0
    replace a9 := a9.keep (op aO) all0
    replace PL := PL.keep (op aO) all0
    replace M8 := M8.keep (op aO) all0
    replace bi := bi.keep (op aO) all0
    replace bw := bw.keep (op aO) all0
    replace bK := bK.keep (op aO) all0
    have bz := Nat.le_trans cj aO.1
    have eb : ∀ x : Nat, b1 ≤ x → x < A 28 → Safe Z oan cH.vm bC x := fun x h1 h2 => C2.safe (Nat.lt_of_lt_of_le h2 (O.hi 28 rfl)) (bp.2 x (cy x h1 h2))
    replace O := O.mono aO.1
    obtain ⟨d0, d2⟩ := obt eb d8
    show oe p.tables e below _ (cH.setTop (mkF m 94 #[.val (.long q0), .second, .val (.long q1), .second, .val (.int p2), .val (.long v), .second, .val (.ref b1)] [(.ref cR), (.long v), (.ref b1)]))
    refine ol (fun _ k => XS.aconstNull bj.here hx rfl (hb hby at_94) k) ?_
    refine ol (fun _ k => XS.aconstNull bj.here hx rfl (hb hby at_95) k) ?_
    refine ol (fun _ k => XS.aconstNull bj.here hx rfl (hb hby at_96) k) ?_
    refine ol (fun _ k => XS.aconstNull bj.here hx rfl (hb hby at_97) k) ?_
    refine ol (fun _ k => XS.aconstNull bj.here hx rfl (hb hby at_98) k) ?_
    refine ol (fun _ k => XS.aconstNull bj.here hx rfl (hb hby at_99) k) ?_
    have bG : oao Z bC b1 A 1 1 (oZ Z bC kk.i0 (A 28) 1) (o3 Z bC 1 (q0 - (0 : Int64))) := ⟨O.mono (Nat.le_refl _), aP, ag, aG, aq, ax, ap, ae, af, ai, aj, ab, ah, ao, aa, ac, aC, PL, ⟨kI, vI, ⟨(O.lt 2 3 rfl), Nat.le_trans (O.hi 3 rfl) (Nat.le_refl _)⟩, bc⟩, ⟨kE, _, ⟨(O.lt 4 5 rfl), Nat.le_trans (O.hi 5 rfl) (Nat.le_refl _)⟩, bd, d6, dW⟩, ba, bb, aV, aW, aX, aY, M8, bi, bw, bK, a9⟩
    refine oB bj hx hZ hown (hw 325 rfl) (hw 326 rfl) (hw 328 rfl) (hw 327 rfl) (hw 329 rfl) (hw 2 rfl) (by decide) (ojU l Z aw hw [] b1 v cR kk A ea d5 (q0 - (0 : Int64)) bC n0 bz bG cZ c9 dd dH d0 d2 aT J0) dM aP hml rfl rfl (rest := []) rfl (lenOf ocb rfl) (hb hby at_100) rfl fun ce dm ez ci cu => ?_
    obtain ⟨rfl, bQ, cU, cA, cC, Cw⟩ := cu
    have bY := Fr.app bX bQ
    have bA := Nat.le_trans bz cU.size
    have Cc : oX Z ce.heap (A 0) n0 ([(q0 - (0 : Int64))] ++ [v - (1 : Int64)]) := Cw.2.mono (Nat.le_trans aT (Nat.le_of_lt (O.gt0 28 rfl)))
    refine oM ci hx (hb hby at_103) rfl rfl ?_
    refine ol (v := (.int (0 : Int32))) (fun _ k => XS.iconst ci.here hx rfl (hb hby at_105) k) ?_
    refine oB ci hx hZ hown (hw 616 rfl) (hw 617 rfl) (hw 619 rfl) (hw 618 rfl) (hw 620 rfl) (hw 2 rfl) (by decide) (ocq l Z aw hw [] b1 0 (A 0) ([(q0 - (0 : Int64))] ++ [v - (1 : Int64)]) (ce.heap) n0 bA cC Cc (by simp) (by decide)) rfl cA hml rfl rfl (rest := []) rfl (lenOf oa1 rfl) (hb hby at_106) rfl fun dE dn eA bm cv => ?_
    obtain ⟨rfl, bR, dN⟩ := cv
    have bZ := Fr.app bY bR
    show oe p.tables e below _ (dE.setTop (mkF m 109 #[.val (.long q0), .second, .val (.long q1), .second, .val (.int p2), .val (.long v), .second, .val (.ref b1)] [(.long (([(q0 - (0 : Int64))] ++ [v - (1 : Int64)]).getD 0 0 + ((Int32.ofNat 0).toInt64)))]))
    rw [show (([(q0 - (0 : Int64))] ++ [v - (1 : Int64)]).getD 0 0 + ((Int32.ofNat 0).toInt64)) = q0 from ocU _ _]
    refine ol (fun _ k => XS.lloadN bm.here hx rfl (hb hby at_109) rfl k) ?_
    refine og (S' := [(.int (lcmpW q0 q0))])  (fun _ k => XS.lcmp bm.here hx rfl (hb hby at_110) rfl k) ?_
    refine og (S' := [])  (fun _ k => XS.ifNo bm.here hx rfl (hb hby at_111) rfl ((if0 _ _).trans (teq ((oaq _ _).mpr rfl)).2) k) ?_
    refine oM bm hx (hb hby at_114) rfl rfl ?_
    refine ol (v := (.int (1 : Int32))) (fun _ k => XS.iconst bm.here hx rfl (hb hby at_116) k) ?_
    refine oB bm hx hZ hown (hw 616 rfl) (hw 617 rfl) (hw 619 rfl) (hw 618 rfl) (hw 620 rfl) (hw 2 rfl) (by decide) (ocq l Z aw hw [] b1 1 (A 0) ([(q0 - (0 : Int64))] ++ [v - (1 : Int64)]) (ce.heap) n0 bA cC Cc (by simp) (by decide)) dN cA hml rfl rfl (rest := []) rfl (lenOf oa1 rfl) (hb hby at_117) rfl fun dF dp eB bn cw => ?_
    obtain ⟨rfl, bS, cS⟩ := cw
    have b0 := Fr.app bZ bS
    show oe p.tables e below _ (dF.setTop (mkF m 120 #[.val (.long q0), .second, .val (.long q1), .second, .val (.int p2), .val (.long v), .second, .val (.ref b1)] [(.long (([(q0 - (0 : Int64))] ++ [v - (1 : Int64)]).getD 1 0 + ((Int32.ofNat 1).toInt64)))]))
    rw [show (([(q0 - (0 : Int64))] ++ [v - (1 : Int64)]).getD 1 0 + ((Int32.ofNat 1).toInt64)) = v from ocV _ _]
    refine ol (fun _ k => XS.lload bn.here hx rfl (hb hby at_120) rfl k) ?_
    refine og (S' := [(.int (lcmpW v v))])  (fun _ k => XS.lcmp bn.here hx rfl (hb hby at_122) rfl k) ?_
    refine og (S' := [])  (fun _ k => XS.ifNo bn.here hx rfl (hb hby at_123) rfl ((if0 _ _).trans (teq ((oaq _ _).mpr rfl)).2) k) ?_
    refine ol (v := (.int (1 : Int32))) (fun _ k => XS.iconst bn.here hx rfl (hb hby at_126) k) ?_
    refine oJ (fun _ k => XS.goto bn.here hx rfl (pc0 := 127) (pc' := 131) rfl (hb hby at_127) (by decide) (by decide) k) ?_
    exact ocD bn hx hlk dV (by rw [cS]; exact (Nat.le_trans dY cU.size)) (by decide) (by decide) (t := .boolean) Bd.returns (by simp) (hb hby at_131) (by rw [cS]; exact ⟨rfl, b0⟩)
  by_cases cT : (p2 &&& (1 : Int32)) = (0 : Int32)
  · refine og (S' := [])  (fun _ k => XS.ifNo X0.here hx rfl (hb hby at_4) rfl ((if0 _ _).trans (teq cT).2) k) ?_
    refine ol (fun _ k => XS.lloadN X0.here hx rfl (hb hby at_7) rfl k) ?_
    refine oJ (fun _ k => XS.goto X0.here hx rfl (pc0 := 8) (pc' := 20) rfl (hb hby at_8) (by decide) (by decide) k) ?_
    exact bD q1 
  · refine oC (S' := [])  (fun _ k => XS.ifYes X0.here hx rfl (pc0 := 4) (pc' := 11) rfl (hb hby at_4) rfl ((if0 _ _).trans (feq cT).2) (by decide) (by decide) k) ?_
    refine ol (fun _ k => XS.lloadN X0.here hx rfl (hb hby at_11) rfl k) ?_
    refine ol (v := (.long (1 : Int64))) (fun _ k => XS.lconst X0.here hx rfl (hb hby at_12) k) ?_
    refine og (S' := [(.long (q0 + (1 : Int64)))])  (fun _ k => XS.ladd X0.here hx rfl (hb hby at_13) rfl k) ?_
    refine oH X0 hx (hb hby at_14) rfl ?_
    refine ol (v := (.int (1 : Int32))) (fun _ k => XS.iconst X0.here hx rfl (hb hby at_16) k) ?_
    refine og (S' := [(.int (p2 >>> ((1 : Int32) &&& 31))), (.long (q0 + (1 : Int64)))])  (fun _ k => XS.ishr X0.here hx rfl (hb hby at_17) rfl k) ?_
    refine og (S' := [(.long ((p2 >>> ((1 : Int32) &&& 31)).toInt64)), (.long (q0 + (1 : Int64)))])  (fun _ k => XS.i2l X0.here hx rfl (hb hby at_18) rfl k) ?_
    refine og (S' := [(.long ((q0 + (1 : Int64)) + ((p2 >>> ((1 : Int32) &&& 31)).toInt64)))])  (fun _ k => XS.ladd X0.here hx rfl (hb hby at_19) rfl k) ?_
    exact bD ((q0 + (1 : Int64)) + ((p2 >>> ((1 : Int32) &&& 31)).toInt64)) 
end Walks
section Begin
variable {Z : State} {args : Array Value}
theorem oj0 {L : List Jvm.Cond} {t : Jvm.Cond} : (L.foldr Jvm.Cond.and t).before args Z = true → ∀ d ∈ L, d.before args Z = true := by
  induction L with
  | nil => exact fun _ d hd => nomatch hd
  | cons c L ih =>
    intro h d hd
    rw [List.foldr_cons, Cond.before_and, Bool.and_eq_true] at h
    rcases List.mem_cons.mp hd with rfl | hd
    · exact h.1
    · exact ih h.2 d hd
theorem ocr {idx : List Nat} {t : Term} {a : Addr} {cl : Cell} {n : Int32} (h : (Term.length t).eval args Z none idx Z = some (.int n)) (ht : t.eval args Z none idx Z = some (.ref a)) (ha : Z.arrayAt? a = some cl) : cl.slots.size < 2 ^ 31 ∧ cl.slots.size.toInt32 = n := by
  by_cases q : cl.slots.size < 2 ^ 31
  · have z := (len_f ht ha q).symm.trans h
    exact ⟨q, by simpa using z⟩
  · simp [Term.eval, ht, ha, q] at h
theorem ocs {c : Cell} : ∀ (l : List Value) (i : Nat), (∀ j, j < l.length → c.slots[i + j]? = l[j]?) → HasL c i l
  | [], _, _ => trivial
  | v :: r, i, H => ⟨H 0 (Nat.zero_lt_succ _), ocs r (i + 1) fun j h => by
      have q := H (j + 1) (Nat.succ_lt_succ h)
      rw [Nat.add_assoc, Nat.add_comm 1 j]; exact q⟩
theorem oj1 {idx : List Nat} {a b : Term} {x y : Int32} (ha : a.eval args Z none idx Z = some (.int x)) (hb : b.eval args Z none idx Z = some (.int y)) : (Term.sub a b).eval args Z none idx Z = some (.int (x - y)) := by simp [Term.eval, ha, hb]
theorem oj2 (hf : Fit Z) (hw : ∀ (i : Nat) {d : Jvm.Cond}, tables_1[i]? = some d → d.before args Z = true) (hr : ∀ d ∈ jdkStatics_1, d.before args Z = true) {m1 m2 m3 : Nat} (M1 : Mir Z "[Ljava/lang/Object;" m1) (M2 : Mir Z "java/util/ImmutableCollections$ListN" m2) (M3 : Mir Z "java/util/ArrayList" m3) : ∃ kk : ov, oy Z Z.heap Z.heap.size kk := by
  obtain ⟨de, ede⟩ := arr_v (Cond.before_iff.mp (hr _ (List.mem_of_getElem? (i := 6) rfl)))
  obtain ⟨cd, Ad⟩ := Arr.start ede (Cond.before_iff.mp (hr _ (List.mem_of_getElem? (i := 6) rfl)))
  obtain ⟨l1, l2⟩ := ocr (eqv_i (Term.int_eval 0) (Cond.before_iff.mp (hr _ (List.mem_of_getElem? (i := 8) rfl)))) ede (Ad.fin (Vm.Alike.refl _))
  have Vd : Arv Z Z.heap de cd.cls (.object "java/lang/Object") (0 : Int32) [] .null := Arv.start hf Ad l1 l2 (by decide) rfl trivial
  obtain ⟨cs, ecs⟩ := is_v (Cond.before_iff.mp (hr _ (List.mem_of_getElem? (i := 19) rfl)))
  have ncs : ¬ cs = 0 := gotF (Cond.eq_ints ecs (Term.int_eval 0)) (not_v (Cond.before_iff.mp (hr _ (List.mem_of_getElem? (i := 20) rfl))))
  obtain ⟨fm, efm, rfm⟩ := isR_v (Cond.before_iff.mp (hr _ (List.mem_of_getElem? (i := 26) rfl)))
  obtain ⟨ch, ech⟩ := arr_v (Cond.before_iff.mp (hr _ (List.mem_of_getElem? (i := 31) rfl)))
  obtain ⟨cc, Ac⟩ := Arr.start ech (Cond.before_iff.mp (hr _ (List.mem_of_getElem? (i := 31) rfl)))
  obtain ⟨l3, l4⟩ := ocr (eqv_i (Term.int_eval 256) (Cond.before_iff.mp (hr _ (List.mem_of_getElem? (i := 33) rfl)))) ech (Ac.fin (Vm.Alike.refl _))
  have ss : cc.slots.size = 256 := by
    have q := len_toInt l3
    rw [l4] at q
    have : ((256 : Int32).toInt) = 256 := by decide
    omega
  have Vc : Arv Z Z.heap ch cc.cls (.object "java/lang/Integer") (256 : Int32) cc.slots.toList .null := Arv.start hf Ac l3 l4 (by decide) (by rw [Array.length_toList, ss]; decide) (ocs _ _ fun j _ => by rw [Nat.zero_add, Array.getElem?_toList])
  have B : Bxs Z ch cc "java/lang/Integer" "I" (256 : Int32) (fun j => .int (j - 128)) := Bxs.start (fun _ => ech) Ac l3 l4 (by decide) (Cond.before_iff.mp (hr _ (List.mem_of_getElem? (i := 34) rfl))) (fun X j hj h => eqv_i (oj1 (idx_at hj) (Term.int_eval 128)) h)
  obtain ⟨i0, a0, E0, F0⟩ := B.2.2.2 (128 : Int32) (by rw [ss]; decide)
  have a1 : cc.slots.toList.getD 128 .null = .ref i0 := by
    rw [List.getD_eq_getElem?_getD, Array.getElem?_toList]
    rw [show (128 : Int32).toNatClampNeg = 128 by decide] at a0
    rw [a0]; rfl
  refine ⟨((de, ch, i0, m1), (m2, m3, cd.cls, cc.cls), (fm, cs, cc.slots.toList)), Z.heap, rfl, ⟨?_, Vd, ?_, ?_, ncs, ?_, ?_, ?_, Vc, a1, E0, ?_, M1, M2, M3, rfm⟩, Nat.le_refl _, fun _ _ q => q⟩
  · exact Sta.start ede (Or.inr ⟨(hw 5 rfl), (hr _ (List.mem_of_getElem? (i := 2) rfl))⟩)
  · exact Sta.start (eqv_i (Term.int_eval 1) (Cond.before_iff.mp (hr _ (List.mem_of_getElem? (i := 14) rfl)))) (Or.inl (hr _ (List.mem_of_getElem? (i := 13) rfl)))
  · exact Sta.start ecs (Or.inl (hr _ (List.mem_of_getElem? (i := 18) rfl)))
  · exact Sta.start efm (Or.inl (hr _ (List.mem_of_getElem? (i := 25) rfl)))
  · exact Sta.start (eqv_i (Term.int_eval 127) (Cond.before_iff.mp (hr _ (List.mem_of_getElem? (i := 30) rfl)))) (Or.inl (hr _ (List.mem_of_getElem? (i := 28) rfl)))
  · exact Sta.start ech (Or.inr ⟨(hw 466 rfl), (hr _ (List.mem_of_getElem? (i := 29) rfl))⟩)
  · exact F0
end Begin
set_option maxRecDepth 65536 in
set_option maxHeartbeats 40000000 in
theorem oct {Post : Tables → Env → Array Value → State → Outcome → State → Prop} (hpost : ∀ tb e args s v u, (limb_1_1.after args s (.returned v) u = true ∧ limb_1_2.after args s (.returned v) u = true ∧ True) → ReturnedEndW s (.returned v) u (Jvm.fieldLocs frame_1_writes args s ++ Jvm.arrayLocs frame_1_arrays args s ++ Jvm.staticLocs frame_1_statics s) 152 20416 → Post tb e args s (.returned v) u) :
    ArmFor flags0 classFile x code maxLocals ret World_1 tables_1 room_1 Calls_1 rest_1 Pre_1 Post := by
  intro l hfl _ _ p e ha hc hk s m args below hf hA hF happ hP
  obtain ⟨hcalls, hrest, hpre⟩ := hP
  obtain ⟨-, -, -, hnamed, -, -, -, hat⟩ := (Spec.applies_iff hf).mp happ
  obtain ⟨hg, hn⟩ := and_e (Cond.before_iff.mp (show (Jvm.Cond.and given_1 narrow_1).before args s = true from hpre))
  obtain ⟨g0, r0⟩ := and_e hg
  obtain ⟨g1, r1⟩ := and_e r0
  obtain ⟨g2, r2⟩ := and_e r1
  obtain ⟨w0, w1, w2, rfl⟩ : ∃ w0 w1 w2 : Value, args = #[w0, w1, w2] := by
    have hs : args.size = 3 := by simpa [Cond.value, given_1] using g0
    obtain ⟨L⟩ := args
    match L, hs with
    | [w0, w1, w2], _ => exact ⟨w0, w1, w2, rfl⟩
  have hw0 := fun d (hd : d ∈ tables_1) => atoms_spec (ws := Jvm.Cond.code x code maxLocals ret :: tables_1) hat d (List.mem_cons_of_mem _ hd)
  have hfit : Fit s := fun {y c} hc i hi => by
    obtain ⟨ha, rfl⟩ := Array.getElem?_eq_some_iff.mp hc
    have q := List.all_eq_true.mp ((Array.all_eq_true_iff_forall_mem.mp hF) _ (Array.getElem_mem ha)) i (List.mem_range.mpr hi)
    simpa [Array.getElem?_eq_getElem hi] using q
  obtain ⟨i0, ei0⟩ := isL_v g1
  obtain rfl : w0 = (.long i0) := Option.some.inj ei0
  obtain ⟨i1, ei1⟩ := isL_v g2
  obtain rfl : w1 = (.long i1) := Option.some.inj ei1
  obtain ⟨i2, ei2⟩ := is_v r2
  obtain rfl : w2 = (.int i2) := Option.some.inj ei2
  have hw : ∀ (i : Nat) {d : Jvm.Cond}, tables_1[i]? = some d → d.before #[.long i0, .long i1, .int i2] s = true := fun i d h => hw0 d (List.mem_of_getElem? h)
  have hr : ∀ d ∈ jdkStatics_1, d.before #[.long i0, .long i1, .int i2] s = true := oj0 (t := restOwn_1) (by rw [← rest_1_c_eq]; exact hrest)
  obtain ⟨⟨ca, ka, ma, a1, a2, a3, a4⟩, ⟨cb, kb, mb, b1, b2, b3, b4⟩, ⟨cc, kc, mc, c1, c2, c3, c4⟩, hheld, -⟩ := hcalls
  obtain ⟨kk, J0⟩ := oj2 hfit hw hr ⟨ca, ka, a1, a2, a3, a4⟩ ⟨cb, kb, b1, b2, b3, b4⟩ ⟨cc, kc, c1, c2, c3, c4⟩
  have hH : CHv s oan s.vm s.heap := CHv.start (obl hw) (fun p hp => hheld p hp) (hr _ (List.mem_of_getElem? (i := 20) rfl)) (hw 320 rfl) (hw 319 rfl)
  obtain ⟨n, o, h1, h2, h3, _, L, rfl, ⟨rfl, N⟩, hq⟩ := ojZ l s _ hw tables_1 i0 i1 i2 kk s.heap s.heap.size (Nat.le_refl _) J0 p e ha hc hk s m _ below hf ((Spec.applies_iff_loose hf).mp happ).1 ⟨rfl, State.Warmed39.refl s, rfl, hH⟩ trivial
  refine ⟨n, _, h1, h2, h3, hpost _ _ _ _ _ _ ⟨Cond.after_iff.mpr rfl, Cond.after_iff.mpr (eq_i res_at (Term.int_eval (1)) rfl), trivial⟩ ⟨hq.1, hq.2.1, hq.2.2.1, (hq.2.2.2.sift fun y hy => Or.inr (N y hy)).mono (by decide) (by decide)⟩⟩
theorem main_1_1 : Claimed_1_1 := oct fun _ _ _ _ _ _ h hF => ⟨h.1, hF⟩
theorem main_1_2 : Claimed_1_2 := oct fun _ _ _ _ _ _ h hF => ⟨h.2.1, hF⟩
end Jvm.Pilot.@@N@@
namespace Jvm.Pilot.@@N@@
open Jvm Jvm.ClassFile Sem Op Lib Jvm.Free Jvm.Stand Jvm.Pilot.@@N@@.Jvm.D
/-! MADE BY PROGRAM (witnessworld.py) out of the Statement's table words and the real class files: 57 classes; the members and pool entries that the words name. The judged class is class 1, her method 1. -/
namespace start1
open Jvm.ClassFile
def u (s : String) : CpInfo := .utf8 (stringToUtf16 s)
def gap : Nat → List CpInfo → List CpInfo
  | 0, r => r
  | n + 1, r => .unusable :: gap n r
def poolList (es : List (Nat × CpInfo)) (last : Nat) : List CpInfo := es.foldr (fun e r => gap e.1 (e.2 :: r)) (gap last [])
def pool (es : List (Nat × CpInfo)) (last : Nat) : Array CpInfo := ⟨poolList es last⟩
def fileOf (pool : Array CpInfo) (this : Nat) (attrs : Array Attribute := #[]) (ms : Array MethodInfo := #[]) (fl : Nat := 33) (sup : Nat := 0) (ifs : Array Nat := #[]) (fds : Array FieldInfo := #[]) : ClassFile where
  minorVersion := 0
  majorVersion := 65
  constantPool := pool
  accessFlags := fl
  thisClass := this
  superClass := sup
  interfaces := ifs
  fields := fds
  methods := ms
  attributes := attrs
def plain (name : String) (sup : Option ClassId) : Class where
  name := name
  kind := .ordinary
  loader := none
  accessFlags := 33
  super := sup
  interfaces := #[]
  cf := none
  fields := #[]
  methods := #[]
  instanceTypes := #[]
  staticTypes := #[]
  resolved := #[]
  callSites := []
  init := .initialized
  statics := none
  mirror := none

def pool0 : Array CpInfo := pool [(5, u "<init>"), (0, u "()V"), (1, .class_ 10), (1, u "java/lang/Object"), (0, u "getClass"), (0, u "()Ljava/lang/Class;")] 111

def k0c0 : Code := { maxStack := 0, maxLocals := 1, code := object_method_1_code, exceptionTable := #[], attributes := #[] }
def k0m0 : Method := { name := "<init>", desc := "()V", sig := { parameters := [], returnType := none }, accessFlags := 1, code := some k0c0 }
def k0m1 : Method := { name := "getClass", desc := "()Ljava/lang/Class;", sig := { parameters := [], returnType := some (.object "java/lang/Class") }, accessFlags := 273, code := none }
def k0 : Class := { plain "java/lang/Object" none with
  accessFlags := 33
  interfaces := #[]
  cf := some (fileOf pool0 8 #[] #[{ accessFlags := 1, nameIndex := 5, descriptorIndex := 6, attributes := #[] }, { accessFlags := 273, nameIndex := 11, descriptorIndex := 12, attributes := #[] }] 33 0 #[] #[])
  fields := #[]
  methods := #[k0m0, k0m1]
  instanceTypes := #[]
  staticTypes := #[]
  resolved := Array.replicate 124 none
  statics := none }

def pool1 : Array CpInfo := pool [(2, .class_ 4), (0, .nameAndType 5 6), (0, u "java/lang/Object"), (0, u "<init>"), (0, u "()V"), (0, .class_ 8), (0, u "com/example/restate/restate/model/CensusColumns"), (0, .class_ 10), (0, u "java/util/ArrayList"), (0, .methodref 9 3), (0, .methodref 7 13), (0, .nameAndType 5 14), (0, u "(Ljava/util/Collection;)V"), (0, .string 16), (0, u ""), (0, .methodref 7 18), (0, .nameAndType 19 20), (0, u "add"), (0, u "(JLjava/lang/String;Ljava/lang/String;Lcom/example/restate/restate/model/PensionEligibility;Lcom/example/restate/restate/model/YearEndStatus;Ljava/time/LocalDate;Ljava/time/LocalDate;Ljava/time/LocalDate;)V"), (0, .methodref 7 22), (0, .nameAndType 23 24), (0, u "compensation"), (0, u "()Lcom/example/restate/restate/model/AmountColumn;"), (0, .methodref 26 27), (0, .class_ 28), (0, .nameAndType 29 30), (0, u "com/example/restate/restate/model/AmountColumn"), (0, u "addCents"), (0, u "(J)V"), (0, .methodref 7 32), (0, .nameAndType 33 24), (0, u "deferrals"), (0, .methodref 7 35), (0, .nameAndType 36 24), (0, u "catchUp"), (0, .methodref 7 38), (0, .nameAndType 39 24), (0, u "otherAnnualAdditions"), (0, .methodref 7 41), (0, .nameAndType 42 43), (0, u "line"), (0, u "(I)J"), (0, .class_ 45), (0, u "com/example/restate/restate/model/CensusColumnsLinePinLaw"), (2, u "law"), (0, u "(JJI)Z")] 3

def k1m0 : Method := { name := "<init>", desc := "()V", sig := { parameters := [], returnType := none }, accessFlags := 1, code := none }
def k1c1 : Code := { maxStack := 10, maxLocals := 8, code := code, exceptionTable := #[], attributes := #[] }
def k1m1 : Method := { name := "law", desc := "(JJI)Z", sig := { parameters := [.long, .long, .int], returnType := some .boolean }, accessFlags := 9, code := some k1c1 }
def k1 : Class := { plain "com/example/restate/restate/model/CensusColumnsLinePinLaw" (some 0) with
  accessFlags := 49
  interfaces := #[]
  cf := some (fileOf pool1 44 #[] #[{ accessFlags := 1, nameIndex := 5, descriptorIndex := 6, attributes := #[] }, { accessFlags := 9, nameIndex := 48, descriptorIndex := 49, attributes := #[] }] 49 2 #[] #[])
  fields := #[]
  methods := #[k1m0, k1m1]
  instanceTypes := #[]
  staticTypes := #[]
  resolved := Array.replicate 53 none
  statics := none }

def pool2 : Array CpInfo := pool [(1, .methodref 2 3), (0, .class_ 4), (0, .nameAndType 5 6), (0, u "java/lang/Object"), (0, u "<init>"), (0, u "()V"), (0, .class_ 8), (0, u "com/example/restate/restate/model/LongColumn"), (0, .methodref 7 3), (0, .fieldref 11 12), (0, .class_ 13), (0, .nameAndType 14 15), (0, u "com/example/restate/restate/model/CensusColumns"), (0, u "lineOffsets"), (0, u "Lcom/example/restate/restate/model/LongColumn;"), (0, .fieldref 11 17), (0, .nameAndType 18 19), (0, u "ids"), (0, u "[C"), (0, .fieldref 11 21), (0, .nameAndType 22 23), (0, u "idEnds"), (0, u "[I"), (0, .class_ 25), (0, u "com/example/restate/restate/model/CensusColumns$Codes"), (0, .methodref 24 3), (0, .fieldref 11 28), (0, .nameAndType 29 30), (0, u "group"), (0, u "Lcom/example/restate/restate/model/CensusColumns$Codes;"), (0, .fieldref 11 32), (0, .nameAndType 33 30), (0, u "pension"), (0, .fieldref 11 35), (0, .nameAndType 36 30), (0, u "yearEndStatus"), (0, .fieldref 11 38), (0, .nameAndType 39 30), (0, u "segmentStart"), (0, .fieldref 11 41), (0, .nameAndType 42 30), (0, u "segmentEnd"), (0, .fieldref 11 44), (0, .nameAndType 45 30), (0, u "birthDate"), (0, .class_ 47), (0, u "com/example/restate/restate/model/AmountColumn"), (0, .methodref 46 3), (0, .fieldref 11 50), (0, .nameAndType 51 52), (0, u "compensation"), (0, u "Lcom/example/restate/restate/model/AmountColumn;"), (0, .fieldref 11 54), (0, .nameAndType 55 52), (0, u "deferrals"), (0, .fieldref 11 57), (0, .nameAndType 58 52), (0, u "catchUp"), (0, .fieldref 11 60), (0, .nameAndType 61 52), (0, u "otherAnnualAdditions"), (0, .class_ 63), (0, u "java/util/LinkedHashMap"), (0, .methodref 62 3), (0, .fieldref 11 66), (0, .nameAndType 67 68), (0, u "pay"), (0, u "Ljava/util/Map;"), (0, .class_ 70), (0, u "java/util/ArrayList"), (0, .interfaceMethodref 72 73), (0, .class_ 74), (0, .nameAndType 75 76), (0, u "java/util/List"), (0, u "of"), (0, u "(Ljava/lang/Object;Ljava/lang/Object;Ljava/lang/Object;Ljava/lang/Object;)Ljava/util/List;"), (0, .methodref 69 78), (0, .nameAndType 5 79), (0, u "(Ljava/util/Collection;)V"), (0, .fieldref 11 81), (0, .nameAndType 82 83), (0, u "amountColumns"), (0, u "Ljava/util/List;"), (0, .interfaceMethodref 85 86), (0, .class_ 87), (0, .nameAndType 88 89), (0, u "java/util/Collection"), (0, u "iterator"), (0, u "()Ljava/util/Iterator;"), (0, .interfaceMethodref 91 92), (0, .class_ 93), (0, .nameAndType 94 95), (0, u "java/util/Iterator"), (0, u "hasNext"), (0, u "()Z"), (4, .class_ 101), (0, u "java/lang/String"), (1, .class_ 105), (1, u "java/util/Map"), (2, .interfaceMethodref 103 109), (0, .nameAndType 110 111), (0, u "values"), (0, u "()Ljava/util/Collection;"), (0, .interfaceMethodref 72 113), (0, .nameAndType 114 115), (0, u "addAll"), (0, u "(Ljava/util/Collection;)Z"), (0, .fieldref 11 117), (0, .nameAndType 118 119), (0, u "size"), (0, u "I"), (0, .methodref 11 121), (0, .nameAndType 122 123), (0, u "checkAmounts"), (0, u "(I)V"), (0, .methodref 7 125), (0, .nameAndType 126 127), (0, u "doubled"), (0, u "(I)I"), (6, .methodref 7 135), (0, .nameAndType 136 137), (0, u "add"), (0, u "(J)V"), (0, .methodref 11 139), (0, .nameAndType 140 127), (0, u "idStart"), (0, .methodref 100 142), (0, .nameAndType 143 144), (0, u "length"), (0, u "()I"), (0, .methodref 146 147), (0, .class_ 148), (0, .nameAndType 149 150), (0, u "java/lang/Math"), (0, u "addExact"), (0, u "(II)I"), (0, .methodref 146 152), (0, .nameAndType 153 150), (0, u "max"), (3, .methodref 100 158), (0, .nameAndType 159 160), (0, u "getChars"), (0, u "(II[CI)V"), (0, .methodref 24 162), (0, .nameAndType 136 163), (0, u "(Ljava/lang/Object;)V"), (0, .interfaceMethodref 72 165), (0, .nameAndType 118 144), (0, .interfaceMethodref 72 167), (0, .nameAndType 168 169), (0, u "get"), (0, u "(I)Ljava/lang/Object;"), (0, .methodref 46 165), (54, u "line"), (0, u "(I)J"), (22, .methodref 7 250), (0, .nameAndType 168 226), (41, u "FIRST_CAPACITY"), (13, u "(JLjava/lang/String;Ljava/lang/String;Lcom/example/restate/restate/model/PensionEligibility;Lcom/example/restate/restate/model/YearEndStatus;Ljava/time/LocalDate;Ljava/time/LocalDate;Ljava/time/LocalDate;)V"), (1, u "()Lcom/example/restate/restate/model/AmountColumn;")] 27

def k2c0 : Code := { maxStack := 7, maxLocals := 4, code := prog_32_method_1_code, exceptionTable := #[], attributes := #[] }
def k2m0 : Method := { name := "<init>", desc := "(Ljava/util/Collection;)V", sig := { parameters := [(.object "java/util/Collection")], returnType := none }, accessFlags := 0, code := some k2c0 }
def k2c1 : Code := { maxStack := 5, maxLocals := 13, code := prog_32_method_3_code, exceptionTable := #[], attributes := #[] }
def k2m1 : Method := { name := "add", desc := "(JLjava/lang/String;Ljava/lang/String;Lcom/example/restate/restate/model/PensionEligibility;Lcom/example/restate/restate/model/YearEndStatus;Ljava/time/LocalDate;Ljava/time/LocalDate;Ljava/time/LocalDate;)V", sig := { parameters := [.long, (.object "java/lang/String"), (.object "java/lang/String"), (.object "com/example/restate/restate/model/PensionEligibility"), (.object "com/example/restate/restate/model/YearEndStatus"), (.object "java/time/LocalDate"), (.object "java/time/LocalDate"), (.object "java/time/LocalDate")], returnType := none }, accessFlags := 0, code := some k2c1 }
def k2c2 : Code := { maxStack := 4, maxLocals := 4, code := prog_32_method_4_code, exceptionTable := #[], attributes := #[] }
def k2m2 : Method := { name := "checkAmounts", desc := "(I)V", sig := { parameters := [.int], returnType := none }, accessFlags := 2, code := some k2c2 }
def k2c3 : Code := { maxStack := 4, maxLocals := 2, code := prog_32_method_7_code, exceptionTable := #[], attributes := #[] }
def k2m3 : Method := { name := "line", desc := "(I)J", sig := { parameters := [.int], returnType := some .long }, accessFlags := 0, code := some k2c3 }
def k2c4 : Code := { maxStack := 1, maxLocals := 1, code := prog_32_method_15_code, exceptionTable := #[], attributes := #[] }
def k2m4 : Method := { name := "compensation", desc := "()Lcom/example/restate/restate/model/AmountColumn;", sig := { parameters := [], returnType := some (.object "com/example/restate/restate/model/AmountColumn") }, accessFlags := 0, code := some k2c4 }
def k2c5 : Code := { maxStack := 1, maxLocals := 1, code := prog_32_method_16_code, exceptionTable := #[], attributes := #[] }
def k2m5 : Method := { name := "deferrals", desc := "()Lcom/example/restate/restate/model/AmountColumn;", sig := { parameters := [], returnType := some (.object "com/example/restate/restate/model/AmountColumn") }, accessFlags := 0, code := some k2c5 }
def k2c6 : Code := { maxStack := 1, maxLocals := 1, code := prog_32_method_17_code, exceptionTable := #[], attributes := #[] }
def k2m6 : Method := { name := "catchUp", desc := "()Lcom/example/restate/restate/model/AmountColumn;", sig := { parameters := [], returnType := some (.object "com/example/restate/restate/model/AmountColumn") }, accessFlags := 0, code := some k2c6 }
def k2c7 : Code := { maxStack := 1, maxLocals := 1, code := prog_32_method_18_code, exceptionTable := #[], attributes := #[] }
def k2m7 : Method := { name := "otherAnnualAdditions", desc := "()Lcom/example/restate/restate/model/AmountColumn;", sig := { parameters := [], returnType := some (.object "com/example/restate/restate/model/AmountColumn") }, accessFlags := 0, code := some k2c7 }
def k2c8 : Code := { maxStack := 3, maxLocals := 2, code := prog_32_method_23_code, exceptionTable := #[], attributes := #[] }
def k2m8 : Method := { name := "idStart", desc := "(I)I", sig := { parameters := [.int], returnType := some .int }, accessFlags := 2, code := some k2c8 }
def k2 : Class := { plain "com/example/restate/restate/model/CensusColumns" (some 0) with
  accessFlags := 48
  interfaces := #[]
  cf := some (fileOf pool2 11 #[.nestMembers #[24]] #[{ accessFlags := 0, nameIndex := 5, descriptorIndex := 79, attributes := #[] }, { accessFlags := 0, nameIndex := 136, descriptorIndex := 306, attributes := #[] }, { accessFlags := 2, nameIndex := 122, descriptorIndex := 123, attributes := #[] }, { accessFlags := 0, nameIndex := 225, descriptorIndex := 226, attributes := #[] }, { accessFlags := 0, nameIndex := 51, descriptorIndex := 308, attributes := #[] }, { accessFlags := 0, nameIndex := 55, descriptorIndex := 308, attributes := #[] }, { accessFlags := 0, nameIndex := 58, descriptorIndex := 308, attributes := #[] }, { accessFlags := 0, nameIndex := 61, descriptorIndex := 308, attributes := #[] }, { accessFlags := 2, nameIndex := 140, descriptorIndex := 127, attributes := #[] }] 48 2 #[] #[{ accessFlags := 26, nameIndex := 292, descriptorIndex := 119, attributes := #[] }, { accessFlags := 2, nameIndex := 118, descriptorIndex := 119, attributes := #[] }, { accessFlags := 18, nameIndex := 14, descriptorIndex := 15, attributes := #[] }, { accessFlags := 2, nameIndex := 18, descriptorIndex := 19, attributes := #[] }, { accessFlags := 2, nameIndex := 22, descriptorIndex := 23, attributes := #[] }, { accessFlags := 18, nameIndex := 29, descriptorIndex := 30, attributes := #[] }, { accessFlags := 18, nameIndex := 33, descriptorIndex := 30, attributes := #[] }, { accessFlags := 18, nameIndex := 36, descriptorIndex := 30, attributes := #[] }, { accessFlags := 18, nameIndex := 39, descriptorIndex := 30, attributes := #[] }, { accessFlags := 18, nameIndex := 42, descriptorIndex := 30, attributes := #[] }, { accessFlags := 18, nameIndex := 45, descriptorIndex := 30, attributes := #[] }, { accessFlags := 18, nameIndex := 51, descriptorIndex := 52, attributes := #[] }, { accessFlags := 18, nameIndex := 55, descriptorIndex := 52, attributes := #[] }, { accessFlags := 18, nameIndex := 58, descriptorIndex := 52, attributes := #[] }, { accessFlags := 18, nameIndex := 61, descriptorIndex := 52, attributes := #[] }, { accessFlags := 18, nameIndex := 67, descriptorIndex := 68, attributes := #[] }, { accessFlags := 18, nameIndex := 82, descriptorIndex := 83, attributes := #[] }])
  fields := #[{ name := "FIRST_CAPACITY", type := .int, accessFlags := 26, slot := 0, constantValue := 0 }, { name := "size", type := .int, accessFlags := 2, slot := 0, constantValue := 0 }, { name := "lineOffsets", type := (.object "com/example/restate/restate/model/LongColumn"), accessFlags := 18, slot := 1, constantValue := 0 }, { name := "ids", type := (.array .char), accessFlags := 2, slot := 2, constantValue := 0 }, { name := "idEnds", type := (.array .int), accessFlags := 2, slot := 3, constantValue := 0 }, { name := "group", type := (.object "com/example/restate/restate/model/CensusColumns$Codes"), accessFlags := 18, slot := 4, constantValue := 0 }, { name := "pension", type := (.object "com/example/restate/restate/model/CensusColumns$Codes"), accessFlags := 18, slot := 5, constantValue := 0 }, { name := "yearEndStatus", type := (.object "com/example/restate/restate/model/CensusColumns$Codes"), accessFlags := 18, slot := 6, constantValue := 0 }, { name := "segmentStart", type := (.object "com/example/restate/restate/model/CensusColumns$Codes"), accessFlags := 18, slot := 7, constantValue := 0 }, { name := "segmentEnd", type := (.object "com/example/restate/restate/model/CensusColumns$Codes"), accessFlags := 18, slot := 8, constantValue := 0 }, { name := "birthDate", type := (.object "com/example/restate/restate/model/CensusColumns$Codes"), accessFlags := 18, slot := 9, constantValue := 0 }, { name := "compensation", type := (.object "com/example/restate/restate/model/AmountColumn"), accessFlags := 18, slot := 10, constantValue := 0 }, { name := "deferrals", type := (.object "com/example/restate/restate/model/AmountColumn"), accessFlags := 18, slot := 11, constantValue := 0 }, { name := "catchUp", type := (.object "com/example/restate/restate/model/AmountColumn"), accessFlags := 18, slot := 12, constantValue := 0 }, { name := "otherAnnualAdditions", type := (.object "com/example/restate/restate/model/AmountColumn"), accessFlags := 18, slot := 13, constantValue := 0 }, { name := "pay", type := (.object "java/util/Map"), accessFlags := 18, slot := 14, constantValue := 0 }, { name := "amountColumns", type := (.object "java/util/List"), accessFlags := 18, slot := 15, constantValue := 0 }]
  methods := #[k2m0, k2m1, k2m2, k2m3, k2m4, k2m5, k2m6, k2m7, k2m8]
  instanceTypes := #[.int, (.object "com/example/restate/restate/model/LongColumn"), (.array .char), (.array .int), (.object "com/example/restate/restate/model/CensusColumns$Codes"), (.object "com/example/restate/restate/model/CensusColumns$Codes"), (.object "com/example/restate/restate/model/CensusColumns$Codes"), (.object "com/example/restate/restate/model/CensusColumns$Codes"), (.object "com/example/restate/restate/model/CensusColumns$Codes"), (.object "com/example/restate/restate/model/CensusColumns$Codes"), (.object "com/example/restate/restate/model/AmountColumn"), (.object "com/example/restate/restate/model/AmountColumn"), (.object "com/example/restate/restate/model/AmountColumn"), (.object "com/example/restate/restate/model/AmountColumn"), (.object "java/util/Map"), (.object "java/util/List")]
  staticTypes := #[.int]
  resolved := Array.replicate 24 none ++ #[some (.cls 14), none, some (.method ⟨14, 0⟩)] ++ Array.replicate 309 none
  statics := none }

def pool3 : Array CpInfo := pool [(8, .class_ 10), (1, u "java/lang/Iterable"), (24, .class_ 36), (0, u "java/lang/Object")] 25

def k3 : Class := { plain "java/lang/Iterable" (some 0) with
  accessFlags := 1537
  interfaces := #[]
  cf := some (fileOf pool3 8 #[] #[] 1537 35 #[] #[])
  fields := #[]
  methods := #[]
  instanceTypes := #[]
  staticTypes := #[]
  resolved := Array.replicate 62 none
  statics := none }

def pool4 : Array CpInfo := pool [(10, .class_ 12), (1, u "java/util/Collection"), (0, u "toArray"), (9, u "iterator"), (0, u "()Ljava/util/Iterator;"), (35, .class_ 61), (0, u "java/lang/Object"), (0, .class_ 63), (0, u "java/lang/Iterable"), (6, u "()[Ljava/lang/Object;")] 44

def k4m0 : Method := { name := "iterator", desc := "()Ljava/util/Iterator;", sig := { parameters := [], returnType := some (.object "java/util/Iterator") }, accessFlags := 1025, code := none }
def k4m1 : Method := { name := "toArray", desc := "()[Ljava/lang/Object;", sig := { parameters := [], returnType := some (.array (.object "java/lang/Object")) }, accessFlags := 1025, code := none }
def k4 : Class := { plain "java/util/Collection" (some 0) with
  accessFlags := 1537
  interfaces := #[3]
  cf := some (fileOf pool4 10 #[] #[{ accessFlags := 1025, nameIndex := 23, descriptorIndex := 24, attributes := #[] }, { accessFlags := 1025, nameIndex := 13, descriptorIndex := 70, attributes := #[] }] 1537 60 #[62] #[])
  fields := #[]
  methods := #[k4m0, k4m1]
  instanceTypes := #[]
  staticTypes := #[]
  resolved := Array.replicate 115 none
  statics := none }

def pool5 : Array CpInfo := pool [(1, .methodref 2 3), (0, .class_ 4), (0, .nameAndType 5 6), (0, u "java/lang/Object"), (0, u "<init>"), (0, u "()V"), (1, .class_ 10), (1, u "java/util/AbstractCollection"), (66, .class_ 78), (0, u "java/util/Collection")] 81

def k5c0 : Code := { maxStack := 1, maxLocals := 1, code := jdk_22_method_1_code, exceptionTable := #[], attributes := #[] }
def k5m0 : Method := { name := "<init>", desc := "()V", sig := { parameters := [], returnType := none }, accessFlags := 4, code := some k5c0 }
def k5 : Class := { plain "java/util/AbstractCollection" (some 0) with
  accessFlags := 1057
  interfaces := #[4]
  cf := some (fileOf pool5 8 #[] #[{ accessFlags := 4, nameIndex := 5, descriptorIndex := 6, attributes := #[] }] 1057 2 #[77] #[])
  fields := #[]
  methods := #[k5m0]
  instanceTypes := #[]
  staticTypes := #[]
  resolved := Array.replicate 160 none
  statics := none }

def pool6 : Array CpInfo := pool [(8, .class_ 10), (1, u "java/util/SequencedCollection"), (15, .class_ 27), (0, u "java/lang/Object"), (0, .class_ 29), (0, u "java/util/Collection")] 27

def k6 : Class := { plain "java/util/SequencedCollection" (some 0) with
  accessFlags := 1537
  interfaces := #[4]
  cf := some (fileOf pool6 8 #[] #[] 1537 26 #[28] #[])
  fields := #[]
  methods := #[]
  instanceTypes := #[]
  staticTypes := #[]
  resolved := Array.replicate 57 none
  statics := none }

def pool7 : Array CpInfo := pool [(8, .class_ 10), (1, u "java/util/List"), (49, u "add"), (3, u "(Ljava/lang/Object;)Z"), (10, u "get"), (0, u "(I)Ljava/lang/Object;"), (2, u "size"), (0, u "()I"), (7, u "of"), (2, .class_ 93), (1, u "java/util/ImmutableCollections"), (9, .class_ 104), (0, u "java/lang/Object"), (0, .methodref 91 106), (0, .nameAndType 107 108), (0, u "listFromTrustedArray"), (0, u "([Ljava/lang/Object;)Ljava/util/List;"), (11, .class_ 121), (0, u "java/util/SequencedCollection"), (9, u "(Ljava/util/Collection;)Z"), (1, u "addAll"), (73, u "(Ljava/lang/Object;Ljava/lang/Object;Ljava/lang/Object;Ljava/lang/Object;)Ljava/util/List;")] 43

def k7m0 : Method := { name := "size", desc := "()I", sig := { parameters := [], returnType := some .int }, accessFlags := 1025, code := none }
def k7m1 : Method := { name := "add", desc := "(Ljava/lang/Object;)Z", sig := { parameters := [(.object "java/lang/Object")], returnType := some .boolean }, accessFlags := 1025, code := none }
def k7m2 : Method := { name := "addAll", desc := "(Ljava/util/Collection;)Z", sig := { parameters := [(.object "java/util/Collection")], returnType := some .boolean }, accessFlags := 1025, code := none }
def k7m3 : Method := { name := "get", desc := "(I)Ljava/lang/Object;", sig := { parameters := [.int], returnType := some (.object "java/lang/Object") }, accessFlags := 1025, code := none }
def k7c4 : Code := { maxStack := 4, maxLocals := 4, code := jdk_40_method_40_code, exceptionTable := #[], attributes := #[] }
def k7m4 : Method := { name := "of", desc := "(Ljava/lang/Object;Ljava/lang/Object;Ljava/lang/Object;Ljava/lang/Object;)Ljava/util/List;", sig := { parameters := [(.object "java/lang/Object"), (.object "java/lang/Object"), (.object "java/lang/Object"), (.object "java/lang/Object")], returnType := some (.object "java/util/List") }, accessFlags := 9, code := some k7c4 }
def k7 : Class := { plain "java/util/List" (some 0) with
  accessFlags := 1537
  interfaces := #[6]
  cf := some (fileOf pool7 8 #[] #[{ accessFlags := 1025, nameIndex := 79, descriptorIndex := 80, attributes := #[] }, { accessFlags := 1025, nameIndex := 60, descriptorIndex := 64, attributes := #[] }, { accessFlags := 1025, nameIndex := 133, descriptorIndex := 131, attributes := #[] }, { accessFlags := 1025, nameIndex := 75, descriptorIndex := 76, attributes := #[] }, { accessFlags := 9, nameIndex := 88, descriptorIndex := 207, attributes := #[] }] 1537 103 #[120] #[])
  fields := #[]
  methods := #[k7m0, k7m1, k7m2, k7m3, k7m4]
  instanceTypes := #[]
  staticTypes := #[]
  resolved := Array.replicate 251 none
  statics := none }

def pool8 : Array CpInfo := pool [(1, .methodref 2 3), (0, .class_ 4), (0, .nameAndType 5 6), (0, u "java/util/AbstractCollection"), (0, u "<init>"), (0, u "()V"), (0, .fieldref 8 9), (0, .class_ 10), (0, .nameAndType 11 12), (0, u "java/util/AbstractList"), (0, u "modCount"), (0, u "I"), (64, .class_ 78), (0, u "java/util/AbstractList$Itr"), (3, .class_ 83), (0, u "java/util/AbstractList$ListItr"), (9, .class_ 94), (0, u "java/util/AbstractList$RandomAccessSubList"), (3, .class_ 99), (0, u "java/util/AbstractList$SubList"), (33, .class_ 134), (0, u "java/util/List"), (73, .class_ 209), (0, u "java/util/AbstractList$SubList$1"), (0, .class_ 211), (0, u "java/util/AbstractList$RandomAccessSpliterator")] 6

def k8c0 : Code := { maxStack := 2, maxLocals := 1, code := jdk_39_method_1_code, exceptionTable := #[], attributes := #[] }
def k8m0 : Method := { name := "<init>", desc := "()V", sig := { parameters := [], returnType := none }, accessFlags := 4, code := some k8c0 }
def k8 : Class := { plain "java/util/AbstractList" (some 5) with
  accessFlags := 1057
  interfaces := #[7]
  cf := some (fileOf pool8 8 #[.nestMembers #[93, 98, 208, 210, 82, 77]] #[{ accessFlags := 4, nameIndex := 5, descriptorIndex := 6, attributes := #[] }] 1057 2 #[133] #[{ accessFlags := 132, nameIndex := 11, descriptorIndex := 12, attributes := #[] }])
  fields := #[{ name := "modCount", type := .int, accessFlags := 132, slot := 0, constantValue := 0 }]
  methods := #[k8m0]
  instanceTypes := #[.int]
  staticTypes := #[]
  resolved := Array.replicate 218 none
  statics := none }

def pool9 : Array CpInfo := pool [(1, .class_ 2), (0, u "java/util/RandomAccess"), (0, .class_ 4), (0, u "java/lang/Object")] 2

def k9 : Class := { plain "java/util/RandomAccess" (some 0) with
  accessFlags := 1537
  interfaces := #[]
  cf := some (fileOf pool9 1 #[] #[] 1537 3 #[] #[])
  fields := #[]
  methods := #[]
  instanceTypes := #[]
  staticTypes := #[]
  resolved := Array.replicate 7 none
  statics := none }

def pool10 : Array CpInfo := pool [(1, .class_ 2), (0, u "java/lang/Cloneable"), (0, .class_ 4), (0, u "java/lang/Object")] 2

def k10 : Class := { plain "java/lang/Cloneable" (some 0) with
  accessFlags := 1537
  interfaces := #[]
  cf := some (fileOf pool10 1 #[] #[] 1537 3 #[] #[])
  fields := #[]
  methods := #[]
  instanceTypes := #[]
  staticTypes := #[]
  resolved := Array.replicate 7 none
  statics := none }

def pool11 : Array CpInfo := pool [(1, .class_ 2), (0, u "java/io/Serializable"), (0, .class_ 4), (0, u "java/lang/Object")] 2

def k11 : Class := { plain "java/io/Serializable" (some 0) with
  accessFlags := 1537
  interfaces := #[]
  cf := some (fileOf pool11 1 #[] #[] 1537 3 #[] #[])
  fields := #[]
  methods := #[]
  instanceTypes := #[]
  staticTypes := #[]
  resolved := Array.replicate 7 none
  statics := none }

def pool12 : Array CpInfo := pool [(1, .methodref 2 3), (0, .class_ 4), (0, .nameAndType 5 6), (0, u "java/util/AbstractList"), (0, u "<init>"), (0, u "()V"), (0, .class_ 8), (0, u "java/lang/Object"), (0, .fieldref 10 11), (0, .class_ 12), (0, .nameAndType 13 14), (0, u "java/util/ArrayList"), (0, u "elementData"), (0, u "[Ljava/lang/Object;"), (2, u "EMPTY_ELEMENTDATA"), (21, .fieldref 10 40), (0, .nameAndType 41 14), (0, u "DEFAULTCAPACITY_EMPTY_ELEMENTDATA"), (0, .interfaceMethodref 43 44), (0, .class_ 45), (0, .nameAndType 46 47), (0, u "java/util/Collection"), (0, u "toArray"), (0, u "()[Ljava/lang/Object;"), (0, .fieldref 10 49), (0, .nameAndType 50 51), (0, u "size"), (0, u "I"), (0, .interfaceMethodref 43 53), (0, .nameAndType 54 55), (0, u "getClass"), (0, u "()Ljava/lang/Class;"), (0, .class_ 14), (0, .methodref 58 59), (0, .class_ 60), (0, .nameAndType 61 62), (0, u "java/util/Arrays"), (0, u "copyOf"), (0, u "([Ljava/lang/Object;ILjava/lang/Class;)[Ljava/lang/Object;"), (0, .fieldref 10 64), (0, .nameAndType 65 51), (0, u "modCount"), (3, .methodref 10 70), (0, .nameAndType 71 72), (0, u "grow"), (0, u "(I)[Ljava/lang/Object;"), (6, .methodref 80 81), (0, .class_ 82), (0, .nameAndType 83 84), (0, u "java/lang/Math"), (0, u "max"), (0, u "(II)I"), (11, u "(Ljava/lang/Object;)Z"), (21, .methodref 119 120), (0, .class_ 121), (0, .nameAndType 122 84), (0, u "java/util/Objects"), (0, u "checkIndex"), (0, .methodref 10 124), (0, .nameAndType 13 125), (0, u "(I)Ljava/lang/Object;"), (3, .methodref 10 130), (0, .nameAndType 71 47), (0, .methodref 10 132), (0, .nameAndType 133 134), (0, u "add"), (0, u "(Ljava/lang/Object;[Ljava/lang/Object;I)V"), (13, .class_ 149), (0, u "java/util/List"), (16, u "iterator"), (0, u "()Ljava/util/Iterator;"), (18, u "()I"), (75, .class_ 263), (0, u "java/util/ArrayList$ListItr"), (3, .class_ 268), (0, u "java/util/ArrayList$Itr"), (0, .methodref 267 270), (0, .nameAndType 5 271), (0, u "(Ljava/util/ArrayList;)V"), (4, .class_ 277), (0, u "java/util/ArrayList$SubList"), (12, .class_ 291), (0, u "java/util/ArrayList$ArrayListSpliterator"), (37, .class_ 330), (0, u "java/util/RandomAccess"), (0, .class_ 332), (0, u "java/lang/Cloneable"), (0, .class_ 334), (0, u "java/io/Serializable"), (0, u "serialVersionUID"), (0, u "J"), (3, u "DEFAULT_CAPACITY"), (10, u "(Ljava/util/Collection;)V"), (29, u "get"), (38, u "addAll"), (0, u "(Ljava/util/Collection;)Z"), (78, .class_ 501), (0, u "java/util/ArrayList$SubList$2"), (0, .class_ 503), (0, u "java/util/ArrayList$SubList$1")] 5

def k12c0 : Code := { maxStack := 2, maxLocals := 1, code := jdk_38_method_2_code, exceptionTable := #[], attributes := #[] }
def k12m0 : Method := { name := "<init>", desc := "()V", sig := { parameters := [], returnType := none }, accessFlags := 1, code := some k12c0 }
def k12c1 : Code := { maxStack := 4, maxLocals := 3, code := jdk_38_method_3_code, exceptionTable := #[], attributes := #[] }
def k12m1 : Method := { name := "<init>", desc := "(Ljava/util/Collection;)V", sig := { parameters := [(.object "java/util/Collection")], returnType := none }, accessFlags := 1, code := some k12c1 }
def k12c2 : Code := { maxStack := 4, maxLocals := 4, code := jdk_38_method_6_code, exceptionTable := #[], attributes := #[] }
def k12m2 : Method := { name := "grow", desc := "(I)[Ljava/lang/Object;", sig := { parameters := [.int], returnType := some (.array (.object "java/lang/Object")) }, accessFlags := 2, code := some k12c2 }
def k12c3 : Code := { maxStack := 3, maxLocals := 1, code := jdk_38_method_7_code, exceptionTable := #[], attributes := #[] }
def k12m3 : Method := { name := "grow", desc := "()[Ljava/lang/Object;", sig := { parameters := [], returnType := some (.array (.object "java/lang/Object")) }, accessFlags := 2, code := some k12c3 }
def k12c4 : Code := { maxStack := 1, maxLocals := 1, code := jdk_38_method_8_code, exceptionTable := #[], attributes := #[] }
def k12m4 : Method := { name := "size", desc := "()I", sig := { parameters := [], returnType := some .int }, accessFlags := 1, code := some k12c4 }
def k12c5 : Code := { maxStack := 2, maxLocals := 2, code := jdk_38_method_18_code, exceptionTable := #[], attributes := #[] }
def k12m5 : Method := { name := "elementData", desc := "(I)Ljava/lang/Object;", sig := { parameters := [.int], returnType := some (.object "java/lang/Object") }, accessFlags := 0, code := some k12c5 }
def k12c6 : Code := { maxStack := 2, maxLocals := 2, code := jdk_38_method_20_code, exceptionTable := #[], attributes := #[] }
def k12m6 : Method := { name := "get", desc := "(I)Ljava/lang/Object;", sig := { parameters := [.int], returnType := some (.object "java/lang/Object") }, accessFlags := 1, code := some k12c6 }
def k12c7 : Code := { maxStack := 3, maxLocals := 4, code := jdk_38_method_24_code, exceptionTable := #[], attributes := #[] }
def k12m7 : Method := { name := "add", desc := "(Ljava/lang/Object;[Ljava/lang/Object;I)V", sig := { parameters := [(.object "java/lang/Object"), (.array (.object "java/lang/Object")), .int], returnType := none }, accessFlags := 2, code := some k12c7 }
def k12c8 : Code := { maxStack := 4, maxLocals := 2, code := jdk_38_method_25_code, exceptionTable := #[], attributes := #[] }
def k12m8 : Method := { name := "add", desc := "(Ljava/lang/Object;)Z", sig := { parameters := [(.object "java/lang/Object")], returnType := some .boolean }, accessFlags := 1, code := some k12c8 }
def k12c9 : Code := { maxStack := 5, maxLocals := 6, code := jdk_38_method_41_code, exceptionTable := #[], attributes := #[] }
def k12m9 : Method := { name := "addAll", desc := "(Ljava/util/Collection;)Z", sig := { parameters := [(.object "java/util/Collection")], returnType := some .boolean }, accessFlags := 1, code := some k12c9 }
def k12c10 : Code := { maxStack := 3, maxLocals := 1, code := jdk_38_method_55_code, exceptionTable := #[], attributes := #[] }
def k12m10 : Method := { name := "iterator", desc := "()Ljava/util/Iterator;", sig := { parameters := [], returnType := some (.object "java/util/Iterator") }, accessFlags := 1, code := some k12c10 }
def k12 : Class := { plain "java/util/ArrayList" (some 8) with
  accessFlags := 33
  interfaces := #[7, 9, 10, 11]
  cf := some (fileOf pool12 10 #[.nestMembers #[290, 276, 500, 502, 262, 267]] #[{ accessFlags := 1, nameIndex := 5, descriptorIndex := 6, attributes := #[] }, { accessFlags := 1, nameIndex := 5, descriptorIndex := 351, attributes := #[] }, { accessFlags := 2, nameIndex := 71, descriptorIndex := 72, attributes := #[] }, { accessFlags := 2, nameIndex := 71, descriptorIndex := 47, attributes := #[] }, { accessFlags := 1, nameIndex := 50, descriptorIndex := 186, attributes := #[] }, { accessFlags := 0, nameIndex := 13, descriptorIndex := 125, attributes := #[] }, { accessFlags := 1, nameIndex := 381, descriptorIndex := 125, attributes := #[] }, { accessFlags := 2, nameIndex := 133, descriptorIndex := 134, attributes := #[] }, { accessFlags := 1, nameIndex := 133, descriptorIndex := 96, attributes := #[] }, { accessFlags := 1, nameIndex := 420, descriptorIndex := 421, attributes := #[] }, { accessFlags := 1, nameIndex := 166, descriptorIndex := 167, attributes := #[] }] 33 2 #[148, 329, 331, 333] #[{ accessFlags := 26, nameIndex := 335, descriptorIndex := 336, attributes := #[] }, { accessFlags := 26, nameIndex := 340, descriptorIndex := 51, attributes := #[] }, { accessFlags := 26, nameIndex := 17, descriptorIndex := 14, attributes := #[] }, { accessFlags := 26, nameIndex := 41, descriptorIndex := 14, attributes := #[] }, { accessFlags := 128, nameIndex := 13, descriptorIndex := 14, attributes := #[] }, { accessFlags := 2, nameIndex := 50, descriptorIndex := 51, attributes := #[] }])
  fields := #[{ name := "serialVersionUID", type := .long, accessFlags := 26, slot := 0, constantValue := 0 }, { name := "DEFAULT_CAPACITY", type := .int, accessFlags := 26, slot := 1, constantValue := 0 }, { name := "EMPTY_ELEMENTDATA", type := (.array (.object "java/lang/Object")), accessFlags := 26, slot := 2, constantValue := 0 }, { name := "DEFAULTCAPACITY_EMPTY_ELEMENTDATA", type := (.array (.object "java/lang/Object")), accessFlags := 26, slot := 3, constantValue := 0 }, { name := "elementData", type := (.array (.object "java/lang/Object")), accessFlags := 128, slot := 1, constantValue := 0 }, { name := "size", type := .int, accessFlags := 2, slot := 2, constantValue := 0 }]
  methods := #[k12m0, k12m1, k12m2, k12m3, k12m4, k12m5, k12m6, k12m7, k12m8, k12m9, k12m10]
  instanceTypes := #[.int, (.array (.object "java/lang/Object")), .int]
  staticTypes := #[.long, .int, (.array (.object "java/lang/Object")), (.array (.object "java/lang/Object"))]
  resolved := Array.replicate 509 none
  mirror := some 7
  statics := some 0 }

def pool13 : Array CpInfo := pool [(1, .methodref 2 3), (0, .class_ 4), (0, .nameAndType 5 6), (0, u "java/lang/Object"), (0, u "<init>"), (0, u "()V"), (0, .fieldref 8 9), (0, .class_ 10), (0, .nameAndType 11 12), (0, u "com/example/restate/restate/model/LongColumn"), (0, u "size"), (0, u "I"), (0, .fieldref 8 14), (0, .nameAndType 15 16), (0, u "ints"), (0, u "[I"), (0, .fieldref 8 18), (0, .nameAndType 19 20), (0, u "longs"), (0, u "[J"), (0, .fieldref 8 22), (0, .nameAndType 23 24), (0, u "shared"), (0, u "J"), (0, .methodref 8 26), (0, .nameAndType 27 28), (0, u "fitsInt"), (0, u "(J)Z"), (0, .methodref 8 30), (0, .nameAndType 31 32), (0, u "addInt"), (0, u "(I)V"), (0, .methodref 8 34), (0, .nameAndType 35 36), (0, u "addLong"), (0, u "(J)V"), (0, .methodref 8 38), (0, .nameAndType 39 40), (0, u "doubled"), (0, u "(I)I"), (0, .methodref 42 43), (0, .class_ 44), (0, .nameAndType 45 46), (0, u "java/lang/Math"), (0, u "max"), (0, u "(II)I"), (0, .methodref 48 49), (0, .class_ 50), (0, .nameAndType 51 52), (0, u "java/util/Arrays"), (0, u "fill"), (0, u "([IIII)V"), (4, .methodref 8 58), (0, .nameAndType 59 60), (0, u "get"), (0, u "(I)J"), (3, .long 2), (3, .long 2147483639), (1, .methodref 42 71), (0, .nameAndType 72 73), (0, u "min"), (0, u "(JJ)J"), (0, u "FIRST_LENGTH"), (4, u "()I"), (0, u "add")] 5

def k13c0 : Code := { maxStack := 1, maxLocals := 1, code := prog_46_method_1_code, exceptionTable := #[], attributes := #[] }
def k13m0 : Method := { name := "<init>", desc := "()V", sig := { parameters := [], returnType := none }, accessFlags := 0, code := some k13c0 }
def k13c1 : Code := { maxStack := 1, maxLocals := 1, code := prog_46_method_2_code, exceptionTable := #[], attributes := #[] }
def k13m1 : Method := { name := "size", desc := "()I", sig := { parameters := [], returnType := some .int }, accessFlags := 0, code := some k13c1 }
def k13c2 : Code := { maxStack := 4, maxLocals := 4, code := prog_46_method_3_code, exceptionTable := #[], attributes := #[] }
def k13m2 : Method := { name := "add", desc := "(J)V", sig := { parameters := [.long], returnType := none }, accessFlags := 0, code := some k13c2 }
def k13c3 : Code := { maxStack := 4, maxLocals := 2, code := prog_46_method_4_code, exceptionTable := #[], attributes := #[] }
def k13m3 : Method := { name := "fitsInt", desc := "(J)Z", sig := { parameters := [.long], returnType := some .boolean }, accessFlags := 10, code := some k13c3 }
def k13c4 : Code := { maxStack := 5, maxLocals := 2, code := prog_46_method_5_code, exceptionTable := #[], attributes := #[] }
def k13m4 : Method := { name := "addInt", desc := "(I)V", sig := { parameters := [.int], returnType := none }, accessFlags := 2, code := some k13c4 }
def k13c5 : Code := { maxStack := 4, maxLocals := 5, code := prog_46_method_6_code, exceptionTable := #[], attributes := #[] }
def k13m5 : Method := { name := "addLong", desc := "(J)V", sig := { parameters := [.long], returnType := none }, accessFlags := 2, code := some k13c5 }
def k13c6 : Code := { maxStack := 2, maxLocals := 4, code := prog_46_method_7_code, exceptionTable := #[], attributes := #[] }
def k13m6 : Method := { name := "get", desc := "(I)J", sig := { parameters := [.int], returnType := some .long }, accessFlags := 0, code := some k13c6 }
def k13c7 : Code := { maxStack := 4, maxLocals := 1, code := prog_46_method_9_code, exceptionTable := #[], attributes := #[] }
def k13m7 : Method := { name := "doubled", desc := "(I)I", sig := { parameters := [.int], returnType := some .int }, accessFlags := 8, code := some k13c7 }
def k13 : Class := { plain "com/example/restate/restate/model/LongColumn" (some 0) with
  accessFlags := 48
  interfaces := #[]
  cf := some (fileOf pool13 8 #[] #[{ accessFlags := 0, nameIndex := 5, descriptorIndex := 6, attributes := #[] }, { accessFlags := 0, nameIndex := 11, descriptorIndex := 79, attributes := #[] }, { accessFlags := 0, nameIndex := 80, descriptorIndex := 36, attributes := #[] }, { accessFlags := 10, nameIndex := 27, descriptorIndex := 28, attributes := #[] }, { accessFlags := 2, nameIndex := 31, descriptorIndex := 32, attributes := #[] }, { accessFlags := 2, nameIndex := 35, descriptorIndex := 36, attributes := #[] }, { accessFlags := 0, nameIndex := 59, descriptorIndex := 60, attributes := #[] }, { accessFlags := 8, nameIndex := 39, descriptorIndex := 40, attributes := #[] }] 48 2 #[] #[{ accessFlags := 26, nameIndex := 74, descriptorIndex := 12, attributes := #[] }, { accessFlags := 2, nameIndex := 11, descriptorIndex := 12, attributes := #[] }, { accessFlags := 2, nameIndex := 23, descriptorIndex := 24, attributes := #[] }, { accessFlags := 2, nameIndex := 15, descriptorIndex := 16, attributes := #[] }, { accessFlags := 2, nameIndex := 19, descriptorIndex := 20, attributes := #[] }])
  fields := #[{ name := "FIRST_LENGTH", type := .int, accessFlags := 26, slot := 0, constantValue := 0 }, { name := "size", type := .int, accessFlags := 2, slot := 0, constantValue := 0 }, { name := "shared", type := .long, accessFlags := 2, slot := 1, constantValue := 0 }, { name := "ints", type := (.array .int), accessFlags := 2, slot := 2, constantValue := 0 }, { name := "longs", type := (.array .long), accessFlags := 2, slot := 3, constantValue := 0 }]
  methods := #[k13m0, k13m1, k13m2, k13m3, k13m4, k13m5, k13m6, k13m7]
  instanceTypes := #[.int, .long, (.array .int), (.array .long)]
  staticTypes := #[.int]
  resolved := Array.replicate 86 none
  statics := none }

def pool14 : Array CpInfo := pool [(1, .methodref 2 3), (0, .class_ 4), (0, .nameAndType 5 6), (0, u "java/lang/Object"), (0, u "<init>"), (0, u "()V"), (0, .class_ 8), (0, u "java/util/ArrayList"), (0, .methodref 7 3), (0, .fieldref 11 12), (0, .class_ 13), (0, .nameAndType 14 15), (0, u "com/example/restate/restate/model/CensusColumns$Codes"), (0, u "values"), (0, u "Ljava/util/List;"), (0, .class_ 17), (0, u "java/util/HashMap"), (0, .methodref 16 3), (0, .fieldref 11 20), (0, .nameAndType 21 22), (0, u "places"), (0, u "Ljava/util/Map;"), (0, .class_ 24), (0, u "com/example/restate/restate/model/LongColumn"), (0, .methodref 23 3), (0, .fieldref 11 27), (0, .nameAndType 28 29), (0, u "codes"), (0, u "Lcom/example/restate/restate/model/LongColumn;"), (0, .interfaceMethodref 31 32), (0, .class_ 33), (0, .nameAndType 34 35), (0, u "java/util/Map"), (0, u "get"), (0, u "(Ljava/lang/Object;)Ljava/lang/Object;"), (0, .class_ 37), (0, u "java/lang/Integer"), (0, .interfaceMethodref 39 40), (0, .class_ 41), (0, .nameAndType 42 43), (0, u "java/util/List"), (0, u "size"), (0, u "()I"), (0, .methodref 36 45), (0, .nameAndType 46 47), (0, u "valueOf"), (0, u "(I)Ljava/lang/Integer;"), (0, .interfaceMethodref 39 49), (0, .nameAndType 50 51), (0, u "add"), (0, u "(Ljava/lang/Object;)Z"), (0, .interfaceMethodref 31 53), (0, .nameAndType 54 55), (0, u "put"), (0, u "(Ljava/lang/Object;Ljava/lang/Object;)Ljava/lang/Object;"), (0, .methodref 36 57), (0, .nameAndType 58 43), (0, u "intValue"), (0, .methodref 23 60), (0, .nameAndType 50 61), (0, u "(J)V"), (14, u "(Ljava/lang/Object;)V"), (7, .class_ 85), (0, u "com/example/restate/restate/model/CensusColumns")] 2

def k14c0 : Code := { maxStack := 3, maxLocals := 1, code := prog_33_method_1_code, exceptionTable := #[], attributes := #[] }
def k14m0 : Method := { name := "<init>", desc := "()V", sig := { parameters := [], returnType := none }, accessFlags := 2, code := some k14c0 }
def k14c1 : Code := { maxStack := 3, maxLocals := 3, code := prog_33_method_2_code, exceptionTable := #[], attributes := #[] }
def k14m1 : Method := { name := "add", desc := "(Ljava/lang/Object;)V", sig := { parameters := [(.object "java/lang/Object")], returnType := none }, accessFlags := 0, code := some k14c1 }
def k14 : Class := { plain "com/example/restate/restate/model/CensusColumns$Codes" (some 0) with
  accessFlags := 48
  interfaces := #[]
  cf := some (fileOf pool14 11 #[.nestHost 84] #[{ accessFlags := 2, nameIndex := 5, descriptorIndex := 6, attributes := #[] }, { accessFlags := 0, nameIndex := 50, descriptorIndex := 76, attributes := #[] }] 48 2 #[] #[{ accessFlags := 18, nameIndex := 14, descriptorIndex := 15, attributes := #[] }, { accessFlags := 18, nameIndex := 21, descriptorIndex := 22, attributes := #[] }, { accessFlags := 18, nameIndex := 28, descriptorIndex := 29, attributes := #[] }])
  fields := #[{ name := "values", type := (.object "java/util/List"), accessFlags := 18, slot := 0, constantValue := 0 }, { name := "places", type := (.object "java/util/Map"), accessFlags := 18, slot := 1, constantValue := 0 }, { name := "codes", type := (.object "com/example/restate/restate/model/LongColumn"), accessFlags := 18, slot := 2, constantValue := 0 }]
  methods := #[k14m0, k14m1]
  instanceTypes := #[(.object "java/util/List"), (.object "java/util/Map"), (.object "com/example/restate/restate/model/LongColumn")]
  staticTypes := #[]
  resolved := Array.replicate 88 none
  statics := none }

def pool15 : Array CpInfo := pool [(2, .class_ 4), (1, u "java/util/Map"), (0, u "get"), (0, u "(Ljava/lang/Object;)Ljava/lang/Object;"), (29, .class_ 37), (0, u "java/util/Map$Entry"), (25, u "(Ljava/lang/Object;Ljava/lang/Object;)Ljava/lang/Object;"), (5, u "put"), (23, .class_ 94), (0, u "java/lang/Object"), (38, u "values"), (0, u "()Ljava/util/Collection;")] 128

def k15m0 : Method := { name := "get", desc := "(Ljava/lang/Object;)Ljava/lang/Object;", sig := { parameters := [(.object "java/lang/Object")], returnType := some (.object "java/lang/Object") }, accessFlags := 1025, code := none }
def k15m1 : Method := { name := "put", desc := "(Ljava/lang/Object;Ljava/lang/Object;)Ljava/lang/Object;", sig := { parameters := [(.object "java/lang/Object"), (.object "java/lang/Object")], returnType := some (.object "java/lang/Object") }, accessFlags := 1025, code := none }
def k15m2 : Method := { name := "values", desc := "()Ljava/util/Collection;", sig := { parameters := [], returnType := some (.object "java/util/Collection") }, accessFlags := 1025, code := none }
def k15 : Class := { plain "java/util/Map" (some 0) with
  accessFlags := 1537
  interfaces := #[]
  cf := some (fileOf pool15 2 #[.nestMembers #[36]] #[{ accessFlags := 1025, nameIndex := 5, descriptorIndex := 6, attributes := #[] }, { accessFlags := 1025, nameIndex := 69, descriptorIndex := 63, attributes := #[] }, { accessFlags := 1025, nameIndex := 133, descriptorIndex := 134, attributes := #[] }] 1537 93 #[] #[])
  fields := #[]
  methods := #[k15m0, k15m1, k15m2]
  instanceTypes := #[]
  staticTypes := #[]
  resolved := Array.replicate 263 none
  statics := none }

def pool16 : Array CpInfo := pool [(1, .methodref 2 3), (0, .class_ 4), (0, .nameAndType 5 6), (0, u "java/lang/Object"), (0, u "<init>"), (0, u "()V"), (1, .class_ 10), (1, u "java/util/AbstractMap"), (42, .class_ 54), (0, u "java/util/Map"), (9, u "keySet"), (0, u "Ljava/util/Set;"), (0, .class_ 67), (0, u "java/util/AbstractMap$1"), (5, u "values"), (0, u "Ljava/util/Collection;"), (0, .class_ 76), (0, u "java/util/AbstractMap$2"), (104, .class_ 182), (0, u "java/util/AbstractMap$ViewCollection"), (0, .class_ 184), (0, u "java/util/AbstractMap$SimpleImmutableEntry"), (0, .class_ 186), (0, u "java/util/AbstractMap$SimpleEntry"), (0, .class_ 188), (0, u "java/util/AbstractMap$2$1"), (0, .class_ 190), (0, u "java/util/AbstractMap$1$1")] 5

def k16c0 : Code := { maxStack := 1, maxLocals := 1, code := jdk_71_method_1_code, exceptionTable := #[], attributes := #[] }
def k16m0 : Method := { name := "<init>", desc := "()V", sig := { parameters := [], returnType := none }, accessFlags := 4, code := some k16c0 }
def k16 : Class := { plain "java/util/AbstractMap" (some 0) with
  accessFlags := 1057
  interfaces := #[15]
  cf := some (fileOf pool16 8 #[.nestMembers #[181, 183, 185, 75, 187, 66, 189]] #[{ accessFlags := 4, nameIndex := 5, descriptorIndex := 6, attributes := #[] }] 1057 2 #[53] #[{ accessFlags := 128, nameIndex := 64, descriptorIndex := 65, attributes := #[] }, { accessFlags := 128, nameIndex := 73, descriptorIndex := 74, attributes := #[] }])
  fields := #[{ name := "keySet", type := (.object "java/util/Set"), accessFlags := 128, slot := 0, constantValue := 0 }, { name := "values", type := (.object "java/util/Collection"), accessFlags := 128, slot := 1, constantValue := 0 }]
  methods := #[k16m0]
  instanceTypes := #[(.object "java/util/Set"), (.object "java/util/Collection")]
  staticTypes := #[]
  resolved := Array.replicate 196 none
  statics := none }

def pool17 : Array CpInfo := pool [(33, u "(Ljava/lang/Object;)I"), (6, .class_ 41), (0, u "java/util/HashMap"), (1, .methodref 44 45), (0, .class_ 46), (0, .nameAndType 47 48), (0, u "java/util/AbstractMap"), (0, u "<init>"), (0, u "()V"), (32, .fieldref 40 82), (0, .nameAndType 83 84), (0, u "loadFactor"), (0, u "F"), (3, .fieldref 40 89), (0, .nameAndType 90 91), (0, u "threshold"), (0, u "I"), (0, .float 1061158912), (8, .class_ 103), (1, u "java/util/Map"), (0, u "size"), (0, .fieldref 40 106), (0, .nameAndType 107 108), (0, u "table"), (0, u "[Ljava/util/HashMap$Node;"), (8, .methodref 40 118), (0, .nameAndType 119 120), (0, u "resize"), (0, u "()[Ljava/util/HashMap$Node;"), (2, u "entrySet"), (25, .methodref 40 150), (0, .nameAndType 151 33), (0, u "hash"), (0, .methodref 40 153), (0, .nameAndType 154 155), (0, u "putVal"), (0, u "(ILjava/lang/Object;Ljava/lang/Object;ZZ)Ljava/lang/Object;"), (0, .fieldref 40 157), (0, .nameAndType 104 91), (0, .methodref 40 159), (0, .nameAndType 160 161), (0, u "getNode"), (0, u "(Ljava/lang/Object;)Ljava/util/HashMap$Node;"), (0, .fieldref 163 164), (0, .class_ 165), (0, .nameAndType 166 167), (0, u "java/util/HashMap$Node"), (0, u "value"), (0, u "Ljava/lang/Object;"), (0, .fieldref 163 169), (0, .nameAndType 151 91), (0, .fieldref 163 171), (0, .nameAndType 172 167), (0, u "key"), (7, .class_ 181), (0, u "java/util/HashMap$TreeNode"), (4, .methodref 40 187), (0, .nameAndType 188 189), (0, u "newNode"), (0, u "(ILjava/lang/Object;Ljava/lang/Object;Ljava/util/HashMap$Node;)Ljava/util/HashMap$Node;"), (12, .fieldref 40 203), (0, .nameAndType 204 91), (0, u "modCount"), (0, .methodref 40 206), (0, .nameAndType 207 208), (0, u "afterNodeInsertion"), (0, u "(Z)V"), (33, u "Ljava/util/Set;"), (0, .class_ 244), (0, u "java/util/HashMap$KeySet"), (18, .class_ 264), (0, u "java/util/HashMap$Values"), (3, .class_ 269), (0, u "java/util/HashMap$EntrySet"), (9, u "(Ljava/lang/Object;)Ljava/lang/Object;"), (7, u "(Ljava/lang/Object;Ljava/lang/Object;)Ljava/lang/Object;"), (46, u "get"), (11, .class_ 348), (1, u "java/util/HashMap$UnsafeHolder"), (26, .methodref 163 376), (0, .nameAndType 47 377), (0, u "(ILjava/lang/Object;Ljava/lang/Object;Ljava/util/HashMap$Node;)V"), (14, .class_ 393), (0, u "java/lang/Cloneable"), (0, .class_ 395), (0, u "java/io/Serializable"), (0, u "serialVersionUID"), (0, u "J"), (3, u "DEFAULT_INITIAL_CAPACITY"), (1, u "MAXIMUM_CAPACITY"), (0, u "DEFAULT_LOAD_FACTOR"), (0, u "TREEIFY_THRESHOLD"), (1, u "UNTREEIFY_THRESHOLD"), (1, u "MIN_TREEIFY_CAPACITY"), (60, u "put"), (125, .class_ 597), (0, u "java/util/HashMap$EntrySpliterator"), (0, .class_ 599), (0, u "java/util/HashMap$ValueSpliterator"), (0, .class_ 601), (0, u "java/util/HashMap$KeySpliterator"), (0, .class_ 603), (0, u "java/util/HashMap$HashMapSpliterator"), (0, .class_ 605), (0, u "java/util/HashMap$EntryIterator"), (0, .class_ 607), (0, u "java/util/HashMap$ValueIterator"), (0, .class_ 609), (0, u "java/util/HashMap$KeyIterator"), (0, .class_ 611), (0, u "java/util/HashMap$HashIterator")] 17

def k17c0 : Code := { maxStack := 3, maxLocals := 2, code := jdk_69_method_1_code, exceptionTable := #[], attributes := #[] }
def k17m0 : Method := { name := "hash", desc := "(Ljava/lang/Object;)I", sig := { parameters := [(.object "java/lang/Object")], returnType := some .int }, accessFlags := 24, code := some k17c0 }
def k17c1 : Code := { maxStack := 2, maxLocals := 1, code := jdk_69_method_7_code, exceptionTable := #[], attributes := #[] }
def k17m1 : Method := { name := "<init>", desc := "()V", sig := { parameters := [], returnType := none }, accessFlags := 1, code := some k17c1 }
def k17c2 : Code := { maxStack := 2, maxLocals := 3, code := jdk_69_method_12_code, exceptionTable := #[], attributes := #[] }
def k17m2 : Method := { name := "get", desc := "(Ljava/lang/Object;)Ljava/lang/Object;", sig := { parameters := [(.object "java/lang/Object")], returnType := some (.object "java/lang/Object") }, accessFlags := 1, code := some k17c2 }
def k17c3 : Code := { maxStack := 4, maxLocals := 8, code := jdk_69_method_13_code, exceptionTable := #[], attributes := #[] }
def k17m3 : Method := { name := "getNode", desc := "(Ljava/lang/Object;)Ljava/util/HashMap$Node;", sig := { parameters := [(.object "java/lang/Object")], returnType := some (.object "java/util/HashMap$Node") }, accessFlags := 16, code := some k17c3 }
def k17c4 : Code := { maxStack := 6, maxLocals := 3, code := jdk_69_method_15_code, exceptionTable := #[], attributes := #[] }
def k17m4 : Method := { name := "put", desc := "(Ljava/lang/Object;Ljava/lang/Object;)Ljava/lang/Object;", sig := { parameters := [(.object "java/lang/Object"), (.object "java/lang/Object")], returnType := some (.object "java/lang/Object") }, accessFlags := 1, code := some k17c4 }
def k17c5 : Code := { maxStack := 7, maxLocals := 13, code := jdk_69_method_16_code, exceptionTable := #[], attributes := #[] }
def k17m5 : Method := { name := "putVal", desc := "(ILjava/lang/Object;Ljava/lang/Object;ZZ)Ljava/lang/Object;", sig := { parameters := [.int, (.object "java/lang/Object"), (.object "java/lang/Object"), .boolean, .boolean], returnType := some (.object "java/lang/Object") }, accessFlags := 16, code := some k17c5 }
def k17c6 : Code := { maxStack := 5, maxLocals := 14, code := jdk_69_method_17_code, exceptionTable := #[], attributes := #[] }
def k17m6 : Method := { name := "resize", desc := "()[Ljava/util/HashMap$Node;", sig := { parameters := [], returnType := some (.array (.object "java/util/HashMap$Node")) }, accessFlags := 16, code := some k17c6 }
def k17c7 : Code := { maxStack := 6, maxLocals := 5, code := jdk_69_method_46_code, exceptionTable := #[], attributes := #[] }
def k17m7 : Method := { name := "newNode", desc := "(ILjava/lang/Object;Ljava/lang/Object;Ljava/util/HashMap$Node;)Ljava/util/HashMap$Node;", sig := { parameters := [.int, (.object "java/lang/Object"), (.object "java/lang/Object"), (.object "java/util/HashMap$Node")], returnType := some (.object "java/util/HashMap$Node") }, accessFlags := 0, code := some k17c7 }
def k17c8 : Code := { maxStack := 0, maxLocals := 2, code := jdk_69_method_52_code, exceptionTable := #[], attributes := #[] }
def k17m8 : Method := { name := "afterNodeInsertion", desc := "(Z)V", sig := { parameters := [.boolean], returnType := none }, accessFlags := 0, code := some k17c8 }
def k17 : Class := { plain "java/util/HashMap" (some 16) with
  accessFlags := 33
  interfaces := #[15, 10, 11]
  cf := some (fileOf pool17 40 #[.nestMembers #[180, 596, 598, 600, 602, 604, 606, 608, 610, 346, 268, 263, 243, 163]] #[{ accessFlags := 24, nameIndex := 151, descriptorIndex := 33, attributes := #[] }, { accessFlags := 1, nameIndex := 47, descriptorIndex := 48, attributes := #[] }, { accessFlags := 1, nameIndex := 334, descriptorIndex := 279, attributes := #[] }, { accessFlags := 16, nameIndex := 160, descriptorIndex := 161, attributes := #[] }, { accessFlags := 1, nameIndex := 470, descriptorIndex := 287, attributes := #[] }, { accessFlags := 16, nameIndex := 154, descriptorIndex := 155, attributes := #[] }, { accessFlags := 16, nameIndex := 119, descriptorIndex := 120, attributes := #[] }, { accessFlags := 0, nameIndex := 188, descriptorIndex := 189, attributes := #[] }, { accessFlags := 0, nameIndex := 207, descriptorIndex := 208, attributes := #[] }] 33 44 #[101, 392, 394] #[{ accessFlags := 26, nameIndex := 396, descriptorIndex := 397, attributes := #[] }, { accessFlags := 24, nameIndex := 401, descriptorIndex := 91, attributes := #[] }, { accessFlags := 24, nameIndex := 403, descriptorIndex := 91, attributes := #[] }, { accessFlags := 24, nameIndex := 404, descriptorIndex := 84, attributes := #[] }, { accessFlags := 24, nameIndex := 405, descriptorIndex := 91, attributes := #[] }, { accessFlags := 24, nameIndex := 407, descriptorIndex := 91, attributes := #[] }, { accessFlags := 24, nameIndex := 409, descriptorIndex := 91, attributes := #[] }, { accessFlags := 128, nameIndex := 107, descriptorIndex := 108, attributes := #[] }, { accessFlags := 128, nameIndex := 123, descriptorIndex := 242, attributes := #[] }, { accessFlags := 128, nameIndex := 104, descriptorIndex := 91, attributes := #[] }, { accessFlags := 128, nameIndex := 204, descriptorIndex := 91, attributes := #[] }, { accessFlags := 0, nameIndex := 90, descriptorIndex := 91, attributes := #[] }, { accessFlags := 16, nameIndex := 83, descriptorIndex := 84, attributes := #[] }])
  fields := #[{ name := "serialVersionUID", type := .long, accessFlags := 26, slot := 0, constantValue := 0 }, { name := "DEFAULT_INITIAL_CAPACITY", type := .int, accessFlags := 24, slot := 1, constantValue := 0 }, { name := "MAXIMUM_CAPACITY", type := .int, accessFlags := 24, slot := 2, constantValue := 0 }, { name := "DEFAULT_LOAD_FACTOR", type := .float, accessFlags := 24, slot := 3, constantValue := 0 }, { name := "TREEIFY_THRESHOLD", type := .int, accessFlags := 24, slot := 4, constantValue := 0 }, { name := "UNTREEIFY_THRESHOLD", type := .int, accessFlags := 24, slot := 5, constantValue := 0 }, { name := "MIN_TREEIFY_CAPACITY", type := .int, accessFlags := 24, slot := 6, constantValue := 0 }, { name := "table", type := (.array (.object "java/util/HashMap$Node")), accessFlags := 128, slot := 2, constantValue := 0 }, { name := "entrySet", type := (.object "java/util/Set"), accessFlags := 128, slot := 3, constantValue := 0 }, { name := "size", type := .int, accessFlags := 128, slot := 4, constantValue := 0 }, { name := "modCount", type := .int, accessFlags := 128, slot := 5, constantValue := 0 }, { name := "threshold", type := .int, accessFlags := 0, slot := 6, constantValue := 0 }, { name := "loadFactor", type := .float, accessFlags := 16, slot := 7, constantValue := 0 }]
  methods := #[k17m0, k17m1, k17m2, k17m3, k17m4, k17m5, k17m6, k17m7, k17m8]
  instanceTypes := #[(.object "java/util/Set"), (.object "java/util/Collection"), (.array (.object "java/util/HashMap$Node")), (.object "java/util/Set"), .int, .int, .int, .float]
  staticTypes := #[.long, .int, .int, .float, .int, .int, .int]
  resolved := Array.replicate 629 none
  statics := none }

def pool18 : Array CpInfo := pool [(1, .methodref 2 3), (0, .class_ 4), (0, .nameAndType 5 6), (0, u "java/lang/Object"), (0, u "<init>"), (0, u "()V"), (0, .class_ 8), (0, u "com/example/restate/restate/model/LongColumn"), (0, .methodref 7 3), (0, .fieldref 11 12), (0, .class_ 13), (0, .nameAndType 14 15), (0, u "com/example/restate/restate/model/AmountColumn"), (0, u "cents"), (0, u "Lcom/example/restate/restate/model/LongColumn;"), (0, .class_ 17), (0, u "java/util/HashMap"), (0, .methodref 16 3), (0, .fieldref 11 20), (0, .nameAndType 21 22), (0, u "others"), (0, u "Ljava/util/Map;"), (0, .methodref 7 24), (0, .nameAndType 25 26), (0, u "size"), (0, u "()I"), (0, .methodref 11 28), (0, .nameAndType 29 6), (0, u "checkOpen"), (22, .methodref 7 53), (0, .nameAndType 54 55), (0, u "add"), (0, u "(J)V"), (9, .fieldref 11 66), (0, .nameAndType 67 68), (0, u "complete"), (0, u "Z"), (34, u "NONE"), (0, u "J"), (1, u "OTHER"), (6, u "addCents")] 25

def k18c0 : Code := { maxStack := 3, maxLocals := 1, code := prog_28_method_1_code, exceptionTable := #[], attributes := #[] }
def k18m0 : Method := { name := "<init>", desc := "()V", sig := { parameters := [], returnType := none }, accessFlags := 1, code := some k18c0 }
def k18c1 : Code := { maxStack := 1, maxLocals := 1, code := prog_28_method_2_code, exceptionTable := #[], attributes := #[] }
def k18m1 : Method := { name := "size", desc := "()I", sig := { parameters := [], returnType := some .int }, accessFlags := 1, code := some k18c1 }
def k18c2 : Code := { maxStack := 4, maxLocals := 3, code := prog_28_method_4_code, exceptionTable := #[], attributes := #[] }
def k18m2 : Method := { name := "addCents", desc := "(J)V", sig := { parameters := [.long], returnType := none }, accessFlags := 1, code := some k18c2 }
def k18c3 : Code := { maxStack := 3, maxLocals := 1, code := prog_28_method_5_code, exceptionTable := #[], attributes := #[] }
def k18m3 : Method := { name := "checkOpen", desc := "()V", sig := { parameters := [], returnType := none }, accessFlags := 2, code := some k18c3 }
def k18 : Class := { plain "com/example/restate/restate/model/AmountColumn" (some 0) with
  accessFlags := 49
  interfaces := #[]
  cf := some (fileOf pool18 11 #[] #[{ accessFlags := 1, nameIndex := 5, descriptorIndex := 6, attributes := #[] }, { accessFlags := 1, nameIndex := 25, descriptorIndex := 26, attributes := #[] }, { accessFlags := 1, nameIndex := 113, descriptorIndex := 55, attributes := #[] }, { accessFlags := 2, nameIndex := 29, descriptorIndex := 6, attributes := #[] }] 49 2 #[] #[{ accessFlags := 26, nameIndex := 103, descriptorIndex := 104, attributes := #[] }, { accessFlags := 26, nameIndex := 106, descriptorIndex := 104, attributes := #[] }, { accessFlags := 18, nameIndex := 14, descriptorIndex := 15, attributes := #[] }, { accessFlags := 18, nameIndex := 21, descriptorIndex := 22, attributes := #[] }, { accessFlags := 2, nameIndex := 67, descriptorIndex := 68, attributes := #[] }])
  fields := #[{ name := "NONE", type := .long, accessFlags := 26, slot := 0, constantValue := 0 }, { name := "OTHER", type := .long, accessFlags := 26, slot := 1, constantValue := 0 }, { name := "cents", type := (.object "com/example/restate/restate/model/LongColumn"), accessFlags := 18, slot := 0, constantValue := 0 }, { name := "others", type := (.object "java/util/Map"), accessFlags := 18, slot := 1, constantValue := 0 }, { name := "complete", type := .boolean, accessFlags := 2, slot := 2, constantValue := 0 }]
  methods := #[k18m0, k18m1, k18m2, k18m3]
  instanceTypes := #[(.object "com/example/restate/restate/model/LongColumn"), (.object "java/util/Map"), .boolean]
  staticTypes := #[.long, .long]
  resolved := Array.replicate 139 none
  statics := none }

def pool19 : Array CpInfo := pool [(2, .class_ 4), (1, u "java/util/SequencedMap"), (38, .class_ 44), (0, u "java/util/SequencedMap$1SeqKeySet"), (3, .class_ 49), (0, u "java/util/SequencedMap$1SeqValues"), (1, .class_ 52), (0, u "java/util/SequencedMap$1SeqEntrySet"), (1, .class_ 55), (0, u "java/lang/Object"), (0, .class_ 57), (0, u "java/util/Map")] 48

def k19 : Class := { plain "java/util/SequencedMap" (some 0) with
  accessFlags := 1537
  interfaces := #[15]
  cf := some (fileOf pool19 2 #[.nestMembers #[51, 48, 43]] #[] 1537 54 #[56] #[])
  fields := #[]
  methods := #[]
  instanceTypes := #[]
  staticTypes := #[]
  resolved := Array.replicate 106 none
  statics := none }

def pool20 : Array CpInfo := pool [(1, .fieldref 2 3), (0, .class_ 4), (0, .nameAndType 5 6), (0, u "java/util/LinkedHashMap"), (0, u "putMode"), (0, u "I"), (0, .fieldref 2 8), (0, .nameAndType 9 10), (0, u "head"), (0, u "Ljava/util/LinkedHashMap$Entry;"), (2, u "tail"), (1, .class_ 17), (1, u "java/util/LinkedHashMap$Entry"), (5, .class_ 25), (1, u "java/util/HashMap"), (1, u "()V"), (2, u "<init>"), (33, .fieldref 2 65), (0, .nameAndType 66 67), (0, u "accessOrder"), (0, u "Z"), (19, .methodref 23 88), (0, .nameAndType 30 27), (32, .class_ 122), (0, u "java/util/LinkedHashMap$LinkedKeySet"), (1, .nameAndType 30 125), (0, u "(Ljava/util/LinkedHashMap;Z)V"), (8, u "([Ljava/lang/Object;Z)[Ljava/lang/Object;"), (0, .methodref 2 136), (0, .nameAndType 137 138), (0, u "sequencedValues"), (0, u "()Ljava/util/SequencedCollection;"), (0, .fieldref 2 140), (0, .nameAndType 141 142), (0, u "values"), (0, u "Ljava/util/Collection;"), (0, .class_ 144), (0, u "java/util/LinkedHashMap$LinkedValues"), (0, .methodref 143 124), (8, .class_ 155), (0, u "java/util/LinkedHashMap$LinkedEntrySet"), (44, .class_ 201), (0, u "java/util/LinkedHashMap$ReversedLinkedHashMapView"), (3, .class_ 206), (0, u "java/util/SequencedMap"), (0, u "serialVersionUID"), (0, u "J"), (5, u "PUT_NORM"), (1, u "PUT_FIRST"), (1, u "PUT_LAST"), (103, u "valuesToArray"), (0, u "()Ljava/util/Collection;"), (38, .class_ 363), (0, u "java/util/LinkedHashMap$LinkedEntryIterator"), (0, .class_ 365), (0, u "java/util/LinkedHashMap$LinkedValueIterator"), (0, .class_ 367), (0, u "java/util/LinkedHashMap$LinkedKeyIterator"), (0, .class_ 369), (0, u "java/util/LinkedHashMap$LinkedHashIterator")] 16

def k20c0 : Code := { maxStack := 2, maxLocals := 1, code := jdk_94_method_16_code, exceptionTable := #[], attributes := #[] }
def k20m0 : Method := { name := "<init>", desc := "()V", sig := { parameters := [], returnType := none }, accessFlags := 1, code := some k20c0 }
def k20c1 : Code := { maxStack := 3, maxLocals := 6, code := jdk_94_method_29_code, exceptionTable := #[], attributes := #[] }
def k20m1 : Method := { name := "valuesToArray", desc := "([Ljava/lang/Object;Z)[Ljava/lang/Object;", sig := { parameters := [(.array (.object "java/lang/Object")), .boolean], returnType := some (.array (.object "java/lang/Object")) }, accessFlags := 16, code := some k20c1 }
def k20c2 : Code := { maxStack := 1, maxLocals := 1, code := jdk_94_method_30_code, exceptionTable := #[], attributes := #[] }
def k20m2 : Method := { name := "values", desc := "()Ljava/util/Collection;", sig := { parameters := [], returnType := some (.object "java/util/Collection") }, accessFlags := 1, code := some k20c2 }
def k20c3 : Code := { maxStack := 4, maxLocals := 3, code := jdk_94_method_31_code, exceptionTable := #[], attributes := #[] }
def k20m3 : Method := { name := "sequencedValues", desc := "()Ljava/util/SequencedCollection;", sig := { parameters := [], returnType := some (.object "java/util/SequencedCollection") }, accessFlags := 1, code := some k20c3 }
def k20 : Class := { plain "java/util/LinkedHashMap" (some 17) with
  accessFlags := 33
  interfaces := #[19]
  cf := some (fileOf pool20 2 #[.nestMembers #[200, 362, 364, 366, 368, 154, 143, 121, 15]] #[{ accessFlags := 1, nameIndex := 30, descriptorIndex := 27, attributes := #[] }, { accessFlags := 16, nameIndex := 322, descriptorIndex := 134, attributes := #[] }, { accessFlags := 1, nameIndex := 141, descriptorIndex := 323, attributes := #[] }, { accessFlags := 1, nameIndex := 137, descriptorIndex := 138, attributes := #[] }] 33 23 #[205] #[{ accessFlags := 26, nameIndex := 207, descriptorIndex := 208, attributes := #[] }, { accessFlags := 128, nameIndex := 9, descriptorIndex := 10, attributes := #[] }, { accessFlags := 128, nameIndex := 13, descriptorIndex := 10, attributes := #[] }, { accessFlags := 16, nameIndex := 66, descriptorIndex := 67, attributes := #[] }, { accessFlags := 24, nameIndex := 214, descriptorIndex := 6, attributes := #[] }, { accessFlags := 24, nameIndex := 216, descriptorIndex := 6, attributes := #[] }, { accessFlags := 24, nameIndex := 218, descriptorIndex := 6, attributes := #[] }, { accessFlags := 128, nameIndex := 5, descriptorIndex := 6, attributes := #[] }])
  fields := #[{ name := "serialVersionUID", type := .long, accessFlags := 26, slot := 0, constantValue := 0 }, { name := "head", type := (.object "java/util/LinkedHashMap$Entry"), accessFlags := 128, slot := 8, constantValue := 0 }, { name := "tail", type := (.object "java/util/LinkedHashMap$Entry"), accessFlags := 128, slot := 9, constantValue := 0 }, { name := "accessOrder", type := .boolean, accessFlags := 16, slot := 10, constantValue := 0 }, { name := "PUT_NORM", type := .int, accessFlags := 24, slot := 1, constantValue := 0 }, { name := "PUT_FIRST", type := .int, accessFlags := 24, slot := 2, constantValue := 0 }, { name := "PUT_LAST", type := .int, accessFlags := 24, slot := 3, constantValue := 0 }, { name := "putMode", type := .int, accessFlags := 128, slot := 11, constantValue := 0 }]
  methods := #[k20m0, k20m1, k20m2, k20m3]
  instanceTypes := #[(.object "java/util/Set"), (.object "java/util/Collection"), (.array (.object "java/util/HashMap$Node")), (.object "java/util/Set"), .int, .int, .int, .float, (.object "java/util/LinkedHashMap$Entry"), (.object "java/util/LinkedHashMap$Entry"), .boolean, .int]
  staticTypes := #[.long, .int, .int, .int]
  resolved := Array.replicate 386 none
  statics := none }

def pool21 : Array CpInfo := pool [(2, .class_ 4), (1, u "java/lang/Object"), (0, u "<init>"), (0, u "()V"), (3, .class_ 11), (0, u "java/util/ImmutableCollections$List12"), (0, .class_ 13), (0, u "java/util/ImmutableCollections$ListN"), (3, u "Z"), (18, u "([Ljava/lang/Object;)Ljava/util/List;"), (0, .methodref 38 39), (0, .class_ 40), (0, .nameAndType 41 42), (0, u "java/util/Objects"), (0, u "requireNonNull"), (0, u "(Ljava/lang/Object;)Ljava/lang/Object;"), (0, .methodref 12 44), (0, .nameAndType 5 45), (0, u "([Ljava/lang/Object;Z)V"), (0, .fieldref 47 48), (0, .class_ 49), (0, .nameAndType 50 17), (0, u "java/util/ImmutableCollections"), (0, u "$assertionsDisabled"), (5, u "[Ljava/lang/Object;"), (5, u "EMPTY_LIST"), (0, u "Ljava/util/ImmutableCollections$ListN;"), (8, u "EMPTY_LIST_NULLS"), (22, u "SALT32L"), (0, u "J"), (2, u "REVERSE"), (6, u "archivedObjects"), (2, u "EMPTY"), (0, u "Ljava/lang/Object;"), (0, .class_ 112), (0, u "java/util/ImmutableCollections$SetN"), (5, u "EMPTY_SET"), (0, u "Ljava/util/ImmutableCollections$SetN;"), (0, .class_ 121), (0, u "java/util/ImmutableCollections$MapN"), (3, u "EMPTY_MAP"), (0, u "Ljava/util/ImmutableCollections$MapN;"), (4, u "EXPAND_FACTOR"), (0, u "I"), (26, u "listFromTrustedArray"), (9, .class_ 170), (0, u "java/util/ImmutableCollections$MapN$MapNIterator"), (0, .class_ 172), (0, u "java/util/ImmutableCollections$MapN$1"), (0, .class_ 174), (0, u "java/util/ImmutableCollections$Map1"), (0, .class_ 176), (0, u "java/util/ImmutableCollections$AbstractImmutableMap"), (0, .class_ 178), (0, u "java/util/ImmutableCollections$SetN$SetNIterator"), (0, .class_ 180), (0, u "java/util/ImmutableCollections$Set12"), (0, .class_ 182), (0, u "java/util/ImmutableCollections$Set12$1"), (0, .class_ 184), (0, u "java/util/ImmutableCollections$AbstractImmutableSet"), (0, .class_ 186), (0, u "java/util/ImmutableCollections$SubList"), (0, .class_ 188), (0, u "java/util/ImmutableCollections$ListItr"), (0, .class_ 190), (0, u "java/util/ImmutableCollections$AbstractImmutableList"), (0, .class_ 192), (0, u "java/util/ImmutableCollections$AbstractImmutableCollection"), (0, .class_ 194), (0, u "java/util/ImmutableCollections$Access"), (0, .class_ 196), (0, u "java/util/ImmutableCollections$Access$1")] 16

def k21m0 : Method := { name := "<init>", desc := "()V", sig := { parameters := [], returnType := none }, accessFlags := 2, code := none }
def k21c1 : Code := { maxStack := 5, maxLocals := 5, code := jdk_56_method_5_code, exceptionTable := #[], attributes := #[] }
def k21m1 : Method := { name := "listFromTrustedArray", desc := "([Ljava/lang/Object;)Ljava/util/List;", sig := { parameters := [(.array (.object "java/lang/Object"))], returnType := some (.object "java/util/List") }, accessFlags := 136, code := some k21c1 }
def k21 : Class := { plain "java/util/ImmutableCollections" (some 0) with
  accessFlags := 32
  interfaces := #[]
  cf := some (fileOf pool21 47 #[.nestMembers #[120, 169, 171, 173, 175, 111, 177, 179, 181, 183, 12, 10, 185, 187, 189, 191, 193, 195]] #[{ accessFlags := 2, nameIndex := 5, descriptorIndex := 6, attributes := #[] }, { accessFlags := 136, nameIndex := 159, descriptorIndex := 36, attributes := #[] }] 32 2 #[] #[{ accessFlags := 26, nameIndex := 95, descriptorIndex := 96, attributes := #[] }, { accessFlags := 26, nameIndex := 99, descriptorIndex := 17, attributes := #[] }, { accessFlags := 10, nameIndex := 106, descriptorIndex := 56, attributes := #[] }, { accessFlags := 26, nameIndex := 109, descriptorIndex := 110, attributes := #[] }, { accessFlags := 24, nameIndex := 62, descriptorIndex := 63, attributes := #[] }, { accessFlags := 24, nameIndex := 72, descriptorIndex := 63, attributes := #[] }, { accessFlags := 24, nameIndex := 118, descriptorIndex := 119, attributes := #[] }, { accessFlags := 24, nameIndex := 125, descriptorIndex := 126, attributes := #[] }, { accessFlags := 24, nameIndex := 131, descriptorIndex := 132, attributes := #[] }, { accessFlags := 4120, nameIndex := 50, descriptorIndex := 17, attributes := #[] }])
  fields := #[{ name := "SALT32L", type := .long, accessFlags := 26, slot := 0, constantValue := 0 }, { name := "REVERSE", type := .boolean, accessFlags := 26, slot := 1, constantValue := 0 }, { name := "archivedObjects", type := (.array (.object "java/lang/Object")), accessFlags := 10, slot := 2, constantValue := 0 }, { name := "EMPTY", type := (.object "java/lang/Object"), accessFlags := 26, slot := 3, constantValue := 0 }, { name := "EMPTY_LIST", type := (.object "java/util/ImmutableCollections$ListN"), accessFlags := 24, slot := 4, constantValue := 0 }, { name := "EMPTY_LIST_NULLS", type := (.object "java/util/ImmutableCollections$ListN"), accessFlags := 24, slot := 5, constantValue := 0 }, { name := "EMPTY_SET", type := (.object "java/util/ImmutableCollections$SetN"), accessFlags := 24, slot := 6, constantValue := 0 }, { name := "EMPTY_MAP", type := (.object "java/util/ImmutableCollections$MapN"), accessFlags := 24, slot := 7, constantValue := 0 }, { name := "EXPAND_FACTOR", type := .int, accessFlags := 24, slot := 8, constantValue := 0 }, { name := "$assertionsDisabled", type := .boolean, accessFlags := 4120, slot := 9, constantValue := 0 }]
  methods := #[k21m0, k21m1]
  instanceTypes := #[]
  staticTypes := #[.long, .boolean, (.array (.object "java/lang/Object")), (.object "java/lang/Object"), (.object "java/util/ImmutableCollections$ListN"), (.object "java/util/ImmutableCollections$ListN"), (.object "java/util/ImmutableCollections$SetN"), (.object "java/util/ImmutableCollections$MapN"), .int, .boolean]
  resolved := Array.replicate 213 none
  statics := some 1 }

def pool22 : Array CpInfo := pool [(2, .class_ 4), (1, u "java/lang/Object"), (0, u "<init>"), (0, u "()V"), (35, .class_ 44), (1, u "java/util/Objects"), (0, u "requireNonNull"), (0, u "(Ljava/lang/Object;)Ljava/lang/Object;"), (58, .methodref 106 107), (0, .class_ 108), (0, .nameAndType 109 110), (0, u "jdk/internal/util/Preconditions"), (0, u "checkIndex"), (0, u "(IILjava/util/function/BiFunction;)I"), (60, u "(II)I")] 12

def k22m0 : Method := { name := "<init>", desc := "()V", sig := { parameters := [], returnType := none }, accessFlags := 2, code := none }
def k22c1 : Code := { maxStack := 2, maxLocals := 1, code := jdk_31_method_10_code, exceptionTable := #[], attributes := #[] }
def k22m1 : Method := { name := "requireNonNull", desc := "(Ljava/lang/Object;)Ljava/lang/Object;", sig := { parameters := [(.object "java/lang/Object")], returnType := some (.object "java/lang/Object") }, accessFlags := 9, code := some k22c1 }
def k22c2 : Code := { maxStack := 3, maxLocals := 2, code := jdk_31_method_17_code, exceptionTable := #[], attributes := #[] }
def k22m2 : Method := { name := "checkIndex", desc := "(II)I", sig := { parameters := [.int, .int], returnType := some .int }, accessFlags := 9, code := some k22c2 }
def k22 : Class := { plain "java/util/Objects" (some 0) with
  accessFlags := 49
  interfaces := #[]
  cf := some (fileOf pool22 42 #[] #[{ accessFlags := 2, nameIndex := 5, descriptorIndex := 6, attributes := #[] }, { accessFlags := 9, nameIndex := 45, descriptorIndex := 46, attributes := #[] }, { accessFlags := 9, nameIndex := 109, descriptorIndex := 171, attributes := #[] }] 49 2 #[] #[])
  fields := #[]
  methods := #[k22m0, k22m1, k22m2]
  instanceTypes := #[]
  staticTypes := #[]
  resolved := Array.replicate 184 none
  statics := none }

def pool23 : Array CpInfo := pool [(1, .methodref 2 3), (0, .class_ 4), (0, .nameAndType 5 6), (0, u "java/util/AbstractCollection"), (0, u "<init>"), (0, u "()V"), (1, .class_ 10), (1, u "java/util/ImmutableCollections"), (2, .class_ 14), (0, u "java/util/ImmutableCollections$AbstractImmutableCollection")] 41

def k23c0 : Code := { maxStack := 1, maxLocals := 1, code := jdk_47_method_1_code, exceptionTable := #[], attributes := #[] }
def k23m0 : Method := { name := "<init>", desc := "()V", sig := { parameters := [], returnType := none }, accessFlags := 0, code := some k23c0 }
def k23 : Class := { plain "java/util/ImmutableCollections$AbstractImmutableCollection" (some 5) with
  accessFlags := 1056
  interfaces := #[]
  cf := some (fileOf pool23 13 #[.nestHost 8] #[{ accessFlags := 0, nameIndex := 5, descriptorIndex := 6, attributes := #[] }] 1056 2 #[] #[])
  fields := #[]
  methods := #[k23m0]
  instanceTypes := #[]
  staticTypes := #[]
  resolved := Array.replicate 56 none
  statics := none }

def pool24 : Array CpInfo := pool [(1, .methodref 2 3), (0, .class_ 4), (0, .nameAndType 5 6), (0, u "java/util/ImmutableCollections$AbstractImmutableCollection"), (0, u "<init>"), (0, u "()V"), (1, .class_ 10), (1, u "java/util/ImmutableCollections"), (3, .class_ 16), (1, u "java/util/ImmutableCollections$AbstractImmutableList"), (60, .class_ 78), (0, u "java/util/List"), (45, .class_ 125), (0, u "java/util/RandomAccess")] 70

def k24c0 : Code := { maxStack := 1, maxLocals := 1, code := jdk_46_method_1_code, exceptionTable := #[], attributes := #[] }
def k24m0 : Method := { name := "<init>", desc := "()V", sig := { parameters := [], returnType := none }, accessFlags := 0, code := some k24c0 }
def k24 : Class := { plain "java/util/ImmutableCollections$AbstractImmutableList" (some 23) with
  accessFlags := 1056
  interfaces := #[7, 9]
  cf := some (fileOf pool24 14 #[.nestHost 8] #[{ accessFlags := 0, nameIndex := 5, descriptorIndex := 6, attributes := #[] }] 1056 2 #[77, 124] #[])
  fields := #[]
  methods := #[k24m0]
  instanceTypes := #[]
  staticTypes := #[]
  resolved := Array.replicate 196 none
  statics := none }

def pool25 : Array CpInfo := pool [(1, .methodref 2 3), (0, .class_ 4), (0, .nameAndType 5 6), (0, u "java/util/ImmutableCollections$AbstractImmutableList"), (0, u "<init>"), (0, u "()V"), (0, .fieldref 8 9), (0, .class_ 10), (0, .nameAndType 11 12), (0, u "java/util/ImmutableCollections$ListN"), (0, u "elements"), (0, u "[Ljava/lang/Object;"), (0, .fieldref 8 14), (0, .nameAndType 15 16), (0, u "allowNulls"), (0, u "Z"), (12, .methodref 30 31), (0, .class_ 32), (0, .nameAndType 33 34), (0, u "java/util/Arrays"), (0, u "copyOf"), (0, u "([Ljava/lang/Object;I)[Ljava/lang/Object;"), (24, .class_ 60), (0, u "java/io/Serializable"), (4, u "([Ljava/lang/Object;Z)V"), (29, u "toArray"), (0, u "()[Ljava/lang/Object;"), (17, .class_ 115), (0, u "java/util/ImmutableCollections")] 3

def k25c0 : Code := { maxStack := 2, maxLocals := 3, code := jdk_45_method_1_code, exceptionTable := #[], attributes := #[] }
def k25m0 : Method := { name := "<init>", desc := "([Ljava/lang/Object;Z)V", sig := { parameters := [(.array (.object "java/lang/Object")), .boolean], returnType := none }, accessFlags := 2, code := some k25c0 }
def k25c1 : Code := { maxStack := 2, maxLocals := 1, code := jdk_45_method_7_code, exceptionTable := #[], attributes := #[] }
def k25m1 : Method := { name := "toArray", desc := "()[Ljava/lang/Object;", sig := { parameters := [], returnType := some (.array (.object "java/lang/Object")) }, accessFlags := 1, code := some k25c1 }
def k25 : Class := { plain "java/util/ImmutableCollections$ListN" (some 24) with
  accessFlags := 48
  interfaces := #[11]
  cf := some (fileOf pool25 8 #[.nestHost 114] #[{ accessFlags := 2, nameIndex := 5, descriptorIndex := 65, attributes := #[] }, { accessFlags := 1, nameIndex := 95, descriptorIndex := 96, attributes := #[] }] 48 2 #[59] #[{ accessFlags := 18, nameIndex := 11, descriptorIndex := 12, attributes := #[] }, { accessFlags := 18, nameIndex := 15, descriptorIndex := 16, attributes := #[] }])
  fields := #[{ name := "elements", type := (.array (.object "java/lang/Object")), accessFlags := 18, slot := 0, constantValue := 0 }, { name := "allowNulls", type := .boolean, accessFlags := 18, slot := 1, constantValue := 0 }]
  methods := #[k25m0, k25m1]
  instanceTypes := #[(.array (.object "java/lang/Object")), .boolean]
  staticTypes := #[]
  resolved := Array.replicate 119 none
  mirror := some 6
  statics := none }

def pool26 : Array CpInfo := pool [(2, .class_ 4), (1, u "java/lang/Object"), (0, u "<init>"), (0, u "()V"), (5, u "([IIII)V"), (0, .methodref 14 15), (0, .class_ 16), (0, .nameAndType 17 18), (0, u "java/util/Arrays"), (0, u "rangeCheck"), (0, u "(III)V"), (55, .class_ 76), (1, u "java/util/Arrays$NaturalOrder"), (9, .methodref 2 87), (0, .nameAndType 88 89), (0, u "getClass"), (0, u "()Ljava/lang/Class;"), (20, .class_ 111), (0, u "[Ljava/lang/Object;"), (1, .class_ 115), (1, u "java/util/Arrays$LegacyMergeSort"), (1, u "Z"), (32, .methodref 151 152), (0, .class_ 153), (0, .nameAndType 154 155), (0, u "java/lang/System"), (0, u "arraycopy"), (0, u "(Ljava/lang/Object;ILjava/lang/Object;II)V"), (144, .methodref 14 301), (0, .nameAndType 302 303), (0, u "copyOf"), (0, u "([Ljava/lang/Object;ILjava/lang/Class;)[Ljava/lang/Object;"), (0, .methodref 305 306), (0, .class_ 307), (0, .nameAndType 308 309), (0, u "java/lang/Math"), (0, u "min"), (0, u "(II)I"), (65, .class_ 376), (0, u "java/util/Arrays$ArrayList"), (68, u "$assertionsDisabled"), (269, u "MIN_ARRAY_SORT_GRAN"), (0, u "I"), (2, u "INSERTIONSORT_THRESHOLD"), (120, u "fill"), (19, u "([Ljava/lang/Object;I)[Ljava/lang/Object;"), (114, .class_ 976), (0, u "java/util/Arrays$ArrayItr")] 52

def k26m0 : Method := { name := "<init>", desc := "()V", sig := { parameters := [], returnType := none }, accessFlags := 2, code := none }
def k26c1 : Code := { maxStack := 4, maxLocals := 3, code := jdk_65_method_30_code, exceptionTable := #[], attributes := #[] }
def k26m1 : Method := { name := "rangeCheck", desc := "(III)V", sig := { parameters := [.int, .int, .int], returnType := none }, accessFlags := 8, code := some k26c1 }
def k26c2 : Code := { maxStack := 3, maxLocals := 5, code := jdk_65_method_104_code, exceptionTable := #[], attributes := #[] }
def k26m2 : Method := { name := "fill", desc := "([IIII)V", sig := { parameters := [(.array .int), .int, .int, .int], returnType := none }, accessFlags := 9, code := some k26c2 }
def k26c3 : Code := { maxStack := 3, maxLocals := 2, code := jdk_65_method_119_code, exceptionTable := #[], attributes := #[] }
def k26m3 : Method := { name := "copyOf", desc := "([Ljava/lang/Object;I)[Ljava/lang/Object;", sig := { parameters := [(.array (.object "java/lang/Object")), .int], returnType := some (.array (.object "java/lang/Object")) }, accessFlags := 9, code := some k26c3 }
def k26c4 : Code := { maxStack := 6, maxLocals := 4, code := jdk_65_method_120_code, exceptionTable := #[], attributes := #[] }
def k26m4 : Method := { name := "copyOf", desc := "([Ljava/lang/Object;ILjava/lang/Class;)[Ljava/lang/Object;", sig := { parameters := [(.array (.object "java/lang/Object")), .int, (.object "java/lang/Class")], returnType := some (.array (.object "java/lang/Object")) }, accessFlags := 9, code := some k26c4 }
def k26 : Class := { plain "java/util/Arrays" (some 0) with
  accessFlags := 49
  interfaces := #[]
  cf := some (fileOf pool26 14 #[.nestMembers #[975, 375, 113, 74]] #[{ accessFlags := 2, nameIndex := 5, descriptorIndex := 6, attributes := #[] }, { accessFlags := 8, nameIndex := 17, descriptorIndex := 18, attributes := #[] }, { accessFlags := 9, nameIndex := 840, descriptorIndex := 12, attributes := #[] }, { accessFlags := 9, nameIndex := 302, descriptorIndex := 860, attributes := #[] }, { accessFlags := 9, nameIndex := 302, descriptorIndex := 303, attributes := #[] }] 49 2 #[] #[{ accessFlags := 26, nameIndex := 715, descriptorIndex := 716, attributes := #[] }, { accessFlags := 26, nameIndex := 719, descriptorIndex := 716, attributes := #[] }, { accessFlags := 4120, nameIndex := 445, descriptorIndex := 117, attributes := #[] }])
  fields := #[{ name := "MIN_ARRAY_SORT_GRAN", type := .int, accessFlags := 26, slot := 0, constantValue := 0 }, { name := "INSERTIONSORT_THRESHOLD", type := .int, accessFlags := 26, slot := 1, constantValue := 0 }, { name := "$assertionsDisabled", type := .boolean, accessFlags := 4120, slot := 2, constantValue := 0 }]
  methods := #[k26m0, k26m1, k26m2, k26m3, k26m4]
  instanceTypes := #[]
  staticTypes := #[.int, .int, .boolean]
  resolved := Array.replicate 1029 none
  statics := none }

def pool27 : Array CpInfo := pool [(1, .class_ 2), (0, u "java/lang/Math"), (1, .class_ 6), (1, u "java/lang/Object"), (0, u "<init>"), (0, u "()V"), (89, .class_ 100), (1, u "java/lang/Math$RandomNumberGeneratorHolder"), (20, u "(JJ)J"), (50, u "negativeZeroFloatBits"), (0, u "J"), (2, u "negativeZeroDoubleBits"), (21, u "max"), (2, u "min"), (43, u "$assertionsDisabled"), (0, u "Z"), (88, u "(II)I"), (2, u "twoToTheDoubleScaleDown"), (0, u "D"), (4, u "twoToTheDoubleScaleUp"), (9, u "E"), (3, u "PI"), (2, u "TAU"), (2, u "DEGREES_TO_RADIANS"), (0, u "RADIANS_TO_DEGREES"), (27, u "addExact")] 66

def k27m0 : Method := { name := "<init>", desc := "()V", sig := { parameters := [], returnType := none }, accessFlags := 2, code := none }
def k27c1 : Code := { maxStack := 3, maxLocals := 3, code := jdk_29_method_24_code, exceptionTable := #[], attributes := #[] }
def k27m1 : Method := { name := "addExact", desc := "(II)I", sig := { parameters := [.int, .int], returnType := some .int }, accessFlags := 9, code := some k27c1 }
def k27c2 : Code := { maxStack := 2, maxLocals := 2, code := jdk_29_method_65_code, exceptionTable := #[], attributes := #[] }
def k27m2 : Method := { name := "max", desc := "(II)I", sig := { parameters := [.int, .int], returnType := some .int }, accessFlags := 9, code := some k27c2 }
def k27c3 : Code := { maxStack := 2, maxLocals := 2, code := jdk_29_method_69_code, exceptionTable := #[], attributes := #[] }
def k27m3 : Method := { name := "min", desc := "(II)I", sig := { parameters := [.int, .int], returnType := some .int }, accessFlags := 9, code := some k27c3 }
def k27c4 : Code := { maxStack := 4, maxLocals := 4, code := jdk_29_method_70_code, exceptionTable := #[], attributes := #[] }
def k27m4 : Method := { name := "min", desc := "(JJ)J", sig := { parameters := [.long, .long], returnType := some .long }, accessFlags := 9, code := some k27c4 }
def k27 : Class := { plain "java/lang/Math" (some 0) with
  accessFlags := 49
  interfaces := #[]
  cf := some (fileOf pool27 1 #[.nestMembers #[98]] #[{ accessFlags := 2, nameIndex := 7, descriptorIndex := 8, attributes := #[] }, { accessFlags := 9, nameIndex := 393, descriptorIndex := 335, attributes := #[] }, { accessFlags := 9, nameIndex := 198, descriptorIndex := 335, attributes := #[] }, { accessFlags := 9, nameIndex := 201, descriptorIndex := 335, attributes := #[] }, { accessFlags := 9, nameIndex := 201, descriptorIndex := 121, attributes := #[] }] 49 4 #[] #[{ accessFlags := 25, nameIndex := 354, descriptorIndex := 339, attributes := #[] }, { accessFlags := 25, nameIndex := 358, descriptorIndex := 339, attributes := #[] }, { accessFlags := 25, nameIndex := 361, descriptorIndex := 339, attributes := #[] }, { accessFlags := 26, nameIndex := 364, descriptorIndex := 339, attributes := #[] }, { accessFlags := 26, nameIndex := 365, descriptorIndex := 339, attributes := #[] }, { accessFlags := 26, nameIndex := 172, descriptorIndex := 173, attributes := #[] }, { accessFlags := 26, nameIndex := 176, descriptorIndex := 173, attributes := #[] }, { accessFlags := 8, nameIndex := 344, descriptorIndex := 339, attributes := #[] }, { accessFlags := 8, nameIndex := 338, descriptorIndex := 339, attributes := #[] }, { accessFlags := 4120, nameIndex := 245, descriptorIndex := 246, attributes := #[] }])
  fields := #[{ name := "E", type := .double, accessFlags := 25, slot := 0, constantValue := 0 }, { name := "PI", type := .double, accessFlags := 25, slot := 1, constantValue := 0 }, { name := "TAU", type := .double, accessFlags := 25, slot := 2, constantValue := 0 }, { name := "DEGREES_TO_RADIANS", type := .double, accessFlags := 26, slot := 3, constantValue := 0 }, { name := "RADIANS_TO_DEGREES", type := .double, accessFlags := 26, slot := 4, constantValue := 0 }, { name := "negativeZeroFloatBits", type := .long, accessFlags := 26, slot := 5, constantValue := 0 }, { name := "negativeZeroDoubleBits", type := .long, accessFlags := 26, slot := 6, constantValue := 0 }, { name := "twoToTheDoubleScaleUp", type := .double, accessFlags := 8, slot := 7, constantValue := 0 }, { name := "twoToTheDoubleScaleDown", type := .double, accessFlags := 8, slot := 8, constantValue := 0 }, { name := "$assertionsDisabled", type := .boolean, accessFlags := 4120, slot := 9, constantValue := 0 }]
  methods := #[k27m0, k27m1, k27m2, k27m3, k27m4]
  instanceTypes := #[]
  staticTypes := #[.double, .double, .double, .double, .double, .long, .long, .double, .double, .boolean]
  resolved := Array.replicate 460 none
  statics := none }

def pool28 : Array CpInfo := pool [(2, .class_ 4), (1, u "java/lang/Object"), (0, u "<init>"), (0, u "()V"), (1, .class_ 10), (1, u "java/lang/System"), (0, u "allowSecurityManager"), (0, u "I"), (16, u "cons"), (0, u "Ljava/io/Console;"), (77, .class_ 110), (1, u "java/lang/System$CallersHolder"), (43, u "initialErrStream"), (0, u "Ljava/io/PrintStream;"), (19, u "security"), (0, u "Ljava/lang/SecurityManager;"), (31, .class_ 209), (0, u "java/lang/System$1"), (7, u "props"), (0, u "Ljava/util/Properties;"), (2, u "lineSeparator"), (0, u "Ljava/lang/String;"), (96, .class_ 321), (1, u "java/lang/System$LoggerFinder"), (5, .class_ 328), (0, u "java/lang/System$Logger"), (67, u "err"), (2, u "out"), (91, u "notSupportedJnuEncoding"), (15, u "in"), (17, u "initialIn"), (0, u "Ljava/io/InputStream;"), (35, u "bootLayer"), (0, u "Ljava/lang/ModuleLayer;"), (99, .class_ 664), (0, u "java/lang/System$2"), (9, u "NEVER"), (2, u "MAYBE"), (49, u "arraycopy"), (0, u "(Ljava/lang/Object;ILjava/lang/Object;II)V"), (72, .class_ 802), (0, u "java/lang/System$Logger$Level")] 31

def k28m0 : Method := { name := "<init>", desc := "()V", sig := { parameters := [], returnType := none }, accessFlags := 2, code := none }
def k28m1 : Method := { name := "arraycopy", desc := "(Ljava/lang/Object;ILjava/lang/Object;II)V", sig := { parameters := [(.object "java/lang/Object"), .int, (.object "java/lang/Object"), .int, .int], returnType := none }, accessFlags := 265, code := none }
def k28 : Class := { plain "java/lang/System" (some 0) with
  accessFlags := 49
  interfaces := #[]
  cf := some (fileOf pool28 8 #[.nestMembers #[319, 327, 801, 108, 663, 208]] #[{ accessFlags := 2, nameIndex := 5, descriptorIndex := 6, attributes := #[] }, { accessFlags := 265, nameIndex := 727, descriptorIndex := 728, attributes := #[] }] 49 2 #[] #[{ accessFlags := 25, nameIndex := 507, descriptorIndex := 526, attributes := #[] }, { accessFlags := 25, nameIndex := 399, descriptorIndex := 155, attributes := #[] }, { accessFlags := 25, nameIndex := 396, descriptorIndex := 155, attributes := #[] }, { accessFlags := 10, nameIndex := 525, descriptorIndex := 526, attributes := #[] }, { accessFlags := 26, nameIndex := 674, descriptorIndex := 12, attributes := #[] }, { accessFlags := 26, nameIndex := 677, descriptorIndex := 12, attributes := #[] }, { accessFlags := 10, nameIndex := 11, descriptorIndex := 12, attributes := #[] }, { accessFlags := 74, nameIndex := 175, descriptorIndex := 176, attributes := #[] }, { accessFlags := 10, nameIndex := 491, descriptorIndex := 222, attributes := #[] }, { accessFlags := 74, nameIndex := 29, descriptorIndex := 30, attributes := #[] }, { accessFlags := 74, nameIndex := 154, descriptorIndex := 155, attributes := #[] }, { accessFlags := 10, nameIndex := 217, descriptorIndex := 218, attributes := #[] }, { accessFlags := 10, nameIndex := 221, descriptorIndex := 222, attributes := #[] }, { accessFlags := 8, nameIndex := 562, descriptorIndex := 563, attributes := #[] }])
  fields := #[{ name := "in", type := (.object "java/io/InputStream"), accessFlags := 25, slot := 0, constantValue := 0 }, { name := "out", type := (.object "java/io/PrintStream"), accessFlags := 25, slot := 1, constantValue := 0 }, { name := "err", type := (.object "java/io/PrintStream"), accessFlags := 25, slot := 2, constantValue := 0 }, { name := "initialIn", type := (.object "java/io/InputStream"), accessFlags := 10, slot := 3, constantValue := 0 }, { name := "NEVER", type := .int, accessFlags := 26, slot := 4, constantValue := 0 }, { name := "MAYBE", type := .int, accessFlags := 26, slot := 5, constantValue := 0 }, { name := "allowSecurityManager", type := .int, accessFlags := 10, slot := 6, constantValue := 0 }, { name := "security", type := (.object "java/lang/SecurityManager"), accessFlags := 74, slot := 7, constantValue := 0 }, { name := "notSupportedJnuEncoding", type := (.object "java/lang/String"), accessFlags := 10, slot := 8, constantValue := 0 }, { name := "cons", type := (.object "java/io/Console"), accessFlags := 74, slot := 9, constantValue := 0 }, { name := "initialErrStream", type := (.object "java/io/PrintStream"), accessFlags := 74, slot := 10, constantValue := 0 }, { name := "props", type := (.object "java/util/Properties"), accessFlags := 10, slot := 11, constantValue := 0 }, { name := "lineSeparator", type := (.object "java/lang/String"), accessFlags := 10, slot := 12, constantValue := 0 }, { name := "bootLayer", type := (.object "java/lang/ModuleLayer"), accessFlags := 8, slot := 13, constantValue := 0 }]
  methods := #[k28m0, k28m1]
  instanceTypes := #[]
  staticTypes := #[(.object "java/io/InputStream"), (.object "java/io/PrintStream"), (.object "java/io/PrintStream"), (.object "java/io/InputStream"), .int, .int, .int, (.object "java/lang/SecurityManager"), (.object "java/lang/String"), (.object "java/io/Console"), (.object "java/io/PrintStream"), (.object "java/util/Properties"), (.object "java/lang/String"), (.object "java/lang/ModuleLayer")]
  resolved := Array.replicate 834 none
  statics := none }

def pool29 : Array CpInfo := pool [(16, .class_ 18), (1, u "java/util/Iterator"), (0, u "hasNext"), (0, u "()Z"), (10, .class_ 32), (0, u "java/lang/Object")] 20

def k29m0 : Method := { name := "hasNext", desc := "()Z", sig := { parameters := [], returnType := some .boolean }, accessFlags := 1025, code := none }
def k29 : Class := { plain "java/util/Iterator" (some 0) with
  accessFlags := 1537
  interfaces := #[]
  cf := some (fileOf pool29 16 #[] #[{ accessFlags := 1025, nameIndex := 19, descriptorIndex := 20, attributes := #[] }] 1537 31 #[] #[])
  fields := #[]
  methods := #[k29m0]
  instanceTypes := #[]
  staticTypes := #[]
  resolved := Array.replicate 53 none
  statics := none }

def pool30 : Array CpInfo := pool [(1, .fieldref 2 3), (0, .class_ 4), (0, .nameAndType 5 6), (0, u "java/util/ArrayList$Itr"), (0, u "this$0"), (0, u "Ljava/util/ArrayList;"), (0, .methodref 8 9), (0, .class_ 10), (0, .nameAndType 11 12), (0, u "java/lang/Object"), (0, u "<init>"), (0, u "()V"), (0, .fieldref 2 14), (0, .nameAndType 15 16), (0, u "lastRet"), (0, u "I"), (0, .fieldref 18 19), (0, .class_ 20), (0, .nameAndType 21 16), (0, u "java/util/ArrayList"), (0, u "modCount"), (0, .fieldref 2 23), (0, .nameAndType 24 16), (0, u "expectedModCount"), (0, .fieldref 2 26), (0, .nameAndType 27 16), (0, u "cursor"), (0, .fieldref 18 29), (0, .nameAndType 30 16), (0, u "size"), (38, .class_ 70), (0, u "java/util/Iterator"), (0, u "(Ljava/util/ArrayList;)V"), (8, u "hasNext"), (0, u "()Z")] 22

def k30c0 : Code := { maxStack := 2, maxLocals := 2, code := jdk_49_method_1_code, exceptionTable := #[], attributes := #[] }
def k30m0 : Method := { name := "<init>", desc := "(Ljava/util/ArrayList;)V", sig := { parameters := [(.object "java/util/ArrayList")], returnType := none }, accessFlags := 0, code := some k30c0 }
def k30c1 : Code := { maxStack := 2, maxLocals := 1, code := jdk_49_method_2_code, exceptionTable := #[], attributes := #[] }
def k30m1 : Method := { name := "hasNext", desc := "()Z", sig := { parameters := [], returnType := some .boolean }, accessFlags := 1, code := some k30c1 }
def k30 : Class := { plain "java/util/ArrayList$Itr" (some 0) with
  accessFlags := 32
  interfaces := #[29]
  cf := some (fileOf pool30 2 #[.nestHost 18] #[{ accessFlags := 0, nameIndex := 11, descriptorIndex := 71, attributes := #[] }, { accessFlags := 1, nameIndex := 80, descriptorIndex := 81, attributes := #[] }] 32 8 #[69] #[{ accessFlags := 0, nameIndex := 27, descriptorIndex := 16, attributes := #[] }, { accessFlags := 0, nameIndex := 15, descriptorIndex := 16, attributes := #[] }, { accessFlags := 0, nameIndex := 24, descriptorIndex := 16, attributes := #[] }, { accessFlags := 4112, nameIndex := 5, descriptorIndex := 6, attributes := #[] }])
  fields := #[{ name := "cursor", type := .int, accessFlags := 0, slot := 0, constantValue := 0 }, { name := "lastRet", type := .int, accessFlags := 0, slot := 1, constantValue := 0 }, { name := "expectedModCount", type := .int, accessFlags := 0, slot := 2, constantValue := 0 }, { name := "this$0", type := (.object "java/util/ArrayList"), accessFlags := 4112, slot := 3, constantValue := 0 }]
  methods := #[k30m0, k30m1]
  instanceTypes := #[.int, .int, .int, (.object "java/util/ArrayList")]
  staticTypes := #[]
  resolved := Array.replicate 104 none
  statics := none }

def pool31 : Array CpInfo := pool [(1, .fieldref 2 3), (0, .class_ 4), (0, .nameAndType 5 6), (0, u "java/util/LinkedHashMap$LinkedValues"), (0, u "this$0"), (0, u "Ljava/util/LinkedHashMap;"), (0, .methodref 8 9), (0, .class_ 10), (0, .nameAndType 11 12), (0, u "java/util/AbstractCollection"), (0, u "<init>"), (0, u "()V"), (0, .fieldref 2 14), (0, .nameAndType 15 16), (0, u "reversed"), (0, u "Z"), (0, .fieldref 18 19), (0, .class_ 20), (0, .nameAndType 21 22), (0, u "java/util/LinkedHashMap"), (0, u "size"), (0, u "I"), (7, u "(Ljava/util/LinkedHashMap;Z)V"), (12, .class_ 44), (0, u "java/lang/Object"), (0, .methodref 18 46), (0, .nameAndType 47 48), (0, u "valuesToArray"), (0, u "([Ljava/lang/Object;Z)[Ljava/lang/Object;"), (63, .class_ 113), (0, u "java/util/SequencedCollection"), (17, u "toArray"), (0, u "()[Ljava/lang/Object;")] 40

def k31c0 : Code := { maxStack := 2, maxLocals := 3, code := jdk_114_method_1_code, exceptionTable := #[], attributes := #[] }
def k31m0 : Method := { name := "<init>", desc := "(Ljava/util/LinkedHashMap;Z)V", sig := { parameters := [(.object "java/util/LinkedHashMap"), .boolean], returnType := none }, accessFlags := 0, code := some k31c0 }
def k31c1 : Code := { maxStack := 3, maxLocals := 1, code := jdk_114_method_7_code, exceptionTable := #[], attributes := #[] }
def k31m1 : Method := { name := "toArray", desc := "()[Ljava/lang/Object;", sig := { parameters := [], returnType := some (.array (.object "java/lang/Object")) }, accessFlags := 1, code := some k31c1 }
def k31 : Class := { plain "java/util/LinkedHashMap$LinkedValues" (some 5) with
  accessFlags := 48
  interfaces := #[6]
  cf := some (fileOf pool31 2 #[.nestHost 18] #[{ accessFlags := 0, nameIndex := 11, descriptorIndex := 30, attributes := #[] }, { accessFlags := 1, nameIndex := 131, descriptorIndex := 132, attributes := #[] }] 48 8 #[112] #[{ accessFlags := 16, nameIndex := 15, descriptorIndex := 16, attributes := #[] }, { accessFlags := 4112, nameIndex := 5, descriptorIndex := 6, attributes := #[] }])
  fields := #[{ name := "reversed", type := .boolean, accessFlags := 16, slot := 0, constantValue := 0 }, { name := "this$0", type := (.object "java/util/LinkedHashMap"), accessFlags := 4112, slot := 1, constantValue := 0 }]
  methods := #[k31m0, k31m1]
  instanceTypes := #[.boolean, (.object "java/util/LinkedHashMap")]
  staticTypes := #[]
  resolved := Array.replicate 173 none
  statics := none }

def pool32 : Array CpInfo := pool [(1, .class_ 2), (0, u "java/lang/Comparable"), (0, .class_ 4), (0, u "java/lang/Object")] 7

def k32 : Class := { plain "java/lang/Comparable" (some 0) with
  accessFlags := 1537
  interfaces := #[]
  cf := some (fileOf pool32 1 #[] #[] 1537 3 #[] #[])
  fields := #[]
  methods := #[]
  instanceTypes := #[]
  staticTypes := #[]
  resolved := Array.replicate 12 none
  statics := none }

def pool33 : Array CpInfo := pool [(2, .class_ 4), (1, u "java/lang/CharSequence"), (42, .class_ 48), (0, u "java/lang/CharSequence$1CodePointIterator"), (10, .class_ 60), (0, u "java/lang/CharSequence$1CharIterator"), (5, .class_ 67), (0, u "java/lang/Object")] 63

def k33 : Class := { plain "java/lang/CharSequence" (some 0) with
  accessFlags := 1537
  interfaces := #[]
  cf := some (fileOf pool33 2 #[.nestMembers #[47, 59]] #[] 1537 66 #[] #[])
  fields := #[]
  methods := #[]
  instanceTypes := #[]
  staticTypes := #[]
  resolved := Array.replicate 131 none
  statics := none }

def pool34 : Array CpInfo := pool [(1, .class_ 2), (0, u "java/lang/constant/Constable"), (0, .class_ 4), (0, u "java/lang/Object")] 6

def k34 : Class := { plain "java/lang/constant/Constable" (some 0) with
  accessFlags := 1537
  interfaces := #[]
  cf := some (fileOf pool34 1 #[] #[] 1537 3 #[] #[])
  fields := #[]
  methods := #[]
  instanceTypes := #[]
  staticTypes := #[]
  resolved := Array.replicate 11 none
  statics := none }

def pool35 : Array CpInfo := pool [(1, .class_ 2), (0, u "java/lang/constant/ConstantDesc"), (0, .class_ 4), (0, u "java/lang/Object")] 32

def k35 : Class := { plain "java/lang/constant/ConstantDesc" (some 0) with
  accessFlags := 1537
  interfaces := #[]
  cf := some (fileOf pool35 1 #[] #[] 1537 3 #[] #[])
  fields := #[]
  methods := #[]
  instanceTypes := #[]
  staticTypes := #[]
  resolved := Array.replicate 37 none
  statics := none }

def pool36 : Array CpInfo := pool [(2, .class_ 4), (1, u "java/lang/Object"), (0, u "<init>"), (0, u "()V"), (2, .fieldref 10 11), (0, .class_ 12), (0, .nameAndType 13 14), (0, u "java/lang/String"), (0, u "value"), (0, u "[B"), (0, .fieldref 10 16), (0, .nameAndType 17 18), (0, u "coder"), (0, u "B"), (2, u "hash"), (0, u "I"), (2, u "hashIsZero"), (0, u "Z"), (7, .methodref 10 35), (0, .nameAndType 36 37), (0, u "checkBoundsOffCount"), (0, u "(III)I"), (0, .fieldref 10 39), (0, .nameAndType 40 26), (0, u "COMPACT_STRINGS"), (66, .class_ 109), (1, u "java/lang/StringLatin1"), (32, u "()Z"), (191, u "()I"), (0, .methodref 10 336), (0, .nameAndType 17 337), (0, u "()B"), (154, .methodref 10 493), (0, .nameAndType 494 142), (0, u "isLatin1"), (10, .methodref 10 506), (0, .nameAndType 507 334), (0, u "length"), (5, u "checkFromToIndex"), (7, .methodref 10 522), (0, .nameAndType 523 524), (0, u "checkBoundsBeginEnd"), (0, u "(III)V"), (0, .methodref 107 526), (0, .nameAndType 527 528), (0, u "getChars"), (0, u "([BII[CI)V"), (46, .class_ 576), (0, u "java/lang/CharSequence"), (22, u "CASE_INSENSITIVE_ORDER"), (0, u "Ljava/util/Comparator;"), (452, .fieldref 1054 1055), (0, .class_ 1056), (0, .nameAndType 1057 1058), (0, u "jdk/internal/util/Preconditions"), (0, u "SIOOBE_FORMATTER"), (0, u "Ljava/util/function/BiFunction;"), (3, .methodref 1054 1063), (0, .nameAndType 513 1064), (0, u "(IIILjava/util/function/BiFunction;)I"), (0, .methodref 1054 1066), (0, .nameAndType 1067 1064), (0, u "checkFromIndexSize"), (33, u "serialPersistentFields"), (0, u "[Ljava/io/ObjectStreamField;"), (0, .class_ 1104), (0, u "java/lang/String$CaseInsensitiveComparator"), (1, .class_ 1107), (0, u "java/io/Serializable"), (0, .class_ 1109), (0, u "java/lang/Comparable"), (0, .class_ 1111), (0, u "java/lang/constant/Constable"), (0, .class_ 1113), (0, u "java/lang/constant/ConstantDesc"), (2, u "serialVersionUID"), (0, u "J"), (3, u "REPL"), (0, u "C"), (2, u "LATIN1"), (1, u "UTF16"), (112, u "(II[CI)V")] 210

def k36m0 : Method := { name := "<init>", desc := "()V", sig := { parameters := [], returnType := none }, accessFlags := 1, code := none }
def k36c1 : Code := { maxStack := 2, maxLocals := 1, code := jdk_42_method_54_code, exceptionTable := #[], attributes := #[] }
def k36m1 : Method := { name := "length", desc := "()I", sig := { parameters := [], returnType := some .int }, accessFlags := 1, code := some k36c1 }
def k36c2 : Code := { maxStack := 5, maxLocals := 5, code := jdk_42_method_61_code, exceptionTable := #[], attributes := #[] }
def k36m2 : Method := { name := "getChars", desc := "(II[CI)V", sig := { parameters := [.int, .int, (.array .char), .int], returnType := none }, accessFlags := 1, code := some k36c2 }
def k36c3 : Code := { maxStack := 1, maxLocals := 1, code := jdk_42_method_152_code, exceptionTable := #[], attributes := #[] }
def k36m3 : Method := { name := "coder", desc := "()B", sig := { parameters := [], returnType := some .byte }, accessFlags := 0, code := some k36c3 }
def k36c4 : Code := { maxStack := 1, maxLocals := 1, code := jdk_42_method_154_code, exceptionTable := #[], attributes := #[] }
def k36m4 : Method := { name := "isLatin1", desc := "()Z", sig := { parameters := [], returnType := some .boolean }, accessFlags := 0, code := some k36c4 }
def k36c5 : Code := { maxStack := 4, maxLocals := 3, code := jdk_42_method_157_code, exceptionTable := #[], attributes := #[] }
def k36m5 : Method := { name := "checkBoundsOffCount", desc := "(III)I", sig := { parameters := [.int, .int, .int], returnType := some .int }, accessFlags := 8, code := some k36c5 }
def k36c6 : Code := { maxStack := 4, maxLocals := 3, code := jdk_42_method_158_code, exceptionTable := #[], attributes := #[] }
def k36m6 : Method := { name := "checkBoundsBeginEnd", desc := "(III)V", sig := { parameters := [.int, .int, .int], returnType := none }, accessFlags := 8, code := some k36c6 }
def k36 : Class := { plain "java/lang/String" (some 0) with
  accessFlags := 49
  interfaces := #[11, 32, 33, 34, 35]
  cf := some (fileOf pool36 10 #[.nestMembers #[1103]] #[{ accessFlags := 1, nameIndex := 5, descriptorIndex := 6, attributes := #[] }, { accessFlags := 1, nameIndex := 507, descriptorIndex := 334, attributes := #[] }, { accessFlags := 1, nameIndex := 527, descriptorIndex := 1240, attributes := #[] }, { accessFlags := 0, nameIndex := 17, descriptorIndex := 337, attributes := #[] }, { accessFlags := 0, nameIndex := 494, descriptorIndex := 142, attributes := #[] }, { accessFlags := 8, nameIndex := 36, descriptorIndex := 37, attributes := #[] }, { accessFlags := 8, nameIndex := 523, descriptorIndex := 524, attributes := #[] }] 49 2 #[1106, 1108, 575, 1110, 1112] #[{ accessFlags := 18, nameIndex := 13, descriptorIndex := 14, attributes := #[] }, { accessFlags := 18, nameIndex := 17, descriptorIndex := 18, attributes := #[] }, { accessFlags := 2, nameIndex := 21, descriptorIndex := 22, attributes := #[] }, { accessFlags := 2, nameIndex := 25, descriptorIndex := 26, attributes := #[] }, { accessFlags := 26, nameIndex := 1116, descriptorIndex := 1117, attributes := #[] }, { accessFlags := 24, nameIndex := 40, descriptorIndex := 26, attributes := #[] }, { accessFlags := 26, nameIndex := 1101, descriptorIndex := 1102, attributes := #[] }, { accessFlags := 26, nameIndex := 1121, descriptorIndex := 1122, attributes := #[] }, { accessFlags := 25, nameIndex := 599, descriptorIndex := 600, attributes := #[] }, { accessFlags := 24, nameIndex := 1125, descriptorIndex := 18, attributes := #[] }, { accessFlags := 24, nameIndex := 1127, descriptorIndex := 18, attributes := #[] }])
  fields := #[{ name := "value", type := (.array .byte), accessFlags := 18, slot := 0, constantValue := 0 }, { name := "coder", type := .byte, accessFlags := 18, slot := 1, constantValue := 0 }, { name := "hash", type := .int, accessFlags := 2, slot := 2, constantValue := 0 }, { name := "hashIsZero", type := .boolean, accessFlags := 2, slot := 3, constantValue := 0 }, { name := "serialVersionUID", type := .long, accessFlags := 26, slot := 0, constantValue := 0 }, { name := "COMPACT_STRINGS", type := .boolean, accessFlags := 24, slot := 1, constantValue := 0 }, { name := "serialPersistentFields", type := (.array (.object "java/io/ObjectStreamField")), accessFlags := 26, slot := 2, constantValue := 0 }, { name := "REPL", type := .char, accessFlags := 26, slot := 3, constantValue := 0 }, { name := "CASE_INSENSITIVE_ORDER", type := (.object "java/util/Comparator"), accessFlags := 25, slot := 4, constantValue := 0 }, { name := "LATIN1", type := .byte, accessFlags := 24, slot := 5, constantValue := 0 }, { name := "UTF16", type := .byte, accessFlags := 24, slot := 6, constantValue := 0 }]
  methods := #[k36m0, k36m1, k36m2, k36m3, k36m4, k36m5, k36m6]
  instanceTypes := #[(.array .byte), .byte, .int, .boolean]
  staticTypes := #[.long, .boolean, (.array (.object "java/io/ObjectStreamField")), .char, (.object "java/util/Comparator"), .byte, .byte]
  resolved := Array.replicate 1451 none
  statics := some 2 }

def pool37 : Array CpInfo := pool [(2, .class_ 4), (1, u "java/lang/Object"), (0, u "<init>"), (0, u "()V"), (17, .class_ 26), (1, u "jdk/internal/util/Preconditions"), (6, u "checkIndex"), (13, u "checkFromToIndex"), (1, u "checkFromIndexSize"), (5, .class_ 56), (0, u "jdk/internal/util/Preconditions$4"), (57, .class_ 115), (0, u "jdk/internal/util/Preconditions$1"), (7, u "SIOOBE_FORMATTER"), (0, u "Ljava/util/function/BiFunction;"), (0, .class_ 126), (0, u "jdk/internal/util/Preconditions$2"), (3, u "AIOOBE_FORMATTER"), (0, .class_ 132), (0, u "jdk/internal/util/Preconditions$3"), (3, u "IOOBE_FORMATTER"), (41, u "(IILjava/util/function/BiFunction;)I"), (4, u "(IIILjava/util/function/BiFunction;)I")] 10

def k37m0 : Method := { name := "<init>", desc := "()V", sig := { parameters := [], returnType := none }, accessFlags := 1, code := none }
def k37c1 : Code := { maxStack := 3, maxLocals := 3, code := jdk_41_method_11_code, exceptionTable := #[], attributes := #[] }
def k37m1 : Method := { name := "checkIndex", desc := "(IILjava/util/function/BiFunction;)I", sig := { parameters := [.int, .int, (.object "java/util/function/BiFunction")], returnType := some .int }, accessFlags := 9, code := some k37c1 }
def k37c2 : Code := { maxStack := 4, maxLocals := 4, code := jdk_41_method_12_code, exceptionTable := #[], attributes := #[] }
def k37m2 : Method := { name := "checkFromToIndex", desc := "(IIILjava/util/function/BiFunction;)I", sig := { parameters := [.int, .int, .int, (.object "java/util/function/BiFunction")], returnType := some .int }, accessFlags := 9, code := some k37c2 }
def k37c3 : Code := { maxStack := 4, maxLocals := 4, code := jdk_41_method_13_code, exceptionTable := #[], attributes := #[] }
def k37m3 : Method := { name := "checkFromIndexSize", desc := "(IIILjava/util/function/BiFunction;)I", sig := { parameters := [.int, .int, .int, (.object "java/util/function/BiFunction")], returnType := some .int }, accessFlags := 9, code := some k37c3 }
def k37 : Class := { plain "jdk/internal/util/Preconditions" (some 0) with
  accessFlags := 33
  interfaces := #[]
  cf := some (fileOf pool37 24 #[.nestMembers #[55, 131, 125, 114]] #[{ accessFlags := 1, nameIndex := 5, descriptorIndex := 6, attributes := #[] }, { accessFlags := 9, nameIndex := 33, descriptorIndex := 178, attributes := #[] }, { accessFlags := 9, nameIndex := 47, descriptorIndex := 183, attributes := #[] }, { accessFlags := 9, nameIndex := 49, descriptorIndex := 183, attributes := #[] }] 33 2 #[] #[{ accessFlags := 25, nameIndex := 123, descriptorIndex := 124, attributes := #[] }, { accessFlags := 25, nameIndex := 130, descriptorIndex := 124, attributes := #[] }, { accessFlags := 25, nameIndex := 136, descriptorIndex := 124, attributes := #[] }])
  fields := #[{ name := "SIOOBE_FORMATTER", type := (.object "java/util/function/BiFunction"), accessFlags := 25, slot := 0, constantValue := 0 }, { name := "AIOOBE_FORMATTER", type := (.object "java/util/function/BiFunction"), accessFlags := 25, slot := 1, constantValue := 0 }, { name := "IOOBE_FORMATTER", type := (.object "java/util/function/BiFunction"), accessFlags := 25, slot := 2, constantValue := 0 }]
  methods := #[k37m0, k37m1, k37m2, k37m3]
  instanceTypes := #[]
  staticTypes := #[(.object "java/util/function/BiFunction"), (.object "java/util/function/BiFunction"), (.object "java/util/function/BiFunction")]
  resolved := Array.replicate 194 none
  statics := some 3 }

def pool38 : Array CpInfo := pool [(4, .class_ 6), (1, u "java/lang/Object"), (0, u "<init>"), (0, u "()V"), (4, .methodref 14 15), (0, .class_ 16), (0, .nameAndType 17 18), (0, u "java/lang/StringLatin1"), (0, u "inflate"), (0, u "([BI[CII)V"), (102, u "$assertionsDisabled"), (0, u "Z"), (98, .class_ 223), (1, u "java/lang/StringLatin1$LinesSpliterator"), (50, u "getChars"), (0, u "([BII[CI)V"), (114, .class_ 391), (0, u "java/lang/StringLatin1$CharsSpliterator")] 3

def k38m0 : Method := { name := "<init>", desc := "()V", sig := { parameters := [], returnType := none }, accessFlags := 0, code := none }
def k38c1 : Code := { maxStack := 6, maxLocals := 5, code := jdk_43_method_11_code, exceptionTable := #[], attributes := #[] }
def k38m1 : Method := { name := "getChars", desc := "([BII[CI)V", sig := { parameters := [(.array .byte), .int, .int, (.array .char), .int], returnType := none }, accessFlags := 9, code := some k38c1 }
def k38c2 : Code := { maxStack := 4, maxLocals := 6, code := jdk_43_method_49_code, exceptionTable := #[], attributes := #[] }
def k38m2 : Method := { name := "inflate", desc := "([BI[CII)V", sig := { parameters := [(.array .byte), .int, (.array .char), .int, .int], returnType := none }, accessFlags := 9, code := some k38c2 }
def k38 : Class := { plain "java/lang/StringLatin1" (some 0) with
  accessFlags := 48
  interfaces := #[]
  cf := some (fileOf pool38 14 #[.nestMembers #[390, 221]] #[{ accessFlags := 0, nameIndex := 7, descriptorIndex := 8, attributes := #[] }, { accessFlags := 9, nameIndex := 274, descriptorIndex := 275, attributes := #[] }, { accessFlags := 9, nameIndex := 17, descriptorIndex := 18, attributes := #[] }] 48 4 #[] #[{ accessFlags := 4120, nameIndex := 121, descriptorIndex := 122, attributes := #[] }])
  fields := #[{ name := "$assertionsDisabled", type := .boolean, accessFlags := 4120, slot := 0, constantValue := 0 }]
  methods := #[k38m0, k38m1, k38m2]
  instanceTypes := #[]
  staticTypes := #[.boolean]
  resolved := Array.replicate 395 none
  statics := none }

def pool39 : Array CpInfo := pool [(2, .class_ 4), (1, u "java/lang/Object"), (0, u "<init>"), (0, u "()V"), (1, .class_ 10), (1, u "java/lang/Number"), (2, .class_ 14), (0, u "java/io/Serializable"), (0, u "serialVersionUID"), (0, u "J")] 20

def k39m0 : Method := { name := "<init>", desc := "()V", sig := { parameters := [], returnType := none }, accessFlags := 1, code := none }
def k39 : Class := { plain "java/lang/Number" (some 0) with
  accessFlags := 1057
  interfaces := #[11]
  cf := some (fileOf pool39 8 #[] #[{ accessFlags := 1, nameIndex := 5, descriptorIndex := 6, attributes := #[] }] 1057 2 #[13] #[{ accessFlags := 26, nameIndex := 15, descriptorIndex := 16, attributes := #[] }])
  fields := #[{ name := "serialVersionUID", type := .long, accessFlags := 26, slot := 0, constantValue := 0 }]
  methods := #[k39m0]
  instanceTypes := #[]
  staticTypes := #[.long]
  resolved := Array.replicate 37 none
  statics := none }

def pool40 : Array CpInfo := pool [(1, .class_ 2), (0, u "java/lang/Integer"), (16, u "digits"), (0, u "[C"), (64, u "DigitOnes"), (0, u "[B"), (2, u "DigitTens"), (31, u "()I"), (65, u "valueOf"), (0, u "(I)Ljava/lang/Integer;"), (0, .class_ 190), (0, u "java/lang/Integer$IntegerCache"), (0, .fieldref 189 192), (0, .nameAndType 193 194), (0, u "high"), (0, u "I"), (0, .fieldref 189 196), (0, .nameAndType 197 198), (0, u "cache"), (0, u "[Ljava/lang/Integer;"), (4, .class_ 204), (0, u "java/lang/Number"), (0, .fieldref 1 206), (0, .nameAndType 207 194), (0, u "value"), (5, u "intValue"), (88, u "TYPE"), (0, u "Ljava/lang/Class;"), (0, .class_ 305), (0, u "java/lang/Comparable"), (0, .class_ 307), (0, u "java/lang/constant/Constable"), (0, .class_ 309), (0, u "java/lang/constant/ConstantDesc"), (0, u "MIN_VALUE"), (1, u "MAX_VALUE"), (3, u "SIZE"), (1, u "BYTES"), (1, u "serialVersionUID"), (0, u "J")] 131

def k40c0 : Code := { maxStack := 3, maxLocals := 1, code := jdk_33_method_22_code, exceptionTable := #[], attributes := #[] }
def k40m0 : Method := { name := "valueOf", desc := "(I)Ljava/lang/Integer;", sig := { parameters := [.int], returnType := some (.object "java/lang/Integer") }, accessFlags := 9, code := some k40c0 }
def k40c1 : Code := { maxStack := 1, maxLocals := 1, code := jdk_33_method_27_code, exceptionTable := #[], attributes := #[] }
def k40m1 : Method := { name := "intValue", desc := "()I", sig := { parameters := [], returnType := some .int }, accessFlags := 1, code := some k40c1 }
def k40 : Class := { plain "java/lang/Integer" (some 39) with
  accessFlags := 49
  interfaces := #[32, 34, 35]
  cf := some (fileOf pool40 1 #[.nestMembers #[189]] #[{ accessFlags := 9, nameIndex := 187, descriptorIndex := 188, attributes := #[] }, { accessFlags := 1, nameIndex := 213, descriptorIndex := 121, attributes := #[] }] 49 203 #[304, 306, 308] #[{ accessFlags := 25, nameIndex := 310, descriptorIndex := 194, attributes := #[] }, { accessFlags := 25, nameIndex := 312, descriptorIndex := 194, attributes := #[] }, { accessFlags := 25, nameIndex := 302, descriptorIndex := 303, attributes := #[] }, { accessFlags := 24, nameIndex := 19, descriptorIndex := 20, attributes := #[] }, { accessFlags := 24, nameIndex := 89, descriptorIndex := 86, attributes := #[] }, { accessFlags := 24, nameIndex := 85, descriptorIndex := 86, attributes := #[] }, { accessFlags := 18, nameIndex := 207, descriptorIndex := 194, attributes := #[] }, { accessFlags := 25, nameIndex := 316, descriptorIndex := 194, attributes := #[] }, { accessFlags := 25, nameIndex := 318, descriptorIndex := 194, attributes := #[] }, { accessFlags := 26, nameIndex := 320, descriptorIndex := 321, attributes := #[] }])
  fields := #[{ name := "MIN_VALUE", type := .int, accessFlags := 25, slot := 0, constantValue := 0 }, { name := "MAX_VALUE", type := .int, accessFlags := 25, slot := 1, constantValue := 0 }, { name := "TYPE", type := (.object "java/lang/Class"), accessFlags := 25, slot := 2, constantValue := 0 }, { name := "digits", type := (.array .char), accessFlags := 24, slot := 3, constantValue := 0 }, { name := "DigitTens", type := (.array .byte), accessFlags := 24, slot := 4, constantValue := 0 }, { name := "DigitOnes", type := (.array .byte), accessFlags := 24, slot := 5, constantValue := 0 }, { name := "value", type := .int, accessFlags := 18, slot := 0, constantValue := 0 }, { name := "SIZE", type := .int, accessFlags := 25, slot := 6, constantValue := 0 }, { name := "BYTES", type := .int, accessFlags := 25, slot := 7, constantValue := 0 }, { name := "serialVersionUID", type := .long, accessFlags := 26, slot := 8, constantValue := 0 }]
  methods := #[k40m0, k40m1]
  instanceTypes := #[.int]
  staticTypes := #[.int, .int, (.object "java/lang/Class"), (.array .char), (.array .byte), (.array .byte), .int, .int, .long]
  resolved := Array.replicate 453 none
  statics := none }

def pool41 : Array CpInfo := pool [(2, .class_ 4), (1, u "java/lang/Object"), (0, u "<init>"), (0, u "()V"), (0, .class_ 8), (0, u "java/lang/Integer"), (7, .class_ 18), (1, u "java/lang/Integer$IntegerCache"), (0, u "$assertionsDisabled"), (0, u "Z"), (26, u "high"), (0, u "I"), (8, u "archivedCache"), (0, u "[Ljava/lang/Integer;"), (12, u "cache"), (0, u "low")] 27

def k41m0 : Method := { name := "<init>", desc := "()V", sig := { parameters := [], returnType := none }, accessFlags := 2, code := none }
def k41 : Class := { plain "java/lang/Integer$IntegerCache" (some 0) with
  accessFlags := 48
  interfaces := #[]
  cf := some (fileOf pool41 16 #[.nestHost 7] #[{ accessFlags := 2, nameIndex := 5, descriptorIndex := 6, attributes := #[] }] 48 2 #[] #[{ accessFlags := 24, nameIndex := 72, descriptorIndex := 48, attributes := #[] }, { accessFlags := 24, nameIndex := 47, descriptorIndex := 48, attributes := #[] }, { accessFlags := 24, nameIndex := 71, descriptorIndex := 58, attributes := #[] }, { accessFlags := 8, nameIndex := 57, descriptorIndex := 58, attributes := #[] }, { accessFlags := 4120, nameIndex := 19, descriptorIndex := 20, attributes := #[] }])
  fields := #[{ name := "low", type := .int, accessFlags := 24, slot := 0, constantValue := 0 }, { name := "high", type := .int, accessFlags := 24, slot := 1, constantValue := 0 }, { name := "cache", type := (.array (.object "java/lang/Integer")), accessFlags := 24, slot := 2, constantValue := 0 }, { name := "archivedCache", type := (.array (.object "java/lang/Integer")), accessFlags := 8, slot := 3, constantValue := 0 }, { name := "$assertionsDisabled", type := .boolean, accessFlags := 4120, slot := 4, constantValue := 0 }]
  methods := #[k41m0]
  instanceTypes := #[]
  staticTypes := #[.int, .int, (.array (.object "java/lang/Integer")), (.array (.object "java/lang/Integer")), .boolean]
  resolved := Array.replicate 100 none
  statics := some 4 }

def pool42 : Array CpInfo := pool [(23, .class_ 25), (1, u "java/util/Map$Entry"), (6, .class_ 34), (1, u "java/util/Map"), (34, .class_ 70), (0, u "java/lang/Object")] 107

def k42 : Class := { plain "java/util/Map$Entry" (some 0) with
  accessFlags := 1537
  interfaces := #[]
  cf := some (fileOf pool42 23 #[.nestHost 32] #[] 1537 69 #[] #[])
  fields := #[]
  methods := #[]
  instanceTypes := #[]
  staticTypes := #[]
  resolved := Array.replicate 178 none
  statics := none }

def pool43 : Array CpInfo := pool [(1, .methodref 2 3), (0, .class_ 4), (0, .nameAndType 5 6), (0, u "java/lang/Object"), (0, u "<init>"), (0, u "()V"), (0, .fieldref 8 9), (0, .class_ 10), (0, .nameAndType 11 12), (0, u "java/util/HashMap$Node"), (0, u "hash"), (0, u "I"), (0, .fieldref 8 14), (0, .nameAndType 15 16), (0, u "key"), (0, u "Ljava/lang/Object;"), (0, .fieldref 8 18), (0, .nameAndType 19 16), (0, u "value"), (0, .fieldref 8 21), (0, .nameAndType 22 23), (0, u "next"), (0, u "Ljava/util/HashMap$Node;"), (22, .class_ 47), (0, u "java/util/Map$Entry"), (15, u "(ILjava/lang/Object;Ljava/lang/Object;Ljava/util/HashMap$Node;)V"), (24, .class_ 89), (0, u "java/util/HashMap")] 5

def k43c0 : Code := { maxStack := 2, maxLocals := 5, code := jdk_70_method_1_code, exceptionTable := #[], attributes := #[] }
def k43m0 : Method := { name := "<init>", desc := "(ILjava/lang/Object;Ljava/lang/Object;Ljava/util/HashMap$Node;)V", sig := { parameters := [.int, (.object "java/lang/Object"), (.object "java/lang/Object"), (.object "java/util/HashMap$Node")], returnType := none }, accessFlags := 0, code := some k43c0 }
def k43 : Class := { plain "java/util/HashMap$Node" (some 0) with
  accessFlags := 32
  interfaces := #[42]
  cf := some (fileOf pool43 8 #[.nestHost 88] #[{ accessFlags := 0, nameIndex := 5, descriptorIndex := 63, attributes := #[] }] 32 2 #[46] #[{ accessFlags := 16, nameIndex := 11, descriptorIndex := 12, attributes := #[] }, { accessFlags := 16, nameIndex := 15, descriptorIndex := 16, attributes := #[] }, { accessFlags := 0, nameIndex := 19, descriptorIndex := 16, attributes := #[] }, { accessFlags := 0, nameIndex := 22, descriptorIndex := 23, attributes := #[] }])
  fields := #[{ name := "hash", type := .int, accessFlags := 16, slot := 0, constantValue := 0 }, { name := "key", type := (.object "java/lang/Object"), accessFlags := 16, slot := 1, constantValue := 0 }, { name := "value", type := (.object "java/lang/Object"), accessFlags := 0, slot := 2, constantValue := 0 }, { name := "next", type := (.object "java/util/HashMap$Node"), accessFlags := 0, slot := 3, constantValue := 0 }]
  methods := #[k43m0]
  instanceTypes := #[.int, (.object "java/lang/Object"), (.object "java/lang/Object"), (.object "java/util/HashMap$Node")]
  staticTypes := #[]
  resolved := Array.replicate 95 none
  statics := none }

def pool44 : Array CpInfo := pool [(9, u "<init>"), (6, .class_ 18), (1, u "java/lang/Object"), (0, u "()V"), (1, .class_ 23), (1, u "jdk/internal/util/ArraysSupport"), (0, u "LOG2_ARRAY_LONG_INDEX_SCALE"), (0, u "I"), (2, u "U"), (0, u "Ljdk/internal/misc/Unsafe;"), (8, u "BIG_ENDIAN"), (0, u "Z"), (8, u "LOG2_BYTE_BIT_SIZE"), (4, u "LOG2_ARRAY_INT_INDEX_SCALE"), (54, u "JLA"), (0, u "Ljdk/internal/access/JavaLangAccess;"), (11, u "LOG2_ARRAY_BOOLEAN_INDEX_SCALE"), (9, u "LOG2_ARRAY_BYTE_INDEX_SCALE"), (5, u "LOG2_ARRAY_CHAR_INDEX_SCALE"), (5, u "LOG2_ARRAY_SHORT_INDEX_SCALE"), (18, u "LOG2_ARRAY_FLOAT_INDEX_SCALE"), (24, u "LOG2_ARRAY_DOUBLE_INDEX_SCALE"), (89, u "T_BOOLEAN"), (2, u "T_CHAR"), (1, u "T_FLOAT"), (1, u "T_DOUBLE"), (1, u "T_BYTE"), (1, u "T_SHORT"), (1, u "T_INT"), (1, u "T_LONG"), (1, u "SOFT_MAX_ARRAY_LENGTH")] 83

def k44m0 : Method := { name := "<init>", desc := "()V", sig := { parameters := [], returnType := none }, accessFlags := 2, code := none }
def k44 : Class := { plain "jdk/internal/util/ArraysSupport" (some 0) with
  accessFlags := 33
  interfaces := #[]
  cf := some (fileOf pool44 21 #[] #[{ accessFlags := 2, nameIndex := 9, descriptorIndex := 19, attributes := #[] }] 33 16 #[] #[{ accessFlags := 24, nameIndex := 28, descriptorIndex := 29, attributes := #[] }, { accessFlags := 26, nameIndex := 38, descriptorIndex := 39, attributes := #[] }, { accessFlags := 25, nameIndex := 121, descriptorIndex := 25, attributes := #[] }, { accessFlags := 25, nameIndex := 131, descriptorIndex := 25, attributes := #[] }, { accessFlags := 25, nameIndex := 137, descriptorIndex := 25, attributes := #[] }, { accessFlags := 25, nameIndex := 143, descriptorIndex := 25, attributes := #[] }, { accessFlags := 25, nameIndex := 53, descriptorIndex := 25, attributes := #[] }, { accessFlags := 25, nameIndex := 24, descriptorIndex := 25, attributes := #[] }, { accessFlags := 25, nameIndex := 162, descriptorIndex := 25, attributes := #[] }, { accessFlags := 25, nameIndex := 187, descriptorIndex := 25, attributes := #[] }, { accessFlags := 26, nameIndex := 48, descriptorIndex := 25, attributes := #[] }, { accessFlags := 25, nameIndex := 277, descriptorIndex := 25, attributes := #[] }, { accessFlags := 25, nameIndex := 280, descriptorIndex := 25, attributes := #[] }, { accessFlags := 25, nameIndex := 282, descriptorIndex := 25, attributes := #[] }, { accessFlags := 25, nameIndex := 284, descriptorIndex := 25, attributes := #[] }, { accessFlags := 25, nameIndex := 286, descriptorIndex := 25, attributes := #[] }, { accessFlags := 25, nameIndex := 288, descriptorIndex := 25, attributes := #[] }, { accessFlags := 25, nameIndex := 290, descriptorIndex := 25, attributes := #[] }, { accessFlags := 25, nameIndex := 292, descriptorIndex := 25, attributes := #[] }, { accessFlags := 26, nameIndex := 108, descriptorIndex := 109, attributes := #[] }, { accessFlags := 25, nameIndex := 294, descriptorIndex := 25, attributes := #[] }])
  fields := #[{ name := "U", type := (.object "jdk/internal/misc/Unsafe"), accessFlags := 24, slot := 0, constantValue := 0 }, { name := "BIG_ENDIAN", type := .boolean, accessFlags := 26, slot := 1, constantValue := 0 }, { name := "LOG2_ARRAY_BOOLEAN_INDEX_SCALE", type := .int, accessFlags := 25, slot := 2, constantValue := 0 }, { name := "LOG2_ARRAY_BYTE_INDEX_SCALE", type := .int, accessFlags := 25, slot := 3, constantValue := 0 }, { name := "LOG2_ARRAY_CHAR_INDEX_SCALE", type := .int, accessFlags := 25, slot := 4, constantValue := 0 }, { name := "LOG2_ARRAY_SHORT_INDEX_SCALE", type := .int, accessFlags := 25, slot := 5, constantValue := 0 }, { name := "LOG2_ARRAY_INT_INDEX_SCALE", type := .int, accessFlags := 25, slot := 6, constantValue := 0 }, { name := "LOG2_ARRAY_LONG_INDEX_SCALE", type := .int, accessFlags := 25, slot := 7, constantValue := 0 }, { name := "LOG2_ARRAY_FLOAT_INDEX_SCALE", type := .int, accessFlags := 25, slot := 8, constantValue := 0 }, { name := "LOG2_ARRAY_DOUBLE_INDEX_SCALE", type := .int, accessFlags := 25, slot := 9, constantValue := 0 }, { name := "LOG2_BYTE_BIT_SIZE", type := .int, accessFlags := 26, slot := 10, constantValue := 0 }, { name := "T_BOOLEAN", type := .int, accessFlags := 25, slot := 11, constantValue := 0 }, { name := "T_CHAR", type := .int, accessFlags := 25, slot := 12, constantValue := 0 }, { name := "T_FLOAT", type := .int, accessFlags := 25, slot := 13, constantValue := 0 }, { name := "T_DOUBLE", type := .int, accessFlags := 25, slot := 14, constantValue := 0 }, { name := "T_BYTE", type := .int, accessFlags := 25, slot := 15, constantValue := 0 }, { name := "T_SHORT", type := .int, accessFlags := 25, slot := 16, constantValue := 0 }, { name := "T_INT", type := .int, accessFlags := 25, slot := 17, constantValue := 0 }, { name := "T_LONG", type := .int, accessFlags := 25, slot := 18, constantValue := 0 }, { name := "JLA", type := (.object "jdk/internal/access/JavaLangAccess"), accessFlags := 26, slot := 19, constantValue := 0 }, { name := "SOFT_MAX_ARRAY_LENGTH", type := .int, accessFlags := 25, slot := 20, constantValue := 0 }]
  methods := #[k44m0]
  instanceTypes := #[]
  staticTypes := #[(.object "jdk/internal/misc/Unsafe"), .boolean, .int, .int, .int, .int, .int, .int, .int, .int, .int, .int, .int, .int, .int, .int, .int, .int, .int, (.object "jdk/internal/access/JavaLangAccess"), .int]
  resolved := Array.replicate 378 none
  statics := none }

def pool45 : Array CpInfo := pool [(1, u "java/lang/Class"), (0, .class_ 1), (0, u "java/lang/Object"), (0, .class_ 3)] 0

def k45 : Class := { plain "java/lang/Class" (some 0) with
  accessFlags := 49
  interfaces := #[]
  cf := some (fileOf pool45 2 #[] #[] 49 4 #[] #[])
  fields := #[]
  methods := #[]
  instanceTypes := #[]
  staticTypes := #[]
  resolved := Array.replicate 5 none
  statics := none }

def k46 : Class := { plain "byte" none with kind := .primitive 'B', accessFlags := 0x411 }
def k47 : Class := { plain "[B" (some 0) with kind := .array 46 .byte, interfaces := #[10, 11], accessFlags := 1041 }

def k48 : Class := { plain "char" none with kind := .primitive 'C', accessFlags := 0x411 }
def k49 : Class := { plain "[C" (some 0) with kind := .array 48 .char, interfaces := #[10, 11], accessFlags := 1041 }

def k50 : Class := { plain "int" none with kind := .primitive 'I', accessFlags := 0x411 }
def k51 : Class := { plain "[I" (some 0) with kind := .array 50 .int, interfaces := #[10, 11], accessFlags := 1041 }

def k52 : Class := { plain "long" none with kind := .primitive 'J', accessFlags := 0x411 }
def k53 : Class := { plain "[J" (some 0) with kind := .array 52 .long, interfaces := #[10, 11], accessFlags := 1041 }

def k54 : Class := { plain "[Ljava/lang/Integer;" (some 0) with kind := .array 40 (.object "java/lang/Integer"), interfaces := #[10, 11], accessFlags := 1041 }

def k55 : Class := { plain "[Ljava/lang/Object;" (some 0) with kind := .array 0 (.object "java/lang/Object"), interfaces := #[10, 11], accessFlags := 1041, mirror := some 5 }

def k56 : Class := { plain "[Ljava/util/HashMap$Node;" (some 0) with kind := .array 43 (.object "java/util/HashMap$Node"), interfaces := #[10, 11], accessFlags := 1041 }

def heap : Heap := #[{ cls := 12, slots := #[.long 0, .int 0, .ref 265, .ref 266], vm := .statics 12 },
  { cls := 21, slots := #[.long 0, .int 0, .null, .ref 267, .ref 268, .null, .null, .null, .int 0, .int 1], vm := .statics 21 },
  { cls := 36, slots := #[.long 0, .int 1, .null, .int 0, .null, .int 0, .int 0], vm := .statics 36 },
  { cls := 37, slots := #[.null, .null, .null], vm := .statics 37 },
  { cls := 41, slots := #[.int 0, .int 127, .ref 8, .null, .int 0], vm := .statics 41 },
  { cls := 45, slots := #[], vm := .mirror 55 },
  { cls := 45, slots := #[], vm := .mirror 25 },
  { cls := 45, slots := #[], vm := .mirror 12 },
  { cls := 54, slots := #[.ref 9, .ref 10, .ref 11, .ref 12, .ref 13, .ref 14, .ref 15, .ref 16, .ref 17, .ref 18, .ref 19, .ref 20, .ref 21, .ref 22, .ref 23, .ref 24, .ref 25, .ref 26, .ref 27, .ref 28, .ref 29, .ref 30, .ref 31, .ref 32, .ref 33, .ref 34, .ref 35, .ref 36, .ref 37, .ref 38, .ref 39, .ref 40, .ref 41, .ref 42, .ref 43, .ref 44, .ref 45, .ref 46, .ref 47, .ref 48, .ref 49, .ref 50, .ref 51, .ref 52, .ref 53, .ref 54, .ref 55, .ref 56, .ref 57, .ref 58, .ref 59, .ref 60, .ref 61, .ref 62, .ref 63, .ref 64, .ref 65, .ref 66, .ref 67, .ref 68, .ref 69, .ref 70, .ref 71, .ref 72, .ref 73, .ref 74, .ref 75, .ref 76, .ref 77, .ref 78, .ref 79, .ref 80, .ref 81, .ref 82, .ref 83, .ref 84, .ref 85, .ref 86, .ref 87, .ref 88, .ref 89, .ref 90, .ref 91, .ref 92, .ref 93, .ref 94, .ref 95, .ref 96, .ref 97, .ref 98, .ref 99, .ref 100, .ref 101, .ref 102, .ref 103, .ref 104, .ref 105, .ref 106, .ref 107, .ref 108, .ref 109, .ref 110, .ref 111, .ref 112, .ref 113, .ref 114, .ref 115, .ref 116, .ref 117, .ref 118, .ref 119, .ref 120, .ref 121, .ref 122, .ref 123, .ref 124, .ref 125, .ref 126, .ref 127, .ref 128, .ref 129, .ref 130, .ref 131, .ref 132, .ref 133, .ref 134, .ref 135, .ref 136, .ref 137, .ref 138, .ref 139, .ref 140, .ref 141, .ref 142, .ref 143, .ref 144, .ref 145, .ref 146, .ref 147, .ref 148, .ref 149, .ref 150, .ref 151, .ref 152, .ref 153, .ref 154, .ref 155, .ref 156, .ref 157, .ref 158, .ref 159, .ref 160, .ref 161, .ref 162, .ref 163, .ref 164, .ref 165, .ref 166, .ref 167, .ref 168, .ref 169, .ref 170, .ref 171, .ref 172, .ref 173, .ref 174, .ref 175, .ref 176, .ref 177, .ref 178, .ref 179, .ref 180, .ref 181, .ref 182, .ref 183, .ref 184, .ref 185, .ref 186, .ref 187, .ref 188, .ref 189, .ref 190, .ref 191, .ref 192, .ref 193, .ref 194, .ref 195, .ref 196, .ref 197, .ref 198, .ref 199, .ref 200, .ref 201, .ref 202, .ref 203, .ref 204, .ref 205, .ref 206, .ref 207, .ref 208, .ref 209, .ref 210, .ref 211, .ref 212, .ref 213, .ref 214, .ref 215, .ref 216, .ref 217, .ref 218, .ref 219, .ref 220, .ref 221, .ref 222, .ref 223, .ref 224, .ref 225, .ref 226, .ref 227, .ref 228, .ref 229, .ref 230, .ref 231, .ref 232, .ref 233, .ref 234, .ref 235, .ref 236, .ref 237, .ref 238, .ref 239, .ref 240, .ref 241, .ref 242, .ref 243, .ref 244, .ref 245, .ref 246, .ref 247, .ref 248, .ref 249, .ref 250, .ref 251, .ref 252, .ref 253, .ref 254, .ref 255, .ref 256, .ref 257, .ref 258, .ref 259, .ref 260, .ref 261, .ref 262, .ref 263, .ref 264], vm := .none },
  { cls := 40, slots := #[.int (-128)], vm := .none },
  { cls := 40, slots := #[.int (-127)], vm := .none },
  { cls := 40, slots := #[.int (-126)], vm := .none },
  { cls := 40, slots := #[.int (-125)], vm := .none },
  { cls := 40, slots := #[.int (-124)], vm := .none },
  { cls := 40, slots := #[.int (-123)], vm := .none },
  { cls := 40, slots := #[.int (-122)], vm := .none },
  { cls := 40, slots := #[.int (-121)], vm := .none },
  { cls := 40, slots := #[.int (-120)], vm := .none },
  { cls := 40, slots := #[.int (-119)], vm := .none },
  { cls := 40, slots := #[.int (-118)], vm := .none },
  { cls := 40, slots := #[.int (-117)], vm := .none },
  { cls := 40, slots := #[.int (-116)], vm := .none },
  { cls := 40, slots := #[.int (-115)], vm := .none },
  { cls := 40, slots := #[.int (-114)], vm := .none },
  { cls := 40, slots := #[.int (-113)], vm := .none },
  { cls := 40, slots := #[.int (-112)], vm := .none },
  { cls := 40, slots := #[.int (-111)], vm := .none },
  { cls := 40, slots := #[.int (-110)], vm := .none },
  { cls := 40, slots := #[.int (-109)], vm := .none },
  { cls := 40, slots := #[.int (-108)], vm := .none },
  { cls := 40, slots := #[.int (-107)], vm := .none },
  { cls := 40, slots := #[.int (-106)], vm := .none },
  { cls := 40, slots := #[.int (-105)], vm := .none },
  { cls := 40, slots := #[.int (-104)], vm := .none },
  { cls := 40, slots := #[.int (-103)], vm := .none },
  { cls := 40, slots := #[.int (-102)], vm := .none },
  { cls := 40, slots := #[.int (-101)], vm := .none },
  { cls := 40, slots := #[.int (-100)], vm := .none },
  { cls := 40, slots := #[.int (-99)], vm := .none },
  { cls := 40, slots := #[.int (-98)], vm := .none },
  { cls := 40, slots := #[.int (-97)], vm := .none },
  { cls := 40, slots := #[.int (-96)], vm := .none },
  { cls := 40, slots := #[.int (-95)], vm := .none },
  { cls := 40, slots := #[.int (-94)], vm := .none },
  { cls := 40, slots := #[.int (-93)], vm := .none },
  { cls := 40, slots := #[.int (-92)], vm := .none },
  { cls := 40, slots := #[.int (-91)], vm := .none },
  { cls := 40, slots := #[.int (-90)], vm := .none },
  { cls := 40, slots := #[.int (-89)], vm := .none },
  { cls := 40, slots := #[.int (-88)], vm := .none },
  { cls := 40, slots := #[.int (-87)], vm := .none },
  { cls := 40, slots := #[.int (-86)], vm := .none },
  { cls := 40, slots := #[.int (-85)], vm := .none },
  { cls := 40, slots := #[.int (-84)], vm := .none },
  { cls := 40, slots := #[.int (-83)], vm := .none },
  { cls := 40, slots := #[.int (-82)], vm := .none },
  { cls := 40, slots := #[.int (-81)], vm := .none },
  { cls := 40, slots := #[.int (-80)], vm := .none },
  { cls := 40, slots := #[.int (-79)], vm := .none },
  { cls := 40, slots := #[.int (-78)], vm := .none },
  { cls := 40, slots := #[.int (-77)], vm := .none },
  { cls := 40, slots := #[.int (-76)], vm := .none },
  { cls := 40, slots := #[.int (-75)], vm := .none },
  { cls := 40, slots := #[.int (-74)], vm := .none },
  { cls := 40, slots := #[.int (-73)], vm := .none },
  { cls := 40, slots := #[.int (-72)], vm := .none },
  { cls := 40, slots := #[.int (-71)], vm := .none },
  { cls := 40, slots := #[.int (-70)], vm := .none },
  { cls := 40, slots := #[.int (-69)], vm := .none },
  { cls := 40, slots := #[.int (-68)], vm := .none },
  { cls := 40, slots := #[.int (-67)], vm := .none },
  { cls := 40, slots := #[.int (-66)], vm := .none },
  { cls := 40, slots := #[.int (-65)], vm := .none },
  { cls := 40, slots := #[.int (-64)], vm := .none },
  { cls := 40, slots := #[.int (-63)], vm := .none },
  { cls := 40, slots := #[.int (-62)], vm := .none },
  { cls := 40, slots := #[.int (-61)], vm := .none },
  { cls := 40, slots := #[.int (-60)], vm := .none },
  { cls := 40, slots := #[.int (-59)], vm := .none },
  { cls := 40, slots := #[.int (-58)], vm := .none },
  { cls := 40, slots := #[.int (-57)], vm := .none },
  { cls := 40, slots := #[.int (-56)], vm := .none },
  { cls := 40, slots := #[.int (-55)], vm := .none },
  { cls := 40, slots := #[.int (-54)], vm := .none },
  { cls := 40, slots := #[.int (-53)], vm := .none },
  { cls := 40, slots := #[.int (-52)], vm := .none },
  { cls := 40, slots := #[.int (-51)], vm := .none },
  { cls := 40, slots := #[.int (-50)], vm := .none },
  { cls := 40, slots := #[.int (-49)], vm := .none },
  { cls := 40, slots := #[.int (-48)], vm := .none },
  { cls := 40, slots := #[.int (-47)], vm := .none },
  { cls := 40, slots := #[.int (-46)], vm := .none },
  { cls := 40, slots := #[.int (-45)], vm := .none },
  { cls := 40, slots := #[.int (-44)], vm := .none },
  { cls := 40, slots := #[.int (-43)], vm := .none },
  { cls := 40, slots := #[.int (-42)], vm := .none },
  { cls := 40, slots := #[.int (-41)], vm := .none },
  { cls := 40, slots := #[.int (-40)], vm := .none },
  { cls := 40, slots := #[.int (-39)], vm := .none },
  { cls := 40, slots := #[.int (-38)], vm := .none },
  { cls := 40, slots := #[.int (-37)], vm := .none },
  { cls := 40, slots := #[.int (-36)], vm := .none },
  { cls := 40, slots := #[.int (-35)], vm := .none },
  { cls := 40, slots := #[.int (-34)], vm := .none },
  { cls := 40, slots := #[.int (-33)], vm := .none },
  { cls := 40, slots := #[.int (-32)], vm := .none },
  { cls := 40, slots := #[.int (-31)], vm := .none },
  { cls := 40, slots := #[.int (-30)], vm := .none },
  { cls := 40, slots := #[.int (-29)], vm := .none },
  { cls := 40, slots := #[.int (-28)], vm := .none },
  { cls := 40, slots := #[.int (-27)], vm := .none },
  { cls := 40, slots := #[.int (-26)], vm := .none },
  { cls := 40, slots := #[.int (-25)], vm := .none },
  { cls := 40, slots := #[.int (-24)], vm := .none },
  { cls := 40, slots := #[.int (-23)], vm := .none },
  { cls := 40, slots := #[.int (-22)], vm := .none },
  { cls := 40, slots := #[.int (-21)], vm := .none },
  { cls := 40, slots := #[.int (-20)], vm := .none },
  { cls := 40, slots := #[.int (-19)], vm := .none },
  { cls := 40, slots := #[.int (-18)], vm := .none },
  { cls := 40, slots := #[.int (-17)], vm := .none },
  { cls := 40, slots := #[.int (-16)], vm := .none },
  { cls := 40, slots := #[.int (-15)], vm := .none },
  { cls := 40, slots := #[.int (-14)], vm := .none },
  { cls := 40, slots := #[.int (-13)], vm := .none },
  { cls := 40, slots := #[.int (-12)], vm := .none },
  { cls := 40, slots := #[.int (-11)], vm := .none },
  { cls := 40, slots := #[.int (-10)], vm := .none },
  { cls := 40, slots := #[.int (-9)], vm := .none },
  { cls := 40, slots := #[.int (-8)], vm := .none },
  { cls := 40, slots := #[.int (-7)], vm := .none },
  { cls := 40, slots := #[.int (-6)], vm := .none },
  { cls := 40, slots := #[.int (-5)], vm := .none },
  { cls := 40, slots := #[.int (-4)], vm := .none },
  { cls := 40, slots := #[.int (-3)], vm := .none },
  { cls := 40, slots := #[.int (-2)], vm := .none },
  { cls := 40, slots := #[.int (-1)], vm := .none },
  { cls := 40, slots := #[.int 0], vm := .none },
  { cls := 40, slots := #[.int 1], vm := .none },
  { cls := 40, slots := #[.int 2], vm := .none },
  { cls := 40, slots := #[.int 3], vm := .none },
  { cls := 40, slots := #[.int 4], vm := .none },
  { cls := 40, slots := #[.int 5], vm := .none },
  { cls := 40, slots := #[.int 6], vm := .none },
  { cls := 40, slots := #[.int 7], vm := .none },
  { cls := 40, slots := #[.int 8], vm := .none },
  { cls := 40, slots := #[.int 9], vm := .none },
  { cls := 40, slots := #[.int 10], vm := .none },
  { cls := 40, slots := #[.int 11], vm := .none },
  { cls := 40, slots := #[.int 12], vm := .none },
  { cls := 40, slots := #[.int 13], vm := .none },
  { cls := 40, slots := #[.int 14], vm := .none },
  { cls := 40, slots := #[.int 15], vm := .none },
  { cls := 40, slots := #[.int 16], vm := .none },
  { cls := 40, slots := #[.int 17], vm := .none },
  { cls := 40, slots := #[.int 18], vm := .none },
  { cls := 40, slots := #[.int 19], vm := .none },
  { cls := 40, slots := #[.int 20], vm := .none },
  { cls := 40, slots := #[.int 21], vm := .none },
  { cls := 40, slots := #[.int 22], vm := .none },
  { cls := 40, slots := #[.int 23], vm := .none },
  { cls := 40, slots := #[.int 24], vm := .none },
  { cls := 40, slots := #[.int 25], vm := .none },
  { cls := 40, slots := #[.int 26], vm := .none },
  { cls := 40, slots := #[.int 27], vm := .none },
  { cls := 40, slots := #[.int 28], vm := .none },
  { cls := 40, slots := #[.int 29], vm := .none },
  { cls := 40, slots := #[.int 30], vm := .none },
  { cls := 40, slots := #[.int 31], vm := .none },
  { cls := 40, slots := #[.int 32], vm := .none },
  { cls := 40, slots := #[.int 33], vm := .none },
  { cls := 40, slots := #[.int 34], vm := .none },
  { cls := 40, slots := #[.int 35], vm := .none },
  { cls := 40, slots := #[.int 36], vm := .none },
  { cls := 40, slots := #[.int 37], vm := .none },
  { cls := 40, slots := #[.int 38], vm := .none },
  { cls := 40, slots := #[.int 39], vm := .none },
  { cls := 40, slots := #[.int 40], vm := .none },
  { cls := 40, slots := #[.int 41], vm := .none },
  { cls := 40, slots := #[.int 42], vm := .none },
  { cls := 40, slots := #[.int 43], vm := .none },
  { cls := 40, slots := #[.int 44], vm := .none },
  { cls := 40, slots := #[.int 45], vm := .none },
  { cls := 40, slots := #[.int 46], vm := .none },
  { cls := 40, slots := #[.int 47], vm := .none },
  { cls := 40, slots := #[.int 48], vm := .none },
  { cls := 40, slots := #[.int 49], vm := .none },
  { cls := 40, slots := #[.int 50], vm := .none },
  { cls := 40, slots := #[.int 51], vm := .none },
  { cls := 40, slots := #[.int 52], vm := .none },
  { cls := 40, slots := #[.int 53], vm := .none },
  { cls := 40, slots := #[.int 54], vm := .none },
  { cls := 40, slots := #[.int 55], vm := .none },
  { cls := 40, slots := #[.int 56], vm := .none },
  { cls := 40, slots := #[.int 57], vm := .none },
  { cls := 40, slots := #[.int 58], vm := .none },
  { cls := 40, slots := #[.int 59], vm := .none },
  { cls := 40, slots := #[.int 60], vm := .none },
  { cls := 40, slots := #[.int 61], vm := .none },
  { cls := 40, slots := #[.int 62], vm := .none },
  { cls := 40, slots := #[.int 63], vm := .none },
  { cls := 40, slots := #[.int 64], vm := .none },
  { cls := 40, slots := #[.int 65], vm := .none },
  { cls := 40, slots := #[.int 66], vm := .none },
  { cls := 40, slots := #[.int 67], vm := .none },
  { cls := 40, slots := #[.int 68], vm := .none },
  { cls := 40, slots := #[.int 69], vm := .none },
  { cls := 40, slots := #[.int 70], vm := .none },
  { cls := 40, slots := #[.int 71], vm := .none },
  { cls := 40, slots := #[.int 72], vm := .none },
  { cls := 40, slots := #[.int 73], vm := .none },
  { cls := 40, slots := #[.int 74], vm := .none },
  { cls := 40, slots := #[.int 75], vm := .none },
  { cls := 40, slots := #[.int 76], vm := .none },
  { cls := 40, slots := #[.int 77], vm := .none },
  { cls := 40, slots := #[.int 78], vm := .none },
  { cls := 40, slots := #[.int 79], vm := .none },
  { cls := 40, slots := #[.int 80], vm := .none },
  { cls := 40, slots := #[.int 81], vm := .none },
  { cls := 40, slots := #[.int 82], vm := .none },
  { cls := 40, slots := #[.int 83], vm := .none },
  { cls := 40, slots := #[.int 84], vm := .none },
  { cls := 40, slots := #[.int 85], vm := .none },
  { cls := 40, slots := #[.int 86], vm := .none },
  { cls := 40, slots := #[.int 87], vm := .none },
  { cls := 40, slots := #[.int 88], vm := .none },
  { cls := 40, slots := #[.int 89], vm := .none },
  { cls := 40, slots := #[.int 90], vm := .none },
  { cls := 40, slots := #[.int 91], vm := .none },
  { cls := 40, slots := #[.int 92], vm := .none },
  { cls := 40, slots := #[.int 93], vm := .none },
  { cls := 40, slots := #[.int 94], vm := .none },
  { cls := 40, slots := #[.int 95], vm := .none },
  { cls := 40, slots := #[.int 96], vm := .none },
  { cls := 40, slots := #[.int 97], vm := .none },
  { cls := 40, slots := #[.int 98], vm := .none },
  { cls := 40, slots := #[.int 99], vm := .none },
  { cls := 40, slots := #[.int 100], vm := .none },
  { cls := 40, slots := #[.int 101], vm := .none },
  { cls := 40, slots := #[.int 102], vm := .none },
  { cls := 40, slots := #[.int 103], vm := .none },
  { cls := 40, slots := #[.int 104], vm := .none },
  { cls := 40, slots := #[.int 105], vm := .none },
  { cls := 40, slots := #[.int 106], vm := .none },
  { cls := 40, slots := #[.int 107], vm := .none },
  { cls := 40, slots := #[.int 108], vm := .none },
  { cls := 40, slots := #[.int 109], vm := .none },
  { cls := 40, slots := #[.int 110], vm := .none },
  { cls := 40, slots := #[.int 111], vm := .none },
  { cls := 40, slots := #[.int 112], vm := .none },
  { cls := 40, slots := #[.int 113], vm := .none },
  { cls := 40, slots := #[.int 114], vm := .none },
  { cls := 40, slots := #[.int 115], vm := .none },
  { cls := 40, slots := #[.int 116], vm := .none },
  { cls := 40, slots := #[.int 117], vm := .none },
  { cls := 40, slots := #[.int 118], vm := .none },
  { cls := 40, slots := #[.int 119], vm := .none },
  { cls := 40, slots := #[.int 120], vm := .none },
  { cls := 40, slots := #[.int 121], vm := .none },
  { cls := 40, slots := #[.int 122], vm := .none },
  { cls := 40, slots := #[.int 123], vm := .none },
  { cls := 40, slots := #[.int 124], vm := .none },
  { cls := 40, slots := #[.int 125], vm := .none },
  { cls := 40, slots := #[.int 126], vm := .none },
  { cls := 40, slots := #[.int 127], vm := .none },
  { cls := 55, slots := #[], vm := .none },
  { cls := 55, slots := #[], vm := .none },
  { cls := 0, slots := #[], vm := .none },
  { cls := 25, slots := #[.null, .int 0], vm := .none }]
def classes : Array Class := #[k0, k1, k2, k3, k4, k5, k6, k7, k8, k9, k10, k11, k12, k13, k14, k15, k16, k17, k18, k19, k20, k21, k22, k23, k24, k25, k26, k27, k28, k29, k30, k31, k32, k33, k34, k35, k36, k37, k38, k39, k40, k41, k42, k43, k44, k45, k46, k47, k48, k49, k50, k51, k52, k53, k54, k55, k56]
def interned : List (Array UInt16 × Addr) := []
def slotsUsed : Nat := 543
def theMethod : MethodId := ⟨1, 1⟩
def args0 : Array Value := #[.long 5, .long 7, .int 3]
def aboutOver (below : List Frame) : State where
  vm := { classes := classes, interned := interned.toArray }
  heap := heap
  slotsUsed := slotsUsed
  threads := #[{ frames := .invoking theMethod args0 :: below }]
def below0 : List Frame := [.native { method := ⟨0, 0⟩, args := #[] }]
def about1 : State := aboutOver below0
def p0 : Program := .bare "" "" ""
def e0 : Env := launch0.env 0 0 0
theorem w_frames : about1.frames = Frame.invoking theMethod args0 :: below0 := rfl
set_option maxRecDepth 65536 in
theorem w_args : argsFit about1.vm theMethod args0 = true := by decide +kernel
set_option maxRecDepth 65536 in
theorem w_heap : heapFits about1 = true := by decide +kernel
set_option maxRecDepth 65536 in
theorem w_runnable : about1.curStatus? = some .runnable := by decide +kernel
set_option maxRecDepth 65536 in
theorem w_alone : about1.alone = true := by decide +kernel
set_option maxRecDepth 65536 in
theorem w_named : about1.methodNamed? x = some theMethod := by decide +kernel
set_option maxRecDepth 65536 in
theorem w_hears : about1.hears theMethod below0 = true := by decide +kernel
set_option maxRecDepth 65536 in
theorem w_ripe : about1.ripe theMethod args0 below0 = true := by decide +kernel
theorem w_running : about1.status = .running := rfl
set_option maxRecDepth 65536 in
theorem w_room : about1.hasRoom e0.platform room_1 = true :=
  launch0.hasRoom_least _ room_1 (by decide +kernel) (by decide +kernel) (by decide +kernel) (by decide +kernel) (by decide +kernel) (by decide +kernel)
theorem allAtoms_all (ts : List Jvm.Cond) (a : Array Jvm.Value) (st : Jvm.State) : (allAtoms ts).before a st = ts.all (fun c => c.before a st) := by
  induction ts with
  | nil => rfl
  | cons c t ih =>
    show (Jvm.Cond.and c (allAtoms t)).before a st = _
    rw [Jvm.Cond.before_and, ih, List.all_cons]
def words1 : List Jvm.Cond := Jvm.Cond.code x code maxLocals ret :: tables_1
theorem code_word {y : MethodName} {bytes : ByteArray} {mx : Nat} {rt : Option FieldType} {a : Array Value} {s : State} {m : MethodId} {meth : Method} {c : Code} (h1 : s.methodNamed? y = some m) (h2 : s.vm.method? m = some meth) (h3 : meth.code = some c) (h4 : c.code = bytes)
    (h5 : (c.maxLocals == mx && c.exceptionTable.isEmpty && decide (c.maxStack ≤ mostOperands) && decide (meth.sig.returnType = rt) && !meth.locks && decide (parseMethodDescriptor y.desc = some meth.sig)) = true) : (Jvm.Cond.code y bytes mx rt).before a s = true := by
  simp only [Bool.and_eq_true, beq_iff_eq, Bool.not_eq_true', decide_eq_true_eq] at h5
  obtain ⟨⟨⟨⟨⟨g1, g2⟩, g3⟩, g4⟩, g5⟩, g6⟩ := h5
  simp [Cond.before, Cond.holds, Cond.value, h1, h2, h3, h4, g1, g2, g3, g4, g5, g6]
def isCode : Jvm.Cond → Bool
  | .code _ _ _ _ => true
  | _ => false
theorem all_split {L : List Jvm.Cond} {P : Jvm.Cond → Bool} (h1 : L.all (fun c => isCode c || P c) = true) (h2 : ∀ c ∈ L.filter isCode, P c = true) : L.all P = true := by
  refine List.all_eq_true.mpr fun c hc => ?_
  have h := List.all_eq_true.mp h1 c hc
  rcases Bool.eq_false_or_eq_true (isCode c) with hi | hi
  · exact h2 c (List.mem_filter.mpr ⟨hc, hi⟩)
  · simpa [hi] using h
set_option maxRecDepth 65536 in
theorem w_c0 : (Jvm.Cond.code x code maxLocals ret).before args0 about1 = true := code_word (m := ⟨1, 1⟩) (meth := k1m1) (c := k1c1) (by decide +kernel) rfl rfl rfl (by decide +kernel)
set_option maxRecDepth 65536 in
theorem w_c1 : (Jvm.Cond.code ⟨"java/util/ArrayList", "<init>", "()V"⟩ jdk_38_method_2_code (1 : Nat) (Option.none : Option Jvm.ClassFile.FieldType)).before args0 about1 = true := code_word (m := ⟨12, 0⟩) (meth := k12m0) (c := k12c0) (by decide +kernel) rfl rfl rfl (by decide +kernel)
set_option maxRecDepth 65536 in
theorem w_c2 : (Jvm.Cond.code ⟨"java/util/AbstractList", "<init>", "()V"⟩ jdk_39_method_1_code (1 : Nat) (Option.none : Option Jvm.ClassFile.FieldType)).before args0 about1 = true := code_word (m := ⟨8, 0⟩) (meth := k8m0) (c := k8c0) (by decide +kernel) rfl rfl rfl (by decide +kernel)
set_option maxRecDepth 65536 in
theorem w_c3 : (Jvm.Cond.code ⟨"java/util/AbstractCollection", "<init>", "()V"⟩ jdk_22_method_1_code (1 : Nat) (Option.none : Option Jvm.ClassFile.FieldType)).before args0 about1 = true := code_word (m := ⟨5, 0⟩) (meth := k5m0) (c := k5c0) (by decide +kernel) rfl rfl rfl (by decide +kernel)
set_option maxRecDepth 65536 in
theorem w_c4 : (Jvm.Cond.code ⟨"java/lang/Object", "<init>", "()V"⟩ object_method_1_code (1 : Nat) (Option.none : Option Jvm.ClassFile.FieldType)).before args0 about1 = true := code_word (m := ⟨0, 0⟩) (meth := k0m0) (c := k0c0) (by decide +kernel) rfl rfl rfl (by decide +kernel)
set_option maxRecDepth 65536 in
theorem w_c5 : (Jvm.Cond.code ⟨"com/example/restate/restate/model/CensusColumns", "<init>", "(Ljava/util/Collection;)V"⟩ prog_32_method_1_code (4 : Nat) (Option.none : Option Jvm.ClassFile.FieldType)).before args0 about1 = true := code_word (m := ⟨2, 0⟩) (meth := k2m0) (c := k2c0) (by decide +kernel) rfl rfl rfl (by decide +kernel)
set_option maxRecDepth 65536 in
theorem w_c6 : (Jvm.Cond.code ⟨"com/example/restate/restate/model/LongColumn", "<init>", "()V"⟩ prog_46_method_1_code (1 : Nat) (Option.none : Option Jvm.ClassFile.FieldType)).before args0 about1 = true := code_word (m := ⟨13, 0⟩) (meth := k13m0) (c := k13c0) (by decide +kernel) rfl rfl rfl (by decide +kernel)
set_option maxRecDepth 65536 in
theorem w_c7 : (Jvm.Cond.code ⟨"com/example/restate/restate/model/CensusColumns$Codes", "<init>", "()V"⟩ prog_33_method_1_code (1 : Nat) (Option.none : Option Jvm.ClassFile.FieldType)).before args0 about1 = true := code_word (m := ⟨14, 0⟩) (meth := k14m0) (c := k14c0) (by decide +kernel) rfl rfl rfl (by decide +kernel)
set_option maxRecDepth 65536 in
theorem w_c8 : (Jvm.Cond.code ⟨"java/util/HashMap", "<init>", "()V"⟩ jdk_69_method_7_code (1 : Nat) (Option.none : Option Jvm.ClassFile.FieldType)).before args0 about1 = true := code_word (m := ⟨17, 1⟩) (meth := k17m1) (c := k17c1) (by decide +kernel) rfl rfl rfl (by decide +kernel)
set_option maxRecDepth 65536 in
theorem w_c9 : (Jvm.Cond.code ⟨"java/util/AbstractMap", "<init>", "()V"⟩ jdk_71_method_1_code (1 : Nat) (Option.none : Option Jvm.ClassFile.FieldType)).before args0 about1 = true := code_word (m := ⟨16, 0⟩) (meth := k16m0) (c := k16c0) (by decide +kernel) rfl rfl rfl (by decide +kernel)
set_option maxRecDepth 65536 in
theorem w_c10 : (Jvm.Cond.code ⟨"com/example/restate/restate/model/AmountColumn", "<init>", "()V"⟩ prog_28_method_1_code (1 : Nat) (Option.none : Option Jvm.ClassFile.FieldType)).before args0 about1 = true := code_word (m := ⟨18, 0⟩) (meth := k18m0) (c := k18c0) (by decide +kernel) rfl rfl rfl (by decide +kernel)
set_option maxRecDepth 65536 in
theorem w_c11 : (Jvm.Cond.code ⟨"java/util/LinkedHashMap", "<init>", "()V"⟩ jdk_94_method_16_code (1 : Nat) (Option.none : Option Jvm.ClassFile.FieldType)).before args0 about1 = true := code_word (m := ⟨20, 0⟩) (meth := k20m0) (c := k20c0) (by decide +kernel) rfl rfl rfl (by decide +kernel)
set_option maxRecDepth 65536 in
theorem w_c12 : (Jvm.Cond.code ⟨"java/util/List", "of", "(Ljava/lang/Object;Ljava/lang/Object;Ljava/lang/Object;Ljava/lang/Object;)Ljava/util/List;"⟩ jdk_40_method_40_code (4 : Nat) (Option.some (Jvm.ClassFile.FieldType.object "java/util/List"))).before args0 about1 = true := code_word (m := ⟨7, 4⟩) (meth := k7m4) (c := k7c4) (by decide +kernel) rfl rfl rfl (by decide +kernel)
set_option maxRecDepth 65536 in
theorem w_c13 : (Jvm.Cond.code ⟨"java/util/ImmutableCollections", "listFromTrustedArray", "([Ljava/lang/Object;)Ljava/util/List;"⟩ jdk_56_method_5_code (5 : Nat) (Option.some (Jvm.ClassFile.FieldType.object "java/util/List"))).before args0 about1 = true := code_word (m := ⟨21, 1⟩) (meth := k21m1) (c := k21c1) (by decide +kernel) rfl rfl rfl (by decide +kernel)
set_option maxRecDepth 65536 in
theorem w_c14 : (Jvm.Cond.code ⟨"java/util/Objects", "requireNonNull", "(Ljava/lang/Object;)Ljava/lang/Object;"⟩ jdk_31_method_10_code (1 : Nat) (Option.some (Jvm.ClassFile.FieldType.object "java/lang/Object"))).before args0 about1 = true := code_word (m := ⟨22, 1⟩) (meth := k22m1) (c := k22c1) (by decide +kernel) rfl rfl rfl (by decide +kernel)
set_option maxRecDepth 65536 in
theorem w_c15 : (Jvm.Cond.code ⟨"java/util/ImmutableCollections$ListN", "<init>", "([Ljava/lang/Object;Z)V"⟩ jdk_45_method_1_code (3 : Nat) (Option.none : Option Jvm.ClassFile.FieldType)).before args0 about1 = true := code_word (m := ⟨25, 0⟩) (meth := k25m0) (c := k25c0) (by decide +kernel) rfl rfl rfl (by decide +kernel)
set_option maxRecDepth 65536 in
theorem w_c16 : (Jvm.Cond.code ⟨"java/util/ImmutableCollections$AbstractImmutableList", "<init>", "()V"⟩ jdk_46_method_1_code (1 : Nat) (Option.none : Option Jvm.ClassFile.FieldType)).before args0 about1 = true := code_word (m := ⟨24, 0⟩) (meth := k24m0) (c := k24c0) (by decide +kernel) rfl rfl rfl (by decide +kernel)
set_option maxRecDepth 65536 in
theorem w_c17 : (Jvm.Cond.code ⟨"java/util/ImmutableCollections$AbstractImmutableCollection", "<init>", "()V"⟩ jdk_47_method_1_code (1 : Nat) (Option.none : Option Jvm.ClassFile.FieldType)).before args0 about1 = true := code_word (m := ⟨23, 0⟩) (meth := k23m0) (c := k23c0) (by decide +kernel) rfl rfl rfl (by decide +kernel)
set_option maxRecDepth 65536 in
theorem w_c18 : (Jvm.Cond.code ⟨"java/util/ArrayList", "<init>", "(Ljava/util/Collection;)V"⟩ jdk_38_method_3_code (3 : Nat) (Option.none : Option Jvm.ClassFile.FieldType)).before args0 about1 = true := code_word (m := ⟨12, 1⟩) (meth := k12m1) (c := k12c1) (by decide +kernel) rfl rfl rfl (by decide +kernel)
set_option maxRecDepth 65536 in
theorem w_c19 : (Jvm.Cond.code ⟨"java/util/ImmutableCollections$ListN", "toArray", "()[Ljava/lang/Object;"⟩ jdk_45_method_7_code (1 : Nat) (Option.some (Jvm.ClassFile.FieldType.array (Jvm.ClassFile.FieldType.object "java/lang/Object")))).before args0 about1 = true := code_word (m := ⟨25, 1⟩) (meth := k25m1) (c := k25c1) (by decide +kernel) rfl rfl rfl (by decide +kernel)
set_option maxRecDepth 65536 in
theorem w_c20 : (Jvm.Cond.code ⟨"java/util/Arrays", "copyOf", "([Ljava/lang/Object;I)[Ljava/lang/Object;"⟩ jdk_65_method_119_code (2 : Nat) (Option.some (Jvm.ClassFile.FieldType.array (Jvm.ClassFile.FieldType.object "java/lang/Object")))).before args0 about1 = true := code_word (m := ⟨26, 3⟩) (meth := k26m3) (c := k26c3) (by decide +kernel) rfl rfl rfl (by decide +kernel)
set_option maxRecDepth 65536 in
theorem w_c21 : (Jvm.Cond.code ⟨"java/util/Arrays", "copyOf", "([Ljava/lang/Object;ILjava/lang/Class;)[Ljava/lang/Object;"⟩ jdk_65_method_120_code (4 : Nat) (Option.some (Jvm.ClassFile.FieldType.array (Jvm.ClassFile.FieldType.object "java/lang/Object")))).before args0 about1 = true := code_word (m := ⟨26, 4⟩) (meth := k26m4) (c := k26c4) (by decide +kernel) rfl rfl rfl (by decide +kernel)
set_option maxRecDepth 65536 in
theorem w_c22 : (Jvm.Cond.code ⟨"java/lang/Math", "min", "(II)I"⟩ jdk_29_method_69_code (2 : Nat) (Option.some Jvm.ClassFile.FieldType.int)).before args0 about1 = true := code_word (m := ⟨27, 3⟩) (meth := k27m3) (c := k27c3) (by decide +kernel) rfl rfl rfl (by decide +kernel)
set_option maxRecDepth 65536 in
theorem w_c23 : (Jvm.Cond.code ⟨"java/util/ArrayList", "iterator", "()Ljava/util/Iterator;"⟩ jdk_38_method_55_code (1 : Nat) (Option.some (Jvm.ClassFile.FieldType.object "java/util/Iterator"))).before args0 about1 = true := code_word (m := ⟨12, 10⟩) (meth := k12m10) (c := k12c10) (by decide +kernel) rfl rfl rfl (by decide +kernel)
set_option maxRecDepth 65536 in
theorem w_c24 : (Jvm.Cond.code ⟨"java/util/ArrayList$Itr", "<init>", "(Ljava/util/ArrayList;)V"⟩ jdk_49_method_1_code (2 : Nat) (Option.none : Option Jvm.ClassFile.FieldType)).before args0 about1 = true := code_word (m := ⟨30, 0⟩) (meth := k30m0) (c := k30c0) (by decide +kernel) rfl rfl rfl (by decide +kernel)
set_option maxRecDepth 65536 in
theorem w_c25 : (Jvm.Cond.code ⟨"java/util/ArrayList$Itr", "hasNext", "()Z"⟩ jdk_49_method_2_code (1 : Nat) (Option.some Jvm.ClassFile.FieldType.boolean)).before args0 about1 = true := code_word (m := ⟨30, 1⟩) (meth := k30m1) (c := k30c1) (by decide +kernel) rfl rfl rfl (by decide +kernel)
set_option maxRecDepth 65536 in
theorem w_c26 : (Jvm.Cond.code ⟨"java/util/LinkedHashMap", "values", "()Ljava/util/Collection;"⟩ jdk_94_method_30_code (1 : Nat) (Option.some (Jvm.ClassFile.FieldType.object "java/util/Collection"))).before args0 about1 = true := code_word (m := ⟨20, 2⟩) (meth := k20m2) (c := k20c2) (by decide +kernel) rfl rfl rfl (by decide +kernel)
set_option maxRecDepth 65536 in
theorem w_c27 : (Jvm.Cond.code ⟨"java/util/LinkedHashMap", "sequencedValues", "()Ljava/util/SequencedCollection;"⟩ jdk_94_method_31_code (3 : Nat) (Option.some (Jvm.ClassFile.FieldType.object "java/util/SequencedCollection"))).before args0 about1 = true := code_word (m := ⟨20, 3⟩) (meth := k20m3) (c := k20c3) (by decide +kernel) rfl rfl rfl (by decide +kernel)
set_option maxRecDepth 65536 in
theorem w_c28 : (Jvm.Cond.code ⟨"java/util/LinkedHashMap$LinkedValues", "<init>", "(Ljava/util/LinkedHashMap;Z)V"⟩ jdk_114_method_1_code (3 : Nat) (Option.none : Option Jvm.ClassFile.FieldType)).before args0 about1 = true := code_word (m := ⟨31, 0⟩) (meth := k31m0) (c := k31c0) (by decide +kernel) rfl rfl rfl (by decide +kernel)
set_option maxRecDepth 65536 in
theorem w_c29 : (Jvm.Cond.code ⟨"java/util/ArrayList", "addAll", "(Ljava/util/Collection;)Z"⟩ jdk_38_method_41_code (6 : Nat) (Option.some Jvm.ClassFile.FieldType.boolean)).before args0 about1 = true := code_word (m := ⟨12, 9⟩) (meth := k12m9) (c := k12c9) (by decide +kernel) rfl rfl rfl (by decide +kernel)
set_option maxRecDepth 65536 in
theorem w_c30 : (Jvm.Cond.code ⟨"java/util/LinkedHashMap$LinkedValues", "toArray", "()[Ljava/lang/Object;"⟩ jdk_114_method_7_code (1 : Nat) (Option.some (Jvm.ClassFile.FieldType.array (Jvm.ClassFile.FieldType.object "java/lang/Object")))).before args0 about1 = true := code_word (m := ⟨31, 1⟩) (meth := k31m1) (c := k31c1) (by decide +kernel) rfl rfl rfl (by decide +kernel)
set_option maxRecDepth 65536 in
theorem w_c31 : (Jvm.Cond.code ⟨"java/util/LinkedHashMap", "valuesToArray", "([Ljava/lang/Object;Z)[Ljava/lang/Object;"⟩ jdk_94_method_29_code (6 : Nat) (Option.some (Jvm.ClassFile.FieldType.array (Jvm.ClassFile.FieldType.object "java/lang/Object")))).before args0 about1 = true := code_word (m := ⟨20, 1⟩) (meth := k20m1) (c := k20c1) (by decide +kernel) rfl rfl rfl (by decide +kernel)
set_option maxRecDepth 65536 in
theorem w_c32 : (Jvm.Cond.code ⟨"com/example/restate/restate/model/CensusColumns", "add", "(JLjava/lang/String;Ljava/lang/String;Lcom/example/restate/restate/model/PensionEligibility;Lcom/example/restate/restate/model/YearEndStatus;Ljava/time/LocalDate;Ljava/time/LocalDate;Ljava/time/LocalDate;)V"⟩ prog_32_method_3_code (13 : Nat) (Option.none : Option Jvm.ClassFile.FieldType)).before args0 about1 = true := code_word (m := ⟨2, 1⟩) (meth := k2m1) (c := k2c1) (by decide +kernel) rfl rfl rfl (by decide +kernel)
set_option maxRecDepth 65536 in
theorem w_c33 : (Jvm.Cond.code ⟨"com/example/restate/restate/model/CensusColumns", "checkAmounts", "(I)V"⟩ prog_32_method_4_code (4 : Nat) (Option.none : Option Jvm.ClassFile.FieldType)).before args0 about1 = true := code_word (m := ⟨2, 2⟩) (meth := k2m2) (c := k2c2) (by decide +kernel) rfl rfl rfl (by decide +kernel)
set_option maxRecDepth 65536 in
theorem w_c34 : (Jvm.Cond.code ⟨"java/util/ArrayList", "size", "()I"⟩ jdk_38_method_8_code (1 : Nat) (Option.some Jvm.ClassFile.FieldType.int)).before args0 about1 = true := code_word (m := ⟨12, 4⟩) (meth := k12m4) (c := k12c4) (by decide +kernel) rfl rfl rfl (by decide +kernel)
set_option maxRecDepth 65536 in
theorem w_c35 : (Jvm.Cond.code ⟨"java/util/ArrayList", "get", "(I)Ljava/lang/Object;"⟩ jdk_38_method_20_code (2 : Nat) (Option.some (Jvm.ClassFile.FieldType.object "java/lang/Object"))).before args0 about1 = true := code_word (m := ⟨12, 6⟩) (meth := k12m6) (c := k12c6) (by decide +kernel) rfl rfl rfl (by decide +kernel)
set_option maxRecDepth 65536 in
theorem w_c36 : (Jvm.Cond.code ⟨"java/util/Objects", "checkIndex", "(II)I"⟩ jdk_31_method_17_code (2 : Nat) (Option.some Jvm.ClassFile.FieldType.int)).before args0 about1 = true := code_word (m := ⟨22, 2⟩) (meth := k22m2) (c := k22c2) (by decide +kernel) rfl rfl rfl (by decide +kernel)
set_option maxRecDepth 65536 in
theorem w_c37 : (Jvm.Cond.code ⟨"jdk/internal/util/Preconditions", "checkIndex", "(IILjava/util/function/BiFunction;)I"⟩ jdk_41_method_11_code (3 : Nat) (Option.some Jvm.ClassFile.FieldType.int)).before args0 about1 = true := code_word (m := ⟨37, 1⟩) (meth := k37m1) (c := k37c1) (by decide +kernel) rfl rfl rfl (by decide +kernel)
set_option maxRecDepth 65536 in
theorem w_c38 : (Jvm.Cond.code ⟨"java/util/ArrayList", "elementData", "(I)Ljava/lang/Object;"⟩ jdk_38_method_18_code (2 : Nat) (Option.some (Jvm.ClassFile.FieldType.object "java/lang/Object"))).before args0 about1 = true := code_word (m := ⟨12, 5⟩) (meth := k12m5) (c := k12c5) (by decide +kernel) rfl rfl rfl (by decide +kernel)
set_option maxRecDepth 65536 in
theorem w_c39 : (Jvm.Cond.code ⟨"com/example/restate/restate/model/AmountColumn", "size", "()I"⟩ prog_28_method_2_code (1 : Nat) (Option.some Jvm.ClassFile.FieldType.int)).before args0 about1 = true := code_word (m := ⟨18, 1⟩) (meth := k18m1) (c := k18c1) (by decide +kernel) rfl rfl rfl (by decide +kernel)
set_option maxRecDepth 65536 in
theorem w_c40 : (Jvm.Cond.code ⟨"com/example/restate/restate/model/LongColumn", "size", "()I"⟩ prog_46_method_2_code (1 : Nat) (Option.some Jvm.ClassFile.FieldType.int)).before args0 about1 = true := code_word (m := ⟨13, 1⟩) (meth := k13m1) (c := k13c1) (by decide +kernel) rfl rfl rfl (by decide +kernel)
set_option maxRecDepth 65536 in
theorem w_c41 : (Jvm.Cond.code ⟨"com/example/restate/restate/model/LongColumn", "add", "(J)V"⟩ prog_46_method_3_code (4 : Nat) (Option.none : Option Jvm.ClassFile.FieldType)).before args0 about1 = true := code_word (m := ⟨13, 2⟩) (meth := k13m2) (c := k13c2) (by decide +kernel) rfl rfl rfl (by decide +kernel)
set_option maxRecDepth 65536 in
theorem w_c42 : (Jvm.Cond.code ⟨"com/example/restate/restate/model/CensusColumns", "idStart", "(I)I"⟩ prog_32_method_23_code (2 : Nat) (Option.some Jvm.ClassFile.FieldType.int)).before args0 about1 = true := code_word (m := ⟨2, 8⟩) (meth := k2m8) (c := k2c8) (by decide +kernel) rfl rfl rfl (by decide +kernel)
set_option maxRecDepth 65536 in
theorem w_c43 : (Jvm.Cond.code ⟨"java/lang/String", "length", "()I"⟩ jdk_42_method_54_code (1 : Nat) (Option.some Jvm.ClassFile.FieldType.int)).before args0 about1 = true := code_word (m := ⟨36, 1⟩) (meth := k36m1) (c := k36c1) (by decide +kernel) rfl rfl rfl (by decide +kernel)
set_option maxRecDepth 65536 in
theorem w_c44 : (Jvm.Cond.code ⟨"java/lang/String", "coder", "()B"⟩ jdk_42_method_152_code (1 : Nat) (Option.some Jvm.ClassFile.FieldType.byte)).before args0 about1 = true := code_word (m := ⟨36, 3⟩) (meth := k36m3) (c := k36c3) (by decide +kernel) rfl rfl rfl (by decide +kernel)
set_option maxRecDepth 65536 in
theorem w_c45 : (Jvm.Cond.code ⟨"java/lang/Math", "addExact", "(II)I"⟩ jdk_29_method_24_code (3 : Nat) (Option.some Jvm.ClassFile.FieldType.int)).before args0 about1 = true := code_word (m := ⟨27, 1⟩) (meth := k27m1) (c := k27c1) (by decide +kernel) rfl rfl rfl (by decide +kernel)
set_option maxRecDepth 65536 in
theorem w_c46 : (Jvm.Cond.code ⟨"java/lang/String", "getChars", "(II[CI)V"⟩ jdk_42_method_61_code (5 : Nat) (Option.none : Option Jvm.ClassFile.FieldType)).before args0 about1 = true := code_word (m := ⟨36, 2⟩) (meth := k36m2) (c := k36c2) (by decide +kernel) rfl rfl rfl (by decide +kernel)
set_option maxRecDepth 65536 in
theorem w_c47 : (Jvm.Cond.code ⟨"java/lang/String", "checkBoundsBeginEnd", "(III)V"⟩ jdk_42_method_158_code (3 : Nat) (Option.none : Option Jvm.ClassFile.FieldType)).before args0 about1 = true := code_word (m := ⟨36, 6⟩) (meth := k36m6) (c := k36c6) (by decide +kernel) rfl rfl rfl (by decide +kernel)
set_option maxRecDepth 65536 in
theorem w_c48 : (Jvm.Cond.code ⟨"jdk/internal/util/Preconditions", "checkFromToIndex", "(IIILjava/util/function/BiFunction;)I"⟩ jdk_41_method_12_code (4 : Nat) (Option.some Jvm.ClassFile.FieldType.int)).before args0 about1 = true := code_word (m := ⟨37, 2⟩) (meth := k37m2) (c := k37c2) (by decide +kernel) rfl rfl rfl (by decide +kernel)
set_option maxRecDepth 65536 in
theorem w_c49 : (Jvm.Cond.code ⟨"java/lang/String", "checkBoundsOffCount", "(III)I"⟩ jdk_42_method_157_code (3 : Nat) (Option.some Jvm.ClassFile.FieldType.int)).before args0 about1 = true := code_word (m := ⟨36, 5⟩) (meth := k36m5) (c := k36c5) (by decide +kernel) rfl rfl rfl (by decide +kernel)
set_option maxRecDepth 65536 in
theorem w_c50 : (Jvm.Cond.code ⟨"jdk/internal/util/Preconditions", "checkFromIndexSize", "(IIILjava/util/function/BiFunction;)I"⟩ jdk_41_method_13_code (4 : Nat) (Option.some Jvm.ClassFile.FieldType.int)).before args0 about1 = true := code_word (m := ⟨37, 3⟩) (meth := k37m3) (c := k37c3) (by decide +kernel) rfl rfl rfl (by decide +kernel)
set_option maxRecDepth 65536 in
theorem w_c51 : (Jvm.Cond.code ⟨"java/lang/String", "isLatin1", "()Z"⟩ jdk_42_method_154_code (1 : Nat) (Option.some Jvm.ClassFile.FieldType.boolean)).before args0 about1 = true := code_word (m := ⟨36, 4⟩) (meth := k36m4) (c := k36c4) (by decide +kernel) rfl rfl rfl (by decide +kernel)
set_option maxRecDepth 65536 in
theorem w_c52 : (Jvm.Cond.code ⟨"java/lang/StringLatin1", "getChars", "([BII[CI)V"⟩ jdk_43_method_11_code (5 : Nat) (Option.none : Option Jvm.ClassFile.FieldType)).before args0 about1 = true := code_word (m := ⟨38, 1⟩) (meth := k38m1) (c := k38c1) (by decide +kernel) rfl rfl rfl (by decide +kernel)
set_option maxRecDepth 65536 in
theorem w_c53 : (Jvm.Cond.code ⟨"java/lang/StringLatin1", "inflate", "([BI[CII)V"⟩ jdk_43_method_49_code (6 : Nat) (Option.none : Option Jvm.ClassFile.FieldType)).before args0 about1 = true := code_word (m := ⟨38, 2⟩) (meth := k38m2) (c := k38c2) (by decide +kernel) rfl rfl rfl (by decide +kernel)
set_option maxRecDepth 65536 in
theorem w_c54 : (Jvm.Cond.code ⟨"com/example/restate/restate/model/CensusColumns$Codes", "add", "(Ljava/lang/Object;)V"⟩ prog_33_method_2_code (3 : Nat) (Option.none : Option Jvm.ClassFile.FieldType)).before args0 about1 = true := code_word (m := ⟨14, 1⟩) (meth := k14m1) (c := k14c1) (by decide +kernel) rfl rfl rfl (by decide +kernel)
set_option maxRecDepth 65536 in
theorem w_c55 : (Jvm.Cond.code ⟨"java/util/HashMap", "get", "(Ljava/lang/Object;)Ljava/lang/Object;"⟩ jdk_69_method_12_code (3 : Nat) (Option.some (Jvm.ClassFile.FieldType.object "java/lang/Object"))).before args0 about1 = true := code_word (m := ⟨17, 2⟩) (meth := k17m2) (c := k17c2) (by decide +kernel) rfl rfl rfl (by decide +kernel)
set_option maxRecDepth 65536 in
theorem w_c56 : (Jvm.Cond.code ⟨"java/util/HashMap", "getNode", "(Ljava/lang/Object;)Ljava/util/HashMap$Node;"⟩ jdk_69_method_13_code (8 : Nat) (Option.some (Jvm.ClassFile.FieldType.object "java/util/HashMap$Node"))).before args0 about1 = true := code_word (m := ⟨17, 3⟩) (meth := k17m3) (c := k17c3) (by decide +kernel) rfl rfl rfl (by decide +kernel)
set_option maxRecDepth 65536 in
theorem w_c57 : (Jvm.Cond.code ⟨"java/lang/Integer", "valueOf", "(I)Ljava/lang/Integer;"⟩ jdk_33_method_22_code (1 : Nat) (Option.some (Jvm.ClassFile.FieldType.object "java/lang/Integer"))).before args0 about1 = true := code_word (m := ⟨40, 0⟩) (meth := k40m0) (c := k40c0) (by decide +kernel) rfl rfl rfl (by decide +kernel)
set_option maxRecDepth 65536 in
theorem w_c58 : (Jvm.Cond.code ⟨"java/util/ArrayList", "add", "(Ljava/lang/Object;)Z"⟩ jdk_38_method_25_code (2 : Nat) (Option.some Jvm.ClassFile.FieldType.boolean)).before args0 about1 = true := code_word (m := ⟨12, 8⟩) (meth := k12m8) (c := k12c8) (by decide +kernel) rfl rfl rfl (by decide +kernel)
set_option maxRecDepth 65536 in
theorem w_c59 : (Jvm.Cond.code ⟨"java/util/ArrayList", "add", "(Ljava/lang/Object;[Ljava/lang/Object;I)V"⟩ jdk_38_method_24_code (4 : Nat) (Option.none : Option Jvm.ClassFile.FieldType)).before args0 about1 = true := code_word (m := ⟨12, 7⟩) (meth := k12m7) (c := k12c7) (by decide +kernel) rfl rfl rfl (by decide +kernel)
set_option maxRecDepth 65536 in
theorem w_c60 : (Jvm.Cond.code ⟨"java/util/ArrayList", "grow", "()[Ljava/lang/Object;"⟩ jdk_38_method_7_code (1 : Nat) (Option.some (Jvm.ClassFile.FieldType.array (Jvm.ClassFile.FieldType.object "java/lang/Object")))).before args0 about1 = true := code_word (m := ⟨12, 3⟩) (meth := k12m3) (c := k12c3) (by decide +kernel) rfl rfl rfl (by decide +kernel)
set_option maxRecDepth 65536 in
theorem w_c61 : (Jvm.Cond.code ⟨"java/util/ArrayList", "grow", "(I)[Ljava/lang/Object;"⟩ jdk_38_method_6_code (4 : Nat) (Option.some (Jvm.ClassFile.FieldType.array (Jvm.ClassFile.FieldType.object "java/lang/Object")))).before args0 about1 = true := code_word (m := ⟨12, 2⟩) (meth := k12m2) (c := k12c2) (by decide +kernel) rfl rfl rfl (by decide +kernel)
set_option maxRecDepth 65536 in
theorem w_c62 : (Jvm.Cond.code ⟨"java/lang/Math", "max", "(II)I"⟩ jdk_29_method_65_code (2 : Nat) (Option.some Jvm.ClassFile.FieldType.int)).before args0 about1 = true := code_word (m := ⟨27, 2⟩) (meth := k27m2) (c := k27c2) (by decide +kernel) rfl rfl rfl (by decide +kernel)
set_option maxRecDepth 65536 in
theorem w_c63 : (Jvm.Cond.code ⟨"java/util/HashMap", "put", "(Ljava/lang/Object;Ljava/lang/Object;)Ljava/lang/Object;"⟩ jdk_69_method_15_code (3 : Nat) (Option.some (Jvm.ClassFile.FieldType.object "java/lang/Object"))).before args0 about1 = true := code_word (m := ⟨17, 4⟩) (meth := k17m4) (c := k17c4) (by decide +kernel) rfl rfl rfl (by decide +kernel)
set_option maxRecDepth 65536 in
theorem w_c64 : (Jvm.Cond.code ⟨"java/util/HashMap", "hash", "(Ljava/lang/Object;)I"⟩ jdk_69_method_1_code (2 : Nat) (Option.some Jvm.ClassFile.FieldType.int)).before args0 about1 = true := code_word (m := ⟨17, 0⟩) (meth := k17m0) (c := k17c0) (by decide +kernel) rfl rfl rfl (by decide +kernel)
set_option maxRecDepth 65536 in
theorem w_c65 : (Jvm.Cond.code ⟨"java/util/HashMap", "putVal", "(ILjava/lang/Object;Ljava/lang/Object;ZZ)Ljava/lang/Object;"⟩ jdk_69_method_16_code (13 : Nat) (Option.some (Jvm.ClassFile.FieldType.object "java/lang/Object"))).before args0 about1 = true := code_word (m := ⟨17, 5⟩) (meth := k17m5) (c := k17c5) (by decide +kernel) rfl rfl rfl (by decide +kernel)
set_option maxRecDepth 65536 in
theorem w_c66 : (Jvm.Cond.code ⟨"java/util/HashMap", "resize", "()[Ljava/util/HashMap$Node;"⟩ jdk_69_method_17_code (14 : Nat) (Option.some (Jvm.ClassFile.FieldType.array (Jvm.ClassFile.FieldType.object "java/util/HashMap$Node")))).before args0 about1 = true := code_word (m := ⟨17, 6⟩) (meth := k17m6) (c := k17c6) (by decide +kernel) rfl rfl rfl (by decide +kernel)
set_option maxRecDepth 65536 in
theorem w_c67 : (Jvm.Cond.code ⟨"java/util/HashMap", "newNode", "(ILjava/lang/Object;Ljava/lang/Object;Ljava/util/HashMap$Node;)Ljava/util/HashMap$Node;"⟩ jdk_69_method_46_code (5 : Nat) (Option.some (Jvm.ClassFile.FieldType.object "java/util/HashMap$Node"))).before args0 about1 = true := code_word (m := ⟨17, 7⟩) (meth := k17m7) (c := k17c7) (by decide +kernel) rfl rfl rfl (by decide +kernel)
set_option maxRecDepth 65536 in
theorem w_c68 : (Jvm.Cond.code ⟨"java/util/HashMap$Node", "<init>", "(ILjava/lang/Object;Ljava/lang/Object;Ljava/util/HashMap$Node;)V"⟩ jdk_70_method_1_code (5 : Nat) (Option.none : Option Jvm.ClassFile.FieldType)).before args0 about1 = true := code_word (m := ⟨43, 0⟩) (meth := k43m0) (c := k43c0) (by decide +kernel) rfl rfl rfl (by decide +kernel)
set_option maxRecDepth 65536 in
theorem w_c69 : (Jvm.Cond.code ⟨"java/util/HashMap", "afterNodeInsertion", "(Z)V"⟩ jdk_69_method_52_code (2 : Nat) (Option.none : Option Jvm.ClassFile.FieldType)).before args0 about1 = true := code_word (m := ⟨17, 8⟩) (meth := k17m8) (c := k17c8) (by decide +kernel) rfl rfl rfl (by decide +kernel)
set_option maxRecDepth 65536 in
theorem w_c70 : (Jvm.Cond.code ⟨"java/lang/Integer", "intValue", "()I"⟩ jdk_33_method_27_code (1 : Nat) (Option.some Jvm.ClassFile.FieldType.int)).before args0 about1 = true := code_word (m := ⟨40, 1⟩) (meth := k40m1) (c := k40c1) (by decide +kernel) rfl rfl rfl (by decide +kernel)
set_option maxRecDepth 65536 in
theorem w_c71 : (Jvm.Cond.code ⟨"com/example/restate/restate/model/CensusColumns", "compensation", "()Lcom/example/restate/restate/model/AmountColumn;"⟩ prog_32_method_15_code (1 : Nat) (Option.some (Jvm.ClassFile.FieldType.object "com/example/restate/restate/model/AmountColumn"))).before args0 about1 = true := code_word (m := ⟨2, 4⟩) (meth := k2m4) (c := k2c4) (by decide +kernel) rfl rfl rfl (by decide +kernel)
set_option maxRecDepth 65536 in
theorem w_c72 : (Jvm.Cond.code ⟨"com/example/restate/restate/model/AmountColumn", "addCents", "(J)V"⟩ prog_28_method_4_code (3 : Nat) (Option.none : Option Jvm.ClassFile.FieldType)).before args0 about1 = true := code_word (m := ⟨18, 2⟩) (meth := k18m2) (c := k18c2) (by decide +kernel) rfl rfl rfl (by decide +kernel)
set_option maxRecDepth 65536 in
theorem w_c73 : (Jvm.Cond.code ⟨"com/example/restate/restate/model/AmountColumn", "checkOpen", "()V"⟩ prog_28_method_5_code (1 : Nat) (Option.none : Option Jvm.ClassFile.FieldType)).before args0 about1 = true := code_word (m := ⟨18, 3⟩) (meth := k18m3) (c := k18c3) (by decide +kernel) rfl rfl rfl (by decide +kernel)
set_option maxRecDepth 65536 in
theorem w_c74 : (Jvm.Cond.code ⟨"com/example/restate/restate/model/CensusColumns", "deferrals", "()Lcom/example/restate/restate/model/AmountColumn;"⟩ prog_32_method_16_code (1 : Nat) (Option.some (Jvm.ClassFile.FieldType.object "com/example/restate/restate/model/AmountColumn"))).before args0 about1 = true := code_word (m := ⟨2, 5⟩) (meth := k2m5) (c := k2c5) (by decide +kernel) rfl rfl rfl (by decide +kernel)
set_option maxRecDepth 65536 in
theorem w_c75 : (Jvm.Cond.code ⟨"com/example/restate/restate/model/CensusColumns", "catchUp", "()Lcom/example/restate/restate/model/AmountColumn;"⟩ prog_32_method_17_code (1 : Nat) (Option.some (Jvm.ClassFile.FieldType.object "com/example/restate/restate/model/AmountColumn"))).before args0 about1 = true := code_word (m := ⟨2, 6⟩) (meth := k2m6) (c := k2c6) (by decide +kernel) rfl rfl rfl (by decide +kernel)
set_option maxRecDepth 65536 in
theorem w_c76 : (Jvm.Cond.code ⟨"com/example/restate/restate/model/CensusColumns", "otherAnnualAdditions", "()Lcom/example/restate/restate/model/AmountColumn;"⟩ prog_32_method_18_code (1 : Nat) (Option.some (Jvm.ClassFile.FieldType.object "com/example/restate/restate/model/AmountColumn"))).before args0 about1 = true := code_word (m := ⟨2, 7⟩) (meth := k2m7) (c := k2c7) (by decide +kernel) rfl rfl rfl (by decide +kernel)
set_option maxRecDepth 65536 in
theorem w_c77 : (Jvm.Cond.code ⟨"com/example/restate/restate/model/LongColumn", "fitsInt", "(J)Z"⟩ prog_46_method_4_code (2 : Nat) (Option.some Jvm.ClassFile.FieldType.boolean)).before args0 about1 = true := code_word (m := ⟨13, 3⟩) (meth := k13m3) (c := k13c3) (by decide +kernel) rfl rfl rfl (by decide +kernel)
set_option maxRecDepth 65536 in
theorem w_c78 : (Jvm.Cond.code ⟨"com/example/restate/restate/model/LongColumn", "addInt", "(I)V"⟩ prog_46_method_5_code (2 : Nat) (Option.none : Option Jvm.ClassFile.FieldType)).before args0 about1 = true := code_word (m := ⟨13, 4⟩) (meth := k13m4) (c := k13c4) (by decide +kernel) rfl rfl rfl (by decide +kernel)
set_option maxRecDepth 65536 in
theorem w_c79 : (Jvm.Cond.code ⟨"com/example/restate/restate/model/LongColumn", "doubled", "(I)I"⟩ prog_46_method_9_code (1 : Nat) (Option.some Jvm.ClassFile.FieldType.int)).before args0 about1 = true := code_word (m := ⟨13, 7⟩) (meth := k13m7) (c := k13c7) (by decide +kernel) rfl rfl rfl (by decide +kernel)
set_option maxRecDepth 65536 in
theorem w_c80 : (Jvm.Cond.code ⟨"java/lang/Math", "min", "(JJ)J"⟩ jdk_29_method_70_code (4 : Nat) (Option.some Jvm.ClassFile.FieldType.long)).before args0 about1 = true := code_word (m := ⟨27, 4⟩) (meth := k27m4) (c := k27c4) (by decide +kernel) rfl rfl rfl (by decide +kernel)
set_option maxRecDepth 65536 in
theorem w_c81 : (Jvm.Cond.code ⟨"java/util/Arrays", "fill", "([IIII)V"⟩ jdk_65_method_104_code (5 : Nat) (Option.none : Option Jvm.ClassFile.FieldType)).before args0 about1 = true := code_word (m := ⟨26, 2⟩) (meth := k26m2) (c := k26c2) (by decide +kernel) rfl rfl rfl (by decide +kernel)
set_option maxRecDepth 65536 in
theorem w_c82 : (Jvm.Cond.code ⟨"java/util/Arrays", "rangeCheck", "(III)V"⟩ jdk_65_method_30_code (3 : Nat) (Option.none : Option Jvm.ClassFile.FieldType)).before args0 about1 = true := code_word (m := ⟨26, 1⟩) (meth := k26m1) (c := k26c1) (by decide +kernel) rfl rfl rfl (by decide +kernel)
set_option maxRecDepth 65536 in
theorem w_c83 : (Jvm.Cond.code ⟨"com/example/restate/restate/model/CensusColumns", "line", "(I)J"⟩ prog_32_method_7_code (2 : Nat) (Option.some Jvm.ClassFile.FieldType.long)).before args0 about1 = true := code_word (m := ⟨2, 3⟩) (meth := k2m3) (c := k2c3) (by decide +kernel) rfl rfl rfl (by decide +kernel)
set_option maxRecDepth 65536 in
theorem w_c84 : (Jvm.Cond.code ⟨"com/example/restate/restate/model/LongColumn", "get", "(I)J"⟩ prog_46_method_7_code (4 : Nat) (Option.some Jvm.ClassFile.FieldType.long)).before args0 about1 = true := code_word (m := ⟨13, 6⟩) (meth := k13m6) (c := k13c6) (by decide +kernel) rfl rfl rfl (by decide +kernel)
set_option maxRecDepth 65536 in
theorem w_c85 : (Jvm.Cond.code ⟨"com/example/restate/restate/model/LongColumn", "addLong", "(J)V"⟩ prog_46_method_6_code (5 : Nat) (Option.none : Option Jvm.ClassFile.FieldType)).before args0 about1 = true := code_word (m := ⟨13, 5⟩) (meth := k13m5) (c := k13c5) (by decide +kernel) rfl rfl rfl (by decide +kernel)
def codes1 : List Jvm.Cond := [Jvm.Cond.code x code maxLocals ret, Jvm.Cond.code ⟨"java/util/ArrayList", "<init>", "()V"⟩ jdk_38_method_2_code (1 : Nat) (Option.none : Option Jvm.ClassFile.FieldType), Jvm.Cond.code ⟨"java/util/AbstractList", "<init>", "()V"⟩ jdk_39_method_1_code (1 : Nat) (Option.none : Option Jvm.ClassFile.FieldType), Jvm.Cond.code ⟨"java/util/AbstractCollection", "<init>", "()V"⟩ jdk_22_method_1_code (1 : Nat) (Option.none : Option Jvm.ClassFile.FieldType), Jvm.Cond.code ⟨"java/lang/Object", "<init>", "()V"⟩ object_method_1_code (1 : Nat) (Option.none : Option Jvm.ClassFile.FieldType), Jvm.Cond.code ⟨"com/example/restate/restate/model/CensusColumns", "<init>", "(Ljava/util/Collection;)V"⟩ prog_32_method_1_code (4 : Nat) (Option.none : Option Jvm.ClassFile.FieldType), Jvm.Cond.code ⟨"com/example/restate/restate/model/LongColumn", "<init>", "()V"⟩ prog_46_method_1_code (1 : Nat) (Option.none : Option Jvm.ClassFile.FieldType), Jvm.Cond.code ⟨"com/example/restate/restate/model/CensusColumns$Codes", "<init>", "()V"⟩ prog_33_method_1_code (1 : Nat) (Option.none : Option Jvm.ClassFile.FieldType), Jvm.Cond.code ⟨"java/util/HashMap", "<init>", "()V"⟩ jdk_69_method_7_code (1 : Nat) (Option.none : Option Jvm.ClassFile.FieldType), Jvm.Cond.code ⟨"java/util/AbstractMap", "<init>", "()V"⟩ jdk_71_method_1_code (1 : Nat) (Option.none : Option Jvm.ClassFile.FieldType), Jvm.Cond.code ⟨"com/example/restate/restate/model/AmountColumn", "<init>", "()V"⟩ prog_28_method_1_code (1 : Nat) (Option.none : Option Jvm.ClassFile.FieldType), Jvm.Cond.code ⟨"java/util/LinkedHashMap", "<init>", "()V"⟩ jdk_94_method_16_code (1 : Nat) (Option.none : Option Jvm.ClassFile.FieldType), Jvm.Cond.code ⟨"java/util/List", "of", "(Ljava/lang/Object;Ljava/lang/Object;Ljava/lang/Object;Ljava/lang/Object;)Ljava/util/List;"⟩ jdk_40_method_40_code (4 : Nat) (Option.some (Jvm.ClassFile.FieldType.object "java/util/List")), Jvm.Cond.code ⟨"java/util/ImmutableCollections", "listFromTrustedArray", "([Ljava/lang/Object;)Ljava/util/List;"⟩ jdk_56_method_5_code (5 : Nat) (Option.some (Jvm.ClassFile.FieldType.object "java/util/List")), Jvm.Cond.code ⟨"java/util/Objects", "requireNonNull", "(Ljava/lang/Object;)Ljava/lang/Object;"⟩ jdk_31_method_10_code (1 : Nat) (Option.some (Jvm.ClassFile.FieldType.object "java/lang/Object")), Jvm.Cond.code ⟨"java/util/ImmutableCollections$ListN", "<init>", "([Ljava/lang/Object;Z)V"⟩ jdk_45_method_1_code (3 : Nat) (Option.none : Option Jvm.ClassFile.FieldType), Jvm.Cond.code ⟨"java/util/ImmutableCollections$AbstractImmutableList", "<init>", "()V"⟩ jdk_46_method_1_code (1 : Nat) (Option.none : Option Jvm.ClassFile.FieldType), Jvm.Cond.code ⟨"java/util/ImmutableCollections$AbstractImmutableCollection", "<init>", "()V"⟩ jdk_47_method_1_code (1 : Nat) (Option.none : Option Jvm.ClassFile.FieldType), Jvm.Cond.code ⟨"java/util/ArrayList", "<init>", "(Ljava/util/Collection;)V"⟩ jdk_38_method_3_code (3 : Nat) (Option.none : Option Jvm.ClassFile.FieldType), Jvm.Cond.code ⟨"java/util/ImmutableCollections$ListN", "toArray", "()[Ljava/lang/Object;"⟩ jdk_45_method_7_code (1 : Nat) (Option.some (Jvm.ClassFile.FieldType.array (Jvm.ClassFile.FieldType.object "java/lang/Object"))), Jvm.Cond.code ⟨"java/util/Arrays", "copyOf", "([Ljava/lang/Object;I)[Ljava/lang/Object;"⟩ jdk_65_method_119_code (2 : Nat) (Option.some (Jvm.ClassFile.FieldType.array (Jvm.ClassFile.FieldType.object "java/lang/Object"))), Jvm.Cond.code ⟨"java/util/Arrays", "copyOf", "([Ljava/lang/Object;ILjava/lang/Class;)[Ljava/lang/Object;"⟩ jdk_65_method_120_code (4 : Nat) (Option.some (Jvm.ClassFile.FieldType.array (Jvm.ClassFile.FieldType.object "java/lang/Object"))), Jvm.Cond.code ⟨"java/lang/Math", "min", "(II)I"⟩ jdk_29_method_69_code (2 : Nat) (Option.some Jvm.ClassFile.FieldType.int), Jvm.Cond.code ⟨"java/util/ArrayList", "iterator", "()Ljava/util/Iterator;"⟩ jdk_38_method_55_code (1 : Nat) (Option.some (Jvm.ClassFile.FieldType.object "java/util/Iterator")), Jvm.Cond.code ⟨"java/util/ArrayList$Itr", "<init>", "(Ljava/util/ArrayList;)V"⟩ jdk_49_method_1_code (2 : Nat) (Option.none : Option Jvm.ClassFile.FieldType), Jvm.Cond.code ⟨"java/util/ArrayList$Itr", "hasNext", "()Z"⟩ jdk_49_method_2_code (1 : Nat) (Option.some Jvm.ClassFile.FieldType.boolean), Jvm.Cond.code ⟨"java/util/LinkedHashMap", "values", "()Ljava/util/Collection;"⟩ jdk_94_method_30_code (1 : Nat) (Option.some (Jvm.ClassFile.FieldType.object "java/util/Collection")), Jvm.Cond.code ⟨"java/util/LinkedHashMap", "sequencedValues", "()Ljava/util/SequencedCollection;"⟩ jdk_94_method_31_code (3 : Nat) (Option.some (Jvm.ClassFile.FieldType.object "java/util/SequencedCollection")), Jvm.Cond.code ⟨"java/util/LinkedHashMap$LinkedValues", "<init>", "(Ljava/util/LinkedHashMap;Z)V"⟩ jdk_114_method_1_code (3 : Nat) (Option.none : Option Jvm.ClassFile.FieldType), Jvm.Cond.code ⟨"java/util/ArrayList", "addAll", "(Ljava/util/Collection;)Z"⟩ jdk_38_method_41_code (6 : Nat) (Option.some Jvm.ClassFile.FieldType.boolean), Jvm.Cond.code ⟨"java/util/LinkedHashMap$LinkedValues", "toArray", "()[Ljava/lang/Object;"⟩ jdk_114_method_7_code (1 : Nat) (Option.some (Jvm.ClassFile.FieldType.array (Jvm.ClassFile.FieldType.object "java/lang/Object"))), Jvm.Cond.code ⟨"java/util/LinkedHashMap", "valuesToArray", "([Ljava/lang/Object;Z)[Ljava/lang/Object;"⟩ jdk_94_method_29_code (6 : Nat) (Option.some (Jvm.ClassFile.FieldType.array (Jvm.ClassFile.FieldType.object "java/lang/Object"))), Jvm.Cond.code ⟨"com/example/restate/restate/model/CensusColumns", "add", "(JLjava/lang/String;Ljava/lang/String;Lcom/example/restate/restate/model/PensionEligibility;Lcom/example/restate/restate/model/YearEndStatus;Ljava/time/LocalDate;Ljava/time/LocalDate;Ljava/time/LocalDate;)V"⟩ prog_32_method_3_code (13 : Nat) (Option.none : Option Jvm.ClassFile.FieldType), Jvm.Cond.code ⟨"com/example/restate/restate/model/CensusColumns", "checkAmounts", "(I)V"⟩ prog_32_method_4_code (4 : Nat) (Option.none : Option Jvm.ClassFile.FieldType), Jvm.Cond.code ⟨"java/util/ArrayList", "size", "()I"⟩ jdk_38_method_8_code (1 : Nat) (Option.some Jvm.ClassFile.FieldType.int), Jvm.Cond.code ⟨"java/util/ArrayList", "get", "(I)Ljava/lang/Object;"⟩ jdk_38_method_20_code (2 : Nat) (Option.some (Jvm.ClassFile.FieldType.object "java/lang/Object")), Jvm.Cond.code ⟨"java/util/Objects", "checkIndex", "(II)I"⟩ jdk_31_method_17_code (2 : Nat) (Option.some Jvm.ClassFile.FieldType.int), Jvm.Cond.code ⟨"jdk/internal/util/Preconditions", "checkIndex", "(IILjava/util/function/BiFunction;)I"⟩ jdk_41_method_11_code (3 : Nat) (Option.some Jvm.ClassFile.FieldType.int), Jvm.Cond.code ⟨"java/util/ArrayList", "elementData", "(I)Ljava/lang/Object;"⟩ jdk_38_method_18_code (2 : Nat) (Option.some (Jvm.ClassFile.FieldType.object "java/lang/Object")), Jvm.Cond.code ⟨"com/example/restate/restate/model/AmountColumn", "size", "()I"⟩ prog_28_method_2_code (1 : Nat) (Option.some Jvm.ClassFile.FieldType.int), Jvm.Cond.code ⟨"com/example/restate/restate/model/LongColumn", "size", "()I"⟩ prog_46_method_2_code (1 : Nat) (Option.some Jvm.ClassFile.FieldType.int), Jvm.Cond.code ⟨"com/example/restate/restate/model/LongColumn", "add", "(J)V"⟩ prog_46_method_3_code (4 : Nat) (Option.none : Option Jvm.ClassFile.FieldType), Jvm.Cond.code ⟨"com/example/restate/restate/model/CensusColumns", "idStart", "(I)I"⟩ prog_32_method_23_code (2 : Nat) (Option.some Jvm.ClassFile.FieldType.int), Jvm.Cond.code ⟨"java/lang/String", "length", "()I"⟩ jdk_42_method_54_code (1 : Nat) (Option.some Jvm.ClassFile.FieldType.int), Jvm.Cond.code ⟨"java/lang/String", "coder", "()B"⟩ jdk_42_method_152_code (1 : Nat) (Option.some Jvm.ClassFile.FieldType.byte), Jvm.Cond.code ⟨"java/lang/Math", "addExact", "(II)I"⟩ jdk_29_method_24_code (3 : Nat) (Option.some Jvm.ClassFile.FieldType.int), Jvm.Cond.code ⟨"java/lang/String", "getChars", "(II[CI)V"⟩ jdk_42_method_61_code (5 : Nat) (Option.none : Option Jvm.ClassFile.FieldType), Jvm.Cond.code ⟨"java/lang/String", "checkBoundsBeginEnd", "(III)V"⟩ jdk_42_method_158_code (3 : Nat) (Option.none : Option Jvm.ClassFile.FieldType), Jvm.Cond.code ⟨"jdk/internal/util/Preconditions", "checkFromToIndex", "(IIILjava/util/function/BiFunction;)I"⟩ jdk_41_method_12_code (4 : Nat) (Option.some Jvm.ClassFile.FieldType.int), Jvm.Cond.code ⟨"java/lang/String", "checkBoundsOffCount", "(III)I"⟩ jdk_42_method_157_code (3 : Nat) (Option.some Jvm.ClassFile.FieldType.int), Jvm.Cond.code ⟨"jdk/internal/util/Preconditions", "checkFromIndexSize", "(IIILjava/util/function/BiFunction;)I"⟩ jdk_41_method_13_code (4 : Nat) (Option.some Jvm.ClassFile.FieldType.int), Jvm.Cond.code ⟨"java/lang/String", "isLatin1", "()Z"⟩ jdk_42_method_154_code (1 : Nat) (Option.some Jvm.ClassFile.FieldType.boolean), Jvm.Cond.code ⟨"java/lang/StringLatin1", "getChars", "([BII[CI)V"⟩ jdk_43_method_11_code (5 : Nat) (Option.none : Option Jvm.ClassFile.FieldType), Jvm.Cond.code ⟨"java/lang/StringLatin1", "inflate", "([BI[CII)V"⟩ jdk_43_method_49_code (6 : Nat) (Option.none : Option Jvm.ClassFile.FieldType), Jvm.Cond.code ⟨"com/example/restate/restate/model/CensusColumns$Codes", "add", "(Ljava/lang/Object;)V"⟩ prog_33_method_2_code (3 : Nat) (Option.none : Option Jvm.ClassFile.FieldType), Jvm.Cond.code ⟨"java/util/HashMap", "get", "(Ljava/lang/Object;)Ljava/lang/Object;"⟩ jdk_69_method_12_code (3 : Nat) (Option.some (Jvm.ClassFile.FieldType.object "java/lang/Object")), Jvm.Cond.code ⟨"java/util/HashMap", "getNode", "(Ljava/lang/Object;)Ljava/util/HashMap$Node;"⟩ jdk_69_method_13_code (8 : Nat) (Option.some (Jvm.ClassFile.FieldType.object "java/util/HashMap$Node")), Jvm.Cond.code ⟨"java/lang/Integer", "valueOf", "(I)Ljava/lang/Integer;"⟩ jdk_33_method_22_code (1 : Nat) (Option.some (Jvm.ClassFile.FieldType.object "java/lang/Integer")), Jvm.Cond.code ⟨"java/util/ArrayList", "add", "(Ljava/lang/Object;)Z"⟩ jdk_38_method_25_code (2 : Nat) (Option.some Jvm.ClassFile.FieldType.boolean), Jvm.Cond.code ⟨"java/util/ArrayList", "add", "(Ljava/lang/Object;[Ljava/lang/Object;I)V"⟩ jdk_38_method_24_code (4 : Nat) (Option.none : Option Jvm.ClassFile.FieldType), Jvm.Cond.code ⟨"java/util/ArrayList", "grow", "()[Ljava/lang/Object;"⟩ jdk_38_method_7_code (1 : Nat) (Option.some (Jvm.ClassFile.FieldType.array (Jvm.ClassFile.FieldType.object "java/lang/Object"))), Jvm.Cond.code ⟨"java/util/ArrayList", "grow", "(I)[Ljava/lang/Object;"⟩ jdk_38_method_6_code (4 : Nat) (Option.some (Jvm.ClassFile.FieldType.array (Jvm.ClassFile.FieldType.object "java/lang/Object"))), Jvm.Cond.code ⟨"java/lang/Math", "max", "(II)I"⟩ jdk_29_method_65_code (2 : Nat) (Option.some Jvm.ClassFile.FieldType.int), Jvm.Cond.code ⟨"java/util/HashMap", "put", "(Ljava/lang/Object;Ljava/lang/Object;)Ljava/lang/Object;"⟩ jdk_69_method_15_code (3 : Nat) (Option.some (Jvm.ClassFile.FieldType.object "java/lang/Object")), Jvm.Cond.code ⟨"java/util/HashMap", "hash", "(Ljava/lang/Object;)I"⟩ jdk_69_method_1_code (2 : Nat) (Option.some Jvm.ClassFile.FieldType.int), Jvm.Cond.code ⟨"java/util/HashMap", "putVal", "(ILjava/lang/Object;Ljava/lang/Object;ZZ)Ljava/lang/Object;"⟩ jdk_69_method_16_code (13 : Nat) (Option.some (Jvm.ClassFile.FieldType.object "java/lang/Object")), Jvm.Cond.code ⟨"java/util/HashMap", "resize", "()[Ljava/util/HashMap$Node;"⟩ jdk_69_method_17_code (14 : Nat) (Option.some (Jvm.ClassFile.FieldType.array (Jvm.ClassFile.FieldType.object "java/util/HashMap$Node"))), Jvm.Cond.code ⟨"java/util/HashMap", "newNode", "(ILjava/lang/Object;Ljava/lang/Object;Ljava/util/HashMap$Node;)Ljava/util/HashMap$Node;"⟩ jdk_69_method_46_code (5 : Nat) (Option.some (Jvm.ClassFile.FieldType.object "java/util/HashMap$Node")), Jvm.Cond.code ⟨"java/util/HashMap$Node", "<init>", "(ILjava/lang/Object;Ljava/lang/Object;Ljava/util/HashMap$Node;)V"⟩ jdk_70_method_1_code (5 : Nat) (Option.none : Option Jvm.ClassFile.FieldType), Jvm.Cond.code ⟨"java/util/HashMap", "afterNodeInsertion", "(Z)V"⟩ jdk_69_method_52_code (2 : Nat) (Option.none : Option Jvm.ClassFile.FieldType), Jvm.Cond.code ⟨"java/lang/Integer", "intValue", "()I"⟩ jdk_33_method_27_code (1 : Nat) (Option.some Jvm.ClassFile.FieldType.int), Jvm.Cond.code ⟨"com/example/restate/restate/model/CensusColumns", "compensation", "()Lcom/example/restate/restate/model/AmountColumn;"⟩ prog_32_method_15_code (1 : Nat) (Option.some (Jvm.ClassFile.FieldType.object "com/example/restate/restate/model/AmountColumn")), Jvm.Cond.code ⟨"com/example/restate/restate/model/AmountColumn", "addCents", "(J)V"⟩ prog_28_method_4_code (3 : Nat) (Option.none : Option Jvm.ClassFile.FieldType), Jvm.Cond.code ⟨"com/example/restate/restate/model/AmountColumn", "checkOpen", "()V"⟩ prog_28_method_5_code (1 : Nat) (Option.none : Option Jvm.ClassFile.FieldType), Jvm.Cond.code ⟨"com/example/restate/restate/model/CensusColumns", "deferrals", "()Lcom/example/restate/restate/model/AmountColumn;"⟩ prog_32_method_16_code (1 : Nat) (Option.some (Jvm.ClassFile.FieldType.object "com/example/restate/restate/model/AmountColumn")), Jvm.Cond.code ⟨"com/example/restate/restate/model/CensusColumns", "catchUp", "()Lcom/example/restate/restate/model/AmountColumn;"⟩ prog_32_method_17_code (1 : Nat) (Option.some (Jvm.ClassFile.FieldType.object "com/example/restate/restate/model/AmountColumn")), Jvm.Cond.code ⟨"com/example/restate/restate/model/CensusColumns", "otherAnnualAdditions", "()Lcom/example/restate/restate/model/AmountColumn;"⟩ prog_32_method_18_code (1 : Nat) (Option.some (Jvm.ClassFile.FieldType.object "com/example/restate/restate/model/AmountColumn")), Jvm.Cond.code ⟨"com/example/restate/restate/model/LongColumn", "fitsInt", "(J)Z"⟩ prog_46_method_4_code (2 : Nat) (Option.some Jvm.ClassFile.FieldType.boolean), Jvm.Cond.code ⟨"com/example/restate/restate/model/LongColumn", "addInt", "(I)V"⟩ prog_46_method_5_code (2 : Nat) (Option.none : Option Jvm.ClassFile.FieldType), Jvm.Cond.code ⟨"com/example/restate/restate/model/LongColumn", "doubled", "(I)I"⟩ prog_46_method_9_code (1 : Nat) (Option.some Jvm.ClassFile.FieldType.int), Jvm.Cond.code ⟨"java/lang/Math", "min", "(JJ)J"⟩ jdk_29_method_70_code (4 : Nat) (Option.some Jvm.ClassFile.FieldType.long), Jvm.Cond.code ⟨"java/util/Arrays", "fill", "([IIII)V"⟩ jdk_65_method_104_code (5 : Nat) (Option.none : Option Jvm.ClassFile.FieldType), Jvm.Cond.code ⟨"java/util/Arrays", "rangeCheck", "(III)V"⟩ jdk_65_method_30_code (3 : Nat) (Option.none : Option Jvm.ClassFile.FieldType), Jvm.Cond.code ⟨"com/example/restate/restate/model/CensusColumns", "line", "(I)J"⟩ prog_32_method_7_code (2 : Nat) (Option.some Jvm.ClassFile.FieldType.long), Jvm.Cond.code ⟨"com/example/restate/restate/model/LongColumn", "get", "(I)J"⟩ prog_46_method_7_code (4 : Nat) (Option.some Jvm.ClassFile.FieldType.long), Jvm.Cond.code ⟨"com/example/restate/restate/model/LongColumn", "addLong", "(J)V"⟩ prog_46_method_6_code (5 : Nat) (Option.none : Option Jvm.ClassFile.FieldType)]
set_option maxRecDepth 65536 in
theorem codes_eq : words1.filter isCode = codes1 := rfl
theorem w_codes : ∀ c ∈ words1.filter isCode, c.before args0 about1 = true := by
  rw [codes_eq]
  intro c hc
  simp only [codes1, List.mem_cons, List.not_mem_nil, or_false] at hc
  rcases hc with rfl | rfl | rfl | rfl | rfl | rfl | rfl | rfl | rfl | rfl | rfl | rfl | rfl | rfl | rfl | rfl | rfl | rfl | rfl | rfl | rfl | rfl | rfl | rfl | rfl | rfl | rfl | rfl | rfl | rfl | rfl | rfl | rfl | rfl | rfl | rfl | rfl | rfl | rfl | rfl | rfl | rfl | rfl | rfl | rfl | rfl | rfl | rfl | rfl | rfl | rfl | rfl | rfl | rfl | rfl | rfl | rfl | rfl | rfl | rfl | rfl | rfl | rfl | rfl | rfl | rfl | rfl | rfl | rfl | rfl | rfl | rfl | rfl | rfl | rfl | rfl | rfl | rfl | rfl | rfl | rfl | rfl | rfl | rfl | rfl | rfl
  · exact w_c0
  · exact w_c1
  · exact w_c2
  · exact w_c3
  · exact w_c4
  · exact w_c5
  · exact w_c6
  · exact w_c7
  · exact w_c8
  · exact w_c9
  · exact w_c10
  · exact w_c11
  · exact w_c12
  · exact w_c13
  · exact w_c14
  · exact w_c15
  · exact w_c16
  · exact w_c17
  · exact w_c18
  · exact w_c19
  · exact w_c20
  · exact w_c21
  · exact w_c22
  · exact w_c23
  · exact w_c24
  · exact w_c25
  · exact w_c26
  · exact w_c27
  · exact w_c28
  · exact w_c29
  · exact w_c30
  · exact w_c31
  · exact w_c32
  · exact w_c33
  · exact w_c34
  · exact w_c35
  · exact w_c36
  · exact w_c37
  · exact w_c38
  · exact w_c39
  · exact w_c40
  · exact w_c41
  · exact w_c42
  · exact w_c43
  · exact w_c44
  · exact w_c45
  · exact w_c46
  · exact w_c47
  · exact w_c48
  · exact w_c49
  · exact w_c50
  · exact w_c51
  · exact w_c52
  · exact w_c53
  · exact w_c54
  · exact w_c55
  · exact w_c56
  · exact w_c57
  · exact w_c58
  · exact w_c59
  · exact w_c60
  · exact w_c61
  · exact w_c62
  · exact w_c63
  · exact w_c64
  · exact w_c65
  · exact w_c66
  · exact w_c67
  · exact w_c68
  · exact w_c69
  · exact w_c70
  · exact w_c71
  · exact w_c72
  · exact w_c73
  · exact w_c74
  · exact w_c75
  · exact w_c76
  · exact w_c77
  · exact w_c78
  · exact w_c79
  · exact w_c80
  · exact w_c81
  · exact w_c82
  · exact w_c83
  · exact w_c84
  · exact w_c85
set_option maxRecDepth 65536 in
theorem w_t1 : (words1.take 24).all (fun c => isCode c || c.before args0 about1) = true := by decide +kernel
set_option maxRecDepth 65536 in
theorem w_t2 : ((words1.drop 24).take 24).all (fun c => isCode c || c.before args0 about1) = true := by decide +kernel
set_option maxRecDepth 65536 in
theorem w_t3 : (((words1.drop 24).drop 24).take 24).all (fun c => isCode c || c.before args0 about1) = true := by decide +kernel
set_option maxRecDepth 65536 in
theorem w_t4 : ((((words1.drop 24).drop 24).drop 24).take 24).all (fun c => isCode c || c.before args0 about1) = true := by decide +kernel
set_option maxRecDepth 65536 in
theorem w_t5 : (((((words1.drop 24).drop 24).drop 24).drop 24).take 24).all (fun c => isCode c || c.before args0 about1) = true := by decide +kernel
set_option maxRecDepth 65536 in
theorem w_t6 : ((((((words1.drop 24).drop 24).drop 24).drop 24).drop 24).take 24).all (fun c => isCode c || c.before args0 about1) = true := by decide +kernel
set_option maxRecDepth 65536 in
theorem w_t7 : (((((((words1.drop 24).drop 24).drop 24).drop 24).drop 24).drop 24).take 24).all (fun c => isCode c || c.before args0 about1) = true := by decide +kernel
set_option maxRecDepth 65536 in
theorem w_t8 : ((((((((words1.drop 24).drop 24).drop 24).drop 24).drop 24).drop 24).drop 24).take 24).all (fun c => isCode c || c.before args0 about1) = true := by decide +kernel
set_option maxRecDepth 65536 in
theorem w_t9 : (((((((((words1.drop 24).drop 24).drop 24).drop 24).drop 24).drop 24).drop 24).drop 24).take 24).all (fun c => isCode c || c.before args0 about1) = true := by decide +kernel
set_option maxRecDepth 65536 in
theorem w_t10 : ((((((((((words1.drop 24).drop 24).drop 24).drop 24).drop 24).drop 24).drop 24).drop 24).drop 24).take 24).all (fun c => isCode c || c.before args0 about1) = true := by decide +kernel
set_option maxRecDepth 65536 in
theorem w_t11 : (((((((((((words1.drop 24).drop 24).drop 24).drop 24).drop 24).drop 24).drop 24).drop 24).drop 24).drop 24).take 24).all (fun c => isCode c || c.before args0 about1) = true := by decide +kernel
set_option maxRecDepth 65536 in
theorem w_t12 : ((((((((((((words1.drop 24).drop 24).drop 24).drop 24).drop 24).drop 24).drop 24).drop 24).drop 24).drop 24).drop 24).take 24).all (fun c => isCode c || c.before args0 about1) = true := by decide +kernel
set_option maxRecDepth 65536 in
theorem w_t13 : (((((((((((((words1.drop 24).drop 24).drop 24).drop 24).drop 24).drop 24).drop 24).drop 24).drop 24).drop 24).drop 24).drop 24).take 24).all (fun c => isCode c || c.before args0 about1) = true := by decide +kernel
set_option maxRecDepth 65536 in
theorem w_t14 : ((((((((((((((words1.drop 24).drop 24).drop 24).drop 24).drop 24).drop 24).drop 24).drop 24).drop 24).drop 24).drop 24).drop 24).drop 24).take 24).all (fun c => isCode c || c.before args0 about1) = true := by decide +kernel
set_option maxRecDepth 65536 in
theorem w_t15 : (((((((((((((((words1.drop 24).drop 24).drop 24).drop 24).drop 24).drop 24).drop 24).drop 24).drop 24).drop 24).drop 24).drop 24).drop 24).drop 24).take 24).all (fun c => isCode c || c.before args0 about1) = true := by decide +kernel
set_option maxRecDepth 65536 in
theorem w_t16 : ((((((((((((((((words1.drop 24).drop 24).drop 24).drop 24).drop 24).drop 24).drop 24).drop 24).drop 24).drop 24).drop 24).drop 24).drop 24).drop 24).drop 24).take 24).all (fun c => isCode c || c.before args0 about1) = true := by decide +kernel
set_option maxRecDepth 65536 in
theorem w_t17 : (((((((((((((((((words1.drop 24).drop 24).drop 24).drop 24).drop 24).drop 24).drop 24).drop 24).drop 24).drop 24).drop 24).drop 24).drop 24).drop 24).drop 24).drop 24).take 24).all (fun c => isCode c || c.before args0 about1) = true := by decide +kernel
set_option maxRecDepth 65536 in
theorem w_t18 : ((((((((((((((((((words1.drop 24).drop 24).drop 24).drop 24).drop 24).drop 24).drop 24).drop 24).drop 24).drop 24).drop 24).drop 24).drop 24).drop 24).drop 24).drop 24).drop 24).take 24).all (fun c => isCode c || c.before args0 about1) = true := by decide +kernel
set_option maxRecDepth 65536 in
theorem w_t19 : (((((((((((((((((((words1.drop 24).drop 24).drop 24).drop 24).drop 24).drop 24).drop 24).drop 24).drop 24).drop 24).drop 24).drop 24).drop 24).drop 24).drop 24).drop 24).drop 24).drop 24).take 24).all (fun c => isCode c || c.before args0 about1) = true := by decide +kernel
set_option maxRecDepth 65536 in
theorem w_t20 : ((((((((((((((((((((words1.drop 24).drop 24).drop 24).drop 24).drop 24).drop 24).drop 24).drop 24).drop 24).drop 24).drop 24).drop 24).drop 24).drop 24).drop 24).drop 24).drop 24).drop 24).drop 24).take 24).all (fun c => isCode c || c.before args0 about1) = true := by decide +kernel
set_option maxRecDepth 65536 in
theorem w_t21 : (((((((((((((((((((((words1.drop 24).drop 24).drop 24).drop 24).drop 24).drop 24).drop 24).drop 24).drop 24).drop 24).drop 24).drop 24).drop 24).drop 24).drop 24).drop 24).drop 24).drop 24).drop 24).drop 24).take 24).all (fun c => isCode c || c.before args0 about1) = true := by decide +kernel
set_option maxRecDepth 65536 in
theorem w_t22 : ((((((((((((((((((((((words1.drop 24).drop 24).drop 24).drop 24).drop 24).drop 24).drop 24).drop 24).drop 24).drop 24).drop 24).drop 24).drop 24).drop 24).drop 24).drop 24).drop 24).drop 24).drop 24).drop 24).drop 24).take 24).all (fun c => isCode c || c.before args0 about1) = true := by decide +kernel
set_option maxRecDepth 65536 in
theorem w_t23 : (((((((((((((((((((((((words1.drop 24).drop 24).drop 24).drop 24).drop 24).drop 24).drop 24).drop 24).drop 24).drop 24).drop 24).drop 24).drop 24).drop 24).drop 24).drop 24).drop 24).drop 24).drop 24).drop 24).drop 24).drop 24).take 24).all (fun c => isCode c || c.before args0 about1) = true := by decide +kernel
set_option maxRecDepth 65536 in
theorem w_t24 : ((((((((((((((((((((((((words1.drop 24).drop 24).drop 24).drop 24).drop 24).drop 24).drop 24).drop 24).drop 24).drop 24).drop 24).drop 24).drop 24).drop 24).drop 24).drop 24).drop 24).drop 24).drop 24).drop 24).drop 24).drop 24).drop 24).take 24).all (fun c => isCode c || c.before args0 about1) = true := by decide +kernel
set_option maxRecDepth 65536 in
theorem w_t25 : (((((((((((((((((((((((((words1.drop 24).drop 24).drop 24).drop 24).drop 24).drop 24).drop 24).drop 24).drop 24).drop 24).drop 24).drop 24).drop 24).drop 24).drop 24).drop 24).drop 24).drop 24).drop 24).drop 24).drop 24).drop 24).drop 24).drop 24).take 24).all (fun c => isCode c || c.before args0 about1) = true := by decide +kernel
set_option maxRecDepth 65536 in
theorem w_t26 : ((((((((((((((((((((((((((words1.drop 24).drop 24).drop 24).drop 24).drop 24).drop 24).drop 24).drop 24).drop 24).drop 24).drop 24).drop 24).drop 24).drop 24).drop 24).drop 24).drop 24).drop 24).drop 24).drop 24).drop 24).drop 24).drop 24).drop 24).drop 24).take 24).all (fun c => isCode c || c.before args0 about1) = true := by decide +kernel
set_option maxRecDepth 65536 in
theorem w_t27 : ((((((((((((((((((((((((((words1.drop 24).drop 24).drop 24).drop 24).drop 24).drop 24).drop 24).drop 24).drop 24).drop 24).drop 24).drop 24).drop 24).drop 24).drop 24).drop 24).drop 24).drop 24).drop 24).drop 24).drop 24).drop 24).drop 24).drop 24).drop 24).drop 24).all (fun c => isCode c || c.before args0 about1) = true := by decide +kernel
theorem w_tables : (allAtoms (Jvm.Cond.code x code maxLocals ret :: tables_1)).before args0 about1 = true := by
  rw [allAtoms_all]
  show words1.all (fun c => c.before args0 about1) = true
  refine all_split ?_ w_codes
  rw [← List.take_append_drop 24 words1, List.all_append, w_t1, ← List.take_append_drop 24 (words1.drop 24), List.all_append, w_t2, ← List.take_append_drop 24 ((words1.drop 24).drop 24), List.all_append, w_t3, ← List.take_append_drop 24 (((words1.drop 24).drop 24).drop 24), List.all_append, w_t4, ← List.take_append_drop 24 ((((words1.drop 24).drop 24).drop 24).drop 24), List.all_append, w_t5, ← List.take_append_drop 24 (((((words1.drop 24).drop 24).drop 24).drop 24).drop 24), List.all_append, w_t6, ← List.take_append_drop 24 ((((((words1.drop 24).drop 24).drop 24).drop 24).drop 24).drop 24), List.all_append, w_t7, ← List.take_append_drop 24 (((((((words1.drop 24).drop 24).drop 24).drop 24).drop 24).drop 24).drop 24), List.all_append, w_t8, ← List.take_append_drop 24 ((((((((words1.drop 24).drop 24).drop 24).drop 24).drop 24).drop 24).drop 24).drop 24), List.all_append, w_t9, ← List.take_append_drop 24 (((((((((words1.drop 24).drop 24).drop 24).drop 24).drop 24).drop 24).drop 24).drop 24).drop 24), List.all_append, w_t10, ← List.take_append_drop 24 ((((((((((words1.drop 24).drop 24).drop 24).drop 24).drop 24).drop 24).drop 24).drop 24).drop 24).drop 24), List.all_append, w_t11, ← List.take_append_drop 24 (((((((((((words1.drop 24).drop 24).drop 24).drop 24).drop 24).drop 24).drop 24).drop 24).drop 24).drop 24).drop 24), List.all_append, w_t12, ← List.take_append_drop 24 ((((((((((((words1.drop 24).drop 24).drop 24).drop 24).drop 24).drop 24).drop 24).drop 24).drop 24).drop 24).drop 24).drop 24), List.all_append, w_t13, ← List.take_append_drop 24 (((((((((((((words1.drop 24).drop 24).drop 24).drop 24).drop 24).drop 24).drop 24).drop 24).drop 24).drop 24).drop 24).drop 24).drop 24), List.all_append, w_t14, ← List.take_append_drop 24 ((((((((((((((words1.drop 24).drop 24).drop 24).drop 24).drop 24).drop 24).drop 24).drop 24).drop 24).drop 24).drop 24).drop 24).drop 24).drop 24), List.all_append, w_t15, ← List.take_append_drop 24 (((((((((((((((words1.drop 24).drop 24).drop 24).drop 24).drop 24).drop 24).drop 24).drop 24).drop 24).drop 24).drop 24).drop 24).drop 24).drop 24).drop 24), List.all_append, w_t16, ← List.take_append_drop 24 ((((((((((((((((words1.drop 24).drop 24).drop 24).drop 24).drop 24).drop 24).drop 24).drop 24).drop 24).drop 24).drop 24).drop 24).drop 24).drop 24).drop 24).drop 24), List.all_append, w_t17, ← List.take_append_drop 24 (((((((((((((((((words1.drop 24).drop 24).drop 24).drop 24).drop 24).drop 24).drop 24).drop 24).drop 24).drop 24).drop 24).drop 24).drop 24).drop 24).drop 24).drop 24).drop 24), List.all_append, w_t18, ← List.take_append_drop 24 ((((((((((((((((((words1.drop 24).drop 24).drop 24).drop 24).drop 24).drop 24).drop 24).drop 24).drop 24).drop 24).drop 24).drop 24).drop 24).drop 24).drop 24).drop 24).drop 24).drop 24), List.all_append, w_t19, ← List.take_append_drop 24 (((((((((((((((((((words1.drop 24).drop 24).drop 24).drop 24).drop 24).drop 24).drop 24).drop 24).drop 24).drop 24).drop 24).drop 24).drop 24).drop 24).drop 24).drop 24).drop 24).drop 24).drop 24), List.all_append, w_t20, ← List.take_append_drop 24 ((((((((((((((((((((words1.drop 24).drop 24).drop 24).drop 24).drop 24).drop 24).drop 24).drop 24).drop 24).drop 24).drop 24).drop 24).drop 24).drop 24).drop 24).drop 24).drop 24).drop 24).drop 24).drop 24), List.all_append, w_t21, ← List.take_append_drop 24 (((((((((((((((((((((words1.drop 24).drop 24).drop 24).drop 24).drop 24).drop 24).drop 24).drop 24).drop 24).drop 24).drop 24).drop 24).drop 24).drop 24).drop 24).drop 24).drop 24).drop 24).drop 24).drop 24).drop 24), List.all_append, w_t22, ← List.take_append_drop 24 ((((((((((((((((((((((words1.drop 24).drop 24).drop 24).drop 24).drop 24).drop 24).drop 24).drop 24).drop 24).drop 24).drop 24).drop 24).drop 24).drop 24).drop 24).drop 24).drop 24).drop 24).drop 24).drop 24).drop 24).drop 24), List.all_append, w_t23, ← List.take_append_drop 24 (((((((((((((((((((((((words1.drop 24).drop 24).drop 24).drop 24).drop 24).drop 24).drop 24).drop 24).drop 24).drop 24).drop 24).drop 24).drop 24).drop 24).drop 24).drop 24).drop 24).drop 24).drop 24).drop 24).drop 24).drop 24).drop 24), List.all_append, w_t24, ← List.take_append_drop 24 ((((((((((((((((((((((((words1.drop 24).drop 24).drop 24).drop 24).drop 24).drop 24).drop 24).drop 24).drop 24).drop 24).drop 24).drop 24).drop 24).drop 24).drop 24).drop 24).drop 24).drop 24).drop 24).drop 24).drop 24).drop 24).drop 24).drop 24), List.all_append, w_t25, ← List.take_append_drop 24 (((((((((((((((((((((((((words1.drop 24).drop 24).drop 24).drop 24).drop 24).drop 24).drop 24).drop 24).drop 24).drop 24).drop 24).drop 24).drop 24).drop 24).drop 24).drop 24).drop 24).drop 24).drop 24).drop 24).drop 24).drop 24).drop 24).drop 24).drop 24), List.all_append, w_t26, w_t27]
  rfl
set_option maxRecDepth 65536 in
theorem w_rest : rest_1_c.before args0 about1 = true := by decide +kernel
set_option maxRecDepth 65536 in
theorem w_case : (Jvm.Cond.and given_1 narrow_1).before args0 about1 = true := by decide +kernel
set_option maxRecDepth 65536 in
theorem w_consts : constsHeld consts_1 about1 := Jvm.Lit.constsHeldB_iff.mp (by decide +kernel)
theorem w_applies : (headSpec (Jvm.Cond.code x code maxLocals ret :: tables_1) room_1).applies x e0.platform about1 = true :=
  (Spec.applies_iff w_frames).mpr ⟨w_running, w_runnable, w_alone, w_named, w_hears, w_ripe, w_room, w_tables⟩
set_option maxRecDepth 65536 in
theorem atStart : AtStart classFile x code maxLocals ret World_1 tables_1 room_1 Calls_1 rest_1 Pre_1 launch0 p0 e0 about1 theMethod args0 below0 :=
  ⟨lists_1, trivial, launch0.admits_env _ _ _, launch0.least_env, fairChoices_fair.cas, fairChoices_fair.clock, w_frames, w_args, w_heap, w_applies, ⟨⟨55, k55, 5, by decide +kernel, rfl, rfl, _, rfl, rfl⟩, ⟨⟨25, k25, 6, by decide +kernel, rfl, rfl, _, rfl, rfl⟩, ⟨⟨12, k12, 7, by decide +kernel, rfl, rfl, _, rfl, rfl⟩, ⟨w_consts, trivial⟩⟩⟩⟩, w_rest, w_case⟩
end start1
theorem witness_1 : WitnessClaimed_1 := ⟨start1.p0, start1.e0, start1.about1, start1.theMethod, start1.args0, start1.below0, start1.atStart⟩
end Jvm.Pilot.@@N@@
