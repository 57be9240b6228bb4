import JvmDerived
import JvmDerived.Pilot.@@N@@Statement
import JvmDerived.Pilot.@@N@@Code
set_option linter.unusedVariables false
set_option linter.unusedSimpArgs false
namespace Jvm.RoadKit
open Sem ClassFile Op Lib Jvm.Stand Jvm.Free Jvm.LawKit
section Own
variable {p : Program} {l : Launch} {e : Env} {R : Room} {s : State} {m : MethodId} {args : Array Value} {below : List Frame} {meth : Method} {c : Code} {T : State} {locs : List Loc} {cells slots : Nat}
theorem retI (X : Stand p l e R s m args below meth c T locs cells slots) (hx : p.tables.exec = Jvm.exec) {pc : Nat} {Ls : Array Slot} {z : Int32} {rest : List Value} (hret : meth.sig.returnType = some .int) (hd : decode c.code pc = .ok (.ireturn, 1)) {fs : List Frame}
    (hl : ∀ (f : JFrame) (acts : List Action), f.method = m → f.locked = none → f.entered = [] → (doReturn e (T.setTop f) acts (some (.int z))).1 = T.setFrames fs) : Steps p.tables e below (T.setTop (mkF m pc Ls (.int z :: rest))) (T.setFrames fs) := by
  have hm' : T.vm.method? m = some meth := X.method'
  have hn : narrow .int (.int z) = .int z := rfl
  show Steps p.tables e below (T.setTop { method := m, pc := pc, locals := Ls, stack := _ :: rest, locked := none }) _
  jvm_step X.here [X.here.top, hx, hd, hm', hret, hn]
  first | (intro acts; rw [hl _ acts rfl rfl rfl]) | rw [hl _ _ rfl rfl rfl]
  exact Steps.refl _
/-- from U the run comes to an end of which Qo holds -/
def own_Ends (tb : Tables) (e : Env) (below : List Frame) (Qo : Outcome → State → Prop) (U : State) : Prop := ∃ s₂ o, Steps tb e below U s₂ ∧ s₂.status = .running ∧ Ended s₂ below o ∧ Qo o s₂
def own_Q (s : State) (Q : Option Value → Heap → List Loc → Prop) (A B : Nat) : Outcome → State → Prop := fun o U' => ∃ v L, o = .returned v ∧ Q v U'.heap L ∧ FrameEnd s o U' L A B
theorem own_step {tb : Tables} {e : Env} {below : List Frame} {Qo : Outcome → State → Prop} {U V : State} (k : ∀ t, Steps tb e below V t → Steps tb e below U t) (h : own_Ends tb e below Qo V) : own_Ends tb e below Qo U := by
  obtain ⟨s₂, o, h1, h2⟩ := h; exact ⟨s₂, o, k _ h1, h2⟩
variable {Q : Option Value → Heap → List Loc → Prop} {A B : Nat}
theorem own_leave (X : Stand p l e R s m args below meth c T locs cells slots) (hlk : meth.locks = false) {v : Option Value} (hv : meth.sig.returnType = none → v = none) (ha : cells ≤ A) (hb : slots ≤ B) (hQ : Q v T.heap locs) {g : JFrame}
    (k : ∀ fs, (∀ (f : JFrame) (acts : List Action), f.method = m → f.locked = none → f.entered = [] → (doReturn e (T.setTop f) acts v).1 = T.setFrames fs) → Steps p.tables e below (T.setTop g) (T.setFrames fs)) : own_Ends p.tables e below (own_Q s Q A B) (T.setTop g) := by
  obtain ⟨fs, hr, hrun, hended, hW, hsame⟩ := X.leave (v := v) hv hlk
  exact ⟨_, _, k fs hr, hrun, hended, _, _, rfl, (show Q v T.heap locs from hQ), ⟨_, rfl⟩, hW, hsame.mono ha hb⟩
theorem own_retN (X : Stand p l e R s m args below meth c T locs cells slots) (hx : p.tables.exec = Jvm.exec) (hlk : meth.locks = false) (ha : cells ≤ A) (hb : slots ≤ B) {pc : Nat} {Ls : Array Slot} {z : Int32} {t : FieldType} {rest : List Value} (hret : meth.sig.returnType = some t) (ht : t = .boolean ∨ t = .byte ∨ t = .char ∨ t = .short)
    (hd : decode c.code pc = .ok (.ireturn, 1)) (hQ : Q (some (.int (nar t z))) T.heap locs) : own_Ends p.tables e below (own_Q s Q A B) (T.setTop (mkF m pc Ls (.int z :: rest))) :=
  own_leave X hlk (fun h => by rw [hret] at h; cases h) ha hb hQ fun fs hr => retN X hx hret ht hd hr
theorem own_retI (X : Stand p l e R s m args below meth c T locs cells slots) (hx : p.tables.exec = Jvm.exec) (hlk : meth.locks = false) (ha : cells ≤ A) (hb : slots ≤ B) {pc : Nat} {Ls : Array Slot} {z : Int32} {rest : List Value} (hret : meth.sig.returnType = some .int)
    (hd : decode c.code pc = .ok (.ireturn, 1)) (hQ : Q (some (.int z)) T.heap locs) : own_Ends p.tables e below (own_Q s Q A B) (T.setTop (mkF m pc Ls (.int z :: rest))) :=
  own_leave X hlk (fun h => by rw [hret] at h; cases h) ha hb hQ fun fs hr => retI X hx hret hd hr
theorem own_retJ (X : Stand p l e R s m args below meth c T locs cells slots) (hx : p.tables.exec = Jvm.exec) (hlk : meth.locks = false) (ha : cells ≤ A) (hb : slots ≤ B) {pc : Nat} {Ls : Array Slot} {z : Int64} {rest : List Value} (hret : meth.sig.returnType = some .long)
    (hd : decode c.code pc = .ok (.lreturn, 1)) (hQ : Q (some (.long z)) T.heap locs) : own_Ends p.tables e below (own_Q s Q A B) (T.setTop (mkF m pc Ls (.long z :: rest))) :=
  own_leave X hlk (fun h => by rw [hret] at h; cases h) ha hb hQ fun fs hr => by
    have hm' : T.vm.method? m = some meth := X.method'
    show Steps p.tables e below (T.setTop { method := m, pc := pc, locals := Ls, stack := _ :: rest, locked := none }) _
    jvm_step X.here [X.here.top, hx, hd, hm', hret, narrow]
    first | (intro acts; rw [hr _ acts rfl rfl rfl]) | rw [hr _ _ rfl rfl rfl]
    exact Steps.refl _
theorem own_retA (X : Stand p l e R s m args below meth c T locs cells slots) (hx : p.tables.exec = Jvm.exec) (hlk : meth.locks = false) (ha : cells ≤ A) (hb : slots ≤ B) {pc : Nat} {Ls : Array Slot} {z : Value} {t : FieldType} {rest : List Value} (hret : meth.sig.returnType = some t) (ht : t.isReference = true) (hz : z.isRef = true)
    (hd : decode c.code pc = .ok (.areturn, 1)) (hQ : Q (some z) T.heap locs) : own_Ends p.tables e below (own_Q s Q A B) (T.setTop (mkF m pc Ls (z :: rest))) :=
  own_leave X hlk (fun h => by rw [hret] at h; cases h) ha hb hQ fun fs hr => by
    have hm' : T.vm.method? m = some meth := X.method'
    show Steps p.tables e below (T.setTop { method := m, pc := pc, locals := Ls, stack := _ :: rest, locked := none }) _
    jvm_step X.here [X.here.top, hx, hd, hm', hret, ht, hz]
    first | (intro acts; rw [hr _ acts rfl rfl rfl]) | rw [hr _ _ rfl rfl rfl]
    exact Steps.refl _
theorem own_ret0 (X : Stand p l e R s m args below meth c T locs cells slots) (hx : p.tables.exec = Jvm.exec) (hlk : meth.locks = false) (ha : cells ≤ A) (hb : slots ≤ B) {pc : Nat} {Ls : Array Slot} (hret : meth.sig.returnType = none)
    (hd : decode c.code pc = .ok (.return_, 1)) (hQ : Q none T.heap locs) : own_Ends p.tables e below (own_Q s Q A B) (T.setTop (mkF m pc Ls [])) :=
  own_leave X hlk (fun _ => rfl) ha hb hQ fun fs hr => X.returnOut hx hret hd hr
theorem own_sel_priv {s : State} {args : Array Value} {n : Nat} {y : MethodName} (hy : y.cls ≠ "java/lang/invoke/MethodHandle" ∧ y.cls ≠ "java/lang/invoke/VarHandle") (hins : (Cond.instantiable y.cls n).before args s = true) (hpriv : (Cond.privateMethod y).before args s = true) (hinst : (Cond.instanceMethod y).before args s = true) :
    (Cond.selects y.cls y y).before args s = true := by
  obtain ⟨c, k, hc, hk, -, hniab, -, -⟩ := Cond.instantiable_spec hins
  have hni : k.isInterface = false := (Bool.or_eq_false_iff.mp hniab).1
  obtain ⟨mk, methM, hnamed, hmethM, -, -⟩ := Cond.instanceMethod_spec hinst
  have hfound : s.methodFound? y.cls y.name y.desc = some mk := State.methodFound?_of_named hnamed hy
  have hcls : mk.cls = c := Option.some.inj ((findClass_of_methodNamed hnamed).symm.trans hc)
  have hsel : selectMethod {} s.vm c mk = .method mk := selectMethod_private hmethM (Cond.privateMethod_at hpriv mk methM hnamed hmethM)
  simp only [Cond.before, Cond.holds, Cond.value, hc, hfound, hnamed, hsel, hcls, hk]
  simp; exact hni
theorem own_pop2J (X : Stand p l e R s m args below meth c T locs cells slots) (hx : p.tables.exec = Jvm.exec) {pc : Nat} {Ls : Array Slot} {z : Int64} {rest : List Value} (hd : decode c.code pc = .ok (.pop2, 1)) {target : State}
    (hr : Steps p.tables e below (T.setTop (mkF m (pc + 1) Ls rest)) target) : Steps p.tables e below (T.setTop (mkF m pc Ls (.long z :: rest))) target := by
  show Steps p.tables e below (T.setTop { method := m, pc := pc, locals := Ls, stack := _ :: rest, locked := none }) _
  jvm_step X.here [X.here.top, hx, hd, Value.category]
  exact hr
def own_NS (h : Heap) (x : Addr) : Prop := ∃ c : Cell, h[x]? = some c ∧ c.vm.isStatics = false
theorem own_ns_exa {Z : State} {h : Heap} {a : Addr} {C : String} (F : Exa Z h a C) : own_NS h a := by obtain ⟨c, k, h1, h2, h3, h4, h5⟩ := F; exact ⟨c, h1, h4⟩
theorem own_ns_arv {Z : State} {h : Heap} {a : Addr} {k : ClassId} {ty : FieldType} {z : Int32} {vs : List Value} {d : Value} (F : Arv Z h a k ty z vs d) : own_NS h a := by obtain ⟨c, A, -⟩ := F; exact ⟨c, A.1, A.plain⟩
theorem own_Sta_keep {Z : State} {h h' : Heap} {ws : List Addr} {C n d : String} {v : Value} (F : Sta Z h C n d v) (K : Keep h h' ws) (q : ∀ x ∈ ws, own_NS h x) : Sta Z h' C n d v := by
  obtain ⟨cf, i, k, f, st, cell, h1, h2, h3, h4, h5, h6, h7⟩ := F
  refine ⟨cf, i, k, f, st, cell, h1, h2, h3, h4, K.2.1 st cell h5 fun m => ?_, h6, h7⟩
  obtain ⟨c, e1, e2⟩ := q st m
  rw [h5] at e1; cases e1; rw [h6] at e2; cases e2
theorem own_lc_lt (x y : Int64) : lcmpW x y < 0 ↔ x < y := by rw [lcW]; exact lc_lt x y
theorem own_lc_gt (x y : Int64) : 0 < lcmpW x y ↔ y < x := by rw [lcW]; exact lc_gt x y
theorem own_lc_eq (x y : Int64) : lcmpW x y = 0 ↔ x = y := by rw [lcW]; exact lc_eq x y
end Own
end Jvm.RoadKit
namespace Jvm.Pilot.@@N@@
open Jvm Jvm.ClassFile Sem Op Lib Jvm.Free Jvm.Stand Jvm.LawKit Jvm.RoadKit Bundle Jvm.Pilot.@@N@@.Jvm.D
theorem own_a {c k : Int32} {n : Int} (e : k.toInt = n) (h : c.toInt < n) : c < k := by rw [Int32.lt_iff_toInt_lt, e]; exact h
theorem own_b {c k : Int32} {n : Int} (e : k.toInt = n) (h : n ≤ c.toInt) : ¬ c < k := by rw [Int32.lt_iff_toInt_lt, e]; omega
theorem own_c {c k : Int32} {n : Int} (e : k.toInt = n) (h : n < c.toInt) : k < c := by rw [Int32.lt_iff_toInt_lt, e]; exact h
theorem own_d {c k : Int32} {n : Int} (e : k.toInt = n) (h : c.toInt ≤ n) : ¬ k < c := by rw [Int32.lt_iff_toInt_lt, e]; omega
theorem own_e {c k : Int32} {n : Int} (e : k.toInt = n) (h : c.toInt ≠ n) : ¬ c = k := fun q => h (by rw [q]; exact e)
theorem own_f {c k : Int32} {n : Int} (e : k.toInt = n) (h : c.toInt = n) : c = k := Int32.toInt_inj.mp (h.trans e.symm)
def own_n201 (c : Int32) : Int32 := 0
def own_n197 (c : Int32) : Int32 := 1
def own_n185 (c : Int32) : Int32 := if c < (65536 : Int32) then own_n201 c else if (983039 : Int32) < c then own_n201 c else own_n197 c
def own_n173 (c : Int32) : Int32 := if c < (65008 : Int32) then own_n185 c else if (65533 : Int32) < c then own_n185 c else own_n197 c
def own_n161 (c : Int32) : Int32 := if c < (63744 : Int32) then own_n173 c else if (64975 : Int32) < c then own_n173 c else own_n197 c
def own_n148 (c : Int32) : Int32 := if c < (12289 : Int32) then own_n161 c else if (55295 : Int32) < c then own_n161 c else own_n197 c
def own_n134 (c : Int32) : Int32 := if c < (11264 : Int32) then own_n148 c else if (12271 : Int32) < c then own_n148 c else own_n197 c
def own_n120 (c : Int32) : Int32 := if c < (8304 : Int32) then own_n134 c else if (8591 : Int32) < c then own_n134 c else own_n197 c
def own_n106 (c : Int32) : Int32 := if c < (8204 : Int32) then own_n120 c else if (8205 : Int32) < c then own_n120 c else own_n197 c
def own_n92 (c : Int32) : Int32 := if c < (895 : Int32) then own_n106 c else if (8191 : Int32) < c then own_n106 c else own_n197 c
def own_n78 (c : Int32) : Int32 := if c < (880 : Int32) then own_n92 c else if (893 : Int32) < c then own_n92 c else own_n197 c
def own_n64 (c : Int32) : Int32 := if c < (248 : Int32) then own_n78 c else if (767 : Int32) < c then own_n78 c else own_n197 c
def own_n50 (c : Int32) : Int32 := if c < (216 : Int32) then own_n64 c else if (246 : Int32) < c then own_n64 c else own_n197 c
def own_n24 (c : Int32) : Int32 := if c = (95 : Int32) then own_n197 c else if c = (58 : Int32) then own_n197 c else if c < (192 : Int32) then own_n50 c else if (214 : Int32) < c then own_n50 c else own_n197 c
def own_n12 (c : Int32) : Int32 := if c < (65 : Int32) then own_n24 c else if (90 : Int32) < c then own_n24 c else own_n197 c
def own_n0 (c : Int32) : Int32 := if c < (97 : Int32) then own_n12 c else if (122 : Int32) < c then own_n12 c else own_n197 c
def own_g214 (c : Int32) : Int32 := 0
def own_g206 (c : Int32) : Int32 := if (983039 : Int32) < c then 1 else own_g214 c
def own_g192 (c : Int32) : Int32 := if c < (65534 : Int32) then own_g206 c else if (65535 : Int32) < c then own_g206 c else 1
def own_g178 (c : Int32) : Int32 := if c < (64976 : Int32) then own_g192 c else if (65007 : Int32) < c then own_g192 c else 1
def own_g164 (c : Int32) : Int32 := if c < (55296 : Int32) then own_g178 c else if (63743 : Int32) < c then own_g178 c else 1
def own_g148 (c : Int32) : Int32 := if c < (12272 : Int32) then own_g164 c else if (12288 : Int32) < c then own_g164 c else 1
def own_g132 (c : Int32) : Int32 := if c < (8592 : Int32) then own_g148 c else if (11263 : Int32) < c then own_g148 c else 1
def own_g116 (c : Int32) : Int32 := if c < (8206 : Int32) then own_g132 c else if (8303 : Int32) < c then own_g132 c else 1
def own_g100 (c : Int32) : Int32 := if c < (8192 : Int32) then own_g116 c else if (8203 : Int32) < c then own_g116 c else 1
def own_g91 (c : Int32) : Int32 := if c = (894 : Int32) then 1 else own_g100 c
def own_g75 (c : Int32) : Int32 := if c < (768 : Int32) then own_g91 c else if (879 : Int32) < c then own_g91 c else 1
def own_g73 (c : Int32) : Int32 := 1
def own_g59 (c : Int32) : Int32 := if c = (215 : Int32) then own_g73 c else if c = (247 : Int32) then own_g73 c else own_g75 c
def own_g44 (c : Int32) : Int32 := if c < (123 : Int32) then own_g59 c else if (191 : Int32) < c then own_g59 c else 1
def own_g36 (c : Int32) : Int32 := if c = (96 : Int32) then 1 else own_g44 c
def own_g22 (c : Int32) : Int32 := if c < (91 : Int32) then own_g36 c else if (94 : Int32) < c then own_g36 c else 1
def own_g8 (c : Int32) : Int32 := if c < (59 : Int32) then own_g22 c else if (64 : Int32) < c then own_g22 c else 1
def own_g0 (c : Int32) : Int32 := if c < (58 : Int32) then 1 else own_g8 c
theorem own_cell0 (c : Int32) (h2 : c.toInt ≤ 57) : own_n0 c = 0 ∧ own_g0 c = 1 := by
  refine ⟨?_, ?_⟩
  · rw [own_n0, if_pos (own_a (n := 97) rfl (by omega)), own_n12, if_pos (own_a (n := 65) rfl (by omega)), own_n24, if_neg (own_e (n := 95) rfl (by omega)), if_neg (own_e (n := 58) rfl (by omega)), if_pos (own_a (n := 192) rfl (by omega)), own_n50, if_pos (own_a (n := 216) rfl (by omega)), own_n64, if_pos (own_a (n := 248) rfl (by omega)), own_n78, if_pos (own_a (n := 880) rfl (by omega)), own_n92, if_pos (own_a (n := 895) rfl (by omega)), own_n106, if_pos (own_a (n := 8204) rfl (by omega)), own_n120, if_pos (own_a (n := 8304) rfl (by omega)), own_n134, if_pos (own_a (n := 11264) rfl (by omega)), own_n148, if_pos (own_a (n := 12289) rfl (by omega)), own_n161, if_pos (own_a (n := 63744) rfl (by omega)), own_n173, if_pos (own_a (n := 65008) rfl (by omega)), own_n185, if_pos (own_a (n := 65536) rfl (by omega)), own_n201]
  · rw [own_g0, if_pos (own_a (n := 58) rfl (by omega))]
theorem own_cell1 (c : Int32) (h1 : 58 ≤ c.toInt) (h2 : c.toInt ≤ 58) : own_n0 c = 1 ∧ own_g0 c = 0 := by
  refine ⟨?_, ?_⟩
  · rw [own_n0, if_pos (own_a (n := 97) rfl (by omega)), own_n12, if_pos (own_a (n := 65) rfl (by omega)), own_n24, if_neg (own_e (n := 95) rfl (by omega)), if_pos (own_f (n := 58) rfl (by omega)), own_n197]
  · rw [own_g0, if_neg (own_b (n := 58) rfl (by omega)), own_g8, if_pos (own_a (n := 59) rfl (by omega)), own_g22, if_pos (own_a (n := 91) rfl (by omega)), own_g36, if_neg (own_e (n := 96) rfl (by omega)), own_g44, if_pos (own_a (n := 123) rfl (by omega)), own_g59, if_neg (own_e (n := 215) rfl (by omega)), if_neg (own_e (n := 247) rfl (by omega)), own_g75, if_pos (own_a (n := 768) rfl (by omega)), own_g91, if_neg (own_e (n := 894) rfl (by omega)), own_g100, if_pos (own_a (n := 8192) rfl (by omega)), own_g116, if_pos (own_a (n := 8206) rfl (by omega)), own_g132, if_pos (own_a (n := 8592) rfl (by omega)), own_g148, if_pos (own_a (n := 12272) rfl (by omega)), own_g164, if_pos (own_a (n := 55296) rfl (by omega)), own_g178, if_pos (own_a (n := 64976) rfl (by omega)), own_g192, if_pos (own_a (n := 65534) rfl (by omega)), own_g206, if_neg (own_d (n := 983039) rfl (by omega)), own_g214]
theorem own_cell2 (c : Int32) (h1 : 59 ≤ c.toInt) (h2 : c.toInt ≤ 64) : own_n0 c = 0 ∧ own_g0 c = 1 := by
  refine ⟨?_, ?_⟩
  · rw [own_n0, if_pos (own_a (n := 97) rfl (by omega)), own_n12, if_pos (own_a (n := 65) rfl (by omega)), own_n24, if_neg (own_e (n := 95) rfl (by omega)), if_neg (own_e (n := 58) rfl (by omega)), if_pos (own_a (n := 192) rfl (by omega)), own_n50, if_pos (own_a (n := 216) rfl (by omega)), own_n64, if_pos (own_a (n := 248) rfl (by omega)), own_n78, if_pos (own_a (n := 880) rfl (by omega)), own_n92, if_pos (own_a (n := 895) rfl (by omega)), own_n106, if_pos (own_a (n := 8204) rfl (by omega)), own_n120, if_pos (own_a (n := 8304) rfl (by omega)), own_n134, if_pos (own_a (n := 11264) rfl (by omega)), own_n148, if_pos (own_a (n := 12289) rfl (by omega)), own_n161, if_pos (own_a (n := 63744) rfl (by omega)), own_n173, if_pos (own_a (n := 65008) rfl (by omega)), own_n185, if_pos (own_a (n := 65536) rfl (by omega)), own_n201]
  · rw [own_g0, if_neg (own_b (n := 58) rfl (by omega)), own_g8, if_neg (own_b (n := 59) rfl (by omega)), if_neg (own_d (n := 64) rfl (by omega))]
theorem own_cell3 (c : Int32) (h1 : 65 ≤ c.toInt) (h2 : c.toInt ≤ 90) : own_n0 c = 1 ∧ own_g0 c = 0 := by
  refine ⟨?_, ?_⟩
  · rw [own_n0, if_pos (own_a (n := 97) rfl (by omega)), own_n12, if_neg (own_b (n := 65) rfl (by omega)), if_neg (own_d (n := 90) rfl (by omega)), own_n197]
  · rw [own_g0, if_neg (own_b (n := 58) rfl (by omega)), own_g8, if_neg (own_b (n := 59) rfl (by omega)), if_pos (own_c (n := 64) rfl (by omega)), own_g22, if_pos (own_a (n := 91) rfl (by omega)), own_g36, if_neg (own_e (n := 96) rfl (by omega)), own_g44, if_pos (own_a (n := 123) rfl (by omega)), own_g59, if_neg (own_e (n := 215) rfl (by omega)), if_neg (own_e (n := 247) rfl (by omega)), own_g75, if_pos (own_a (n := 768) rfl (by omega)), own_g91, if_neg (own_e (n := 894) rfl (by omega)), own_g100, if_pos (own_a (n := 8192) rfl (by omega)), own_g116, if_pos (own_a (n := 8206) rfl (by omega)), own_g132, if_pos (own_a (n := 8592) rfl (by omega)), own_g148, if_pos (own_a (n := 12272) rfl (by omega)), own_g164, if_pos (own_a (n := 55296) rfl (by omega)), own_g178, if_pos (own_a (n := 64976) rfl (by omega)), own_g192, if_pos (own_a (n := 65534) rfl (by omega)), own_g206, if_neg (own_d (n := 983039) rfl (by omega)), own_g214]
theorem own_cell4 (c : Int32) (h1 : 91 ≤ c.toInt) (h2 : c.toInt ≤ 94) : own_n0 c = 0 ∧ own_g0 c = 1 := by
  refine ⟨?_, ?_⟩
  · rw [own_n0, if_pos (own_a (n := 97) rfl (by omega)), own_n12, if_neg (own_b (n := 65) rfl (by omega)), if_pos (own_c (n := 90) rfl (by omega)), own_n24, if_neg (own_e (n := 95) rfl (by omega)), if_neg (own_e (n := 58) rfl (by omega)), if_pos (own_a (n := 192) rfl (by omega)), own_n50, if_pos (own_a (n := 216) rfl (by omega)), own_n64, if_pos (own_a (n := 248) rfl (by omega)), own_n78, if_pos (own_a (n := 880) rfl (by omega)), own_n92, if_pos (own_a (n := 895) rfl (by omega)), own_n106, if_pos (own_a (n := 8204) rfl (by omega)), own_n120, if_pos (own_a (n := 8304) rfl (by omega)), own_n134, if_pos (own_a (n := 11264) rfl (by omega)), own_n148, if_pos (own_a (n := 12289) rfl (by omega)), own_n161, if_pos (own_a (n := 63744) rfl (by omega)), own_n173, if_pos (own_a (n := 65008) rfl (by omega)), own_n185, if_pos (own_a (n := 65536) rfl (by omega)), own_n201]
  · rw [own_g0, if_neg (own_b (n := 58) rfl (by omega)), own_g8, if_neg (own_b (n := 59) rfl (by omega)), if_pos (own_c (n := 64) rfl (by omega)), own_g22, if_neg (own_b (n := 91) rfl (by omega)), if_neg (own_d (n := 94) rfl (by omega))]
theorem own_cell5 (c : Int32) (h1 : 95 ≤ c.toInt) (h2 : c.toInt ≤ 95) : own_n0 c = 1 ∧ own_g0 c = 0 := by
  refine ⟨?_, ?_⟩
  · rw [own_n0, if_pos (own_a (n := 97) rfl (by omega)), own_n12, if_neg (own_b (n := 65) rfl (by omega)), if_pos (own_c (n := 90) rfl (by omega)), own_n24, if_pos (own_f (n := 95) rfl (by omega)), own_n197]
  · rw [own_g0, if_neg (own_b (n := 58) rfl (by omega)), own_g8, if_neg (own_b (n := 59) rfl (by omega)), if_pos (own_c (n := 64) rfl (by omega)), own_g22, if_neg (own_b (n := 91) rfl (by omega)), if_pos (own_c (n := 94) rfl (by omega)), own_g36, if_neg (own_e (n := 96) rfl (by omega)), own_g44, if_pos (own_a (n := 123) rfl (by omega)), own_g59, if_neg (own_e (n := 215) rfl (by omega)), if_neg (own_e (n := 247) rfl (by omega)), own_g75, if_pos (own_a (n := 768) rfl (by omega)), own_g91, if_neg (own_e (n := 894) rfl (by omega)), own_g100, if_pos (own_a (n := 8192) rfl (by omega)), own_g116, if_pos (own_a (n := 8206) rfl (by omega)), own_g132, if_pos (own_a (n := 8592) rfl (by omega)), own_g148, if_pos (own_a (n := 12272) rfl (by omega)), own_g164, if_pos (own_a (n := 55296) rfl (by omega)), own_g178, if_pos (own_a (n := 64976) rfl (by omega)), own_g192, if_pos (own_a (n := 65534) rfl (by omega)), own_g206, if_neg (own_d (n := 983039) rfl (by omega)), own_g214]
theorem own_cell6 (c : Int32) (h1 : 96 ≤ c.toInt) (h2 : c.toInt ≤ 96) : own_n0 c = 0 ∧ own_g0 c = 1 := by
  refine ⟨?_, ?_⟩
  · rw [own_n0, if_pos (own_a (n := 97) rfl (by omega)), own_n12, if_neg (own_b (n := 65) rfl (by omega)), if_pos (own_c (n := 90) rfl (by omega)), own_n24, if_neg (own_e (n := 95) rfl (by omega)), if_neg (own_e (n := 58) rfl (by omega)), if_pos (own_a (n := 192) rfl (by omega)), own_n50, if_pos (own_a (n := 216) rfl (by omega)), own_n64, if_pos (own_a (n := 248) rfl (by omega)), own_n78, if_pos (own_a (n := 880) rfl (by omega)), own_n92, if_pos (own_a (n := 895) rfl (by omega)), own_n106, if_pos (own_a (n := 8204) rfl (by omega)), own_n120, if_pos (own_a (n := 8304) rfl (by omega)), own_n134, if_pos (own_a (n := 11264) rfl (by omega)), own_n148, if_pos (own_a (n := 12289) rfl (by omega)), own_n161, if_pos (own_a (n := 63744) rfl (by omega)), own_n173, if_pos (own_a (n := 65008) rfl (by omega)), own_n185, if_pos (own_a (n := 65536) rfl (by omega)), own_n201]
  · rw [own_g0, if_neg (own_b (n := 58) rfl (by omega)), own_g8, if_neg (own_b (n := 59) rfl (by omega)), if_pos (own_c (n := 64) rfl (by omega)), own_g22, if_neg (own_b (n := 91) rfl (by omega)), if_pos (own_c (n := 94) rfl (by omega)), own_g36, if_pos (own_f (n := 96) rfl (by omega))]
theorem own_cell7 (c : Int32) (h1 : 97 ≤ c.toInt) (h2 : c.toInt ≤ 122) : own_n0 c = 1 ∧ own_g0 c = 0 := by
  refine ⟨?_, ?_⟩
  · rw [own_n0, if_neg (own_b (n := 97) rfl (by omega)), if_neg (own_d (n := 122) rfl (by omega)), own_n197]
  · rw [own_g0, if_neg (own_b (n := 58) rfl (by omega)), own_g8, if_neg (own_b (n := 59) rfl (by omega)), if_pos (own_c (n := 64) rfl (by omega)), own_g22, if_neg (own_b (n := 91) rfl (by omega)), if_pos (own_c (n := 94) rfl (by omega)), own_g36, if_neg (own_e (n := 96) rfl (by omega)), own_g44, if_pos (own_a (n := 123) rfl (by omega)), own_g59, if_neg (own_e (n := 215) rfl (by omega)), if_neg (own_e (n := 247) rfl (by omega)), own_g75, if_pos (own_a (n := 768) rfl (by omega)), own_g91, if_neg (own_e (n := 894) rfl (by omega)), own_g100, if_pos (own_a (n := 8192) rfl (by omega)), own_g116, if_pos (own_a (n := 8206) rfl (by omega)), own_g132, if_pos (own_a (n := 8592) rfl (by omega)), own_g148, if_pos (own_a (n := 12272) rfl (by omega)), own_g164, if_pos (own_a (n := 55296) rfl (by omega)), own_g178, if_pos (own_a (n := 64976) rfl (by omega)), own_g192, if_pos (own_a (n := 65534) rfl (by omega)), own_g206, if_neg (own_d (n := 983039) rfl (by omega)), own_g214]
theorem own_cell8 (c : Int32) (h1 : 123 ≤ c.toInt) (h2 : c.toInt ≤ 191) : own_n0 c = 0 ∧ own_g0 c = 1 := by
  refine ⟨?_, ?_⟩
  · rw [own_n0, if_neg (own_b (n := 97) rfl (by omega)), if_pos (own_c (n := 122) rfl (by omega)), own_n12, if_neg (own_b (n := 65) rfl (by omega)), if_pos (own_c (n := 90) rfl (by omega)), own_n24, if_neg (own_e (n := 95) rfl (by omega)), if_neg (own_e (n := 58) rfl (by omega)), if_pos (own_a (n := 192) rfl (by omega)), own_n50, if_pos (own_a (n := 216) rfl (by omega)), own_n64, if_pos (own_a (n := 248) rfl (by omega)), own_n78, if_pos (own_a (n := 880) rfl (by omega)), own_n92, if_pos (own_a (n := 895) rfl (by omega)), own_n106, if_pos (own_a (n := 8204) rfl (by omega)), own_n120, if_pos (own_a (n := 8304) rfl (by omega)), own_n134, if_pos (own_a (n := 11264) rfl (by omega)), own_n148, if_pos (own_a (n := 12289) rfl (by omega)), own_n161, if_pos (own_a (n := 63744) rfl (by omega)), own_n173, if_pos (own_a (n := 65008) rfl (by omega)), own_n185, if_pos (own_a (n := 65536) rfl (by omega)), own_n201]
  · rw [own_g0, if_neg (own_b (n := 58) rfl (by omega)), own_g8, if_neg (own_b (n := 59) rfl (by omega)), if_pos (own_c (n := 64) rfl (by omega)), own_g22, if_neg (own_b (n := 91) rfl (by omega)), if_pos (own_c (n := 94) rfl (by omega)), own_g36, if_neg (own_e (n := 96) rfl (by omega)), own_g44, if_neg (own_b (n := 123) rfl (by omega)), if_neg (own_d (n := 191) rfl (by omega))]
theorem own_cell9 (c : Int32) (h1 : 192 ≤ c.toInt) (h2 : c.toInt ≤ 214) : own_n0 c = 1 ∧ own_g0 c = 0 := by
  refine ⟨?_, ?_⟩
  · rw [own_n0, if_neg (own_b (n := 97) rfl (by omega)), if_pos (own_c (n := 122) rfl (by omega)), own_n12, if_neg (own_b (n := 65) rfl (by omega)), if_pos (own_c (n := 90) rfl (by omega)), own_n24, if_neg (own_e (n := 95) rfl (by omega)), if_neg (own_e (n := 58) rfl (by omega)), if_neg (own_b (n := 192) rfl (by omega)), if_neg (own_d (n := 214) rfl (by omega)), own_n197]
  · rw [own_g0, if_neg (own_b (n := 58) rfl (by omega)), own_g8, if_neg (own_b (n := 59) rfl (by omega)), if_pos (own_c (n := 64) rfl (by omega)), own_g22, if_neg (own_b (n := 91) rfl (by omega)), if_pos (own_c (n := 94) rfl (by omega)), own_g36, if_neg (own_e (n := 96) rfl (by omega)), own_g44, if_neg (own_b (n := 123) rfl (by omega)), if_pos (own_c (n := 191) rfl (by omega)), own_g59, if_neg (own_e (n := 215) rfl (by omega)), if_neg (own_e (n := 247) rfl (by omega)), own_g75, if_pos (own_a (n := 768) rfl (by omega)), own_g91, if_neg (own_e (n := 894) rfl (by omega)), own_g100, if_pos (own_a (n := 8192) rfl (by omega)), own_g116, if_pos (own_a (n := 8206) rfl (by omega)), own_g132, if_pos (own_a (n := 8592) rfl (by omega)), own_g148, if_pos (own_a (n := 12272) rfl (by omega)), own_g164, if_pos (own_a (n := 55296) rfl (by omega)), own_g178, if_pos (own_a (n := 64976) rfl (by omega)), own_g192, if_pos (own_a (n := 65534) rfl (by omega)), own_g206, if_neg (own_d (n := 983039) rfl (by omega)), own_g214]
theorem own_cell10 (c : Int32) (h1 : 215 ≤ c.toInt) (h2 : c.toInt ≤ 215) : own_n0 c = 0 ∧ own_g0 c = 1 := by
  refine ⟨?_, ?_⟩
  · rw [own_n0, if_neg (own_b (n := 97) rfl (by omega)), if_pos (own_c (n := 122) rfl (by omega)), own_n12, if_neg (own_b (n := 65) rfl (by omega)), if_pos (own_c (n := 90) rfl (by omega)), own_n24, if_neg (own_e (n := 95) rfl (by omega)), if_neg (own_e (n := 58) rfl (by omega)), if_neg (own_b (n := 192) rfl (by omega)), if_pos (own_c (n := 214) rfl (by omega)), own_n50, if_pos (own_a (n := 216) rfl (by omega)), own_n64, if_pos (own_a (n := 248) rfl (by omega)), own_n78, if_pos (own_a (n := 880) rfl (by omega)), own_n92, if_pos (own_a (n := 895) rfl (by omega)), own_n106, if_pos (own_a (n := 8204) rfl (by omega)), own_n120, if_pos (own_a (n := 8304) rfl (by omega)), own_n134, if_pos (own_a (n := 11264) rfl (by omega)), own_n148, if_pos (own_a (n := 12289) rfl (by omega)), own_n161, if_pos (own_a (n := 63744) rfl (by omega)), own_n173, if_pos (own_a (n := 65008) rfl (by omega)), own_n185, if_pos (own_a (n := 65536) rfl (by omega)), own_n201]
  · rw [own_g0, if_neg (own_b (n := 58) rfl (by omega)), own_g8, if_neg (own_b (n := 59) rfl (by omega)), if_pos (own_c (n := 64) rfl (by omega)), own_g22, if_neg (own_b (n := 91) rfl (by omega)), if_pos (own_c (n := 94) rfl (by omega)), own_g36, if_neg (own_e (n := 96) rfl (by omega)), own_g44, if_neg (own_b (n := 123) rfl (by omega)), if_pos (own_c (n := 191) rfl (by omega)), own_g59, if_pos (own_f (n := 215) rfl (by omega)), own_g73]
theorem own_cell11 (c : Int32) (h1 : 216 ≤ c.toInt) (h2 : c.toInt ≤ 246) : own_n0 c = 1 ∧ own_g0 c = 0 := by
  refine ⟨?_, ?_⟩
  · rw [own_n0, if_neg (own_b (n := 97) rfl (by omega)), if_pos (own_c (n := 122) rfl (by omega)), own_n12, if_neg (own_b (n := 65) rfl (by omega)), if_pos (own_c (n := 90) rfl (by omega)), own_n24, if_neg (own_e (n := 95) rfl (by omega)), if_neg (own_e (n := 58) rfl (by omega)), if_neg (own_b (n := 192) rfl (by omega)), if_pos (own_c (n := 214) rfl (by omega)), own_n50, if_neg (own_b (n := 216) rfl (by omega)), if_neg (own_d (n := 246) rfl (by omega)), own_n197]
  · rw [own_g0, if_neg (own_b (n := 58) rfl (by omega)), own_g8, if_neg (own_b (n := 59) rfl (by omega)), if_pos (own_c (n := 64) rfl (by omega)), own_g22, if_neg (own_b (n := 91) rfl (by omega)), if_pos (own_c (n := 94) rfl (by omega)), own_g36, if_neg (own_e (n := 96) rfl (by omega)), own_g44, if_neg (own_b (n := 123) rfl (by omega)), if_pos (own_c (n := 191) rfl (by omega)), own_g59, if_neg (own_e (n := 215) rfl (by omega)), if_neg (own_e (n := 247) rfl (by omega)), own_g75, if_pos (own_a (n := 768) rfl (by omega)), own_g91, if_neg (own_e (n := 894) rfl (by omega)), own_g100, if_pos (own_a (n := 8192) rfl (by omega)), own_g116, if_pos (own_a (n := 8206) rfl (by omega)), own_g132, if_pos (own_a (n := 8592) rfl (by omega)), own_g148, if_pos (own_a (n := 12272) rfl (by omega)), own_g164, if_pos (own_a (n := 55296) rfl (by omega)), own_g178, if_pos (own_a (n := 64976) rfl (by omega)), own_g192, if_pos (own_a (n := 65534) rfl (by omega)), own_g206, if_neg (own_d (n := 983039) rfl (by omega)), own_g214]
theorem own_cell12 (c : Int32) (h1 : 247 ≤ c.toInt) (h2 : c.toInt ≤ 247) : own_n0 c = 0 ∧ own_g0 c = 1 := by
  refine ⟨?_, ?_⟩
  · rw [own_n0, if_neg (own_b (n := 97) rfl (by omega)), if_pos (own_c (n := 122) rfl (by omega)), own_n12, if_neg (own_b (n := 65) rfl (by omega)), if_pos (own_c (n := 90) rfl (by omega)), own_n24, if_neg (own_e (n := 95) rfl (by omega)), if_neg (own_e (n := 58) rfl (by omega)), if_neg (own_b (n := 192) rfl (by omega)), if_pos (own_c (n := 214) rfl (by omega)), own_n50, if_neg (own_b (n := 216) rfl (by omega)), if_pos (own_c (n := 246) rfl (by omega)), own_n64, if_pos (own_a (n := 248) rfl (by omega)), own_n78, if_pos (own_a (n := 880) rfl (by omega)), own_n92, if_pos (own_a (n := 895) rfl (by omega)), own_n106, if_pos (own_a (n := 8204) rfl (by omega)), own_n120, if_pos (own_a (n := 8304) rfl (by omega)), own_n134, if_pos (own_a (n := 11264) rfl (by omega)), own_n148, if_pos (own_a (n := 12289) rfl (by omega)), own_n161, if_pos (own_a (n := 63744) rfl (by omega)), own_n173, if_pos (own_a (n := 65008) rfl (by omega)), own_n185, if_pos (own_a (n := 65536) rfl (by omega)), own_n201]
  · rw [own_g0, if_neg (own_b (n := 58) rfl (by omega)), own_g8, if_neg (own_b (n := 59) rfl (by omega)), if_pos (own_c (n := 64) rfl (by omega)), own_g22, if_neg (own_b (n := 91) rfl (by omega)), if_pos (own_c (n := 94) rfl (by omega)), own_g36, if_neg (own_e (n := 96) rfl (by omega)), own_g44, if_neg (own_b (n := 123) rfl (by omega)), if_pos (own_c (n := 191) rfl (by omega)), own_g59, if_neg (own_e (n := 215) rfl (by omega)), if_pos (own_f (n := 247) rfl (by omega)), own_g73]
theorem own_cell13 (c : Int32) (h1 : 248 ≤ c.toInt) (h2 : c.toInt ≤ 767) : own_n0 c = 1 ∧ own_g0 c = 0 := by
  refine ⟨?_, ?_⟩
  · rw [own_n0, if_neg (own_b (n := 97) rfl (by omega)), if_pos (own_c (n := 122) rfl (by omega)), own_n12, if_neg (own_b (n := 65) rfl (by omega)), if_pos (own_c (n := 90) rfl (by omega)), own_n24, if_neg (own_e (n := 95) rfl (by omega)), if_neg (own_e (n := 58) rfl (by omega)), if_neg (own_b (n := 192) rfl (by omega)), if_pos (own_c (n := 214) rfl (by omega)), own_n50, if_neg (own_b (n := 216) rfl (by omega)), if_pos (own_c (n := 246) rfl (by omega)), own_n64, if_neg (own_b (n := 248) rfl (by omega)), if_neg (own_d (n := 767) rfl (by omega)), own_n197]
  · rw [own_g0, if_neg (own_b (n := 58) rfl (by omega)), own_g8, if_neg (own_b (n := 59) rfl (by omega)), if_pos (own_c (n := 64) rfl (by omega)), own_g22, if_neg (own_b (n := 91) rfl (by omega)), if_pos (own_c (n := 94) rfl (by omega)), own_g36, if_neg (own_e (n := 96) rfl (by omega)), own_g44, if_neg (own_b (n := 123) rfl (by omega)), if_pos (own_c (n := 191) rfl (by omega)), own_g59, if_neg (own_e (n := 215) rfl (by omega)), if_neg (own_e (n := 247) rfl (by omega)), own_g75, if_pos (own_a (n := 768) rfl (by omega)), own_g91, if_neg (own_e (n := 894) rfl (by omega)), own_g100, if_pos (own_a (n := 8192) rfl (by omega)), own_g116, if_pos (own_a (n := 8206) rfl (by omega)), own_g132, if_pos (own_a (n := 8592) rfl (by omega)), own_g148, if_pos (own_a (n := 12272) rfl (by omega)), own_g164, if_pos (own_a (n := 55296) rfl (by omega)), own_g178, if_pos (own_a (n := 64976) rfl (by omega)), own_g192, if_pos (own_a (n := 65534) rfl (by omega)), own_g206, if_neg (own_d (n := 983039) rfl (by omega)), own_g214]
theorem own_cell14 (c : Int32) (h1 : 768 ≤ c.toInt) (h2 : c.toInt ≤ 879) : own_n0 c = 0 ∧ own_g0 c = 1 := by
  refine ⟨?_, ?_⟩
  · rw [own_n0, if_neg (own_b (n := 97) rfl (by omega)), if_pos (own_c (n := 122) rfl (by omega)), own_n12, if_neg (own_b (n := 65) rfl (by omega)), if_pos (own_c (n := 90) rfl (by omega)), own_n24, if_neg (own_e (n := 95) rfl (by omega)), if_neg (own_e (n := 58) rfl (by omega)), if_neg (own_b (n := 192) rfl (by omega)), if_pos (own_c (n := 214) rfl (by omega)), own_n50, if_neg (own_b (n := 216) rfl (by omega)), if_pos (own_c (n := 246) rfl (by omega)), own_n64, if_neg (own_b (n := 248) rfl (by omega)), if_pos (own_c (n := 767) rfl (by omega)), own_n78, if_pos (own_a (n := 880) rfl (by omega)), own_n92, if_pos (own_a (n := 895) rfl (by omega)), own_n106, if_pos (own_a (n := 8204) rfl (by omega)), own_n120, if_pos (own_a (n := 8304) rfl (by omega)), own_n134, if_pos (own_a (n := 11264) rfl (by omega)), own_n148, if_pos (own_a (n := 12289) rfl (by omega)), own_n161, if_pos (own_a (n := 63744) rfl (by omega)), own_n173, if_pos (own_a (n := 65008) rfl (by omega)), own_n185, if_pos (own_a (n := 65536) rfl (by omega)), own_n201]
  · rw [own_g0, if_neg (own_b (n := 58) rfl (by omega)), own_g8, if_neg (own_b (n := 59) rfl (by omega)), if_pos (own_c (n := 64) rfl (by omega)), own_g22, if_neg (own_b (n := 91) rfl (by omega)), if_pos (own_c (n := 94) rfl (by omega)), own_g36, if_neg (own_e (n := 96) rfl (by omega)), own_g44, if_neg (own_b (n := 123) rfl (by omega)), if_pos (own_c (n := 191) rfl (by omega)), own_g59, if_neg (own_e (n := 215) rfl (by omega)), if_neg (own_e (n := 247) rfl (by omega)), own_g75, if_neg (own_b (n := 768) rfl (by omega)), if_neg (own_d (n := 879) rfl (by omega))]
theorem own_cell15 (c : Int32) (h1 : 880 ≤ c.toInt) (h2 : c.toInt ≤ 893) : own_n0 c = 1 ∧ own_g0 c = 0 := by
  refine ⟨?_, ?_⟩
  · rw [own_n0, if_neg (own_b (n := 97) rfl (by omega)), if_pos (own_c (n := 122) rfl (by omega)), own_n12, if_neg (own_b (n := 65) rfl (by omega)), if_pos (own_c (n := 90) rfl (by omega)), own_n24, if_neg (own_e (n := 95) rfl (by omega)), if_neg (own_e (n := 58) rfl (by omega)), if_neg (own_b (n := 192) rfl (by omega)), if_pos (own_c (n := 214) rfl (by omega)), own_n50, if_neg (own_b (n := 216) rfl (by omega)), if_pos (own_c (n := 246) rfl (by omega)), own_n64, if_neg (own_b (n := 248) rfl (by omega)), if_pos (own_c (n := 767) rfl (by omega)), own_n78, if_neg (own_b (n := 880) rfl (by omega)), if_neg (own_d (n := 893) rfl (by omega)), own_n197]
  · rw [own_g0, if_neg (own_b (n := 58) rfl (by omega)), own_g8, if_neg (own_b (n := 59) rfl (by omega)), if_pos (own_c (n := 64) rfl (by omega)), own_g22, if_neg (own_b (n := 91) rfl (by omega)), if_pos (own_c (n := 94) rfl (by omega)), own_g36, if_neg (own_e (n := 96) rfl (by omega)), own_g44, if_neg (own_b (n := 123) rfl (by omega)), if_pos (own_c (n := 191) rfl (by omega)), own_g59, if_neg (own_e (n := 215) rfl (by omega)), if_neg (own_e (n := 247) rfl (by omega)), own_g75, if_neg (own_b (n := 768) rfl (by omega)), if_pos (own_c (n := 879) rfl (by omega)), own_g91, if_neg (own_e (n := 894) rfl (by omega)), own_g100, if_pos (own_a (n := 8192) rfl (by omega)), own_g116, if_pos (own_a (n := 8206) rfl (by omega)), own_g132, if_pos (own_a (n := 8592) rfl (by omega)), own_g148, if_pos (own_a (n := 12272) rfl (by omega)), own_g164, if_pos (own_a (n := 55296) rfl (by omega)), own_g178, if_pos (own_a (n := 64976) rfl (by omega)), own_g192, if_pos (own_a (n := 65534) rfl (by omega)), own_g206, if_neg (own_d (n := 983039) rfl (by omega)), own_g214]
theorem own_cell16 (c : Int32) (h1 : 894 ≤ c.toInt) (h2 : c.toInt ≤ 894) : own_n0 c = 0 ∧ own_g0 c = 1 := by
  refine ⟨?_, ?_⟩
  · rw [own_n0, if_neg (own_b (n := 97) rfl (by omega)), if_pos (own_c (n := 122) rfl (by omega)), own_n12, if_neg (own_b (n := 65) rfl (by omega)), if_pos (own_c (n := 90) rfl (by omega)), own_n24, if_neg (own_e (n := 95) rfl (by omega)), if_neg (own_e (n := 58) rfl (by omega)), if_neg (own_b (n := 192) rfl (by omega)), if_pos (own_c (n := 214) rfl (by omega)), own_n50, if_neg (own_b (n := 216) rfl (by omega)), if_pos (own_c (n := 246) rfl (by omega)), own_n64, if_neg (own_b (n := 248) rfl (by omega)), if_pos (own_c (n := 767) rfl (by omega)), own_n78, if_neg (own_b (n := 880) rfl (by omega)), if_pos (own_c (n := 893) rfl (by omega)), own_n92, if_pos (own_a (n := 895) rfl (by omega)), own_n106, if_pos (own_a (n := 8204) rfl (by omega)), own_n120, if_pos (own_a (n := 8304) rfl (by omega)), own_n134, if_pos (own_a (n := 11264) rfl (by omega)), own_n148, if_pos (own_a (n := 12289) rfl (by omega)), own_n161, if_pos (own_a (n := 63744) rfl (by omega)), own_n173, if_pos (own_a (n := 65008) rfl (by omega)), own_n185, if_pos (own_a (n := 65536) rfl (by omega)), own_n201]
  · rw [own_g0, if_neg (own_b (n := 58) rfl (by omega)), own_g8, if_neg (own_b (n := 59) rfl (by omega)), if_pos (own_c (n := 64) rfl (by omega)), own_g22, if_neg (own_b (n := 91) rfl (by omega)), if_pos (own_c (n := 94) rfl (by omega)), own_g36, if_neg (own_e (n := 96) rfl (by omega)), own_g44, if_neg (own_b (n := 123) rfl (by omega)), if_pos (own_c (n := 191) rfl (by omega)), own_g59, if_neg (own_e (n := 215) rfl (by omega)), if_neg (own_e (n := 247) rfl (by omega)), own_g75, if_neg (own_b (n := 768) rfl (by omega)), if_pos (own_c (n := 879) rfl (by omega)), own_g91, if_pos (own_f (n := 894) rfl (by omega))]
theorem own_cell17 (c : Int32) (h1 : 895 ≤ c.toInt) (h2 : c.toInt ≤ 8191) : own_n0 c = 1 ∧ own_g0 c = 0 := by
  refine ⟨?_, ?_⟩
  · rw [own_n0, if_neg (own_b (n := 97) rfl (by omega)), if_pos (own_c (n := 122) rfl (by omega)), own_n12, if_neg (own_b (n := 65) rfl (by omega)), if_pos (own_c (n := 90) rfl (by omega)), own_n24, if_neg (own_e (n := 95) rfl (by omega)), if_neg (own_e (n := 58) rfl (by omega)), if_neg (own_b (n := 192) rfl (by omega)), if_pos (own_c (n := 214) rfl (by omega)), own_n50, if_neg (own_b (n := 216) rfl (by omega)), if_pos (own_c (n := 246) rfl (by omega)), own_n64, if_neg (own_b (n := 248) rfl (by omega)), if_pos (own_c (n := 767) rfl (by omega)), own_n78, if_neg (own_b (n := 880) rfl (by omega)), if_pos (own_c (n := 893) rfl (by omega)), own_n92, if_neg (own_b (n := 895) rfl (by omega)), if_neg (own_d (n := 8191) rfl (by omega)), own_n197]
  · rw [own_g0, if_neg (own_b (n := 58) rfl (by omega)), own_g8, if_neg (own_b (n := 59) rfl (by omega)), if_pos (own_c (n := 64) rfl (by omega)), own_g22, if_neg (own_b (n := 91) rfl (by omega)), if_pos (own_c (n := 94) rfl (by omega)), own_g36, if_neg (own_e (n := 96) rfl (by omega)), own_g44, if_neg (own_b (n := 123) rfl (by omega)), if_pos (own_c (n := 191) rfl (by omega)), own_g59, if_neg (own_e (n := 215) rfl (by omega)), if_neg (own_e (n := 247) rfl (by omega)), own_g75, if_neg (own_b (n := 768) rfl (by omega)), if_pos (own_c (n := 879) rfl (by omega)), own_g91, if_neg (own_e (n := 894) rfl (by omega)), own_g100, if_pos (own_a (n := 8192) rfl (by omega)), own_g116, if_pos (own_a (n := 8206) rfl (by omega)), own_g132, if_pos (own_a (n := 8592) rfl (by omega)), own_g148, if_pos (own_a (n := 12272) rfl (by omega)), own_g164, if_pos (own_a (n := 55296) rfl (by omega)), own_g178, if_pos (own_a (n := 64976) rfl (by omega)), own_g192, if_pos (own_a (n := 65534) rfl (by omega)), own_g206, if_neg (own_d (n := 983039) rfl (by omega)), own_g214]
theorem own_cell18 (c : Int32) (h1 : 8192 ≤ c.toInt) (h2 : c.toInt ≤ 8203) : own_n0 c = 0 ∧ own_g0 c = 1 := by
  refine ⟨?_, ?_⟩
  · rw [own_n0, if_neg (own_b (n := 97) rfl (by omega)), if_pos (own_c (n := 122) rfl (by omega)), own_n12, if_neg (own_b (n := 65) rfl (by omega)), if_pos (own_c (n := 90) rfl (by omega)), own_n24, if_neg (own_e (n := 95) rfl (by omega)), if_neg (own_e (n := 58) rfl (by omega)), if_neg (own_b (n := 192) rfl (by omega)), if_pos (own_c (n := 214) rfl (by omega)), own_n50, if_neg (own_b (n := 216) rfl (by omega)), if_pos (own_c (n := 246) rfl (by omega)), own_n64, if_neg (own_b (n := 248) rfl (by omega)), if_pos (own_c (n := 767) rfl (by omega)), own_n78, if_neg (own_b (n := 880) rfl (by omega)), if_pos (own_c (n := 893) rfl (by omega)), own_n92, if_neg (own_b (n := 895) rfl (by omega)), if_pos (own_c (n := 8191) rfl (by omega)), own_n106, if_pos (own_a (n := 8204) rfl (by omega)), own_n120, if_pos (own_a (n := 8304) rfl (by omega)), own_n134, if_pos (own_a (n := 11264) rfl (by omega)), own_n148, if_pos (own_a (n := 12289) rfl (by omega)), own_n161, if_pos (own_a (n := 63744) rfl (by omega)), own_n173, if_pos (own_a (n := 65008) rfl (by omega)), own_n185, if_pos (own_a (n := 65536) rfl (by omega)), own_n201]
  · rw [own_g0, if_neg (own_b (n := 58) rfl (by omega)), own_g8, if_neg (own_b (n := 59) rfl (by omega)), if_pos (own_c (n := 64) rfl (by omega)), own_g22, if_neg (own_b (n := 91) rfl (by omega)), if_pos (own_c (n := 94) rfl (by omega)), own_g36, if_neg (own_e (n := 96) rfl (by omega)), own_g44, if_neg (own_b (n := 123) rfl (by omega)), if_pos (own_c (n := 191) rfl (by omega)), own_g59, if_neg (own_e (n := 215) rfl (by omega)), if_neg (own_e (n := 247) rfl (by omega)), own_g75, if_neg (own_b (n := 768) rfl (by omega)), if_pos (own_c (n := 879) rfl (by omega)), own_g91, if_neg (own_e (n := 894) rfl (by omega)), own_g100, if_neg (own_b (n := 8192) rfl (by omega)), if_neg (own_d (n := 8203) rfl (by omega))]
theorem own_cell19 (c : Int32) (h1 : 8204 ≤ c.toInt) (h2 : c.toInt ≤ 8205) : own_n0 c = 1 ∧ own_g0 c = 0 := by
  refine ⟨?_, ?_⟩
  · rw [own_n0, if_neg (own_b (n := 97) rfl (by omega)), if_pos (own_c (n := 122) rfl (by omega)), own_n12, if_neg (own_b (n := 65) rfl (by omega)), if_pos (own_c (n := 90) rfl (by omega)), own_n24, if_neg (own_e (n := 95) rfl (by omega)), if_neg (own_e (n := 58) rfl (by omega)), if_neg (own_b (n := 192) rfl (by omega)), if_pos (own_c (n := 214) rfl (by omega)), own_n50, if_neg (own_b (n := 216) rfl (by omega)), if_pos (own_c (n := 246) rfl (by omega)), own_n64, if_neg (own_b (n := 248) rfl (by omega)), if_pos (own_c (n := 767) rfl (by omega)), own_n78, if_neg (own_b (n := 880) rfl (by omega)), if_pos (own_c (n := 893) rfl (by omega)), own_n92, if_neg (own_b (n := 895) rfl (by omega)), if_pos (own_c (n := 8191) rfl (by omega)), own_n106, if_neg (own_b (n := 8204) rfl (by omega)), if_neg (own_d (n := 8205) rfl (by omega)), own_n197]
  · rw [own_g0, if_neg (own_b (n := 58) rfl (by omega)), own_g8, if_neg (own_b (n := 59) rfl (by omega)), if_pos (own_c (n := 64) rfl (by omega)), own_g22, if_neg (own_b (n := 91) rfl (by omega)), if_pos (own_c (n := 94) rfl (by omega)), own_g36, if_neg (own_e (n := 96) rfl (by omega)), own_g44, if_neg (own_b (n := 123) rfl (by omega)), if_pos (own_c (n := 191) rfl (by omega)), own_g59, if_neg (own_e (n := 215) rfl (by omega)), if_neg (own_e (n := 247) rfl (by omega)), own_g75, if_neg (own_b (n := 768) rfl (by omega)), if_pos (own_c (n := 879) rfl (by omega)), own_g91, if_neg (own_e (n := 894) rfl (by omega)), own_g100, if_neg (own_b (n := 8192) rfl (by omega)), if_pos (own_c (n := 8203) rfl (by omega)), own_g116, if_pos (own_a (n := 8206) rfl (by omega)), own_g132, if_pos (own_a (n := 8592) rfl (by omega)), own_g148, if_pos (own_a (n := 12272) rfl (by omega)), own_g164, if_pos (own_a (n := 55296) rfl (by omega)), own_g178, if_pos (own_a (n := 64976) rfl (by omega)), own_g192, if_pos (own_a (n := 65534) rfl (by omega)), own_g206, if_neg (own_d (n := 983039) rfl (by omega)), own_g214]
theorem own_cell20 (c : Int32) (h1 : 8206 ≤ c.toInt) (h2 : c.toInt ≤ 8303) : own_n0 c = 0 ∧ own_g0 c = 1 := by
  refine ⟨?_, ?_⟩
  · rw [own_n0, if_neg (own_b (n := 97) rfl (by omega)), if_pos (own_c (n := 122) rfl (by omega)), own_n12, if_neg (own_b (n := 65) rfl (by omega)), if_pos (own_c (n := 90) rfl (by omega)), own_n24, if_neg (own_e (n := 95) rfl (by omega)), if_neg (own_e (n := 58) rfl (by omega)), if_neg (own_b (n := 192) rfl (by omega)), if_pos (own_c (n := 214) rfl (by omega)), own_n50, if_neg (own_b (n := 216) rfl (by omega)), if_pos (own_c (n := 246) rfl (by omega)), own_n64, if_neg (own_b (n := 248) rfl (by omega)), if_pos (own_c (n := 767) rfl (by omega)), own_n78, if_neg (own_b (n := 880) rfl (by omega)), if_pos (own_c (n := 893) rfl (by omega)), own_n92, if_neg (own_b (n := 895) rfl (by omega)), if_pos (own_c (n := 8191) rfl (by omega)), own_n106, if_neg (own_b (n := 8204) rfl (by omega)), if_pos (own_c (n := 8205) rfl (by omega)), own_n120, if_pos (own_a (n := 8304) rfl (by omega)), own_n134, if_pos (own_a (n := 11264) rfl (by omega)), own_n148, if_pos (own_a (n := 12289) rfl (by omega)), own_n161, if_pos (own_a (n := 63744) rfl (by omega)), own_n173, if_pos (own_a (n := 65008) rfl (by omega)), own_n185, if_pos (own_a (n := 65536) rfl (by omega)), own_n201]
  · rw [own_g0, if_neg (own_b (n := 58) rfl (by omega)), own_g8, if_neg (own_b (n := 59) rfl (by omega)), if_pos (own_c (n := 64) rfl (by omega)), own_g22, if_neg (own_b (n := 91) rfl (by omega)), if_pos (own_c (n := 94) rfl (by omega)), own_g36, if_neg (own_e (n := 96) rfl (by omega)), own_g44, if_neg (own_b (n := 123) rfl (by omega)), if_pos (own_c (n := 191) rfl (by omega)), own_g59, if_neg (own_e (n := 215) rfl (by omega)), if_neg (own_e (n := 247) rfl (by omega)), own_g75, if_neg (own_b (n := 768) rfl (by omega)), if_pos (own_c (n := 879) rfl (by omega)), own_g91, if_neg (own_e (n := 894) rfl (by omega)), own_g100, if_neg (own_b (n := 8192) rfl (by omega)), if_pos (own_c (n := 8203) rfl (by omega)), own_g116, if_neg (own_b (n := 8206) rfl (by omega)), if_neg (own_d (n := 8303) rfl (by omega))]
theorem own_cell21 (c : Int32) (h1 : 8304 ≤ c.toInt) (h2 : c.toInt ≤ 8591) : own_n0 c = 1 ∧ own_g0 c = 0 := by
  refine ⟨?_, ?_⟩
  · rw [own_n0, if_neg (own_b (n := 97) rfl (by omega)), if_pos (own_c (n := 122) rfl (by omega)), own_n12, if_neg (own_b (n := 65) rfl (by omega)), if_pos (own_c (n := 90) rfl (by omega)), own_n24, if_neg (own_e (n := 95) rfl (by omega)), if_neg (own_e (n := 58) rfl (by omega)), if_neg (own_b (n := 192) rfl (by omega)), if_pos (own_c (n := 214) rfl (by omega)), own_n50, if_neg (own_b (n := 216) rfl (by omega)), if_pos (own_c (n := 246) rfl (by omega)), own_n64, if_neg (own_b (n := 248) rfl (by omega)), if_pos (own_c (n := 767) rfl (by omega)), own_n78, if_neg (own_b (n := 880) rfl (by omega)), if_pos (own_c (n := 893) rfl (by omega)), own_n92, if_neg (own_b (n := 895) rfl (by omega)), if_pos (own_c (n := 8191) rfl (by omega)), own_n106, if_neg (own_b (n := 8204) rfl (by omega)), if_pos (own_c (n := 8205) rfl (by omega)), own_n120, if_neg (own_b (n := 8304) rfl (by omega)), if_neg (own_d (n := 8591) rfl (by omega)), own_n197]
  · rw [own_g0, if_neg (own_b (n := 58) rfl (by omega)), own_g8, if_neg (own_b (n := 59) rfl (by omega)), if_pos (own_c (n := 64) rfl (by omega)), own_g22, if_neg (own_b (n := 91) rfl (by omega)), if_pos (own_c (n := 94) rfl (by omega)), own_g36, if_neg (own_e (n := 96) rfl (by omega)), own_g44, if_neg (own_b (n := 123) rfl (by omega)), if_pos (own_c (n := 191) rfl (by omega)), own_g59, if_neg (own_e (n := 215) rfl (by omega)), if_neg (own_e (n := 247) rfl (by omega)), own_g75, if_neg (own_b (n := 768) rfl (by omega)), if_pos (own_c (n := 879) rfl (by omega)), own_g91, if_neg (own_e (n := 894) rfl (by omega)), own_g100, if_neg (own_b (n := 8192) rfl (by omega)), if_pos (own_c (n := 8203) rfl (by omega)), own_g116, if_neg (own_b (n := 8206) rfl (by omega)), if_pos (own_c (n := 8303) rfl (by omega)), own_g132, if_pos (own_a (n := 8592) rfl (by omega)), own_g148, if_pos (own_a (n := 12272) rfl (by omega)), own_g164, if_pos (own_a (n := 55296) rfl (by omega)), own_g178, if_pos (own_a (n := 64976) rfl (by omega)), own_g192, if_pos (own_a (n := 65534) rfl (by omega)), own_g206, if_neg (own_d (n := 983039) rfl (by omega)), own_g214]
theorem own_cell22 (c : Int32) (h1 : 8592 ≤ c.toInt) (h2 : c.toInt ≤ 11263) : own_n0 c = 0 ∧ own_g0 c = 1 := by
  refine ⟨?_, ?_⟩
  · rw [own_n0, if_neg (own_b (n := 97) rfl (by omega)), if_pos (own_c (n := 122) rfl (by omega)), own_n12, if_neg (own_b (n := 65) rfl (by omega)), if_pos (own_c (n := 90) rfl (by omega)), own_n24, if_neg (own_e (n := 95) rfl (by omega)), if_neg (own_e (n := 58) rfl (by omega)), if_neg (own_b (n := 192) rfl (by omega)), if_pos (own_c (n := 214) rfl (by omega)), own_n50, if_neg (own_b (n := 216) rfl (by omega)), if_pos (own_c (n := 246) rfl (by omega)), own_n64, if_neg (own_b (n := 248) rfl (by omega)), if_pos (own_c (n := 767) rfl (by omega)), own_n78, if_neg (own_b (n := 880) rfl (by omega)), if_pos (own_c (n := 893) rfl (by omega)), own_n92, if_neg (own_b (n := 895) rfl (by omega)), if_pos (own_c (n := 8191) rfl (by omega)), own_n106, if_neg (own_b (n := 8204) rfl (by omega)), if_pos (own_c (n := 8205) rfl (by omega)), own_n120, if_neg (own_b (n := 8304) rfl (by omega)), if_pos (own_c (n := 8591) rfl (by omega)), own_n134, if_pos (own_a (n := 11264) rfl (by omega)), own_n148, if_pos (own_a (n := 12289) rfl (by omega)), own_n161, if_pos (own_a (n := 63744) rfl (by omega)), own_n173, if_pos (own_a (n := 65008) rfl (by omega)), own_n185, if_pos (own_a (n := 65536) rfl (by omega)), own_n201]
  · rw [own_g0, if_neg (own_b (n := 58) rfl (by omega)), own_g8, if_neg (own_b (n := 59) rfl (by omega)), if_pos (own_c (n := 64) rfl (by omega)), own_g22, if_neg (own_b (n := 91) rfl (by omega)), if_pos (own_c (n := 94) rfl (by omega)), own_g36, if_neg (own_e (n := 96) rfl (by omega)), own_g44, if_neg (own_b (n := 123) rfl (by omega)), if_pos (own_c (n := 191) rfl (by omega)), own_g59, if_neg (own_e (n := 215) rfl (by omega)), if_neg (own_e (n := 247) rfl (by omega)), own_g75, if_neg (own_b (n := 768) rfl (by omega)), if_pos (own_c (n := 879) rfl (by omega)), own_g91, if_neg (own_e (n := 894) rfl (by omega)), own_g100, if_neg (own_b (n := 8192) rfl (by omega)), if_pos (own_c (n := 8203) rfl (by omega)), own_g116, if_neg (own_b (n := 8206) rfl (by omega)), if_pos (own_c (n := 8303) rfl (by omega)), own_g132, if_neg (own_b (n := 8592) rfl (by omega)), if_neg (own_d (n := 11263) rfl (by omega))]
theorem own_cell23 (c : Int32) (h1 : 11264 ≤ c.toInt) (h2 : c.toInt ≤ 12271) : own_n0 c = 1 ∧ own_g0 c = 0 := by
  refine ⟨?_, ?_⟩
  · rw [own_n0, if_neg (own_b (n := 97) rfl (by omega)), if_pos (own_c (n := 122) rfl (by omega)), own_n12, if_neg (own_b (n := 65) rfl (by omega)), if_pos (own_c (n := 90) rfl (by omega)), own_n24, if_neg (own_e (n := 95) rfl (by omega)), if_neg (own_e (n := 58) rfl (by omega)), if_neg (own_b (n := 192) rfl (by omega)), if_pos (own_c (n := 214) rfl (by omega)), own_n50, if_neg (own_b (n := 216) rfl (by omega)), if_pos (own_c (n := 246) rfl (by omega)), own_n64, if_neg (own_b (n := 248) rfl (by omega)), if_pos (own_c (n := 767) rfl (by omega)), own_n78, if_neg (own_b (n := 880) rfl (by omega)), if_pos (own_c (n := 893) rfl (by omega)), own_n92, if_neg (own_b (n := 895) rfl (by omega)), if_pos (own_c (n := 8191) rfl (by omega)), own_n106, if_neg (own_b (n := 8204) rfl (by omega)), if_pos (own_c (n := 8205) rfl (by omega)), own_n120, if_neg (own_b (n := 8304) rfl (by omega)), if_pos (own_c (n := 8591) rfl (by omega)), own_n134, if_neg (own_b (n := 11264) rfl (by omega)), if_neg (own_d (n := 12271) rfl (by omega)), own_n197]
  · rw [own_g0, if_neg (own_b (n := 58) rfl (by omega)), own_g8, if_neg (own_b (n := 59) rfl (by omega)), if_pos (own_c (n := 64) rfl (by omega)), own_g22, if_neg (own_b (n := 91) rfl (by omega)), if_pos (own_c (n := 94) rfl (by omega)), own_g36, if_neg (own_e (n := 96) rfl (by omega)), own_g44, if_neg (own_b (n := 123) rfl (by omega)), if_pos (own_c (n := 191) rfl (by omega)), own_g59, if_neg (own_e (n := 215) rfl (by omega)), if_neg (own_e (n := 247) rfl (by omega)), own_g75, if_neg (own_b (n := 768) rfl (by omega)), if_pos (own_c (n := 879) rfl (by omega)), own_g91, if_neg (own_e (n := 894) rfl (by omega)), own_g100, if_neg (own_b (n := 8192) rfl (by omega)), if_pos (own_c (n := 8203) rfl (by omega)), own_g116, if_neg (own_b (n := 8206) rfl (by omega)), if_pos (own_c (n := 8303) rfl (by omega)), own_g132, if_neg (own_b (n := 8592) rfl (by omega)), if_pos (own_c (n := 11263) rfl (by omega)), own_g148, if_pos (own_a (n := 12272) rfl (by omega)), own_g164, if_pos (own_a (n := 55296) rfl (by omega)), own_g178, if_pos (own_a (n := 64976) rfl (by omega)), own_g192, if_pos (own_a (n := 65534) rfl (by omega)), own_g206, if_neg (own_d (n := 983039) rfl (by omega)), own_g214]
theorem own_cell24 (c : Int32) (h1 : 12272 ≤ c.toInt) (h2 : c.toInt ≤ 12288) : own_n0 c = 0 ∧ own_g0 c = 1 := by
  refine ⟨?_, ?_⟩
  · rw [own_n0, if_neg (own_b (n := 97) rfl (by omega)), if_pos (own_c (n := 122) rfl (by omega)), own_n12, if_neg (own_b (n := 65) rfl (by omega)), if_pos (own_c (n := 90) rfl (by omega)), own_n24, if_neg (own_e (n := 95) rfl (by omega)), if_neg (own_e (n := 58) rfl (by omega)), if_neg (own_b (n := 192) rfl (by omega)), if_pos (own_c (n := 214) rfl (by omega)), own_n50, if_neg (own_b (n := 216) rfl (by omega)), if_pos (own_c (n := 246) rfl (by omega)), own_n64, if_neg (own_b (n := 248) rfl (by omega)), if_pos (own_c (n := 767) rfl (by omega)), own_n78, if_neg (own_b (n := 880) rfl (by omega)), if_pos (own_c (n := 893) rfl (by omega)), own_n92, if_neg (own_b (n := 895) rfl (by omega)), if_pos (own_c (n := 8191) rfl (by omega)), own_n106, if_neg (own_b (n := 8204) rfl (by omega)), if_pos (own_c (n := 8205) rfl (by omega)), own_n120, if_neg (own_b (n := 8304) rfl (by omega)), if_pos (own_c (n := 8591) rfl (by omega)), own_n134, if_neg (own_b (n := 11264) rfl (by omega)), if_pos (own_c (n := 12271) rfl (by omega)), own_n148, if_pos (own_a (n := 12289) rfl (by omega)), own_n161, if_pos (own_a (n := 63744) rfl (by omega)), own_n173, if_pos (own_a (n := 65008) rfl (by omega)), own_n185, if_pos (own_a (n := 65536) rfl (by omega)), own_n201]
  · rw [own_g0, if_neg (own_b (n := 58) rfl (by omega)), own_g8, if_neg (own_b (n := 59) rfl (by omega)), if_pos (own_c (n := 64) rfl (by omega)), own_g22, if_neg (own_b (n := 91) rfl (by omega)), if_pos (own_c (n := 94) rfl (by omega)), own_g36, if_neg (own_e (n := 96) rfl (by omega)), own_g44, if_neg (own_b (n := 123) rfl (by omega)), if_pos (own_c (n := 191) rfl (by omega)), own_g59, if_neg (own_e (n := 215) rfl (by omega)), if_neg (own_e (n := 247) rfl (by omega)), own_g75, if_neg (own_b (n := 768) rfl (by omega)), if_pos (own_c (n := 879) rfl (by omega)), own_g91, if_neg (own_e (n := 894) rfl (by omega)), own_g100, if_neg (own_b (n := 8192) rfl (by omega)), if_pos (own_c (n := 8203) rfl (by omega)), own_g116, if_neg (own_b (n := 8206) rfl (by omega)), if_pos (own_c (n := 8303) rfl (by omega)), own_g132, if_neg (own_b (n := 8592) rfl (by omega)), if_pos (own_c (n := 11263) rfl (by omega)), own_g148, if_neg (own_b (n := 12272) rfl (by omega)), if_neg (own_d (n := 12288) rfl (by omega))]
theorem own_cell25 (c : Int32) (h1 : 12289 ≤ c.toInt) (h2 : c.toInt ≤ 55295) : own_n0 c = 1 ∧ own_g0 c = 0 := by
  refine ⟨?_, ?_⟩
  · rw [own_n0, if_neg (own_b (n := 97) rfl (by omega)), if_pos (own_c (n := 122) rfl (by omega)), own_n12, if_neg (own_b (n := 65) rfl (by omega)), if_pos (own_c (n := 90) rfl (by omega)), own_n24, if_neg (own_e (n := 95) rfl (by omega)), if_neg (own_e (n := 58) rfl (by omega)), if_neg (own_b (n := 192) rfl (by omega)), if_pos (own_c (n := 214) rfl (by omega)), own_n50, if_neg (own_b (n := 216) rfl (by omega)), if_pos (own_c (n := 246) rfl (by omega)), own_n64, if_neg (own_b (n := 248) rfl (by omega)), if_pos (own_c (n := 767) rfl (by omega)), own_n78, if_neg (own_b (n := 880) rfl (by omega)), if_pos (own_c (n := 893) rfl (by omega)), own_n92, if_neg (own_b (n := 895) rfl (by omega)), if_pos (own_c (n := 8191) rfl (by omega)), own_n106, if_neg (own_b (n := 8204) rfl (by omega)), if_pos (own_c (n := 8205) rfl (by omega)), own_n120, if_neg (own_b (n := 8304) rfl (by omega)), if_pos (own_c (n := 8591) rfl (by omega)), own_n134, if_neg (own_b (n := 11264) rfl (by omega)), if_pos (own_c (n := 12271) rfl (by omega)), own_n148, if_neg (own_b (n := 12289) rfl (by omega)), if_neg (own_d (n := 55295) rfl (by omega)), own_n197]
  · rw [own_g0, if_neg (own_b (n := 58) rfl (by omega)), own_g8, if_neg (own_b (n := 59) rfl (by omega)), if_pos (own_c (n := 64) rfl (by omega)), own_g22, if_neg (own_b (n := 91) rfl (by omega)), if_pos (own_c (n := 94) rfl (by omega)), own_g36, if_neg (own_e (n := 96) rfl (by omega)), own_g44, if_neg (own_b (n := 123) rfl (by omega)), if_pos (own_c (n := 191) rfl (by omega)), own_g59, if_neg (own_e (n := 215) rfl (by omega)), if_neg (own_e (n := 247) rfl (by omega)), own_g75, if_neg (own_b (n := 768) rfl (by omega)), if_pos (own_c (n := 879) rfl (by omega)), own_g91, if_neg (own_e (n := 894) rfl (by omega)), own_g100, if_neg (own_b (n := 8192) rfl (by omega)), if_pos (own_c (n := 8203) rfl (by omega)), own_g116, if_neg (own_b (n := 8206) rfl (by omega)), if_pos (own_c (n := 8303) rfl (by omega)), own_g132, if_neg (own_b (n := 8592) rfl (by omega)), if_pos (own_c (n := 11263) rfl (by omega)), own_g148, if_neg (own_b (n := 12272) rfl (by omega)), if_pos (own_c (n := 12288) rfl (by omega)), own_g164, if_pos (own_a (n := 55296) rfl (by omega)), own_g178, if_pos (own_a (n := 64976) rfl (by omega)), own_g192, if_pos (own_a (n := 65534) rfl (by omega)), own_g206, if_neg (own_d (n := 983039) rfl (by omega)), own_g214]
theorem own_cell26 (c : Int32) (h1 : 55296 ≤ c.toInt) (h2 : c.toInt ≤ 63743) : own_n0 c = 0 ∧ own_g0 c = 1 := by
  refine ⟨?_, ?_⟩
  · rw [own_n0, if_neg (own_b (n := 97) rfl (by omega)), if_pos (own_c (n := 122) rfl (by omega)), own_n12, if_neg (own_b (n := 65) rfl (by omega)), if_pos (own_c (n := 90) rfl (by omega)), own_n24, if_neg (own_e (n := 95) rfl (by omega)), if_neg (own_e (n := 58) rfl (by omega)), if_neg (own_b (n := 192) rfl (by omega)), if_pos (own_c (n := 214) rfl (by omega)), own_n50, if_neg (own_b (n := 216) rfl (by omega)), if_pos (own_c (n := 246) rfl (by omega)), own_n64, if_neg (own_b (n := 248) rfl (by omega)), if_pos (own_c (n := 767) rfl (by omega)), own_n78, if_neg (own_b (n := 880) rfl (by omega)), if_pos (own_c (n := 893) rfl (by omega)), own_n92, if_neg (own_b (n := 895) rfl (by omega)), if_pos (own_c (n := 8191) rfl (by omega)), own_n106, if_neg (own_b (n := 8204) rfl (by omega)), if_pos (own_c (n := 8205) rfl (by omega)), own_n120, if_neg (own_b (n := 8304) rfl (by omega)), if_pos (own_c (n := 8591) rfl (by omega)), own_n134, if_neg (own_b (n := 11264) rfl (by omega)), if_pos (own_c (n := 12271) rfl (by omega)), own_n148, if_neg (own_b (n := 12289) rfl (by omega)), if_pos (own_c (n := 55295) rfl (by omega)), own_n161, if_pos (own_a (n := 63744) rfl (by omega)), own_n173, if_pos (own_a (n := 65008) rfl (by omega)), own_n185, if_pos (own_a (n := 65536) rfl (by omega)), own_n201]
  · rw [own_g0, if_neg (own_b (n := 58) rfl (by omega)), own_g8, if_neg (own_b (n := 59) rfl (by omega)), if_pos (own_c (n := 64) rfl (by omega)), own_g22, if_neg (own_b (n := 91) rfl (by omega)), if_pos (own_c (n := 94) rfl (by omega)), own_g36, if_neg (own_e (n := 96) rfl (by omega)), own_g44, if_neg (own_b (n := 123) rfl (by omega)), if_pos (own_c (n := 191) rfl (by omega)), own_g59, if_neg (own_e (n := 215) rfl (by omega)), if_neg (own_e (n := 247) rfl (by omega)), own_g75, if_neg (own_b (n := 768) rfl (by omega)), if_pos (own_c (n := 879) rfl (by omega)), own_g91, if_neg (own_e (n := 894) rfl (by omega)), own_g100, if_neg (own_b (n := 8192) rfl (by omega)), if_pos (own_c (n := 8203) rfl (by omega)), own_g116, if_neg (own_b (n := 8206) rfl (by omega)), if_pos (own_c (n := 8303) rfl (by omega)), own_g132, if_neg (own_b (n := 8592) rfl (by omega)), if_pos (own_c (n := 11263) rfl (by omega)), own_g148, if_neg (own_b (n := 12272) rfl (by omega)), if_pos (own_c (n := 12288) rfl (by omega)), own_g164, if_neg (own_b (n := 55296) rfl (by omega)), if_neg (own_d (n := 63743) rfl (by omega))]
theorem own_cell27 (c : Int32) (h1 : 63744 ≤ c.toInt) (h2 : c.toInt ≤ 64975) : own_n0 c = 1 ∧ own_g0 c = 0 := by
  refine ⟨?_, ?_⟩
  · rw [own_n0, if_neg (own_b (n := 97) rfl (by omega)), if_pos (own_c (n := 122) rfl (by omega)), own_n12, if_neg (own_b (n := 65) rfl (by omega)), if_pos (own_c (n := 90) rfl (by omega)), own_n24, if_neg (own_e (n := 95) rfl (by omega)), if_neg (own_e (n := 58) rfl (by omega)), if_neg (own_b (n := 192) rfl (by omega)), if_pos (own_c (n := 214) rfl (by omega)), own_n50, if_neg (own_b (n := 216) rfl (by omega)), if_pos (own_c (n := 246) rfl (by omega)), own_n64, if_neg (own_b (n := 248) rfl (by omega)), if_pos (own_c (n := 767) rfl (by omega)), own_n78, if_neg (own_b (n := 880) rfl (by omega)), if_pos (own_c (n := 893) rfl (by omega)), own_n92, if_neg (own_b (n := 895) rfl (by omega)), if_pos (own_c (n := 8191) rfl (by omega)), own_n106, if_neg (own_b (n := 8204) rfl (by omega)), if_pos (own_c (n := 8205) rfl (by omega)), own_n120, if_neg (own_b (n := 8304) rfl (by omega)), if_pos (own_c (n := 8591) rfl (by omega)), own_n134, if_neg (own_b (n := 11264) rfl (by omega)), if_pos (own_c (n := 12271) rfl (by omega)), own_n148, if_neg (own_b (n := 12289) rfl (by omega)), if_pos (own_c (n := 55295) rfl (by omega)), own_n161, if_neg (own_b (n := 63744) rfl (by omega)), if_neg (own_d (n := 64975) rfl (by omega)), own_n197]
  · rw [own_g0, if_neg (own_b (n := 58) rfl (by omega)), own_g8, if_neg (own_b (n := 59) rfl (by omega)), if_pos (own_c (n := 64) rfl (by omega)), own_g22, if_neg (own_b (n := 91) rfl (by omega)), if_pos (own_c (n := 94) rfl (by omega)), own_g36, if_neg (own_e (n := 96) rfl (by omega)), own_g44, if_neg (own_b (n := 123) rfl (by omega)), if_pos (own_c (n := 191) rfl (by omega)), own_g59, if_neg (own_e (n := 215) rfl (by omega)), if_neg (own_e (n := 247) rfl (by omega)), own_g75, if_neg (own_b (n := 768) rfl (by omega)), if_pos (own_c (n := 879) rfl (by omega)), own_g91, if_neg (own_e (n := 894) rfl (by omega)), own_g100, if_neg (own_b (n := 8192) rfl (by omega)), if_pos (own_c (n := 8203) rfl (by omega)), own_g116, if_neg (own_b (n := 8206) rfl (by omega)), if_pos (own_c (n := 8303) rfl (by omega)), own_g132, if_neg (own_b (n := 8592) rfl (by omega)), if_pos (own_c (n := 11263) rfl (by omega)), own_g148, if_neg (own_b (n := 12272) rfl (by omega)), if_pos (own_c (n := 12288) rfl (by omega)), own_g164, if_neg (own_b (n := 55296) rfl (by omega)), if_pos (own_c (n := 63743) rfl (by omega)), own_g178, if_pos (own_a (n := 64976) rfl (by omega)), own_g192, if_pos (own_a (n := 65534) rfl (by omega)), own_g206, if_neg (own_d (n := 983039) rfl (by omega)), own_g214]
theorem own_cell28 (c : Int32) (h1 : 64976 ≤ c.toInt) (h2 : c.toInt ≤ 65007) : own_n0 c = 0 ∧ own_g0 c = 1 := by
  refine ⟨?_, ?_⟩
  · rw [own_n0, if_neg (own_b (n := 97) rfl (by omega)), if_pos (own_c (n := 122) rfl (by omega)), own_n12, if_neg (own_b (n := 65) rfl (by omega)), if_pos (own_c (n := 90) rfl (by omega)), own_n24, if_neg (own_e (n := 95) rfl (by omega)), if_neg (own_e (n := 58) rfl (by omega)), if_neg (own_b (n := 192) rfl (by omega)), if_pos (own_c (n := 214) rfl (by omega)), own_n50, if_neg (own_b (n := 216) rfl (by omega)), if_pos (own_c (n := 246) rfl (by omega)), own_n64, if_neg (own_b (n := 248) rfl (by omega)), if_pos (own_c (n := 767) rfl (by omega)), own_n78, if_neg (own_b (n := 880) rfl (by omega)), if_pos (own_c (n := 893) rfl (by omega)), own_n92, if_neg (own_b (n := 895) rfl (by omega)), if_pos (own_c (n := 8191) rfl (by omega)), own_n106, if_neg (own_b (n := 8204) rfl (by omega)), if_pos (own_c (n := 8205) rfl (by omega)), own_n120, if_neg (own_b (n := 8304) rfl (by omega)), if_pos (own_c (n := 8591) rfl (by omega)), own_n134, if_neg (own_b (n := 11264) rfl (by omega)), if_pos (own_c (n := 12271) rfl (by omega)), own_n148, if_neg (own_b (n := 12289) rfl (by omega)), if_pos (own_c (n := 55295) rfl (by omega)), own_n161, if_neg (own_b (n := 63744) rfl (by omega)), if_pos (own_c (n := 64975) rfl (by omega)), own_n173, if_pos (own_a (n := 65008) rfl (by omega)), own_n185, if_pos (own_a (n := 65536) rfl (by omega)), own_n201]
  · rw [own_g0, if_neg (own_b (n := 58) rfl (by omega)), own_g8, if_neg (own_b (n := 59) rfl (by omega)), if_pos (own_c (n := 64) rfl (by omega)), own_g22, if_neg (own_b (n := 91) rfl (by omega)), if_pos (own_c (n := 94) rfl (by omega)), own_g36, if_neg (own_e (n := 96) rfl (by omega)), own_g44, if_neg (own_b (n := 123) rfl (by omega)), if_pos (own_c (n := 191) rfl (by omega)), own_g59, if_neg (own_e (n := 215) rfl (by omega)), if_neg (own_e (n := 247) rfl (by omega)), own_g75, if_neg (own_b (n := 768) rfl (by omega)), if_pos (own_c (n := 879) rfl (by omega)), own_g91, if_neg (own_e (n := 894) rfl (by omega)), own_g100, if_neg (own_b (n := 8192) rfl (by omega)), if_pos (own_c (n := 8203) rfl (by omega)), own_g116, if_neg (own_b (n := 8206) rfl (by omega)), if_pos (own_c (n := 8303) rfl (by omega)), own_g132, if_neg (own_b (n := 8592) rfl (by omega)), if_pos (own_c (n := 11263) rfl (by omega)), own_g148, if_neg (own_b (n := 12272) rfl (by omega)), if_pos (own_c (n := 12288) rfl (by omega)), own_g164, if_neg (own_b (n := 55296) rfl (by omega)), if_pos (own_c (n := 63743) rfl (by omega)), own_g178, if_neg (own_b (n := 64976) rfl (by omega)), if_neg (own_d (n := 65007) rfl (by omega))]
theorem own_cell29 (c : Int32) (h1 : 65008 ≤ c.toInt) (h2 : c.toInt ≤ 65533) : own_n0 c = 1 ∧ own_g0 c = 0 := by
  refine ⟨?_, ?_⟩
  · rw [own_n0, if_neg (own_b (n := 97) rfl (by omega)), if_pos (own_c (n := 122) rfl (by omega)), own_n12, if_neg (own_b (n := 65) rfl (by omega)), if_pos (own_c (n := 90) rfl (by omega)), own_n24, if_neg (own_e (n := 95) rfl (by omega)), if_neg (own_e (n := 58) rfl (by omega)), if_neg (own_b (n := 192) rfl (by omega)), if_pos (own_c (n := 214) rfl (by omega)), own_n50, if_neg (own_b (n := 216) rfl (by omega)), if_pos (own_c (n := 246) rfl (by omega)), own_n64, if_neg (own_b (n := 248) rfl (by omega)), if_pos (own_c (n := 767) rfl (by omega)), own_n78, if_neg (own_b (n := 880) rfl (by omega)), if_pos (own_c (n := 893) rfl (by omega)), own_n92, if_neg (own_b (n := 895) rfl (by omega)), if_pos (own_c (n := 8191) rfl (by omega)), own_n106, if_neg (own_b (n := 8204) rfl (by omega)), if_pos (own_c (n := 8205) rfl (by omega)), own_n120, if_neg (own_b (n := 8304) rfl (by omega)), if_pos (own_c (n := 8591) rfl (by omega)), own_n134, if_neg (own_b (n := 11264) rfl (by omega)), if_pos (own_c (n := 12271) rfl (by omega)), own_n148, if_neg (own_b (n := 12289) rfl (by omega)), if_pos (own_c (n := 55295) rfl (by omega)), own_n161, if_neg (own_b (n := 63744) rfl (by omega)), if_pos (own_c (n := 64975) rfl (by omega)), own_n173, if_neg (own_b (n := 65008) rfl (by omega)), if_neg (own_d (n := 65533) rfl (by omega)), own_n197]
  · rw [own_g0, if_neg (own_b (n := 58) rfl (by omega)), own_g8, if_neg (own_b (n := 59) rfl (by omega)), if_pos (own_c (n := 64) rfl (by omega)), own_g22, if_neg (own_b (n := 91) rfl (by omega)), if_pos (own_c (n := 94) rfl (by omega)), own_g36, if_neg (own_e (n := 96) rfl (by omega)), own_g44, if_neg (own_b (n := 123) rfl (by omega)), if_pos (own_c (n := 191) rfl (by omega)), own_g59, if_neg (own_e (n := 215) rfl (by omega)), if_neg (own_e (n := 247) rfl (by omega)), own_g75, if_neg (own_b (n := 768) rfl (by omega)), if_pos (own_c (n := 879) rfl (by omega)), own_g91, if_neg (own_e (n := 894) rfl (by omega)), own_g100, if_neg (own_b (n := 8192) rfl (by omega)), if_pos (own_c (n := 8203) rfl (by omega)), own_g116, if_neg (own_b (n := 8206) rfl (by omega)), if_pos (own_c (n := 8303) rfl (by omega)), own_g132, if_neg (own_b (n := 8592) rfl (by omega)), if_pos (own_c (n := 11263) rfl (by omega)), own_g148, if_neg (own_b (n := 12272) rfl (by omega)), if_pos (own_c (n := 12288) rfl (by omega)), own_g164, if_neg (own_b (n := 55296) rfl (by omega)), if_pos (own_c (n := 63743) rfl (by omega)), own_g178, if_neg (own_b (n := 64976) rfl (by omega)), if_pos (own_c (n := 65007) rfl (by omega)), own_g192, if_pos (own_a (n := 65534) rfl (by omega)), own_g206, if_neg (own_d (n := 983039) rfl (by omega)), own_g214]
theorem own_cell30 (c : Int32) (h1 : 65534 ≤ c.toInt) (h2 : c.toInt ≤ 65535) : own_n0 c = 0 ∧ own_g0 c = 1 := by
  refine ⟨?_, ?_⟩
  · rw [own_n0, if_neg (own_b (n := 97) rfl (by omega)), if_pos (own_c (n := 122) rfl (by omega)), own_n12, if_neg (own_b (n := 65) rfl (by omega)), if_pos (own_c (n := 90) rfl (by omega)), own_n24, if_neg (own_e (n := 95) rfl (by omega)), if_neg (own_e (n := 58) rfl (by omega)), if_neg (own_b (n := 192) rfl (by omega)), if_pos (own_c (n := 214) rfl (by omega)), own_n50, if_neg (own_b (n := 216) rfl (by omega)), if_pos (own_c (n := 246) rfl (by omega)), own_n64, if_neg (own_b (n := 248) rfl (by omega)), if_pos (own_c (n := 767) rfl (by omega)), own_n78, if_neg (own_b (n := 880) rfl (by omega)), if_pos (own_c (n := 893) rfl (by omega)), own_n92, if_neg (own_b (n := 895) rfl (by omega)), if_pos (own_c (n := 8191) rfl (by omega)), own_n106, if_neg (own_b (n := 8204) rfl (by omega)), if_pos (own_c (n := 8205) rfl (by omega)), own_n120, if_neg (own_b (n := 8304) rfl (by omega)), if_pos (own_c (n := 8591) rfl (by omega)), own_n134, if_neg (own_b (n := 11264) rfl (by omega)), if_pos (own_c (n := 12271) rfl (by omega)), own_n148, if_neg (own_b (n := 12289) rfl (by omega)), if_pos (own_c (n := 55295) rfl (by omega)), own_n161, if_neg (own_b (n := 63744) rfl (by omega)), if_pos (own_c (n := 64975) rfl (by omega)), own_n173, if_neg (own_b (n := 65008) rfl (by omega)), if_pos (own_c (n := 65533) rfl (by omega)), own_n185, if_pos (own_a (n := 65536) rfl (by omega)), own_n201]
  · rw [own_g0, if_neg (own_b (n := 58) rfl (by omega)), own_g8, if_neg (own_b (n := 59) rfl (by omega)), if_pos (own_c (n := 64) rfl (by omega)), own_g22, if_neg (own_b (n := 91) rfl (by omega)), if_pos (own_c (n := 94) rfl (by omega)), own_g36, if_neg (own_e (n := 96) rfl (by omega)), own_g44, if_neg (own_b (n := 123) rfl (by omega)), if_pos (own_c (n := 191) rfl (by omega)), own_g59, if_neg (own_e (n := 215) rfl (by omega)), if_neg (own_e (n := 247) rfl (by omega)), own_g75, if_neg (own_b (n := 768) rfl (by omega)), if_pos (own_c (n := 879) rfl (by omega)), own_g91, if_neg (own_e (n := 894) rfl (by omega)), own_g100, if_neg (own_b (n := 8192) rfl (by omega)), if_pos (own_c (n := 8203) rfl (by omega)), own_g116, if_neg (own_b (n := 8206) rfl (by omega)), if_pos (own_c (n := 8303) rfl (by omega)), own_g132, if_neg (own_b (n := 8592) rfl (by omega)), if_pos (own_c (n := 11263) rfl (by omega)), own_g148, if_neg (own_b (n := 12272) rfl (by omega)), if_pos (own_c (n := 12288) rfl (by omega)), own_g164, if_neg (own_b (n := 55296) rfl (by omega)), if_pos (own_c (n := 63743) rfl (by omega)), own_g178, if_neg (own_b (n := 64976) rfl (by omega)), if_pos (own_c (n := 65007) rfl (by omega)), own_g192, if_neg (own_b (n := 65534) rfl (by omega)), if_neg (own_d (n := 65535) rfl (by omega))]
theorem own_cell31 (c : Int32) (h1 : 65536 ≤ c.toInt) (h2 : c.toInt ≤ 983039) : own_n0 c = 1 ∧ own_g0 c = 0 := by
  refine ⟨?_, ?_⟩
  · rw [own_n0, if_neg (own_b (n := 97) rfl (by omega)), if_pos (own_c (n := 122) rfl (by omega)), own_n12, if_neg (own_b (n := 65) rfl (by omega)), if_pos (own_c (n := 90) rfl (by omega)), own_n24, if_neg (own_e (n := 95) rfl (by omega)), if_neg (own_e (n := 58) rfl (by omega)), if_neg (own_b (n := 192) rfl (by omega)), if_pos (own_c (n := 214) rfl (by omega)), own_n50, if_neg (own_b (n := 216) rfl (by omega)), if_pos (own_c (n := 246) rfl (by omega)), own_n64, if_neg (own_b (n := 248) rfl (by omega)), if_pos (own_c (n := 767) rfl (by omega)), own_n78, if_neg (own_b (n := 880) rfl (by omega)), if_pos (own_c (n := 893) rfl (by omega)), own_n92, if_neg (own_b (n := 895) rfl (by omega)), if_pos (own_c (n := 8191) rfl (by omega)), own_n106, if_neg (own_b (n := 8204) rfl (by omega)), if_pos (own_c (n := 8205) rfl (by omega)), own_n120, if_neg (own_b (n := 8304) rfl (by omega)), if_pos (own_c (n := 8591) rfl (by omega)), own_n134, if_neg (own_b (n := 11264) rfl (by omega)), if_pos (own_c (n := 12271) rfl (by omega)), own_n148, if_neg (own_b (n := 12289) rfl (by omega)), if_pos (own_c (n := 55295) rfl (by omega)), own_n161, if_neg (own_b (n := 63744) rfl (by omega)), if_pos (own_c (n := 64975) rfl (by omega)), own_n173, if_neg (own_b (n := 65008) rfl (by omega)), if_pos (own_c (n := 65533) rfl (by omega)), own_n185, if_neg (own_b (n := 65536) rfl (by omega)), if_neg (own_d (n := 983039) rfl (by omega)), own_n197]
  · rw [own_g0, if_neg (own_b (n := 58) rfl (by omega)), own_g8, if_neg (own_b (n := 59) rfl (by omega)), if_pos (own_c (n := 64) rfl (by omega)), own_g22, if_neg (own_b (n := 91) rfl (by omega)), if_pos (own_c (n := 94) rfl (by omega)), own_g36, if_neg (own_e (n := 96) rfl (by omega)), own_g44, if_neg (own_b (n := 123) rfl (by omega)), if_pos (own_c (n := 191) rfl (by omega)), own_g59, if_neg (own_e (n := 215) rfl (by omega)), if_neg (own_e (n := 247) rfl (by omega)), own_g75, if_neg (own_b (n := 768) rfl (by omega)), if_pos (own_c (n := 879) rfl (by omega)), own_g91, if_neg (own_e (n := 894) rfl (by omega)), own_g100, if_neg (own_b (n := 8192) rfl (by omega)), if_pos (own_c (n := 8203) rfl (by omega)), own_g116, if_neg (own_b (n := 8206) rfl (by omega)), if_pos (own_c (n := 8303) rfl (by omega)), own_g132, if_neg (own_b (n := 8592) rfl (by omega)), if_pos (own_c (n := 11263) rfl (by omega)), own_g148, if_neg (own_b (n := 12272) rfl (by omega)), if_pos (own_c (n := 12288) rfl (by omega)), own_g164, if_neg (own_b (n := 55296) rfl (by omega)), if_pos (own_c (n := 63743) rfl (by omega)), own_g178, if_neg (own_b (n := 64976) rfl (by omega)), if_pos (own_c (n := 65007) rfl (by omega)), own_g192, if_neg (own_b (n := 65534) rfl (by omega)), if_pos (own_c (n := 65535) rfl (by omega)), own_g206, if_neg (own_d (n := 983039) rfl (by omega)), own_g214]
theorem own_cell32 (c : Int32) (h1 : 983040 ≤ c.toInt) : own_n0 c = 0 ∧ own_g0 c = 1 := by
  refine ⟨?_, ?_⟩
  · rw [own_n0, if_neg (own_b (n := 97) rfl (by omega)), if_pos (own_c (n := 122) rfl (by omega)), own_n12, if_neg (own_b (n := 65) rfl (by omega)), if_pos (own_c (n := 90) rfl (by omega)), own_n24, if_neg (own_e (n := 95) rfl (by omega)), if_neg (own_e (n := 58) rfl (by omega)), if_neg (own_b (n := 192) rfl (by omega)), if_pos (own_c (n := 214) rfl (by omega)), own_n50, if_neg (own_b (n := 216) rfl (by omega)), if_pos (own_c (n := 246) rfl (by omega)), own_n64, if_neg (own_b (n := 248) rfl (by omega)), if_pos (own_c (n := 767) rfl (by omega)), own_n78, if_neg (own_b (n := 880) rfl (by omega)), if_pos (own_c (n := 893) rfl (by omega)), own_n92, if_neg (own_b (n := 895) rfl (by omega)), if_pos (own_c (n := 8191) rfl (by omega)), own_n106, if_neg (own_b (n := 8204) rfl (by omega)), if_pos (own_c (n := 8205) rfl (by omega)), own_n120, if_neg (own_b (n := 8304) rfl (by omega)), if_pos (own_c (n := 8591) rfl (by omega)), own_n134, if_neg (own_b (n := 11264) rfl (by omega)), if_pos (own_c (n := 12271) rfl (by omega)), own_n148, if_neg (own_b (n := 12289) rfl (by omega)), if_pos (own_c (n := 55295) rfl (by omega)), own_n161, if_neg (own_b (n := 63744) rfl (by omega)), if_pos (own_c (n := 64975) rfl (by omega)), own_n173, if_neg (own_b (n := 65008) rfl (by omega)), if_pos (own_c (n := 65533) rfl (by omega)), own_n185, if_neg (own_b (n := 65536) rfl (by omega)), if_pos (own_c (n := 983039) rfl (by omega)), own_n201]
  · rw [own_g0, if_neg (own_b (n := 58) rfl (by omega)), own_g8, if_neg (own_b (n := 59) rfl (by omega)), if_pos (own_c (n := 64) rfl (by omega)), own_g22, if_neg (own_b (n := 91) rfl (by omega)), if_pos (own_c (n := 94) rfl (by omega)), own_g36, if_neg (own_e (n := 96) rfl (by omega)), own_g44, if_neg (own_b (n := 123) rfl (by omega)), if_pos (own_c (n := 191) rfl (by omega)), own_g59, if_neg (own_e (n := 215) rfl (by omega)), if_neg (own_e (n := 247) rfl (by omega)), own_g75, if_neg (own_b (n := 768) rfl (by omega)), if_pos (own_c (n := 879) rfl (by omega)), own_g91, if_neg (own_e (n := 894) rfl (by omega)), own_g100, if_neg (own_b (n := 8192) rfl (by omega)), if_pos (own_c (n := 8203) rfl (by omega)), own_g116, if_neg (own_b (n := 8206) rfl (by omega)), if_pos (own_c (n := 8303) rfl (by omega)), own_g132, if_neg (own_b (n := 8592) rfl (by omega)), if_pos (own_c (n := 11263) rfl (by omega)), own_g148, if_neg (own_b (n := 12272) rfl (by omega)), if_pos (own_c (n := 12288) rfl (by omega)), own_g164, if_neg (own_b (n := 55296) rfl (by omega)), if_pos (own_c (n := 63743) rfl (by omega)), own_g178, if_neg (own_b (n := 64976) rfl (by omega)), if_pos (own_c (n := 65007) rfl (by omega)), own_g192, if_neg (own_b (n := 65534) rfl (by omega)), if_pos (own_c (n := 65535) rfl (by omega)), own_g206, if_pos (own_c (n := 983039) rfl (by omega))]
theorem own_all (c : Int32) : (own_n0 c = 1 ∧ own_g0 c = 0) ∨ (own_n0 c = 0 ∧ own_g0 c = 1) := by
  by_cases u0 : c.toInt ≤ 57
  · exact Or.inr (own_cell0 c  u0)
  by_cases u1 : c.toInt ≤ 58
  · exact Or.inl (own_cell1 c (by omega) u1)
  by_cases u2 : c.toInt ≤ 64
  · exact Or.inr (own_cell2 c (by omega) u2)
  by_cases u3 : c.toInt ≤ 90
  · exact Or.inl (own_cell3 c (by omega) u3)
  by_cases u4 : c.toInt ≤ 94
  · exact Or.inr (own_cell4 c (by omega) u4)
  by_cases u5 : c.toInt ≤ 95
  · exact Or.inl (own_cell5 c (by omega) u5)
  by_cases u6 : c.toInt ≤ 96
  · exact Or.inr (own_cell6 c (by omega) u6)
  by_cases u7 : c.toInt ≤ 122
  · exact Or.inl (own_cell7 c (by omega) u7)
  by_cases u8 : c.toInt ≤ 191
  · exact Or.inr (own_cell8 c (by omega) u8)
  by_cases u9 : c.toInt ≤ 214
  · exact Or.inl (own_cell9 c (by omega) u9)
  by_cases u10 : c.toInt ≤ 215
  · exact Or.inr (own_cell10 c (by omega) u10)
  by_cases u11 : c.toInt ≤ 246
  · exact Or.inl (own_cell11 c (by omega) u11)
  by_cases u12 : c.toInt ≤ 247
  · exact Or.inr (own_cell12 c (by omega) u12)
  by_cases u13 : c.toInt ≤ 767
  · exact Or.inl (own_cell13 c (by omega) u13)
  by_cases u14 : c.toInt ≤ 879
  · exact Or.inr (own_cell14 c (by omega) u14)
  by_cases u15 : c.toInt ≤ 893
  · exact Or.inl (own_cell15 c (by omega) u15)
  by_cases u16 : c.toInt ≤ 894
  · exact Or.inr (own_cell16 c (by omega) u16)
  by_cases u17 : c.toInt ≤ 8191
  · exact Or.inl (own_cell17 c (by omega) u17)
  by_cases u18 : c.toInt ≤ 8203
  · exact Or.inr (own_cell18 c (by omega) u18)
  by_cases u19 : c.toInt ≤ 8205
  · exact Or.inl (own_cell19 c (by omega) u19)
  by_cases u20 : c.toInt ≤ 8303
  · exact Or.inr (own_cell20 c (by omega) u20)
  by_cases u21 : c.toInt ≤ 8591
  · exact Or.inl (own_cell21 c (by omega) u21)
  by_cases u22 : c.toInt ≤ 11263
  · exact Or.inr (own_cell22 c (by omega) u22)
  by_cases u23 : c.toInt ≤ 12271
  · exact Or.inl (own_cell23 c (by omega) u23)
  by_cases u24 : c.toInt ≤ 12288
  · exact Or.inr (own_cell24 c (by omega) u24)
  by_cases u25 : c.toInt ≤ 55295
  · exact Or.inl (own_cell25 c (by omega) u25)
  by_cases u26 : c.toInt ≤ 63743
  · exact Or.inr (own_cell26 c (by omega) u26)
  by_cases u27 : c.toInt ≤ 64975
  · exact Or.inl (own_cell27 c (by omega) u27)
  by_cases u28 : c.toInt ≤ 65007
  · exact Or.inr (own_cell28 c (by omega) u28)
  by_cases u29 : c.toInt ≤ 65533
  · exact Or.inl (own_cell29 c (by omega) u29)
  by_cases u30 : c.toInt ≤ 65535
  · exact Or.inr (own_cell30 c (by omega) u30)
  by_cases u31 : c.toInt ≤ 983039
  · exact Or.inl (own_cell31 c (by omega) u31)
  exact Or.inr (own_cell32 c (by omega))
theorem own_key1 (c : Int32) (h : own_g0 c = 0) : own_n0 c = 1 := by
  rcases own_all c with q | q
  · exact q.1
  · rw [q.2] at h; exact absurd h (by decide)
theorem own_key2 (c : Int32) (h : ¬ own_g0 c = 0) : own_n0 c = 0 := by
  rcases own_all c with q | q
  · exact absurd q.2 h
  · exact q.1
theorem own_d1_0 : decode prog_54_method_7_code 0 = .ok (.iload_n 0, 1) := by decide +kernel
theorem own_d1_1 : decode prog_54_method_7_code 1 = .ok (.bipush 97, 2) := by decide +kernel
theorem own_d1_3 : decode prog_54_method_7_code 3 = .ok (.if_icmp .lt 9, 3) := by decide +kernel
theorem own_d1_6 : decode prog_54_method_7_code 6 = .ok (.iload_n 0, 1) := by decide +kernel
theorem own_d1_7 : decode prog_54_method_7_code 7 = .ok (.bipush 122, 2) := by decide +kernel
theorem own_d1_9 : decode prog_54_method_7_code 9 = .ok (.if_icmp .le 188, 3) := by decide +kernel
theorem own_d1_12 : decode prog_54_method_7_code 12 = .ok (.iload_n 0, 1) := by decide +kernel
theorem own_d1_13 : decode prog_54_method_7_code 13 = .ok (.bipush 65, 2) := by decide +kernel
theorem own_d1_15 : decode prog_54_method_7_code 15 = .ok (.if_icmp .lt 9, 3) := by decide +kernel
theorem own_d1_18 : decode prog_54_method_7_code 18 = .ok (.iload_n 0, 1) := by decide +kernel
theorem own_d1_19 : decode prog_54_method_7_code 19 = .ok (.bipush 90, 2) := by decide +kernel
theorem own_d1_21 : decode prog_54_method_7_code 21 = .ok (.if_icmp .le 176, 3) := by decide +kernel
theorem own_d1_24 : decode prog_54_method_7_code 24 = .ok (.iload_n 0, 1) := by decide +kernel
theorem own_d1_25 : decode prog_54_method_7_code 25 = .ok (.bipush 95, 2) := by decide +kernel
theorem own_d1_27 : decode prog_54_method_7_code 27 = .ok (.if_icmp .eq 170, 3) := by decide +kernel
theorem own_d1_30 : decode prog_54_method_7_code 30 = .ok (.iload_n 0, 1) := by decide +kernel
theorem own_d1_31 : decode prog_54_method_7_code 31 = .ok (.bipush 58, 2) := by decide +kernel
theorem own_d1_33 : decode prog_54_method_7_code 33 = .ok (.if_icmp .eq 164, 3) := by decide +kernel
theorem own_d1_36 : decode prog_54_method_7_code 36 = .ok (.iload_n 0, 1) := by decide +kernel
theorem own_d1_37 : decode prog_54_method_7_code 37 = .ok (.sipush 192, 3) := by decide +kernel
theorem own_d1_40 : decode prog_54_method_7_code 40 = .ok (.if_icmp .lt 10, 3) := by decide +kernel
theorem own_d1_43 : decode prog_54_method_7_code 43 = .ok (.iload_n 0, 1) := by decide +kernel
theorem own_d1_44 : decode prog_54_method_7_code 44 = .ok (.sipush 214, 3) := by decide +kernel
theorem own_d1_47 : decode prog_54_method_7_code 47 = .ok (.if_icmp .le 150, 3) := by decide +kernel
theorem own_d1_50 : decode prog_54_method_7_code 50 = .ok (.iload_n 0, 1) := by decide +kernel
theorem own_d1_51 : decode prog_54_method_7_code 51 = .ok (.sipush 216, 3) := by decide +kernel
theorem own_d1_54 : decode prog_54_method_7_code 54 = .ok (.if_icmp .lt 10, 3) := by decide +kernel
theorem own_d1_57 : decode prog_54_method_7_code 57 = .ok (.iload_n 0, 1) := by decide +kernel
theorem own_d1_58 : decode prog_54_method_7_code 58 = .ok (.sipush 246, 3) := by decide +kernel
theorem own_d1_61 : decode prog_54_method_7_code 61 = .ok (.if_icmp .le 136, 3) := by decide +kernel
theorem own_d1_64 : decode prog_54_method_7_code 64 = .ok (.iload_n 0, 1) := by decide +kernel
theorem own_d1_65 : decode prog_54_method_7_code 65 = .ok (.sipush 248, 3) := by decide +kernel
theorem own_d1_68 : decode prog_54_method_7_code 68 = .ok (.if_icmp .lt 10, 3) := by decide +kernel
theorem own_d1_71 : decode prog_54_method_7_code 71 = .ok (.iload_n 0, 1) := by decide +kernel
theorem own_d1_72 : decode prog_54_method_7_code 72 = .ok (.sipush 767, 3) := by decide +kernel
theorem own_d1_75 : decode prog_54_method_7_code 75 = .ok (.if_icmp .le 122, 3) := by decide +kernel
theorem own_d1_78 : decode prog_54_method_7_code 78 = .ok (.iload_n 0, 1) := by decide +kernel
theorem own_d1_79 : decode prog_54_method_7_code 79 = .ok (.sipush 880, 3) := by decide +kernel
theorem own_d1_82 : decode prog_54_method_7_code 82 = .ok (.if_icmp .lt 10, 3) := by decide +kernel
theorem own_d1_85 : decode prog_54_method_7_code 85 = .ok (.iload_n 0, 1) := by decide +kernel
theorem own_d1_86 : decode prog_54_method_7_code 86 = .ok (.sipush 893, 3) := by decide +kernel
theorem own_d1_89 : decode prog_54_method_7_code 89 = .ok (.if_icmp .le 108, 3) := by decide +kernel
theorem own_d1_92 : decode prog_54_method_7_code 92 = .ok (.iload_n 0, 1) := by decide +kernel
theorem own_d1_93 : decode prog_54_method_7_code 93 = .ok (.sipush 895, 3) := by decide +kernel
theorem own_d1_96 : decode prog_54_method_7_code 96 = .ok (.if_icmp .lt 10, 3) := by decide +kernel
theorem own_d1_99 : decode prog_54_method_7_code 99 = .ok (.iload_n 0, 1) := by decide +kernel
theorem own_d1_100 : decode prog_54_method_7_code 100 = .ok (.sipush 8191, 3) := by decide +kernel
theorem own_d1_103 : decode prog_54_method_7_code 103 = .ok (.if_icmp .le 94, 3) := by decide +kernel
theorem own_d1_106 : decode prog_54_method_7_code 106 = .ok (.iload_n 0, 1) := by decide +kernel
theorem own_d1_107 : decode prog_54_method_7_code 107 = .ok (.sipush 8204, 3) := by decide +kernel
theorem own_d1_110 : decode prog_54_method_7_code 110 = .ok (.if_icmp .lt 10, 3) := by decide +kernel
theorem own_d1_113 : decode prog_54_method_7_code 113 = .ok (.iload_n 0, 1) := by decide +kernel
theorem own_d1_114 : decode prog_54_method_7_code 114 = .ok (.sipush 8205, 3) := by decide +kernel
theorem own_d1_117 : decode prog_54_method_7_code 117 = .ok (.if_icmp .le 80, 3) := by decide +kernel
theorem own_d1_120 : decode prog_54_method_7_code 120 = .ok (.iload_n 0, 1) := by decide +kernel
theorem own_d1_121 : decode prog_54_method_7_code 121 = .ok (.sipush 8304, 3) := by decide +kernel
theorem own_d1_124 : decode prog_54_method_7_code 124 = .ok (.if_icmp .lt 10, 3) := by decide +kernel
theorem own_d1_127 : decode prog_54_method_7_code 127 = .ok (.iload_n 0, 1) := by decide +kernel
theorem own_d1_128 : decode prog_54_method_7_code 128 = .ok (.sipush 8591, 3) := by decide +kernel
theorem own_d1_131 : decode prog_54_method_7_code 131 = .ok (.if_icmp .le 66, 3) := by decide +kernel
theorem own_d1_134 : decode prog_54_method_7_code 134 = .ok (.iload_n 0, 1) := by decide +kernel
theorem own_d1_135 : decode prog_54_method_7_code 135 = .ok (.sipush 11264, 3) := by decide +kernel
theorem own_d1_138 : decode prog_54_method_7_code 138 = .ok (.if_icmp .lt 10, 3) := by decide +kernel
theorem own_d1_141 : decode prog_54_method_7_code 141 = .ok (.iload_n 0, 1) := by decide +kernel
theorem own_d1_142 : decode prog_54_method_7_code 142 = .ok (.sipush 12271, 3) := by decide +kernel
theorem own_d1_145 : decode prog_54_method_7_code 145 = .ok (.if_icmp .le 52, 3) := by decide +kernel
theorem own_d1_148 : decode prog_54_method_7_code 148 = .ok (.iload_n 0, 1) := by decide +kernel
theorem own_d1_149 : decode prog_54_method_7_code 149 = .ok (.sipush 12289, 3) := by decide +kernel
theorem own_d1_152 : decode prog_54_method_7_code 152 = .ok (.if_icmp .lt 9, 3) := by decide +kernel
theorem own_d1_155 : decode prog_54_method_7_code 155 = .ok (.iload_n 0, 1) := by decide +kernel
theorem own_d1_156 : decode prog_54_method_7_code 156 = .ok (.ldc 48, 2) := by decide +kernel
theorem own_d1_158 : decode prog_54_method_7_code 158 = .ok (.if_icmp .le 39, 3) := by decide +kernel
theorem own_d1_161 : decode prog_54_method_7_code 161 = .ok (.iload_n 0, 1) := by decide +kernel
theorem own_d1_162 : decode prog_54_method_7_code 162 = .ok (.ldc 49, 2) := by decide +kernel
theorem own_d1_164 : decode prog_54_method_7_code 164 = .ok (.if_icmp .lt 9, 3) := by decide +kernel
theorem own_d1_167 : decode prog_54_method_7_code 167 = .ok (.iload_n 0, 1) := by decide +kernel
theorem own_d1_168 : decode prog_54_method_7_code 168 = .ok (.ldc 50, 2) := by decide +kernel
theorem own_d1_170 : decode prog_54_method_7_code 170 = .ok (.if_icmp .le 27, 3) := by decide +kernel
theorem own_d1_173 : decode prog_54_method_7_code 173 = .ok (.iload_n 0, 1) := by decide +kernel
theorem own_d1_174 : decode prog_54_method_7_code 174 = .ok (.ldc 51, 2) := by decide +kernel
theorem own_d1_176 : decode prog_54_method_7_code 176 = .ok (.if_icmp .lt 9, 3) := by decide +kernel
theorem own_d1_179 : decode prog_54_method_7_code 179 = .ok (.iload_n 0, 1) := by decide +kernel
theorem own_d1_180 : decode prog_54_method_7_code 180 = .ok (.ldc 52, 2) := by decide +kernel
theorem own_d1_182 : decode prog_54_method_7_code 182 = .ok (.if_icmp .le 15, 3) := by decide +kernel
theorem own_d1_185 : decode prog_54_method_7_code 185 = .ok (.iload_n 0, 1) := by decide +kernel
theorem own_d1_186 : decode prog_54_method_7_code 186 = .ok (.ldc 53, 2) := by decide +kernel
theorem own_d1_188 : decode prog_54_method_7_code 188 = .ok (.if_icmp .lt 13, 3) := by decide +kernel
theorem own_d1_191 : decode prog_54_method_7_code 191 = .ok (.iload_n 0, 1) := by decide +kernel
theorem own_d1_192 : decode prog_54_method_7_code 192 = .ok (.ldc 54, 2) := by decide +kernel
theorem own_d1_194 : decode prog_54_method_7_code 194 = .ok (.if_icmp .gt 7, 3) := by decide +kernel
theorem own_d1_197 : decode prog_54_method_7_code 197 = .ok (.iconst 1, 1) := by decide +kernel
theorem own_d1_198 : decode prog_54_method_7_code 198 = .ok (.goto 4, 3) := by decide +kernel
theorem own_d1_201 : decode prog_54_method_7_code 201 = .ok (.iconst 0, 1) := by decide +kernel
theorem own_d1_202 : decode prog_54_method_7_code 202 = .ok (.ireturn, 1) := by decide +kernel
theorem own_pn0 : plainName "com/example/escar/escar/schema/datatype/XmlNames" = true := by first | (simp [plainName, overriddenIn]; done) | decide +kernel
theorem own_ef_1 (m : MethodId) (x0 : Int32) : entryFrame m #[(.int x0)] 1 = mkF m 0 #[.val (.int x0)] [] := by first | (simp [entryFrame, mkF, argsToLocals, Value.category]; done) | rfl
def own_Q_ns (Z : State) (p0 : Int32) (h0 : Heap) (n0 : Nat) (v : Option Value) (h : Heap) (L : List Loc) : Prop := v = some (.int (own_n0 p0)) ∧ Fr n0 L ∧ h = h0
set_option maxRecDepth 65536 in
set_option maxHeartbeats 40000000 in
theorem own_rm_ns (l : Launch) (Z : State) (a0 : Array Value) (hw : ∀ d ∈ tables_1, d.before a0 Z = true) (ws : List Jvm.Cond) (p0 : Int32) (h0 : Heap) (n0 : Nat) (Z0 : n0 ≤ h0.size) :
    MetFree l (⟨"com/example/escar/escar/schema/datatype/XmlNames", "isNameStartChar", "(I)Z"⟩ : MethodName) (head1 (Jvm.Cond.code (⟨"com/example/escar/escar/schema/datatype/XmlNames", "isNameStartChar", "(I)Z"⟩ : MethodName) prog_54_method_7_code 1 (some .boolean) :: ws) ({ frames := 0, cells := 0, slots := 0, locals := 0 } : Room)) (fun a U => a = #[(.int p0)] ∧ Z.Warmed39 U.vm ∧ U.heap = h0) (fun _ _ _ _ _ => True) (fun _ U o U' => ∃ v L, o = .returned v ∧ own_Q_ns Z p0 h0 n0 v U'.heap L ∧ FrameEnd U o U' L ({ frames := 0, cells := 0, slots := 0, locals := 0 } : Room).cells ({ frames := 0, cells := 0, slots := 0, locals := 0 } : Room).slots) := by
  refine MetFree.of_bodySF (plainFor_of_name own_pn0) hisR ?_
  intro p e s m args below meth c s₁ Bd hml0 hP hK
  obtain ⟨rfl, hZ, hh⟩ := hP
  have hx := Bd.exec
  have hby := Bd.bytes
  have hlk : meth.locks = false := BodyLoose.notSynchronized Bd
  have hml : c.maxLocals = 1 := hml0
  have hown : s.vm.findClass "com/example/escar/escar/schema/datatype/XmlNames" = some m.cls := findClass_of_methodNamed Bd.named
  have hnm := (name_of_methodNamed Bd.named Bd.method).1
  have X0 : Stand p l e ({ frames := 0, cells := 0, slots := 0, locals := 0 } : Room) s m #[(.int p0)] below meth c s₁ [] 0 0 := Stand.of_body Bd
  have e0 : s₁.heap = h0 := by rw [← hh, Bd.state]; rfl
  have N0 := Fr.nil n0
  have K0 : Keep h0 h0 [] := Keep.refl _ _
  have pre0 : ∀ t, Steps p.tables e below (s₁.setTop (mkF m 0 #[.val (.int p0)] [])) t → Steps p.tables e below (s₁.setTop (entryFrame m #[(.int p0)] 1)) t := fun t k => castTop (own_ef_1 m p0) k
  show own_Ends p.tables e below (own_Q s (own_Q_ns Z p0 h0 n0) ({ frames := 0, cells := 0, slots := 0, locals := 0 } : Room).cells ({ frames := 0, cells := 0, slots := 0, locals := 0 } : Room).slots) (s₁.setTop (entryFrame m #[(.int p0)] 1))
  refine own_step pre0 ?_
  show own_Ends p.tables e below _ (s₁.setTop (mkF m 0 #[.val (.int p0)] []))
  have jn201 : ∀ (_ : True) (jh : own_n0 p0 = own_n201 p0), own_Ends p.tables e below (own_Q s (own_Q_ns Z p0 h0 n0) ({ frames := 0, cells := 0, slots := 0, locals := 0 } : Room).cells ({ frames := 0, cells := 0, slots := 0, locals := 0 } : Room).slots) (s₁.setTop (mkF m 201 #[.val (.int p0)] [])) := by
    intro _ jh
    refine own_step (fun _ k => XS.iconst X0.here hx rfl (hb hby own_d1_201) k) ?_
    show own_Ends p.tables e below _ (s₁.setTop (mkF m 202 #[.val (.int p0)] [(.int (0 : Int32))]))
    exact own_retN X0 hx hlk (by decide) (by decide) (t := .boolean) Bd.returns (by simp) (hb hby own_d1_202) (by rw [e0]; exact ⟨by rw [show own_n0 p0 = (0 : Int32) by rw [jh, own_n201]]; rfl, N0, rfl⟩)
  show own_Ends p.tables e below _ (s₁.setTop (mkF m 0 #[.val (.int p0)] []))
  have jn197 : ∀ (_ : True) (jh : own_n0 p0 = own_n197 p0), own_Ends p.tables e below (own_Q s (own_Q_ns Z p0 h0 n0) ({ frames := 0, cells := 0, slots := 0, locals := 0 } : Room).cells ({ frames := 0, cells := 0, slots := 0, locals := 0 } : Room).slots) (s₁.setTop (mkF m 197 #[.val (.int p0)] [])) := by
    intro _ jh
    refine own_step (fun _ k => XS.iconst X0.here hx rfl (hb hby own_d1_197) k) ?_
    show own_Ends p.tables e below _ (s₁.setTop (mkF m 198 #[.val (.int p0)] [(.int (1 : Int32))]))
    refine own_step (fun _ k => XS.goto X0.here hx rfl (pc0 := 198) (pc' := 202) rfl (hb hby own_d1_198) (by decide) (by decide) k) ?_
    show own_Ends p.tables e below _ (s₁.setTop (mkF m 202 #[.val (.int p0)] [(.int (1 : Int32))]))
    exact own_retN X0 hx hlk (by decide) (by decide) (t := .boolean) Bd.returns (by simp) (hb hby own_d1_202) (by rw [e0]; exact ⟨by rw [show own_n0 p0 = (1 : Int32) by rw [jh, own_n197]]; rfl, N0, rfl⟩)
  show own_Ends p.tables e below _ (s₁.setTop (mkF m 0 #[.val (.int p0)] []))
  have jn185 : ∀ (_ : True) (jh : own_n0 p0 = own_n185 p0), own_Ends p.tables e below (own_Q s (own_Q_ns Z p0 h0 n0) ({ frames := 0, cells := 0, slots := 0, locals := 0 } : Room).cells ({ frames := 0, cells := 0, slots := 0, locals := 0 } : Room).slots) (s₁.setTop (mkF m 185 #[.val (.int p0)] [])) := by
    intro _ jh
    refine own_step (fun _ k => XS.iloadN X0.here hx rfl (hb hby own_d1_185) rfl k) ?_
    show own_Ends p.tables e below _ (s₁.setTop (mkF m 186 #[.val (.int p0)] [(.int p0)]))
    refine own_step (fun _ k => X0.ldcInt hx hown (mvT hZ (hw _ (List.mem_of_getElem? (i := 6) rfl))) (g := (mkF m 186 #[.val (.int p0)] [(.int p0)])) rfl (hb hby own_d1_186) _ k) ?_
    show own_Ends p.tables e below _ (s₁.setTop (mkF m 188 #[.val (.int p0)] [(.int (65536 : Int32)), (.int p0)]))
    by_cases hc188 : p0 < (65536 : Int32)
    · refine own_step (fun _ k => XS.icmpYes X0.here hx rfl (pc0 := 188) (pc' := 201) rfl (hb hby own_d1_188) rfl (tlt hc188).1 (by decide) (by decide) k) ?_
      show own_Ends p.tables e below _ (s₁.setTop (mkF m 201 #[.val (.int p0)] []))
      exact jn201 trivial (by rw [jh, own_n185, if_pos hc188])
    · refine own_step (fun _ k => XS.icmpNo X0.here hx rfl (hb hby own_d1_188) rfl (flt hc188).1 k) ?_
      show own_Ends p.tables e below _ (s₁.setTop (mkF m 191 #[.val (.int p0)] []))
      refine own_step (fun _ k => XS.iloadN X0.here hx rfl (hb hby own_d1_191) rfl k) ?_
      show own_Ends p.tables e below _ (s₁.setTop (mkF m 192 #[.val (.int p0)] [(.int p0)]))
      refine own_step (fun _ k => X0.ldcInt hx hown (mvT hZ (hw _ (List.mem_of_getElem? (i := 18) rfl))) (g := (mkF m 192 #[.val (.int p0)] [(.int p0)])) rfl (hb hby own_d1_192) _ k) ?_
      show own_Ends p.tables e below _ (s₁.setTop (mkF m 194 #[.val (.int p0)] [(.int (983039 : Int32)), (.int p0)]))
      by_cases hc194 : (983039 : Int32) < p0
      · refine own_step (fun _ k => XS.icmpYes X0.here hx rfl (pc0 := 194) (pc' := 201) rfl (hb hby own_d1_194) rfl (tlt hc194).2.2.1 (by decide) (by decide) k) ?_
        show own_Ends p.tables e below _ (s₁.setTop (mkF m 201 #[.val (.int p0)] []))
        exact jn201 trivial (by rw [jh, own_n185, if_neg hc188, if_pos hc194])
      · refine own_step (fun _ k => XS.icmpNo X0.here hx rfl (hb hby own_d1_194) rfl (flt hc194).2.2.1 k) ?_
        show own_Ends p.tables e below _ (s₁.setTop (mkF m 197 #[.val (.int p0)] []))
        exact jn197 trivial (by rw [jh, own_n185, if_neg hc188, if_neg hc194])
  show own_Ends p.tables e below _ (s₁.setTop (mkF m 0 #[.val (.int p0)] []))
  have jn173 : ∀ (_ : True) (jh : own_n0 p0 = own_n173 p0), own_Ends p.tables e below (own_Q s (own_Q_ns Z p0 h0 n0) ({ frames := 0, cells := 0, slots := 0, locals := 0 } : Room).cells ({ frames := 0, cells := 0, slots := 0, locals := 0 } : Room).slots) (s₁.setTop (mkF m 173 #[.val (.int p0)] [])) := by
    intro _ jh
    refine own_step (fun _ k => XS.iloadN X0.here hx rfl (hb hby own_d1_173) rfl k) ?_
    show own_Ends p.tables e below _ (s₁.setTop (mkF m 174 #[.val (.int p0)] [(.int p0)]))
    refine own_step (fun _ k => X0.ldcInt hx hown (mvT hZ (hw _ (List.mem_of_getElem? (i := 5) rfl))) (g := (mkF m 174 #[.val (.int p0)] [(.int p0)])) rfl (hb hby own_d1_174) _ k) ?_
    show own_Ends p.tables e below _ (s₁.setTop (mkF m 176 #[.val (.int p0)] [(.int (65008 : Int32)), (.int p0)]))
    by_cases hc176 : p0 < (65008 : Int32)
    · refine own_step (fun _ k => XS.icmpYes X0.here hx rfl (pc0 := 176) (pc' := 185) rfl (hb hby own_d1_176) rfl (tlt hc176).1 (by decide) (by decide) k) ?_
      show own_Ends p.tables e below _ (s₁.setTop (mkF m 185 #[.val (.int p0)] []))
      exact jn185 trivial (by rw [jh, own_n173, if_pos hc176])
    · refine own_step (fun _ k => XS.icmpNo X0.here hx rfl (hb hby own_d1_176) rfl (flt hc176).1 k) ?_
      show own_Ends p.tables e below _ (s₁.setTop (mkF m 179 #[.val (.int p0)] []))
      refine own_step (fun _ k => XS.iloadN X0.here hx rfl (hb hby own_d1_179) rfl k) ?_
      show own_Ends p.tables e below _ (s₁.setTop (mkF m 180 #[.val (.int p0)] [(.int p0)]))
      refine own_step (fun _ k => X0.ldcInt hx hown (mvT hZ (hw _ (List.mem_of_getElem? (i := 17) rfl))) (g := (mkF m 180 #[.val (.int p0)] [(.int p0)])) rfl (hb hby own_d1_180) _ k) ?_
      show own_Ends p.tables e below _ (s₁.setTop (mkF m 182 #[.val (.int p0)] [(.int (65533 : Int32)), (.int p0)]))
      by_cases hc182 : (65533 : Int32) < p0
      · refine own_step (fun _ k => XS.icmpNo X0.here hx rfl (hb hby own_d1_182) rfl (tlt hc182).2.2.2 k) ?_
        show own_Ends p.tables e below _ (s₁.setTop (mkF m 185 #[.val (.int p0)] []))
        exact jn185 trivial (by rw [jh, own_n173, if_neg hc176, if_pos hc182])
      · refine own_step (fun _ k => XS.icmpYes X0.here hx rfl (pc0 := 182) (pc' := 197) rfl (hb hby own_d1_182) rfl (flt hc182).2.2.2 (by decide) (by decide) k) ?_
        show own_Ends p.tables e below _ (s₁.setTop (mkF m 197 #[.val (.int p0)] []))
        exact jn197 trivial (by rw [jh, own_n173, if_neg hc176, if_neg hc182])
  show own_Ends p.tables e below _ (s₁.setTop (mkF m 0 #[.val (.int p0)] []))
  have jn161 : ∀ (_ : True) (jh : own_n0 p0 = own_n161 p0), own_Ends p.tables e below (own_Q s (own_Q_ns Z p0 h0 n0) ({ frames := 0, cells := 0, slots := 0, locals := 0 } : Room).cells ({ frames := 0, cells := 0, slots := 0, locals := 0 } : Room).slots) (s₁.setTop (mkF m 161 #[.val (.int p0)] [])) := by
    intro _ jh
    refine own_step (fun _ k => XS.iloadN X0.here hx rfl (hb hby own_d1_161) rfl k) ?_
    show own_Ends p.tables e below _ (s₁.setTop (mkF m 162 #[.val (.int p0)] [(.int p0)]))
    refine own_step (fun _ k => X0.ldcInt hx hown (mvT hZ (hw _ (List.mem_of_getElem? (i := 4) rfl))) (g := (mkF m 162 #[.val (.int p0)] [(.int p0)])) rfl (hb hby own_d1_162) _ k) ?_
    show own_Ends p.tables e below _ (s₁.setTop (mkF m 164 #[.val (.int p0)] [(.int (63744 : Int32)), (.int p0)]))
    by_cases hc164 : p0 < (63744 : Int32)
    · refine own_step (fun _ k => XS.icmpYes X0.here hx rfl (pc0 := 164) (pc' := 173) rfl (hb hby own_d1_164) rfl (tlt hc164).1 (by decide) (by decide) k) ?_
      show own_Ends p.tables e below _ (s₁.setTop (mkF m 173 #[.val (.int p0)] []))
      exact jn173 trivial (by rw [jh, own_n161, if_pos hc164])
    · refine own_step (fun _ k => XS.icmpNo X0.here hx rfl (hb hby own_d1_164) rfl (flt hc164).1 k) ?_
      show own_Ends p.tables e below _ (s₁.setTop (mkF m 167 #[.val (.int p0)] []))
      refine own_step (fun _ k => XS.iloadN X0.here hx rfl (hb hby own_d1_167) rfl k) ?_
      show own_Ends p.tables e below _ (s₁.setTop (mkF m 168 #[.val (.int p0)] [(.int p0)]))
      refine own_step (fun _ k => X0.ldcInt hx hown (mvT hZ (hw _ (List.mem_of_getElem? (i := 16) rfl))) (g := (mkF m 168 #[.val (.int p0)] [(.int p0)])) rfl (hb hby own_d1_168) _ k) ?_
      show own_Ends p.tables e below _ (s₁.setTop (mkF m 170 #[.val (.int p0)] [(.int (64975 : Int32)), (.int p0)]))
      by_cases hc170 : (64975 : Int32) < p0
      · refine own_step (fun _ k => XS.icmpNo X0.here hx rfl (hb hby own_d1_170) rfl (tlt hc170).2.2.2 k) ?_
        show own_Ends p.tables e below _ (s₁.setTop (mkF m 173 #[.val (.int p0)] []))
        exact jn173 trivial (by rw [jh, own_n161, if_neg hc164, if_pos hc170])
      · refine own_step (fun _ k => XS.icmpYes X0.here hx rfl (pc0 := 170) (pc' := 197) rfl (hb hby own_d1_170) rfl (flt hc170).2.2.2 (by decide) (by decide) k) ?_
        show own_Ends p.tables e below _ (s₁.setTop (mkF m 197 #[.val (.int p0)] []))
        exact jn197 trivial (by rw [jh, own_n161, if_neg hc164, if_neg hc170])
  show own_Ends p.tables e below _ (s₁.setTop (mkF m 0 #[.val (.int p0)] []))
  have jn148 : ∀ (_ : True) (jh : own_n0 p0 = own_n148 p0), own_Ends p.tables e below (own_Q s (own_Q_ns Z p0 h0 n0) ({ frames := 0, cells := 0, slots := 0, locals := 0 } : Room).cells ({ frames := 0, cells := 0, slots := 0, locals := 0 } : Room).slots) (s₁.setTop (mkF m 148 #[.val (.int p0)] [])) := by
    intro _ jh
    refine own_step (fun _ k => XS.iloadN X0.here hx rfl (hb hby own_d1_148) rfl k) ?_
    show own_Ends p.tables e below _ (s₁.setTop (mkF m 149 #[.val (.int p0)] [(.int p0)]))
    refine own_step (fun _ k => XS.sipush X0.here hx rfl (hb hby own_d1_149) k) ?_
    show own_Ends p.tables e below _ (s₁.setTop (mkF m 152 #[.val (.int p0)] [(.int (12289 : Int32)), (.int p0)]))
    by_cases hc152 : p0 < (12289 : Int32)
    · refine own_step (fun _ k => XS.icmpYes X0.here hx rfl (pc0 := 152) (pc' := 161) rfl (hb hby own_d1_152) rfl (tlt hc152).1 (by decide) (by decide) k) ?_
      show own_Ends p.tables e below _ (s₁.setTop (mkF m 161 #[.val (.int p0)] []))
      exact jn161 trivial (by rw [jh, own_n148, if_pos hc152])
    · refine own_step (fun _ k => XS.icmpNo X0.here hx rfl (hb hby own_d1_152) rfl (flt hc152).1 k) ?_
      show own_Ends p.tables e below _ (s₁.setTop (mkF m 155 #[.val (.int p0)] []))
      refine own_step (fun _ k => XS.iloadN X0.here hx rfl (hb hby own_d1_155) rfl k) ?_
      show own_Ends p.tables e below _ (s₁.setTop (mkF m 156 #[.val (.int p0)] [(.int p0)]))
      refine own_step (fun _ k => X0.ldcInt hx hown (mvT hZ (hw _ (List.mem_of_getElem? (i := 15) rfl))) (g := (mkF m 156 #[.val (.int p0)] [(.int p0)])) rfl (hb hby own_d1_156) _ k) ?_
      show own_Ends p.tables e below _ (s₁.setTop (mkF m 158 #[.val (.int p0)] [(.int (55295 : Int32)), (.int p0)]))
      by_cases hc158 : (55295 : Int32) < p0
      · refine own_step (fun _ k => XS.icmpNo X0.here hx rfl (hb hby own_d1_158) rfl (tlt hc158).2.2.2 k) ?_
        show own_Ends p.tables e below _ (s₁.setTop (mkF m 161 #[.val (.int p0)] []))
        exact jn161 trivial (by rw [jh, own_n148, if_neg hc152, if_pos hc158])
      · refine own_step (fun _ k => XS.icmpYes X0.here hx rfl (pc0 := 158) (pc' := 197) rfl (hb hby own_d1_158) rfl (flt hc158).2.2.2 (by decide) (by decide) k) ?_
        show own_Ends p.tables e below _ (s₁.setTop (mkF m 197 #[.val (.int p0)] []))
        exact jn197 trivial (by rw [jh, own_n148, if_neg hc152, if_neg hc158])
  show own_Ends p.tables e below _ (s₁.setTop (mkF m 0 #[.val (.int p0)] []))
  have jn134 : ∀ (_ : True) (jh : own_n0 p0 = own_n134 p0), own_Ends p.tables e below (own_Q s (own_Q_ns Z p0 h0 n0) ({ frames := 0, cells := 0, slots := 0, locals := 0 } : Room).cells ({ frames := 0, cells := 0, slots := 0, locals := 0 } : Room).slots) (s₁.setTop (mkF m 134 #[.val (.int p0)] [])) := by
    intro _ jh
    refine own_step (fun _ k => XS.iloadN X0.here hx rfl (hb hby own_d1_134) rfl k) ?_
    show own_Ends p.tables e below _ (s₁.setTop (mkF m 135 #[.val (.int p0)] [(.int p0)]))
    refine own_step (fun _ k => XS.sipush X0.here hx rfl (hb hby own_d1_135) k) ?_
    show own_Ends p.tables e below _ (s₁.setTop (mkF m 138 #[.val (.int p0)] [(.int (11264 : Int32)), (.int p0)]))
    by_cases hc138 : p0 < (11264 : Int32)
    · refine own_step (fun _ k => XS.icmpYes X0.here hx rfl (pc0 := 138) (pc' := 148) rfl (hb hby own_d1_138) rfl (tlt hc138).1 (by decide) (by decide) k) ?_
      show own_Ends p.tables e below _ (s₁.setTop (mkF m 148 #[.val (.int p0)] []))
      exact jn148 trivial (by rw [jh, own_n134, if_pos hc138])
    · refine own_step (fun _ k => XS.icmpNo X0.here hx rfl (hb hby own_d1_138) rfl (flt hc138).1 k) ?_
      show own_Ends p.tables e below _ (s₁.setTop (mkF m 141 #[.val (.int p0)] []))
      refine own_step (fun _ k => XS.iloadN X0.here hx rfl (hb hby own_d1_141) rfl k) ?_
      show own_Ends p.tables e below _ (s₁.setTop (mkF m 142 #[.val (.int p0)] [(.int p0)]))
      refine own_step (fun _ k => XS.sipush X0.here hx rfl (hb hby own_d1_142) k) ?_
      show own_Ends p.tables e below _ (s₁.setTop (mkF m 145 #[.val (.int p0)] [(.int (12271 : Int32)), (.int p0)]))
      by_cases hc145 : (12271 : Int32) < p0
      · refine own_step (fun _ k => XS.icmpNo X0.here hx rfl (hb hby own_d1_145) rfl (tlt hc145).2.2.2 k) ?_
        show own_Ends p.tables e below _ (s₁.setTop (mkF m 148 #[.val (.int p0)] []))
        exact jn148 trivial (by rw [jh, own_n134, if_neg hc138, if_pos hc145])
      · refine own_step (fun _ k => XS.icmpYes X0.here hx rfl (pc0 := 145) (pc' := 197) rfl (hb hby own_d1_145) rfl (flt hc145).2.2.2 (by decide) (by decide) k) ?_
        show own_Ends p.tables e below _ (s₁.setTop (mkF m 197 #[.val (.int p0)] []))
        exact jn197 trivial (by rw [jh, own_n134, if_neg hc138, if_neg hc145])
  show own_Ends p.tables e below _ (s₁.setTop (mkF m 0 #[.val (.int p0)] []))
  have jn120 : ∀ (_ : True) (jh : own_n0 p0 = own_n120 p0), own_Ends p.tables e below (own_Q s (own_Q_ns Z p0 h0 n0) ({ frames := 0, cells := 0, slots := 0, locals := 0 } : Room).cells ({ frames := 0, cells := 0, slots := 0, locals := 0 } : Room).slots) (s₁.setTop (mkF m 120 #[.val (.int p0)] [])) := by
    intro _ jh
    refine own_step (fun _ k => XS.iloadN X0.here hx rfl (hb hby own_d1_120) rfl k) ?_
    show own_Ends p.tables e below _ (s₁.setTop (mkF m 121 #[.val (.int p0)] [(.int p0)]))
    refine own_step (fun _ k => XS.sipush X0.here hx rfl (hb hby own_d1_121) k) ?_
    show own_Ends p.tables e below _ (s₁.setTop (mkF m 124 #[.val (.int p0)] [(.int (8304 : Int32)), (.int p0)]))
    by_cases hc124 : p0 < (8304 : Int32)
    · refine own_step (fun _ k => XS.icmpYes X0.here hx rfl (pc0 := 124) (pc' := 134) rfl (hb hby own_d1_124) rfl (tlt hc124).1 (by decide) (by decide) k) ?_
      show own_Ends p.tables e below _ (s₁.setTop (mkF m 134 #[.val (.int p0)] []))
      exact jn134 trivial (by rw [jh, own_n120, if_pos hc124])
    · refine own_step (fun _ k => XS.icmpNo X0.here hx rfl (hb hby own_d1_124) rfl (flt hc124).1 k) ?_
      show own_Ends p.tables e below _ (s₁.setTop (mkF m 127 #[.val (.int p0)] []))
      refine own_step (fun _ k => XS.iloadN X0.here hx rfl (hb hby own_d1_127) rfl k) ?_
      show own_Ends p.tables e below _ (s₁.setTop (mkF m 128 #[.val (.int p0)] [(.int p0)]))
      refine own_step (fun _ k => XS.sipush X0.here hx rfl (hb hby own_d1_128) k) ?_
      show own_Ends p.tables e below _ (s₁.setTop (mkF m 131 #[.val (.int p0)] [(.int (8591 : Int32)), (.int p0)]))
      by_cases hc131 : (8591 : Int32) < p0
      · refine own_step (fun _ k => XS.icmpNo X0.here hx rfl (hb hby own_d1_131) rfl (tlt hc131).2.2.2 k) ?_
        show own_Ends p.tables e below _ (s₁.setTop (mkF m 134 #[.val (.int p0)] []))
        exact jn134 trivial (by rw [jh, own_n120, if_neg hc124, if_pos hc131])
      · refine own_step (fun _ k => XS.icmpYes X0.here hx rfl (pc0 := 131) (pc' := 197) rfl (hb hby own_d1_131) rfl (flt hc131).2.2.2 (by decide) (by decide) k) ?_
        show own_Ends p.tables e below _ (s₁.setTop (mkF m 197 #[.val (.int p0)] []))
        exact jn197 trivial (by rw [jh, own_n120, if_neg hc124, if_neg hc131])
  show own_Ends p.tables e below _ (s₁.setTop (mkF m 0 #[.val (.int p0)] []))
  have jn106 : ∀ (_ : True) (jh : own_n0 p0 = own_n106 p0), own_Ends p.tables e below (own_Q s (own_Q_ns Z p0 h0 n0) ({ frames := 0, cells := 0, slots := 0, locals := 0 } : Room).cells ({ frames := 0, cells := 0, slots := 0, locals := 0 } : Room).slots) (s₁.setTop (mkF m 106 #[.val (.int p0)] [])) := by
    intro _ jh
    refine own_step (fun _ k => XS.iloadN X0.here hx rfl (hb hby own_d1_106) rfl k) ?_
    show own_Ends p.tables e below _ (s₁.setTop (mkF m 107 #[.val (.int p0)] [(.int p0)]))
    refine own_step (fun _ k => XS.sipush X0.here hx rfl (hb hby own_d1_107) k) ?_
    show own_Ends p.tables e below _ (s₁.setTop (mkF m 110 #[.val (.int p0)] [(.int (8204 : Int32)), (.int p0)]))
    by_cases hc110 : p0 < (8204 : Int32)
    · refine own_step (fun _ k => XS.icmpYes X0.here hx rfl (pc0 := 110) (pc' := 120) rfl (hb hby own_d1_110) rfl (tlt hc110).1 (by decide) (by decide) k) ?_
      show own_Ends p.tables e below _ (s₁.setTop (mkF m 120 #[.val (.int p0)] []))
      exact jn120 trivial (by rw [jh, own_n106, if_pos hc110])
    · refine own_step (fun _ k => XS.icmpNo X0.here hx rfl (hb hby own_d1_110) rfl (flt hc110).1 k) ?_
      show own_Ends p.tables e below _ (s₁.setTop (mkF m 113 #[.val (.int p0)] []))
      refine own_step (fun _ k => XS.iloadN X0.here hx rfl (hb hby own_d1_113) rfl k) ?_
      show own_Ends p.tables e below _ (s₁.setTop (mkF m 114 #[.val (.int p0)] [(.int p0)]))
      refine own_step (fun _ k => XS.sipush X0.here hx rfl (hb hby own_d1_114) k) ?_
      show own_Ends p.tables e below _ (s₁.setTop (mkF m 117 #[.val (.int p0)] [(.int (8205 : Int32)), (.int p0)]))
      by_cases hc117 : (8205 : Int32) < p0
      · refine own_step (fun _ k => XS.icmpNo X0.here hx rfl (hb hby own_d1_117) rfl (tlt hc117).2.2.2 k) ?_
        show own_Ends p.tables e below _ (s₁.setTop (mkF m 120 #[.val (.int p0)] []))
        exact jn120 trivial (by rw [jh, own_n106, if_neg hc110, if_pos hc117])
      · refine own_step (fun _ k => XS.icmpYes X0.here hx rfl (pc0 := 117) (pc' := 197) rfl (hb hby own_d1_117) rfl (flt hc117).2.2.2 (by decide) (by decide) k) ?_
        show own_Ends p.tables e below _ (s₁.setTop (mkF m 197 #[.val (.int p0)] []))
        exact jn197 trivial (by rw [jh, own_n106, if_neg hc110, if_neg hc117])
  show own_Ends p.tables e below _ (s₁.setTop (mkF m 0 #[.val (.int p0)] []))
  have jn92 : ∀ (_ : True) (jh : own_n0 p0 = own_n92 p0), own_Ends p.tables e below (own_Q s (own_Q_ns Z p0 h0 n0) ({ frames := 0, cells := 0, slots := 0, locals := 0 } : Room).cells ({ frames := 0, cells := 0, slots := 0, locals := 0 } : Room).slots) (s₁.setTop (mkF m 92 #[.val (.int p0)] [])) := by
    intro _ jh
    refine own_step (fun _ k => XS.iloadN X0.here hx rfl (hb hby own_d1_92) rfl k) ?_
    show own_Ends p.tables e below _ (s₁.setTop (mkF m 93 #[.val (.int p0)] [(.int p0)]))
    refine own_step (fun _ k => XS.sipush X0.here hx rfl (hb hby own_d1_93) k) ?_
    show own_Ends p.tables e below _ (s₁.setTop (mkF m 96 #[.val (.int p0)] [(.int (895 : Int32)), (.int p0)]))
    by_cases hc96 : p0 < (895 : Int32)
    · refine own_step (fun _ k => XS.icmpYes X0.here hx rfl (pc0 := 96) (pc' := 106) rfl (hb hby own_d1_96) rfl (tlt hc96).1 (by decide) (by decide) k) ?_
      show own_Ends p.tables e below _ (s₁.setTop (mkF m 106 #[.val (.int p0)] []))
      exact jn106 trivial (by rw [jh, own_n92, if_pos hc96])
    · refine own_step (fun _ k => XS.icmpNo X0.here hx rfl (hb hby own_d1_96) rfl (flt hc96).1 k) ?_
      show own_Ends p.tables e below _ (s₁.setTop (mkF m 99 #[.val (.int p0)] []))
      refine own_step (fun _ k => XS.iloadN X0.here hx rfl (hb hby own_d1_99) rfl k) ?_
      show own_Ends p.tables e below _ (s₁.setTop (mkF m 100 #[.val (.int p0)] [(.int p0)]))
      refine own_step (fun _ k => XS.sipush X0.here hx rfl (hb hby own_d1_100) k) ?_
      show own_Ends p.tables e below _ (s₁.setTop (mkF m 103 #[.val (.int p0)] [(.int (8191 : Int32)), (.int p0)]))
      by_cases hc103 : (8191 : Int32) < p0
      · refine own_step (fun _ k => XS.icmpNo X0.here hx rfl (hb hby own_d1_103) rfl (tlt hc103).2.2.2 k) ?_
        show own_Ends p.tables e below _ (s₁.setTop (mkF m 106 #[.val (.int p0)] []))
        exact jn106 trivial (by rw [jh, own_n92, if_neg hc96, if_pos hc103])
      · refine own_step (fun _ k => XS.icmpYes X0.here hx rfl (pc0 := 103) (pc' := 197) rfl (hb hby own_d1_103) rfl (flt hc103).2.2.2 (by decide) (by decide) k) ?_
        show own_Ends p.tables e below _ (s₁.setTop (mkF m 197 #[.val (.int p0)] []))
        exact jn197 trivial (by rw [jh, own_n92, if_neg hc96, if_neg hc103])
  show own_Ends p.tables e below _ (s₁.setTop (mkF m 0 #[.val (.int p0)] []))
  have jn78 : ∀ (_ : True) (jh : own_n0 p0 = own_n78 p0), own_Ends p.tables e below (own_Q s (own_Q_ns Z p0 h0 n0) ({ frames := 0, cells := 0, slots := 0, locals := 0 } : Room).cells ({ frames := 0, cells := 0, slots := 0, locals := 0 } : Room).slots) (s₁.setTop (mkF m 78 #[.val (.int p0)] [])) := by
    intro _ jh
    refine own_step (fun _ k => XS.iloadN X0.here hx rfl (hb hby own_d1_78) rfl k) ?_
    show own_Ends p.tables e below _ (s₁.setTop (mkF m 79 #[.val (.int p0)] [(.int p0)]))
    refine own_step (fun _ k => XS.sipush X0.here hx rfl (hb hby own_d1_79) k) ?_
    show own_Ends p.tables e below _ (s₁.setTop (mkF m 82 #[.val (.int p0)] [(.int (880 : Int32)), (.int p0)]))
    by_cases hc82 : p0 < (880 : Int32)
    · refine own_step (fun _ k => XS.icmpYes X0.here hx rfl (pc0 := 82) (pc' := 92) rfl (hb hby own_d1_82) rfl (tlt hc82).1 (by decide) (by decide) k) ?_
      show own_Ends p.tables e below _ (s₁.setTop (mkF m 92 #[.val (.int p0)] []))
      exact jn92 trivial (by rw [jh, own_n78, if_pos hc82])
    · refine own_step (fun _ k => XS.icmpNo X0.here hx rfl (hb hby own_d1_82) rfl (flt hc82).1 k) ?_
      show own_Ends p.tables e below _ (s₁.setTop (mkF m 85 #[.val (.int p0)] []))
      refine own_step (fun _ k => XS.iloadN X0.here hx rfl (hb hby own_d1_85) rfl k) ?_
      show own_Ends p.tables e below _ (s₁.setTop (mkF m 86 #[.val (.int p0)] [(.int p0)]))
      refine own_step (fun _ k => XS.sipush X0.here hx rfl (hb hby own_d1_86) k) ?_
      show own_Ends p.tables e below _ (s₁.setTop (mkF m 89 #[.val (.int p0)] [(.int (893 : Int32)), (.int p0)]))
      by_cases hc89 : (893 : Int32) < p0
      · refine own_step (fun _ k => XS.icmpNo X0.here hx rfl (hb hby own_d1_89) rfl (tlt hc89).2.2.2 k) ?_
        show own_Ends p.tables e below _ (s₁.setTop (mkF m 92 #[.val (.int p0)] []))
        exact jn92 trivial (by rw [jh, own_n78, if_neg hc82, if_pos hc89])
      · refine own_step (fun _ k => XS.icmpYes X0.here hx rfl (pc0 := 89) (pc' := 197) rfl (hb hby own_d1_89) rfl (flt hc89).2.2.2 (by decide) (by decide) k) ?_
        show own_Ends p.tables e below _ (s₁.setTop (mkF m 197 #[.val (.int p0)] []))
        exact jn197 trivial (by rw [jh, own_n78, if_neg hc82, if_neg hc89])
  show own_Ends p.tables e below _ (s₁.setTop (mkF m 0 #[.val (.int p0)] []))
  have jn64 : ∀ (_ : True) (jh : own_n0 p0 = own_n64 p0), own_Ends p.tables e below (own_Q s (own_Q_ns Z p0 h0 n0) ({ frames := 0, cells := 0, slots := 0, locals := 0 } : Room).cells ({ frames := 0, cells := 0, slots := 0, locals := 0 } : Room).slots) (s₁.setTop (mkF m 64 #[.val (.int p0)] [])) := by
    intro _ jh
    refine own_step (fun _ k => XS.iloadN X0.here hx rfl (hb hby own_d1_64) rfl k) ?_
    show own_Ends p.tables e below _ (s₁.setTop (mkF m 65 #[.val (.int p0)] [(.int p0)]))
    refine own_step (fun _ k => XS.sipush X0.here hx rfl (hb hby own_d1_65) k) ?_
    show own_Ends p.tables e below _ (s₁.setTop (mkF m 68 #[.val (.int p0)] [(.int (248 : Int32)), (.int p0)]))
    by_cases hc68 : p0 < (248 : Int32)
    · refine own_step (fun _ k => XS.icmpYes X0.here hx rfl (pc0 := 68) (pc' := 78) rfl (hb hby own_d1_68) rfl (tlt hc68).1 (by decide) (by decide) k) ?_
      show own_Ends p.tables e below _ (s₁.setTop (mkF m 78 #[.val (.int p0)] []))
      exact jn78 trivial (by rw [jh, own_n64, if_pos hc68])
    · refine own_step (fun _ k => XS.icmpNo X0.here hx rfl (hb hby own_d1_68) rfl (flt hc68).1 k) ?_
      show own_Ends p.tables e below _ (s₁.setTop (mkF m 71 #[.val (.int p0)] []))
      refine own_step (fun _ k => XS.iloadN X0.here hx rfl (hb hby own_d1_71) rfl k) ?_
      show own_Ends p.tables e below _ (s₁.setTop (mkF m 72 #[.val (.int p0)] [(.int p0)]))
      refine own_step (fun _ k => XS.sipush X0.here hx rfl (hb hby own_d1_72) k) ?_
      show own_Ends p.tables e below _ (s₁.setTop (mkF m 75 #[.val (.int p0)] [(.int (767 : Int32)), (.int p0)]))
      by_cases hc75 : (767 : Int32) < p0
      · refine own_step (fun _ k => XS.icmpNo X0.here hx rfl (hb hby own_d1_75) rfl (tlt hc75).2.2.2 k) ?_
        show own_Ends p.tables e below _ (s₁.setTop (mkF m 78 #[.val (.int p0)] []))
        exact jn78 trivial (by rw [jh, own_n64, if_neg hc68, if_pos hc75])
      · refine own_step (fun _ k => XS.icmpYes X0.here hx rfl (pc0 := 75) (pc' := 197) rfl (hb hby own_d1_75) rfl (flt hc75).2.2.2 (by decide) (by decide) k) ?_
        show own_Ends p.tables e below _ (s₁.setTop (mkF m 197 #[.val (.int p0)] []))
        exact jn197 trivial (by rw [jh, own_n64, if_neg hc68, if_neg hc75])
  show own_Ends p.tables e below _ (s₁.setTop (mkF m 0 #[.val (.int p0)] []))
  have jn50 : ∀ (_ : True) (jh : own_n0 p0 = own_n50 p0), own_Ends p.tables e below (own_Q s (own_Q_ns Z p0 h0 n0) ({ frames := 0, cells := 0, slots := 0, locals := 0 } : Room).cells ({ frames := 0, cells := 0, slots := 0, locals := 0 } : Room).slots) (s₁.setTop (mkF m 50 #[.val (.int p0)] [])) := by
    intro _ jh
    refine own_step (fun _ k => XS.iloadN X0.here hx rfl (hb hby own_d1_50) rfl k) ?_
    show own_Ends p.tables e below _ (s₁.setTop (mkF m 51 #[.val (.int p0)] [(.int p0)]))
    refine own_step (fun _ k => XS.sipush X0.here hx rfl (hb hby own_d1_51) k) ?_
    show own_Ends p.tables e below _ (s₁.setTop (mkF m 54 #[.val (.int p0)] [(.int (216 : Int32)), (.int p0)]))
    by_cases hc54 : p0 < (216 : Int32)
    · refine own_step (fun _ k => XS.icmpYes X0.here hx rfl (pc0 := 54) (pc' := 64) rfl (hb hby own_d1_54) rfl (tlt hc54).1 (by decide) (by decide) k) ?_
      show own_Ends p.tables e below _ (s₁.setTop (mkF m 64 #[.val (.int p0)] []))
      exact jn64 trivial (by rw [jh, own_n50, if_pos hc54])
    · refine own_step (fun _ k => XS.icmpNo X0.here hx rfl (hb hby own_d1_54) rfl (flt hc54).1 k) ?_
      show own_Ends p.tables e below _ (s₁.setTop (mkF m 57 #[.val (.int p0)] []))
      refine own_step (fun _ k => XS.iloadN X0.here hx rfl (hb hby own_d1_57) rfl k) ?_
      show own_Ends p.tables e below _ (s₁.setTop (mkF m 58 #[.val (.int p0)] [(.int p0)]))
      refine own_step (fun _ k => XS.sipush X0.here hx rfl (hb hby own_d1_58) k) ?_
      show own_Ends p.tables e below _ (s₁.setTop (mkF m 61 #[.val (.int p0)] [(.int (246 : Int32)), (.int p0)]))
      by_cases hc61 : (246 : Int32) < p0
      · refine own_step (fun _ k => XS.icmpNo X0.here hx rfl (hb hby own_d1_61) rfl (tlt hc61).2.2.2 k) ?_
        show own_Ends p.tables e below _ (s₁.setTop (mkF m 64 #[.val (.int p0)] []))
        exact jn64 trivial (by rw [jh, own_n50, if_neg hc54, if_pos hc61])
      · refine own_step (fun _ k => XS.icmpYes X0.here hx rfl (pc0 := 61) (pc' := 197) rfl (hb hby own_d1_61) rfl (flt hc61).2.2.2 (by decide) (by decide) k) ?_
        show own_Ends p.tables e below _ (s₁.setTop (mkF m 197 #[.val (.int p0)] []))
        exact jn197 trivial (by rw [jh, own_n50, if_neg hc54, if_neg hc61])
  show own_Ends p.tables e below _ (s₁.setTop (mkF m 0 #[.val (.int p0)] []))
  have jn24 : ∀ (_ : True) (jh : own_n0 p0 = own_n24 p0), own_Ends p.tables e below (own_Q s (own_Q_ns Z p0 h0 n0) ({ frames := 0, cells := 0, slots := 0, locals := 0 } : Room).cells ({ frames := 0, cells := 0, slots := 0, locals := 0 } : Room).slots) (s₁.setTop (mkF m 24 #[.val (.int p0)] [])) := by
    intro _ jh
    refine own_step (fun _ k => XS.iloadN X0.here hx rfl (hb hby own_d1_24) rfl k) ?_
    show own_Ends p.tables e below _ (s₁.setTop (mkF m 25 #[.val (.int p0)] [(.int p0)]))
    refine own_step (fun _ k => XS.bipush X0.here hx rfl (hb hby own_d1_25) k) ?_
    show own_Ends p.tables e below _ (s₁.setTop (mkF m 27 #[.val (.int p0)] [(.int (95 : Int32)), (.int p0)]))
    by_cases hc27 : p0 = (95 : Int32)
    · refine own_step (fun _ k => XS.icmpYes X0.here hx rfl (pc0 := 27) (pc' := 197) rfl (hb hby own_d1_27) rfl (teq hc27).1 (by decide) (by decide) k) ?_
      show own_Ends p.tables e below _ (s₁.setTop (mkF m 197 #[.val (.int p0)] []))
      exact jn197 trivial (by rw [jh, own_n24, if_pos hc27])
    · refine own_step (fun _ k => XS.icmpNo X0.here hx rfl (hb hby own_d1_27) rfl (feq hc27).1 k) ?_
      show own_Ends p.tables e below _ (s₁.setTop (mkF m 30 #[.val (.int p0)] []))
      refine own_step (fun _ k => XS.iloadN X0.here hx rfl (hb hby own_d1_30) rfl k) ?_
      show own_Ends p.tables e below _ (s₁.setTop (mkF m 31 #[.val (.int p0)] [(.int p0)]))
      refine own_step (fun _ k => XS.bipush X0.here hx rfl (hb hby own_d1_31) k) ?_
      show own_Ends p.tables e below _ (s₁.setTop (mkF m 33 #[.val (.int p0)] [(.int (58 : Int32)), (.int p0)]))
      by_cases hc33 : p0 = (58 : Int32)
      · refine own_step (fun _ k => XS.icmpYes X0.here hx rfl (pc0 := 33) (pc' := 197) rfl (hb hby own_d1_33) rfl (teq hc33).1 (by decide) (by decide) k) ?_
        show own_Ends p.tables e below _ (s₁.setTop (mkF m 197 #[.val (.int p0)] []))
        exact jn197 trivial (by rw [jh, own_n24, if_neg hc27, if_pos hc33])
      · refine own_step (fun _ k => XS.icmpNo X0.here hx rfl (hb hby own_d1_33) rfl (feq hc33).1 k) ?_
        show own_Ends p.tables e below _ (s₁.setTop (mkF m 36 #[.val (.int p0)] []))
        refine own_step (fun _ k => XS.iloadN X0.here hx rfl (hb hby own_d1_36) rfl k) ?_
        show own_Ends p.tables e below _ (s₁.setTop (mkF m 37 #[.val (.int p0)] [(.int p0)]))
        refine own_step (fun _ k => XS.sipush X0.here hx rfl (hb hby own_d1_37) k) ?_
        show own_Ends p.tables e below _ (s₁.setTop (mkF m 40 #[.val (.int p0)] [(.int (192 : Int32)), (.int p0)]))
        by_cases hc40 : p0 < (192 : Int32)
        · refine own_step (fun _ k => XS.icmpYes X0.here hx rfl (pc0 := 40) (pc' := 50) rfl (hb hby own_d1_40) rfl (tlt hc40).1 (by decide) (by decide) k) ?_
          show own_Ends p.tables e below _ (s₁.setTop (mkF m 50 #[.val (.int p0)] []))
          exact jn50 trivial (by rw [jh, own_n24, if_neg hc27, if_neg hc33, if_pos hc40])
        · refine own_step (fun _ k => XS.icmpNo X0.here hx rfl (hb hby own_d1_40) rfl (flt hc40).1 k) ?_
          show own_Ends p.tables e below _ (s₁.setTop (mkF m 43 #[.val (.int p0)] []))
          refine own_step (fun _ k => XS.iloadN X0.here hx rfl (hb hby own_d1_43) rfl k) ?_
          show own_Ends p.tables e below _ (s₁.setTop (mkF m 44 #[.val (.int p0)] [(.int p0)]))
          refine own_step (fun _ k => XS.sipush X0.here hx rfl (hb hby own_d1_44) k) ?_
          show own_Ends p.tables e below _ (s₁.setTop (mkF m 47 #[.val (.int p0)] [(.int (214 : Int32)), (.int p0)]))
          by_cases hc47 : (214 : Int32) < p0
          · refine own_step (fun _ k => XS.icmpNo X0.here hx rfl (hb hby own_d1_47) rfl (tlt hc47).2.2.2 k) ?_
            show own_Ends p.tables e below _ (s₁.setTop (mkF m 50 #[.val (.int p0)] []))
            exact jn50 trivial (by rw [jh, own_n24, if_neg hc27, if_neg hc33, if_neg hc40, if_pos hc47])
          · refine own_step (fun _ k => XS.icmpYes X0.here hx rfl (pc0 := 47) (pc' := 197) rfl (hb hby own_d1_47) rfl (flt hc47).2.2.2 (by decide) (by decide) k) ?_
            show own_Ends p.tables e below _ (s₁.setTop (mkF m 197 #[.val (.int p0)] []))
            exact jn197 trivial (by rw [jh, own_n24, if_neg hc27, if_neg hc33, if_neg hc40, if_neg hc47])
  show own_Ends p.tables e below _ (s₁.setTop (mkF m 0 #[.val (.int p0)] []))
  have jn12 : ∀ (_ : True) (jh : own_n0 p0 = own_n12 p0), own_Ends p.tables e below (own_Q s (own_Q_ns Z p0 h0 n0) ({ frames := 0, cells := 0, slots := 0, locals := 0 } : Room).cells ({ frames := 0, cells := 0, slots := 0, locals := 0 } : Room).slots) (s₁.setTop (mkF m 12 #[.val (.int p0)] [])) := by
    intro _ jh
    refine own_step (fun _ k => XS.iloadN X0.here hx rfl (hb hby own_d1_12) rfl k) ?_
    show own_Ends p.tables e below _ (s₁.setTop (mkF m 13 #[.val (.int p0)] [(.int p0)]))
    refine own_step (fun _ k => XS.bipush X0.here hx rfl (hb hby own_d1_13) k) ?_
    show own_Ends p.tables e below _ (s₁.setTop (mkF m 15 #[.val (.int p0)] [(.int (65 : Int32)), (.int p0)]))
    by_cases hc15 : p0 < (65 : Int32)
    · refine own_step (fun _ k => XS.icmpYes X0.here hx rfl (pc0 := 15) (pc' := 24) rfl (hb hby own_d1_15) rfl (tlt hc15).1 (by decide) (by decide) k) ?_
      show own_Ends p.tables e below _ (s₁.setTop (mkF m 24 #[.val (.int p0)] []))
      exact jn24 trivial (by rw [jh, own_n12, if_pos hc15])
    · refine own_step (fun _ k => XS.icmpNo X0.here hx rfl (hb hby own_d1_15) rfl (flt hc15).1 k) ?_
      show own_Ends p.tables e below _ (s₁.setTop (mkF m 18 #[.val (.int p0)] []))
      refine own_step (fun _ k => XS.iloadN X0.here hx rfl (hb hby own_d1_18) rfl k) ?_
      show own_Ends p.tables e below _ (s₁.setTop (mkF m 19 #[.val (.int p0)] [(.int p0)]))
      refine own_step (fun _ k => XS.bipush X0.here hx rfl (hb hby own_d1_19) k) ?_
      show own_Ends p.tables e below _ (s₁.setTop (mkF m 21 #[.val (.int p0)] [(.int (90 : Int32)), (.int p0)]))
      by_cases hc21 : (90 : Int32) < p0
      · refine own_step (fun _ k => XS.icmpNo X0.here hx rfl (hb hby own_d1_21) rfl (tlt hc21).2.2.2 k) ?_
        show own_Ends p.tables e below _ (s₁.setTop (mkF m 24 #[.val (.int p0)] []))
        exact jn24 trivial (by rw [jh, own_n12, if_neg hc15, if_pos hc21])
      · refine own_step (fun _ k => XS.icmpYes X0.here hx rfl (pc0 := 21) (pc' := 197) rfl (hb hby own_d1_21) rfl (flt hc21).2.2.2 (by decide) (by decide) k) ?_
        show own_Ends p.tables e below _ (s₁.setTop (mkF m 197 #[.val (.int p0)] []))
        exact jn197 trivial (by rw [jh, own_n12, if_neg hc15, if_neg hc21])
  show own_Ends p.tables e below _ (s₁.setTop (mkF m 0 #[.val (.int p0)] []))
  refine own_step (fun _ k => XS.iloadN X0.here hx rfl (hb hby own_d1_0) rfl k) ?_
  show own_Ends p.tables e below _ (s₁.setTop (mkF m 1 #[.val (.int p0)] [(.int p0)]))
  refine own_step (fun _ k => XS.bipush X0.here hx rfl (hb hby own_d1_1) k) ?_
  show own_Ends p.tables e below _ (s₁.setTop (mkF m 3 #[.val (.int p0)] [(.int (97 : Int32)), (.int p0)]))
  by_cases hc3 : p0 < (97 : Int32)
  · refine own_step (fun _ k => XS.icmpYes X0.here hx rfl (pc0 := 3) (pc' := 12) rfl (hb hby own_d1_3) rfl (tlt hc3).1 (by decide) (by decide) k) ?_
    show own_Ends p.tables e below _ (s₁.setTop (mkF m 12 #[.val (.int p0)] []))
    exact jn12 trivial (by rw [own_n0, if_pos hc3])
  · refine own_step (fun _ k => XS.icmpNo X0.here hx rfl (hb hby own_d1_3) rfl (flt hc3).1 k) ?_
    show own_Ends p.tables e below _ (s₁.setTop (mkF m 6 #[.val (.int p0)] []))
    refine own_step (fun _ k => XS.iloadN X0.here hx rfl (hb hby own_d1_6) rfl k) ?_
    show own_Ends p.tables e below _ (s₁.setTop (mkF m 7 #[.val (.int p0)] [(.int p0)]))
    refine own_step (fun _ k => XS.bipush X0.here hx rfl (hb hby own_d1_7) k) ?_
    show own_Ends p.tables e below _ (s₁.setTop (mkF m 9 #[.val (.int p0)] [(.int (122 : Int32)), (.int p0)]))
    by_cases hc9 : (122 : Int32) < p0
    · refine own_step (fun _ k => XS.icmpNo X0.here hx rfl (hb hby own_d1_9) rfl (tlt hc9).2.2.2 k) ?_
      show own_Ends p.tables e below _ (s₁.setTop (mkF m 12 #[.val (.int p0)] []))
      exact jn12 trivial (by rw [own_n0, if_neg hc3, if_pos hc9])
    · refine own_step (fun _ k => XS.icmpYes X0.here hx rfl (pc0 := 9) (pc' := 197) rfl (hb hby own_d1_9) rfl (flt hc9).2.2.2 (by decide) (by decide) k) ?_
      show own_Ends p.tables e below _ (s₁.setTop (mkF m 197 #[.val (.int p0)] []))
      exact jn197 trivial (by rw [own_n0, if_neg hc3, if_neg hc9])
theorem own_d2_0 : decode method_2_code 0 = .ok (.iload_n 0, 1) := by decide +kernel
theorem own_d2_1 : decode method_2_code 1 = .ok (.bipush 58, 2) := by decide +kernel
theorem own_d2_3 : decode method_2_code 3 = .ok (.if_icmp .ge 5, 3) := by decide +kernel
theorem own_d2_6 : decode method_2_code 6 = .ok (.iconst 1, 1) := by decide +kernel
theorem own_d2_7 : decode method_2_code 7 = .ok (.ireturn, 1) := by decide +kernel
theorem own_d2_8 : decode method_2_code 8 = .ok (.iload_n 0, 1) := by decide +kernel
theorem own_d2_9 : decode method_2_code 9 = .ok (.bipush 59, 2) := by decide +kernel
theorem own_d2_11 : decode method_2_code 11 = .ok (.if_icmp .lt 11, 3) := by decide +kernel
theorem own_d2_14 : decode method_2_code 14 = .ok (.iload_n 0, 1) := by decide +kernel
theorem own_d2_15 : decode method_2_code 15 = .ok (.bipush 64, 2) := by decide +kernel
theorem own_d2_17 : decode method_2_code 17 = .ok (.if_icmp .gt 5, 3) := by decide +kernel
theorem own_d2_20 : decode method_2_code 20 = .ok (.iconst 1, 1) := by decide +kernel
theorem own_d2_21 : decode method_2_code 21 = .ok (.ireturn, 1) := by decide +kernel
theorem own_d2_22 : decode method_2_code 22 = .ok (.iload_n 0, 1) := by decide +kernel
theorem own_d2_23 : decode method_2_code 23 = .ok (.bipush 91, 2) := by decide +kernel
theorem own_d2_25 : decode method_2_code 25 = .ok (.if_icmp .lt 11, 3) := by decide +kernel
theorem own_d2_28 : decode method_2_code 28 = .ok (.iload_n 0, 1) := by decide +kernel
theorem own_d2_29 : decode method_2_code 29 = .ok (.bipush 94, 2) := by decide +kernel
theorem own_d2_31 : decode method_2_code 31 = .ok (.if_icmp .gt 5, 3) := by decide +kernel
theorem own_d2_34 : decode method_2_code 34 = .ok (.iconst 1, 1) := by decide +kernel
theorem own_d2_35 : decode method_2_code 35 = .ok (.ireturn, 1) := by decide +kernel
theorem own_d2_36 : decode method_2_code 36 = .ok (.iload_n 0, 1) := by decide +kernel
theorem own_d2_37 : decode method_2_code 37 = .ok (.bipush 96, 2) := by decide +kernel
theorem own_d2_39 : decode method_2_code 39 = .ok (.if_icmp .ne 5, 3) := by decide +kernel
theorem own_d2_42 : decode method_2_code 42 = .ok (.iconst 1, 1) := by decide +kernel
theorem own_d2_43 : decode method_2_code 43 = .ok (.ireturn, 1) := by decide +kernel
theorem own_d2_44 : decode method_2_code 44 = .ok (.iload_n 0, 1) := by decide +kernel
theorem own_d2_45 : decode method_2_code 45 = .ok (.bipush 123, 2) := by decide +kernel
theorem own_d2_47 : decode method_2_code 47 = .ok (.if_icmp .lt 12, 3) := by decide +kernel
theorem own_d2_50 : decode method_2_code 50 = .ok (.iload_n 0, 1) := by decide +kernel
theorem own_d2_51 : decode method_2_code 51 = .ok (.sipush 191, 3) := by decide +kernel
theorem own_d2_54 : decode method_2_code 54 = .ok (.if_icmp .gt 5, 3) := by decide +kernel
theorem own_d2_57 : decode method_2_code 57 = .ok (.iconst 1, 1) := by decide +kernel
theorem own_d2_58 : decode method_2_code 58 = .ok (.ireturn, 1) := by decide +kernel
theorem own_d2_59 : decode method_2_code 59 = .ok (.iload_n 0, 1) := by decide +kernel
theorem own_d2_60 : decode method_2_code 60 = .ok (.sipush 215, 3) := by decide +kernel
theorem own_d2_63 : decode method_2_code 63 = .ok (.if_icmp .eq 10, 3) := by decide +kernel
theorem own_d2_66 : decode method_2_code 66 = .ok (.iload_n 0, 1) := by decide +kernel
theorem own_d2_67 : decode method_2_code 67 = .ok (.sipush 247, 3) := by decide +kernel
theorem own_d2_70 : decode method_2_code 70 = .ok (.if_icmp .ne 5, 3) := by decide +kernel
theorem own_d2_73 : decode method_2_code 73 = .ok (.iconst 1, 1) := by decide +kernel
theorem own_d2_74 : decode method_2_code 74 = .ok (.ireturn, 1) := by decide +kernel
theorem own_d2_75 : decode method_2_code 75 = .ok (.iload_n 0, 1) := by decide +kernel
theorem own_d2_76 : decode method_2_code 76 = .ok (.sipush 768, 3) := by decide +kernel
theorem own_d2_79 : decode method_2_code 79 = .ok (.if_icmp .lt 12, 3) := by decide +kernel
theorem own_d2_82 : decode method_2_code 82 = .ok (.iload_n 0, 1) := by decide +kernel
theorem own_d2_83 : decode method_2_code 83 = .ok (.sipush 879, 3) := by decide +kernel
theorem own_d2_86 : decode method_2_code 86 = .ok (.if_icmp .gt 5, 3) := by decide +kernel
theorem own_d2_89 : decode method_2_code 89 = .ok (.iconst 1, 1) := by decide +kernel
theorem own_d2_90 : decode method_2_code 90 = .ok (.ireturn, 1) := by decide +kernel
theorem own_d2_91 : decode method_2_code 91 = .ok (.iload_n 0, 1) := by decide +kernel
theorem own_d2_92 : decode method_2_code 92 = .ok (.sipush 894, 3) := by decide +kernel
theorem own_d2_95 : decode method_2_code 95 = .ok (.if_icmp .ne 5, 3) := by decide +kernel
theorem own_d2_98 : decode method_2_code 98 = .ok (.iconst 1, 1) := by decide +kernel
theorem own_d2_99 : decode method_2_code 99 = .ok (.ireturn, 1) := by decide +kernel
theorem own_d2_100 : decode method_2_code 100 = .ok (.iload_n 0, 1) := by decide +kernel
theorem own_d2_101 : decode method_2_code 101 = .ok (.sipush 8192, 3) := by decide +kernel
theorem own_d2_104 : decode method_2_code 104 = .ok (.if_icmp .lt 12, 3) := by decide +kernel
theorem own_d2_107 : decode method_2_code 107 = .ok (.iload_n 0, 1) := by decide +kernel
theorem own_d2_108 : decode method_2_code 108 = .ok (.sipush 8203, 3) := by decide +kernel
theorem own_d2_111 : decode method_2_code 111 = .ok (.if_icmp .gt 5, 3) := by decide +kernel
theorem own_d2_114 : decode method_2_code 114 = .ok (.iconst 1, 1) := by decide +kernel
theorem own_d2_115 : decode method_2_code 115 = .ok (.ireturn, 1) := by decide +kernel
theorem own_d2_116 : decode method_2_code 116 = .ok (.iload_n 0, 1) := by decide +kernel
theorem own_d2_117 : decode method_2_code 117 = .ok (.sipush 8206, 3) := by decide +kernel
theorem own_d2_120 : decode method_2_code 120 = .ok (.if_icmp .lt 12, 3) := by decide +kernel
theorem own_d2_123 : decode method_2_code 123 = .ok (.iload_n 0, 1) := by decide +kernel
theorem own_d2_124 : decode method_2_code 124 = .ok (.sipush 8303, 3) := by decide +kernel
theorem own_d2_127 : decode method_2_code 127 = .ok (.if_icmp .gt 5, 3) := by decide +kernel
theorem own_d2_130 : decode method_2_code 130 = .ok (.iconst 1, 1) := by decide +kernel
theorem own_d2_131 : decode method_2_code 131 = .ok (.ireturn, 1) := by decide +kernel
theorem own_d2_132 : decode method_2_code 132 = .ok (.iload_n 0, 1) := by decide +kernel
theorem own_d2_133 : decode method_2_code 133 = .ok (.sipush 8592, 3) := by decide +kernel
theorem own_d2_136 : decode method_2_code 136 = .ok (.if_icmp .lt 12, 3) := by decide +kernel
theorem own_d2_139 : decode method_2_code 139 = .ok (.iload_n 0, 1) := by decide +kernel
theorem own_d2_140 : decode method_2_code 140 = .ok (.sipush 11263, 3) := by decide +kernel
theorem own_d2_143 : decode method_2_code 143 = .ok (.if_icmp .gt 5, 3) := by decide +kernel
theorem own_d2_146 : decode method_2_code 146 = .ok (.iconst 1, 1) := by decide +kernel
theorem own_d2_147 : decode method_2_code 147 = .ok (.ireturn, 1) := by decide +kernel
theorem own_d2_148 : decode method_2_code 148 = .ok (.iload_n 0, 1) := by decide +kernel
theorem own_d2_149 : decode method_2_code 149 = .ok (.sipush 12272, 3) := by decide +kernel
theorem own_d2_152 : decode method_2_code 152 = .ok (.if_icmp .lt 12, 3) := by decide +kernel
theorem own_d2_155 : decode method_2_code 155 = .ok (.iload_n 0, 1) := by decide +kernel
theorem own_d2_156 : decode method_2_code 156 = .ok (.sipush 12288, 3) := by decide +kernel
theorem own_d2_159 : decode method_2_code 159 = .ok (.if_icmp .gt 5, 3) := by decide +kernel
theorem own_d2_162 : decode method_2_code 162 = .ok (.iconst 1, 1) := by decide +kernel
theorem own_d2_163 : decode method_2_code 163 = .ok (.ireturn, 1) := by decide +kernel
theorem own_d2_164 : decode method_2_code 164 = .ok (.iload_n 0, 1) := by decide +kernel
theorem own_d2_165 : decode method_2_code 165 = .ok (.ldc 7, 2) := by decide +kernel
theorem own_d2_167 : decode method_2_code 167 = .ok (.if_icmp .lt 11, 3) := by decide +kernel
theorem own_d2_170 : decode method_2_code 170 = .ok (.iload_n 0, 1) := by decide +kernel
theorem own_d2_171 : decode method_2_code 171 = .ok (.ldc 8, 2) := by decide +kernel
theorem own_d2_173 : decode method_2_code 173 = .ok (.if_icmp .gt 5, 3) := by decide +kernel
theorem own_d2_176 : decode method_2_code 176 = .ok (.iconst 1, 1) := by decide +kernel
theorem own_d2_177 : decode method_2_code 177 = .ok (.ireturn, 1) := by decide +kernel
theorem own_d2_178 : decode method_2_code 178 = .ok (.iload_n 0, 1) := by decide +kernel
theorem own_d2_179 : decode method_2_code 179 = .ok (.ldc 9, 2) := by decide +kernel
theorem own_d2_181 : decode method_2_code 181 = .ok (.if_icmp .lt 11, 3) := by decide +kernel
theorem own_d2_184 : decode method_2_code 184 = .ok (.iload_n 0, 1) := by decide +kernel
theorem own_d2_185 : decode method_2_code 185 = .ok (.ldc 10, 2) := by decide +kernel
theorem own_d2_187 : decode method_2_code 187 = .ok (.if_icmp .gt 5, 3) := by decide +kernel
theorem own_d2_190 : decode method_2_code 190 = .ok (.iconst 1, 1) := by decide +kernel
theorem own_d2_191 : decode method_2_code 191 = .ok (.ireturn, 1) := by decide +kernel
theorem own_d2_192 : decode method_2_code 192 = .ok (.iload_n 0, 1) := by decide +kernel
theorem own_d2_193 : decode method_2_code 193 = .ok (.ldc 11, 2) := by decide +kernel
theorem own_d2_195 : decode method_2_code 195 = .ok (.if_icmp .lt 11, 3) := by decide +kernel
theorem own_d2_198 : decode method_2_code 198 = .ok (.iload_n 0, 1) := by decide +kernel
theorem own_d2_199 : decode method_2_code 199 = .ok (.ldc 12, 2) := by decide +kernel
theorem own_d2_201 : decode method_2_code 201 = .ok (.if_icmp .gt 5, 3) := by decide +kernel
theorem own_d2_204 : decode method_2_code 204 = .ok (.iconst 1, 1) := by decide +kernel
theorem own_d2_205 : decode method_2_code 205 = .ok (.ireturn, 1) := by decide +kernel
theorem own_d2_206 : decode method_2_code 206 = .ok (.iload_n 0, 1) := by decide +kernel
theorem own_d2_207 : decode method_2_code 207 = .ok (.ldc 13, 2) := by decide +kernel
theorem own_d2_209 : decode method_2_code 209 = .ok (.if_icmp .le 5, 3) := by decide +kernel
theorem own_d2_212 : decode method_2_code 212 = .ok (.iconst 1, 1) := by decide +kernel
theorem own_d2_213 : decode method_2_code 213 = .ok (.ireturn, 1) := by decide +kernel
theorem own_d2_214 : decode method_2_code 214 = .ok (.iconst 0, 1) := by decide +kernel
theorem own_d2_215 : decode method_2_code 215 = .ok (.ireturn, 1) := by decide +kernel
theorem own_pn1 : plainName "com/example/escar/escar/schema/datatype/XmlNamesIsNameStartCharPinLaw" = true := by first | (simp [plainName, overriddenIn]; done) | decide +kernel
theorem own_ef_2 (m : MethodId) (x0 : Int32) : entryFrame m #[(.int x0)] 1 = mkF m 0 #[.val (.int x0)] [] := by first | (simp [entryFrame, mkF, argsToLocals, Value.category]; done) | rfl
def own_Q_gap (Z : State) (p0 : Int32) (h0 : Heap) (n0 : Nat) (v : Option Value) (h : Heap) (L : List Loc) : Prop := v = some (.int (own_g0 p0)) ∧ Fr n0 L ∧ h = h0
set_option maxRecDepth 65536 in
set_option maxHeartbeats 40000000 in
theorem own_rm_gap (l : Launch) (Z : State) (a0 : Array Value) (hw : ∀ d ∈ tables_1, d.before a0 Z = true) (ws : List Jvm.Cond) (p0 : Int32) (h0 : Heap) (n0 : Nat) (Z0 : n0 ≤ h0.size) :
    MetFree l (⟨"com/example/escar/escar/schema/datatype/XmlNamesIsNameStartCharPinLaw", "inGap", "(I)Z"⟩ : MethodName) (head1 (Jvm.Cond.code (⟨"com/example/escar/escar/schema/datatype/XmlNamesIsNameStartCharPinLaw", "inGap", "(I)Z"⟩ : MethodName) method_2_code 1 (some .boolean) :: ws) ({ frames := 0, cells := 0, slots := 0, locals := 0 } : Room)) (fun a U => a = #[(.int p0)] ∧ Z.Warmed39 U.vm ∧ U.heap = h0) (fun _ _ _ _ _ => True) (fun _ U o U' => ∃ v L, o = .returned v ∧ own_Q_gap Z p0 h0 n0 v U'.heap L ∧ FrameEnd U o U' L ({ frames := 0, cells := 0, slots := 0, locals := 0 } : Room).cells ({ frames := 0, cells := 0, slots := 0, locals := 0 } : Room).slots) := by
  refine MetFree.of_bodySF (plainFor_of_name own_pn1) hisR ?_
  intro p e s m args below meth c s₁ Bd hml0 hP hK
  obtain ⟨rfl, hZ, hh⟩ := hP
  have hx := Bd.exec
  have hby := Bd.bytes
  have hlk : meth.locks = false := BodyLoose.notSynchronized Bd
  have hml : c.maxLocals = 1 := hml0
  have hown : s.vm.findClass "com/example/escar/escar/schema/datatype/XmlNamesIsNameStartCharPinLaw" = some m.cls := findClass_of_methodNamed Bd.named
  have hnm := (name_of_methodNamed Bd.named Bd.method).1
  have X0 : Stand p l e ({ frames := 0, cells := 0, slots := 0, locals := 0 } : Room) s m #[(.int p0)] below meth c s₁ [] 0 0 := Stand.of_body Bd
  have e0 : s₁.heap = h0 := by rw [← hh, Bd.state]; rfl
  have N0 := Fr.nil n0
  have K0 : Keep h0 h0 [] := Keep.refl _ _
  have pre0 : ∀ t, Steps p.tables e below (s₁.setTop (mkF m 0 #[.val (.int p0)] [])) t → Steps p.tables e below (s₁.setTop (entryFrame m #[(.int p0)] 1)) t := fun t k => castTop (own_ef_2 m p0) k
  show own_Ends p.tables e below (own_Q s (own_Q_gap Z p0 h0 n0) ({ frames := 0, cells := 0, slots := 0, locals := 0 } : Room).cells ({ frames := 0, cells := 0, slots := 0, locals := 0 } : Room).slots) (s₁.setTop (entryFrame m #[(.int p0)] 1))
  refine own_step pre0 ?_
  show own_Ends p.tables e below _ (s₁.setTop (mkF m 0 #[.val (.int p0)] []))
  have jn214 : ∀ (_ : True) (jh : own_g0 p0 = own_g214 p0), own_Ends p.tables e below (own_Q s (own_Q_gap Z p0 h0 n0) ({ frames := 0, cells := 0, slots := 0, locals := 0 } : Room).cells ({ frames := 0, cells := 0, slots := 0, locals := 0 } : Room).slots) (s₁.setTop (mkF m 214 #[.val (.int p0)] [])) := by
    intro _ jh
    refine own_step (fun _ k => XS.iconst X0.here hx rfl (hb hby own_d2_214) k) ?_
    show own_Ends p.tables e below _ (s₁.setTop (mkF m 215 #[.val (.int p0)] [(.int (0 : Int32))]))
    exact own_retN X0 hx hlk (by decide) (by decide) (t := .boolean) Bd.returns (by simp) (hb hby own_d2_215) (by rw [e0]; exact ⟨by rw [show own_g0 p0 = (0 : Int32) by rw [jh, own_g214]]; rfl, N0, rfl⟩)
  show own_Ends p.tables e below _ (s₁.setTop (mkF m 0 #[.val (.int p0)] []))
  have jn206 : ∀ (_ : True) (jh : own_g0 p0 = own_g206 p0), own_Ends p.tables e below (own_Q s (own_Q_gap Z p0 h0 n0) ({ frames := 0, cells := 0, slots := 0, locals := 0 } : Room).cells ({ frames := 0, cells := 0, slots := 0, locals := 0 } : Room).slots) (s₁.setTop (mkF m 206 #[.val (.int p0)] [])) := by
    intro _ jh
    refine own_step (fun _ k => XS.iloadN X0.here hx rfl (hb hby own_d2_206) rfl k) ?_
    show own_Ends p.tables e below _ (s₁.setTop (mkF m 207 #[.val (.int p0)] [(.int p0)]))
    refine own_step (fun _ k => X0.ldcInt hx hown (mvT hZ (hw _ (List.mem_of_getElem? (i := 14) rfl))) (g := (mkF m 207 #[.val (.int p0)] [(.int p0)])) rfl (hb hby own_d2_207) _ k) ?_
    show own_Ends p.tables e below _ (s₁.setTop (mkF m 209 #[.val (.int p0)] [(.int (983039 : Int32)), (.int p0)]))
    by_cases hc209 : (983039 : Int32) < p0
    · refine own_step (fun _ k => XS.icmpNo X0.here hx rfl (hb hby own_d2_209) rfl (tlt hc209).2.2.2 k) ?_
      show own_Ends p.tables e below _ (s₁.setTop (mkF m 212 #[.val (.int p0)] []))
      refine own_step (fun _ k => XS.iconst X0.here hx rfl (hb hby own_d2_212) k) ?_
      show own_Ends p.tables e below _ (s₁.setTop (mkF m 213 #[.val (.int p0)] [(.int (1 : Int32))]))
      exact own_retN X0 hx hlk (by decide) (by decide) (t := .boolean) Bd.returns (by simp) (hb hby own_d2_213) (by rw [e0]; exact ⟨by rw [show own_g0 p0 = (1 : Int32) by rw [jh, own_g206, if_pos hc209]]; rfl, N0, rfl⟩)
    · refine own_step (fun _ k => XS.icmpYes X0.here hx rfl (pc0 := 209) (pc' := 214) rfl (hb hby own_d2_209) rfl (flt hc209).2.2.2 (by decide) (by decide) k) ?_
      show own_Ends p.tables e below _ (s₁.setTop (mkF m 214 #[.val (.int p0)] []))
      exact jn214 trivial (by rw [jh, own_g206, if_neg hc209])
  show own_Ends p.tables e below _ (s₁.setTop (mkF m 0 #[.val (.int p0)] []))
  have jn192 : ∀ (_ : True) (jh : own_g0 p0 = own_g192 p0), own_Ends p.tables e below (own_Q s (own_Q_gap Z p0 h0 n0) ({ frames := 0, cells := 0, slots := 0, locals := 0 } : Room).cells ({ frames := 0, cells := 0, slots := 0, locals := 0 } : Room).slots) (s₁.setTop (mkF m 192 #[.val (.int p0)] [])) := by
    intro _ jh
    refine own_step (fun _ k => XS.iloadN X0.here hx rfl (hb hby own_d2_192) rfl k) ?_
    show own_Ends p.tables e below _ (s₁.setTop (mkF m 193 #[.val (.int p0)] [(.int p0)]))
    refine own_step (fun _ k => X0.ldcInt hx hown (mvT hZ (hw _ (List.mem_of_getElem? (i := 13) rfl))) (g := (mkF m 193 #[.val (.int p0)] [(.int p0)])) rfl (hb hby own_d2_193) _ k) ?_
    show own_Ends p.tables e below _ (s₁.setTop (mkF m 195 #[.val (.int p0)] [(.int (65534 : Int32)), (.int p0)]))
    by_cases hc195 : p0 < (65534 : Int32)
    · refine own_step (fun _ k => XS.icmpYes X0.here hx rfl (pc0 := 195) (pc' := 206) rfl (hb hby own_d2_195) rfl (tlt hc195).1 (by decide) (by decide) k) ?_
      show own_Ends p.tables e below _ (s₁.setTop (mkF m 206 #[.val (.int p0)] []))
      exact jn206 trivial (by rw [jh, own_g192, if_pos hc195])
    · refine own_step (fun _ k => XS.icmpNo X0.here hx rfl (hb hby own_d2_195) rfl (flt hc195).1 k) ?_
      show own_Ends p.tables e below _ (s₁.setTop (mkF m 198 #[.val (.int p0)] []))
      refine own_step (fun _ k => XS.iloadN X0.here hx rfl (hb hby own_d2_198) rfl k) ?_
      show own_Ends p.tables e below _ (s₁.setTop (mkF m 199 #[.val (.int p0)] [(.int p0)]))
      refine own_step (fun _ k => X0.ldcInt hx hown (mvT hZ (hw _ (List.mem_of_getElem? (i := 21) rfl))) (g := (mkF m 199 #[.val (.int p0)] [(.int p0)])) rfl (hb hby own_d2_199) _ k) ?_
      show own_Ends p.tables e below _ (s₁.setTop (mkF m 201 #[.val (.int p0)] [(.int (65535 : Int32)), (.int p0)]))
      by_cases hc201 : (65535 : Int32) < p0
      · refine own_step (fun _ k => XS.icmpYes X0.here hx rfl (pc0 := 201) (pc' := 206) rfl (hb hby own_d2_201) rfl (tlt hc201).2.2.1 (by decide) (by decide) k) ?_
        show own_Ends p.tables e below _ (s₁.setTop (mkF m 206 #[.val (.int p0)] []))
        exact jn206 trivial (by rw [jh, own_g192, if_neg hc195, if_pos hc201])
      · refine own_step (fun _ k => XS.icmpNo X0.here hx rfl (hb hby own_d2_201) rfl (flt hc201).2.2.1 k) ?_
        show own_Ends p.tables e below _ (s₁.setTop (mkF m 204 #[.val (.int p0)] []))
        refine own_step (fun _ k => XS.iconst X0.here hx rfl (hb hby own_d2_204) k) ?_
        show own_Ends p.tables e below _ (s₁.setTop (mkF m 205 #[.val (.int p0)] [(.int (1 : Int32))]))
        exact own_retN X0 hx hlk (by decide) (by decide) (t := .boolean) Bd.returns (by simp) (hb hby own_d2_205) (by rw [e0]; exact ⟨by rw [show own_g0 p0 = (1 : Int32) by rw [jh, own_g192, if_neg hc195, if_neg hc201]]; rfl, N0, rfl⟩)
  show own_Ends p.tables e below _ (s₁.setTop (mkF m 0 #[.val (.int p0)] []))
  have jn178 : ∀ (_ : True) (jh : own_g0 p0 = own_g178 p0), own_Ends p.tables e below (own_Q s (own_Q_gap Z p0 h0 n0) ({ frames := 0, cells := 0, slots := 0, locals := 0 } : Room).cells ({ frames := 0, cells := 0, slots := 0, locals := 0 } : Room).slots) (s₁.setTop (mkF m 178 #[.val (.int p0)] [])) := by
    intro _ jh
    refine own_step (fun _ k => XS.iloadN X0.here hx rfl (hb hby own_d2_178) rfl k) ?_
    show own_Ends p.tables e below _ (s₁.setTop (mkF m 179 #[.val (.int p0)] [(.int p0)]))
    refine own_step (fun _ k => X0.ldcInt hx hown (mvT hZ (hw _ (List.mem_of_getElem? (i := 12) rfl))) (g := (mkF m 179 #[.val (.int p0)] [(.int p0)])) rfl (hb hby own_d2_179) _ k) ?_
    show own_Ends p.tables e below _ (s₁.setTop (mkF m 181 #[.val (.int p0)] [(.int (64976 : Int32)), (.int p0)]))
    by_cases hc181 : p0 < (64976 : Int32)
    · refine own_step (fun _ k => XS.icmpYes X0.here hx rfl (pc0 := 181) (pc' := 192) rfl (hb hby own_d2_181) rfl (tlt hc181).1 (by decide) (by decide) k) ?_
      show own_Ends p.tables e below _ (s₁.setTop (mkF m 192 #[.val (.int p0)] []))
      exact jn192 trivial (by rw [jh, own_g178, if_pos hc181])
    · refine own_step (fun _ k => XS.icmpNo X0.here hx rfl (hb hby own_d2_181) rfl (flt hc181).1 k) ?_
      show own_Ends p.tables e below _ (s₁.setTop (mkF m 184 #[.val (.int p0)] []))
      refine own_step (fun _ k => XS.iloadN X0.here hx rfl (hb hby own_d2_184) rfl k) ?_
      show own_Ends p.tables e below _ (s₁.setTop (mkF m 185 #[.val (.int p0)] [(.int p0)]))
      refine own_step (fun _ k => X0.ldcInt hx hown (mvT hZ (hw _ (List.mem_of_getElem? (i := 20) rfl))) (g := (mkF m 185 #[.val (.int p0)] [(.int p0)])) rfl (hb hby own_d2_185) _ k) ?_
      show own_Ends p.tables e below _ (s₁.setTop (mkF m 187 #[.val (.int p0)] [(.int (65007 : Int32)), (.int p0)]))
      by_cases hc187 : (65007 : Int32) < p0
      · refine own_step (fun _ k => XS.icmpYes X0.here hx rfl (pc0 := 187) (pc' := 192) rfl (hb hby own_d2_187) rfl (tlt hc187).2.2.1 (by decide) (by decide) k) ?_
        show own_Ends p.tables e below _ (s₁.setTop (mkF m 192 #[.val (.int p0)] []))
        exact jn192 trivial (by rw [jh, own_g178, if_neg hc181, if_pos hc187])
      · refine own_step (fun _ k => XS.icmpNo X0.here hx rfl (hb hby own_d2_187) rfl (flt hc187).2.2.1 k) ?_
        show own_Ends p.tables e below _ (s₁.setTop (mkF m 190 #[.val (.int p0)] []))
        refine own_step (fun _ k => XS.iconst X0.here hx rfl (hb hby own_d2_190) k) ?_
        show own_Ends p.tables e below _ (s₁.setTop (mkF m 191 #[.val (.int p0)] [(.int (1 : Int32))]))
        exact own_retN X0 hx hlk (by decide) (by decide) (t := .boolean) Bd.returns (by simp) (hb hby own_d2_191) (by rw [e0]; exact ⟨by rw [show own_g0 p0 = (1 : Int32) by rw [jh, own_g178, if_neg hc181, if_neg hc187]]; rfl, N0, rfl⟩)
  show own_Ends p.tables e below _ (s₁.setTop (mkF m 0 #[.val (.int p0)] []))
  have jn164 : ∀ (_ : True) (jh : own_g0 p0 = own_g164 p0), own_Ends p.tables e below (own_Q s (own_Q_gap Z p0 h0 n0) ({ frames := 0, cells := 0, slots := 0, locals := 0 } : Room).cells ({ frames := 0, cells := 0, slots := 0, locals := 0 } : Room).slots) (s₁.setTop (mkF m 164 #[.val (.int p0)] [])) := by
    intro _ jh
    refine own_step (fun _ k => XS.iloadN X0.here hx rfl (hb hby own_d2_164) rfl k) ?_
    show own_Ends p.tables e below _ (s₁.setTop (mkF m 165 #[.val (.int p0)] [(.int p0)]))
    refine own_step (fun _ k => X0.ldcInt hx hown (mvT hZ (hw _ (List.mem_of_getElem? (i := 11) rfl))) (g := (mkF m 165 #[.val (.int p0)] [(.int p0)])) rfl (hb hby own_d2_165) _ k) ?_
    show own_Ends p.tables e below _ (s₁.setTop (mkF m 167 #[.val (.int p0)] [(.int (55296 : Int32)), (.int p0)]))
    by_cases hc167 : p0 < (55296 : Int32)
    · refine own_step (fun _ k => XS.icmpYes X0.here hx rfl (pc0 := 167) (pc' := 178) rfl (hb hby own_d2_167) rfl (tlt hc167).1 (by decide) (by decide) k) ?_
      show own_Ends p.tables e below _ (s₁.setTop (mkF m 178 #[.val (.int p0)] []))
      exact jn178 trivial (by rw [jh, own_g164, if_pos hc167])
    · refine own_step (fun _ k => XS.icmpNo X0.here hx rfl (hb hby own_d2_167) rfl (flt hc167).1 k) ?_
      show own_Ends p.tables e below _ (s₁.setTop (mkF m 170 #[.val (.int p0)] []))
      refine own_step (fun _ k => XS.iloadN X0.here hx rfl (hb hby own_d2_170) rfl k) ?_
      show own_Ends p.tables e below _ (s₁.setTop (mkF m 171 #[.val (.int p0)] [(.int p0)]))
      refine own_step (fun _ k => X0.ldcInt hx hown (mvT hZ (hw _ (List.mem_of_getElem? (i := 19) rfl))) (g := (mkF m 171 #[.val (.int p0)] [(.int p0)])) rfl (hb hby own_d2_171) _ k) ?_
      show own_Ends p.tables e below _ (s₁.setTop (mkF m 173 #[.val (.int p0)] [(.int (63743 : Int32)), (.int p0)]))
      by_cases hc173 : (63743 : Int32) < p0
      · refine own_step (fun _ k => XS.icmpYes X0.here hx rfl (pc0 := 173) (pc' := 178) rfl (hb hby own_d2_173) rfl (tlt hc173).2.2.1 (by decide) (by decide) k) ?_
        show own_Ends p.tables e below _ (s₁.setTop (mkF m 178 #[.val (.int p0)] []))
        exact jn178 trivial (by rw [jh, own_g164, if_neg hc167, if_pos hc173])
      · refine own_step (fun _ k => XS.icmpNo X0.here hx rfl (hb hby own_d2_173) rfl (flt hc173).2.2.1 k) ?_
        show own_Ends p.tables e below _ (s₁.setTop (mkF m 176 #[.val (.int p0)] []))
        refine own_step (fun _ k => XS.iconst X0.here hx rfl (hb hby own_d2_176) k) ?_
        show own_Ends p.tables e below _ (s₁.setTop (mkF m 177 #[.val (.int p0)] [(.int (1 : Int32))]))
        exact own_retN X0 hx hlk (by decide) (by decide) (t := .boolean) Bd.returns (by simp) (hb hby own_d2_177) (by rw [e0]; exact ⟨by rw [show own_g0 p0 = (1 : Int32) by rw [jh, own_g164, if_neg hc167, if_neg hc173]]; rfl, N0, rfl⟩)
  show own_Ends p.tables e below _ (s₁.setTop (mkF m 0 #[.val (.int p0)] []))
  have jn148 : ∀ (_ : True) (jh : own_g0 p0 = own_g148 p0), own_Ends p.tables e below (own_Q s (own_Q_gap Z p0 h0 n0) ({ frames := 0, cells := 0, slots := 0, locals := 0 } : Room).cells ({ frames := 0, cells := 0, slots := 0, locals := 0 } : Room).slots) (s₁.setTop (mkF m 148 #[.val (.int p0)] [])) := by
    intro _ jh
    refine own_step (fun _ k => XS.iloadN X0.here hx rfl (hb hby own_d2_148) rfl k) ?_
    show own_Ends p.tables e below _ (s₁.setTop (mkF m 149 #[.val (.int p0)] [(.int p0)]))
    refine own_step (fun _ k => XS.sipush X0.here hx rfl (hb hby own_d2_149) k) ?_
    show own_Ends p.tables e below _ (s₁.setTop (mkF m 152 #[.val (.int p0)] [(.int (12272 : Int32)), (.int p0)]))
    by_cases hc152 : p0 < (12272 : Int32)
    · refine own_step (fun _ k => XS.icmpYes X0.here hx rfl (pc0 := 152) (pc' := 164) rfl (hb hby own_d2_152) rfl (tlt hc152).1 (by decide) (by decide) k) ?_
      show own_Ends p.tables e below _ (s₁.setTop (mkF m 164 #[.val (.int p0)] []))
      exact jn164 trivial (by rw [jh, own_g148, if_pos hc152])
    · refine own_step (fun _ k => XS.icmpNo X0.here hx rfl (hb hby own_d2_152) rfl (flt hc152).1 k) ?_
      show own_Ends p.tables e below _ (s₁.setTop (mkF m 155 #[.val (.int p0)] []))
      refine own_step (fun _ k => XS.iloadN X0.here hx rfl (hb hby own_d2_155) rfl k) ?_
      show own_Ends p.tables e below _ (s₁.setTop (mkF m 156 #[.val (.int p0)] [(.int p0)]))
      refine own_step (fun _ k => XS.sipush X0.here hx rfl (hb hby own_d2_156) k) ?_
      show own_Ends p.tables e below _ (s₁.setTop (mkF m 159 #[.val (.int p0)] [(.int (12288 : Int32)), (.int p0)]))
      by_cases hc159 : (12288 : Int32) < p0
      · refine own_step (fun _ k => XS.icmpYes X0.here hx rfl (pc0 := 159) (pc' := 164) rfl (hb hby own_d2_159) rfl (tlt hc159).2.2.1 (by decide) (by decide) k) ?_
        show own_Ends p.tables e below _ (s₁.setTop (mkF m 164 #[.val (.int p0)] []))
        exact jn164 trivial (by rw [jh, own_g148, if_neg hc152, if_pos hc159])
      · refine own_step (fun _ k => XS.icmpNo X0.here hx rfl (hb hby own_d2_159) rfl (flt hc159).2.2.1 k) ?_
        show own_Ends p.tables e below _ (s₁.setTop (mkF m 162 #[.val (.int p0)] []))
        refine own_step (fun _ k => XS.iconst X0.here hx rfl (hb hby own_d2_162) k) ?_
        show own_Ends p.tables e below _ (s₁.setTop (mkF m 163 #[.val (.int p0)] [(.int (1 : Int32))]))
        exact own_retN X0 hx hlk (by decide) (by decide) (t := .boolean) Bd.returns (by simp) (hb hby own_d2_163) (by rw [e0]; exact ⟨by rw [show own_g0 p0 = (1 : Int32) by rw [jh, own_g148, if_neg hc152, if_neg hc159]]; rfl, N0, rfl⟩)
  show own_Ends p.tables e below _ (s₁.setTop (mkF m 0 #[.val (.int p0)] []))
  have jn132 : ∀ (_ : True) (jh : own_g0 p0 = own_g132 p0), own_Ends p.tables e below (own_Q s (own_Q_gap Z p0 h0 n0) ({ frames := 0, cells := 0, slots := 0, locals := 0 } : Room).cells ({ frames := 0, cells := 0, slots := 0, locals := 0 } : Room).slots) (s₁.setTop (mkF m 132 #[.val (.int p0)] [])) := by
    intro _ jh
    refine own_step (fun _ k => XS.iloadN X0.here hx rfl (hb hby own_d2_132) rfl k) ?_
    show own_Ends p.tables e below _ (s₁.setTop (mkF m 133 #[.val (.int p0)] [(.int p0)]))
    refine own_step (fun _ k => XS.sipush X0.here hx rfl (hb hby own_d2_133) k) ?_
    show own_Ends p.tables e below _ (s₁.setTop (mkF m 136 #[.val (.int p0)] [(.int (8592 : Int32)), (.int p0)]))
    by_cases hc136 : p0 < (8592 : Int32)
    · refine own_step (fun _ k => XS.icmpYes X0.here hx rfl (pc0 := 136) (pc' := 148) rfl (hb hby own_d2_136) rfl (tlt hc136).1 (by decide) (by decide) k) ?_
      show own_Ends p.tables e below _ (s₁.setTop (mkF m 148 #[.val (.int p0)] []))
      exact jn148 trivial (by rw [jh, own_g132, if_pos hc136])
    · refine own_step (fun _ k => XS.icmpNo X0.here hx rfl (hb hby own_d2_136) rfl (flt hc136).1 k) ?_
      show own_Ends p.tables e below _ (s₁.setTop (mkF m 139 #[.val (.int p0)] []))
      refine own_step (fun _ k => XS.iloadN X0.here hx rfl (hb hby own_d2_139) rfl k) ?_
      show own_Ends p.tables e below _ (s₁.setTop (mkF m 140 #[.val (.int p0)] [(.int p0)]))
      refine own_step (fun _ k => XS.sipush X0.here hx rfl (hb hby own_d2_140) k) ?_
      show own_Ends p.tables e below _ (s₁.setTop (mkF m 143 #[.val (.int p0)] [(.int (11263 : Int32)), (.int p0)]))
      by_cases hc143 : (11263 : Int32) < p0
      · refine own_step (fun _ k => XS.icmpYes X0.here hx rfl (pc0 := 143) (pc' := 148) rfl (hb hby own_d2_143) rfl (tlt hc143).2.2.1 (by decide) (by decide) k) ?_
        show own_Ends p.tables e below _ (s₁.setTop (mkF m 148 #[.val (.int p0)] []))
        exact jn148 trivial (by rw [jh, own_g132, if_neg hc136, if_pos hc143])
      · refine own_step (fun _ k => XS.icmpNo X0.here hx rfl (hb hby own_d2_143) rfl (flt hc143).2.2.1 k) ?_
        show own_Ends p.tables e below _ (s₁.setTop (mkF m 146 #[.val (.int p0)] []))
        refine own_step (fun _ k => XS.iconst X0.here hx rfl (hb hby own_d2_146) k) ?_
        show own_Ends p.tables e below _ (s₁.setTop (mkF m 147 #[.val (.int p0)] [(.int (1 : Int32))]))
        exact own_retN X0 hx hlk (by decide) (by decide) (t := .boolean) Bd.returns (by simp) (hb hby own_d2_147) (by rw [e0]; exact ⟨by rw [show own_g0 p0 = (1 : Int32) by rw [jh, own_g132, if_neg hc136, if_neg hc143]]; rfl, N0, rfl⟩)
  show own_Ends p.tables e below _ (s₁.setTop (mkF m 0 #[.val (.int p0)] []))
  have jn116 : ∀ (_ : True) (jh : own_g0 p0 = own_g116 p0), own_Ends p.tables e below (own_Q s (own_Q_gap Z p0 h0 n0) ({ frames := 0, cells := 0, slots := 0, locals := 0 } : Room).cells ({ frames := 0, cells := 0, slots := 0, locals := 0 } : Room).slots) (s₁.setTop (mkF m 116 #[.val (.int p0)] [])) := by
    intro _ jh
    refine own_step (fun _ k => XS.iloadN X0.here hx rfl (hb hby own_d2_116) rfl k) ?_
    show own_Ends p.tables e below _ (s₁.setTop (mkF m 117 #[.val (.int p0)] [(.int p0)]))
    refine own_step (fun _ k => XS.sipush X0.here hx rfl (hb hby own_d2_117) k) ?_
    show own_Ends p.tables e below _ (s₁.setTop (mkF m 120 #[.val (.int p0)] [(.int (8206 : Int32)), (.int p0)]))
    by_cases hc120 : p0 < (8206 : Int32)
    · refine own_step (fun _ k => XS.icmpYes X0.here hx rfl (pc0 := 120) (pc' := 132) rfl (hb hby own_d2_120) rfl (tlt hc120).1 (by decide) (by decide) k) ?_
      show own_Ends p.tables e below _ (s₁.setTop (mkF m 132 #[.val (.int p0)] []))
      exact jn132 trivial (by rw [jh, own_g116, if_pos hc120])
    · refine own_step (fun _ k => XS.icmpNo X0.here hx rfl (hb hby own_d2_120) rfl (flt hc120).1 k) ?_
      show own_Ends p.tables e below _ (s₁.setTop (mkF m 123 #[.val (.int p0)] []))
      refine own_step (fun _ k => XS.iloadN X0.here hx rfl (hb hby own_d2_123) rfl k) ?_
      show own_Ends p.tables e below _ (s₁.setTop (mkF m 124 #[.val (.int p0)] [(.int p0)]))
      refine own_step (fun _ k => XS.sipush X0.here hx rfl (hb hby own_d2_124) k) ?_
      show own_Ends p.tables e below _ (s₁.setTop (mkF m 127 #[.val (.int p0)] [(.int (8303 : Int32)), (.int p0)]))
      by_cases hc127 : (8303 : Int32) < p0
      · refine own_step (fun _ k => XS.icmpYes X0.here hx rfl (pc0 := 127) (pc' := 132) rfl (hb hby own_d2_127) rfl (tlt hc127).2.2.1 (by decide) (by decide) k) ?_
        show own_Ends p.tables e below _ (s₁.setTop (mkF m 132 #[.val (.int p0)] []))
        exact jn132 trivial (by rw [jh, own_g116, if_neg hc120, if_pos hc127])
      · refine own_step (fun _ k => XS.icmpNo X0.here hx rfl (hb hby own_d2_127) rfl (flt hc127).2.2.1 k) ?_
        show own_Ends p.tables e below _ (s₁.setTop (mkF m 130 #[.val (.int p0)] []))
        refine own_step (fun _ k => XS.iconst X0.here hx rfl (hb hby own_d2_130) k) ?_
        show own_Ends p.tables e below _ (s₁.setTop (mkF m 131 #[.val (.int p0)] [(.int (1 : Int32))]))
        exact own_retN X0 hx hlk (by decide) (by decide) (t := .boolean) Bd.returns (by simp) (hb hby own_d2_131) (by rw [e0]; exact ⟨by rw [show own_g0 p0 = (1 : Int32) by rw [jh, own_g116, if_neg hc120, if_neg hc127]]; rfl, N0, rfl⟩)
  show own_Ends p.tables e below _ (s₁.setTop (mkF m 0 #[.val (.int p0)] []))
  have jn100 : ∀ (_ : True) (jh : own_g0 p0 = own_g100 p0), own_Ends p.tables e below (own_Q s (own_Q_gap Z p0 h0 n0) ({ frames := 0, cells := 0, slots := 0, locals := 0 } : Room).cells ({ frames := 0, cells := 0, slots := 0, locals := 0 } : Room).slots) (s₁.setTop (mkF m 100 #[.val (.int p0)] [])) := by
    intro _ jh
    refine own_step (fun _ k => XS.iloadN X0.here hx rfl (hb hby own_d2_100) rfl k) ?_
    show own_Ends p.tables e below _ (s₁.setTop (mkF m 101 #[.val (.int p0)] [(.int p0)]))
    refine own_step (fun _ k => XS.sipush X0.here hx rfl (hb hby own_d2_101) k) ?_
    show own_Ends p.tables e below _ (s₁.setTop (mkF m 104 #[.val (.int p0)] [(.int (8192 : Int32)), (.int p0)]))
    by_cases hc104 : p0 < (8192 : Int32)
    · refine own_step (fun _ k => XS.icmpYes X0.here hx rfl (pc0 := 104) (pc' := 116) rfl (hb hby own_d2_104) rfl (tlt hc104).1 (by decide) (by decide) k) ?_
      show own_Ends p.tables e below _ (s₁.setTop (mkF m 116 #[.val (.int p0)] []))
      exact jn116 trivial (by rw [jh, own_g100, if_pos hc104])
    · refine own_step (fun _ k => XS.icmpNo X0.here hx rfl (hb hby own_d2_104) rfl (flt hc104).1 k) ?_
      show own_Ends p.tables e below _ (s₁.setTop (mkF m 107 #[.val (.int p0)] []))
      refine own_step (fun _ k => XS.iloadN X0.here hx rfl (hb hby own_d2_107) rfl k) ?_
      show own_Ends p.tables e below _ (s₁.setTop (mkF m 108 #[.val (.int p0)] [(.int p0)]))
      refine own_step (fun _ k => XS.sipush X0.here hx rfl (hb hby own_d2_108) k) ?_
      show own_Ends p.tables e below _ (s₁.setTop (mkF m 111 #[.val (.int p0)] [(.int (8203 : Int32)), (.int p0)]))
      by_cases hc111 : (8203 : Int32) < p0
      · refine own_step (fun _ k => XS.icmpYes X0.here hx rfl (pc0 := 111) (pc' := 116) rfl (hb hby own_d2_111) rfl (tlt hc111).2.2.1 (by decide) (by decide) k) ?_
        show own_Ends p.tables e below _ (s₁.setTop (mkF m 116 #[.val (.int p0)] []))
        exact jn116 trivial (by rw [jh, own_g100, if_neg hc104, if_pos hc111])
      · refine own_step (fun _ k => XS.icmpNo X0.here hx rfl (hb hby own_d2_111) rfl (flt hc111).2.2.1 k) ?_
        show own_Ends p.tables e below _ (s₁.setTop (mkF m 114 #[.val (.int p0)] []))
        refine own_step (fun _ k => XS.iconst X0.here hx rfl (hb hby own_d2_114) k) ?_
        show own_Ends p.tables e below _ (s₁.setTop (mkF m 115 #[.val (.int p0)] [(.int (1 : Int32))]))
        exact own_retN X0 hx hlk (by decide) (by decide) (t := .boolean) Bd.returns (by simp) (hb hby own_d2_115) (by rw [e0]; exact ⟨by rw [show own_g0 p0 = (1 : Int32) by rw [jh, own_g100, if_neg hc104, if_neg hc111]]; rfl, N0, rfl⟩)
  show own_Ends p.tables e below _ (s₁.setTop (mkF m 0 #[.val (.int p0)] []))
  have jn91 : ∀ (_ : True) (jh : own_g0 p0 = own_g91 p0), own_Ends p.tables e below (own_Q s (own_Q_gap Z p0 h0 n0) ({ frames := 0, cells := 0, slots := 0, locals := 0 } : Room).cells ({ frames := 0, cells := 0, slots := 0, locals := 0 } : Room).slots) (s₁.setTop (mkF m 91 #[.val (.int p0)] [])) := by
    intro _ jh
    refine own_step (fun _ k => XS.iloadN X0.here hx rfl (hb hby own_d2_91) rfl k) ?_
    show own_Ends p.tables e below _ (s₁.setTop (mkF m 92 #[.val (.int p0)] [(.int p0)]))
    refine own_step (fun _ k => XS.sipush X0.here hx rfl (hb hby own_d2_92) k) ?_
    show own_Ends p.tables e below _ (s₁.setTop (mkF m 95 #[.val (.int p0)] [(.int (894 : Int32)), (.int p0)]))
    by_cases hc95 : p0 = (894 : Int32)
    · refine own_step (fun _ k => XS.icmpNo X0.here hx rfl (hb hby own_d2_95) rfl (teq hc95).2 k) ?_
      show own_Ends p.tables e below _ (s₁.setTop (mkF m 98 #[.val (.int p0)] []))
      refine own_step (fun _ k => XS.iconst X0.here hx rfl (hb hby own_d2_98) k) ?_
      show own_Ends p.tables e below _ (s₁.setTop (mkF m 99 #[.val (.int p0)] [(.int (1 : Int32))]))
      exact own_retN X0 hx hlk (by decide) (by decide) (t := .boolean) Bd.returns (by simp) (hb hby own_d2_99) (by rw [e0]; exact ⟨by rw [show own_g0 p0 = (1 : Int32) by rw [jh, own_g91, if_pos hc95]]; rfl, N0, rfl⟩)
    · refine own_step (fun _ k => XS.icmpYes X0.here hx rfl (pc0 := 95) (pc' := 100) rfl (hb hby own_d2_95) rfl (feq hc95).2 (by decide) (by decide) k) ?_
      show own_Ends p.tables e below _ (s₁.setTop (mkF m 100 #[.val (.int p0)] []))
      exact jn100 trivial (by rw [jh, own_g91, if_neg hc95])
  show own_Ends p.tables e below _ (s₁.setTop (mkF m 0 #[.val (.int p0)] []))
  have jn75 : ∀ (_ : True) (jh : own_g0 p0 = own_g75 p0), own_Ends p.tables e below (own_Q s (own_Q_gap Z p0 h0 n0) ({ frames := 0, cells := 0, slots := 0, locals := 0 } : Room).cells ({ frames := 0, cells := 0, slots := 0, locals := 0 } : Room).slots) (s₁.setTop (mkF m 75 #[.val (.int p0)] [])) := by
    intro _ jh
    refine own_step (fun _ k => XS.iloadN X0.here hx rfl (hb hby own_d2_75) rfl k) ?_
    show own_Ends p.tables e below _ (s₁.setTop (mkF m 76 #[.val (.int p0)] [(.int p0)]))
    refine own_step (fun _ k => XS.sipush X0.here hx rfl (hb hby own_d2_76) k) ?_
    show own_Ends p.tables e below _ (s₁.setTop (mkF m 79 #[.val (.int p0)] [(.int (768 : Int32)), (.int p0)]))
    by_cases hc79 : p0 < (768 : Int32)
    · refine own_step (fun _ k => XS.icmpYes X0.here hx rfl (pc0 := 79) (pc' := 91) rfl (hb hby own_d2_79) rfl (tlt hc79).1 (by decide) (by decide) k) ?_
      show own_Ends p.tables e below _ (s₁.setTop (mkF m 91 #[.val (.int p0)] []))
      exact jn91 trivial (by rw [jh, own_g75, if_pos hc79])
    · refine own_step (fun _ k => XS.icmpNo X0.here hx rfl (hb hby own_d2_79) rfl (flt hc79).1 k) ?_
      show own_Ends p.tables e below _ (s₁.setTop (mkF m 82 #[.val (.int p0)] []))
      refine own_step (fun _ k => XS.iloadN X0.here hx rfl (hb hby own_d2_82) rfl k) ?_
      show own_Ends p.tables e below _ (s₁.setTop (mkF m 83 #[.val (.int p0)] [(.int p0)]))
      refine own_step (fun _ k => XS.sipush X0.here hx rfl (hb hby own_d2_83) k) ?_
      show own_Ends p.tables e below _ (s₁.setTop (mkF m 86 #[.val (.int p0)] [(.int (879 : Int32)), (.int p0)]))
      by_cases hc86 : (879 : Int32) < p0
      · refine own_step (fun _ k => XS.icmpYes X0.here hx rfl (pc0 := 86) (pc' := 91) rfl (hb hby own_d2_86) rfl (tlt hc86).2.2.1 (by decide) (by decide) k) ?_
        show own_Ends p.tables e below _ (s₁.setTop (mkF m 91 #[.val (.int p0)] []))
        exact jn91 trivial (by rw [jh, own_g75, if_neg hc79, if_pos hc86])
      · refine own_step (fun _ k => XS.icmpNo X0.here hx rfl (hb hby own_d2_86) rfl (flt hc86).2.2.1 k) ?_
        show own_Ends p.tables e below _ (s₁.setTop (mkF m 89 #[.val (.int p0)] []))
        refine own_step (fun _ k => XS.iconst X0.here hx rfl (hb hby own_d2_89) k) ?_
        show own_Ends p.tables e below _ (s₁.setTop (mkF m 90 #[.val (.int p0)] [(.int (1 : Int32))]))
        exact own_retN X0 hx hlk (by decide) (by decide) (t := .boolean) Bd.returns (by simp) (hb hby own_d2_90) (by rw [e0]; exact ⟨by rw [show own_g0 p0 = (1 : Int32) by rw [jh, own_g75, if_neg hc79, if_neg hc86]]; rfl, N0, rfl⟩)
  show own_Ends p.tables e below _ (s₁.setTop (mkF m 0 #[.val (.int p0)] []))
  have jn73 : ∀ (_ : True) (jh : own_g0 p0 = own_g73 p0), own_Ends p.tables e below (own_Q s (own_Q_gap Z p0 h0 n0) ({ frames := 0, cells := 0, slots := 0, locals := 0 } : Room).cells ({ frames := 0, cells := 0, slots := 0, locals := 0 } : Room).slots) (s₁.setTop (mkF m 73 #[.val (.int p0)] [])) := by
    intro _ jh
    refine own_step (fun _ k => XS.iconst X0.here hx rfl (hb hby own_d2_73) k) ?_
    show own_Ends p.tables e below _ (s₁.setTop (mkF m 74 #[.val (.int p0)] [(.int (1 : Int32))]))
    exact own_retN X0 hx hlk (by decide) (by decide) (t := .boolean) Bd.returns (by simp) (hb hby own_d2_74) (by rw [e0]; exact ⟨by rw [show own_g0 p0 = (1 : Int32) by rw [jh, own_g73]]; rfl, N0, rfl⟩)
  show own_Ends p.tables e below _ (s₁.setTop (mkF m 0 #[.val (.int p0)] []))
  have jn59 : ∀ (_ : True) (jh : own_g0 p0 = own_g59 p0), own_Ends p.tables e below (own_Q s (own_Q_gap Z p0 h0 n0) ({ frames := 0, cells := 0, slots := 0, locals := 0 } : Room).cells ({ frames := 0, cells := 0, slots := 0, locals := 0 } : Room).slots) (s₁.setTop (mkF m 59 #[.val (.int p0)] [])) := by
    intro _ jh
    refine own_step (fun _ k => XS.iloadN X0.here hx rfl (hb hby own_d2_59) rfl k) ?_
    show own_Ends p.tables e below _ (s₁.setTop (mkF m 60 #[.val (.int p0)] [(.int p0)]))
    refine own_step (fun _ k => XS.sipush X0.here hx rfl (hb hby own_d2_60) k) ?_
    show own_Ends p.tables e below _ (s₁.setTop (mkF m 63 #[.val (.int p0)] [(.int (215 : Int32)), (.int p0)]))
    by_cases hc63 : p0 = (215 : Int32)
    · refine own_step (fun _ k => XS.icmpYes X0.here hx rfl (pc0 := 63) (pc' := 73) rfl (hb hby own_d2_63) rfl (teq hc63).1 (by decide) (by decide) k) ?_
      show own_Ends p.tables e below _ (s₁.setTop (mkF m 73 #[.val (.int p0)] []))
      exact jn73 trivial (by rw [jh, own_g59, if_pos hc63])
    · refine own_step (fun _ k => XS.icmpNo X0.here hx rfl (hb hby own_d2_63) rfl (feq hc63).1 k) ?_
      show own_Ends p.tables e below _ (s₁.setTop (mkF m 66 #[.val (.int p0)] []))
      refine own_step (fun _ k => XS.iloadN X0.here hx rfl (hb hby own_d2_66) rfl k) ?_
      show own_Ends p.tables e below _ (s₁.setTop (mkF m 67 #[.val (.int p0)] [(.int p0)]))
      refine own_step (fun _ k => XS.sipush X0.here hx rfl (hb hby own_d2_67) k) ?_
      show own_Ends p.tables e below _ (s₁.setTop (mkF m 70 #[.val (.int p0)] [(.int (247 : Int32)), (.int p0)]))
      by_cases hc70 : p0 = (247 : Int32)
      · refine own_step (fun _ k => XS.icmpNo X0.here hx rfl (hb hby own_d2_70) rfl (teq hc70).2 k) ?_
        show own_Ends p.tables e below _ (s₁.setTop (mkF m 73 #[.val (.int p0)] []))
        exact jn73 trivial (by rw [jh, own_g59, if_neg hc63, if_pos hc70])
      · refine own_step (fun _ k => XS.icmpYes X0.here hx rfl (pc0 := 70) (pc' := 75) rfl (hb hby own_d2_70) rfl (feq hc70).2 (by decide) (by decide) k) ?_
        show own_Ends p.tables e below _ (s₁.setTop (mkF m 75 #[.val (.int p0)] []))
        exact jn75 trivial (by rw [jh, own_g59, if_neg hc63, if_neg hc70])
  show own_Ends p.tables e below _ (s₁.setTop (mkF m 0 #[.val (.int p0)] []))
  have jn44 : ∀ (_ : True) (jh : own_g0 p0 = own_g44 p0), own_Ends p.tables e below (own_Q s (own_Q_gap Z p0 h0 n0) ({ frames := 0, cells := 0, slots := 0, locals := 0 } : Room).cells ({ frames := 0, cells := 0, slots := 0, locals := 0 } : Room).slots) (s₁.setTop (mkF m 44 #[.val (.int p0)] [])) := by
    intro _ jh
    refine own_step (fun _ k => XS.iloadN X0.here hx rfl (hb hby own_d2_44) rfl k) ?_
    show own_Ends p.tables e below _ (s₁.setTop (mkF m 45 #[.val (.int p0)] [(.int p0)]))
    refine own_step (fun _ k => XS.bipush X0.here hx rfl (hb hby own_d2_45) k) ?_
    show own_Ends p.tables e below _ (s₁.setTop (mkF m 47 #[.val (.int p0)] [(.int (123 : Int32)), (.int p0)]))
    by_cases hc47 : p0 < (123 : Int32)
    · refine own_step (fun _ k => XS.icmpYes X0.here hx rfl (pc0 := 47) (pc' := 59) rfl (hb hby own_d2_47) rfl (tlt hc47).1 (by decide) (by decide) k) ?_
      show own_Ends p.tables e below _ (s₁.setTop (mkF m 59 #[.val (.int p0)] []))
      exact jn59 trivial (by rw [jh, own_g44, if_pos hc47])
    · refine own_step (fun _ k => XS.icmpNo X0.here hx rfl (hb hby own_d2_47) rfl (flt hc47).1 k) ?_
      show own_Ends p.tables e below _ (s₁.setTop (mkF m 50 #[.val (.int p0)] []))
      refine own_step (fun _ k => XS.iloadN X0.here hx rfl (hb hby own_d2_50) rfl k) ?_
      show own_Ends p.tables e below _ (s₁.setTop (mkF m 51 #[.val (.int p0)] [(.int p0)]))
      refine own_step (fun _ k => XS.sipush X0.here hx rfl (hb hby own_d2_51) k) ?_
      show own_Ends p.tables e below _ (s₁.setTop (mkF m 54 #[.val (.int p0)] [(.int (191 : Int32)), (.int p0)]))
      by_cases hc54 : (191 : Int32) < p0
      · refine own_step (fun _ k => XS.icmpYes X0.here hx rfl (pc0 := 54) (pc' := 59) rfl (hb hby own_d2_54) rfl (tlt hc54).2.2.1 (by decide) (by decide) k) ?_
        show own_Ends p.tables e below _ (s₁.setTop (mkF m 59 #[.val (.int p0)] []))
        exact jn59 trivial (by rw [jh, own_g44, if_neg hc47, if_pos hc54])
      · refine own_step (fun _ k => XS.icmpNo X0.here hx rfl (hb hby own_d2_54) rfl (flt hc54).2.2.1 k) ?_
        show own_Ends p.tables e below _ (s₁.setTop (mkF m 57 #[.val (.int p0)] []))
        refine own_step (fun _ k => XS.iconst X0.here hx rfl (hb hby own_d2_57) k) ?_
        show own_Ends p.tables e below _ (s₁.setTop (mkF m 58 #[.val (.int p0)] [(.int (1 : Int32))]))
        exact own_retN X0 hx hlk (by decide) (by decide) (t := .boolean) Bd.returns (by simp) (hb hby own_d2_58) (by rw [e0]; exact ⟨by rw [show own_g0 p0 = (1 : Int32) by rw [jh, own_g44, if_neg hc47, if_neg hc54]]; rfl, N0, rfl⟩)
  show own_Ends p.tables e below _ (s₁.setTop (mkF m 0 #[.val (.int p0)] []))
  have jn36 : ∀ (_ : True) (jh : own_g0 p0 = own_g36 p0), own_Ends p.tables e below (own_Q s (own_Q_gap Z p0 h0 n0) ({ frames := 0, cells := 0, slots := 0, locals := 0 } : Room).cells ({ frames := 0, cells := 0, slots := 0, locals := 0 } : Room).slots) (s₁.setTop (mkF m 36 #[.val (.int p0)] [])) := by
    intro _ jh
    refine own_step (fun _ k => XS.iloadN X0.here hx rfl (hb hby own_d2_36) rfl k) ?_
    show own_Ends p.tables e below _ (s₁.setTop (mkF m 37 #[.val (.int p0)] [(.int p0)]))
    refine own_step (fun _ k => XS.bipush X0.here hx rfl (hb hby own_d2_37) k) ?_
    show own_Ends p.tables e below _ (s₁.setTop (mkF m 39 #[.val (.int p0)] [(.int (96 : Int32)), (.int p0)]))
    by_cases hc39 : p0 = (96 : Int32)
    · refine own_step (fun _ k => XS.icmpNo X0.here hx rfl (hb hby own_d2_39) rfl (teq hc39).2 k) ?_
      show own_Ends p.tables e below _ (s₁.setTop (mkF m 42 #[.val (.int p0)] []))
      refine own_step (fun _ k => XS.iconst X0.here hx rfl (hb hby own_d2_42) k) ?_
      show own_Ends p.tables e below _ (s₁.setTop (mkF m 43 #[.val (.int p0)] [(.int (1 : Int32))]))
      exact own_retN X0 hx hlk (by decide) (by decide) (t := .boolean) Bd.returns (by simp) (hb hby own_d2_43) (by rw [e0]; exact ⟨by rw [show own_g0 p0 = (1 : Int32) by rw [jh, own_g36, if_pos hc39]]; rfl, N0, rfl⟩)
    · refine own_step (fun _ k => XS.icmpYes X0.here hx rfl (pc0 := 39) (pc' := 44) rfl (hb hby own_d2_39) rfl (feq hc39).2 (by decide) (by decide) k) ?_
      show own_Ends p.tables e below _ (s₁.setTop (mkF m 44 #[.val (.int p0)] []))
      exact jn44 trivial (by rw [jh, own_g36, if_neg hc39])
  show own_Ends p.tables e below _ (s₁.setTop (mkF m 0 #[.val (.int p0)] []))
  have jn22 : ∀ (_ : True) (jh : own_g0 p0 = own_g22 p0), own_Ends p.tables e below (own_Q s (own_Q_gap Z p0 h0 n0) ({ frames := 0, cells := 0, slots := 0, locals := 0 } : Room).cells ({ frames := 0, cells := 0, slots := 0, locals := 0 } : Room).slots) (s₁.setTop (mkF m 22 #[.val (.int p0)] [])) := by
    intro _ jh
    refine own_step (fun _ k => XS.iloadN X0.here hx rfl (hb hby own_d2_22) rfl k) ?_
    show own_Ends p.tables e below _ (s₁.setTop (mkF m 23 #[.val (.int p0)] [(.int p0)]))
    refine own_step (fun _ k => XS.bipush X0.here hx rfl (hb hby own_d2_23) k) ?_
    show own_Ends p.tables e below _ (s₁.setTop (mkF m 25 #[.val (.int p0)] [(.int (91 : Int32)), (.int p0)]))
    by_cases hc25 : p0 < (91 : Int32)
    · refine own_step (fun _ k => XS.icmpYes X0.here hx rfl (pc0 := 25) (pc' := 36) rfl (hb hby own_d2_25) rfl (tlt hc25).1 (by decide) (by decide) k) ?_
      show own_Ends p.tables e below _ (s₁.setTop (mkF m 36 #[.val (.int p0)] []))
      exact jn36 trivial (by rw [jh, own_g22, if_pos hc25])
    · refine own_step (fun _ k => XS.icmpNo X0.here hx rfl (hb hby own_d2_25) rfl (flt hc25).1 k) ?_
      show own_Ends p.tables e below _ (s₁.setTop (mkF m 28 #[.val (.int p0)] []))
      refine own_step (fun _ k => XS.iloadN X0.here hx rfl (hb hby own_d2_28) rfl k) ?_
      show own_Ends p.tables e below _ (s₁.setTop (mkF m 29 #[.val (.int p0)] [(.int p0)]))
      refine own_step (fun _ k => XS.bipush X0.here hx rfl (hb hby own_d2_29) k) ?_
      show own_Ends p.tables e below _ (s₁.setTop (mkF m 31 #[.val (.int p0)] [(.int (94 : Int32)), (.int p0)]))
      by_cases hc31 : (94 : Int32) < p0
      · refine own_step (fun _ k => XS.icmpYes X0.here hx rfl (pc0 := 31) (pc' := 36) rfl (hb hby own_d2_31) rfl (tlt hc31).2.2.1 (by decide) (by decide) k) ?_
        show own_Ends p.tables e below _ (s₁.setTop (mkF m 36 #[.val (.int p0)] []))
        exact jn36 trivial (by rw [jh, own_g22, if_neg hc25, if_pos hc31])
      · refine own_step (fun _ k => XS.icmpNo X0.here hx rfl (hb hby own_d2_31) rfl (flt hc31).2.2.1 k) ?_
        show own_Ends p.tables e below _ (s₁.setTop (mkF m 34 #[.val (.int p0)] []))
        refine own_step (fun _ k => XS.iconst X0.here hx rfl (hb hby own_d2_34) k) ?_
        show own_Ends p.tables e below _ (s₁.setTop (mkF m 35 #[.val (.int p0)] [(.int (1 : Int32))]))
        exact own_retN X0 hx hlk (by decide) (by decide) (t := .boolean) Bd.returns (by simp) (hb hby own_d2_35) (by rw [e0]; exact ⟨by rw [show own_g0 p0 = (1 : Int32) by rw [jh, own_g22, if_neg hc25, if_neg hc31]]; rfl, N0, rfl⟩)
  show own_Ends p.tables e below _ (s₁.setTop (mkF m 0 #[.val (.int p0)] []))
  have jn8 : ∀ (_ : True) (jh : own_g0 p0 = own_g8 p0), own_Ends p.tables e below (own_Q s (own_Q_gap Z p0 h0 n0) ({ frames := 0, cells := 0, slots := 0, locals := 0 } : Room).cells ({ frames := 0, cells := 0, slots := 0, locals := 0 } : Room).slots) (s₁.setTop (mkF m 8 #[.val (.int p0)] [])) := by
    intro _ jh
    refine own_step (fun _ k => XS.iloadN X0.here hx rfl (hb hby own_d2_8) rfl k) ?_
    show own_Ends p.tables e below _ (s₁.setTop (mkF m 9 #[.val (.int p0)] [(.int p0)]))
    refine own_step (fun _ k => XS.bipush X0.here hx rfl (hb hby own_d2_9) k) ?_
    show own_Ends p.tables e below _ (s₁.setTop (mkF m 11 #[.val (.int p0)] [(.int (59 : Int32)), (.int p0)]))
    by_cases hc11 : p0 < (59 : Int32)
    · refine own_step (fun _ k => XS.icmpYes X0.here hx rfl (pc0 := 11) (pc' := 22) rfl (hb hby own_d2_11) rfl (tlt hc11).1 (by decide) (by decide) k) ?_
      show own_Ends p.tables e below _ (s₁.setTop (mkF m 22 #[.val (.int p0)] []))
      exact jn22 trivial (by rw [jh, own_g8, if_pos hc11])
    · refine own_step (fun _ k => XS.icmpNo X0.here hx rfl (hb hby own_d2_11) rfl (flt hc11).1 k) ?_
      show own_Ends p.tables e below _ (s₁.setTop (mkF m 14 #[.val (.int p0)] []))
      refine own_step (fun _ k => XS.iloadN X0.here hx rfl (hb hby own_d2_14) rfl k) ?_
      show own_Ends p.tables e below _ (s₁.setTop (mkF m 15 #[.val (.int p0)] [(.int p0)]))
      refine own_step (fun _ k => XS.bipush X0.here hx rfl (hb hby own_d2_15) k) ?_
      show own_Ends p.tables e below _ (s₁.setTop (mkF m 17 #[.val (.int p0)] [(.int (64 : Int32)), (.int p0)]))
      by_cases hc17 : (64 : Int32) < p0
      · refine own_step (fun _ k => XS.icmpYes X0.here hx rfl (pc0 := 17) (pc' := 22) rfl (hb hby own_d2_17) rfl (tlt hc17).2.2.1 (by decide) (by decide) k) ?_
        show own_Ends p.tables e below _ (s₁.setTop (mkF m 22 #[.val (.int p0)] []))
        exact jn22 trivial (by rw [jh, own_g8, if_neg hc11, if_pos hc17])
      · refine own_step (fun _ k => XS.icmpNo X0.here hx rfl (hb hby own_d2_17) rfl (flt hc17).2.2.1 k) ?_
        show own_Ends p.tables e below _ (s₁.setTop (mkF m 20 #[.val (.int p0)] []))
        refine own_step (fun _ k => XS.iconst X0.here hx rfl (hb hby own_d2_20) k) ?_
        show own_Ends p.tables e below _ (s₁.setTop (mkF m 21 #[.val (.int p0)] [(.int (1 : Int32))]))
        exact own_retN X0 hx hlk (by decide) (by decide) (t := .boolean) Bd.returns (by simp) (hb hby own_d2_21) (by rw [e0]; exact ⟨by rw [show own_g0 p0 = (1 : Int32) by rw [jh, own_g8, if_neg hc11, if_neg hc17]]; rfl, N0, rfl⟩)
  show own_Ends p.tables e below _ (s₁.setTop (mkF m 0 #[.val (.int p0)] []))
  refine own_step (fun _ k => XS.iloadN X0.here hx rfl (hb hby own_d2_0) rfl k) ?_
  show own_Ends p.tables e below _ (s₁.setTop (mkF m 1 #[.val (.int p0)] [(.int p0)]))
  refine own_step (fun _ k => XS.bipush X0.here hx rfl (hb hby own_d2_1) k) ?_
  show own_Ends p.tables e below _ (s₁.setTop (mkF m 3 #[.val (.int p0)] [(.int (58 : Int32)), (.int p0)]))
  by_cases hc3 : p0 < (58 : Int32)
  · refine own_step (fun _ k => XS.icmpNo X0.here hx rfl (hb hby own_d2_3) rfl (tlt hc3).2.1 k) ?_
    show own_Ends p.tables e below _ (s₁.setTop (mkF m 6 #[.val (.int p0)] []))
    refine own_step (fun _ k => XS.iconst X0.here hx rfl (hb hby own_d2_6) k) ?_
    show own_Ends p.tables e below _ (s₁.setTop (mkF m 7 #[.val (.int p0)] [(.int (1 : Int32))]))
    exact own_retN X0 hx hlk (by decide) (by decide) (t := .boolean) Bd.returns (by simp) (hb hby own_d2_7) (by rw [e0]; exact ⟨by rw [show own_g0 p0 = (1 : Int32) by rw [own_g0, if_pos hc3]]; rfl, N0, rfl⟩)
  · refine own_step (fun _ k => XS.icmpYes X0.here hx rfl (pc0 := 3) (pc' := 8) rfl (hb hby own_d2_3) rfl (flt hc3).2.1 (by decide) (by decide) k) ?_
    show own_Ends p.tables e below _ (s₁.setTop (mkF m 8 #[.val (.int p0)] []))
    exact jn8 trivial (by rw [own_g0, if_neg hc3])
theorem own_pd0 : parseMethodDescriptor "(I)Z" = some ⟨[.int], some .boolean⟩ := by decide +kernel
theorem own_ef_0 (m : MethodId) (x0 : Int32) : entryFrame m #[(.int x0)] maxLocals = mkF m 0 #[.val (.int x0)] [] := by first | (simp [entryFrame, mkF, argsToLocals, Value.category, maxLocals]; done) | rfl
def own_Q_law (Z : State) (p0 : Int32) (h0 : Heap) (n0 : Nat) (v : Option Value) (h : Heap) (L : List Loc) : Prop := v = some (.int 1) ∧ Fr n0 L
set_option maxRecDepth 65536 in
set_option maxHeartbeats 40000000 in
theorem own_rm_law (l : Launch) (Z : State) (a0 : Array Value) (hw : ∀ d ∈ tables_1, d.before a0 Z = true) (ws : List Jvm.Cond) (p0 : Int32) (h0 : Heap) (n0 : Nat) (Z0 : n0 ≤ h0.size) :
    MetFree l x (head1 (Jvm.Cond.code x code maxLocals ret :: ws) room_1) (fun a U => a = #[(.int p0)] ∧ Z.Warmed39 U.vm ∧ U.heap = h0) (fun _ _ _ _ _ => True) (fun _ U o U' => ∃ v L, o = .returned v ∧ own_Q_law Z p0 h0 n0 v U'.heap L ∧ FrameEnd U o U' L room_1.cells room_1.slots) := by
  refine MetFree.of_bodySF (plainFor_of_name own_pn1) hisR ?_
  intro p e s m args below meth c s₁ Bd hml0 hP hK
  obtain ⟨rfl, hZ, hh⟩ := hP
  have hx := Bd.exec
  have hby := Bd.bytes
  have hlk : meth.locks = false := BodyLoose.notSynchronized Bd
  have hml : c.maxLocals = 1 := hml0
  have hown : s.vm.findClass "com/example/escar/escar/schema/datatype/XmlNamesIsNameStartCharPinLaw" = some m.cls := findClass_of_methodNamed Bd.named
  have hnm := (name_of_methodNamed Bd.named Bd.method).1
  have X0 : Stand p l e room_1 s m #[(.int p0)] below meth c s₁ [] 0 0 := Stand.of_body Bd
  have e0 : s₁.heap = h0 := by rw [← hh, Bd.state]; rfl
  have N0 := Fr.nil n0
  have K0 : Keep h0 h0 [] := Keep.refl _ _
  have pre0 : ∀ t, Steps p.tables e below (s₁.setTop (mkF m 0 #[.val (.int p0)] [])) t → Steps p.tables e below (s₁.setTop (entryFrame m #[(.int p0)] maxLocals)) t := fun t k => castTop (own_ef_0 m p0) k
  show own_Ends p.tables e below (own_Q s (own_Q_law Z p0 h0 n0) room_1.cells room_1.slots) (s₁.setTop (entryFrame m #[(.int p0)] maxLocals))
  refine own_step pre0 ?_
  show own_Ends p.tables e below _ (s₁.setTop (mkF m 0 #[.val (.int p0)] []))
  refine own_step (fun _ k => XS.iloadN X0.here hx rfl (hb hby at_0) rfl k) ?_
  show own_Ends p.tables e below _ (s₁.setTop (mkF m 1 #[.val (.int p0)] [(.int p0)]))
  obtain ⟨_, _, ⟨T1, L1, k1, n1⟩, -, X1, ⟨Lc1, hQ1, l1, y1, z1⟩, st1⟩ := Jvm.LawKit.callS X0 hx (y := (⟨"com/example/escar/escar/schema/datatype/XmlNames", "isNameStartChar", "(I)Z"⟩ : MethodName)) hown (mvT hZ (hw _ (List.mem_of_getElem? (i := 0) rfl))) (mvT hZ (hw _ (List.mem_of_getElem? (i := 1) rfl))) (mvT hZ (hw _ (List.mem_of_getElem? (i := 2) rfl))) (mvT hZ (hw _ (List.mem_of_getElem? (i := 3) rfl))) (by decide) (backOf (W := 0) (own_rm_ns l Z a0 hw [] p0 h0 n0 Z0 ) hZ (hw _ (List.mem_of_getElem? (i := 3) rfl)) (hw _ (List.mem_of_getElem? (i := 2) rfl)) (by decide) (by decide)) (g := (mkF m 1 #[.val (.int p0)] [(.int p0)])) rfl (by rw [hml]; rfl) (argsL := [(.int p0)]) (rest := []) (lenOf own_pd0 rfl) rfl (by show 2 * 0 + _ ≤ _; exact Nat.le_of_eq rfl) (hb hby at_1) (fun _ _ => ⟨rfl, e0, (by decide : 0 + 0 ≤ _), (by decide : 0 + 0 ≤ _)⟩)
  dsimp only [Pt.U, Pt.locs, Pt.cells, Pt.slots] at X1 l1 y1 z1 st1 hQ1
  subst l1 y1 z1
  obtain ⟨rfl, N1q, e1⟩ := hQ1
  have N_1 := Fr.app N0 N1q
  refine own_step st1 ?_
  show own_Ends p.tables e below _ (T1.setTop (mkF m 4 #[.val (.int p0)] [(.int (own_n0 p0))]))
  refine own_step (fun _ k => XS.iloadN X1.here hx rfl (hb hby at_4) rfl k) ?_
  show own_Ends p.tables e below _ (T1.setTop (mkF m 5 #[.val (.int p0)] [(.int p0), (.int (own_n0 p0))]))
  obtain ⟨_, _, ⟨T2, L2, k2, n2⟩, -, X2, ⟨Lc2, hQ2, l2, y2, z2⟩, st2⟩ := Jvm.LawKit.callS X1 hx (y := (⟨"com/example/escar/escar/schema/datatype/XmlNamesIsNameStartCharPinLaw", "inGap", "(I)Z"⟩ : MethodName)) hown (mvT hZ (hw _ (List.mem_of_getElem? (i := 7) rfl))) (mvT hZ (hw _ (List.mem_of_getElem? (i := 8) rfl))) (mvT hZ (hw _ (List.mem_of_getElem? (i := 9) rfl))) (mvT hZ (hw _ (List.mem_of_getElem? (i := 10) rfl))) (by decide) (backOf (W := 1) (own_rm_gap l Z a0 hw [] p0 h0 n0 Z0 ) hZ (hw _ (List.mem_of_getElem? (i := 10) rfl)) (hw _ (List.mem_of_getElem? (i := 9) rfl)) (by decide) (by decide)) (g := (mkF m 5 #[.val (.int p0)] [(.int p0), (.int (own_n0 p0))])) rfl (by rw [hml]; rfl) (argsL := [(.int p0)]) (rest := [(.int (own_n0 p0))]) (lenOf own_pd0 rfl) rfl (by show 2 * 0 + _ ≤ _; exact Nat.le_of_eq rfl) (hb hby at_5) (fun _ _ => ⟨rfl, e1, (by decide : 0 + 0 ≤ _), (by decide : 0 + 0 ≤ _)⟩)
  dsimp only [Pt.U, Pt.locs, Pt.cells, Pt.slots] at X2 l2 y2 z2 st2 hQ2
  subst l2 y2 z2
  obtain ⟨rfl, N2q, e2⟩ := hQ2
  have N_2 := Fr.app N_1 N2q
  refine own_step st2 ?_
  show own_Ends p.tables e below _ (T2.setTop (mkF m 8 #[.val (.int p0)] [(.int (own_g0 p0)), (.int (own_n0 p0))]))
  by_cases hc8 : (own_g0 p0) = (0 : Int32)
  · refine own_step (fun _ k => XS.ifNo X2.here hx rfl (hb hby at_8) rfl ((if0 _ _).trans (teq hc8).2) k) ?_
    show own_Ends p.tables e below _ (T2.setTop (mkF m 11 #[.val (.int p0)] [(.int (own_n0 p0))]))
    refine own_step (fun _ k => XS.iconst X2.here hx rfl (hb hby at_11) k) ?_
    show own_Ends p.tables e below _ (T2.setTop (mkF m 12 #[.val (.int p0)] [(.int (1 : Int32)), (.int (own_n0 p0))]))
    refine own_step (fun _ k => XS.goto X2.here hx rfl (pc0 := 12) (pc' := 16) rfl (hb hby at_12) (by decide) (by decide) k) ?_
    show own_Ends p.tables e below _ (T2.setTop (mkF m 16 #[.val (.int p0)] [(.int (1 : Int32)), (.int (own_n0 p0))]))
    refine own_step (fun _ k => XS.icmpNo X2.here hx rfl (hb hby at_16) rfl (teq (own_key1 p0 hc8)).2 k) ?_
    show own_Ends p.tables e below _ (T2.setTop (mkF m 19 #[.val (.int p0)] []))
    refine own_step (fun _ k => XS.iconst X2.here hx rfl (hb hby at_19) k) ?_
    show own_Ends p.tables e below _ (T2.setTop (mkF m 20 #[.val (.int p0)] [(.int (1 : Int32))]))
    refine own_step (fun _ k => XS.goto X2.here hx rfl (pc0 := 20) (pc' := 24) rfl (hb hby at_20) (by decide) (by decide) k) ?_
    show own_Ends p.tables e below _ (T2.setTop (mkF m 24 #[.val (.int p0)] [(.int (1 : Int32))]))
    exact own_retN X2 hx hlk (by decide) (by decide) (t := .boolean) Bd.returns (by simp) (hb hby at_24) (by rw [e2]; exact ⟨rfl, N_2⟩)
  · refine own_step (fun _ k => XS.ifYes X2.here hx rfl (pc0 := 8) (pc' := 15) rfl (hb hby at_8) rfl ((if0 _ _).trans (feq hc8).2) (by decide) (by decide) k) ?_
    show own_Ends p.tables e below _ (T2.setTop (mkF m 15 #[.val (.int p0)] [(.int (own_n0 p0))]))
    refine own_step (fun _ k => XS.iconst X2.here hx rfl (hb hby at_15) k) ?_
    show own_Ends p.tables e below _ (T2.setTop (mkF m 16 #[.val (.int p0)] [(.int (0 : Int32)), (.int (own_n0 p0))]))
    refine own_step (fun _ k => XS.icmpNo X2.here hx rfl (hb hby at_16) rfl (teq (own_key2 p0 hc8)).2 k) ?_
    show own_Ends p.tables e below _ (T2.setTop (mkF m 19 #[.val (.int p0)] []))
    refine own_step (fun _ k => XS.iconst X2.here hx rfl (hb hby at_19) k) ?_
    show own_Ends p.tables e below _ (T2.setTop (mkF m 20 #[.val (.int p0)] [(.int (1 : Int32))]))
    refine own_step (fun _ k => XS.goto X2.here hx rfl (pc0 := 20) (pc' := 24) rfl (hb hby at_20) (by decide) (by decide) k) ?_
    show own_Ends p.tables e below _ (T2.setTop (mkF m 24 #[.val (.int p0)] [(.int (1 : Int32))]))
    exact own_retN X2 hx hlk (by decide) (by decide) (t := .boolean) Bd.returns (by simp) (hb hby at_24) (by rw [e2]; exact ⟨rfl, N_2⟩)
set_option maxRecDepth 65536 in
set_option maxHeartbeats 40000000 in
theorem own_comes_1 {Post : Tables → Env → Array Value → State → Outcome → State → Prop} (hpost : ∀ tb e args s v u, (limb_1_1.after args s (.returned v) u = true ∧ limb_1_2.after args s (.returned v) u = true ∧ True) → FrameEnd s (.returned v) u (Jvm.fieldLocs frame_1_writes args s ++ Jvm.arrayLocs frame_1_arrays args s ++ Jvm.staticLocs frame_1_statics s) 0 0 → Post tb e args s (.returned v) u) :
    ArmFor flags0 classFile x code maxLocals ret World_1 tables_1 room_1 Calls_1 rest_1 Pre_1 Post := by
  intro l hfl _ _ p e ha hc hk s m args below hf hA hF happ hP
  obtain ⟨hcalls, hrest, hpre⟩ := hP
  obtain ⟨-, -, -, hnamed, -, -, -, hat⟩ := (Spec.applies_iff hf).mp happ
  obtain ⟨hg, hn⟩ := and_e (Cond.before_iff.mp (show (Jvm.Cond.and given_1 narrow_1).before args s = true from hpre))
  obtain ⟨g0, r0⟩ := and_e hg
  obtain ⟨w0, rfl⟩ : ∃ w0 : Value, args = #[w0] := by
    have hs : args.size = 1 := by simpa [Cond.value, given_1] using g0
    obtain ⟨L⟩ := args
    match L, hs with
    | [w0], _ => exact ⟨w0, rfl⟩
  have hw := fun d (hd : d ∈ tables_1) => atoms_spec (ws := Jvm.Cond.code x code maxLocals ret :: tables_1) hat d (List.mem_cons_of_mem _ hd)
  have hfit : Fit s := fun {y c} hc i hi => by
    obtain ⟨ha, rfl⟩ := Array.getElem?_eq_some_iff.mp hc
    have q := List.all_eq_true.mp ((Array.all_eq_true_iff_forall_mem.mp hF) _ (Array.getElem_mem ha)) i (List.mem_range.mpr hi)
    simpa [Array.getElem?_eq_getElem hi] using q
  obtain ⟨i0, ei0⟩ := is_v r0
  obtain rfl : w0 = (.int i0) := Option.some.inj ei0
  obtain ⟨n, o, h1, h2, h3, _, L, rfl, ⟨rfl, N⟩, hq⟩ := own_rm_law l s _ hw tables_1 i0  s.heap s.heap.size (Nat.le_refl _)  p e ha hc hk s m _ below hf ((Spec.applies_iff_loose hf).mp happ).1 ⟨rfl, State.Warmed39.refl s, rfl⟩ trivial
  refine ⟨n, _, h1, h2, h3, hpost _ _ _ _ _ _ ⟨Cond.after_iff.mpr rfl, Cond.after_iff.mpr (eq_i res_at (Term.int_eval (1)) rfl), trivial⟩ ⟨hq.1, hq.2.1, (hq.2.2.sift fun y hy => Or.inr (N y hy)).mono (by decide) (by decide)⟩⟩
theorem main_1_1 : Claimed_1_1 := own_comes_1 fun _ _ _ _ _ _ h hF => ⟨h.1, hF⟩
theorem main_1_2 : Claimed_1_2 := own_comes_1 fun _ _ _ _ _ _ h hF => ⟨h.2.1, hF⟩
end Jvm.Pilot.@@N@@
namespace Jvm.Pilot.@@N@@
open Jvm Jvm.ClassFile Sem Op Lib Jvm.Free Jvm.Stand Jvm.Pilot.@@N@@.Jvm.D
/-! MADE BY PROGRAM (witnessworld.py) out of the Statement's table words and the real class files: 9 classes; the members and pool entries that the words name. The judged class is class 1, her method 2. -/
namespace start1
open Jvm.ClassFile
def u (s : String) : CpInfo := .utf8 (stringToUtf16 s)
/-- a pool by its gaps: so many unusable entries, then the entry; so many at the end -/
def gap : Nat → List CpInfo → List CpInfo
  | 0, r => r
  | n + 1, r => .unusable :: gap n r
def poolList (es : List (Nat × CpInfo)) (last : Nat) : List CpInfo := es.foldr (fun e r => gap e.1 (e.2 :: r)) (gap last [])
def pool (es : List (Nat × CpInfo)) (last : Nat) : Array CpInfo := ⟨poolList es last⟩
def fileOf (pool : Array CpInfo) (this : Nat) (attrs : Array Attribute := #[]) (ms : Array MethodInfo := #[]) (fl : Nat := 33) (sup : Nat := 0) (ifs : Array Nat := #[]) (fds : Array FieldInfo := #[]) : ClassFile where
  minorVersion := 0
  majorVersion := 65
  constantPool := pool
  accessFlags := fl
  thisClass := this
  superClass := sup
  interfaces := ifs
  fields := fds
  methods := ms
  attributes := attrs
def plain (name : String) (sup : Option ClassId) : Class where
  name := name
  kind := .ordinary
  loader := none
  accessFlags := 33
  super := sup
  interfaces := #[]
  cf := none
  fields := #[]
  methods := #[]
  instanceTypes := #[]
  staticTypes := #[]
  resolved := #[]
  callSites := []
  init := .initialized
  statics := none
  mirror := none

def pool0 : Array CpInfo := pool [(5, u "<init>"), (0, u "()V"), (1, .class_ 10), (1, u "java/lang/Object")] 113

def k0m0 : Method := { name := "<init>", desc := "()V", sig := { parameters := [], returnType := none }, accessFlags := 1, code := none }
/-- java/lang/Object -/
def k0 : Class := { plain "java/lang/Object" none with
  accessFlags := 33
  interfaces := #[]
  cf := some (fileOf pool0 8 #[] #[{ accessFlags := 1, nameIndex := 5, descriptorIndex := 6, attributes := #[] }] 33 0 #[] #[])
  fields := #[]
  methods := #[k0m0]
  instanceTypes := #[]
  staticTypes := #[]
  resolved := Array.replicate 124 none
  statics := none }

def pool1 : Array CpInfo := pool [(2, .class_ 4), (1, u "java/lang/Object"), (0, u "<init>"), (0, u "()V"), (0, .integer 55296), (0, .integer 63743), (0, .integer 64976), (0, .integer 65007), (0, .integer 65534), (0, .integer 65535), (0, .integer 983039), (0, .methodref 15 16), (0, .class_ 17), (0, .nameAndType 18 19), (0, u "com/example/escar/escar/schema/datatype/XmlNames"), (0, u "isNameStartChar"), (0, u "(I)Z"), (0, .methodref 21 22), (0, .class_ 23), (0, .nameAndType 24 19), (0, u "com/example/escar/escar/schema/datatype/XmlNamesIsNameStartCharPinLaw"), (0, u "inGap"), (3, u "law")] 2

def k1m0 : Method := { name := "<init>", desc := "()V", sig := { parameters := [], returnType := none }, accessFlags := 2, code := none }
def k1c1 : Code := { maxStack := 2, maxLocals := 1, code := method_2_code, exceptionTable := #[], attributes := #[] }
def k1m1 : Method := { name := "inGap", desc := "(I)Z", sig := { parameters := [.int], returnType := some .boolean }, accessFlags := 10, code := some k1c1 }
def k1c2 : Code := { maxStack := 2, maxLocals := 1, code := code, exceptionTable := #[], attributes := #[] }
def k1m2 : Method := { name := "law", desc := "(I)Z", sig := { parameters := [.int], returnType := some .boolean }, accessFlags := 9, code := some k1c2 }
/-- com/example/escar/escar/schema/datatype/XmlNamesIsNameStartCharPinLaw -/
def k1 : Class := { plain "com/example/escar/escar/schema/datatype/XmlNamesIsNameStartCharPinLaw" (some 0) with
  accessFlags := 49
  interfaces := #[]
  cf := some (fileOf pool1 21 #[] #[{ accessFlags := 2, nameIndex := 5, descriptorIndex := 6, attributes := #[] }, { accessFlags := 10, nameIndex := 24, descriptorIndex := 19, attributes := #[] }, { accessFlags := 9, nameIndex := 28, descriptorIndex := 19, attributes := #[] }] 49 2 #[] #[])
  fields := #[]
  methods := #[k1m0, k1m1, k1m2]
  instanceTypes := #[]
  staticTypes := #[]
  resolved := Array.replicate 31 none
  statics := none }

def pool2 : Array CpInfo := pool [(2, .class_ 4), (1, u "java/lang/Object"), (0, u "<init>"), (0, u "()V"), (7, .class_ 16), (1, u "com/example/escar/escar/schema/datatype/XmlNames"), (8, u "isNameStartChar"), (0, u "(I)Z"), (21, .integer 55295), (0, .integer 63744), (0, .integer 64975), (0, .integer 65008), (0, .integer 65533), (0, .integer 65536), (0, .integer 983039)] 7

def k2m0 : Method := { name := "<init>", desc := "()V", sig := { parameters := [], returnType := none }, accessFlags := 2, code := none }
def k2c1 : Code := { maxStack := 2, maxLocals := 1, code := prog_54_method_7_code, exceptionTable := #[], attributes := #[] }
def k2m1 : Method := { name := "isNameStartChar", desc := "(I)Z", sig := { parameters := [.int], returnType := some .boolean }, accessFlags := 9, code := some k2c1 }
/-- com/example/escar/escar/schema/datatype/XmlNames -/
def k2 : Class := { plain "com/example/escar/escar/schema/datatype/XmlNames" (some 0) with
  accessFlags := 49
  interfaces := #[]
  cf := some (fileOf pool2 14 #[] #[{ accessFlags := 2, nameIndex := 5, descriptorIndex := 6, attributes := #[] }, { accessFlags := 9, nameIndex := 25, descriptorIndex := 26, attributes := #[] }] 49 2 #[] #[])
  fields := #[]
  methods := #[k2m0, k2m1]
  instanceTypes := #[]
  staticTypes := #[]
  resolved := Array.replicate 62 none
  statics := none }

def pool3 : Array CpInfo := pool [(1, u "java/lang/Cloneable"), (0, .class_ 1), (0, u "java/lang/Object"), (0, .class_ 3)] 3

/-- java/lang/Cloneable -/
def k3 : Class := { plain "java/lang/Cloneable" (some 0) with
  accessFlags := 1537
  interfaces := #[]
  cf := some (fileOf pool3 2 #[] #[] 1537 4 #[] #[])
  fields := #[]
  methods := #[]
  instanceTypes := #[]
  staticTypes := #[]
  resolved := Array.replicate 8 none
  statics := none }

def pool4 : Array CpInfo := pool [(1, u "java/io/Serializable"), (0, .class_ 1), (0, u "java/lang/Object"), (0, .class_ 3)] 3

/-- java/io/Serializable -/
def k4 : Class := { plain "java/io/Serializable" (some 0) with
  accessFlags := 1537
  interfaces := #[]
  cf := some (fileOf pool4 2 #[] #[] 1537 4 #[] #[])
  fields := #[]
  methods := #[]
  instanceTypes := #[]
  staticTypes := #[]
  resolved := Array.replicate 8 none
  statics := none }

/-- the primitive byte -/
def k5 : Class := { plain "byte" none with kind := .primitive 'B', accessFlags := 0x411 }
/-- [B -/
def k6 : Class := { plain "[B" (some 0) with kind := .array 5 .byte, interfaces := #[3, 4], accessFlags := 1041 }

/-- the primitive int -/
def k7 : Class := { plain "int" none with kind := .primitive 'I', accessFlags := 0x411 }
/-- [I -/
def k8 : Class := { plain "[I" (some 0) with kind := .array 7 .int, interfaces := #[3, 4], accessFlags := 1041 }

def heap : Heap := #[]
def classes : Array Class := #[k0, k1, k2, k3, k4, k5, k6, k7, k8]
def interned : List (Array UInt16 × Addr) := []
def slotsUsed : Nat := 0
def theMethod : MethodId := ⟨1, 2⟩
def args0 : Array Value := #[.int 65]
def aboutOver (below : List Frame) : State where
  vm := { classes := classes, interned := interned.toArray }
  heap := heap
  slotsUsed := slotsUsed
  threads := #[{ frames := .invoking theMethod args0 :: below }]
def below0 : List Frame := [.native { method := ⟨0, 0⟩, args := #[] }]
def about1 : State := aboutOver below0
def p0 : Program := .bare "" "" ""
def e0 : Env := launch0.env 0 0 0
theorem w_frames : about1.frames = Frame.invoking theMethod args0 :: below0 := rfl
set_option maxRecDepth 65536 in
theorem w_args : argsFit about1.vm theMethod args0 = true := by decide +kernel
set_option maxRecDepth 65536 in
theorem w_heap : heapFits about1 = true := by decide +kernel
set_option maxRecDepth 65536 in
theorem w_runnable : about1.curStatus? = some .runnable := by decide +kernel
set_option maxRecDepth 65536 in
theorem w_alone : about1.alone = true := by decide +kernel
set_option maxRecDepth 65536 in
theorem w_named : about1.methodNamed? x = some theMethod := by decide +kernel
set_option maxRecDepth 65536 in
theorem w_hears : about1.hears theMethod below0 = true := by decide +kernel
set_option maxRecDepth 65536 in
theorem w_ripe : about1.ripe theMethod args0 below0 = true := by decide +kernel
theorem w_running : about1.status = .running := rfl
set_option maxRecDepth 65536 in
theorem w_room : about1.hasRoom e0.platform room_1 = true :=
  launch0.hasRoom_least _ room_1 (by decide +kernel) (by decide +kernel) (by decide +kernel) (by decide +kernel) (by decide +kernel) (by decide +kernel)
theorem allAtoms_all (ts : List Jvm.Cond) (a : Array Jvm.Value) (st : Jvm.State) : (allAtoms ts).before a st = ts.all (fun c => c.before a st) := by
  induction ts with
  | nil => rfl
  | cons c t ih =>
    show (Jvm.Cond.and c (allAtoms t)).before a st = _
    rw [Jvm.Cond.before_and, ih, List.all_cons]
def words1 : List Jvm.Cond := Jvm.Cond.code x code maxLocals ret :: tables_1
/-- a 'code' word, met by the world's own term for the bytes: nothing is compared byte by byte -/
theorem code_word {y : MethodName} {bytes : ByteArray} {mx : Nat} {rt : Option FieldType} {a : Array Value} {s : State} {m : MethodId} {meth : Method} {c : Code} (h1 : s.methodNamed? y = some m) (h2 : s.vm.method? m = some meth) (h3 : meth.code = some c) (h4 : c.code = bytes)
    (h5 : (c.maxLocals == mx && c.exceptionTable.isEmpty && decide (c.maxStack ≤ mostOperands) && decide (meth.sig.returnType = rt) && !meth.locks && decide (parseMethodDescriptor y.desc = some meth.sig)) = true) : (Jvm.Cond.code y bytes mx rt).before a s = true := by
  simp only [Bool.and_eq_true, beq_iff_eq, Bool.not_eq_true', decide_eq_true_eq] at h5
  obtain ⟨⟨⟨⟨⟨g1, g2⟩, g3⟩, g4⟩, g5⟩, g6⟩ := h5
  simp [Cond.before, Cond.holds, Cond.value, h1, h2, h3, h4, g1, g2, g3, g4, g5, g6]
def isCode : Jvm.Cond → Bool
  | .code _ _ _ _ => true
  | _ => false
theorem all_split {L : List Jvm.Cond} {P : Jvm.Cond → Bool} (h1 : L.all (fun c => isCode c || P c) = true) (h2 : ∀ c ∈ L.filter isCode, P c = true) : L.all P = true := by
  refine List.all_eq_true.mpr fun c hc => ?_
  have h := List.all_eq_true.mp h1 c hc
  rcases Bool.eq_false_or_eq_true (isCode c) with hi | hi
  · exact h2 c (List.mem_filter.mpr ⟨hc, hi⟩)
  · simpa [hi] using h
set_option maxRecDepth 65536 in
theorem w_c0 : (Jvm.Cond.code x code maxLocals ret).before args0 about1 = true := code_word (m := ⟨1, 2⟩) (meth := k1m2) (c := k1c2) (by decide +kernel) rfl rfl rfl (by decide +kernel)
set_option maxRecDepth 65536 in
theorem w_c1 : (Jvm.Cond.code ({ cls := "com/example/escar/escar/schema/datatype/XmlNames", name := "isNameStartChar", desc := "(I)Z" } : Jvm.MethodName) prog_54_method_7_code (1 : Nat) (Option.some Jvm.ClassFile.FieldType.boolean)).before args0 about1 = true := code_word (m := ⟨2, 1⟩) (meth := k2m1) (c := k2c1) (by decide +kernel) rfl rfl rfl (by decide +kernel)
set_option maxRecDepth 65536 in
theorem w_c2 : (Jvm.Cond.code ({ cls := "com/example/escar/escar/schema/datatype/XmlNamesIsNameStartCharPinLaw", name := "inGap", desc := "(I)Z" } : Jvm.MethodName) method_2_code (1 : Nat) (Option.some Jvm.ClassFile.FieldType.boolean)).before args0 about1 = true := code_word (m := ⟨1, 1⟩) (meth := k1m1) (c := k1c1) (by decide +kernel) rfl rfl rfl (by decide +kernel)
def codes1 : List Jvm.Cond := [Jvm.Cond.code x code maxLocals ret, Jvm.Cond.code ({ cls := "com/example/escar/escar/schema/datatype/XmlNames", name := "isNameStartChar", desc := "(I)Z" } : Jvm.MethodName) prog_54_method_7_code (1 : Nat) (Option.some Jvm.ClassFile.FieldType.boolean), Jvm.Cond.code ({ cls := "com/example/escar/escar/schema/datatype/XmlNamesIsNameStartCharPinLaw", name := "inGap", desc := "(I)Z" } : Jvm.MethodName) method_2_code (1 : Nat) (Option.some Jvm.ClassFile.FieldType.boolean)]
set_option maxRecDepth 65536 in
theorem codes_eq : words1.filter isCode = codes1 := rfl
theorem w_codes : ∀ c ∈ words1.filter isCode, c.before args0 about1 = true := by
  rw [codes_eq]
  intro c hc
  simp only [codes1, List.mem_cons, List.not_mem_nil, or_false] at hc
  rcases hc with rfl | rfl | rfl
  · exact w_c0
  · exact w_c1
  · exact w_c2
set_option maxRecDepth 65536 in
theorem w_t1 : words1.all (fun c => isCode c || c.before args0 about1) = true := by decide +kernel
theorem w_tables : (allAtoms (Jvm.Cond.code x code maxLocals ret :: tables_1)).before args0 about1 = true := by
  rw [allAtoms_all]
  show words1.all (fun c => c.before args0 about1) = true
  refine all_split ?_ w_codes
  rw [w_t1]
set_option maxRecDepth 65536 in
theorem w_case : (Jvm.Cond.and given_1 narrow_1).before args0 about1 = true := by decide +kernel
theorem w_applies : (headSpec (Jvm.Cond.code x code maxLocals ret :: tables_1) room_1).applies x e0.platform about1 = true :=
  (Spec.applies_iff w_frames).mpr ⟨w_running, w_runnable, w_alone, w_named, w_hears, w_ripe, w_room, w_tables⟩
theorem atStart : AtStart classFile x code maxLocals ret World_1 tables_1 room_1 Calls_1 rest_1 Pre_1 launch0 p0 e0 about1 theMethod args0 below0 :=
  ⟨lists_1, trivial, launch0.admits_env _ _ _, launch0.least_env, fairChoices_fair.cas, fairChoices_fair.clock, w_frames, w_args, w_heap, w_applies, trivial, trivial, w_case⟩
end start1
theorem witness_1 : WitnessClaimed_1 := ⟨start1.p0, start1.e0, start1.about1, start1.theMethod, start1.args0, start1.below0, start1.atStart⟩
end Jvm.Pilot.@@N@@
