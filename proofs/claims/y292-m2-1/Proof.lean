import JvmDerived
import JvmDerived.Pilot.@@N@@Statement
import JvmDerived.Pilot.@@N@@Code
set_option linter.unusedVariables false
set_option linter.unusedSimpArgs false
namespace Jvm.RoadKit
open Sem ClassFile Op Lib Jvm.Stand Jvm.Free Jvm.LawKit
section Own
variable {p : Program} {l : Launch} {e : Env} {R : Room} {s : State} {m : MethodId} {args : Array Value} {below : List Frame} {meth : Method} {c : Code} {T : State} {locs : List Loc} {cells slots : Nat}
theorem retI (X : Stand p l e R s m args below meth c T locs cells slots) (hx : p.tables.exec = Jvm.exec) {pc : Nat} {Ls : Array Slot} {z : Int32} {rest : List Value} (hret : meth.sig.returnType = some .int) (hd : decode c.code pc = .ok (.ireturn, 1)) {fs : List Frame}
    (hl : ∀ (f : JFrame) (acts : List Action), f.method = m → f.locked = none → f.entered = [] → (doReturn e (T.setTop f) acts (some (.int z))).1 = T.setFrames fs) : Steps p.tables e below (T.setTop (mkF m pc Ls (.int z :: rest))) (T.setFrames fs) := by
  have hm' : T.vm.method? m = some meth := X.method'
  have hn : narrow .int (.int z) = .int z := rfl
  show Steps p.tables e below (T.setTop { method := m, pc := pc, locals := Ls, stack := _ :: rest, locked := none }) _
  jvm_step X.here [X.here.top, hx, hd, hm', hret, hn]
  first | (intro acts; rw [hl _ acts rfl rfl rfl]) | rw [hl _ _ rfl rfl rfl]
  exact Steps.refl _
/-- from U the run comes to an end of which Qo holds -/
def own_Ends (tb : Tables) (e : Env) (below : List Frame) (Qo : Outcome → State → Prop) (U : State) : Prop := ∃ s₂ o, Steps tb e below U s₂ ∧ s₂.status = .running ∧ Ended s₂ below o ∧ Qo o s₂
def own_Q (s : State) (Q : Option Value → Heap → List Loc → Prop) (A B : Nat) : Outcome → State → Prop := fun o U' => ∃ v L, o = .returned v ∧ Q v U'.heap L ∧ FrameEnd s o U' L A B
theorem own_step {tb : Tables} {e : Env} {below : List Frame} {Qo : Outcome → State → Prop} {U V : State} (k : ∀ t, Steps tb e below V t → Steps tb e below U t) (h : own_Ends tb e below Qo V) : own_Ends tb e below Qo U := by
  obtain ⟨s₂, o, h1, h2⟩ := h; exact ⟨s₂, o, k _ h1, h2⟩
variable {Q : Option Value → Heap → List Loc → Prop} {A B : Nat}
theorem own_leave (X : Stand p l e R s m args below meth c T locs cells slots) (hlk : meth.locks = false) {v : Option Value} (hv : meth.sig.returnType = none → v = none) (ha : cells ≤ A) (hb : slots ≤ B) (hQ : Q v T.heap locs) {g : JFrame}
    (k : ∀ fs, (∀ (f : JFrame) (acts : List Action), f.method = m → f.locked = none → f.entered = [] → (doReturn e (T.setTop f) acts v).1 = T.setFrames fs) → Steps p.tables e below (T.setTop g) (T.setFrames fs)) : own_Ends p.tables e below (own_Q s Q A B) (T.setTop g) := by
  obtain ⟨fs, hr, hrun, hended, hW, hsame⟩ := X.leave (v := v) hv hlk
  exact ⟨_, _, k fs hr, hrun, hended, _, _, rfl, (show Q v T.heap locs from hQ), ⟨_, rfl⟩, hW, hsame.mono ha hb⟩
theorem own_retN (X : Stand p l e R s m args below meth c T locs cells slots) (hx : p.tables.exec = Jvm.exec) (hlk : meth.locks = false) (ha : cells ≤ A) (hb : slots ≤ B) {pc : Nat} {Ls : Array Slot} {z : Int32} {t : FieldType} {rest : List Value} (hret : meth.sig.returnType = some t) (ht : t = .boolean ∨ t = .byte ∨ t = .char ∨ t = .short)
    (hd : decode c.code pc = .ok (.ireturn, 1)) (hQ : Q (some (.int (nar t z))) T.heap locs) : own_Ends p.tables e below (own_Q s Q A B) (T.setTop (mkF m pc Ls (.int z :: rest))) :=
  own_leave X hlk (fun h => by rw [hret] at h; cases h) ha hb hQ fun fs hr => retN X hx hret ht hd hr
theorem own_retI (X : Stand p l e R s m args below meth c T locs cells slots) (hx : p.tables.exec = Jvm.exec) (hlk : meth.locks = false) (ha : cells ≤ A) (hb : slots ≤ B) {pc : Nat} {Ls : Array Slot} {z : Int32} {rest : List Value} (hret : meth.sig.returnType = some .int)
    (hd : decode c.code pc = .ok (.ireturn, 1)) (hQ : Q (some (.int z)) T.heap locs) : own_Ends p.tables e below (own_Q s Q A B) (T.setTop (mkF m pc Ls (.int z :: rest))) :=
  own_leave X hlk (fun h => by rw [hret] at h; cases h) ha hb hQ fun fs hr => retI X hx hret hd hr
theorem own_retJ (X : Stand p l e R s m args below meth c T locs cells slots) (hx : p.tables.exec = Jvm.exec) (hlk : meth.locks = false) (ha : cells ≤ A) (hb : slots ≤ B) {pc : Nat} {Ls : Array Slot} {z : Int64} {rest : List Value} (hret : meth.sig.returnType = some .long)
    (hd : decode c.code pc = .ok (.lreturn, 1)) (hQ : Q (some (.long z)) T.heap locs) : own_Ends p.tables e below (own_Q s Q A B) (T.setTop (mkF m pc Ls (.long z :: rest))) :=
  own_leave X hlk (fun h => by rw [hret] at h; cases h) ha hb hQ fun fs hr => by
    have hm' : T.vm.method? m = some meth := X.method'
    show Steps p.tables e below (T.setTop { method := m, pc := pc, locals := Ls, stack := _ :: rest, locked := none }) _
    jvm_step X.here [X.here.top, hx, hd, hm', hret, narrow]
    first | (intro acts; rw [hr _ acts rfl rfl rfl]) | rw [hr _ _ rfl rfl rfl]
    exact Steps.refl _
theorem own_retA (X : Stand p l e R s m args below meth c T locs cells slots) (hx : p.tables.exec = Jvm.exec) (hlk : meth.locks = false) (ha : cells ≤ A) (hb : slots ≤ B) {pc : Nat} {Ls : Array Slot} {z : Value} {t : FieldType} {rest : List Value} (hret : meth.sig.returnType = some t) (ht : t.isReference = true) (hz : z.isRef = true)
    (hd : decode c.code pc = .ok (.areturn, 1)) (hQ : Q (some z) T.heap locs) : own_Ends p.tables e below (own_Q s Q A B) (T.setTop (mkF m pc Ls (z :: rest))) :=
  own_leave X hlk (fun h => by rw [hret] at h; cases h) ha hb hQ fun fs hr => by
    have hm' : T.vm.method? m = some meth := X.method'
    show Steps p.tables e below (T.setTop { method := m, pc := pc, locals := Ls, stack := _ :: rest, locked := none }) _
    jvm_step X.here [X.here.top, hx, hd, hm', hret, ht, hz]
    first | (intro acts; rw [hr _ acts rfl rfl rfl]) | rw [hr _ _ rfl rfl rfl]
    exact Steps.refl _
theorem own_ret0 (X : Stand p l e R s m args below meth c T locs cells slots) (hx : p.tables.exec = Jvm.exec) (hlk : meth.locks = false) (ha : cells ≤ A) (hb : slots ≤ B) {pc : Nat} {Ls : Array Slot} (hret : meth.sig.returnType = none)
    (hd : decode c.code pc = .ok (.return_, 1)) (hQ : Q none T.heap locs) : own_Ends p.tables e below (own_Q s Q A B) (T.setTop (mkF m pc Ls [])) :=
  own_leave X hlk (fun _ => rfl) ha hb hQ fun fs hr => X.returnOut hx hret hd hr
theorem own_sel_priv {s : State} {args : Array Value} {n : Nat} {y : MethodName} (hy : y.cls ≠ "java/lang/invoke/MethodHandle" ∧ y.cls ≠ "java/lang/invoke/VarHandle") (hins : (Cond.instantiable y.cls n).before args s = true) (hpriv : (Cond.privateMethod y).before args s = true) (hinst : (Cond.instanceMethod y).before args s = true) :
    (Cond.selects y.cls y y).before args s = true := by
  obtain ⟨c, k, hc, hk, -, hniab, -, -⟩ := Cond.instantiable_spec hins
  have hni : k.isInterface = false := (Bool.or_eq_false_iff.mp hniab).1
  obtain ⟨mk, methM, hnamed, hmethM, -, -⟩ := Cond.instanceMethod_spec hinst
  have hfound : s.methodFound? y.cls y.name y.desc = some mk := State.methodFound?_of_named hnamed hy
  have hcls : mk.cls = c := Option.some.inj ((findClass_of_methodNamed hnamed).symm.trans hc)
  have hsel : selectMethod {} s.vm c mk = .method mk := selectMethod_private hmethM (Cond.privateMethod_at hpriv mk methM hnamed hmethM)
  simp only [Cond.before, Cond.holds, Cond.value, hc, hfound, hnamed, hsel, hcls, hk]
  simp; exact hni
theorem own_pop2J (X : Stand p l e R s m args below meth c T locs cells slots) (hx : p.tables.exec = Jvm.exec) {pc : Nat} {Ls : Array Slot} {z : Int64} {rest : List Value} (hd : decode c.code pc = .ok (.pop2, 1)) {target : State}
    (hr : Steps p.tables e below (T.setTop (mkF m (pc + 1) Ls rest)) target) : Steps p.tables e below (T.setTop (mkF m pc Ls (.long z :: rest))) target := by
  show Steps p.tables e below (T.setTop { method := m, pc := pc, locals := Ls, stack := _ :: rest, locked := none }) _
  jvm_step X.here [X.here.top, hx, hd, Value.category]
  exact hr
def own_NS (h : Heap) (x : Addr) : Prop := ∃ c : Cell, h[x]? = some c ∧ c.vm.isStatics = false
theorem own_ns_exa {Z : State} {h : Heap} {a : Addr} {C : String} (F : Exa Z h a C) : own_NS h a := by obtain ⟨c, k, h1, h2, h3, h4, h5⟩ := F; exact ⟨c, h1, h4⟩
theorem own_ns_arv {Z : State} {h : Heap} {a : Addr} {k : ClassId} {ty : FieldType} {z : Int32} {vs : List Value} {d : Value} (F : Arv Z h a k ty z vs d) : own_NS h a := by obtain ⟨c, A, -⟩ := F; exact ⟨c, A.1, A.plain⟩
theorem own_Sta_keep {Z : State} {h h' : Heap} {ws : List Addr} {C n d : String} {v : Value} (F : Sta Z h C n d v) (K : Keep h h' ws) (q : ∀ x ∈ ws, own_NS h x) : Sta Z h' C n d v := by
  obtain ⟨cf, i, k, f, st, cell, h1, h2, h3, h4, h5, h6, h7⟩ := F
  refine ⟨cf, i, k, f, st, cell, h1, h2, h3, h4, K.2.1 st cell h5 fun m => ?_, h6, h7⟩
  obtain ⟨c, e1, e2⟩ := q st m
  rw [h5] at e1; cases e1; rw [h6] at e2; cases e2
theorem own_lc_lt (x y : Int64) : lcmpW x y < 0 ↔ x < y := by rw [lcW]; exact lc_lt x y
theorem own_lc_gt (x y : Int64) : 0 < lcmpW x y ↔ y < x := by rw [lcW]; exact lc_gt x y
theorem own_lc_eq (x y : Int64) : lcmpW x y = 0 ↔ x = y := by rw [lcW]; exact lc_eq x y
end Own
end Jvm.RoadKit
namespace Jvm.Pilot.@@N@@
open Jvm Jvm.ClassFile Sem Op Lib Jvm.Free Jvm.Stand Jvm.LawKit Jvm.RoadKit Bundle Jvm.Pilot.@@N@@.Jvm.D
theorem own_ofNat_toInt {n : Nat} (h : n < 2147483648) : (Int32.ofNat n).toInt = n := Int32.toInt_ofNat_of_lt h
theorem own_nlt {a b : Nat} (ha : a < 2147483648) (hb : b < 2147483648) : (Int32.ofNat a < Int32.ofNat b) ↔ a < b := by
  rw [Int32.lt_iff_toInt_lt, own_ofNat_toInt ha, own_ofNat_toInt hb]; omega
theorem own_neq {a b : Nat} (ha : a < 2147483648) (hb : b < 2147483648) : (Int32.ofNat a = Int32.ofNat b) ↔ a = b := by
  rw [← Int32.toInt_inj, own_ofNat_toInt ha, own_ofNat_toInt hb]; omega
theorem own_nn {a : Nat} (ha : a < 2147483648) : ¬ Int32.ofNat a < 0 := by
  rw [Int32.lt_iff_toInt_lt, own_ofNat_toInt ha]; show ¬ (a : Int) < 0; omega
theorem own_clamp {a : Nat} (ha : a < 2147483648) : (Int32.ofNat a).toNatClampNeg = a := by
  rw [Int32.toNatClampNeg, own_ofNat_toInt ha]; rfl
theorem own_inc (c : Nat) : Int32.ofNat c + 1 = Int32.ofNat (c + 1) := by
  rw [Int32.ofNat_add]; rfl
theorem own_add (a b : Nat) : Int32.ofNat a + Int32.ofNat b = Int32.ofNat (a + b) := (Int32.ofNat_add a b).symm
theorem own_sub {a b : Nat} (h : b ≤ a) : Int32.ofNat a - Int32.ofNat b = Int32.ofNat (a - b) := by
  have e : Int32.ofNat a = Int32.ofNat (a - b) + Int32.ofNat b := by rw [own_add]; congr 1; omega
  rw [e, Int32.add_sub_cancel]
theorem own_dec (a : Nat) : Int32.ofNat (a + 1) + (-1 : Int32) = Int32.ofNat a := by
  have e : (-1 : Int32) = - Int32.ofNat 1 := rfl
  rw [e, ← Int32.sub_eq_add_neg, own_sub (by omega)]; congr 1
/-- what lies in the buffer behind a write of n bytes at sz -/
def own_put (vs : List Value) (sz n : Nat) (us : List Value) : List Value := vs.take sz ++ (List.range n).map (fun i => us.getD i (.int (0 : Int32))) ++ vs.drop (sz + n)
theorem own_put_len {vs us : List Value} {sz n : Nat} (h : sz + n ≤ vs.length) : (own_put vs sz n us).length = vs.length := by
  unfold own_put; simp; omega
theorem own_put_lo {vs us : List Value} {sz n i : Nat} (d : Value) (h : sz + n ≤ vs.length) (hi : i < sz) : (own_put vs sz n us).getD i d = vs.getD i d := by
  unfold own_put
  simp only [List.getD_eq_getElem?_getD]
  rw [List.append_assoc, List.getElem?_append_left (by simp; omega), List.getElem?_take_of_lt hi]
theorem own_put_at {vs us : List Value} {sz n i : Nat} (d : Value) (h : sz + n ≤ vs.length) (hi : i < n) : (own_put vs sz n us).getD (sz + i) d = us.getD i (.int (0 : Int32)) := by
  unfold own_put
  simp only [List.getD_eq_getElem?_getD]
  have e : (vs.take sz).length = sz := by simp; omega
  rw [List.append_assoc, List.getElem?_append_right (by rw [e]; omega), e, Nat.add_sub_cancel_left, List.getElem?_append_left (by simp; exact hi)]
  simp [hi]
theorem own_cp_put (vd us : List Value) (sz n : Nat) (h1 : sz < 2147483648) (h2 : n < 2147483648) : vd.take (Int32.ofNat sz).toNatClampNeg ++ ((List.range (Int32.ofNat n).toNatClampNeg).map fun i => us.getD ((0 : Int32).toNatClampNeg + i) (.int (0 : Int32))) ++ vd.drop ((Int32.ofNat sz).toNatClampNeg + (Int32.ofNat n).toNatClampNeg) = own_put vd sz n us := by
  rw [own_clamp h1, own_clamp h2]
  have z : (0 : Int32).toNatClampNeg = 0 := rfl
  unfold own_put; rw [z]; simp only [Nat.zero_add]
theorem own_sr7 (r : Int64) : ((r.toUInt64 >>> ((7 : Int32) &&& 0x3f).toInt64.toUInt64).toInt64).toUInt64.toNat = r.toUInt64.toNat / 128 := by
  have e : ((7 : Int32) &&& 0x3f).toInt64.toUInt64 = 7 := by decide
  rw [e]
  show (r.toUInt64 >>> 7).toNat = _
  rw [UInt64.toNat_shiftRight]
  show r.toUInt64.toNat >>> (7 % 64) = _
  rw [Nat.shiftRight_eq_div_pow]
theorem own_u0 (r : Int64) (h : r.toUInt64.toNat = 0) : r = 0 := by
  have : r.toUInt64 = 0 := UInt64.toNat_inj.mp h
  have k : r.toUInt64.toInt64 = (0 : UInt64).toInt64 := by rw [this]
  simpa using k
theorem own_sr7_0 (r : Int64) (h : r.toUInt64.toNat < 128) : ((r.toUInt64 >>> ((7 : Int32) &&& 0x3f).toInt64.toUInt64).toInt64) = 0 := own_u0 _ (by rw [own_sr7]; omega)
theorem own_ofN (r : Int64) : r = Int64.ofNat r.toUInt64.toNat := by
  apply Int64.toBitVec_inj.mp
  show r.toBitVec = BitVec.ofNat 64 r.toBitVec.toNat
  simp
theorem own_digit (r : Int64) (h : r.toUInt64.toNat < 128) : nar .byte (((r &&& (127 : Int64)).toInt32).toInt8.toInt32) = r.toInt32 := by
  rw [own_ofN r]
  generalize r.toUInt64.toNat = m at h
  have k : ∀ m : Fin 128, nar .byte (((Int64.ofNat m.1 &&& (127 : Int64)).toInt32).toInt8.toInt32) = (Int64.ofNat m.1).toInt32 := by decide +kernel
  exact k ⟨m, h⟩
def own_enc (t pt : Int64) : Int64 := if t = -1 then 0 else t - pt + 1
theorem own_np (np : Nat) (h : np < 128) : (Int32.ofNat np).toInt64.toUInt64.toNat = np ∧ ((Int32.ofNat np).toInt64).toInt32 = Int32.ofNat np := by
  have k : ∀ m : Fin 128, (Int32.ofNat m.1).toInt64.toUInt64.toNat = m.1 ∧ ((Int32.ofNat m.1).toInt64).toInt32 = Int32.ofNat m.1 := by decide +kernel
  exact k ⟨np, h⟩
theorem own_e3 (pt : Int64) (d : Nat) (h : d < 127) : (own_enc (pt + (Int32.ofNat d).toInt64) pt).toUInt64.toNat < 128 ∧ (pt + (Int32.ofNat d).toInt64 = -1 → own_enc (pt + (Int32.ofNat d).toInt64) pt = 0) ∧ (¬ pt + (Int32.ofNat d).toInt64 = -1 → (own_enc (pt + (Int32.ofNat d).toInt64) pt).toInt32 = (Int32.ofNat d + 1).toInt8.toInt32) := by
  have k : ∀ m : Fin 127, ((Int32.ofNat m.1).toInt64 + 1).toUInt64.toNat < 128 ∧ ((Int32.ofNat m.1).toInt64 + 1).toInt32 = (Int32.ofNat m.1 + 1).toInt8.toInt32 := by decide +kernel
  have kk := k ⟨d, h⟩
  have e : pt + (Int32.ofNat d).toInt64 - pt + 1 = (Int32.ofNat d).toInt64 + 1 := by rw [Int64.add_comm pt, Int64.add_sub_cancel]
  unfold own_enc
  by_cases q : pt + (Int32.ofNat d).toInt64 = -1
  · rw [if_pos q]; exact ⟨by decide, fun _ => rfl, fun u => absurd q u⟩
  · rw [if_neg q, e]; exact ⟨kk.1, fun u => absurd u q, fun _ => kk.2⟩
theorem own_byte_at {Z : State} {h : Heap} {a : Addr} {k : ClassId} {z : Int32} {vs : List Value} {d : Value} (A : Arv Z h a k .byte z vs d) (i : Nat) (hi : i < z.toNatClampNeg) : ∃ x : Int32, vs.getD i d = .int x := by
  obtain ⟨c, -, -, S, -, -, G⟩ := A
  exact fit_I (G i (by rw [S]; exact hi)) (by simp)
def own_QEnc (Z : State) (q0 : Int64) (h0 : Heap) (n0 : Nat) (v : Option Value) (h : Heap) (L : List Loc) : Prop := ∃ (b : Addr) (k : ClassId) (n : Nat) (us : List Value), v = some (.ref b) ∧ Fr n0 L ∧ Keep h0 h [] ∧ n0 ≤ b ∧ h0.size ≤ b ∧ 1 ≤ n ∧ n ≤ 10 ∧ Arv Z h b k .byte (Int32.ofNat n) us (.int (0 : Int32)) ∧ (q0.toUInt64.toNat < 128 → n = 1 ∧ us.getD 0 (.int (0 : Int32)) = .int q0.toInt32)
theorem own_pow {r k : Nat} (h : r < 128 ^ (k + 1 + 1)) : r / 128 < 128 ^ (k + 1) := by
  rw [Nat.pow_succ] at h; exact Nat.div_lt_of_lt_mul (by rw [Nat.mul_comm]; exact h)
theorem own_drange (k : Int32) : ∃ d : Nat, d < 127 ∧ ((((k.toUInt32 >>> ((8 : Int32) &&& 31).toUInt32).toInt32) &&& (65535 : Int32)) % (127 : Int32)) = Int32.ofNat d := by
  generalize ((k.toUInt32 >>> ((8 : Int32) &&& 31).toUInt32).toInt32) = u
  have h := c_and u (65535 : Int32) (by decide)
  have e := (c_irem (u &&& (65535 : Int32)) (127 : Int32) 127 rfl).1 h.1
  generalize u &&& (65535 : Int32) = w at h e
  refine ⟨(w.toInt % 127).toNat, by omega, Int32.toInt_inj.mp ?_⟩
  rw [e, own_ofNat_toInt (by omega)]; omega
theorem own_add2 (sz : Nat) : Int32.ofNat sz + (2 : Int32) = Int32.ofNat (sz + 1 + 1 + 0) := own_add sz 2
def own_minI (a b : Int32) : Int32 := if b < a then b else a
theorem own_d14_0 : decode jdk_29_method_69_code 0 = .ok (.iload_n 0, 1) := by decide +kernel
theorem own_d14_1 : decode jdk_29_method_69_code 1 = .ok (.iload_n 1, 1) := by decide +kernel
theorem own_d14_2 : decode jdk_29_method_69_code 2 = .ok (.if_icmp .gt 7, 3) := by decide +kernel
theorem own_d14_5 : decode jdk_29_method_69_code 5 = .ok (.iload_n 0, 1) := by decide +kernel
theorem own_d14_6 : decode jdk_29_method_69_code 6 = .ok (.goto 4, 3) := by decide +kernel
theorem own_d14_9 : decode jdk_29_method_69_code 9 = .ok (.iload_n 1, 1) := by decide +kernel
theorem own_d14_10 : decode jdk_29_method_69_code 10 = .ok (.ireturn, 1) := by decide +kernel
theorem own_ef_14 (m : MethodId) (x0 : Int32) (x1 : Int32) : entryFrame m #[(.int x0), (.int x1)] 2 = mkF m 0 #[.val (.int x0), .val (.int x1)] [] := by first | (simp [entryFrame, mkF, argsToLocals, Value.category]; done) | rfl
def own_Q_minI (Z : State) (p0 : Int32) (p1 : Int32) (h0 : Heap) (n0 : Nat) (v : Option Value) (h : Heap) (L : List Loc) : Prop := v = some (.int (own_minI p0 p1)) ∧ Fr n0 L ∧ h = h0
set_option maxRecDepth 65536 in
set_option maxHeartbeats 40000000 in
theorem own_rm_minI (l : Launch) (Z : State) (aw : Array Value) (hw : ∀ d ∈ tables_1, d.before aw Z = true) (ws : List Jvm.Cond) (p0 : Int32) (p1 : Int32) (h0 : Heap) (n0 : Nat) (Z0 : n0 ≤ h0.size) :
    MetFree l (⟨"java/lang/Math", "min", "(II)I"⟩ : MethodName) (head1 (Jvm.Cond.code (⟨"java/lang/Math", "min", "(II)I"⟩ : MethodName) jdk_29_method_69_code 2 (some .int) :: ws) ({ frames := 0, cells := 0, slots := 0, locals := 0 } : Room)) (fun a U => a = #[(.int p0), (.int p1)] ∧ Z.Warmed39 U.vm ∧ U.heap = h0) (fun _ _ _ _ _ => True) (fun _ U o U' => ∃ v L, o = .returned v ∧ own_Q_minI Z p0 p1 h0 n0 v U'.heap L ∧ FrameEnd U o U' L ({ frames := 0, cells := 0, slots := 0, locals := 0 } : Room).cells ({ frames := 0, cells := 0, slots := 0, locals := 0 } : Room).slots) := by
  refine MetFree.of_bodySF (Jvm.Free.JP.mathPlain rfl (by decide +kernel)) hisR ?_
  intro p e s m args below meth c s₁ Bd hml0 hP hK
  obtain ⟨rfl, hZ, hh⟩ := hP
  have hx := Bd.exec
  have hby := Bd.bytes
  have hlk : meth.locks = false := BodyLoose.notSynchronized Bd
  have hml : c.maxLocals = 2 := hml0
  have hown : s.vm.findClass "java/lang/Math" = some m.cls := findClass_of_methodNamed Bd.named
  have hnm := (name_of_methodNamed Bd.named Bd.method).1
  have X0 : Stand p l e ({ frames := 0, cells := 0, slots := 0, locals := 0 } : Room) s m #[(.int p0), (.int p1)] below meth c s₁ [] 0 0 := Stand.of_body Bd
  have e0 : s₁.heap = h0 := by rw [← hh, Bd.state]; rfl
  have N0 := Fr.nil n0
  have K0 : Keep h0 h0 [] := Keep.refl _ _
  have pre0 : ∀ t, Steps p.tables e below (s₁.setTop (mkF m 0 #[.val (.int p0), .val (.int p1)] [])) t → Steps p.tables e below (s₁.setTop (entryFrame m #[(.int p0), (.int p1)] 2)) t := fun t k => castTop (own_ef_14 m p0 p1) k
  show own_Ends p.tables e below (own_Q s (own_Q_minI Z p0 p1 h0 n0) ({ frames := 0, cells := 0, slots := 0, locals := 0 } : Room).cells ({ frames := 0, cells := 0, slots := 0, locals := 0 } : Room).slots) (s₁.setTop (entryFrame m #[(.int p0), (.int p1)] 2))
  refine own_step pre0 ?_
  show own_Ends p.tables e below _ (s₁.setTop (mkF m 0 #[.val (.int p0), .val (.int p1)] []))
  refine own_step (fun _ k => XS.iloadN X0.here hx rfl (hb hby own_d14_0) rfl k) ?_
  show own_Ends p.tables e below _ (s₁.setTop (mkF m 1 #[.val (.int p0), .val (.int p1)] [(.int p0)]))
  refine own_step (fun _ k => XS.iloadN X0.here hx rfl (hb hby own_d14_1) rfl k) ?_
  show own_Ends p.tables e below _ (s₁.setTop (mkF m 2 #[.val (.int p0), .val (.int p1)] [(.int p1), (.int p0)]))
  by_cases hc2 : p1 < p0
  · refine own_step (fun _ k => XS.icmpYes X0.here hx rfl (pc0 := 2) (pc' := 9) rfl (hb hby own_d14_2) rfl (tlt hc2).2.2.1 (by decide) (by decide) k) ?_
    show own_Ends p.tables e below _ (s₁.setTop (mkF m 9 #[.val (.int p0), .val (.int p1)] []))
    refine own_step (fun _ k => XS.iloadN X0.here hx rfl (hb hby own_d14_9) rfl k) ?_
    show own_Ends p.tables e below _ (s₁.setTop (mkF m 10 #[.val (.int p0), .val (.int p1)] [(.int p1)]))
    exact own_retI X0 hx hlk (by decide) (by decide) Bd.returns (hb hby own_d14_10) (by rw [e0]; exact ⟨by rw [show own_minI p0 p1 = p1 by simp [own_minI, hc2]], N0, rfl⟩)
  · refine own_step (fun _ k => XS.icmpNo X0.here hx rfl (hb hby own_d14_2) rfl (flt hc2).2.2.1 k) ?_
    show own_Ends p.tables e below _ (s₁.setTop (mkF m 5 #[.val (.int p0), .val (.int p1)] []))
    refine own_step (fun _ k => XS.iloadN X0.here hx rfl (hb hby own_d14_5) rfl k) ?_
    show own_Ends p.tables e below _ (s₁.setTop (mkF m 6 #[.val (.int p0), .val (.int p1)] [(.int p0)]))
    refine own_step (fun _ k => XS.goto X0.here hx rfl (pc0 := 6) (pc' := 10) rfl (hb hby own_d14_6) (by decide) (by decide) k) ?_
    show own_Ends p.tables e below _ (s₁.setTop (mkF m 10 #[.val (.int p0), .val (.int p1)] [(.int p0)]))
    exact own_retI X0 hx hlk (by decide) (by decide) Bd.returns (hb hby own_d14_10) (by rw [e0]; exact ⟨by rw [show own_minI p0 p1 = p0 by simp [own_minI, hc2]], N0, rfl⟩)
theorem own_d5_0 : decode prog_18_method_2_code 0 = .ok (.aload_n 0, 1) := by decide +kernel
theorem own_d5_1 : decode prog_18_method_2_code 1 = .ok (.getfield 20, 3) := by decide +kernel
theorem own_d5_4 : decode prog_18_method_2_code 4 = .ok (.ireturn, 1) := by decide +kernel
theorem own_pn0 : plainName "com/example/ketchup/ketchup/negentropy/MessageWriter" = true := by first | (simp [plainName, overriddenIn]; done) | decide +kernel
theorem own_ef_5 (m : MethodId) (x0 : Addr) : entryFrame m #[(.ref x0)] 1 = mkF m 0 #[.val (.ref x0)] [] := by first | (simp [entryFrame, mkF, argsToLocals, Value.category]; done) | rfl
def own_Q_size (Z : State) (a0 : Addr) (z : Int32) (h0 : Heap) (n0 : Nat) (v : Option Value) (h : Heap) (L : List Loc) : Prop := v = some (.int z) ∧ Fr n0 L ∧ h = h0
set_option maxRecDepth 65536 in
set_option maxHeartbeats 40000000 in
theorem own_rm_size (l : Launch) (Z : State) (aw : Array Value) (hw : ∀ d ∈ tables_1, d.before aw Z = true) (ws : List Jvm.Cond) (a0 : Addr) (z : Int32) (h0 : Heap) (n0 : Nat) (Z0 : n0 ≤ h0.size) (F_z : Fld Z h0 a0 "com/example/ketchup/ketchup/negentropy/MessageWriter" "size" "I" (.int z)) :
    MetFree l (⟨"com/example/ketchup/ketchup/negentropy/MessageWriter", "size", "()I"⟩ : MethodName) (head1 (Jvm.Cond.code (⟨"com/example/ketchup/ketchup/negentropy/MessageWriter", "size", "()I"⟩ : MethodName) prog_18_method_2_code 1 (some .int) :: ws) ({ frames := 0, cells := 0, slots := 0, locals := 0 } : Room)) (fun a U => a = #[(.ref a0)] ∧ Z.Warmed39 U.vm ∧ U.heap = h0) (fun _ _ _ _ _ => True) (fun _ U o U' => ∃ v L, o = .returned v ∧ own_Q_size Z a0 z h0 n0 v U'.heap L ∧ FrameEnd U o U' L ({ frames := 0, cells := 0, slots := 0, locals := 0 } : Room).cells ({ frames := 0, cells := 0, slots := 0, locals := 0 } : Room).slots) := by
  refine MetFree.of_bodySF (plainFor_of_name own_pn0) hisR ?_
  intro p e s m args below meth c s₁ Bd hml0 hP hK
  obtain ⟨rfl, hZ, hh⟩ := hP
  have hx := Bd.exec
  have hby := Bd.bytes
  have hlk : meth.locks = false := BodyLoose.notSynchronized Bd
  have hml : c.maxLocals = 1 := hml0
  have hown : s.vm.findClass "com/example/ketchup/ketchup/negentropy/MessageWriter" = some m.cls := findClass_of_methodNamed Bd.named
  have hnm := (name_of_methodNamed Bd.named Bd.method).1
  have X0 : Stand p l e ({ frames := 0, cells := 0, slots := 0, locals := 0 } : Room) s m #[(.ref a0)] below meth c s₁ [] 0 0 := Stand.of_body Bd
  have e0 : s₁.heap = h0 := by rw [← hh, Bd.state]; rfl
  have N0 := Fr.nil n0
  have K0 : Keep h0 h0 [] := Keep.refl _ _
  have pre0 : ∀ t, Steps p.tables e below (s₁.setTop (mkF m 0 #[.val (.ref a0)] [])) t → Steps p.tables e below (s₁.setTop (entryFrame m #[(.ref a0)] 1)) t := fun t k => castTop (own_ef_5 m a0) k
  show own_Ends p.tables e below (own_Q s (own_Q_size Z a0 z h0 n0) ({ frames := 0, cells := 0, slots := 0, locals := 0 } : Room).cells ({ frames := 0, cells := 0, slots := 0, locals := 0 } : Room).slots) (s₁.setTop (entryFrame m #[(.ref a0)] 1))
  refine own_step pre0 ?_
  show own_Ends p.tables e below _ (s₁.setTop (mkF m 0 #[.val (.ref a0)] []))
  refine own_step (fun _ k => XS.aloadN X0.here hx rfl (hb hby own_d5_0) rfl rfl k) ?_
  show own_Ends p.tables e below _ (s₁.setTop (mkF m 1 #[.val (.ref a0)] [(.ref a0)]))
  obtain ⟨T1, X1, e1, st1⟩ := getF X0 hx hZ hown (host := "") (Or.inl (hw _ (List.mem_of_getElem? (i := 17) rfl))) Via.refl e0 F_z (g := (mkF m 1 #[.val (.ref a0)] [(.ref a0)])) rfl rfl (hb hby own_d5_1)
  refine own_step st1 ?_
  show own_Ends p.tables e below _ (T1.setTop (mkF m 4 #[.val (.ref a0)] [(.int z)]))
  exact own_retI X1 hx hlk (by decide) (by decide) Bd.returns (hb hby own_d5_4) (by rw [e1]; exact ⟨rfl, N0, rfl⟩)
theorem own_d9_0 : decode prog_11_method_2_code 0 = .ok (.aload_n 0, 1) := by decide +kernel
theorem own_d9_1 : decode prog_11_method_2_code 1 = .ok (.getfield 18, 3) := by decide +kernel
theorem own_d9_4 : decode prog_11_method_2_code 4 = .ok (.lreturn, 1) := by decide +kernel
theorem own_pn1 : plainName "com/example/ketchup/ketchup/negentropy/Bound" = true := by first | (simp [plainName, overriddenIn]; done) | decide +kernel
theorem own_ef_9 (m : MethodId) (x0 : Addr) : entryFrame m #[(.ref x0)] 1 = mkF m 0 #[.val (.ref x0)] [] := by first | (simp [entryFrame, mkF, argsToLocals, Value.category]; done) | rfl
def own_Q_timestamp (Z : State) (a0 : Addr) (z : Int64) (h0 : Heap) (n0 : Nat) (v : Option Value) (h : Heap) (L : List Loc) : Prop := v = some (.long z) ∧ Fr n0 L ∧ h = h0
set_option maxRecDepth 65536 in
set_option maxHeartbeats 40000000 in
theorem own_rm_timestamp (l : Launch) (Z : State) (aw : Array Value) (hw : ∀ d ∈ tables_1, d.before aw Z = true) (ws : List Jvm.Cond) (a0 : Addr) (z : Int64) (h0 : Heap) (n0 : Nat) (Z0 : n0 ≤ h0.size) (F_z : Fld Z h0 a0 "com/example/ketchup/ketchup/negentropy/Bound" "timestamp" "J" (.long z)) :
    MetFree l (⟨"com/example/ketchup/ketchup/negentropy/Bound", "timestamp", "()J"⟩ : MethodName) (head1 (Jvm.Cond.code (⟨"com/example/ketchup/ketchup/negentropy/Bound", "timestamp", "()J"⟩ : MethodName) prog_11_method_2_code 1 (some .long) :: ws) ({ frames := 0, cells := 0, slots := 0, locals := 0 } : Room)) (fun a U => a = #[(.ref a0)] ∧ Z.Warmed39 U.vm ∧ U.heap = h0) (fun _ _ _ _ _ => True) (fun _ U o U' => ∃ v L, o = .returned v ∧ own_Q_timestamp Z a0 z h0 n0 v U'.heap L ∧ FrameEnd U o U' L ({ frames := 0, cells := 0, slots := 0, locals := 0 } : Room).cells ({ frames := 0, cells := 0, slots := 0, locals := 0 } : Room).slots) := by
  refine MetFree.of_bodySF (plainFor_of_name own_pn1) hisR ?_
  intro p e s m args below meth c s₁ Bd hml0 hP hK
  obtain ⟨rfl, hZ, hh⟩ := hP
  have hx := Bd.exec
  have hby := Bd.bytes
  have hlk : meth.locks = false := BodyLoose.notSynchronized Bd
  have hml : c.maxLocals = 1 := hml0
  have hown : s.vm.findClass "com/example/ketchup/ketchup/negentropy/Bound" = some m.cls := findClass_of_methodNamed Bd.named
  have hnm := (name_of_methodNamed Bd.named Bd.method).1
  have X0 : Stand p l e ({ frames := 0, cells := 0, slots := 0, locals := 0 } : Room) s m #[(.ref a0)] below meth c s₁ [] 0 0 := Stand.of_body Bd
  have e0 : s₁.heap = h0 := by rw [← hh, Bd.state]; rfl
  have N0 := Fr.nil n0
  have K0 : Keep h0 h0 [] := Keep.refl _ _
  have pre0 : ∀ t, Steps p.tables e below (s₁.setTop (mkF m 0 #[.val (.ref a0)] [])) t → Steps p.tables e below (s₁.setTop (entryFrame m #[(.ref a0)] 1)) t := fun t k => castTop (own_ef_9 m a0) k
  show own_Ends p.tables e below (own_Q s (own_Q_timestamp Z a0 z h0 n0) ({ frames := 0, cells := 0, slots := 0, locals := 0 } : Room).cells ({ frames := 0, cells := 0, slots := 0, locals := 0 } : Room).slots) (s₁.setTop (entryFrame m #[(.ref a0)] 1))
  refine own_step pre0 ?_
  show own_Ends p.tables e below _ (s₁.setTop (mkF m 0 #[.val (.ref a0)] []))
  refine own_step (fun _ k => XS.aloadN X0.here hx rfl (hb hby own_d9_0) rfl rfl k) ?_
  show own_Ends p.tables e below _ (s₁.setTop (mkF m 1 #[.val (.ref a0)] [(.ref a0)]))
  obtain ⟨T1, X1, e1, st1⟩ := getF X0 hx hZ hown (host := "") (Or.inl (hw _ (List.mem_of_getElem? (i := 52) rfl))) Via.refl e0 F_z (g := (mkF m 1 #[.val (.ref a0)] [(.ref a0)])) rfl rfl (hb hby own_d9_1)
  refine own_step st1 ?_
  show own_Ends p.tables e below _ (T1.setTop (mkF m 4 #[.val (.ref a0)] [(.long z)]))
  exact own_retJ X1 hx hlk (by decide) (by decide) Bd.returns (hb hby own_d9_4) (by rw [e1]; exact ⟨rfl, N0, rfl⟩)
theorem own_d11_0 : decode prog_11_method_3_code 0 = .ok (.aload_n 0, 1) := by decide +kernel
theorem own_d11_1 : decode prog_11_method_3_code 1 = .ok (.getfield 24, 3) := by decide +kernel
theorem own_d11_4 : decode prog_11_method_3_code 4 = .ok (.areturn, 1) := by decide +kernel
theorem own_ef_11 (m : MethodId) (x0 : Addr) : entryFrame m #[(.ref x0)] 1 = mkF m 0 #[.val (.ref x0)] [] := by first | (simp [entryFrame, mkF, argsToLocals, Value.category]; done) | rfl
def own_Q_prefix (Z : State) (a0 : Addr) (z : Addr) (h0 : Heap) (n0 : Nat) (v : Option Value) (h : Heap) (L : List Loc) : Prop := v = some (.ref z) ∧ Fr n0 L ∧ h = h0
set_option maxRecDepth 65536 in
set_option maxHeartbeats 40000000 in
theorem own_rm_prefix (l : Launch) (Z : State) (aw : Array Value) (hw : ∀ d ∈ tables_1, d.before aw Z = true) (ws : List Jvm.Cond) (a0 : Addr) (z : Addr) (h0 : Heap) (n0 : Nat) (Z0 : n0 ≤ h0.size) (F_z : Fld Z h0 a0 "com/example/ketchup/ketchup/negentropy/Bound" "prefix" "[B" (.ref z)) :
    MetFree l (⟨"com/example/ketchup/ketchup/negentropy/Bound", "prefix", "()[B"⟩ : MethodName) (head1 (Jvm.Cond.code (⟨"com/example/ketchup/ketchup/negentropy/Bound", "prefix", "()[B"⟩ : MethodName) prog_11_method_3_code 1 (some (.array .byte)) :: ws) ({ frames := 0, cells := 0, slots := 0, locals := 0 } : Room)) (fun a U => a = #[(.ref a0)] ∧ Z.Warmed39 U.vm ∧ U.heap = h0) (fun _ _ _ _ _ => True) (fun _ U o U' => ∃ v L, o = .returned v ∧ own_Q_prefix Z a0 z h0 n0 v U'.heap L ∧ FrameEnd U o U' L ({ frames := 0, cells := 0, slots := 0, locals := 0 } : Room).cells ({ frames := 0, cells := 0, slots := 0, locals := 0 } : Room).slots) := by
  refine MetFree.of_bodySF (plainFor_of_name own_pn1) hisR ?_
  intro p e s m args below meth c s₁ Bd hml0 hP hK
  obtain ⟨rfl, hZ, hh⟩ := hP
  have hx := Bd.exec
  have hby := Bd.bytes
  have hlk : meth.locks = false := BodyLoose.notSynchronized Bd
  have hml : c.maxLocals = 1 := hml0
  have hown : s.vm.findClass "com/example/ketchup/ketchup/negentropy/Bound" = some m.cls := findClass_of_methodNamed Bd.named
  have hnm := (name_of_methodNamed Bd.named Bd.method).1
  have X0 : Stand p l e ({ frames := 0, cells := 0, slots := 0, locals := 0 } : Room) s m #[(.ref a0)] below meth c s₁ [] 0 0 := Stand.of_body Bd
  have e0 : s₁.heap = h0 := by rw [← hh, Bd.state]; rfl
  have N0 := Fr.nil n0
  have K0 : Keep h0 h0 [] := Keep.refl _ _
  have pre0 : ∀ t, Steps p.tables e below (s₁.setTop (mkF m 0 #[.val (.ref a0)] [])) t → Steps p.tables e below (s₁.setTop (entryFrame m #[(.ref a0)] 1)) t := fun t k => castTop (own_ef_11 m a0) k
  show own_Ends p.tables e below (own_Q s (own_Q_prefix Z a0 z h0 n0) ({ frames := 0, cells := 0, slots := 0, locals := 0 } : Room).cells ({ frames := 0, cells := 0, slots := 0, locals := 0 } : Room).slots) (s₁.setTop (entryFrame m #[(.ref a0)] 1))
  refine own_step pre0 ?_
  show own_Ends p.tables e below _ (s₁.setTop (mkF m 0 #[.val (.ref a0)] []))
  refine own_step (fun _ k => XS.aloadN X0.here hx rfl (hb hby own_d11_0) rfl rfl k) ?_
  show own_Ends p.tables e below _ (s₁.setTop (mkF m 1 #[.val (.ref a0)] [(.ref a0)]))
  obtain ⟨T1, X1, e1, st1⟩ := getF X0 hx hZ hown (host := "") (Or.inl (hw _ (List.mem_of_getElem? (i := 54) rfl))) Via.refl e0 F_z (g := (mkF m 1 #[.val (.ref a0)] [(.ref a0)])) rfl rfl (hb hby own_d11_1)
  refine own_step st1 ?_
  show own_Ends p.tables e below _ (T1.setTop (mkF m 4 #[.val (.ref a0)] [(.ref z)]))
  exact own_retA X1 hx hlk (by decide) (by decide) Bd.returns rfl rfl (hb hby own_d11_4) (by rw [e1]; exact ⟨rfl, N0, rfl⟩)
theorem own_d4_0 : decode prog_18_method_3_code 0 = .ok (.aload_n 0, 1) := by decide +kernel
theorem own_d4_1 : decode prog_18_method_3_code 1 = .ok (.aload_n 0, 1) := by decide +kernel
theorem own_d4_2 : decode prog_18_method_3_code 2 = .ok (.getfield 20, 3) := by decide +kernel
theorem own_d4_5 : decode prog_18_method_3_code 5 = .ok (.putfield 24, 3) := by decide +kernel
theorem own_d4_8 : decode prog_18_method_3_code 8 = .ok (.aload_n 0, 1) := by decide +kernel
theorem own_d4_9 : decode prog_18_method_3_code 9 = .ok (.aload_n 0, 1) := by decide +kernel
theorem own_d4_10 : decode prog_18_method_3_code 10 = .ok (.getfield 27, 3) := by decide +kernel
theorem own_d4_13 : decode prog_18_method_3_code 13 = .ok (.putfield 31, 3) := by decide +kernel
theorem own_d4_16 : decode prog_18_method_3_code 16 = .ok (.return_, 1) := by decide +kernel
theorem own_ef_4 (m : MethodId) (x0 : Addr) : entryFrame m #[(.ref x0)] 1 = mkF m 0 #[.val (.ref x0)] [] := by first | (simp [entryFrame, mkF, argsToLocals, Value.category]; done) | rfl
def own_Q_mark (Z : State) (a0 : Addr) (bf : Addr) (kb : ClassId) (vs : List Value) (sz : Nat) (pt : Int64) (ms : Int32) (mp : Int64) (h0 : Heap) (n0 : Nat) (v : Option Value) (h : Heap) (L : List Loc) : Prop := v = none ∧ Fr n0 L ∧ Keep h0 h [a0] ∧ Fld Z h a0 "com/example/ketchup/ketchup/negentropy/MessageWriter" "buffer" "[B" (.ref bf) ∧ Fld Z h a0 "com/example/ketchup/ketchup/negentropy/MessageWriter" "size" "I" (.int (Int32.ofNat sz)) ∧ Fld Z h a0 "com/example/ketchup/ketchup/negentropy/MessageWriter" "previousTimestamp" "J" (.long pt) ∧ Fld Z h a0 "com/example/ketchup/ketchup/negentropy/MessageWriter" "markedSize" "I" (.int (Int32.ofNat sz)) ∧ Fld Z h a0 "com/example/ketchup/ketchup/negentropy/MessageWriter" "markedPreviousTimestamp" "J" (.long pt)
set_option maxRecDepth 65536 in
set_option maxHeartbeats 40000000 in
theorem own_rm_mark (l : Launch) (Z : State) (aw : Array Value) (hw : ∀ d ∈ tables_1, d.before aw Z = true) (ws : List Jvm.Cond) (a0 : Addr) (bf : Addr) (kb : ClassId) (vs : List Value) (sz : Nat) (pt : Int64) (ms : Int32) (mp : Int64) (h0 : Heap) (n0 : Nat) (Z0 : n0 ≤ h0.size) (E_a0 : Exa Z h0 a0 "com/example/ketchup/ketchup/negentropy/MessageWriter") (F_buffer : Fld Z h0 a0 "com/example/ketchup/ketchup/negentropy/MessageWriter" "buffer" "[B" (.ref bf)) (F_size : Fld Z h0 a0 "com/example/ketchup/ketchup/negentropy/MessageWriter" "size" "I" (.int (Int32.ofNat sz))) (F_previousTimestamp : Fld Z h0 a0 "com/example/ketchup/ketchup/negentropy/MessageWriter" "previousTimestamp" "J" (.long pt)) (F_markedSize : Fld Z h0 a0 "com/example/ketchup/ketchup/negentropy/MessageWriter" "markedSize" "I" (.int ms)) (F_markedPreviousTimestamp : Fld Z h0 a0 "com/example/ketchup/ketchup/negentropy/MessageWriter" "markedPreviousTimestamp" "J" (.long mp)) (V_bf : Arv Z h0 bf kb .byte (256 : Int32) vs (Value.int (0 : Int32))) (hvs : vs.length = 256) (ne_ab : a0 ≠ bf) (g_a0 : n0 ≤ a0) (g_bf : n0 ≤ bf) :
    MetFree l (⟨"com/example/ketchup/ketchup/negentropy/MessageWriter", "mark", "()V"⟩ : MethodName) (head1 (Jvm.Cond.code (⟨"com/example/ketchup/ketchup/negentropy/MessageWriter", "mark", "()V"⟩ : MethodName) prog_18_method_3_code 1 none :: ws) ({ frames := 0, cells := 0, slots := 0, locals := 0 } : Room)) (fun a U => a = #[(.ref a0)] ∧ Z.Warmed39 U.vm ∧ U.heap = h0) (fun _ _ _ _ _ => True) (fun _ U o U' => ∃ v L, o = .returned v ∧ own_Q_mark Z a0 bf kb vs sz pt ms mp h0 n0 v U'.heap L ∧ FrameEnd U o U' L ({ frames := 0, cells := 0, slots := 0, locals := 0 } : Room).cells ({ frames := 0, cells := 0, slots := 0, locals := 0 } : Room).slots) := by
  refine MetFree.of_bodySF (plainFor_of_name own_pn0) hisR ?_
  intro p e s m args below meth c s₁ Bd hml0 hP hK
  obtain ⟨rfl, hZ, hh⟩ := hP
  have hx := Bd.exec
  have hby := Bd.bytes
  have hlk : meth.locks = false := BodyLoose.notSynchronized Bd
  have hml : c.maxLocals = 1 := hml0
  have hown : s.vm.findClass "com/example/ketchup/ketchup/negentropy/MessageWriter" = some m.cls := findClass_of_methodNamed Bd.named
  have hnm := (name_of_methodNamed Bd.named Bd.method).1
  have X0 : Stand p l e ({ frames := 0, cells := 0, slots := 0, locals := 0 } : Room) s m #[(.ref a0)] below meth c s₁ [] 0 0 := Stand.of_body Bd
  have e0 : s₁.heap = h0 := by rw [← hh, Bd.state]; rfl
  have N0 := Fr.nil n0
  have K0 : Keep h0 h0 [a0] := Keep.refl _ _
  have pre0 : ∀ t, Steps p.tables e below (s₁.setTop (mkF m 0 #[.val (.ref a0)] [])) t → Steps p.tables e below (s₁.setTop (entryFrame m #[(.ref a0)] 1)) t := fun t k => castTop (own_ef_4 m a0) k
  show own_Ends p.tables e below (own_Q s (own_Q_mark Z a0 bf kb vs sz pt ms mp h0 n0) ({ frames := 0, cells := 0, slots := 0, locals := 0 } : Room).cells ({ frames := 0, cells := 0, slots := 0, locals := 0 } : Room).slots) (s₁.setTop (entryFrame m #[(.ref a0)] 1))
  refine own_step pre0 ?_
  show own_Ends p.tables e below _ (s₁.setTop (mkF m 0 #[.val (.ref a0)] []))
  refine own_step (fun _ k => XS.aloadN X0.here hx rfl (hb hby own_d4_0) rfl rfl k) ?_
  show own_Ends p.tables e below _ (s₁.setTop (mkF m 1 #[.val (.ref a0)] [(.ref a0)]))
  refine own_step (fun _ k => XS.aloadN X0.here hx rfl (hb hby own_d4_1) rfl rfl k) ?_
  show own_Ends p.tables e below _ (s₁.setTop (mkF m 2 #[.val (.ref a0)] [(.ref a0), (.ref a0)]))
  obtain ⟨T1, X1, e1, st1⟩ := getF X0 hx hZ hown (host := "") (Or.inl (hw _ (List.mem_of_getElem? (i := 17) rfl))) Via.refl e0 F_size (g := (mkF m 2 #[.val (.ref a0)] [(.ref a0), (.ref a0)])) rfl rfl (hb hby own_d4_2)
  refine own_step st1 ?_
  show own_Ends p.tables e below _ (T1.setTop (mkF m 5 #[.val (.ref a0)] [(.int (Int32.ofNat sz)), (.ref a0)]))
  obtain ⟨T2, h2, X2, e2, W2, st2⟩ := putF X1 hx hZ hown (host := "") (Or.inl (hw _ (List.mem_of_getElem? (i := 28) rfl))) Via.refl e1 F_markedSize E_a0 (Or.inl (hw _ (List.mem_of_getElem? (i := 29) rfl))) (hw _ (List.mem_of_getElem? (i := 2) rfl)) (ty := .int) (by decide) rfl rfl (g := (mkF m 5 #[.val (.ref a0)] [(.int (Int32.ofNat sz)), (.ref a0)])) rfl rfl (hb hby own_d4_5)
  refine own_step st2 ?_
  have F_buffer_2 := F_buffer.other W2 (Or.inr (slot_ne (Or.inl (hw _ (List.mem_of_getElem? (i := 12) rfl))) (Or.inl (hw _ (List.mem_of_getElem? (i := 29) rfl))) (by decide) (t := (.array .byte)) (t' := .int) (by decide) (by decide)))
  have F_size_2 := F_size.other W2 (Or.inr (slot_ne (Or.inl (hw _ (List.mem_of_getElem? (i := 18) rfl))) (Or.inl (hw _ (List.mem_of_getElem? (i := 29) rfl))) (by decide) (t := .int) (t' := .int) (by decide) (by decide)))
  have F_previousTimestamp_2 := F_previousTimestamp.other W2 (Or.inr (slot_ne (Or.inl (hw _ (List.mem_of_getElem? (i := 31) rfl))) (Or.inl (hw _ (List.mem_of_getElem? (i := 29) rfl))) (by decide) (t := .long) (t' := .int) (by decide) (by decide)))
  have F_markedSize_2 := F_markedSize.same W2
  have F_markedPreviousTimestamp_2 := F_markedPreviousTimestamp.other W2 (Or.inr (slot_ne (Or.inl (hw _ (List.mem_of_getElem? (i := 33) rfl))) (Or.inl (hw _ (List.mem_of_getElem? (i := 29) rfl))) (by decide) (t := .long) (t' := .int) (by decide) (by decide)))
  have E_a0_2 := E_a0.wr W2
  have V_bf_2 := V_bf.other W2 (Ne.symm ne_ab)
  have K_2 : Keep h0 h2 [a0] := K0.wr W2 (Or.inl (List.mem_of_getElem? (i := 0) rfl))
  have Z_2 : n0 ≤ h2.size := Nat.le_trans Z0 (Keep.of_wr W2).1
  have N_2 := Fr.snoc X2 N0 g_a0
  show own_Ends p.tables e below _ (T2.setTop (mkF m 8 #[.val (.ref a0)] []))
  refine own_step (fun _ k => XS.aloadN X2.here hx rfl (hb hby own_d4_8) rfl rfl k) ?_
  show own_Ends p.tables e below _ (T2.setTop (mkF m 9 #[.val (.ref a0)] [(.ref a0)]))
  refine own_step (fun _ k => XS.aloadN X2.here hx rfl (hb hby own_d4_9) rfl rfl k) ?_
  show own_Ends p.tables e below _ (T2.setTop (mkF m 10 #[.val (.ref a0)] [(.ref a0), (.ref a0)]))
  obtain ⟨T3, X3, e3, st3⟩ := getF X2 hx hZ hown (host := "") (Or.inl (hw _ (List.mem_of_getElem? (i := 30) rfl))) Via.refl e2 F_previousTimestamp_2 (g := (mkF m 10 #[.val (.ref a0)] [(.ref a0), (.ref a0)])) rfl rfl (hb hby own_d4_10)
  refine own_step st3 ?_
  show own_Ends p.tables e below _ (T3.setTop (mkF m 13 #[.val (.ref a0)] [(.long pt), (.ref a0)]))
  obtain ⟨T4, h4, X4, e4, W4, st4⟩ := putF X3 hx hZ hown (host := "") (Or.inl (hw _ (List.mem_of_getElem? (i := 32) rfl))) Via.refl e3 F_markedPreviousTimestamp_2 E_a0_2 (Or.inl (hw _ (List.mem_of_getElem? (i := 33) rfl))) (hw _ (List.mem_of_getElem? (i := 2) rfl)) (ty := .long) (by decide) rfl rfl (g := (mkF m 13 #[.val (.ref a0)] [(.long pt), (.ref a0)])) rfl rfl (hb hby own_d4_13)
  refine own_step st4 ?_
  have F_buffer_4 := F_buffer_2.other W4 (Or.inr (slot_ne (Or.inl (hw _ (List.mem_of_getElem? (i := 12) rfl))) (Or.inl (hw _ (List.mem_of_getElem? (i := 33) rfl))) (by decide) (t := (.array .byte)) (t' := .long) (by decide) (by decide)))
  have F_size_4 := F_size_2.other W4 (Or.inr (slot_ne (Or.inl (hw _ (List.mem_of_getElem? (i := 18) rfl))) (Or.inl (hw _ (List.mem_of_getElem? (i := 33) rfl))) (by decide) (t := .int) (t' := .long) (by decide) (by decide)))
  have F_previousTimestamp_4 := F_previousTimestamp_2.other W4 (Or.inr (slot_ne (Or.inl (hw _ (List.mem_of_getElem? (i := 31) rfl))) (Or.inl (hw _ (List.mem_of_getElem? (i := 33) rfl))) (by decide) (t := .long) (t' := .long) (by decide) (by decide)))
  have F_markedSize_4 := F_markedSize_2.other W4 (Or.inr (slot_ne (Or.inl (hw _ (List.mem_of_getElem? (i := 29) rfl))) (Or.inl (hw _ (List.mem_of_getElem? (i := 33) rfl))) (by decide) (t := .int) (t' := .long) (by decide) (by decide)))
  have F_markedPreviousTimestamp_4 := F_markedPreviousTimestamp_2.same W4
  have E_a0_4 := E_a0_2.wr W4
  have V_bf_4 := V_bf_2.other W4 (Ne.symm ne_ab)
  have K_4 : Keep h0 h4 [a0] := K_2.wr W4 (Or.inl (List.mem_of_getElem? (i := 0) rfl))
  have Z_4 : n0 ≤ h4.size := Nat.le_trans Z_2 (Keep.of_wr W4).1
  have N_4 := Fr.snoc X4 N_2 g_a0
  show own_Ends p.tables e below _ (T4.setTop (mkF m 16 #[.val (.ref a0)] []))
  exact own_ret0 X4 hx hlk (by decide) (by decide) Bd.returns (hb hby own_d4_16) (by rw [e4]; exact ⟨rfl, N_4, K_4, F_buffer_4, F_size_4, F_previousTimestamp_4, F_markedSize_4, F_markedPreviousTimestamp_4⟩)
theorem own_d6_0 : decode prog_18_method_4_code 0 = .ok (.aload_n 0, 1) := by decide +kernel
theorem own_d6_1 : decode prog_18_method_4_code 1 = .ok (.aload_n 0, 1) := by decide +kernel
theorem own_d6_2 : decode prog_18_method_4_code 2 = .ok (.getfield 24, 3) := by decide +kernel
theorem own_d6_5 : decode prog_18_method_4_code 5 = .ok (.putfield 20, 3) := by decide +kernel
theorem own_d6_8 : decode prog_18_method_4_code 8 = .ok (.aload_n 0, 1) := by decide +kernel
theorem own_d6_9 : decode prog_18_method_4_code 9 = .ok (.aload_n 0, 1) := by decide +kernel
theorem own_d6_10 : decode prog_18_method_4_code 10 = .ok (.getfield 31, 3) := by decide +kernel
theorem own_d6_13 : decode prog_18_method_4_code 13 = .ok (.putfield 27, 3) := by decide +kernel
theorem own_d6_16 : decode prog_18_method_4_code 16 = .ok (.return_, 1) := by decide +kernel
theorem own_ef_6 (m : MethodId) (x0 : Addr) : entryFrame m #[(.ref x0)] 1 = mkF m 0 #[.val (.ref x0)] [] := by first | (simp [entryFrame, mkF, argsToLocals, Value.category]; done) | rfl
def own_Q_reset (Z : State) (a0 : Addr) (bf : Addr) (kb : ClassId) (vs : List Value) (sz : Nat) (pt : Int64) (ms : Int32) (mp : Int64) (h0 : Heap) (n0 : Nat) (v : Option Value) (h : Heap) (L : List Loc) : Prop := v = none ∧ Fr n0 L ∧ Keep h0 h [a0] ∧ Fld Z h a0 "com/example/ketchup/ketchup/negentropy/MessageWriter" "buffer" "[B" (.ref bf) ∧ Fld Z h a0 "com/example/ketchup/ketchup/negentropy/MessageWriter" "size" "I" (.int ms) ∧ Fld Z h a0 "com/example/ketchup/ketchup/negentropy/MessageWriter" "previousTimestamp" "J" (.long mp) ∧ Fld Z h a0 "com/example/ketchup/ketchup/negentropy/MessageWriter" "markedSize" "I" (.int ms) ∧ Fld Z h a0 "com/example/ketchup/ketchup/negentropy/MessageWriter" "markedPreviousTimestamp" "J" (.long mp)
set_option maxRecDepth 65536 in
set_option maxHeartbeats 40000000 in
theorem own_rm_reset (l : Launch) (Z : State) (aw : Array Value) (hw : ∀ d ∈ tables_1, d.before aw Z = true) (ws : List Jvm.Cond) (a0 : Addr) (bf : Addr) (kb : ClassId) (vs : List Value) (sz : Nat) (pt : Int64) (ms : Int32) (mp : Int64) (h0 : Heap) (n0 : Nat) (Z0 : n0 ≤ h0.size) (E_a0 : Exa Z h0 a0 "com/example/ketchup/ketchup/negentropy/MessageWriter") (F_buffer : Fld Z h0 a0 "com/example/ketchup/ketchup/negentropy/MessageWriter" "buffer" "[B" (.ref bf)) (F_size : Fld Z h0 a0 "com/example/ketchup/ketchup/negentropy/MessageWriter" "size" "I" (.int (Int32.ofNat sz))) (F_previousTimestamp : Fld Z h0 a0 "com/example/ketchup/ketchup/negentropy/MessageWriter" "previousTimestamp" "J" (.long pt)) (F_markedSize : Fld Z h0 a0 "com/example/ketchup/ketchup/negentropy/MessageWriter" "markedSize" "I" (.int ms)) (F_markedPreviousTimestamp : Fld Z h0 a0 "com/example/ketchup/ketchup/negentropy/MessageWriter" "markedPreviousTimestamp" "J" (.long mp)) (V_bf : Arv Z h0 bf kb .byte (256 : Int32) vs (Value.int (0 : Int32))) (hvs : vs.length = 256) (ne_ab : a0 ≠ bf) (g_a0 : n0 ≤ a0) (g_bf : n0 ≤ bf) :
    MetFree l (⟨"com/example/ketchup/ketchup/negentropy/MessageWriter", "reset", "()V"⟩ : MethodName) (head1 (Jvm.Cond.code (⟨"com/example/ketchup/ketchup/negentropy/MessageWriter", "reset", "()V"⟩ : MethodName) prog_18_method_4_code 1 none :: ws) ({ frames := 0, cells := 0, slots := 0, locals := 0 } : Room)) (fun a U => a = #[(.ref a0)] ∧ Z.Warmed39 U.vm ∧ U.heap = h0) (fun _ _ _ _ _ => True) (fun _ U o U' => ∃ v L, o = .returned v ∧ own_Q_reset Z a0 bf kb vs sz pt ms mp h0 n0 v U'.heap L ∧ FrameEnd U o U' L ({ frames := 0, cells := 0, slots := 0, locals := 0 } : Room).cells ({ frames := 0, cells := 0, slots := 0, locals := 0 } : Room).slots) := by
  refine MetFree.of_bodySF (plainFor_of_name own_pn0) hisR ?_
  intro p e s m args below meth c s₁ Bd hml0 hP hK
  obtain ⟨rfl, hZ, hh⟩ := hP
  have hx := Bd.exec
  have hby := Bd.bytes
  have hlk : meth.locks = false := BodyLoose.notSynchronized Bd
  have hml : c.maxLocals = 1 := hml0
  have hown : s.vm.findClass "com/example/ketchup/ketchup/negentropy/MessageWriter" = some m.cls := findClass_of_methodNamed Bd.named
  have hnm := (name_of_methodNamed Bd.named Bd.method).1
  have X0 : Stand p l e ({ frames := 0, cells := 0, slots := 0, locals := 0 } : Room) s m #[(.ref a0)] below meth c s₁ [] 0 0 := Stand.of_body Bd
  have e0 : s₁.heap = h0 := by rw [← hh, Bd.state]; rfl
  have N0 := Fr.nil n0
  have K0 : Keep h0 h0 [a0] := Keep.refl _ _
  have pre0 : ∀ t, Steps p.tables e below (s₁.setTop (mkF m 0 #[.val (.ref a0)] [])) t → Steps p.tables e below (s₁.setTop (entryFrame m #[(.ref a0)] 1)) t := fun t k => castTop (own_ef_6 m a0) k
  show own_Ends p.tables e below (own_Q s (own_Q_reset Z a0 bf kb vs sz pt ms mp h0 n0) ({ frames := 0, cells := 0, slots := 0, locals := 0 } : Room).cells ({ frames := 0, cells := 0, slots := 0, locals := 0 } : Room).slots) (s₁.setTop (entryFrame m #[(.ref a0)] 1))
  refine own_step pre0 ?_
  show own_Ends p.tables e below _ (s₁.setTop (mkF m 0 #[.val (.ref a0)] []))
  refine own_step (fun _ k => XS.aloadN X0.here hx rfl (hb hby own_d6_0) rfl rfl k) ?_
  show own_Ends p.tables e below _ (s₁.setTop (mkF m 1 #[.val (.ref a0)] [(.ref a0)]))
  refine own_step (fun _ k => XS.aloadN X0.here hx rfl (hb hby own_d6_1) rfl rfl k) ?_
  show own_Ends p.tables e below _ (s₁.setTop (mkF m 2 #[.val (.ref a0)] [(.ref a0), (.ref a0)]))
  obtain ⟨T1, X1, e1, st1⟩ := getF X0 hx hZ hown (host := "") (Or.inl (hw _ (List.mem_of_getElem? (i := 28) rfl))) Via.refl e0 F_markedSize (g := (mkF m 2 #[.val (.ref a0)] [(.ref a0), (.ref a0)])) rfl rfl (hb hby own_d6_2)
  refine own_step st1 ?_
  show own_Ends p.tables e below _ (T1.setTop (mkF m 5 #[.val (.ref a0)] [(.int ms), (.ref a0)]))
  obtain ⟨T2, h2, X2, e2, W2, st2⟩ := putF X1 hx hZ hown (host := "") (Or.inl (hw _ (List.mem_of_getElem? (i := 17) rfl))) Via.refl e1 F_size E_a0 (Or.inl (hw _ (List.mem_of_getElem? (i := 18) rfl))) (hw _ (List.mem_of_getElem? (i := 2) rfl)) (ty := .int) (by decide) rfl rfl (g := (mkF m 5 #[.val (.ref a0)] [(.int ms), (.ref a0)])) rfl rfl (hb hby own_d6_5)
  refine own_step st2 ?_
  have F_buffer_2 := F_buffer.other W2 (Or.inr (slot_ne (Or.inl (hw _ (List.mem_of_getElem? (i := 12) rfl))) (Or.inl (hw _ (List.mem_of_getElem? (i := 18) rfl))) (by decide) (t := (.array .byte)) (t' := .int) (by decide) (by decide)))
  have F_size_2 := F_size.same W2
  have F_previousTimestamp_2 := F_previousTimestamp.other W2 (Or.inr (slot_ne (Or.inl (hw _ (List.mem_of_getElem? (i := 31) rfl))) (Or.inl (hw _ (List.mem_of_getElem? (i := 18) rfl))) (by decide) (t := .long) (t' := .int) (by decide) (by decide)))
  have F_markedSize_2 := F_markedSize.other W2 (Or.inr (slot_ne (Or.inl (hw _ (List.mem_of_getElem? (i := 29) rfl))) (Or.inl (hw _ (List.mem_of_getElem? (i := 18) rfl))) (by decide) (t := .int) (t' := .int) (by decide) (by decide)))
  have F_markedPreviousTimestamp_2 := F_markedPreviousTimestamp.other W2 (Or.inr (slot_ne (Or.inl (hw _ (List.mem_of_getElem? (i := 33) rfl))) (Or.inl (hw _ (List.mem_of_getElem? (i := 18) rfl))) (by decide) (t := .long) (t' := .int) (by decide) (by decide)))
  have E_a0_2 := E_a0.wr W2
  have V_bf_2 := V_bf.other W2 (Ne.symm ne_ab)
  have K_2 : Keep h0 h2 [a0] := K0.wr W2 (Or.inl (List.mem_of_getElem? (i := 0) rfl))
  have Z_2 : n0 ≤ h2.size := Nat.le_trans Z0 (Keep.of_wr W2).1
  have N_2 := Fr.snoc X2 N0 g_a0
  show own_Ends p.tables e below _ (T2.setTop (mkF m 8 #[.val (.ref a0)] []))
  refine own_step (fun _ k => XS.aloadN X2.here hx rfl (hb hby own_d6_8) rfl rfl k) ?_
  show own_Ends p.tables e below _ (T2.setTop (mkF m 9 #[.val (.ref a0)] [(.ref a0)]))
  refine own_step (fun _ k => XS.aloadN X2.here hx rfl (hb hby own_d6_9) rfl rfl k) ?_
  show own_Ends p.tables e below _ (T2.setTop (mkF m 10 #[.val (.ref a0)] [(.ref a0), (.ref a0)]))
  obtain ⟨T3, X3, e3, st3⟩ := getF X2 hx hZ hown (host := "") (Or.inl (hw _ (List.mem_of_getElem? (i := 32) rfl))) Via.refl e2 F_markedPreviousTimestamp_2 (g := (mkF m 10 #[.val (.ref a0)] [(.ref a0), (.ref a0)])) rfl rfl (hb hby own_d6_10)
  refine own_step st3 ?_
  show own_Ends p.tables e below _ (T3.setTop (mkF m 13 #[.val (.ref a0)] [(.long mp), (.ref a0)]))
  obtain ⟨T4, h4, X4, e4, W4, st4⟩ := putF X3 hx hZ hown (host := "") (Or.inl (hw _ (List.mem_of_getElem? (i := 30) rfl))) Via.refl e3 F_previousTimestamp_2 E_a0_2 (Or.inl (hw _ (List.mem_of_getElem? (i := 31) rfl))) (hw _ (List.mem_of_getElem? (i := 2) rfl)) (ty := .long) (by decide) rfl rfl (g := (mkF m 13 #[.val (.ref a0)] [(.long mp), (.ref a0)])) rfl rfl (hb hby own_d6_13)
  refine own_step st4 ?_
  have F_buffer_4 := F_buffer_2.other W4 (Or.inr (slot_ne (Or.inl (hw _ (List.mem_of_getElem? (i := 12) rfl))) (Or.inl (hw _ (List.mem_of_getElem? (i := 31) rfl))) (by decide) (t := (.array .byte)) (t' := .long) (by decide) (by decide)))
  have F_size_4 := F_size_2.other W4 (Or.inr (slot_ne (Or.inl (hw _ (List.mem_of_getElem? (i := 18) rfl))) (Or.inl (hw _ (List.mem_of_getElem? (i := 31) rfl))) (by decide) (t := .int) (t' := .long) (by decide) (by decide)))
  have F_previousTimestamp_4 := F_previousTimestamp_2.same W4
  have F_markedSize_4 := F_markedSize_2.other W4 (Or.inr (slot_ne (Or.inl (hw _ (List.mem_of_getElem? (i := 29) rfl))) (Or.inl (hw _ (List.mem_of_getElem? (i := 31) rfl))) (by decide) (t := .int) (t' := .long) (by decide) (by decide)))
  have F_markedPreviousTimestamp_4 := F_markedPreviousTimestamp_2.other W4 (Or.inr (slot_ne (Or.inl (hw _ (List.mem_of_getElem? (i := 33) rfl))) (Or.inl (hw _ (List.mem_of_getElem? (i := 31) rfl))) (by decide) (t := .long) (t' := .long) (by decide) (by decide)))
  have E_a0_4 := E_a0_2.wr W4
  have V_bf_4 := V_bf_2.other W4 (Ne.symm ne_ab)
  have K_4 : Keep h0 h4 [a0] := K_2.wr W4 (Or.inl (List.mem_of_getElem? (i := 0) rfl))
  have Z_4 : n0 ≤ h4.size := Nat.le_trans Z_2 (Keep.of_wr W4).1
  have N_4 := Fr.snoc X4 N_2 g_a0
  show own_Ends p.tables e below _ (T4.setTop (mkF m 16 #[.val (.ref a0)] []))
  exact own_ret0 X4 hx hlk (by decide) (by decide) Bd.returns (hb hby own_d6_16) (by rw [e4]; exact ⟨rfl, N_4, K_4, F_buffer_4, F_size_4, F_previousTimestamp_4, F_markedSize_4, F_markedPreviousTimestamp_4⟩)
theorem own_pd0 : parseMethodDescriptor "([BI)[B" = some ⟨[(.array .byte), .int], some (.array .byte)⟩ := by decide +kernel
theorem own_pd1 : parseMethodDescriptor "(Ljava/lang/Object;ILjava/lang/Object;II)V" = some ⟨[(.object "java/lang/Object"), .int, (.object "java/lang/Object"), .int, .int], none⟩ := by decide +kernel
theorem own_d3_0 : decode prog_18_method_11_code 0 = .ok (.aload_n 0, 1) := by decide +kernel
theorem own_d3_1 : decode prog_18_method_11_code 1 = .ok (.getfield 7, 3) := by decide +kernel
theorem own_d3_4 : decode prog_18_method_11_code 4 = .ok (.arraylength, 1) := by decide +kernel
theorem own_d3_5 : decode prog_18_method_11_code 5 = .ok (.aload_n 0, 1) := by decide +kernel
theorem own_d3_6 : decode prog_18_method_11_code 6 = .ok (.getfield 20, 3) := by decide +kernel
theorem own_d3_9 : decode prog_18_method_11_code 9 = .ok (.isub, 1) := by decide +kernel
theorem own_d3_10 : decode prog_18_method_11_code 10 = .ok (.aload_n 1, 1) := by decide +kernel
theorem own_d3_11 : decode prog_18_method_11_code 11 = .ok (.arraylength, 1) := by decide +kernel
theorem own_d3_12 : decode prog_18_method_11_code 12 = .ok (.if_icmp .ge 31, 3) := by decide +kernel
theorem own_d3_43 : decode prog_18_method_11_code 43 = .ok (.aload_n 1, 1) := by decide +kernel
theorem own_d3_44 : decode prog_18_method_11_code 44 = .ok (.iconst 0, 1) := by decide +kernel
theorem own_d3_45 : decode prog_18_method_11_code 45 = .ok (.aload_n 0, 1) := by decide +kernel
theorem own_d3_46 : decode prog_18_method_11_code 46 = .ok (.getfield 7, 3) := by decide +kernel
theorem own_d3_49 : decode prog_18_method_11_code 49 = .ok (.aload_n 0, 1) := by decide +kernel
theorem own_d3_50 : decode prog_18_method_11_code 50 = .ok (.getfield 20, 3) := by decide +kernel
theorem own_d3_53 : decode prog_18_method_11_code 53 = .ok (.aload_n 1, 1) := by decide +kernel
theorem own_d3_54 : decode prog_18_method_11_code 54 = .ok (.arraylength, 1) := by decide +kernel
theorem own_d3_55 : decode prog_18_method_11_code 55 = .ok (.invokestatic 75, 3) := by decide +kernel
theorem own_d3_58 : decode prog_18_method_11_code 58 = .ok (.aload_n 0, 1) := by decide +kernel
theorem own_d3_59 : decode prog_18_method_11_code 59 = .ok (.dup, 1) := by decide +kernel
theorem own_d3_60 : decode prog_18_method_11_code 60 = .ok (.getfield 20, 3) := by decide +kernel
theorem own_d3_63 : decode prog_18_method_11_code 63 = .ok (.aload_n 1, 1) := by decide +kernel
theorem own_d3_64 : decode prog_18_method_11_code 64 = .ok (.arraylength, 1) := by decide +kernel
theorem own_d3_65 : decode prog_18_method_11_code 65 = .ok (.iadd, 1) := by decide +kernel
theorem own_d3_66 : decode prog_18_method_11_code 66 = .ok (.putfield 20, 3) := by decide +kernel
theorem own_d3_69 : decode prog_18_method_11_code 69 = .ok (.return_, 1) := by decide +kernel
theorem own_ef_3 (m : MethodId) (x0 : Addr) (x1 : Addr) : entryFrame m #[(.ref x0), (.ref x1)] 2 = mkF m 0 #[.val (.ref x0), .val (.ref x1)] [] := by first | (simp [entryFrame, mkF, argsToLocals, Value.category]; done) | rfl
def own_Q_write (Z : State) (a0 : Addr) (a1 : Addr) (bf : Addr) (kb : ClassId) (vs : List Value) (sz : Nat) (pt : Int64) (ms : Int32) (mp : Int64) (k1 : ClassId) (n : Nat) (us : List Value) (h0 : Heap) (n0 : Nat) (v : Option Value) (h : Heap) (L : List Loc) : Prop := v = none ∧ Fr n0 L ∧ Keep h0 h [a0, bf] ∧ Fld Z h a0 "com/example/ketchup/ketchup/negentropy/MessageWriter" "buffer" "[B" (.ref bf) ∧ Fld Z h a0 "com/example/ketchup/ketchup/negentropy/MessageWriter" "size" "I" (.int (Int32.ofNat (sz + n))) ∧ Fld Z h a0 "com/example/ketchup/ketchup/negentropy/MessageWriter" "previousTimestamp" "J" (.long pt) ∧ Fld Z h a0 "com/example/ketchup/ketchup/negentropy/MessageWriter" "markedSize" "I" (.int ms) ∧ Fld Z h a0 "com/example/ketchup/ketchup/negentropy/MessageWriter" "markedPreviousTimestamp" "J" (.long mp) ∧ Arv Z h bf kb .byte (256 : Int32) (own_put vs sz n us) (Value.int (0 : Int32))
set_option maxRecDepth 65536 in
set_option maxHeartbeats 40000000 in
theorem own_rm_write (l : Launch) (Z : State) (aw : Array Value) (hw : ∀ d ∈ tables_1, d.before aw Z = true) (ws : List Jvm.Cond) (a0 : Addr) (a1 : Addr) (bf : Addr) (kb : ClassId) (vs : List Value) (sz : Nat) (pt : Int64) (ms : Int32) (mp : Int64) (k1 : ClassId) (n : Nat) (us : List Value) (h0 : Heap) (n0 : Nat) (Z0 : n0 ≤ h0.size) (E_a0 : Exa Z h0 a0 "com/example/ketchup/ketchup/negentropy/MessageWriter") (F_buffer : Fld Z h0 a0 "com/example/ketchup/ketchup/negentropy/MessageWriter" "buffer" "[B" (.ref bf)) (F_size : Fld Z h0 a0 "com/example/ketchup/ketchup/negentropy/MessageWriter" "size" "I" (.int (Int32.ofNat sz))) (F_previousTimestamp : Fld Z h0 a0 "com/example/ketchup/ketchup/negentropy/MessageWriter" "previousTimestamp" "J" (.long pt)) (F_markedSize : Fld Z h0 a0 "com/example/ketchup/ketchup/negentropy/MessageWriter" "markedSize" "I" (.int ms)) (F_markedPreviousTimestamp : Fld Z h0 a0 "com/example/ketchup/ketchup/negentropy/MessageWriter" "markedPreviousTimestamp" "J" (.long mp)) (V_bf : Arv Z h0 bf kb .byte (256 : Int32) vs (Value.int (0 : Int32))) (hvs : vs.length = 256) (ne_ab : a0 ≠ bf) (g_a0 : n0 ≤ a0) (g_bf : n0 ≤ bf) (V_a1 : Arv Z h0 a1 k1 .byte (Int32.ofNat n) us (Value.int (0 : Int32))) (ne_b1 : bf ≠ a1) (ne_a1 : a0 ≠ a1) (hfit : sz + n ≤ 256) :
    MetFree l (⟨"com/example/ketchup/ketchup/negentropy/MessageWriter", "write", "([B)V"⟩ : MethodName) (head1 (Jvm.Cond.code (⟨"com/example/ketchup/ketchup/negentropy/MessageWriter", "write", "([B)V"⟩ : MethodName) prog_18_method_11_code 2 none :: ws) ({ frames := 1, cells := 0, slots := 0, locals := 19 } : Room)) (fun a U => a = #[(.ref a0), (.ref a1)] ∧ Z.Warmed39 U.vm ∧ U.heap = h0) (fun _ _ _ _ _ => True) (fun _ U o U' => ∃ v L, o = .returned v ∧ own_Q_write Z a0 a1 bf kb vs sz pt ms mp k1 n us h0 n0 v U'.heap L ∧ FrameEnd U o U' L ({ frames := 1, cells := 0, slots := 0, locals := 19 } : Room).cells ({ frames := 1, cells := 0, slots := 0, locals := 19 } : Room).slots) := by
  refine MetFree.of_bodySF (plainFor_of_name own_pn0) hisR ?_
  intro p e s m args below meth c s₁ Bd hml0 hP hK
  obtain ⟨rfl, hZ, hh⟩ := hP
  have hx := Bd.exec
  have hby := Bd.bytes
  have hlk : meth.locks = false := BodyLoose.notSynchronized Bd
  have hml : c.maxLocals = 2 := hml0
  have hown : s.vm.findClass "com/example/ketchup/ketchup/negentropy/MessageWriter" = some m.cls := findClass_of_methodNamed Bd.named
  have hnm := (name_of_methodNamed Bd.named Bd.method).1
  have X0 : Stand p l e ({ frames := 1, cells := 0, slots := 0, locals := 19 } : Room) s m #[(.ref a0), (.ref a1)] below meth c s₁ [] 0 0 := Stand.of_body Bd
  have e0 : s₁.heap = h0 := by rw [← hh, Bd.state]; rfl
  have N0 := Fr.nil n0
  have K0 : Keep h0 h0 [a0, bf] := Keep.refl _ _
  have pre0 : ∀ t, Steps p.tables e below (s₁.setTop (mkF m 0 #[.val (.ref a0), .val (.ref a1)] [])) t → Steps p.tables e below (s₁.setTop (entryFrame m #[(.ref a0), (.ref a1)] 2)) t := fun t k => castTop (own_ef_3 m a0 a1) k
  show own_Ends p.tables e below (own_Q s (own_Q_write Z a0 a1 bf kb vs sz pt ms mp k1 n us h0 n0) ({ frames := 1, cells := 0, slots := 0, locals := 19 } : Room).cells ({ frames := 1, cells := 0, slots := 0, locals := 19 } : Room).slots) (s₁.setTop (entryFrame m #[(.ref a0), (.ref a1)] 2))
  refine own_step pre0 ?_
  show own_Ends p.tables e below _ (s₁.setTop (mkF m 0 #[.val (.ref a0), .val (.ref a1)] []))
  refine own_step (fun _ k => XS.aloadN X0.here hx rfl (hb hby own_d3_0) rfl rfl k) ?_
  show own_Ends p.tables e below _ (s₁.setTop (mkF m 1 #[.val (.ref a0), .val (.ref a1)] [(.ref a0)]))
  obtain ⟨T1, X1, e1, st1⟩ := getF X0 hx hZ hown (host := "") (Or.inl (hw _ (List.mem_of_getElem? (i := 11) rfl))) Via.refl e0 F_buffer (g := (mkF m 1 #[.val (.ref a0), .val (.ref a1)] [(.ref a0)])) rfl rfl (hb hby own_d3_1)
  refine own_step st1 ?_
  show own_Ends p.tables e below _ (T1.setTop (mkF m 4 #[.val (.ref a0), .val (.ref a1)] [(.ref bf)]))
  obtain ⟨cl2, Ar2, q2, S2, Nn2, H2, G2⟩ := id V_bf
  refine own_step (fun _ k => X1.arraylength hx (by rw [e1]; exact Ar2.1) (State.isArrayOf_alike hZ.alike Ar2.2.1) (g := (mkF m 4 #[.val (.ref a0), .val (.ref a1)] [(.ref bf)])) rfl rfl (hb hby own_d3_4) _ k) ?_
  rw [len_of S2 Nn2]
  show own_Ends p.tables e below _ (T1.setTop (mkF m 5 #[.val (.ref a0), .val (.ref a1)] [(.int (256 : Int32))]))
  refine own_step (fun _ k => XS.aloadN X1.here hx rfl (hb hby own_d3_5) rfl rfl k) ?_
  show own_Ends p.tables e below _ (T1.setTop (mkF m 6 #[.val (.ref a0), .val (.ref a1)] [(.ref a0), (.int (256 : Int32))]))
  obtain ⟨T3, X3, e3, st3⟩ := getF X1 hx hZ hown (host := "") (Or.inl (hw _ (List.mem_of_getElem? (i := 17) rfl))) Via.refl e1 F_size (g := (mkF m 6 #[.val (.ref a0), .val (.ref a1)] [(.ref a0), (.int (256 : Int32))])) rfl rfl (hb hby own_d3_6)
  refine own_step st3 ?_
  show own_Ends p.tables e below _ (T3.setTop (mkF m 9 #[.val (.ref a0), .val (.ref a1)] [(.int (Int32.ofNat sz)), (.int (256 : Int32))]))
  refine own_step (fun _ k => XS.isub X3.here hx rfl (hb hby own_d3_9) rfl k) ?_
  show own_Ends p.tables e below _ (T3.setTop (mkF m 10 #[.val (.ref a0), .val (.ref a1)] [(.int ((256 : Int32) - (Int32.ofNat sz)))]))
  refine own_step (fun _ k => XS.aloadN X3.here hx rfl (hb hby own_d3_10) rfl rfl k) ?_
  show own_Ends p.tables e below _ (T3.setTop (mkF m 11 #[.val (.ref a0), .val (.ref a1)] [(.ref a1), (.int ((256 : Int32) - (Int32.ofNat sz)))]))
  obtain ⟨cl4, Ar4, q4, S4, Nn4, H4, G4⟩ := id V_a1
  refine own_step (fun _ k => X3.arraylength hx (by rw [e3]; exact Ar4.1) (State.isArrayOf_alike hZ.alike Ar4.2.1) (g := (mkF m 11 #[.val (.ref a0), .val (.ref a1)] [(.ref a1), (.int ((256 : Int32) - (Int32.ofNat sz)))])) rfl rfl (hb hby own_d3_11) _ k) ?_
  rw [len_of S4 Nn4]
  show own_Ends p.tables e below _ (T3.setTop (mkF m 12 #[.val (.ref a0), .val (.ref a1)] [(.int (Int32.ofNat n)), (.int ((256 : Int32) - (Int32.ofNat sz)))]))
  refine own_step (fun _ k => XS.icmpYes X3.here hx rfl (pc0 := 12) (pc' := 43) rfl (hb hby own_d3_12) rfl (flt (by rw [show (256 : Int32) = Int32.ofNat 256 from rfl, own_sub (by omega)]; intro q; have := (own_nlt (by omega) (by omega)).mp q; omega)).2.1 (by decide) (by decide) k) ?_
  show own_Ends p.tables e below _ (T3.setTop (mkF m 43 #[.val (.ref a0), .val (.ref a1)] []))
  refine own_step (fun _ k => XS.aloadN X3.here hx rfl (hb hby own_d3_43) rfl rfl k) ?_
  show own_Ends p.tables e below _ (T3.setTop (mkF m 44 #[.val (.ref a0), .val (.ref a1)] [(.ref a1)]))
  refine own_step (fun _ k => XS.iconst X3.here hx rfl (hb hby own_d3_44) k) ?_
  show own_Ends p.tables e below _ (T3.setTop (mkF m 45 #[.val (.ref a0), .val (.ref a1)] [(.int (0 : Int32)), (.ref a1)]))
  refine own_step (fun _ k => XS.aloadN X3.here hx rfl (hb hby own_d3_45) rfl rfl k) ?_
  show own_Ends p.tables e below _ (T3.setTop (mkF m 46 #[.val (.ref a0), .val (.ref a1)] [(.ref a0), (.int (0 : Int32)), (.ref a1)]))
  obtain ⟨T5, X5, e5, st5⟩ := getF X3 hx hZ hown (host := "") (Or.inl (hw _ (List.mem_of_getElem? (i := 11) rfl))) Via.refl e3 F_buffer (g := (mkF m 46 #[.val (.ref a0), .val (.ref a1)] [(.ref a0), (.int (0 : Int32)), (.ref a1)])) rfl rfl (hb hby own_d3_46)
  refine own_step st5 ?_
  show own_Ends p.tables e below _ (T5.setTop (mkF m 49 #[.val (.ref a0), .val (.ref a1)] [(.ref bf), (.int (0 : Int32)), (.ref a1)]))
  refine own_step (fun _ k => XS.aloadN X5.here hx rfl (hb hby own_d3_49) rfl rfl k) ?_
  show own_Ends p.tables e below _ (T5.setTop (mkF m 50 #[.val (.ref a0), .val (.ref a1)] [(.ref a0), (.ref bf), (.int (0 : Int32)), (.ref a1)]))
  obtain ⟨T6, X6, e6, st6⟩ := getF X5 hx hZ hown (host := "") (Or.inl (hw _ (List.mem_of_getElem? (i := 17) rfl))) Via.refl e5 F_size (g := (mkF m 50 #[.val (.ref a0), .val (.ref a1)] [(.ref a0), (.ref bf), (.int (0 : Int32)), (.ref a1)])) rfl rfl (hb hby own_d3_50)
  refine own_step st6 ?_
  show own_Ends p.tables e below _ (T6.setTop (mkF m 53 #[.val (.ref a0), .val (.ref a1)] [(.int (Int32.ofNat sz)), (.ref bf), (.int (0 : Int32)), (.ref a1)]))
  refine own_step (fun _ k => XS.aloadN X6.here hx rfl (hb hby own_d3_53) rfl rfl k) ?_
  show own_Ends p.tables e below _ (T6.setTop (mkF m 54 #[.val (.ref a0), .val (.ref a1)] [(.ref a1), (.int (Int32.ofNat sz)), (.ref bf), (.int (0 : Int32)), (.ref a1)]))
  obtain ⟨cl7, Ar7, q7, S7, Nn7, H7, G7⟩ := id V_a1
  refine own_step (fun _ k => X6.arraylength hx (by rw [e6]; exact Ar7.1) (State.isArrayOf_alike hZ.alike Ar7.2.1) (g := (mkF m 54 #[.val (.ref a0), .val (.ref a1)] [(.ref a1), (.int (Int32.ofNat sz)), (.ref bf), (.int (0 : Int32)), (.ref a1)])) rfl rfl (hb hby own_d3_54) _ k) ?_
  rw [len_of S7 Nn7]
  show own_Ends p.tables e below _ (T6.setTop (mkF m 55 #[.val (.ref a0), .val (.ref a1)] [(.int (Int32.ofNat n)), (.int (Int32.ofNat sz)), (.ref bf), (.int (0 : Int32)), (.ref a1)]))
  obtain ⟨T8, h8, L8, X8, e8, N_8, k8, V_bf_8, st8⟩ := cpA X6 hx hZ hown (hw _ (List.mem_of_getElem? (i := 19) rfl)) (hw _ (List.mem_of_getElem? (i := 22) rfl)) (hw _ (List.mem_of_getElem? (i := 20) rfl)) (hw _ (List.mem_of_getElem? (i := 21) rfl)) e6 V_a1 V_bf (Or.inl ⟨rfl, rfl⟩) (us := _) (by decide) (own_nn (by omega)) (own_nn (by omega)) (by rw [own_clamp (by omega)]; show 0 + n ≤ n; omega) (by rw [own_clamp (by omega), own_clamp (by omega)]; show sz + n ≤ 256; omega) rfl (by rw [own_clamp (by omega), own_clamp (by omega), hvs]; omega) N0 g_bf (g := (mkF m 55 #[.val (.ref a0), .val (.ref a1)] [(.int (Int32.ofNat n)), (.int (Int32.ofNat sz)), (.ref bf), (.int (0 : Int32)), (.ref a1)])) rfl (by rw [hml]; rfl) rfl (hb hby own_d3_55) (by decide) (W := 0) (by show 2 * 0 + _ ≤ _; exact Nat.le_of_eq rfl) (by decide)
  refine own_step st8 ?_
  have F_buffer_8 := F_buffer.keep k8 (ninS ne_ab nin0)
  have F_size_8 := F_size.keep k8 (ninS ne_ab nin0)
  have F_previousTimestamp_8 := F_previousTimestamp.keep k8 (ninS ne_ab nin0)
  have F_markedSize_8 := F_markedSize.keep k8 (ninS ne_ab nin0)
  have F_markedPreviousTimestamp_8 := F_markedPreviousTimestamp.keep k8 (ninS ne_ab nin0)
  have E_a0_8 := E_a0.keep k8
  have V_a1_8 := V_a1.keep k8 (ninS (Ne.symm ne_b1) nin0)
  have K_8 : Keep h0 h8 [a0, bf] := K0.trans k8 (allS (Or.inl (List.mem_of_getElem? (i := 1) rfl)) all0)
  have Z_8 : n0 ≤ h8.size := Nat.le_trans Z0 k8.1
  have Vp8 : Arv Z h8 bf kb .byte (256 : Int32) (own_put vs sz n us) (Value.int (0 : Int32)) := by rw [← own_cp_put vs us sz n (by omega) (by omega)]; exact V_bf_8
  show own_Ends p.tables e below _ (T8.setTop (mkF m 58 #[.val (.ref a0), .val (.ref a1)] []))
  refine own_step (fun _ k => XS.aloadN X8.here hx rfl (hb hby own_d3_58) rfl rfl k) ?_
  show own_Ends p.tables e below _ (T8.setTop (mkF m 59 #[.val (.ref a0), .val (.ref a1)] [(.ref a0)]))
  refine own_step (fun _ k => XS.dup X8.here hx rfl (hb hby own_d3_59) rfl rfl k) ?_
  show own_Ends p.tables e below _ (T8.setTop (mkF m 60 #[.val (.ref a0), .val (.ref a1)] [(.ref a0), (.ref a0)]))
  obtain ⟨T9, X9, e9, st9⟩ := getF X8 hx hZ hown (host := "") (Or.inl (hw _ (List.mem_of_getElem? (i := 17) rfl))) Via.refl e8 F_size_8 (g := (mkF m 60 #[.val (.ref a0), .val (.ref a1)] [(.ref a0), (.ref a0)])) rfl rfl (hb hby own_d3_60)
  refine own_step st9 ?_
  show own_Ends p.tables e below _ (T9.setTop (mkF m 63 #[.val (.ref a0), .val (.ref a1)] [(.int (Int32.ofNat sz)), (.ref a0)]))
  refine own_step (fun _ k => XS.aloadN X9.here hx rfl (hb hby own_d3_63) rfl rfl k) ?_
  show own_Ends p.tables e below _ (T9.setTop (mkF m 64 #[.val (.ref a0), .val (.ref a1)] [(.ref a1), (.int (Int32.ofNat sz)), (.ref a0)]))
  obtain ⟨cl10, Ar10, q10, S10, Nn10, H10, G10⟩ := id V_a1_8
  refine own_step (fun _ k => X9.arraylength hx (by rw [e9]; exact Ar10.1) (State.isArrayOf_alike hZ.alike Ar10.2.1) (g := (mkF m 64 #[.val (.ref a0), .val (.ref a1)] [(.ref a1), (.int (Int32.ofNat sz)), (.ref a0)])) rfl rfl (hb hby own_d3_64) _ k) ?_
  rw [len_of S10 Nn10]
  show own_Ends p.tables e below _ (T9.setTop (mkF m 65 #[.val (.ref a0), .val (.ref a1)] [(.int (Int32.ofNat n)), (.int (Int32.ofNat sz)), (.ref a0)]))
  refine own_step (fun _ k => XS.iadd X9.here hx rfl (hb hby own_d3_65) rfl k) ?_
  show own_Ends p.tables e below _ (T9.setTop (mkF m 66 #[.val (.ref a0), .val (.ref a1)] [(.int ((Int32.ofNat sz) + (Int32.ofNat n))), (.ref a0)]))
  rw [show ((Int32.ofNat sz) + (Int32.ofNat n)) = (Int32.ofNat (sz + n)) from own_add sz n]
  show own_Ends p.tables e below _ (T9.setTop (mkF m 66 #[.val (.ref a0), .val (.ref a1)] [(.int (Int32.ofNat (sz + n))), (.ref a0)]))
  obtain ⟨T11, h11, X11, e11, W11, st11⟩ := putF X9 hx hZ hown (host := "") (Or.inl (hw _ (List.mem_of_getElem? (i := 17) rfl))) Via.refl e9 F_size_8 E_a0_8 (Or.inl (hw _ (List.mem_of_getElem? (i := 18) rfl))) (hw _ (List.mem_of_getElem? (i := 2) rfl)) (ty := .int) (by decide) rfl rfl (g := (mkF m 66 #[.val (.ref a0), .val (.ref a1)] [(.int (Int32.ofNat (sz + n))), (.ref a0)])) rfl rfl (hb hby own_d3_66)
  refine own_step st11 ?_
  have F_buffer_11 := F_buffer_8.other W11 (Or.inr (slot_ne (Or.inl (hw _ (List.mem_of_getElem? (i := 12) rfl))) (Or.inl (hw _ (List.mem_of_getElem? (i := 18) rfl))) (by decide) (t := (.array .byte)) (t' := .int) (by decide) (by decide)))
  have F_size_11 := F_size_8.same W11
  have F_previousTimestamp_11 := F_previousTimestamp_8.other W11 (Or.inr (slot_ne (Or.inl (hw _ (List.mem_of_getElem? (i := 31) rfl))) (Or.inl (hw _ (List.mem_of_getElem? (i := 18) rfl))) (by decide) (t := .long) (t' := .int) (by decide) (by decide)))
  have F_markedSize_11 := F_markedSize_8.other W11 (Or.inr (slot_ne (Or.inl (hw _ (List.mem_of_getElem? (i := 29) rfl))) (Or.inl (hw _ (List.mem_of_getElem? (i := 18) rfl))) (by decide) (t := .int) (t' := .int) (by decide) (by decide)))
  have F_markedPreviousTimestamp_11 := F_markedPreviousTimestamp_8.other W11 (Or.inr (slot_ne (Or.inl (hw _ (List.mem_of_getElem? (i := 33) rfl))) (Or.inl (hw _ (List.mem_of_getElem? (i := 18) rfl))) (by decide) (t := .long) (t' := .int) (by decide) (by decide)))
  have E_a0_11 := E_a0_8.wr W11
  have V_a1_11 := V_a1_8.other W11 (Ne.symm ne_a1)
  have Vp8_11 := Vp8.other W11 (Ne.symm ne_ab)
  have K_11 : Keep h0 h11 [a0, bf] := K_8.wr W11 (Or.inl (List.mem_of_getElem? (i := 0) rfl))
  have Z_11 : n0 ≤ h11.size := Nat.le_trans Z_8 (Keep.of_wr W11).1
  have N_11 := Fr.snoc X11 N_8 g_a0
  show own_Ends p.tables e below _ (T11.setTop (mkF m 69 #[.val (.ref a0), .val (.ref a1)] []))
  exact own_ret0 X11 hx hlk (by decide) (by decide) Bd.returns (hb hby own_d3_69) (by rw [e11]; exact ⟨rfl, N_11, K_11, F_buffer_11, F_size_11, F_previousTimestamp_11, F_markedSize_11, F_markedPreviousTimestamp_11, Vp8_11⟩)
theorem own_d10_0 : decode prog_32_method_2_code 0 = .ok (.bipush 10, 2) := by decide +kernel
theorem own_d10_2 : decode prog_32_method_2_code 2 = .ok (.newarray .byte, 2) := by decide +kernel
theorem own_d10_4 : decode prog_32_method_2_code 4 = .ok (.astore_n 2, 1) := by decide +kernel
theorem own_d10_5 : decode prog_32_method_2_code 5 = .ok (.bipush 10, 2) := by decide +kernel
theorem own_d10_7 : decode prog_32_method_2_code 7 = .ok (.istore_n 3, 1) := by decide +kernel
theorem own_d10_8 : decode prog_32_method_2_code 8 = .ok (.lload_n 0, 1) := by decide +kernel
theorem own_d10_9 : decode prog_32_method_2_code 9 = .ok (.lstore 4, 2) := by decide +kernel
theorem own_d10_11 : decode prog_32_method_2_code 11 = .ok (.iinc 3 (-1), 3) := by decide +kernel
theorem own_d10_14 : decode prog_32_method_2_code 14 = .ok (.aload_n 2, 1) := by decide +kernel
theorem own_d10_15 : decode prog_32_method_2_code 15 = .ok (.iload_n 3, 1) := by decide +kernel
theorem own_d10_16 : decode prog_32_method_2_code 16 = .ok (.lload 4, 2) := by decide +kernel
theorem own_d10_18 : decode prog_32_method_2_code 18 = .ok (.ldc2_w 9, 3) := by decide +kernel
theorem own_d10_21 : decode prog_32_method_2_code 21 = .ok (.land, 1) := by decide +kernel
theorem own_d10_22 : decode prog_32_method_2_code 22 = .ok (.l2i, 1) := by decide +kernel
theorem own_d10_23 : decode prog_32_method_2_code 23 = .ok (.i2b, 1) := by decide +kernel
theorem own_d10_24 : decode prog_32_method_2_code 24 = .ok (.bastore, 1) := by decide +kernel
theorem own_d10_25 : decode prog_32_method_2_code 25 = .ok (.lload 4, 2) := by decide +kernel
theorem own_d10_27 : decode prog_32_method_2_code 27 = .ok (.bipush 7, 2) := by decide +kernel
theorem own_d10_29 : decode prog_32_method_2_code 29 = .ok (.lushr, 1) := by decide +kernel
theorem own_d10_30 : decode prog_32_method_2_code 30 = .ok (.lstore 4, 2) := by decide +kernel
theorem own_d10_32 : decode prog_32_method_2_code 32 = .ok (.lload 4, 2) := by decide +kernel
theorem own_d10_34 : decode prog_32_method_2_code 34 = .ok (.lconst 0, 1) := by decide +kernel
theorem own_d10_35 : decode prog_32_method_2_code 35 = .ok (.lcmp, 1) := by decide +kernel
theorem own_d10_36 : decode prog_32_method_2_code 36 = .ok (.ifCond .ne (-25), 3) := by decide +kernel
theorem own_d10_39 : decode prog_32_method_2_code 39 = .ok (.iload_n 3, 1) := by decide +kernel
theorem own_d10_40 : decode prog_32_method_2_code 40 = .ok (.istore 6, 2) := by decide +kernel
theorem own_d10_42 : decode prog_32_method_2_code 42 = .ok (.iload 6, 2) := by decide +kernel
theorem own_d10_44 : decode prog_32_method_2_code 44 = .ok (.bipush 9, 2) := by decide +kernel
theorem own_d10_46 : decode prog_32_method_2_code 46 = .ok (.if_icmp .ge 19, 3) := by decide +kernel
theorem own_d10_65 : decode prog_32_method_2_code 65 = .ok (.bipush 10, 2) := by decide +kernel
theorem own_d10_67 : decode prog_32_method_2_code 67 = .ok (.iload_n 3, 1) := by decide +kernel
theorem own_d10_68 : decode prog_32_method_2_code 68 = .ok (.isub, 1) := by decide +kernel
theorem own_d10_69 : decode prog_32_method_2_code 69 = .ok (.newarray .byte, 2) := by decide +kernel
theorem own_d10_71 : decode prog_32_method_2_code 71 = .ok (.astore 6, 2) := by decide +kernel
theorem own_d10_73 : decode prog_32_method_2_code 73 = .ok (.aload_n 2, 1) := by decide +kernel
theorem own_d10_74 : decode prog_32_method_2_code 74 = .ok (.iload_n 3, 1) := by decide +kernel
theorem own_d10_75 : decode prog_32_method_2_code 75 = .ok (.aload 6, 2) := by decide +kernel
theorem own_d10_77 : decode prog_32_method_2_code 77 = .ok (.iconst 0, 1) := by decide +kernel
theorem own_d10_78 : decode prog_32_method_2_code 78 = .ok (.aload 6, 2) := by decide +kernel
theorem own_d10_80 : decode prog_32_method_2_code 80 = .ok (.arraylength, 1) := by decide +kernel
theorem own_d10_81 : decode prog_32_method_2_code 81 = .ok (.invokestatic 11, 3) := by decide +kernel
theorem own_d10_84 : decode prog_32_method_2_code 84 = .ok (.aload 6, 2) := by decide +kernel
theorem own_d10_86 : decode prog_32_method_2_code 86 = .ok (.areturn, 1) := by decide +kernel
theorem own_pn2 : plainName "com/example/ketchup/ketchup/negentropy/Varint" = true := by first | (simp [plainName, overriddenIn]; done) | decide +kernel
theorem own_ef_10 (m : MethodId) (x0 : Int64) : entryFrame m #[(.long x0)] 7 = mkF m 0 #[.val (.long x0), .second, .unset, .unset, .unset, .unset, .unset] [] := by first | (simp [entryFrame, mkF, argsToLocals, Value.category]; done) | rfl
set_option maxRecDepth 65536 in
set_option maxHeartbeats 40000000 in
theorem own_rm_encode1 (l : Launch) (Z : State) (aw : Array Value) (hw : ∀ d ∈ tables_1, d.before aw Z = true) (ws : List Jvm.Cond) (q0 : Int64) (h0 : Heap) (n0 : Nat) (Z0 : n0 ≤ h0.size) (hq : q0.toUInt64.toNat < 128) :
    MetFree l (⟨"com/example/ketchup/ketchup/negentropy/Varint", "encode", "(J)[B"⟩ : MethodName) (head1 (Jvm.Cond.code (⟨"com/example/ketchup/ketchup/negentropy/Varint", "encode", "(J)[B"⟩ : MethodName) prog_32_method_2_code 7 (some (.array .byte)) :: ws) ({ frames := 1, cells := 2, slots := 20, locals := 18 } : Room)) (fun a U => a = #[(.long q0)] ∧ Z.Warmed39 U.vm ∧ U.heap = h0) (fun _ _ _ _ _ => True) (fun _ U o U' => ∃ v L, o = .returned v ∧ own_QEnc Z q0 h0 n0 v U'.heap L ∧ FrameEnd U o U' L ({ frames := 1, cells := 2, slots := 20, locals := 18 } : Room).cells ({ frames := 1, cells := 2, slots := 20, locals := 18 } : Room).slots) := by
  refine MetFree.of_bodySF (plainFor_of_name own_pn2) hisR ?_
  intro p e s m args below meth c s₁ Bd hml0 hP hK
  obtain ⟨rfl, hZ, hh⟩ := hP
  have hx := Bd.exec
  have hby := Bd.bytes
  have hlk : meth.locks = false := BodyLoose.notSynchronized Bd
  have hml : c.maxLocals = 7 := hml0
  have hown : s.vm.findClass "com/example/ketchup/ketchup/negentropy/Varint" = some m.cls := findClass_of_methodNamed Bd.named
  have hnm := (name_of_methodNamed Bd.named Bd.method).1
  have X0 : Stand p l e ({ frames := 1, cells := 2, slots := 20, locals := 18 } : Room) s m #[(.long q0)] below meth c s₁ [] 0 0 := Stand.of_body Bd
  have e0 : s₁.heap = h0 := by rw [← hh, Bd.state]; rfl
  have N0 := Fr.nil n0
  have K0 : Keep h0 h0 [] := Keep.refl _ _
  have pre0 : ∀ t, Steps p.tables e below (s₁.setTop (mkF m 0 #[.val (.long q0), .second, .unset, .unset, .unset, .unset, .unset] [])) t → Steps p.tables e below (s₁.setTop (entryFrame m #[(.long q0)] 7)) t := fun t k => castTop (own_ef_10 m q0) k
  show own_Ends p.tables e below (own_Q s (own_QEnc Z q0 h0 n0) ({ frames := 1, cells := 2, slots := 20, locals := 18 } : Room).cells ({ frames := 1, cells := 2, slots := 20, locals := 18 } : Room).slots) (s₁.setTop (entryFrame m #[(.long q0)] 7))
  refine own_step pre0 ?_
  show own_Ends p.tables e below _ (s₁.setTop (mkF m 0 #[.val (.long q0), .second, .unset, .unset, .unset, .unset, .unset] []))
  refine own_step (fun _ k => XS.bipush X0.here hx rfl (hb hby own_d10_0) k) ?_
  show own_Ends p.tables e below _ (s₁.setTop (mkF m 2 #[.val (.long q0), .second, .unset, .unset, .unset, .unset, .unset] [(.int (10 : Int32))]))
  obtain ⟨T1, h1, k1, X1, e1, E1, A1, st1⟩ := newP X0 hx hZ (hw _ (List.mem_of_getElem? (i := 10) rfl)) e0 (g := (mkF m 2 #[.val (.long q0), .second, .unset, .unset, .unset, .unset, .unset] [(.int (10 : Int32))])) rfl (hb hby own_d10_2) rfl (by decide) (cap := 10) (by decide) (by decide) (by decide) (by decide)
  obtain ⟨b1, g1⟩ : ∃ z, z = h0.size := ⟨_, rfl⟩
  rw [← g1] at A1 st1
  refine own_step st1 ?_
  have g_b1 : n0 ≤ b1 := Nat.le_trans Z0 (Nat.le_of_eq g1.symm)
  have sz_b1 : h0.size ≤ b1 := Nat.le_trans K0.1 (Nat.le_of_eq g1.symm)
  have K_1 : Keep h0 h1 [] := K0.ext E1
  have Z_1 : n0 ≤ h1.size := Nat.le_trans Z0 E1.1
  have V_b1 : Arv Z h1 b1 k1 .byte (10 : Int32) (List.replicate 10 (.int (0 : Int32))) (.int (0 : Int32)) := (Arv.new A1 (by decide)).pad (pad_rep [] (.int (0 : Int32)) 10)
  show own_Ends p.tables e below _ (T1.setTop (mkF m 4 #[.val (.long q0), .second, .unset, .unset, .unset, .unset, .unset] [(.ref b1)]))
  refine own_step (fun _ k => XS.astoreN X1.here hx rfl (hb hby own_d10_4) rfl rfl (l' := #[.val (.long q0), .second, .val (.ref b1), .unset, .unset, .unset, .unset]) rfl k) ?_
  show own_Ends p.tables e below _ (T1.setTop (mkF m 5 #[.val (.long q0), .second, .val (.ref b1), .unset, .unset, .unset, .unset] []))
  refine own_step (fun _ k => XS.bipush X1.here hx rfl (hb hby own_d10_5) k) ?_
  show own_Ends p.tables e below _ (T1.setTop (mkF m 7 #[.val (.long q0), .second, .val (.ref b1), .unset, .unset, .unset, .unset] [(.int (10 : Int32))]))
  refine own_step (fun _ k => XS.istoreN X1.here hx rfl (hb hby own_d10_7) rfl (l' := #[.val (.long q0), .second, .val (.ref b1), .val (.int (10 : Int32)), .unset, .unset, .unset]) rfl k) ?_
  show own_Ends p.tables e below _ (T1.setTop (mkF m 8 #[.val (.long q0), .second, .val (.ref b1), .val (.int (10 : Int32)), .unset, .unset, .unset] []))
  refine own_step (fun _ k => XS.lloadN X1.here hx rfl (hb hby own_d10_8) rfl k) ?_
  show own_Ends p.tables e below _ (T1.setTop (mkF m 9 #[.val (.long q0), .second, .val (.ref b1), .val (.int (10 : Int32)), .unset, .unset, .unset] [(.long q0)]))
  refine own_step (fun _ k => XS.lstore X1.here hx rfl (hb hby own_d10_9) rfl (l' := #[.val (.long q0), .second, .val (.ref b1), .val (.int (10 : Int32)), .val (.long q0), .second, .unset]) rfl k) ?_
  show own_Ends p.tables e below _ (T1.setTop (mkF m 11 #[.val (.long q0), .second, .val (.ref b1), .val (.int (10 : Int32)), .val (.long q0), .second, .unset] []))
  refine own_step (fun _ k => XS.iinc X1.here hx rfl (hb hby own_d10_11) rfl (l' := #[.val (.long q0), .second, .val (.ref b1), .val (.int ((10 : Int32) + (-1 : Int32))), .val (.long q0), .second, .unset]) rfl k) ?_
  show own_Ends p.tables e below _ (T1.setTop (mkF m 14 #[.val (.long q0), .second, .val (.ref b1), .val (.int ((10 : Int32) + (-1 : Int32))), .val (.long q0), .second, .unset] []))
  rw [show ((10 : Int32) + (-1 : Int32)) = (9 : Int32) from by decide]
  show own_Ends p.tables e below _ (T1.setTop (mkF m 14 #[.val (.long q0), .second, .val (.ref b1), .val (.int (9 : Int32)), .val (.long q0), .second, .unset] []))
  refine own_step (fun _ k => XS.aloadN X1.here hx rfl (hb hby own_d10_14) rfl rfl k) ?_
  show own_Ends p.tables e below _ (T1.setTop (mkF m 15 #[.val (.long q0), .second, .val (.ref b1), .val (.int (9 : Int32)), .val (.long q0), .second, .unset] [(.ref b1)]))
  refine own_step (fun _ k => XS.iloadN X1.here hx rfl (hb hby own_d10_15) rfl k) ?_
  show own_Ends p.tables e below _ (T1.setTop (mkF m 16 #[.val (.long q0), .second, .val (.ref b1), .val (.int (9 : Int32)), .val (.long q0), .second, .unset] [(.int (9 : Int32)), (.ref b1)]))
  refine own_step (fun _ k => XS.lload X1.here hx rfl (hb hby own_d10_16) rfl k) ?_
  show own_Ends p.tables e below _ (T1.setTop (mkF m 18 #[.val (.long q0), .second, .val (.ref b1), .val (.int (9 : Int32)), .val (.long q0), .second, .unset] [(.long q0), (.int (9 : Int32)), (.ref b1)]))
  refine own_step (fun _ k => X1.ldc2Long hx hown (mvT hZ (hw _ (List.mem_of_getElem? (i := 71) rfl))) (g := (mkF m 18 #[.val (.long q0), .second, .val (.ref b1), .val (.int (9 : Int32)), .val (.long q0), .second, .unset] [(.long q0), (.int (9 : Int32)), (.ref b1)])) rfl (hb hby own_d10_18) _ k) ?_
  show own_Ends p.tables e below _ (T1.setTop (mkF m 21 #[.val (.long q0), .second, .val (.ref b1), .val (.int (9 : Int32)), .val (.long q0), .second, .unset] [(.long (127 : Int64)), (.long q0), (.int (9 : Int32)), (.ref b1)]))
  refine own_step (fun _ k => XS.land X1.here hx rfl (hb hby own_d10_21) rfl k) ?_
  show own_Ends p.tables e below _ (T1.setTop (mkF m 22 #[.val (.long q0), .second, .val (.ref b1), .val (.int (9 : Int32)), .val (.long q0), .second, .unset] [(.long (q0 &&& (127 : Int64))), (.int (9 : Int32)), (.ref b1)]))
  refine own_step (fun _ k => XS.l2i X1.here hx rfl (hb hby own_d10_22) rfl k) ?_
  show own_Ends p.tables e below _ (T1.setTop (mkF m 23 #[.val (.long q0), .second, .val (.ref b1), .val (.int (9 : Int32)), .val (.long q0), .second, .unset] [(.int ((q0 &&& (127 : Int64)).toInt32)), (.int (9 : Int32)), (.ref b1)]))
  refine own_step (fun _ k => XS.i2b X1.here hx rfl (hb hby own_d10_23) rfl k) ?_
  show own_Ends p.tables e below _ (T1.setTop (mkF m 24 #[.val (.long q0), .second, .val (.ref b1), .val (.int (9 : Int32)), .val (.long q0), .second, .unset] [(.int (((q0 &&& (127 : Int64)).toInt32).toInt8.toInt32)), (.int (9 : Int32)), (.ref b1)]))
  obtain ⟨cl2, Ar2, q2, S2, Nn2, H2, G2⟩ := id V_b1
  have hin2 : ¬ ((9 : Int32) < 0 ∨ cl2.slots.size ≤ ((9 : Int32)).toNatClampNeg) := inb_of S2 ⟨(by decide), (by decide)⟩
  obtain ⟨T2, h2, X2, e2, W2, st2⟩ := stB X1 hx hZ e1 Ar2 (j := (9 : Int32)) hin2 (g := (mkF m 24 #[.val (.long q0), .second, .val (.ref b1), .val (.int (9 : Int32)), .val (.long q0), .second, .unset] [(.int (((q0 &&& (127 : Int64)).toInt32).toInt8.toInt32)), (.int (9 : Int32)), (.ref b1)])) rfl rfl (hb hby own_d10_24)
  refine own_step st2 ?_
  have K_2 : Keep h0 h2 [] := K_1.wr W2 (Or.inr sz_b1)
  have Z_2 : n0 ≤ h2.size := Nat.le_trans Z_1 (Keep.of_wr W2).1
  have N_2 := Fr.snoc X2 N0 g_b1
  have V_b1_2 : Arv Z h2 b1 k1 .byte (10 : Int32) ((List.replicate 10 (.int (0 : Int32))).set 9 (.int (nar .byte (((q0 &&& (127 : Int64)).toInt32).toInt8.toInt32)))) (.int (0 : Int32)) := Arv.set Ar2 q2 S2 Nn2 H2 G2 (fits_nar_byte _) W2 9 rfl (by simp)
  show own_Ends p.tables e below _ (T2.setTop (mkF m 25 #[.val (.long q0), .second, .val (.ref b1), .val (.int (9 : Int32)), .val (.long q0), .second, .unset] []))
  refine own_step (fun _ k => XS.lload X2.here hx rfl (hb hby own_d10_25) rfl k) ?_
  show own_Ends p.tables e below _ (T2.setTop (mkF m 27 #[.val (.long q0), .second, .val (.ref b1), .val (.int (9 : Int32)), .val (.long q0), .second, .unset] [(.long q0)]))
  refine own_step (fun _ k => XS.bipush X2.here hx rfl (hb hby own_d10_27) k) ?_
  show own_Ends p.tables e below _ (T2.setTop (mkF m 29 #[.val (.long q0), .second, .val (.ref b1), .val (.int (9 : Int32)), .val (.long q0), .second, .unset] [(.int (7 : Int32)), (.long q0)]))
  refine own_step (fun _ k => XS.lushr X2.here hx rfl (hb hby own_d10_29) rfl k) ?_
  show own_Ends p.tables e below _ (T2.setTop (mkF m 30 #[.val (.long q0), .second, .val (.ref b1), .val (.int (9 : Int32)), .val (.long q0), .second, .unset] [(.long ((q0.toUInt64 >>> ((7 : Int32) &&& 0x3f).toInt64.toUInt64).toInt64))]))
  refine own_step (fun _ k => XS.lstore X2.here hx rfl (hb hby own_d10_30) rfl (l' := #[.val (.long q0), .second, .val (.ref b1), .val (.int (9 : Int32)), .val (.long ((q0.toUInt64 >>> ((7 : Int32) &&& 0x3f).toInt64.toUInt64).toInt64)), .second, .unset]) rfl k) ?_
  show own_Ends p.tables e below _ (T2.setTop (mkF m 32 #[.val (.long q0), .second, .val (.ref b1), .val (.int (9 : Int32)), .val (.long ((q0.toUInt64 >>> ((7 : Int32) &&& 0x3f).toInt64.toUInt64).toInt64)), .second, .unset] []))
  refine own_step (fun _ k => XS.lload X2.here hx rfl (hb hby own_d10_32) rfl k) ?_
  show own_Ends p.tables e below _ (T2.setTop (mkF m 34 #[.val (.long q0), .second, .val (.ref b1), .val (.int (9 : Int32)), .val (.long ((q0.toUInt64 >>> ((7 : Int32) &&& 0x3f).toInt64.toUInt64).toInt64)), .second, .unset] [(.long ((q0.toUInt64 >>> ((7 : Int32) &&& 0x3f).toInt64.toUInt64).toInt64))]))
  refine own_step (fun _ k => XS.lconst X2.here hx rfl (hb hby own_d10_34) k) ?_
  show own_Ends p.tables e below _ (T2.setTop (mkF m 35 #[.val (.long q0), .second, .val (.ref b1), .val (.int (9 : Int32)), .val (.long ((q0.toUInt64 >>> ((7 : Int32) &&& 0x3f).toInt64.toUInt64).toInt64)), .second, .unset] [(.long (0 : Int64)), (.long ((q0.toUInt64 >>> ((7 : Int32) &&& 0x3f).toInt64.toUInt64).toInt64))]))
  refine own_step (fun _ k => XS.lcmp X2.here hx rfl (hb hby own_d10_35) rfl k) ?_
  show own_Ends p.tables e below _ (T2.setTop (mkF m 36 #[.val (.long q0), .second, .val (.ref b1), .val (.int (9 : Int32)), .val (.long ((q0.toUInt64 >>> ((7 : Int32) &&& 0x3f).toInt64.toUInt64).toInt64)), .second, .unset] [(.int (lcmpW ((q0.toUInt64 >>> ((7 : Int32) &&& 0x3f).toInt64.toUInt64).toInt64) (0 : Int64)))]))
  refine own_step (fun _ k => XS.ifNo X2.here hx rfl (hb hby own_d10_36) rfl ((if0 _ _).trans (teq ((own_lc_eq _ _).mpr (own_sr7_0 q0 hq))).2) k) ?_
  show own_Ends p.tables e below _ (T2.setTop (mkF m 39 #[.val (.long q0), .second, .val (.ref b1), .val (.int (9 : Int32)), .val (.long ((q0.toUInt64 >>> ((7 : Int32) &&& 0x3f).toInt64.toUInt64).toInt64)), .second, .unset] []))
  refine own_step (fun _ k => XS.iloadN X2.here hx rfl (hb hby own_d10_39) rfl k) ?_
  show own_Ends p.tables e below _ (T2.setTop (mkF m 40 #[.val (.long q0), .second, .val (.ref b1), .val (.int (9 : Int32)), .val (.long ((q0.toUInt64 >>> ((7 : Int32) &&& 0x3f).toInt64.toUInt64).toInt64)), .second, .unset] [(.int (9 : Int32))]))
  refine own_step (fun _ k => XS.istore X2.here hx rfl (hb hby own_d10_40) rfl (l' := #[.val (.long q0), .second, .val (.ref b1), .val (.int (9 : Int32)), .val (.long ((q0.toUInt64 >>> ((7 : Int32) &&& 0x3f).toInt64.toUInt64).toInt64)), .second, .val (.int (9 : Int32))]) rfl k) ?_
  show own_Ends p.tables e below _ (T2.setTop (mkF m 42 #[.val (.long q0), .second, .val (.ref b1), .val (.int (9 : Int32)), .val (.long ((q0.toUInt64 >>> ((7 : Int32) &&& 0x3f).toInt64.toUInt64).toInt64)), .second, .val (.int (9 : Int32))] []))
  refine own_step (fun _ k => XS.iload X2.here hx rfl (hb hby own_d10_42) rfl k) ?_
  show own_Ends p.tables e below _ (T2.setTop (mkF m 44 #[.val (.long q0), .second, .val (.ref b1), .val (.int (9 : Int32)), .val (.long ((q0.toUInt64 >>> ((7 : Int32) &&& 0x3f).toInt64.toUInt64).toInt64)), .second, .val (.int (9 : Int32))] [(.int (9 : Int32))]))
  refine own_step (fun _ k => XS.bipush X2.here hx rfl (hb hby own_d10_44) k) ?_
  show own_Ends p.tables e below _ (T2.setTop (mkF m 46 #[.val (.long q0), .second, .val (.ref b1), .val (.int (9 : Int32)), .val (.long ((q0.toUInt64 >>> ((7 : Int32) &&& 0x3f).toInt64.toUInt64).toInt64)), .second, .val (.int (9 : Int32))] [(.int (9 : Int32)), (.int (9 : Int32))]))
  refine own_step (fun _ k => XS.icmpYes X2.here hx rfl (pc0 := 46) (pc' := 65) rfl (hb hby own_d10_46) rfl (flt (by decide)).2.1 (by decide) (by decide) k) ?_
  show own_Ends p.tables e below _ (T2.setTop (mkF m 65 #[.val (.long q0), .second, .val (.ref b1), .val (.int (9 : Int32)), .val (.long ((q0.toUInt64 >>> ((7 : Int32) &&& 0x3f).toInt64.toUInt64).toInt64)), .second, .val (.int (9 : Int32))] []))
  refine own_step (fun _ k => XS.bipush X2.here hx rfl (hb hby own_d10_65) k) ?_
  show own_Ends p.tables e below _ (T2.setTop (mkF m 67 #[.val (.long q0), .second, .val (.ref b1), .val (.int (9 : Int32)), .val (.long ((q0.toUInt64 >>> ((7 : Int32) &&& 0x3f).toInt64.toUInt64).toInt64)), .second, .val (.int (9 : Int32))] [(.int (10 : Int32))]))
  refine own_step (fun _ k => XS.iloadN X2.here hx rfl (hb hby own_d10_67) rfl k) ?_
  show own_Ends p.tables e below _ (T2.setTop (mkF m 68 #[.val (.long q0), .second, .val (.ref b1), .val (.int (9 : Int32)), .val (.long ((q0.toUInt64 >>> ((7 : Int32) &&& 0x3f).toInt64.toUInt64).toInt64)), .second, .val (.int (9 : Int32))] [(.int (9 : Int32)), (.int (10 : Int32))]))
  refine own_step (fun _ k => XS.isub X2.here hx rfl (hb hby own_d10_68) rfl k) ?_
  show own_Ends p.tables e below _ (T2.setTop (mkF m 69 #[.val (.long q0), .second, .val (.ref b1), .val (.int (9 : Int32)), .val (.long ((q0.toUInt64 >>> ((7 : Int32) &&& 0x3f).toInt64.toUInt64).toInt64)), .second, .val (.int (9 : Int32))] [(.int ((10 : Int32) - (9 : Int32)))]))
  rw [show ((10 : Int32) - (9 : Int32)) = (1 : Int32) from by decide]
  show own_Ends p.tables e below _ (T2.setTop (mkF m 69 #[.val (.long q0), .second, .val (.ref b1), .val (.int (9 : Int32)), .val (.long ((q0.toUInt64 >>> ((7 : Int32) &&& 0x3f).toInt64.toUInt64).toInt64)), .second, .val (.int (9 : Int32))] [(.int (1 : Int32))]))
  obtain ⟨T3, h3, k3, X3, e3, E3, A3, st3⟩ := newP X2 hx hZ (hw _ (List.mem_of_getElem? (i := 10) rfl)) e2 (g := (mkF m 69 #[.val (.long q0), .second, .val (.ref b1), .val (.int (9 : Int32)), .val (.long ((q0.toUInt64 >>> ((7 : Int32) &&& 0x3f).toInt64.toUInt64).toInt64)), .second, .val (.int (9 : Int32))] [(.int (1 : Int32))])) rfl (hb hby own_d10_69) rfl (by decide) (cap := 1) (by decide) (by decide) (by decide) (by decide)
  obtain ⟨b3, g3⟩ : ∃ z, z = h2.size := ⟨_, rfl⟩
  rw [← g3] at A3 st3
  refine own_step st3 ?_
  have ne_b1_b3 : b1 ≠ b3 := Nat.ne_of_lt (Nat.lt_of_lt_of_le V_b1_2.lt (Nat.le_of_eq g3.symm))
  have g_b3 : n0 ≤ b3 := Nat.le_trans Z_2 (Nat.le_of_eq g3.symm)
  have sz_b3 : h0.size ≤ b3 := Nat.le_trans K_2.1 (Nat.le_of_eq g3.symm)
  have V_b1_3 := V_b1_2.ext E3
  have K_3 : Keep h0 h3 [] := K_2.ext E3
  have Z_3 : n0 ≤ h3.size := Nat.le_trans Z_2 E3.1
  have V_b3 : Arv Z h3 b3 k3 .byte (1 : Int32) (List.replicate 1 (.int (0 : Int32))) (.int (0 : Int32)) := (Arv.new A3 (by decide)).pad (pad_rep [] (.int (0 : Int32)) 1)
  show own_Ends p.tables e below _ (T3.setTop (mkF m 71 #[.val (.long q0), .second, .val (.ref b1), .val (.int (9 : Int32)), .val (.long ((q0.toUInt64 >>> ((7 : Int32) &&& 0x3f).toInt64.toUInt64).toInt64)), .second, .val (.int (9 : Int32))] [(.ref b3)]))
  refine own_step (fun _ k => XS.astore X3.here hx rfl (hb hby own_d10_71) rfl rfl (l' := #[.val (.long q0), .second, .val (.ref b1), .val (.int (9 : Int32)), .val (.long ((q0.toUInt64 >>> ((7 : Int32) &&& 0x3f).toInt64.toUInt64).toInt64)), .second, .val (.ref b3)]) rfl k) ?_
  show own_Ends p.tables e below _ (T3.setTop (mkF m 73 #[.val (.long q0), .second, .val (.ref b1), .val (.int (9 : Int32)), .val (.long ((q0.toUInt64 >>> ((7 : Int32) &&& 0x3f).toInt64.toUInt64).toInt64)), .second, .val (.ref b3)] []))
  refine own_step (fun _ k => XS.aloadN X3.here hx rfl (hb hby own_d10_73) rfl rfl k) ?_
  show own_Ends p.tables e below _ (T3.setTop (mkF m 74 #[.val (.long q0), .second, .val (.ref b1), .val (.int (9 : Int32)), .val (.long ((q0.toUInt64 >>> ((7 : Int32) &&& 0x3f).toInt64.toUInt64).toInt64)), .second, .val (.ref b3)] [(.ref b1)]))
  refine own_step (fun _ k => XS.iloadN X3.here hx rfl (hb hby own_d10_74) rfl k) ?_
  show own_Ends p.tables e below _ (T3.setTop (mkF m 75 #[.val (.long q0), .second, .val (.ref b1), .val (.int (9 : Int32)), .val (.long ((q0.toUInt64 >>> ((7 : Int32) &&& 0x3f).toInt64.toUInt64).toInt64)), .second, .val (.ref b3)] [(.int (9 : Int32)), (.ref b1)]))
  refine own_step (fun _ k => XS.aload X3.here hx rfl (hb hby own_d10_75) rfl rfl k) ?_
  show own_Ends p.tables e below _ (T3.setTop (mkF m 77 #[.val (.long q0), .second, .val (.ref b1), .val (.int (9 : Int32)), .val (.long ((q0.toUInt64 >>> ((7 : Int32) &&& 0x3f).toInt64.toUInt64).toInt64)), .second, .val (.ref b3)] [(.ref b3), (.int (9 : Int32)), (.ref b1)]))
  refine own_step (fun _ k => XS.iconst X3.here hx rfl (hb hby own_d10_77) k) ?_
  show own_Ends p.tables e below _ (T3.setTop (mkF m 78 #[.val (.long q0), .second, .val (.ref b1), .val (.int (9 : Int32)), .val (.long ((q0.toUInt64 >>> ((7 : Int32) &&& 0x3f).toInt64.toUInt64).toInt64)), .second, .val (.ref b3)] [(.int (0 : Int32)), (.ref b3), (.int (9 : Int32)), (.ref b1)]))
  refine own_step (fun _ k => XS.aload X3.here hx rfl (hb hby own_d10_78) rfl rfl k) ?_
  show own_Ends p.tables e below _ (T3.setTop (mkF m 80 #[.val (.long q0), .second, .val (.ref b1), .val (.int (9 : Int32)), .val (.long ((q0.toUInt64 >>> ((7 : Int32) &&& 0x3f).toInt64.toUInt64).toInt64)), .second, .val (.ref b3)] [(.ref b3), (.int (0 : Int32)), (.ref b3), (.int (9 : Int32)), (.ref b1)]))
  obtain ⟨cl4, Ar4, q4, S4, Nn4, H4, G4⟩ := id V_b3
  refine own_step (fun _ k => X3.arraylength hx (by rw [e3]; exact Ar4.1) (State.isArrayOf_alike hZ.alike Ar4.2.1) (g := (mkF m 80 #[.val (.long q0), .second, .val (.ref b1), .val (.int (9 : Int32)), .val (.long ((q0.toUInt64 >>> ((7 : Int32) &&& 0x3f).toInt64.toUInt64).toInt64)), .second, .val (.ref b3)] [(.ref b3), (.int (0 : Int32)), (.ref b3), (.int (9 : Int32)), (.ref b1)])) rfl rfl (hb hby own_d10_80) _ k) ?_
  rw [len_of S4 Nn4]
  show own_Ends p.tables e below _ (T3.setTop (mkF m 81 #[.val (.long q0), .second, .val (.ref b1), .val (.int (9 : Int32)), .val (.long ((q0.toUInt64 >>> ((7 : Int32) &&& 0x3f).toInt64.toUInt64).toInt64)), .second, .val (.ref b3)] [(.int (1 : Int32)), (.int (0 : Int32)), (.ref b3), (.int (9 : Int32)), (.ref b1)]))
  obtain ⟨T5, h5, L5, X5, e5, N_5, k5, V_b3_5, st5⟩ := cpA X3 hx hZ hown (hw _ (List.mem_of_getElem? (i := 72) rfl)) (hw _ (List.mem_of_getElem? (i := 22) rfl)) (hw _ (List.mem_of_getElem? (i := 20) rfl)) (hw _ (List.mem_of_getElem? (i := 21) rfl)) e3 V_b1_3 V_b3 (Or.inl ⟨rfl, rfl⟩) (us := _) (by decide) (by decide) (by decide) (by decide) (by decide) rfl (by simp) N_2 g_b3 (g := (mkF m 81 #[.val (.long q0), .second, .val (.ref b1), .val (.int (9 : Int32)), .val (.long ((q0.toUInt64 >>> ((7 : Int32) &&& 0x3f).toInt64.toUInt64).toInt64)), .second, .val (.ref b3)] [(.int (1 : Int32)), (.int (0 : Int32)), (.ref b3), (.int (9 : Int32)), (.ref b1)])) rfl (by rw [hml]; rfl) rfl (hb hby own_d10_81) (by decide) (W := 0) (by show 2 * 0 + _ ≤ _; exact Nat.le_of_eq rfl) (by decide)
  refine own_step st5 ?_
  have V_b1_5 := V_b1_3.keep k5 (ninS ne_b1_b3 nin0)
  have K_5 : Keep h0 h5 [] := K_3.trans k5 (allS (Or.inr sz_b3) all0)
  have Z_5 : n0 ≤ h5.size := Nat.le_trans Z_3 k5.1
  show own_Ends p.tables e below _ (T5.setTop (mkF m 84 #[.val (.long q0), .second, .val (.ref b1), .val (.int (9 : Int32)), .val (.long ((q0.toUInt64 >>> ((7 : Int32) &&& 0x3f).toInt64.toUInt64).toInt64)), .second, .val (.ref b3)] []))
  refine own_step (fun _ k => XS.aload X5.here hx rfl (hb hby own_d10_84) rfl rfl k) ?_
  show own_Ends p.tables e below _ (T5.setTop (mkF m 86 #[.val (.long q0), .second, .val (.ref b1), .val (.int (9 : Int32)), .val (.long ((q0.toUInt64 >>> ((7 : Int32) &&& 0x3f).toInt64.toUInt64).toInt64)), .second, .val (.ref b3)] [(.ref b3)]))
  exact own_retA X5 hx hlk (by decide) (by decide) Bd.returns rfl rfl (hb hby own_d10_86) (by rw [e5]; exact ⟨_, _, 1, _, rfl, N_5, K_5, g_b3, sz_b3, by omega, by omega, V_b3_5, fun _ => ⟨rfl, congrArg Value.int (own_digit q0 hq)⟩⟩)
theorem own_d10_49 : decode prog_32_method_2_code 49 = .ok (.aload_n 2, 1) := by decide +kernel
theorem own_d10_50 : decode prog_32_method_2_code 50 = .ok (.iload 6, 2) := by decide +kernel
theorem own_d10_52 : decode prog_32_method_2_code 52 = .ok (.dup2, 1) := by decide +kernel
theorem own_d10_53 : decode prog_32_method_2_code 53 = .ok (.baload, 1) := by decide +kernel
theorem own_d10_54 : decode prog_32_method_2_code 54 = .ok (.bipush (-128), 2) := by decide +kernel
theorem own_d10_56 : decode prog_32_method_2_code 56 = .ok (.ior, 1) := by decide +kernel
theorem own_d10_57 : decode prog_32_method_2_code 57 = .ok (.i2b, 1) := by decide +kernel
theorem own_d10_58 : decode prog_32_method_2_code 58 = .ok (.bastore, 1) := by decide +kernel
theorem own_d10_59 : decode prog_32_method_2_code 59 = .ok (.iinc 6 1, 3) := by decide +kernel
theorem own_d10_62 : decode prog_32_method_2_code 62 = .ok (.goto (-20), 3) := by decide +kernel
set_option maxRecDepth 65536 in
set_option maxHeartbeats 40000000 in
theorem own_rm_encoden (l : Launch) (Z : State) (aw : Array Value) (hw : ∀ d ∈ tables_1, d.before aw Z = true) (ws : List Jvm.Cond) (q0 : Int64) (h0 : Heap) (n0 : Nat) (Z0 : n0 ≤ h0.size) (hq : ¬ q0.toUInt64.toNat < 128) :
    MetFree l (⟨"com/example/ketchup/ketchup/negentropy/Varint", "encode", "(J)[B"⟩ : MethodName) (head1 (Jvm.Cond.code (⟨"com/example/ketchup/ketchup/negentropy/Varint", "encode", "(J)[B"⟩ : MethodName) prog_32_method_2_code 7 (some (.array .byte)) :: ws) ({ frames := 1, cells := 2, slots := 20, locals := 18 } : Room)) (fun a U => a = #[(.long q0)] ∧ Z.Warmed39 U.vm ∧ U.heap = h0) (fun _ _ _ _ _ => True) (fun _ U o U' => ∃ v L, o = .returned v ∧ own_QEnc Z q0 h0 n0 v U'.heap L ∧ FrameEnd U o U' L ({ frames := 1, cells := 2, slots := 20, locals := 18 } : Room).cells ({ frames := 1, cells := 2, slots := 20, locals := 18 } : Room).slots) := by
  refine MetFree.of_bodySF (plainFor_of_name own_pn2) hisR ?_
  intro p e s m args below meth c s₁ Bd hml0 hP hK
  obtain ⟨rfl, hZ, hh⟩ := hP
  have hx := Bd.exec
  have hby := Bd.bytes
  have hlk : meth.locks = false := BodyLoose.notSynchronized Bd
  have hml : c.maxLocals = 7 := hml0
  have hown : s.vm.findClass "com/example/ketchup/ketchup/negentropy/Varint" = some m.cls := findClass_of_methodNamed Bd.named
  have hnm := (name_of_methodNamed Bd.named Bd.method).1
  have X0 : Stand p l e ({ frames := 1, cells := 2, slots := 20, locals := 18 } : Room) s m #[(.long q0)] below meth c s₁ [] 0 0 := Stand.of_body Bd
  have e0 : s₁.heap = h0 := by rw [← hh, Bd.state]; rfl
  have N0 := Fr.nil n0
  have K0 : Keep h0 h0 [] := Keep.refl _ _
  have pre0 : ∀ t, Steps p.tables e below (s₁.setTop (mkF m 0 #[.val (.long q0), .second, .unset, .unset, .unset, .unset, .unset] [])) t → Steps p.tables e below (s₁.setTop (entryFrame m #[(.long q0)] 7)) t := fun t k => castTop (own_ef_10 m q0) k
  show own_Ends p.tables e below (own_Q s (own_QEnc Z q0 h0 n0) ({ frames := 1, cells := 2, slots := 20, locals := 18 } : Room).cells ({ frames := 1, cells := 2, slots := 20, locals := 18 } : Room).slots) (s₁.setTop (entryFrame m #[(.long q0)] 7))
  refine own_step pre0 ?_
  show own_Ends p.tables e below _ (s₁.setTop (mkF m 0 #[.val (.long q0), .second, .unset, .unset, .unset, .unset, .unset] []))
  refine own_step (fun _ k => XS.bipush X0.here hx rfl (hb hby own_d10_0) k) ?_
  show own_Ends p.tables e below _ (s₁.setTop (mkF m 2 #[.val (.long q0), .second, .unset, .unset, .unset, .unset, .unset] [(.int (10 : Int32))]))
  obtain ⟨T1, h1, k1, X1, e1, E1, A1, st1⟩ := newP X0 hx hZ (hw _ (List.mem_of_getElem? (i := 10) rfl)) e0 (g := (mkF m 2 #[.val (.long q0), .second, .unset, .unset, .unset, .unset, .unset] [(.int (10 : Int32))])) rfl (hb hby own_d10_2) rfl (by decide) (cap := 10) (by decide) (by decide) (by decide) (by decide)
  obtain ⟨b1, g1⟩ : ∃ z, z = h0.size := ⟨_, rfl⟩
  rw [← g1] at A1 st1
  refine own_step st1 ?_
  have g_b1 : n0 ≤ b1 := Nat.le_trans Z0 (Nat.le_of_eq g1.symm)
  have sz_b1 : h0.size ≤ b1 := Nat.le_trans K0.1 (Nat.le_of_eq g1.symm)
  have K_1 : Keep h0 h1 [] := K0.ext E1
  have Z_1 : n0 ≤ h1.size := Nat.le_trans Z0 E1.1
  have V_b1 : Arv Z h1 b1 k1 .byte (10 : Int32) (List.replicate 10 (.int (0 : Int32))) (.int (0 : Int32)) := (Arv.new A1 (by decide)).pad (pad_rep [] (.int (0 : Int32)) 10)
  show own_Ends p.tables e below _ (T1.setTop (mkF m 4 #[.val (.long q0), .second, .unset, .unset, .unset, .unset, .unset] [(.ref b1)]))
  refine own_step (fun _ k => XS.astoreN X1.here hx rfl (hb hby own_d10_4) rfl rfl (l' := #[.val (.long q0), .second, .val (.ref b1), .unset, .unset, .unset, .unset]) rfl k) ?_
  show own_Ends p.tables e below _ (T1.setTop (mkF m 5 #[.val (.long q0), .second, .val (.ref b1), .unset, .unset, .unset, .unset] []))
  refine own_step (fun _ k => XS.bipush X1.here hx rfl (hb hby own_d10_5) k) ?_
  show own_Ends p.tables e below _ (T1.setTop (mkF m 7 #[.val (.long q0), .second, .val (.ref b1), .unset, .unset, .unset, .unset] [(.int (10 : Int32))]))
  refine own_step (fun _ k => XS.istoreN X1.here hx rfl (hb hby own_d10_7) rfl (l' := #[.val (.long q0), .second, .val (.ref b1), .val (.int (10 : Int32)), .unset, .unset, .unset]) rfl k) ?_
  show own_Ends p.tables e below _ (T1.setTop (mkF m 8 #[.val (.long q0), .second, .val (.ref b1), .val (.int (10 : Int32)), .unset, .unset, .unset] []))
  refine own_step (fun _ k => XS.lloadN X1.here hx rfl (hb hby own_d10_8) rfl k) ?_
  show own_Ends p.tables e below _ (T1.setTop (mkF m 9 #[.val (.long q0), .second, .val (.ref b1), .val (.int (10 : Int32)), .unset, .unset, .unset] [(.long q0)]))
  refine own_step (fun _ k => XS.lstore X1.here hx rfl (hb hby own_d10_9) rfl (l' := #[.val (.long q0), .second, .val (.ref b1), .val (.int (10 : Int32)), .val (.long q0), .second, .unset]) rfl k) ?_
  show own_Ends p.tables e below _ (T1.setTop (mkF m 11 #[.val (.long q0), .second, .val (.ref b1), .val (.int (10 : Int32)), .val (.long q0), .second, .unset] []))
  have jn39 : ∀ (Tj39 : State) (loj39 : List Loc) (hj39 : Heap) (s0 : Nat) (rr : Int64) (w0 : List Value) (Xj39 : Stand p l e ({ frames := 1, cells := 2, slots := 20, locals := 18 } : Room) s m #[(.long q0)] below meth c Tj39 loj39 1 10) (ej39 : Tj39.heap = hj39) (Nj39 : Fr n0 loj39) (Kj39 : Keep h0 hj39 []) (Zj39 : n0 ≤ hj39.size) (V_b1_j39 : Arv Z hj39 b1 k1 .byte (10 : Int32) w0 (Value.int (0 : Int32))) (hs0 : s0 < 10) (hw0 : w0.length = 10), own_Ends p.tables e below (own_Q s (own_QEnc Z q0 h0 n0) ({ frames := 1, cells := 2, slots := 20, locals := 18 } : Room).cells ({ frames := 1, cells := 2, slots := 20, locals := 18 } : Room).slots) (Tj39.setTop (mkF m 39 #[.val (.long q0), .second, .val (.ref b1), .val (.int (Int32.ofNat s0)), .val (.long rr), .second, .unset] [])) := by
    intro Tj39 loj39 hj39 s0 rr w0 Xj39 ej39 Nj39 Kj39 Zj39 V_b1_j39 hs0 hw0
    refine own_step (fun _ k => XS.iloadN Xj39.here hx rfl (hb hby own_d10_39) rfl k) ?_
    show own_Ends p.tables e below _ (Tj39.setTop (mkF m 40 #[.val (.long q0), .second, .val (.ref b1), .val (.int (Int32.ofNat s0)), .val (.long rr), .second, .unset] [(.int (Int32.ofNat s0))]))
    refine own_step (fun _ k => XS.istore Xj39.here hx rfl (hb hby own_d10_40) rfl (l' := #[.val (.long q0), .second, .val (.ref b1), .val (.int (Int32.ofNat s0)), .val (.long rr), .second, .val (.int (Int32.ofNat s0))]) rfl k) ?_
    show own_Ends p.tables e below _ (Tj39.setTop (mkF m 42 #[.val (.long q0), .second, .val (.ref b1), .val (.int (Int32.ofNat s0)), .val (.long rr), .second, .val (.int (Int32.ofNat s0))] []))
    have jn42 : ∀ (kj : Nat) (Tj42 : State) (loj42 : List Loc) (hj42 : Heap) (i : Nat) (w1 : List Value) (Xj42 : Stand p l e ({ frames := 1, cells := 2, slots := 20, locals := 18 } : Room) s m #[(.long q0)] below meth c Tj42 loj42 1 10) (ej42 : Tj42.heap = hj42) (Nj42 : Fr n0 loj42) (Kj42 : Keep h0 hj42 []) (Zj42 : n0 ≤ hj42.size) (V_b1_j39_j42 : Arv Z hj42 b1 k1 .byte (10 : Int32) w1 (Value.int (0 : Int32))) (hi : i + kj = 9) (hw1 : w1.length = 10), own_Ends p.tables e below (own_Q s (own_QEnc Z q0 h0 n0) ({ frames := 1, cells := 2, slots := 20, locals := 18 } : Room).cells ({ frames := 1, cells := 2, slots := 20, locals := 18 } : Room).slots) (Tj42.setTop (mkF m 42 #[.val (.long q0), .second, .val (.ref b1), .val (.int (Int32.ofNat s0)), .val (.long rr), .second, .val (.int (Int32.ofNat i))] [])) := by
      intro kj
      induction kj with
      | zero =>
        intro Tj42 loj42 hj42 i w1 Xj42 ej42 Nj42 Kj42 Zj42 V_b1_j39_j42 hi hw1
        refine own_step (fun _ k => XS.iload Xj42.here hx rfl (hb hby own_d10_42) rfl k) ?_
        show own_Ends p.tables e below _ (Tj42.setTop (mkF m 44 #[.val (.long q0), .second, .val (.ref b1), .val (.int (Int32.ofNat s0)), .val (.long rr), .second, .val (.int (Int32.ofNat i))] [(.int (Int32.ofNat i))]))
        refine own_step (fun _ k => XS.bipush Xj42.here hx rfl (hb hby own_d10_44) k) ?_
        show own_Ends p.tables e below _ (Tj42.setTop (mkF m 46 #[.val (.long q0), .second, .val (.ref b1), .val (.int (Int32.ofNat s0)), .val (.long rr), .second, .val (.int (Int32.ofNat i))] [(.int (9 : Int32)), (.int (Int32.ofNat i))]))
        refine own_step (fun _ k => XS.icmpYes Xj42.here hx rfl (pc0 := 46) (pc' := 65) rfl (hb hby own_d10_46) rfl (flt (fun q => by have := (own_nlt (b := 9) (by omega) (by omega)).mp q; omega)).2.1 (by decide) (by decide) k) ?_
        show own_Ends p.tables e below _ (Tj42.setTop (mkF m 65 #[.val (.long q0), .second, .val (.ref b1), .val (.int (Int32.ofNat s0)), .val (.long rr), .second, .val (.int (Int32.ofNat i))] []))
        refine own_step (fun _ k => XS.bipush Xj42.here hx rfl (hb hby own_d10_65) k) ?_
        show own_Ends p.tables e below _ (Tj42.setTop (mkF m 67 #[.val (.long q0), .second, .val (.ref b1), .val (.int (Int32.ofNat s0)), .val (.long rr), .second, .val (.int (Int32.ofNat i))] [(.int (10 : Int32))]))
        refine own_step (fun _ k => XS.iloadN Xj42.here hx rfl (hb hby own_d10_67) rfl k) ?_
        show own_Ends p.tables e below _ (Tj42.setTop (mkF m 68 #[.val (.long q0), .second, .val (.ref b1), .val (.int (Int32.ofNat s0)), .val (.long rr), .second, .val (.int (Int32.ofNat i))] [(.int (Int32.ofNat s0)), (.int (10 : Int32))]))
        refine own_step (fun _ k => XS.isub Xj42.here hx rfl (hb hby own_d10_68) rfl k) ?_
        show own_Ends p.tables e below _ (Tj42.setTop (mkF m 69 #[.val (.long q0), .second, .val (.ref b1), .val (.int (Int32.ofNat s0)), .val (.long rr), .second, .val (.int (Int32.ofNat i))] [(.int ((10 : Int32) - (Int32.ofNat s0)))]))
        rw [show ((10 : Int32) - (Int32.ofNat s0)) = Int32.ofNat (10 - s0) from own_sub (a := 10) (by omega)]
        show own_Ends p.tables e below _ (Tj42.setTop (mkF m 69 #[.val (.long q0), .second, .val (.ref b1), .val (.int (Int32.ofNat s0)), .val (.long rr), .second, .val (.int (Int32.ofNat i))] [(.int (Int32.ofNat (10 - s0)))]))
        obtain ⟨T2, h2, k2, X2, e2, E2, A2, st2⟩ := newP Xj42 hx hZ (hw _ (List.mem_of_getElem? (i := 10) rfl)) ej42 (g := (mkF m 69 #[.val (.long q0), .second, .val (.ref b1), .val (.int (Int32.ofNat s0)), .val (.long rr), .second, .val (.int (Int32.ofNat i))] [(.int (Int32.ofNat (10 - s0)))])) rfl (hb hby own_d10_69) rfl (own_nn (by omega)) (cap := 10) (by rw [own_clamp (by omega)]; omega) (by decide) (by decide) (by decide)
        obtain ⟨b2, g2⟩ : ∃ z, z = hj42.size := ⟨_, rfl⟩
        rw [← g2] at A2 st2
        refine own_step st2 ?_
        have ne_b1_b2 : b1 ≠ b2 := Nat.ne_of_lt (Nat.lt_of_lt_of_le V_b1_j39_j42.lt (Nat.le_of_eq g2.symm))
        have g_b2 : n0 ≤ b2 := Nat.le_trans Zj42 (Nat.le_of_eq g2.symm)
        have sz_b2 : h0.size ≤ b2 := Nat.le_trans Kj42.1 (Nat.le_of_eq g2.symm)
        have V_b1_j39_j42_2 := V_b1_j39_j42.ext E2
        have K_2 : Keep h0 h2 [] := Kj42.ext E2
        have Z_2 : n0 ≤ h2.size := Nat.le_trans Zj42 E2.1
        have V_b2 : Arv Z h2 b2 k2 .byte (Int32.ofNat (10 - s0)) (List.replicate 10 (.int (0 : Int32))) (.int (0 : Int32)) := (Arv.new A2 (own_nn (by omega))).pad (pad_rep [] (.int (0 : Int32)) 10)
        show own_Ends p.tables e below _ (T2.setTop (mkF m 71 #[.val (.long q0), .second, .val (.ref b1), .val (.int (Int32.ofNat s0)), .val (.long rr), .second, .val (.int (Int32.ofNat i))] [(.ref b2)]))
        refine own_step (fun _ k => XS.astore X2.here hx rfl (hb hby own_d10_71) rfl rfl (l' := #[.val (.long q0), .second, .val (.ref b1), .val (.int (Int32.ofNat s0)), .val (.long rr), .second, .val (.ref b2)]) rfl k) ?_
        show own_Ends p.tables e below _ (T2.setTop (mkF m 73 #[.val (.long q0), .second, .val (.ref b1), .val (.int (Int32.ofNat s0)), .val (.long rr), .second, .val (.ref b2)] []))
        refine own_step (fun _ k => XS.aloadN X2.here hx rfl (hb hby own_d10_73) rfl rfl k) ?_
        show own_Ends p.tables e below _ (T2.setTop (mkF m 74 #[.val (.long q0), .second, .val (.ref b1), .val (.int (Int32.ofNat s0)), .val (.long rr), .second, .val (.ref b2)] [(.ref b1)]))
        refine own_step (fun _ k => XS.iloadN X2.here hx rfl (hb hby own_d10_74) rfl k) ?_
        show own_Ends p.tables e below _ (T2.setTop (mkF m 75 #[.val (.long q0), .second, .val (.ref b1), .val (.int (Int32.ofNat s0)), .val (.long rr), .second, .val (.ref b2)] [(.int (Int32.ofNat s0)), (.ref b1)]))
        refine own_step (fun _ k => XS.aload X2.here hx rfl (hb hby own_d10_75) rfl rfl k) ?_
        show own_Ends p.tables e below _ (T2.setTop (mkF m 77 #[.val (.long q0), .second, .val (.ref b1), .val (.int (Int32.ofNat s0)), .val (.long rr), .second, .val (.ref b2)] [(.ref b2), (.int (Int32.ofNat s0)), (.ref b1)]))
        refine own_step (fun _ k => XS.iconst X2.here hx rfl (hb hby own_d10_77) k) ?_
        show own_Ends p.tables e below _ (T2.setTop (mkF m 78 #[.val (.long q0), .second, .val (.ref b1), .val (.int (Int32.ofNat s0)), .val (.long rr), .second, .val (.ref b2)] [(.int (0 : Int32)), (.ref b2), (.int (Int32.ofNat s0)), (.ref b1)]))
        refine own_step (fun _ k => XS.aload X2.here hx rfl (hb hby own_d10_78) rfl rfl k) ?_
        show own_Ends p.tables e below _ (T2.setTop (mkF m 80 #[.val (.long q0), .second, .val (.ref b1), .val (.int (Int32.ofNat s0)), .val (.long rr), .second, .val (.ref b2)] [(.ref b2), (.int (0 : Int32)), (.ref b2), (.int (Int32.ofNat s0)), (.ref b1)]))
        obtain ⟨cl3, Ar3, q3, S3, Nn3, H3, G3⟩ := id V_b2
        refine own_step (fun _ k => X2.arraylength hx (by rw [e2]; exact Ar3.1) (State.isArrayOf_alike hZ.alike Ar3.2.1) (g := (mkF m 80 #[.val (.long q0), .second, .val (.ref b1), .val (.int (Int32.ofNat s0)), .val (.long rr), .second, .val (.ref b2)] [(.ref b2), (.int (0 : Int32)), (.ref b2), (.int (Int32.ofNat s0)), (.ref b1)])) rfl rfl (hb hby own_d10_80) _ k) ?_
        rw [len_of S3 Nn3]
        show own_Ends p.tables e below _ (T2.setTop (mkF m 81 #[.val (.long q0), .second, .val (.ref b1), .val (.int (Int32.ofNat s0)), .val (.long rr), .second, .val (.ref b2)] [(.int (Int32.ofNat (10 - s0))), (.int (0 : Int32)), (.ref b2), (.int (Int32.ofNat s0)), (.ref b1)]))
        obtain ⟨T4, h4, L4, X4, e4, N_4, k4, V_b2_4, st4⟩ := cpA X2 hx hZ hown (hw _ (List.mem_of_getElem? (i := 72) rfl)) (hw _ (List.mem_of_getElem? (i := 22) rfl)) (hw _ (List.mem_of_getElem? (i := 20) rfl)) (hw _ (List.mem_of_getElem? (i := 21) rfl)) e2 V_b1_j39_j42_2 V_b2 (Or.inl ⟨rfl, rfl⟩) (us := _) (own_nn (by omega)) (by decide) (own_nn (by omega)) (by rw [own_clamp (by omega), own_clamp (by omega)]; show s0 + (10 - s0) ≤ 10; omega) (by rw [own_clamp (by omega)]; show 0 + (10 - s0) ≤ 10 - s0; omega) rfl (by rw [own_clamp (by omega)]; simp only [List.length_replicate]; show 0 + (10 - s0) ≤ 10; omega) Nj42 g_b2 (g := (mkF m 81 #[.val (.long q0), .second, .val (.ref b1), .val (.int (Int32.ofNat s0)), .val (.long rr), .second, .val (.ref b2)] [(.int (Int32.ofNat (10 - s0))), (.int (0 : Int32)), (.ref b2), (.int (Int32.ofNat s0)), (.ref b1)])) rfl (by rw [hml]; rfl) rfl (hb hby own_d10_81) (by decide) (W := 0) (by show 2 * 0 + _ ≤ _; exact Nat.le_of_eq rfl) (by decide)
        refine own_step st4 ?_
        have V_b1_j39_j42_4 := V_b1_j39_j42_2.keep k4 (ninS ne_b1_b2 nin0)
        have K_4 : Keep h0 h4 [] := K_2.trans k4 (allS (Or.inr sz_b2) all0)
        have Z_4 : n0 ≤ h4.size := Nat.le_trans Z_2 k4.1
        show own_Ends p.tables e below _ (T4.setTop (mkF m 84 #[.val (.long q0), .second, .val (.ref b1), .val (.int (Int32.ofNat s0)), .val (.long rr), .second, .val (.ref b2)] []))
        refine own_step (fun _ k => XS.aload X4.here hx rfl (hb hby own_d10_84) rfl rfl k) ?_
        show own_Ends p.tables e below _ (T4.setTop (mkF m 86 #[.val (.long q0), .second, .val (.ref b1), .val (.int (Int32.ofNat s0)), .val (.long rr), .second, .val (.ref b2)] [(.ref b2)]))
        exact own_retA X4 hx hlk (by decide) (by decide) Bd.returns rfl rfl (hb hby own_d10_86) (by rw [e4]; exact ⟨_, _, (10 - s0), _, rfl, N_4, K_4, g_b2, sz_b2, by omega, by omega, V_b2_4, fun u => absurd u hq⟩)
      | succ kj ih =>
        intro Tj42 loj42 hj42 i w1 Xj42 ej42 Nj42 Kj42 Zj42 V_b1_j39_j42 hi hw1
        refine own_step (fun _ k => XS.iload Xj42.here hx rfl (hb hby own_d10_42) rfl k) ?_
        show own_Ends p.tables e below _ (Tj42.setTop (mkF m 44 #[.val (.long q0), .second, .val (.ref b1), .val (.int (Int32.ofNat s0)), .val (.long rr), .second, .val (.int (Int32.ofNat i))] [(.int (Int32.ofNat i))]))
        refine own_step (fun _ k => XS.bipush Xj42.here hx rfl (hb hby own_d10_44) k) ?_
        show own_Ends p.tables e below _ (Tj42.setTop (mkF m 46 #[.val (.long q0), .second, .val (.ref b1), .val (.int (Int32.ofNat s0)), .val (.long rr), .second, .val (.int (Int32.ofNat i))] [(.int (9 : Int32)), (.int (Int32.ofNat i))]))
        refine own_step (fun _ k => XS.icmpNo Xj42.here hx rfl (hb hby own_d10_46) rfl (tlt ((own_nlt (b := 9) (by omega) (by omega)).mpr (by omega))).2.1 k) ?_
        show own_Ends p.tables e below _ (Tj42.setTop (mkF m 49 #[.val (.long q0), .second, .val (.ref b1), .val (.int (Int32.ofNat s0)), .val (.long rr), .second, .val (.int (Int32.ofNat i))] []))
        refine own_step (fun _ k => XS.aloadN Xj42.here hx rfl (hb hby own_d10_49) rfl rfl k) ?_
        show own_Ends p.tables e below _ (Tj42.setTop (mkF m 50 #[.val (.long q0), .second, .val (.ref b1), .val (.int (Int32.ofNat s0)), .val (.long rr), .second, .val (.int (Int32.ofNat i))] [(.ref b1)]))
        refine own_step (fun _ k => XS.iload Xj42.here hx rfl (hb hby own_d10_50) rfl k) ?_
        show own_Ends p.tables e below _ (Tj42.setTop (mkF m 52 #[.val (.long q0), .second, .val (.ref b1), .val (.int (Int32.ofNat s0)), .val (.long rr), .second, .val (.int (Int32.ofNat i))] [(.int (Int32.ofNat i)), (.ref b1)]))
        refine own_step (fun _ k => XT.dup2 Xj42.here hx rfl (hb hby own_d10_52) rfl rfl rfl k) ?_
        show own_Ends p.tables e below _ (Tj42.setTop (mkF m 53 #[.val (.long q0), .second, .val (.ref b1), .val (.int (Int32.ofNat s0)), .val (.long rr), .second, .val (.int (Int32.ofNat i))] [(.int (Int32.ofNat i)), (.ref b1), (.int (Int32.ofNat i)), (.ref b1)]))
        obtain ⟨xb, hxb⟩ := own_byte_at V_b1_j39_j42 i (by show i < 10; omega)
        obtain ⟨cl5, Ar5, q5, S5, Nn5, H5, G5⟩ := id V_b1_j39_j42
        have hin5 : ¬ ((Int32.ofNat i) < 0 ∨ cl5.slots.size ≤ ((Int32.ofNat i)).toNatClampNeg) := inb_of S5 ⟨(own_nn (by omega)), ((own_nlt (b := 10) (by omega) (by omega)).mpr (by omega))⟩
        have hat5 : cl5.slots[((Int32.ofNat i)).toNatClampNeg]? = some (.int xb) := H5.at hin5 (by rw [own_clamp (by omega)]; exact hxb)
        refine own_step (fun _ k => Xj42.baloadBytes hx (j := (Int32.ofNat i)) (v := (.int xb)) (by rw [ej42]; exact Ar5.1) (State.isArrayOf_alike hZ.alike Ar5.2.1) Ar5.2.2 hin5 hat5 (g := (mkF m 53 #[.val (.long q0), .second, .val (.ref b1), .val (.int (Int32.ofNat s0)), .val (.long rr), .second, .val (.int (Int32.ofNat i))] [(.int (Int32.ofNat i)), (.ref b1), (.int (Int32.ofNat i)), (.ref b1)])) rfl rfl (hb hby own_d10_53) _ k) ?_
        show own_Ends p.tables e below _ (Tj42.setTop (mkF m 54 #[.val (.long q0), .second, .val (.ref b1), .val (.int (Int32.ofNat s0)), .val (.long rr), .second, .val (.int (Int32.ofNat i))] [(.int xb), (.int (Int32.ofNat i)), (.ref b1)]))
        refine own_step (fun _ k => XS.bipush Xj42.here hx rfl (hb hby own_d10_54) k) ?_
        show own_Ends p.tables e below _ (Tj42.setTop (mkF m 56 #[.val (.long q0), .second, .val (.ref b1), .val (.int (Int32.ofNat s0)), .val (.long rr), .second, .val (.int (Int32.ofNat i))] [(.int (-128 : Int32)), (.int xb), (.int (Int32.ofNat i)), (.ref b1)]))
        refine own_step (fun _ k => XS.ior Xj42.here hx rfl (hb hby own_d10_56) rfl k) ?_
        show own_Ends p.tables e below _ (Tj42.setTop (mkF m 57 #[.val (.long q0), .second, .val (.ref b1), .val (.int (Int32.ofNat s0)), .val (.long rr), .second, .val (.int (Int32.ofNat i))] [(.int (xb ||| (-128 : Int32))), (.int (Int32.ofNat i)), (.ref b1)]))
        refine own_step (fun _ k => XS.i2b Xj42.here hx rfl (hb hby own_d10_57) rfl k) ?_
        show own_Ends p.tables e below _ (Tj42.setTop (mkF m 58 #[.val (.long q0), .second, .val (.ref b1), .val (.int (Int32.ofNat s0)), .val (.long rr), .second, .val (.int (Int32.ofNat i))] [(.int ((xb ||| (-128 : Int32)).toInt8.toInt32)), (.int (Int32.ofNat i)), (.ref b1)]))
        obtain ⟨cl6, Ar6, q6, S6, Nn6, H6, G6⟩ := id V_b1_j39_j42
        have hin6 : ¬ ((Int32.ofNat i) < 0 ∨ cl6.slots.size ≤ ((Int32.ofNat i)).toNatClampNeg) := inb_of S6 ⟨(own_nn (by omega)), ((own_nlt (b := 10) (by omega) (by omega)).mpr (by omega))⟩
        obtain ⟨T6, h6, X6, e6, W6, st6⟩ := stB Xj42 hx hZ ej42 Ar6 (j := (Int32.ofNat i)) hin6 (g := (mkF m 58 #[.val (.long q0), .second, .val (.ref b1), .val (.int (Int32.ofNat s0)), .val (.long rr), .second, .val (.int (Int32.ofNat i))] [(.int ((xb ||| (-128 : Int32)).toInt8.toInt32)), (.int (Int32.ofNat i)), (.ref b1)])) rfl rfl (hb hby own_d10_58)
        refine own_step st6 ?_
        have K_6 : Keep h0 h6 [] := Kj42.wr W6 (Or.inr sz_b1)
        have Z_6 : n0 ≤ h6.size := Nat.le_trans Zj42 (Keep.of_wr W6).1
        have N_6 := Fr.snoc X6 Nj42 g_b1
        have V_b1_6 : Arv Z h6 b1 k1 .byte (10 : Int32) (w1.set i (.int (nar .byte ((xb ||| (-128 : Int32)).toInt8.toInt32)))) (Value.int (0 : Int32)) := Arv.set Ar6 q6 S6 Nn6 H6 G6 (fits_nar_byte _) W6 i (own_clamp (by omega)) (by omega)
        show own_Ends p.tables e below _ (T6.setTop (mkF m 59 #[.val (.long q0), .second, .val (.ref b1), .val (.int (Int32.ofNat s0)), .val (.long rr), .second, .val (.int (Int32.ofNat i))] []))
        refine own_step (fun _ k => XS.iinc X6.here hx rfl (hb hby own_d10_59) rfl (l' := #[.val (.long q0), .second, .val (.ref b1), .val (.int (Int32.ofNat s0)), .val (.long rr), .second, .val (.int ((Int32.ofNat i) + (1 : Int32)))]) rfl k) ?_
        show own_Ends p.tables e below _ (T6.setTop (mkF m 62 #[.val (.long q0), .second, .val (.ref b1), .val (.int (Int32.ofNat s0)), .val (.long rr), .second, .val (.int ((Int32.ofNat i) + (1 : Int32)))] []))
        rw [show (Int32.ofNat i) + (1 : Int32) = Int32.ofNat (i + 1) from own_inc i]
        show own_Ends p.tables e below _ (T6.setTop (mkF m 62 #[.val (.long q0), .second, .val (.ref b1), .val (.int (Int32.ofNat s0)), .val (.long rr), .second, .val (.int (Int32.ofNat (i + 1)))] []))
        refine own_step (fun _ k => XS.goto X6.here hx rfl (pc0 := 62) (pc' := 42) rfl (hb hby own_d10_62) (by decide) (by decide) k) ?_
        show own_Ends p.tables e below _ (T6.setTop (mkF m 42 #[.val (.long q0), .second, .val (.ref b1), .val (.int (Int32.ofNat s0)), .val (.long rr), .second, .val (.int (Int32.ofNat (i + 1)))] []))
        exact ih _ _ _ (i + 1) (w1.set i (.int (nar .byte ((xb ||| (-128 : Int32)).toInt8.toInt32)))) X6 e6 N_6 K_6 Z_6 V_b1_6 (by omega) (by rw [List.length_set]; exact hw1)
    show own_Ends p.tables e below _ (Tj39.setTop (mkF m 42 #[.val (.long q0), .second, .val (.ref b1), .val (.int (Int32.ofNat s0)), .val (.long rr), .second, .val (.int (Int32.ofNat s0))] []))
    exact jn42 (9 - s0) _ _ _ s0 w0 Xj39 ej39 Nj39 Kj39 Zj39 V_b1_j39 (by omega) hw0
  show own_Ends p.tables e below _ (T1.setTop (mkF m 11 #[.val (.long q0), .second, .val (.ref b1), .val (.int (10 : Int32)), .val (.long q0), .second, .unset] []))
  have jn11 : ∀ (kk : Nat) (Tj11 : State) (loj11 : List Loc) (hj11 : Heap) (rr : Int64) (vv : List Value) (Xj11 : Stand p l e ({ frames := 1, cells := 2, slots := 20, locals := 18 } : Room) s m #[(.long q0)] below meth c Tj11 loj11 1 10) (ej11 : Tj11.heap = hj11) (Nj11 : Fr n0 loj11) (Kj11 : Keep h0 hj11 []) (Zj11 : n0 ≤ hj11.size) (V_b1_j11 : Arv Z hj11 b1 k1 .byte (10 : Int32) vv (Value.int (0 : Int32))) (hkk : kk < 10) (hrr : rr.toUInt64.toNat < 128 ^ (kk + 1)) (hvv : vv.length = 10), own_Ends p.tables e below (own_Q s (own_QEnc Z q0 h0 n0) ({ frames := 1, cells := 2, slots := 20, locals := 18 } : Room).cells ({ frames := 1, cells := 2, slots := 20, locals := 18 } : Room).slots) (Tj11.setTop (mkF m 11 #[.val (.long q0), .second, .val (.ref b1), .val (.int (Int32.ofNat (kk + 1))), .val (.long rr), .second, .unset] [])) := by
    intro kk
    induction kk with
    | zero =>
      intro Tj11 loj11 hj11 rr vv Xj11 ej11 Nj11 Kj11 Zj11 V_b1_j11 hkk hrr hvv
      refine own_step (fun _ k => XS.iinc Xj11.here hx rfl (hb hby own_d10_11) rfl (l' := #[.val (.long q0), .second, .val (.ref b1), .val (.int ((Int32.ofNat (0 + 1)) + (-1 : Int32))), .val (.long rr), .second, .unset]) rfl k) ?_
      show own_Ends p.tables e below _ (Tj11.setTop (mkF m 14 #[.val (.long q0), .second, .val (.ref b1), .val (.int ((Int32.ofNat (0 + 1)) + (-1 : Int32))), .val (.long rr), .second, .unset] []))
      rw [show ((Int32.ofNat (0 + 1)) + (-1 : Int32)) = Int32.ofNat 0 from own_dec 0]
      show own_Ends p.tables e below _ (Tj11.setTop (mkF m 14 #[.val (.long q0), .second, .val (.ref b1), .val (.int (Int32.ofNat 0)), .val (.long rr), .second, .unset] []))
      refine own_step (fun _ k => XS.aloadN Xj11.here hx rfl (hb hby own_d10_14) rfl rfl k) ?_
      show own_Ends p.tables e below _ (Tj11.setTop (mkF m 15 #[.val (.long q0), .second, .val (.ref b1), .val (.int (Int32.ofNat 0)), .val (.long rr), .second, .unset] [(.ref b1)]))
      refine own_step (fun _ k => XS.iloadN Xj11.here hx rfl (hb hby own_d10_15) rfl k) ?_
      show own_Ends p.tables e below _ (Tj11.setTop (mkF m 16 #[.val (.long q0), .second, .val (.ref b1), .val (.int (Int32.ofNat 0)), .val (.long rr), .second, .unset] [(.int (Int32.ofNat 0)), (.ref b1)]))
      refine own_step (fun _ k => XS.lload Xj11.here hx rfl (hb hby own_d10_16) rfl k) ?_
      show own_Ends p.tables e below _ (Tj11.setTop (mkF m 18 #[.val (.long q0), .second, .val (.ref b1), .val (.int (Int32.ofNat 0)), .val (.long rr), .second, .unset] [(.long rr), (.int (Int32.ofNat 0)), (.ref b1)]))
      refine own_step (fun _ k => Xj11.ldc2Long hx hown (mvT hZ (hw _ (List.mem_of_getElem? (i := 71) rfl))) (g := (mkF m 18 #[.val (.long q0), .second, .val (.ref b1), .val (.int (Int32.ofNat 0)), .val (.long rr), .second, .unset] [(.long rr), (.int (Int32.ofNat 0)), (.ref b1)])) rfl (hb hby own_d10_18) _ k) ?_
      show own_Ends p.tables e below _ (Tj11.setTop (mkF m 21 #[.val (.long q0), .second, .val (.ref b1), .val (.int (Int32.ofNat 0)), .val (.long rr), .second, .unset] [(.long (127 : Int64)), (.long rr), (.int (Int32.ofNat 0)), (.ref b1)]))
      refine own_step (fun _ k => XS.land Xj11.here hx rfl (hb hby own_d10_21) rfl k) ?_
      show own_Ends p.tables e below _ (Tj11.setTop (mkF m 22 #[.val (.long q0), .second, .val (.ref b1), .val (.int (Int32.ofNat 0)), .val (.long rr), .second, .unset] [(.long (rr &&& (127 : Int64))), (.int (Int32.ofNat 0)), (.ref b1)]))
      refine own_step (fun _ k => XS.l2i Xj11.here hx rfl (hb hby own_d10_22) rfl k) ?_
      show own_Ends p.tables e below _ (Tj11.setTop (mkF m 23 #[.val (.long q0), .second, .val (.ref b1), .val (.int (Int32.ofNat 0)), .val (.long rr), .second, .unset] [(.int ((rr &&& (127 : Int64)).toInt32)), (.int (Int32.ofNat 0)), (.ref b1)]))
      refine own_step (fun _ k => XS.i2b Xj11.here hx rfl (hb hby own_d10_23) rfl k) ?_
      show own_Ends p.tables e below _ (Tj11.setTop (mkF m 24 #[.val (.long q0), .second, .val (.ref b1), .val (.int (Int32.ofNat 0)), .val (.long rr), .second, .unset] [(.int (((rr &&& (127 : Int64)).toInt32).toInt8.toInt32)), (.int (Int32.ofNat 0)), (.ref b1)]))
      obtain ⟨cl7, Ar7, q7, S7, Nn7, H7, G7⟩ := id V_b1_j11
      have hin7 : ¬ ((Int32.ofNat 0) < 0 ∨ cl7.slots.size ≤ ((Int32.ofNat 0)).toNatClampNeg) := inb_of S7 ⟨(own_nn (by omega)), ((own_nlt (b := 10) (by omega) (by omega)).mpr (by omega))⟩
      obtain ⟨T7, h7, X7, e7, W7, st7⟩ := stB Xj11 hx hZ ej11 Ar7 (j := (Int32.ofNat 0)) hin7 (g := (mkF m 24 #[.val (.long q0), .second, .val (.ref b1), .val (.int (Int32.ofNat 0)), .val (.long rr), .second, .unset] [(.int (((rr &&& (127 : Int64)).toInt32).toInt8.toInt32)), (.int (Int32.ofNat 0)), (.ref b1)])) rfl rfl (hb hby own_d10_24)
      refine own_step st7 ?_
      have K_7 : Keep h0 h7 [] := Kj11.wr W7 (Or.inr sz_b1)
      have Z_7 : n0 ≤ h7.size := Nat.le_trans Zj11 (Keep.of_wr W7).1
      have N_7 := Fr.snoc X7 Nj11 g_b1
      have V_b1_7 : Arv Z h7 b1 k1 .byte (10 : Int32) (vv.set 0 (.int (nar .byte (((rr &&& (127 : Int64)).toInt32).toInt8.toInt32)))) (Value.int (0 : Int32)) := Arv.set Ar7 q7 S7 Nn7 H7 G7 (fits_nar_byte _) W7 0 (own_clamp (by omega)) (by omega)
      show own_Ends p.tables e below _ (T7.setTop (mkF m 25 #[.val (.long q0), .second, .val (.ref b1), .val (.int (Int32.ofNat 0)), .val (.long rr), .second, .unset] []))
      refine own_step (fun _ k => XS.lload X7.here hx rfl (hb hby own_d10_25) rfl k) ?_
      show own_Ends p.tables e below _ (T7.setTop (mkF m 27 #[.val (.long q0), .second, .val (.ref b1), .val (.int (Int32.ofNat 0)), .val (.long rr), .second, .unset] [(.long rr)]))
      refine own_step (fun _ k => XS.bipush X7.here hx rfl (hb hby own_d10_27) k) ?_
      show own_Ends p.tables e below _ (T7.setTop (mkF m 29 #[.val (.long q0), .second, .val (.ref b1), .val (.int (Int32.ofNat 0)), .val (.long rr), .second, .unset] [(.int (7 : Int32)), (.long rr)]))
      refine own_step (fun _ k => XS.lushr X7.here hx rfl (hb hby own_d10_29) rfl k) ?_
      show own_Ends p.tables e below _ (T7.setTop (mkF m 30 #[.val (.long q0), .second, .val (.ref b1), .val (.int (Int32.ofNat 0)), .val (.long rr), .second, .unset] [(.long ((rr.toUInt64 >>> ((7 : Int32) &&& 0x3f).toInt64.toUInt64).toInt64))]))
      refine own_step (fun _ k => XS.lstore X7.here hx rfl (hb hby own_d10_30) rfl (l' := #[.val (.long q0), .second, .val (.ref b1), .val (.int (Int32.ofNat 0)), .val (.long ((rr.toUInt64 >>> ((7 : Int32) &&& 0x3f).toInt64.toUInt64).toInt64)), .second, .unset]) rfl k) ?_
      show own_Ends p.tables e below _ (T7.setTop (mkF m 32 #[.val (.long q0), .second, .val (.ref b1), .val (.int (Int32.ofNat 0)), .val (.long ((rr.toUInt64 >>> ((7 : Int32) &&& 0x3f).toInt64.toUInt64).toInt64)), .second, .unset] []))
      refine own_step (fun _ k => XS.lload X7.here hx rfl (hb hby own_d10_32) rfl k) ?_
      show own_Ends p.tables e below _ (T7.setTop (mkF m 34 #[.val (.long q0), .second, .val (.ref b1), .val (.int (Int32.ofNat 0)), .val (.long ((rr.toUInt64 >>> ((7 : Int32) &&& 0x3f).toInt64.toUInt64).toInt64)), .second, .unset] [(.long ((rr.toUInt64 >>> ((7 : Int32) &&& 0x3f).toInt64.toUInt64).toInt64))]))
      refine own_step (fun _ k => XS.lconst X7.here hx rfl (hb hby own_d10_34) k) ?_
      show own_Ends p.tables e below _ (T7.setTop (mkF m 35 #[.val (.long q0), .second, .val (.ref b1), .val (.int (Int32.ofNat 0)), .val (.long ((rr.toUInt64 >>> ((7 : Int32) &&& 0x3f).toInt64.toUInt64).toInt64)), .second, .unset] [(.long (0 : Int64)), (.long ((rr.toUInt64 >>> ((7 : Int32) &&& 0x3f).toInt64.toUInt64).toInt64))]))
      refine own_step (fun _ k => XS.lcmp X7.here hx rfl (hb hby own_d10_35) rfl k) ?_
      show own_Ends p.tables e below _ (T7.setTop (mkF m 36 #[.val (.long q0), .second, .val (.ref b1), .val (.int (Int32.ofNat 0)), .val (.long ((rr.toUInt64 >>> ((7 : Int32) &&& 0x3f).toInt64.toUInt64).toInt64)), .second, .unset] [(.int (lcmpW ((rr.toUInt64 >>> ((7 : Int32) &&& 0x3f).toInt64.toUInt64).toInt64) (0 : Int64)))]))
      refine own_step (fun _ k => XS.ifNo X7.here hx rfl (hb hby own_d10_36) rfl ((if0 _ _).trans (teq ((own_lc_eq _ _).mpr (own_sr7_0 rr (by simpa using hrr)))).2) k) ?_
      show own_Ends p.tables e below _ (T7.setTop (mkF m 39 #[.val (.long q0), .second, .val (.ref b1), .val (.int (Int32.ofNat 0)), .val (.long ((rr.toUInt64 >>> ((7 : Int32) &&& 0x3f).toInt64.toUInt64).toInt64)), .second, .unset] []))
      exact jn39 _ _ _ 0 ((rr.toUInt64 >>> ((7 : Int32) &&& 0x3f).toInt64.toUInt64).toInt64) (vv.set 0 (.int (nar .byte (((rr &&& (127 : Int64)).toInt32).toInt8.toInt32)))) X7 e7 N_7 K_7 Z_7 V_b1_7 (by omega) (by rw [List.length_set]; exact hvv)
    | succ kk ih =>
      intro Tj11 loj11 hj11 rr vv Xj11 ej11 Nj11 Kj11 Zj11 V_b1_j11 hkk hrr hvv
      refine own_step (fun _ k => XS.iinc Xj11.here hx rfl (hb hby own_d10_11) rfl (l' := #[.val (.long q0), .second, .val (.ref b1), .val (.int ((Int32.ofNat ((kk + 1) + 1)) + (-1 : Int32))), .val (.long rr), .second, .unset]) rfl k) ?_
      show own_Ends p.tables e below _ (Tj11.setTop (mkF m 14 #[.val (.long q0), .second, .val (.ref b1), .val (.int ((Int32.ofNat ((kk + 1) + 1)) + (-1 : Int32))), .val (.long rr), .second, .unset] []))
      rw [show ((Int32.ofNat ((kk + 1) + 1)) + (-1 : Int32)) = Int32.ofNat (kk + 1) from own_dec (kk + 1)]
      show own_Ends p.tables e below _ (Tj11.setTop (mkF m 14 #[.val (.long q0), .second, .val (.ref b1), .val (.int (Int32.ofNat (kk + 1))), .val (.long rr), .second, .unset] []))
      refine own_step (fun _ k => XS.aloadN Xj11.here hx rfl (hb hby own_d10_14) rfl rfl k) ?_
      show own_Ends p.tables e below _ (Tj11.setTop (mkF m 15 #[.val (.long q0), .second, .val (.ref b1), .val (.int (Int32.ofNat (kk + 1))), .val (.long rr), .second, .unset] [(.ref b1)]))
      refine own_step (fun _ k => XS.iloadN Xj11.here hx rfl (hb hby own_d10_15) rfl k) ?_
      show own_Ends p.tables e below _ (Tj11.setTop (mkF m 16 #[.val (.long q0), .second, .val (.ref b1), .val (.int (Int32.ofNat (kk + 1))), .val (.long rr), .second, .unset] [(.int (Int32.ofNat (kk + 1))), (.ref b1)]))
      refine own_step (fun _ k => XS.lload Xj11.here hx rfl (hb hby own_d10_16) rfl k) ?_
      show own_Ends p.tables e below _ (Tj11.setTop (mkF m 18 #[.val (.long q0), .second, .val (.ref b1), .val (.int (Int32.ofNat (kk + 1))), .val (.long rr), .second, .unset] [(.long rr), (.int (Int32.ofNat (kk + 1))), (.ref b1)]))
      refine own_step (fun _ k => Xj11.ldc2Long hx hown (mvT hZ (hw _ (List.mem_of_getElem? (i := 71) rfl))) (g := (mkF m 18 #[.val (.long q0), .second, .val (.ref b1), .val (.int (Int32.ofNat (kk + 1))), .val (.long rr), .second, .unset] [(.long rr), (.int (Int32.ofNat (kk + 1))), (.ref b1)])) rfl (hb hby own_d10_18) _ k) ?_
      show own_Ends p.tables e below _ (Tj11.setTop (mkF m 21 #[.val (.long q0), .second, .val (.ref b1), .val (.int (Int32.ofNat (kk + 1))), .val (.long rr), .second, .unset] [(.long (127 : Int64)), (.long rr), (.int (Int32.ofNat (kk + 1))), (.ref b1)]))
      refine own_step (fun _ k => XS.land Xj11.here hx rfl (hb hby own_d10_21) rfl k) ?_
      show own_Ends p.tables e below _ (Tj11.setTop (mkF m 22 #[.val (.long q0), .second, .val (.ref b1), .val (.int (Int32.ofNat (kk + 1))), .val (.long rr), .second, .unset] [(.long (rr &&& (127 : Int64))), (.int (Int32.ofNat (kk + 1))), (.ref b1)]))
      refine own_step (fun _ k => XS.l2i Xj11.here hx rfl (hb hby own_d10_22) rfl k) ?_
      show own_Ends p.tables e below _ (Tj11.setTop (mkF m 23 #[.val (.long q0), .second, .val (.ref b1), .val (.int (Int32.ofNat (kk + 1))), .val (.long rr), .second, .unset] [(.int ((rr &&& (127 : Int64)).toInt32)), (.int (Int32.ofNat (kk + 1))), (.ref b1)]))
      refine own_step (fun _ k => XS.i2b Xj11.here hx rfl (hb hby own_d10_23) rfl k) ?_
      show own_Ends p.tables e below _ (Tj11.setTop (mkF m 24 #[.val (.long q0), .second, .val (.ref b1), .val (.int (Int32.ofNat (kk + 1))), .val (.long rr), .second, .unset] [(.int (((rr &&& (127 : Int64)).toInt32).toInt8.toInt32)), (.int (Int32.ofNat (kk + 1))), (.ref b1)]))
      obtain ⟨cl8, Ar8, q8, S8, Nn8, H8, G8⟩ := id V_b1_j11
      have hin8 : ¬ ((Int32.ofNat (kk + 1)) < 0 ∨ cl8.slots.size ≤ ((Int32.ofNat (kk + 1))).toNatClampNeg) := inb_of S8 ⟨(own_nn (by omega)), ((own_nlt (b := 10) (by omega) (by omega)).mpr (by omega))⟩
      obtain ⟨T8, h8, X8, e8, W8, st8⟩ := stB Xj11 hx hZ ej11 Ar8 (j := (Int32.ofNat (kk + 1))) hin8 (g := (mkF m 24 #[.val (.long q0), .second, .val (.ref b1), .val (.int (Int32.ofNat (kk + 1))), .val (.long rr), .second, .unset] [(.int (((rr &&& (127 : Int64)).toInt32).toInt8.toInt32)), (.int (Int32.ofNat (kk + 1))), (.ref b1)])) rfl rfl (hb hby own_d10_24)
      refine own_step st8 ?_
      have K_8 : Keep h0 h8 [] := Kj11.wr W8 (Or.inr sz_b1)
      have Z_8 : n0 ≤ h8.size := Nat.le_trans Zj11 (Keep.of_wr W8).1
      have N_8 := Fr.snoc X8 Nj11 g_b1
      have V_b1_8 : Arv Z h8 b1 k1 .byte (10 : Int32) (vv.set (kk + 1) (.int (nar .byte (((rr &&& (127 : Int64)).toInt32).toInt8.toInt32)))) (Value.int (0 : Int32)) := Arv.set Ar8 q8 S8 Nn8 H8 G8 (fits_nar_byte _) W8 (kk + 1) (own_clamp (by omega)) (by omega)
      show own_Ends p.tables e below _ (T8.setTop (mkF m 25 #[.val (.long q0), .second, .val (.ref b1), .val (.int (Int32.ofNat (kk + 1))), .val (.long rr), .second, .unset] []))
      refine own_step (fun _ k => XS.lload X8.here hx rfl (hb hby own_d10_25) rfl k) ?_
      show own_Ends p.tables e below _ (T8.setTop (mkF m 27 #[.val (.long q0), .second, .val (.ref b1), .val (.int (Int32.ofNat (kk + 1))), .val (.long rr), .second, .unset] [(.long rr)]))
      refine own_step (fun _ k => XS.bipush X8.here hx rfl (hb hby own_d10_27) k) ?_
      show own_Ends p.tables e below _ (T8.setTop (mkF m 29 #[.val (.long q0), .second, .val (.ref b1), .val (.int (Int32.ofNat (kk + 1))), .val (.long rr), .second, .unset] [(.int (7 : Int32)), (.long rr)]))
      refine own_step (fun _ k => XS.lushr X8.here hx rfl (hb hby own_d10_29) rfl k) ?_
      show own_Ends p.tables e below _ (T8.setTop (mkF m 30 #[.val (.long q0), .second, .val (.ref b1), .val (.int (Int32.ofNat (kk + 1))), .val (.long rr), .second, .unset] [(.long ((rr.toUInt64 >>> ((7 : Int32) &&& 0x3f).toInt64.toUInt64).toInt64))]))
      refine own_step (fun _ k => XS.lstore X8.here hx rfl (hb hby own_d10_30) rfl (l' := #[.val (.long q0), .second, .val (.ref b1), .val (.int (Int32.ofNat (kk + 1))), .val (.long ((rr.toUInt64 >>> ((7 : Int32) &&& 0x3f).toInt64.toUInt64).toInt64)), .second, .unset]) rfl k) ?_
      show own_Ends p.tables e below _ (T8.setTop (mkF m 32 #[.val (.long q0), .second, .val (.ref b1), .val (.int (Int32.ofNat (kk + 1))), .val (.long ((rr.toUInt64 >>> ((7 : Int32) &&& 0x3f).toInt64.toUInt64).toInt64)), .second, .unset] []))
      refine own_step (fun _ k => XS.lload X8.here hx rfl (hb hby own_d10_32) rfl k) ?_
      show own_Ends p.tables e below _ (T8.setTop (mkF m 34 #[.val (.long q0), .second, .val (.ref b1), .val (.int (Int32.ofNat (kk + 1))), .val (.long ((rr.toUInt64 >>> ((7 : Int32) &&& 0x3f).toInt64.toUInt64).toInt64)), .second, .unset] [(.long ((rr.toUInt64 >>> ((7 : Int32) &&& 0x3f).toInt64.toUInt64).toInt64))]))
      refine own_step (fun _ k => XS.lconst X8.here hx rfl (hb hby own_d10_34) k) ?_
      show own_Ends p.tables e below _ (T8.setTop (mkF m 35 #[.val (.long q0), .second, .val (.ref b1), .val (.int (Int32.ofNat (kk + 1))), .val (.long ((rr.toUInt64 >>> ((7 : Int32) &&& 0x3f).toInt64.toUInt64).toInt64)), .second, .unset] [(.long (0 : Int64)), (.long ((rr.toUInt64 >>> ((7 : Int32) &&& 0x3f).toInt64.toUInt64).toInt64))]))
      refine own_step (fun _ k => XS.lcmp X8.here hx rfl (hb hby own_d10_35) rfl k) ?_
      show own_Ends p.tables e below _ (T8.setTop (mkF m 36 #[.val (.long q0), .second, .val (.ref b1), .val (.int (Int32.ofNat (kk + 1))), .val (.long ((rr.toUInt64 >>> ((7 : Int32) &&& 0x3f).toInt64.toUInt64).toInt64)), .second, .unset] [(.int (lcmpW ((rr.toUInt64 >>> ((7 : Int32) &&& 0x3f).toInt64.toUInt64).toInt64) (0 : Int64)))]))
      by_cases hc36 : ((rr.toUInt64 >>> ((7 : Int32) &&& 0x3f).toInt64.toUInt64).toInt64) = (0 : Int64)
      · refine own_step (fun _ k => XS.ifNo X8.here hx rfl (hb hby own_d10_36) rfl ((if0 _ _).trans (teq ((own_lc_eq _ _).mpr hc36)).2) k) ?_
        show own_Ends p.tables e below _ (T8.setTop (mkF m 39 #[.val (.long q0), .second, .val (.ref b1), .val (.int (Int32.ofNat (kk + 1))), .val (.long ((rr.toUInt64 >>> ((7 : Int32) &&& 0x3f).toInt64.toUInt64).toInt64)), .second, .unset] []))
        exact jn39 _ _ _ (kk + 1) ((rr.toUInt64 >>> ((7 : Int32) &&& 0x3f).toInt64.toUInt64).toInt64) (vv.set (kk + 1) (.int (nar .byte (((rr &&& (127 : Int64)).toInt32).toInt8.toInt32)))) X8 e8 N_8 K_8 Z_8 V_b1_8 (by omega) (by rw [List.length_set]; exact hvv)
      · refine own_step (fun _ k => XS.ifYes X8.here hx rfl (pc0 := 36) (pc' := 11) rfl (hb hby own_d10_36) rfl ((if0 _ _).trans (feq (fun q => hc36 ((own_lc_eq _ _).mp q))).2) (by decide) (by decide) k) ?_
        show own_Ends p.tables e below _ (T8.setTop (mkF m 11 #[.val (.long q0), .second, .val (.ref b1), .val (.int (Int32.ofNat (kk + 1))), .val (.long ((rr.toUInt64 >>> ((7 : Int32) &&& 0x3f).toInt64.toUInt64).toInt64)), .second, .unset] []))
        exact ih _ _ _ ((rr.toUInt64 >>> ((7 : Int32) &&& 0x3f).toInt64.toUInt64).toInt64) (vv.set (kk + 1) (.int (nar .byte (((rr &&& (127 : Int64)).toInt32).toInt8.toInt32)))) X8 e8 N_8 K_8 Z_8 V_b1_8 (by omega) (by rw [own_sr7]; exact own_pow hrr) (by rw [List.length_set]; exact hvv)
  show own_Ends p.tables e below _ (T1.setTop (mkF m 11 #[.val (.long q0), .second, .val (.ref b1), .val (.int (10 : Int32)), .val (.long q0), .second, .unset] []))
  exact jn11 9 _ _ _ q0 (List.replicate 10 (.int (0 : Int32))) X1 e1 N0 K_1 Z_1 V_b1 (by omega) (Nat.lt_trans (UInt64.toNat_lt _) (by decide)) (by simp)
theorem own_rm_encode (l : Launch) (Z : State) (a0' : Array Value) (hw : ∀ d ∈ tables_1, d.before a0' Z = true) (ws : List Jvm.Cond) (q0 : Int64) (h0 : Heap) (n0 : Nat) (Z0 : n0 ≤ h0.size) :
    MetFree l (⟨"com/example/ketchup/ketchup/negentropy/Varint", "encode", "(J)[B"⟩ : MethodName) (head1 (Jvm.Cond.code (⟨"com/example/ketchup/ketchup/negentropy/Varint", "encode", "(J)[B"⟩ : MethodName) prog_32_method_2_code 7 (some (.array .byte)) :: ws) ({ frames := 1, cells := 2, slots := 20, locals := 18 } : Room)) (fun a U => a = #[(.long q0)] ∧ Z.Warmed39 U.vm ∧ U.heap = h0) (fun _ _ _ _ _ => True) (fun _ U o U' => ∃ v L, o = .returned v ∧ own_QEnc Z q0 h0 n0 v U'.heap L ∧ FrameEnd U o U' L ({ frames := 1, cells := 2, slots := 20, locals := 18 } : Room).cells ({ frames := 1, cells := 2, slots := 20, locals := 18 } : Room).slots) := by
  by_cases hq : q0.toUInt64.toNat < 128
  · exact own_rm_encode1 l Z a0' hw ws q0 h0 n0 Z0 hq
  · exact own_rm_encoden l Z a0' hw ws q0 h0 n0 Z0 hq
theorem own_pd2 : parseMethodDescriptor "()V" = some ⟨[], none⟩ := by decide +kernel
theorem own_pd3 : parseMethodDescriptor "([B)V" = some ⟨[(.array .byte)], none⟩ := by decide +kernel
theorem own_d1_0 : decode prog_18_method_1_code 0 = .ok (.aload_n 0, 1) := by decide +kernel
theorem own_d1_1 : decode prog_18_method_1_code 1 = .ok (.invokespecial 1, 3) := by decide +kernel
theorem own_d1_4 : decode prog_18_method_1_code 4 = .ok (.aload_n 0, 1) := by decide +kernel
theorem own_d1_5 : decode prog_18_method_1_code 5 = .ok (.sipush 256, 3) := by decide +kernel
theorem own_d1_8 : decode prog_18_method_1_code 8 = .ok (.newarray .byte, 2) := by decide +kernel
theorem own_d1_10 : decode prog_18_method_1_code 10 = .ok (.putfield 7, 3) := by decide +kernel
theorem own_d1_13 : decode prog_18_method_1_code 13 = .ok (.aload_n 0, 1) := by decide +kernel
theorem own_d1_14 : decode prog_18_method_1_code 14 = .ok (.iconst 1, 1) := by decide +kernel
theorem own_d1_15 : decode prog_18_method_1_code 15 = .ok (.newarray .byte, 2) := by decide +kernel
theorem own_d1_17 : decode prog_18_method_1_code 17 = .ok (.dup, 1) := by decide +kernel
theorem own_d1_18 : decode prog_18_method_1_code 18 = .ok (.iconst 0, 1) := by decide +kernel
theorem own_d1_19 : decode prog_18_method_1_code 19 = .ok (.bipush 97, 2) := by decide +kernel
theorem own_d1_21 : decode prog_18_method_1_code 21 = .ok (.bastore, 1) := by decide +kernel
theorem own_d1_22 : decode prog_18_method_1_code 22 = .ok (.invokevirtual 13, 3) := by decide +kernel
theorem own_d1_25 : decode prog_18_method_1_code 25 = .ok (.aload_n 0, 1) := by decide +kernel
theorem own_d1_26 : decode prog_18_method_1_code 26 = .ok (.invokevirtual 17, 3) := by decide +kernel
theorem own_d1_29 : decode prog_18_method_1_code 29 = .ok (.return_, 1) := by decide +kernel
theorem own_ef_1 (m : MethodId) (x0 : Addr) : entryFrame m #[(.ref x0)] 1 = mkF m 0 #[.val (.ref x0)] [] := by first | (simp [entryFrame, mkF, argsToLocals, Value.category]; done) | rfl
def own_Q_winit (Z : State) (a0 : Addr) (h0 : Heap) (n0 : Nat) (v : Option Value) (h : Heap) (L : List Loc) : Prop := v = none ∧ Fr n0 L ∧ Keep h0 h [a0] ∧ ∃ (bf : Addr) (kb : ClassId) (vs : List Value), n0 ≤ bf ∧ h0.size ≤ bf ∧ a0 ≠ bf ∧ Fld Z h a0 "com/example/ketchup/ketchup/negentropy/MessageWriter" "buffer" "[B" (.ref bf) ∧ Fld Z h a0 "com/example/ketchup/ketchup/negentropy/MessageWriter" "size" "I" (.int (Int32.ofNat 1)) ∧ Fld Z h a0 "com/example/ketchup/ketchup/negentropy/MessageWriter" "previousTimestamp" "J" (.long (0 : Int64)) ∧ Fld Z h a0 "com/example/ketchup/ketchup/negentropy/MessageWriter" "markedSize" "I" (.int (Int32.ofNat 1)) ∧ Fld Z h a0 "com/example/ketchup/ketchup/negentropy/MessageWriter" "markedPreviousTimestamp" "J" (.long (0 : Int64)) ∧ Arv Z h bf kb .byte (256 : Int32) vs (Value.int (0 : Int32)) ∧ vs.length = 256 ∧ vs.getD 0 (Value.int (0 : Int32)) = .int (97 : Int32)
set_option maxRecDepth 65536 in
set_option maxHeartbeats 40000000 in
theorem own_rm_winit (l : Launch) (Z : State) (aw : Array Value) (hw : ∀ d ∈ tables_1, d.before aw Z = true) (ws : List Jvm.Cond) (a0 : Addr) (h0 : Heap) (n0 : Nat) (Z0 : n0 ≤ h0.size) (E_a0 : Exa Z h0 a0 "com/example/ketchup/ketchup/negentropy/MessageWriter") (F_buffer : Fld Z h0 a0 "com/example/ketchup/ketchup/negentropy/MessageWriter" "buffer" "[B" .null) (F_size : Fld Z h0 a0 "com/example/ketchup/ketchup/negentropy/MessageWriter" "size" "I" (.int (0 : Int32))) (F_previousTimestamp : Fld Z h0 a0 "com/example/ketchup/ketchup/negentropy/MessageWriter" "previousTimestamp" "J" (.long (0 : Int64))) (F_markedSize : Fld Z h0 a0 "com/example/ketchup/ketchup/negentropy/MessageWriter" "markedSize" "I" (.int (0 : Int32))) (F_markedPreviousTimestamp : Fld Z h0 a0 "com/example/ketchup/ketchup/negentropy/MessageWriter" "markedPreviousTimestamp" "J" (.long (0 : Int64))) (g_a0 : n0 ≤ a0) :
    MetFree l (⟨"com/example/ketchup/ketchup/negentropy/MessageWriter", "<init>", "()V"⟩ : MethodName) (head1 (Jvm.Cond.code (⟨"com/example/ketchup/ketchup/negentropy/MessageWriter", "<init>", "()V"⟩ : MethodName) prog_18_method_1_code 1 none :: ws) ({ frames := 2, cells := 2, slots := 257, locals := 32 } : Room)) (fun a U => a = #[(.ref a0)] ∧ Z.Warmed39 U.vm ∧ U.heap = h0) (fun _ _ _ _ _ => True) (fun _ U o U' => ∃ v L, o = .returned v ∧ own_Q_winit Z a0 h0 n0 v U'.heap L ∧ FrameEnd U o U' L ({ frames := 2, cells := 2, slots := 257, locals := 32 } : Room).cells ({ frames := 2, cells := 2, slots := 257, locals := 32 } : Room).slots) := by
  refine MetFree.of_bodySF (plainFor_of_name own_pn0) hisR ?_
  intro p e s m args below meth c s₁ Bd hml0 hP hK
  obtain ⟨rfl, hZ, hh⟩ := hP
  have hx := Bd.exec
  have hby := Bd.bytes
  have hlk : meth.locks = false := BodyLoose.notSynchronized Bd
  have hml : c.maxLocals = 1 := hml0
  have hown : s.vm.findClass "com/example/ketchup/ketchup/negentropy/MessageWriter" = some m.cls := findClass_of_methodNamed Bd.named
  have hnm := (name_of_methodNamed Bd.named Bd.method).1
  have X0 : Stand p l e ({ frames := 2, cells := 2, slots := 257, locals := 32 } : Room) s m #[(.ref a0)] below meth c s₁ [] 0 0 := Stand.of_body Bd
  have e0 : s₁.heap = h0 := by rw [← hh, Bd.state]; rfl
  have N0 := Fr.nil n0
  have K0 : Keep h0 h0 [a0] := Keep.refl _ _
  have pre0 : ∀ t, Steps p.tables e below (s₁.setTop (mkF m 0 #[.val (.ref a0)] [])) t → Steps p.tables e below (s₁.setTop (entryFrame m #[(.ref a0)] 1)) t := fun t k => castTop (own_ef_1 m a0) k
  show own_Ends p.tables e below (own_Q s (own_Q_winit Z a0 h0 n0) ({ frames := 2, cells := 2, slots := 257, locals := 32 } : Room).cells ({ frames := 2, cells := 2, slots := 257, locals := 32 } : Room).slots) (s₁.setTop (entryFrame m #[(.ref a0)] 1))
  refine own_step pre0 ?_
  show own_Ends p.tables e below _ (s₁.setTop (mkF m 0 #[.val (.ref a0)] []))
  refine own_step (fun _ k => XS.aloadN X0.here hx rfl (hb hby own_d1_0) rfl rfl k) ?_
  show own_Ends p.tables e below _ (s₁.setTop (mkF m 1 #[.val (.ref a0)] [(.ref a0)]))
  obtain ⟨T1, X1, e1, st1⟩ := initO X0 hx hZ hown (hw _ (List.mem_of_getElem? (i := 7) rfl)) (hw _ (List.mem_of_getElem? (i := 8) rfl)) (hw _ (List.mem_of_getElem? (i := 9) rfl)) e0 (g := (mkF m 1 #[.val (.ref a0)] [(.ref a0)])) rfl (by rw [hml]; rfl) rfl (hb hby own_d1_1) (by decide) (W := 0) (by show 2 * 0 + _ ≤ _; exact Nat.le_of_eq rfl) (by decide)
  refine own_step st1 ?_
  show own_Ends p.tables e below _ (T1.setTop (mkF m 4 #[.val (.ref a0)] []))
  refine own_step (fun _ k => XS.aloadN X1.here hx rfl (hb hby own_d1_4) rfl rfl k) ?_
  show own_Ends p.tables e below _ (T1.setTop (mkF m 5 #[.val (.ref a0)] [(.ref a0)]))
  refine own_step (fun _ k => XS.sipush X1.here hx rfl (hb hby own_d1_5) k) ?_
  show own_Ends p.tables e below _ (T1.setTop (mkF m 8 #[.val (.ref a0)] [(.int (256 : Int32)), (.ref a0)]))
  obtain ⟨T2, h2, k2, X2, e2, E2, A2, st2⟩ := newP X1 hx hZ (hw _ (List.mem_of_getElem? (i := 10) rfl)) e1 (g := (mkF m 8 #[.val (.ref a0)] [(.int (256 : Int32)), (.ref a0)])) rfl (hb hby own_d1_8) rfl (by decide) (cap := 256) (by decide) (by decide) (by decide) (by decide)
  obtain ⟨b2, g2⟩ : ∃ z, z = h0.size := ⟨_, rfl⟩
  rw [← g2] at A2 st2
  refine own_step st2 ?_
  have ne_a0_b2 : a0 ≠ b2 := Nat.ne_of_lt (Nat.lt_of_lt_of_le F_buffer.lt (Nat.le_of_eq g2.symm))
  have g_b2 : n0 ≤ b2 := Nat.le_trans Z0 (Nat.le_of_eq g2.symm)
  have sz_b2 : h0.size ≤ b2 := Nat.le_trans K0.1 (Nat.le_of_eq g2.symm)
  have F_buffer_2 := F_buffer.ext E2
  have F_size_2 := F_size.ext E2
  have F_previousTimestamp_2 := F_previousTimestamp.ext E2
  have F_markedSize_2 := F_markedSize.ext E2
  have F_markedPreviousTimestamp_2 := F_markedPreviousTimestamp.ext E2
  have E_a0_2 := E_a0.ext E2
  have K_2 : Keep h0 h2 [a0] := K0.ext E2
  have Z_2 : n0 ≤ h2.size := Nat.le_trans Z0 E2.1
  have V_b2 : Arv Z h2 b2 k2 .byte (256 : Int32) (List.replicate 256 (.int (0 : Int32))) (.int (0 : Int32)) := (Arv.new A2 (by decide)).pad (pad_rep [] (.int (0 : Int32)) 256)
  show own_Ends p.tables e below _ (T2.setTop (mkF m 10 #[.val (.ref a0)] [(.ref b2), (.ref a0)]))
  obtain ⟨T3, h3, X3, e3, W3, st3⟩ := putF X2 hx hZ hown (host := "") (Or.inl (hw _ (List.mem_of_getElem? (i := 11) rfl))) Via.refl e2 F_buffer_2 E_a0_2 (Or.inl (hw _ (List.mem_of_getElem? (i := 12) rfl))) (hw _ (List.mem_of_getElem? (i := 2) rfl)) (ty := (.array .byte)) (by decide) rfl rfl (g := (mkF m 10 #[.val (.ref a0)] [(.ref b2), (.ref a0)])) rfl rfl (hb hby own_d1_10)
  refine own_step st3 ?_
  have F_buffer_3 := F_buffer_2.same W3
  have F_size_3 := F_size_2.other W3 (Or.inr (slot_ne (Or.inl (hw _ (List.mem_of_getElem? (i := 18) rfl))) (Or.inl (hw _ (List.mem_of_getElem? (i := 12) rfl))) (by decide) (t := .int) (t' := (.array .byte)) (by decide) (by decide)))
  have F_previousTimestamp_3 := F_previousTimestamp_2.other W3 (Or.inr (slot_ne (Or.inl (hw _ (List.mem_of_getElem? (i := 31) rfl))) (Or.inl (hw _ (List.mem_of_getElem? (i := 12) rfl))) (by decide) (t := .long) (t' := (.array .byte)) (by decide) (by decide)))
  have F_markedSize_3 := F_markedSize_2.other W3 (Or.inr (slot_ne (Or.inl (hw _ (List.mem_of_getElem? (i := 29) rfl))) (Or.inl (hw _ (List.mem_of_getElem? (i := 12) rfl))) (by decide) (t := .int) (t' := (.array .byte)) (by decide) (by decide)))
  have F_markedPreviousTimestamp_3 := F_markedPreviousTimestamp_2.other W3 (Or.inr (slot_ne (Or.inl (hw _ (List.mem_of_getElem? (i := 33) rfl))) (Or.inl (hw _ (List.mem_of_getElem? (i := 12) rfl))) (by decide) (t := .long) (t' := (.array .byte)) (by decide) (by decide)))
  have E_a0_3 := E_a0_2.wr W3
  have V_b2_3 := V_b2.other W3 (Ne.symm ne_a0_b2)
  have K_3 : Keep h0 h3 [a0] := K_2.wr W3 (Or.inl (List.mem_of_getElem? (i := 0) rfl))
  have Z_3 : n0 ≤ h3.size := Nat.le_trans Z_2 (Keep.of_wr W3).1
  have N_3 := Fr.snoc X3 N0 g_a0
  show own_Ends p.tables e below _ (T3.setTop (mkF m 13 #[.val (.ref a0)] []))
  refine own_step (fun _ k => XS.aloadN X3.here hx rfl (hb hby own_d1_13) rfl rfl k) ?_
  show own_Ends p.tables e below _ (T3.setTop (mkF m 14 #[.val (.ref a0)] [(.ref a0)]))
  refine own_step (fun _ k => XS.iconst X3.here hx rfl (hb hby own_d1_14) k) ?_
  show own_Ends p.tables e below _ (T3.setTop (mkF m 15 #[.val (.ref a0)] [(.int (1 : Int32)), (.ref a0)]))
  obtain ⟨T4, h4, k4, X4, e4, E4, A4, st4⟩ := newP X3 hx hZ (hw _ (List.mem_of_getElem? (i := 10) rfl)) e3 (g := (mkF m 15 #[.val (.ref a0)] [(.int (1 : Int32)), (.ref a0)])) rfl (hb hby own_d1_15) rfl (by decide) (cap := 1) (by decide) (by decide) (by decide) (by decide)
  obtain ⟨b4, g4⟩ : ∃ z, z = h3.size := ⟨_, rfl⟩
  rw [← g4] at A4 st4
  refine own_step st4 ?_
  have ne_a0_b4 : a0 ≠ b4 := Nat.ne_of_lt (Nat.lt_of_lt_of_le F_buffer_3.lt (Nat.le_of_eq g4.symm))
  have ne_b2_b4 : b2 ≠ b4 := Nat.ne_of_lt (Nat.lt_of_lt_of_le V_b2_3.lt (Nat.le_of_eq g4.symm))
  have g_b4 : n0 ≤ b4 := Nat.le_trans Z_3 (Nat.le_of_eq g4.symm)
  have sz_b4 : h0.size ≤ b4 := Nat.le_trans K_3.1 (Nat.le_of_eq g4.symm)
  have F_buffer_4 := F_buffer_3.ext E4
  have F_size_4 := F_size_3.ext E4
  have F_previousTimestamp_4 := F_previousTimestamp_3.ext E4
  have F_markedSize_4 := F_markedSize_3.ext E4
  have F_markedPreviousTimestamp_4 := F_markedPreviousTimestamp_3.ext E4
  have E_a0_4 := E_a0_3.ext E4
  have V_b2_4 := V_b2_3.ext E4
  have K_4 : Keep h0 h4 [a0] := K_3.ext E4
  have Z_4 : n0 ≤ h4.size := Nat.le_trans Z_3 E4.1
  have V_b4 : Arv Z h4 b4 k4 .byte (1 : Int32) (List.replicate 1 (.int (0 : Int32))) (.int (0 : Int32)) := (Arv.new A4 (by decide)).pad (pad_rep [] (.int (0 : Int32)) 1)
  show own_Ends p.tables e below _ (T4.setTop (mkF m 17 #[.val (.ref a0)] [(.ref b4), (.ref a0)]))
  refine own_step (fun _ k => XS.dup X4.here hx rfl (hb hby own_d1_17) rfl rfl k) ?_
  show own_Ends p.tables e below _ (T4.setTop (mkF m 18 #[.val (.ref a0)] [(.ref b4), (.ref b4), (.ref a0)]))
  refine own_step (fun _ k => XS.iconst X4.here hx rfl (hb hby own_d1_18) k) ?_
  show own_Ends p.tables e below _ (T4.setTop (mkF m 19 #[.val (.ref a0)] [(.int (0 : Int32)), (.ref b4), (.ref b4), (.ref a0)]))
  refine own_step (fun _ k => XS.bipush X4.here hx rfl (hb hby own_d1_19) k) ?_
  show own_Ends p.tables e below _ (T4.setTop (mkF m 21 #[.val (.ref a0)] [(.int (97 : Int32)), (.int (0 : Int32)), (.ref b4), (.ref b4), (.ref a0)]))
  obtain ⟨cl5, Ar5, q5, S5, Nn5, H5, G5⟩ := id V_b4
  have hin5 : ¬ ((0 : Int32) < 0 ∨ cl5.slots.size ≤ ((0 : Int32)).toNatClampNeg) := inb_of S5 ⟨(by decide), (by decide)⟩
  obtain ⟨T5, h5, X5, e5, W5, st5⟩ := stB X4 hx hZ e4 Ar5 (j := (0 : Int32)) hin5 (g := (mkF m 21 #[.val (.ref a0)] [(.int (97 : Int32)), (.int (0 : Int32)), (.ref b4), (.ref b4), (.ref a0)])) rfl rfl (hb hby own_d1_21)
  refine own_step st5 ?_
  have F_buffer_5 := F_buffer_4.other W5 (Or.inl ne_a0_b4)
  have F_size_5 := F_size_4.other W5 (Or.inl ne_a0_b4)
  have F_previousTimestamp_5 := F_previousTimestamp_4.other W5 (Or.inl ne_a0_b4)
  have F_markedSize_5 := F_markedSize_4.other W5 (Or.inl ne_a0_b4)
  have F_markedPreviousTimestamp_5 := F_markedPreviousTimestamp_4.other W5 (Or.inl ne_a0_b4)
  have E_a0_5 := E_a0_4.wr W5
  have V_b2_5 := V_b2_4.other W5 ne_b2_b4
  have K_5 : Keep h0 h5 [a0] := K_4.wr W5 (Or.inr sz_b4)
  have Z_5 : n0 ≤ h5.size := Nat.le_trans Z_4 (Keep.of_wr W5).1
  have N_5 := Fr.snoc X5 N_3 g_b4
  have V_b4_5 : Arv Z h5 b4 k4 .byte (1 : Int32) ((List.replicate 1 (.int (0 : Int32))).set 0 (.int (nar .byte (97 : Int32)))) (.int (0 : Int32)) := Arv.set Ar5 q5 S5 Nn5 H5 G5 (fits_nar_byte _) W5 0 rfl (by simp)
  show own_Ends p.tables e below _ (T5.setTop (mkF m 22 #[.val (.ref a0)] [(.ref b4), (.ref a0)]))
  have hv0 : (List.replicate 256 (Value.int (0 : Int32))).length = 256 := by simp
  obtain ⟨cq6, qz6, qz6'⟩ := E_a0_5.cell
  obtain ⟨_, _, ⟨T6, L6, k6, n6⟩, -, X6, ⟨Lc6, hQ6, l6, y6, z6⟩, st6⟩ := X5.privateBack hx (y := (⟨"com/example/ketchup/ketchup/negentropy/MessageWriter", "write", "([B)V"⟩ : MethodName)) hown (mvT hZ (hw _ (List.mem_of_getElem? (i := 13) rfl))) (mvT hZ (hw _ (List.mem_of_getElem? (i := 14) rfl))) (own_sel_priv (by decide) (mvT hZ (hw _ (List.mem_of_getElem? (i := 2) rfl))) (mvP hZ (hw _ (List.mem_of_getElem? (i := 15) rfl))) (mvT hZ (hw _ (List.mem_of_getElem? (i := 14) rfl)))) (Cond.privateMethod_at (mvP hZ (hw _ (List.mem_of_getElem? (i := 15) rfl)) (args := #[]))) (mvT hZ (hw _ (List.mem_of_getElem? (i := 16) rfl))) (by decide) (backOf (W := 0) (own_rm_write l Z aw hw [] a0 b4 b2 k2 (List.replicate 256 (.int (0 : Int32))) 0 (0 : Int64) (0 : Int32) (0 : Int64) k4 1 ((List.replicate 1 (.int (0 : Int32))).set 0 (.int (nar .byte (97 : Int32)))) h5 n0 Z_5 E_a0_5 F_buffer_5 F_size_5 F_previousTimestamp_5 F_markedSize_5 F_markedPreviousTimestamp_5 V_b2_5 hv0 ne_a0_b2 g_a0 g_b2 V_b4_5 ne_b2_b4 ne_a0_b4 (by omega)) hZ (hw _ (List.mem_of_getElem? (i := 16) rfl)) (hw _ (List.mem_of_getElem? (i := 3) rfl)) (by decide) (by decide)) (g := (mkF m 22 #[.val (.ref a0)] [(.ref b4), (.ref a0)])) rfl (by rw [hml]; rfl) (Steps.refl _) (a := a0) (by rw [e5]; exact qz6) qz6' (argsL := [(.ref b4)]) (rest := []) (lenOf own_pd3 rfl) rfl (by show 2 * 0 + _ ≤ _; exact Nat.le_of_eq rfl) (hb hby own_d1_22) (fun _ _ => ⟨rfl, e5, (by decide : 2 + 0 ≤ _), (by decide : 257 + 0 ≤ _)⟩)
  dsimp only [Pt.U, Pt.locs, Pt.cells, Pt.slots] at X6 l6 y6 z6 st6 hQ6
  subst l6 y6 z6
  obtain ⟨rfl, N6q, k6, Fb6, Fz6, Fp6, Fm6, Fq6, Vb6⟩ := hQ6
  have N_6 := Fr.app N_5 N6q
  have E_a0_6 := E_a0_5.keep k6
  have V_b4_6 := V_b4_5.keep k6 (ninS (Ne.symm ne_a0_b4) (ninS (Ne.symm ne_b2_b4) nin0))
  have K_6 : Keep h0 T6.heap [a0] := K_5.trans k6 (allS (Or.inl (List.mem_of_getElem? (i := 0) rfl)) (allS (Or.inr sz_b2) all0))
  have Z_6 : n0 ≤ T6.heap.size := Nat.le_trans Z_5 k6.1
  have hvs6 : (own_put (List.replicate 256 (.int (0 : Int32))) 0 1 ((List.replicate 1 (.int (0 : Int32))).set 0 (.int (nar .byte (97 : Int32))))).length = 256 := by rw [own_put_len (by rw [hv0]; omega)]; exact hv0
  refine own_step (fun _ k => st6.trans k) ?_
  show own_Ends p.tables e below _ (T6.setTop (mkF m 25 #[.val (.ref a0)] []))
  refine own_step (fun _ k => XS.aloadN X6.here hx rfl (hb hby own_d1_25) rfl rfl k) ?_
  show own_Ends p.tables e below _ (T6.setTop (mkF m 26 #[.val (.ref a0)] [(.ref a0)]))
  obtain ⟨cq7, kq7, q7a, q7b, q7c⟩ := isOf hZ rfl E_a0_6
  obtain ⟨_, _, ⟨T7, L7, k7, n7⟩, -, X7, ⟨Lc7, hQ7, l7, y7, z7⟩, st7⟩ := X6.virtualBack hx (y := (⟨"com/example/ketchup/ketchup/negentropy/MessageWriter", "mark", "()V"⟩ : MethodName)) (z := (⟨"com/example/ketchup/ketchup/negentropy/MessageWriter", "mark", "()V"⟩ : MethodName)) hown (mvT hZ (hw _ (List.mem_of_getElem? (i := 23) rfl))) (mvT hZ (hw _ (List.mem_of_getElem? (i := 24) rfl))) (notFace_of_selects (args := #[]) (mvT hZ (hw _ (List.mem_of_getElem? (i := 26) rfl)))) (mvT hZ (hw _ (List.mem_of_getElem? (i := 26) rfl))) (mvT hZ (hw _ (List.mem_of_getElem? (i := 25) rfl))) (by decide) (backOf (W := 0) (own_rm_mark l Z aw hw [] a0 b2 k2 (own_put (List.replicate 256 (.int (0 : Int32))) 0 1 ((List.replicate 1 (.int (0 : Int32))).set 0 (.int (nar .byte (97 : Int32))))) (0 + 1) (0 : Int64) (0 : Int32) (0 : Int64) T6.heap n0 Z_6 E_a0_6 Fb6 Fz6 Fp6 Fm6 Fq6 Vb6 hvs6 ne_a0_b2 g_a0 g_b2) hZ (hw _ (List.mem_of_getElem? (i := 27) rfl)) (hw _ (List.mem_of_getElem? (i := 3) rfl)) (by decide) (by decide)) q7a q7c (g := (mkF m 26 #[.val (.ref a0)] [(.ref a0)])) rfl (by rw [hml]; rfl) (Steps.refl _) (argsL := []) (rest := []) (lenOf own_pd2 rfl) rfl (by show 2 * 0 + _ ≤ _; exact Nat.le_of_eq rfl) (hb hby own_d1_26) (fun _ _ => ⟨rfl, rfl, (by decide : 2 + 0 ≤ _), (by decide : 257 + 0 ≤ _)⟩)
  dsimp only [Pt.U, Pt.locs, Pt.cells, Pt.slots] at X7 l7 y7 z7 st7 hQ7
  subst l7 y7 z7
  obtain ⟨rfl, N7q, k7, Fb7, Fz7, Fp7, Fm7, Fq7⟩ := hQ7
  have N_7 := Fr.app N_6 N7q
  have E_a0_7 := E_a0_6.keep k7
  have V_b4_7 := V_b4_6.keep k7 (ninS (Ne.symm ne_a0_b4) nin0)
  have Vb6_7 := Vb6.keep k7 (ninS (Ne.symm ne_a0_b2) nin0)
  have K_7 : Keep h0 T7.heap [a0] := K_6.trans k7 (allS (Or.inl (List.mem_of_getElem? (i := 0) rfl)) all0)
  have Z_7 : n0 ≤ T7.heap.size := Nat.le_trans Z_6 k7.1
  refine own_step (fun _ k => st7.trans k) ?_
  show own_Ends p.tables e below _ (T7.setTop (mkF m 29 #[.val (.ref a0)] []))
  have hz97 : (own_put (List.replicate 256 (.int (0 : Int32))) 0 1 ((List.replicate 1 (.int (0 : Int32))).set 0 (.int (nar .byte (97 : Int32))))).getD 0 (Value.int (0 : Int32)) = Value.int (97 : Int32) := own_put_at (i := 0) (Value.int (0 : Int32)) (by rw [hv0]; decide) (by decide)
  exact own_ret0 X7 hx hlk (by decide) (by decide) Bd.returns (hb hby own_d1_29) (⟨rfl, N_7, K_7, b2, _, _, g_b2, sz_b2, ne_a0_b2, Fb7, Fz7, Fp7, Fm7, Fq7, Vb6_7, hvs6, hz97⟩)
theorem own_d7_0 : decode prog_11_method_1_code 0 = .ok (.aload_n 0, 1) := by decide +kernel
theorem own_d7_1 : decode prog_11_method_1_code 1 = .ok (.invokespecial 1, 3) := by decide +kernel
theorem own_d7_4 : decode prog_11_method_1_code 4 = .ok (.aload_n 3, 1) := by decide +kernel
theorem own_d7_5 : decode prog_11_method_1_code 5 = .ok (.arraylength, 1) := by decide +kernel
theorem own_d7_6 : decode prog_11_method_1_code 6 = .ok (.bipush 32, 2) := by decide +kernel
theorem own_d7_8 : decode prog_11_method_1_code 8 = .ok (.if_icmp .le 18, 3) := by decide +kernel
theorem own_d7_26 : decode prog_11_method_1_code 26 = .ok (.aload_n 0, 1) := by decide +kernel
theorem own_d7_27 : decode prog_11_method_1_code 27 = .ok (.lload_n 1, 1) := by decide +kernel
theorem own_d7_28 : decode prog_11_method_1_code 28 = .ok (.putfield 18, 3) := by decide +kernel
theorem own_d7_31 : decode prog_11_method_1_code 31 = .ok (.aload_n 0, 1) := by decide +kernel
theorem own_d7_32 : decode prog_11_method_1_code 32 = .ok (.aload_n 3, 1) := by decide +kernel
theorem own_d7_33 : decode prog_11_method_1_code 33 = .ok (.putfield 24, 3) := by decide +kernel
theorem own_d7_36 : decode prog_11_method_1_code 36 = .ok (.return_, 1) := by decide +kernel
theorem own_ef_7 (m : MethodId) (x0 : Addr) (x1 : Int64) (x2 : Addr) : entryFrame m #[(.ref x0), (.long x1), (.ref x2)] 4 = mkF m 0 #[.val (.ref x0), .val (.long x1), .second, .val (.ref x2)] [] := by first | (simp [entryFrame, mkF, argsToLocals, Value.category]; done) | rfl
def own_Q_binit (Z : State) (a0 : Addr) (q1 : Int64) (a3 : Addr) (k3 : ClassId) (n : Nat) (us : List Value) (h0 : Heap) (n0 : Nat) (v : Option Value) (h : Heap) (L : List Loc) : Prop := v = none ∧ Fr n0 L ∧ Keep h0 h [a0] ∧ Fld Z h a0 "com/example/ketchup/ketchup/negentropy/Bound" "timestamp" "J" (.long q1) ∧ Fld Z h a0 "com/example/ketchup/ketchup/negentropy/Bound" "prefix" "[B" (.ref a3)
set_option maxRecDepth 65536 in
set_option maxHeartbeats 40000000 in
theorem own_rm_binit (l : Launch) (Z : State) (aw : Array Value) (hw : ∀ d ∈ tables_1, d.before aw Z = true) (ws : List Jvm.Cond) (a0 : Addr) (q1 : Int64) (a3 : Addr) (k3 : ClassId) (n : Nat) (us : List Value) (h0 : Heap) (n0 : Nat) (Z0 : n0 ≤ h0.size) (E_a0 : Exa Z h0 a0 "com/example/ketchup/ketchup/negentropy/Bound") (F_t : Fld Z h0 a0 "com/example/ketchup/ketchup/negentropy/Bound" "timestamp" "J" (.long (0 : Int64))) (F_p : Fld Z h0 a0 "com/example/ketchup/ketchup/negentropy/Bound" "prefix" "[B" .null) (g_a0 : n0 ≤ a0) (V_a3 : Arv Z h0 a3 k3 .byte (Int32.ofNat n) us (Value.int (0 : Int32))) (ne_03 : a0 ≠ a3) (hn : n ≤ 32) :
    MetFree l (⟨"com/example/ketchup/ketchup/negentropy/Bound", "<init>", "(J[B)V"⟩ : MethodName) (head1 (Jvm.Cond.code (⟨"com/example/ketchup/ketchup/negentropy/Bound", "<init>", "(J[B)V"⟩ : MethodName) prog_11_method_1_code 4 none :: ws) ({ frames := 1, cells := 0, slots := 0, locals := 12 } : Room)) (fun a U => a = #[(.ref a0), (.long q1), (.ref a3)] ∧ Z.Warmed39 U.vm ∧ U.heap = h0) (fun _ _ _ _ _ => True) (fun _ U o U' => ∃ v L, o = .returned v ∧ own_Q_binit Z a0 q1 a3 k3 n us h0 n0 v U'.heap L ∧ FrameEnd U o U' L ({ frames := 1, cells := 0, slots := 0, locals := 12 } : Room).cells ({ frames := 1, cells := 0, slots := 0, locals := 12 } : Room).slots) := by
  refine MetFree.of_bodySF (plainFor_of_name own_pn1) hisR ?_
  intro p e s m args below meth c s₁ Bd hml0 hP hK
  obtain ⟨rfl, hZ, hh⟩ := hP
  have hx := Bd.exec
  have hby := Bd.bytes
  have hlk : meth.locks = false := BodyLoose.notSynchronized Bd
  have hml : c.maxLocals = 4 := hml0
  have hown : s.vm.findClass "com/example/ketchup/ketchup/negentropy/Bound" = some m.cls := findClass_of_methodNamed Bd.named
  have hnm := (name_of_methodNamed Bd.named Bd.method).1
  have X0 : Stand p l e ({ frames := 1, cells := 0, slots := 0, locals := 12 } : Room) s m #[(.ref a0), (.long q1), (.ref a3)] below meth c s₁ [] 0 0 := Stand.of_body Bd
  have e0 : s₁.heap = h0 := by rw [← hh, Bd.state]; rfl
  have N0 := Fr.nil n0
  have K0 : Keep h0 h0 [a0] := Keep.refl _ _
  have pre0 : ∀ t, Steps p.tables e below (s₁.setTop (mkF m 0 #[.val (.ref a0), .val (.long q1), .second, .val (.ref a3)] [])) t → Steps p.tables e below (s₁.setTop (entryFrame m #[(.ref a0), (.long q1), (.ref a3)] 4)) t := fun t k => castTop (own_ef_7 m a0 q1 a3) k
  show own_Ends p.tables e below (own_Q s (own_Q_binit Z a0 q1 a3 k3 n us h0 n0) ({ frames := 1, cells := 0, slots := 0, locals := 12 } : Room).cells ({ frames := 1, cells := 0, slots := 0, locals := 12 } : Room).slots) (s₁.setTop (entryFrame m #[(.ref a0), (.long q1), (.ref a3)] 4))
  refine own_step pre0 ?_
  show own_Ends p.tables e below _ (s₁.setTop (mkF m 0 #[.val (.ref a0), .val (.long q1), .second, .val (.ref a3)] []))
  refine own_step (fun _ k => XS.aloadN X0.here hx rfl (hb hby own_d7_0) rfl rfl k) ?_
  show own_Ends p.tables e below _ (s₁.setTop (mkF m 1 #[.val (.ref a0), .val (.long q1), .second, .val (.ref a3)] [(.ref a0)]))
  obtain ⟨T1, X1, e1, st1⟩ := initO X0 hx hZ hown (hw _ (List.mem_of_getElem? (i := 51) rfl)) (hw _ (List.mem_of_getElem? (i := 8) rfl)) (hw _ (List.mem_of_getElem? (i := 9) rfl)) e0 (g := (mkF m 1 #[.val (.ref a0), .val (.long q1), .second, .val (.ref a3)] [(.ref a0)])) rfl (by rw [hml]; rfl) rfl (hb hby own_d7_1) (by decide) (W := 0) (by show 2 * 0 + _ ≤ _; exact Nat.le_of_eq rfl) (by decide)
  refine own_step st1 ?_
  show own_Ends p.tables e below _ (T1.setTop (mkF m 4 #[.val (.ref a0), .val (.long q1), .second, .val (.ref a3)] []))
  refine own_step (fun _ k => XS.aloadN X1.here hx rfl (hb hby own_d7_4) rfl rfl k) ?_
  show own_Ends p.tables e below _ (T1.setTop (mkF m 5 #[.val (.ref a0), .val (.long q1), .second, .val (.ref a3)] [(.ref a3)]))
  obtain ⟨cl2, Ar2, q2, S2, Nn2, H2, G2⟩ := id V_a3
  refine own_step (fun _ k => X1.arraylength hx (by rw [e1]; exact Ar2.1) (State.isArrayOf_alike hZ.alike Ar2.2.1) (g := (mkF m 5 #[.val (.ref a0), .val (.long q1), .second, .val (.ref a3)] [(.ref a3)])) rfl rfl (hb hby own_d7_5) _ k) ?_
  rw [len_of S2 Nn2]
  show own_Ends p.tables e below _ (T1.setTop (mkF m 6 #[.val (.ref a0), .val (.long q1), .second, .val (.ref a3)] [(.int (Int32.ofNat n))]))
  refine own_step (fun _ k => XS.bipush X1.here hx rfl (hb hby own_d7_6) k) ?_
  show own_Ends p.tables e below _ (T1.setTop (mkF m 8 #[.val (.ref a0), .val (.long q1), .second, .val (.ref a3)] [(.int (32 : Int32)), (.int (Int32.ofNat n))]))
  refine own_step (fun _ k => XS.icmpYes X1.here hx rfl (pc0 := 8) (pc' := 26) rfl (hb hby own_d7_8) rfl (flt (fun q => by have := (own_nlt (a := 32) (by omega) (by omega)).mp q; omega)).2.2.2 (by decide) (by decide) k) ?_
  show own_Ends p.tables e below _ (T1.setTop (mkF m 26 #[.val (.ref a0), .val (.long q1), .second, .val (.ref a3)] []))
  refine own_step (fun _ k => XS.aloadN X1.here hx rfl (hb hby own_d7_26) rfl rfl k) ?_
  show own_Ends p.tables e below _ (T1.setTop (mkF m 27 #[.val (.ref a0), .val (.long q1), .second, .val (.ref a3)] [(.ref a0)]))
  refine own_step (fun _ k => XS.lloadN X1.here hx rfl (hb hby own_d7_27) rfl k) ?_
  show own_Ends p.tables e below _ (T1.setTop (mkF m 28 #[.val (.ref a0), .val (.long q1), .second, .val (.ref a3)] [(.long q1), (.ref a0)]))
  obtain ⟨T3, h3, X3, e3, W3, st3⟩ := putF X1 hx hZ hown (host := "") (Or.inl (hw _ (List.mem_of_getElem? (i := 52) rfl))) Via.refl e1 F_t E_a0 (Or.inr ⟨(hw _ (List.mem_of_getElem? (i := 53) rfl)), rfl, hnm⟩) (hw _ (List.mem_of_getElem? (i := 46) rfl)) (ty := .long) (by decide) rfl rfl (g := (mkF m 28 #[.val (.ref a0), .val (.long q1), .second, .val (.ref a3)] [(.long q1), (.ref a0)])) rfl rfl (hb hby own_d7_28)
  refine own_step st3 ?_
  have E_a0_3 := E_a0.wr W3
  have F_t_3 := F_t.same W3
  have F_p_3 := F_p.other W3 (Or.inr (slot_ne (Or.inr (hw _ (List.mem_of_getElem? (i := 55) rfl))) (Or.inr (hw _ (List.mem_of_getElem? (i := 53) rfl))) (by decide) (t := (.array .byte)) (t' := .long) (by decide) (by decide)))
  have V_a3_3 := V_a3.other W3 (Ne.symm ne_03)
  have K_3 : Keep h0 h3 [a0] := K0.wr W3 (Or.inl (List.mem_of_getElem? (i := 0) rfl))
  have Z_3 : n0 ≤ h3.size := Nat.le_trans Z0 (Keep.of_wr W3).1
  have N_3 := Fr.snoc X3 N0 g_a0
  show own_Ends p.tables e below _ (T3.setTop (mkF m 31 #[.val (.ref a0), .val (.long q1), .second, .val (.ref a3)] []))
  refine own_step (fun _ k => XS.aloadN X3.here hx rfl (hb hby own_d7_31) rfl rfl k) ?_
  show own_Ends p.tables e below _ (T3.setTop (mkF m 32 #[.val (.ref a0), .val (.long q1), .second, .val (.ref a3)] [(.ref a0)]))
  refine own_step (fun _ k => XS.aloadN X3.here hx rfl (hb hby own_d7_32) rfl rfl k) ?_
  show own_Ends p.tables e below _ (T3.setTop (mkF m 33 #[.val (.ref a0), .val (.long q1), .second, .val (.ref a3)] [(.ref a3), (.ref a0)]))
  obtain ⟨T4, h4, X4, e4, W4, st4⟩ := putF X3 hx hZ hown (host := "") (Or.inl (hw _ (List.mem_of_getElem? (i := 54) rfl))) Via.refl e3 F_p_3 E_a0_3 (Or.inr ⟨(hw _ (List.mem_of_getElem? (i := 55) rfl)), rfl, hnm⟩) (hw _ (List.mem_of_getElem? (i := 46) rfl)) (ty := (.array .byte)) (by decide) rfl rfl (g := (mkF m 33 #[.val (.ref a0), .val (.long q1), .second, .val (.ref a3)] [(.ref a3), (.ref a0)])) rfl rfl (hb hby own_d7_33)
  refine own_step st4 ?_
  have E_a0_4 := E_a0_3.wr W4
  have F_t_4 := F_t_3.other W4 (Or.inr (slot_ne (Or.inr (hw _ (List.mem_of_getElem? (i := 53) rfl))) (Or.inr (hw _ (List.mem_of_getElem? (i := 55) rfl))) (by decide) (t := .long) (t' := (.array .byte)) (by decide) (by decide)))
  have F_p_4 := F_p_3.same W4
  have V_a3_4 := V_a3_3.other W4 (Ne.symm ne_03)
  have K_4 : Keep h0 h4 [a0] := K_3.wr W4 (Or.inl (List.mem_of_getElem? (i := 0) rfl))
  have Z_4 : n0 ≤ h4.size := Nat.le_trans Z_3 (Keep.of_wr W4).1
  have N_4 := Fr.snoc X4 N_3 g_a0
  show own_Ends p.tables e below _ (T4.setTop (mkF m 36 #[.val (.ref a0), .val (.long q1), .second, .val (.ref a3)] []))
  exact own_ret0 X4 hx hlk (by decide) (by decide) Bd.returns (hb hby own_d7_36) (by rw [e4]; exact ⟨rfl, N_4, K_4, F_t_4, F_p_4⟩)
theorem own_pd4 : parseMethodDescriptor "()J" = some ⟨[], some .long⟩ := by decide +kernel
theorem own_pd5 : parseMethodDescriptor "(J)[B" = some ⟨[.long], some (.array .byte)⟩ := by decide +kernel
theorem own_pd6 : parseMethodDescriptor "()[B" = some ⟨[], some (.array .byte)⟩ := by decide +kernel
theorem own_d8_0 : decode prog_18_method_5_code 0 = .ok (.aload_n 1, 1) := by decide +kernel
theorem own_d8_1 : decode prog_18_method_5_code 1 = .ok (.invokevirtual 34, 3) := by decide +kernel
theorem own_d8_4 : decode prog_18_method_5_code 4 = .ok (.lstore_n 2, 1) := by decide +kernel
theorem own_d8_5 : decode prog_18_method_5_code 5 = .ok (.lload_n 2, 1) := by decide +kernel
theorem own_d8_6 : decode prog_18_method_5_code 6 = .ok (.ldc2_w 40, 3) := by decide +kernel
theorem own_d8_9 : decode prog_18_method_5_code 9 = .ok (.lcmp, 1) := by decide +kernel
theorem own_d8_10 : decode prog_18_method_5_code 10 = .ok (.ifCond .ne 14, 3) := by decide +kernel
theorem own_d8_13 : decode prog_18_method_5_code 13 = .ok (.aload_n 0, 1) := by decide +kernel
theorem own_d8_14 : decode prog_18_method_5_code 14 = .ok (.lconst 0, 1) := by decide +kernel
theorem own_d8_15 : decode prog_18_method_5_code 15 = .ok (.invokestatic 42, 3) := by decide +kernel
theorem own_d8_18 : decode prog_18_method_5_code 18 = .ok (.invokevirtual 13, 3) := by decide +kernel
theorem own_d8_21 : decode prog_18_method_5_code 21 = .ok (.goto 18, 3) := by decide +kernel
theorem own_d8_24 : decode prog_18_method_5_code 24 = .ok (.aload_n 0, 1) := by decide +kernel
theorem own_d8_25 : decode prog_18_method_5_code 25 = .ok (.lload_n 2, 1) := by decide +kernel
theorem own_d8_26 : decode prog_18_method_5_code 26 = .ok (.aload_n 0, 1) := by decide +kernel
theorem own_d8_27 : decode prog_18_method_5_code 27 = .ok (.getfield 27, 3) := by decide +kernel
theorem own_d8_30 : decode prog_18_method_5_code 30 = .ok (.lsub, 1) := by decide +kernel
theorem own_d8_31 : decode prog_18_method_5_code 31 = .ok (.lconst 1, 1) := by decide +kernel
theorem own_d8_32 : decode prog_18_method_5_code 32 = .ok (.ladd, 1) := by decide +kernel
theorem own_d8_33 : decode prog_18_method_5_code 33 = .ok (.invokestatic 42, 3) := by decide +kernel
theorem own_d8_36 : decode prog_18_method_5_code 36 = .ok (.invokevirtual 13, 3) := by decide +kernel
theorem own_d8_39 : decode prog_18_method_5_code 39 = .ok (.aload_n 0, 1) := by decide +kernel
theorem own_d8_40 : decode prog_18_method_5_code 40 = .ok (.lload_n 2, 1) := by decide +kernel
theorem own_d8_41 : decode prog_18_method_5_code 41 = .ok (.putfield 27, 3) := by decide +kernel
theorem own_d8_44 : decode prog_18_method_5_code 44 = .ok (.aload_n 1, 1) := by decide +kernel
theorem own_d8_45 : decode prog_18_method_5_code 45 = .ok (.invokevirtual 48, 3) := by decide +kernel
theorem own_d8_48 : decode prog_18_method_5_code 48 = .ok (.astore 4, 2) := by decide +kernel
theorem own_d8_50 : decode prog_18_method_5_code 50 = .ok (.aload_n 0, 1) := by decide +kernel
theorem own_d8_51 : decode prog_18_method_5_code 51 = .ok (.aload 4, 2) := by decide +kernel
theorem own_d8_53 : decode prog_18_method_5_code 53 = .ok (.arraylength, 1) := by decide +kernel
theorem own_d8_54 : decode prog_18_method_5_code 54 = .ok (.i2l, 1) := by decide +kernel
theorem own_d8_55 : decode prog_18_method_5_code 55 = .ok (.invokestatic 42, 3) := by decide +kernel
theorem own_d8_58 : decode prog_18_method_5_code 58 = .ok (.invokevirtual 13, 3) := by decide +kernel
theorem own_d8_61 : decode prog_18_method_5_code 61 = .ok (.aload_n 0, 1) := by decide +kernel
theorem own_d8_62 : decode prog_18_method_5_code 62 = .ok (.aload 4, 2) := by decide +kernel
theorem own_d8_64 : decode prog_18_method_5_code 64 = .ok (.invokevirtual 13, 3) := by decide +kernel
theorem own_d8_67 : decode prog_18_method_5_code 67 = .ok (.return_, 1) := by decide +kernel
theorem own_ef_8 (m : MethodId) (x0 : Addr) (x1 : Addr) : entryFrame m #[(.ref x0), (.ref x1)] 5 = mkF m 0 #[.val (.ref x0), .val (.ref x1), .unset, .unset, .unset] [] := by first | (simp [entryFrame, mkF, argsToLocals, Value.category]; done) | rfl
def own_Q_writeBound (Z : State) (a0 : Addr) (a1 : Addr) (bf : Addr) (kb : ClassId) (vs : List Value) (sz : Nat) (pt : Int64) (ms : Int32) (mp : Int64) (t : Int64) (pf : Addr) (kp : ClassId) (np : Nat) (up : List Value) (h0 : Heap) (n0 : Nat) (v : Option Value) (h : Heap) (L : List Loc) : Prop := v = none ∧ Fr n0 L ∧ Keep h0 h [a0, bf] ∧ ∃ (n1 : Nat) (vs' : List Value), 1 ≤ n1 ∧ n1 ≤ 10 ∧ Fld Z h a0 "com/example/ketchup/ketchup/negentropy/MessageWriter" "buffer" "[B" (.ref bf) ∧ Fld Z h a0 "com/example/ketchup/ketchup/negentropy/MessageWriter" "size" "I" (.int (Int32.ofNat (sz + n1 + 1 + np))) ∧ Fld Z h a0 "com/example/ketchup/ketchup/negentropy/MessageWriter" "previousTimestamp" "J" (.long t) ∧ Fld Z h a0 "com/example/ketchup/ketchup/negentropy/MessageWriter" "markedSize" "I" (.int ms) ∧ Fld Z h a0 "com/example/ketchup/ketchup/negentropy/MessageWriter" "markedPreviousTimestamp" "J" (.long mp) ∧ Arv Z h bf kb .byte (256 : Int32) vs' (Value.int (0 : Int32)) ∧ vs'.length = 256 ∧ (∀ i, i < sz → vs'.getD i (Value.int (0 : Int32)) = vs.getD i (Value.int (0 : Int32))) ∧ ((own_enc t pt).toUInt64.toNat < 128 → n1 = 1 ∧ vs'.getD sz (Value.int (0 : Int32)) = .int (own_enc t pt).toInt32 ∧ vs'.getD (sz + 1) (Value.int (0 : Int32)) = .int (Int32.ofNat np))
set_option maxRecDepth 65536 in
set_option maxHeartbeats 40000000 in
theorem own_rm_writeBound (l : Launch) (Z : State) (aw : Array Value) (hw : ∀ d ∈ tables_1, d.before aw Z = true) (ws : List Jvm.Cond) (a0 : Addr) (a1 : Addr) (bf : Addr) (kb : ClassId) (vs : List Value) (sz : Nat) (pt : Int64) (ms : Int32) (mp : Int64) (t : Int64) (pf : Addr) (kp : ClassId) (np : Nat) (up : List Value) (h0 : Heap) (n0 : Nat) (Z0 : n0 ≤ h0.size) (E_a0 : Exa Z h0 a0 "com/example/ketchup/ketchup/negentropy/MessageWriter") (F_buffer : Fld Z h0 a0 "com/example/ketchup/ketchup/negentropy/MessageWriter" "buffer" "[B" (.ref bf)) (F_size : Fld Z h0 a0 "com/example/ketchup/ketchup/negentropy/MessageWriter" "size" "I" (.int (Int32.ofNat sz))) (F_previousTimestamp : Fld Z h0 a0 "com/example/ketchup/ketchup/negentropy/MessageWriter" "previousTimestamp" "J" (.long pt)) (F_markedSize : Fld Z h0 a0 "com/example/ketchup/ketchup/negentropy/MessageWriter" "markedSize" "I" (.int ms)) (F_markedPreviousTimestamp : Fld Z h0 a0 "com/example/ketchup/ketchup/negentropy/MessageWriter" "markedPreviousTimestamp" "J" (.long mp)) (V_bf : Arv Z h0 bf kb .byte (256 : Int32) vs (Value.int (0 : Int32))) (hvs : vs.length = 256) (ne_ab : a0 ≠ bf) (g_a0 : n0 ≤ a0) (g_bf : n0 ≤ bf) (E_a1 : Exa Z h0 a1 "com/example/ketchup/ketchup/negentropy/Bound") (F_t : Fld Z h0 a1 "com/example/ketchup/ketchup/negentropy/Bound" "timestamp" "J" (.long t)) (F_p : Fld Z h0 a1 "com/example/ketchup/ketchup/negentropy/Bound" "prefix" "[B" (.ref pf)) (V_pf : Arv Z h0 pf kp .byte (Int32.ofNat np) up (Value.int (0 : Int32))) (ne_a1 : a0 ≠ a1) (ne_b1 : bf ≠ a1) (ne_ap : a0 ≠ pf) (ne_bp : bf ≠ pf) (ne_1p : a1 ≠ pf) (hnp : np ≤ 32) (hfit : sz + 52 ≤ 256) :
    MetFree l (⟨"com/example/ketchup/ketchup/negentropy/MessageWriter", "writeBound", "(Lcom/example/ketchup/ketchup/negentropy/Bound;)V"⟩ : MethodName) (head1 (Jvm.Cond.code (⟨"com/example/ketchup/ketchup/negentropy/MessageWriter", "writeBound", "(Lcom/example/ketchup/ketchup/negentropy/Bound;)V"⟩ : MethodName) prog_18_method_5_code 5 none :: ws) ({ frames := 2, cells := 4, slots := 40, locals := 37 } : Room)) (fun a U => a = #[(.ref a0), (.ref a1)] ∧ Z.Warmed39 U.vm ∧ U.heap = h0) (fun _ _ _ _ _ => True) (fun _ U o U' => ∃ v L, o = .returned v ∧ own_Q_writeBound Z a0 a1 bf kb vs sz pt ms mp t pf kp np up h0 n0 v U'.heap L ∧ FrameEnd U o U' L ({ frames := 2, cells := 4, slots := 40, locals := 37 } : Room).cells ({ frames := 2, cells := 4, slots := 40, locals := 37 } : Room).slots) := by
  refine MetFree.of_bodySF (plainFor_of_name own_pn0) hisR ?_
  intro p e s m args below meth c s₁ Bd hml0 hP hK
  obtain ⟨rfl, hZ, hh⟩ := hP
  have hx := Bd.exec
  have hby := Bd.bytes
  have hlk : meth.locks = false := BodyLoose.notSynchronized Bd
  have hml : c.maxLocals = 5 := hml0
  have hown : s.vm.findClass "com/example/ketchup/ketchup/negentropy/MessageWriter" = some m.cls := findClass_of_methodNamed Bd.named
  have hnm := (name_of_methodNamed Bd.named Bd.method).1
  have X0 : Stand p l e ({ frames := 2, cells := 4, slots := 40, locals := 37 } : Room) s m #[(.ref a0), (.ref a1)] below meth c s₁ [] 0 0 := Stand.of_body Bd
  have e0 : s₁.heap = h0 := by rw [← hh, Bd.state]; rfl
  have N0 := Fr.nil n0
  have K0 : Keep h0 h0 [a0, bf] := Keep.refl _ _
  have pre0 : ∀ t, Steps p.tables e below (s₁.setTop (mkF m 0 #[.val (.ref a0), .val (.ref a1), .unset, .unset, .unset] [])) t → Steps p.tables e below (s₁.setTop (entryFrame m #[(.ref a0), (.ref a1)] 5)) t := fun t k => castTop (own_ef_8 m a0 a1) k
  show own_Ends p.tables e below (own_Q s (own_Q_writeBound Z a0 a1 bf kb vs sz pt ms mp t pf kp np up h0 n0) ({ frames := 2, cells := 4, slots := 40, locals := 37 } : Room).cells ({ frames := 2, cells := 4, slots := 40, locals := 37 } : Room).slots) (s₁.setTop (entryFrame m #[(.ref a0), (.ref a1)] 5))
  refine own_step pre0 ?_
  show own_Ends p.tables e below _ (s₁.setTop (mkF m 0 #[.val (.ref a0), .val (.ref a1), .unset, .unset, .unset] []))
  refine own_step (fun _ k => XS.aloadN X0.here hx rfl (hb hby own_d8_0) rfl rfl k) ?_
  show own_Ends p.tables e below _ (s₁.setTop (mkF m 1 #[.val (.ref a0), .val (.ref a1), .unset, .unset, .unset] [(.ref a1)]))
  obtain ⟨cq1, kq1, q1a, q1b, q1c⟩ := isOf hZ e0 E_a1
  obtain ⟨_, _, ⟨T1, L1, k1, n1⟩, -, X1, ⟨Lc1, hQ1, l1, y1, z1⟩, st1⟩ := X0.virtualBack hx (y := (⟨"com/example/ketchup/ketchup/negentropy/Bound", "timestamp", "()J"⟩ : MethodName)) (z := (⟨"com/example/ketchup/ketchup/negentropy/Bound", "timestamp", "()J"⟩ : MethodName)) hown (mvT hZ (hw _ (List.mem_of_getElem? (i := 61) rfl))) (mvT hZ (hw _ (List.mem_of_getElem? (i := 62) rfl))) (notFace_of_selects (args := #[]) (mvT hZ (hw _ (List.mem_of_getElem? (i := 64) rfl)))) (mvT hZ (hw _ (List.mem_of_getElem? (i := 64) rfl))) (mvT hZ (hw _ (List.mem_of_getElem? (i := 63) rfl))) (by decide) (backOf (W := 0) (own_rm_timestamp l Z aw hw [] a1 t h0 n0 Z0 F_t) hZ (hw _ (List.mem_of_getElem? (i := 65) rfl)) (hw _ (List.mem_of_getElem? (i := 47) rfl)) (by decide) (by decide)) q1a q1c (g := (mkF m 1 #[.val (.ref a0), .val (.ref a1), .unset, .unset, .unset] [(.ref a1)])) rfl (by rw [hml]; rfl) (Steps.refl _) (argsL := []) (rest := []) (lenOf own_pd4 rfl) rfl (by show 2 * 0 + _ ≤ _; exact Nat.le_of_eq rfl) (hb hby own_d8_1) (fun _ _ => ⟨rfl, e0, (by decide : 0 + 0 ≤ _), (by decide : 0 + 0 ≤ _)⟩)
  dsimp only [Pt.U, Pt.locs, Pt.cells, Pt.slots] at X1 l1 y1 z1 st1 hQ1
  subst l1 y1 z1
  obtain ⟨rfl, N1q, e1⟩ := hQ1
  have N_1 := Fr.app N0 N1q
  refine own_step (fun _ k => st1.trans k) ?_
  show own_Ends p.tables e below _ (T1.setTop (mkF m 4 #[.val (.ref a0), .val (.ref a1), .unset, .unset, .unset] [(.long t)]))
  refine own_step (fun _ k => XS.lstoreN X1.here hx rfl (hb hby own_d8_4) rfl (l' := #[.val (.ref a0), .val (.ref a1), .val (.long t), .second, .unset]) rfl k) ?_
  show own_Ends p.tables e below _ (T1.setTop (mkF m 5 #[.val (.ref a0), .val (.ref a1), .val (.long t), .second, .unset] []))
  refine own_step (fun _ k => XS.lloadN X1.here hx rfl (hb hby own_d8_5) rfl k) ?_
  show own_Ends p.tables e below _ (T1.setTop (mkF m 6 #[.val (.ref a0), .val (.ref a1), .val (.long t), .second, .unset] [(.long t)]))
  refine own_step (fun _ k => X1.ldc2Long hx hown (mvT hZ (hw _ (List.mem_of_getElem? (i := 66) rfl))) (g := (mkF m 6 #[.val (.ref a0), .val (.ref a1), .val (.long t), .second, .unset] [(.long t)])) rfl (hb hby own_d8_6) _ k) ?_
  show own_Ends p.tables e below _ (T1.setTop (mkF m 9 #[.val (.ref a0), .val (.ref a1), .val (.long t), .second, .unset] [(.long (-1 : Int64)), (.long t)]))
  refine own_step (fun _ k => XS.lcmp X1.here hx rfl (hb hby own_d8_9) rfl k) ?_
  show own_Ends p.tables e below _ (T1.setTop (mkF m 10 #[.val (.ref a0), .val (.ref a1), .val (.long t), .second, .unset] [(.int (lcmpW t (-1 : Int64)))]))
  by_cases hc10 : t = (-1 : Int64)
  · refine own_step (fun _ k => XS.ifNo X1.here hx rfl (hb hby own_d8_10) rfl ((if0 _ _).trans (teq ((own_lc_eq _ _).mpr hc10)).2) k) ?_
    show own_Ends p.tables e below _ (T1.setTop (mkF m 13 #[.val (.ref a0), .val (.ref a1), .val (.long t), .second, .unset] []))
    refine own_step (fun _ k => XS.aloadN X1.here hx rfl (hb hby own_d8_13) rfl rfl k) ?_
    show own_Ends p.tables e below _ (T1.setTop (mkF m 14 #[.val (.ref a0), .val (.ref a1), .val (.long t), .second, .unset] [(.ref a0)]))
    refine own_step (fun _ k => XS.lconst X1.here hx rfl (hb hby own_d8_14) k) ?_
    show own_Ends p.tables e below _ (T1.setTop (mkF m 15 #[.val (.ref a0), .val (.ref a1), .val (.long t), .second, .unset] [(.long (0 : Int64)), (.ref a0)]))
    obtain ⟨_, _, ⟨T2, L2, k2, n2⟩, -, X2, ⟨Lc2, hQ2, l2, y2, z2⟩, st2⟩ := Jvm.LawKit.callS X1 hx (y := (⟨"com/example/ketchup/ketchup/negentropy/Varint", "encode", "(J)[B"⟩ : MethodName)) hown (mvT hZ (hw _ (List.mem_of_getElem? (i := 67) rfl))) (mvT hZ (hw _ (List.mem_of_getElem? (i := 68) rfl))) (mvT hZ (hw _ (List.mem_of_getElem? (i := 69) rfl))) (mvT hZ (hw _ (List.mem_of_getElem? (i := 70) rfl))) (by decide) (backOf (W := 1) (own_rm_encode l Z aw hw [] (0 : Int64) h0 n0 Z0 ) hZ (hw _ (List.mem_of_getElem? (i := 70) rfl)) (hw _ (List.mem_of_getElem? (i := 69) rfl)) (by decide) (by decide)) (g := (mkF m 15 #[.val (.ref a0), .val (.ref a1), .val (.long t), .second, .unset] [(.long (0 : Int64)), (.ref a0)])) rfl (by rw [hml]; rfl) (argsL := [(.long (0 : Int64))]) (rest := [(.ref a0)]) (lenOf own_pd5 rfl) rfl (by show 2 * 0 + _ ≤ _; exact Nat.le_of_eq rfl) (hb hby own_d8_15) (fun _ _ => ⟨rfl, e1, (by decide : 0 + 2 ≤ _), (by decide : 0 + 20 ≤ _)⟩)
    dsimp only [Pt.U, Pt.locs, Pt.cells, Pt.slots] at X2 l2 y2 z2 st2 hQ2
    subst l2 y2 z2
    obtain ⟨be2, ke2, ne2, ue2, rfl, N2q, k2, ge2, hs2, el2, eu2, Ve2, hd2⟩ := hQ2
    have N_2 := Fr.app N_1 N2q
    have ne_a0_be2 : a0 ≠ be2 := Nat.ne_of_lt (Nat.lt_of_lt_of_le F_buffer.lt hs2)
    have ne_a1_be2 : a1 ≠ be2 := Nat.ne_of_lt (Nat.lt_of_lt_of_le E_a1.lt hs2)
    have ne_bf_be2 : bf ≠ be2 := Nat.ne_of_lt (Nat.lt_of_lt_of_le V_bf.lt hs2)
    have ne_pf_be2 : pf ≠ be2 := Nat.ne_of_lt (Nat.lt_of_lt_of_le V_pf.lt hs2)
    have sz_be2 : h0.size ≤ be2 := Nat.le_trans K0.1 hs2
    have F_buffer_2 := F_buffer.keep k2 nin0
    have F_size_2 := F_size.keep k2 nin0
    have F_previousTimestamp_2 := F_previousTimestamp.keep k2 nin0
    have F_markedSize_2 := F_markedSize.keep k2 nin0
    have F_markedPreviousTimestamp_2 := F_markedPreviousTimestamp.keep k2 nin0
    have E_a0_2 := E_a0.keep k2
    have V_bf_2 := V_bf.keep k2 nin0
    have E_a1_2 := E_a1.keep k2
    have F_t_2 := F_t.keep k2 nin0
    have F_p_2 := F_p.keep k2 nin0
    have V_pf_2 := V_pf.keep k2 nin0
    have K_2 : Keep h0 T2.heap [a0, bf] := K0.trans k2 all0
    have Z_2 : n0 ≤ T2.heap.size := Nat.le_trans Z0 k2.1
    refine own_step st2 ?_
    show own_Ends p.tables e below _ (T2.setTop (mkF m 18 #[.val (.ref a0), .val (.ref a1), .val (.long t), .second, .unset] [(.ref be2), (.ref a0)]))
    obtain ⟨cq3, qz3, qz3'⟩ := E_a0_2.cell
    obtain ⟨_, _, ⟨T3, L3, k3, n3⟩, -, X3, ⟨Lc3, hQ3, l3, y3, z3⟩, st3⟩ := X2.privateBack hx (y := (⟨"com/example/ketchup/ketchup/negentropy/MessageWriter", "write", "([B)V"⟩ : MethodName)) hown (mvT hZ (hw _ (List.mem_of_getElem? (i := 13) rfl))) (mvT hZ (hw _ (List.mem_of_getElem? (i := 14) rfl))) (own_sel_priv (by decide) (mvT hZ (hw _ (List.mem_of_getElem? (i := 2) rfl))) (mvP hZ (hw _ (List.mem_of_getElem? (i := 15) rfl))) (mvT hZ (hw _ (List.mem_of_getElem? (i := 14) rfl)))) (Cond.privateMethod_at (mvP hZ (hw _ (List.mem_of_getElem? (i := 15) rfl)) (args := #[]))) (mvT hZ (hw _ (List.mem_of_getElem? (i := 16) rfl))) (by decide) (backOf (W := 0) (own_rm_write l Z aw hw [] a0 be2 bf kb vs sz pt ms mp ke2 ne2 ue2 T2.heap n0 Z_2 E_a0_2 F_buffer_2 F_size_2 F_previousTimestamp_2 F_markedSize_2 F_markedPreviousTimestamp_2 V_bf_2 hvs ne_ab g_a0 g_bf Ve2 ne_bf_be2 ne_a0_be2 (by omega)) hZ (hw _ (List.mem_of_getElem? (i := 16) rfl)) (hw _ (List.mem_of_getElem? (i := 3) rfl)) (by decide) (by decide)) (g := (mkF m 18 #[.val (.ref a0), .val (.ref a1), .val (.long t), .second, .unset] [(.ref be2), (.ref a0)])) rfl (by rw [hml]; rfl) (Steps.refl _) (a := a0) qz3 qz3' (argsL := [(.ref be2)]) (rest := []) (lenOf own_pd3 rfl) rfl (by show 2 * 0 + _ ≤ _; exact Nat.le_of_eq rfl) (hb hby own_d8_18) (fun _ _ => ⟨rfl, rfl, (by decide : 2 + 0 ≤ _), (by decide : 20 + 0 ≤ _)⟩)
    dsimp only [Pt.U, Pt.locs, Pt.cells, Pt.slots] at X3 l3 y3 z3 st3 hQ3
    subst l3 y3 z3
    obtain ⟨rfl, N3q, k3, Fb3, Fz3, Fp3, Fm3, Fq3, Vb3⟩ := hQ3
    have N_3 := Fr.app N_2 N3q
    have E_a0_3 := E_a0_2.keep k3
    have E_a1_3 := E_a1_2.keep k3
    have F_t_3 := F_t_2.keep k3 (ninS (Ne.symm ne_a1) (ninS (Ne.symm ne_b1) nin0))
    have F_p_3 := F_p_2.keep k3 (ninS (Ne.symm ne_a1) (ninS (Ne.symm ne_b1) nin0))
    have V_pf_3 := V_pf_2.keep k3 (ninS (Ne.symm ne_ap) (ninS (Ne.symm ne_bp) nin0))
    have Ve2_3 := Ve2.keep k3 (ninS (Ne.symm ne_a0_be2) (ninS (Ne.symm ne_bf_be2) nin0))
    have K_3 : Keep h0 T3.heap [a0, bf] := K_2.trans k3 (allS (Or.inl (List.mem_of_getElem? (i := 0) rfl)) (allS (Or.inl (List.mem_of_getElem? (i := 1) rfl)) all0))
    have Z_3 : n0 ≤ T3.heap.size := Nat.le_trans Z_2 k3.1
    have hvs3 : (own_put vs sz ne2 ue2).length = 256 := by rw [own_put_len (by rw [hvs]; omega)]; exact hvs
    refine own_step (fun _ k => st3.trans k) ?_
    show own_Ends p.tables e below _ (T3.setTop (mkF m 21 #[.val (.ref a0), .val (.ref a1), .val (.long t), .second, .unset] []))
    refine own_step (fun _ k => XS.goto X3.here hx rfl (pc0 := 21) (pc' := 39) rfl (hb hby own_d8_21) (by decide) (by decide) k) ?_
    show own_Ends p.tables e below _ (T3.setTop (mkF m 39 #[.val (.ref a0), .val (.ref a1), .val (.long t), .second, .unset] []))
    refine own_step (fun _ k => XS.aloadN X3.here hx rfl (hb hby own_d8_39) rfl rfl k) ?_
    show own_Ends p.tables e below _ (T3.setTop (mkF m 40 #[.val (.ref a0), .val (.ref a1), .val (.long t), .second, .unset] [(.ref a0)]))
    refine own_step (fun _ k => XS.lloadN X3.here hx rfl (hb hby own_d8_40) rfl k) ?_
    show own_Ends p.tables e below _ (T3.setTop (mkF m 41 #[.val (.ref a0), .val (.ref a1), .val (.long t), .second, .unset] [(.long t), (.ref a0)]))
    obtain ⟨T4, h4, X4, e4, W4, st4⟩ := putF X3 hx hZ hown (host := "") (Or.inl (hw _ (List.mem_of_getElem? (i := 30) rfl))) Via.refl rfl Fp3 E_a0_3 (Or.inl (hw _ (List.mem_of_getElem? (i := 31) rfl))) (hw _ (List.mem_of_getElem? (i := 2) rfl)) (ty := .long) (by decide) rfl rfl (g := (mkF m 41 #[.val (.ref a0), .val (.ref a1), .val (.long t), .second, .unset] [(.long t), (.ref a0)])) rfl rfl (hb hby own_d8_41)
    refine own_step st4 ?_
    have E_a0_4 := E_a0_3.wr W4
    have E_a1_4 := E_a1_3.wr W4
    have F_t_4 := F_t_3.other W4 (Or.inl (Ne.symm ne_a1))
    have F_p_4 := F_p_3.other W4 (Or.inl (Ne.symm ne_a1))
    have V_pf_4 := V_pf_3.other W4 (Ne.symm ne_ap)
    have Ve2_4 := Ve2_3.other W4 (Ne.symm ne_a0_be2)
    have Fb3_4 := Fb3.other W4 (Or.inr (slot_ne (Or.inl (hw _ (List.mem_of_getElem? (i := 12) rfl))) (Or.inl (hw _ (List.mem_of_getElem? (i := 31) rfl))) (by decide) (t := (.array .byte)) (t' := .long) (by decide) (by decide)))
    have Fz3_4 := Fz3.other W4 (Or.inr (slot_ne (Or.inl (hw _ (List.mem_of_getElem? (i := 18) rfl))) (Or.inl (hw _ (List.mem_of_getElem? (i := 31) rfl))) (by decide) (t := .int) (t' := .long) (by decide) (by decide)))
    have Fp3_4 := Fp3.same W4
    have Fm3_4 := Fm3.other W4 (Or.inr (slot_ne (Or.inl (hw _ (List.mem_of_getElem? (i := 29) rfl))) (Or.inl (hw _ (List.mem_of_getElem? (i := 31) rfl))) (by decide) (t := .int) (t' := .long) (by decide) (by decide)))
    have Fq3_4 := Fq3.other W4 (Or.inr (slot_ne (Or.inl (hw _ (List.mem_of_getElem? (i := 33) rfl))) (Or.inl (hw _ (List.mem_of_getElem? (i := 31) rfl))) (by decide) (t := .long) (t' := .long) (by decide) (by decide)))
    have Vb3_4 := Vb3.other W4 (Ne.symm ne_ab)
    have K_4 : Keep h0 h4 [a0, bf] := K_3.wr W4 (Or.inl (List.mem_of_getElem? (i := 0) rfl))
    have Z_4 : n0 ≤ h4.size := Nat.le_trans Z_3 (Keep.of_wr W4).1
    have N_4 := Fr.snoc X4 N_3 g_a0
    show own_Ends p.tables e below _ (T4.setTop (mkF m 44 #[.val (.ref a0), .val (.ref a1), .val (.long t), .second, .unset] []))
    refine own_step (fun _ k => XS.aloadN X4.here hx rfl (hb hby own_d8_44) rfl rfl k) ?_
    show own_Ends p.tables e below _ (T4.setTop (mkF m 45 #[.val (.ref a0), .val (.ref a1), .val (.long t), .second, .unset] [(.ref a1)]))
    obtain ⟨cq5, kq5, q5a, q5b, q5c⟩ := isOf hZ e4 E_a1_4
    obtain ⟨_, _, ⟨T5, L5, k5, n5⟩, -, X5, ⟨Lc5, hQ5, l5, y5, z5⟩, st5⟩ := X4.virtualBack hx (y := (⟨"com/example/ketchup/ketchup/negentropy/Bound", "prefix", "()[B"⟩ : MethodName)) (z := (⟨"com/example/ketchup/ketchup/negentropy/Bound", "prefix", "()[B"⟩ : MethodName)) hown (mvT hZ (hw _ (List.mem_of_getElem? (i := 73) rfl))) (mvT hZ (hw _ (List.mem_of_getElem? (i := 74) rfl))) (notFace_of_selects (args := #[]) (mvT hZ (hw _ (List.mem_of_getElem? (i := 76) rfl)))) (mvT hZ (hw _ (List.mem_of_getElem? (i := 76) rfl))) (mvT hZ (hw _ (List.mem_of_getElem? (i := 75) rfl))) (by decide) (backOf (W := 0) (own_rm_prefix l Z aw hw [] a1 pf h4 n0 Z_4 F_p_4) hZ (hw _ (List.mem_of_getElem? (i := 77) rfl)) (hw _ (List.mem_of_getElem? (i := 47) rfl)) (by decide) (by decide)) q5a q5c (g := (mkF m 45 #[.val (.ref a0), .val (.ref a1), .val (.long t), .second, .unset] [(.ref a1)])) rfl (by rw [hml]; rfl) (Steps.refl _) (argsL := []) (rest := []) (lenOf own_pd6 rfl) rfl (by show 2 * 0 + _ ≤ _; exact Nat.le_of_eq rfl) (hb hby own_d8_45) (fun _ _ => ⟨rfl, e4, (by decide : 2 + 0 ≤ _), (by decide : 20 + 0 ≤ _)⟩)
    dsimp only [Pt.U, Pt.locs, Pt.cells, Pt.slots] at X5 l5 y5 z5 st5 hQ5
    subst l5 y5 z5
    obtain ⟨rfl, N5q, e5⟩ := hQ5
    have N_5 := Fr.app N_4 N5q
    refine own_step (fun _ k => st5.trans k) ?_
    show own_Ends p.tables e below _ (T5.setTop (mkF m 48 #[.val (.ref a0), .val (.ref a1), .val (.long t), .second, .unset] [(.ref pf)]))
    refine own_step (fun _ k => XS.astore X5.here hx rfl (hb hby own_d8_48) rfl rfl (l' := #[.val (.ref a0), .val (.ref a1), .val (.long t), .second, .val (.ref pf)]) rfl k) ?_
    show own_Ends p.tables e below _ (T5.setTop (mkF m 50 #[.val (.ref a0), .val (.ref a1), .val (.long t), .second, .val (.ref pf)] []))
    refine own_step (fun _ k => XS.aloadN X5.here hx rfl (hb hby own_d8_50) rfl rfl k) ?_
    show own_Ends p.tables e below _ (T5.setTop (mkF m 51 #[.val (.ref a0), .val (.ref a1), .val (.long t), .second, .val (.ref pf)] [(.ref a0)]))
    refine own_step (fun _ k => XS.aload X5.here hx rfl (hb hby own_d8_51) rfl rfl k) ?_
    show own_Ends p.tables e below _ (T5.setTop (mkF m 53 #[.val (.ref a0), .val (.ref a1), .val (.long t), .second, .val (.ref pf)] [(.ref pf), (.ref a0)]))
    obtain ⟨cl6, Ar6, q6, S6, Nn6, H6, G6⟩ := id V_pf_4
    refine own_step (fun _ k => X5.arraylength hx (by rw [e5]; exact Ar6.1) (State.isArrayOf_alike hZ.alike Ar6.2.1) (g := (mkF m 53 #[.val (.ref a0), .val (.ref a1), .val (.long t), .second, .val (.ref pf)] [(.ref pf), (.ref a0)])) rfl rfl (hb hby own_d8_53) _ k) ?_
    rw [len_of S6 Nn6]
    show own_Ends p.tables e below _ (T5.setTop (mkF m 54 #[.val (.ref a0), .val (.ref a1), .val (.long t), .second, .val (.ref pf)] [(.int (Int32.ofNat np)), (.ref a0)]))
    refine own_step (fun _ k => XS.i2l X5.here hx rfl (hb hby own_d8_54) rfl k) ?_
    show own_Ends p.tables e below _ (T5.setTop (mkF m 55 #[.val (.ref a0), .val (.ref a1), .val (.long t), .second, .val (.ref pf)] [(.long ((Int32.ofNat np).toInt64)), (.ref a0)]))
    obtain ⟨_, _, ⟨T7, L7, k7, n7⟩, -, X7, ⟨Lc7, hQ7, l7, y7, z7⟩, st7⟩ := Jvm.LawKit.callS X5 hx (y := (⟨"com/example/ketchup/ketchup/negentropy/Varint", "encode", "(J)[B"⟩ : MethodName)) hown (mvT hZ (hw _ (List.mem_of_getElem? (i := 67) rfl))) (mvT hZ (hw _ (List.mem_of_getElem? (i := 68) rfl))) (mvT hZ (hw _ (List.mem_of_getElem? (i := 69) rfl))) (mvT hZ (hw _ (List.mem_of_getElem? (i := 70) rfl))) (by decide) (backOf (W := 1) (own_rm_encode l Z aw hw [] ((Int32.ofNat np).toInt64) h4 n0 Z_4 ) hZ (hw _ (List.mem_of_getElem? (i := 70) rfl)) (hw _ (List.mem_of_getElem? (i := 69) rfl)) (by decide) (by decide)) (g := (mkF m 55 #[.val (.ref a0), .val (.ref a1), .val (.long t), .second, .val (.ref pf)] [(.long ((Int32.ofNat np).toInt64)), (.ref a0)])) rfl (by rw [hml]; rfl) (argsL := [(.long ((Int32.ofNat np).toInt64))]) (rest := [(.ref a0)]) (lenOf own_pd5 rfl) rfl (by show 2 * 0 + _ ≤ _; exact Nat.le_of_eq rfl) (hb hby own_d8_55) (fun _ _ => ⟨rfl, e5, (by decide : 2 + 2 ≤ _), (by decide : 20 + 20 ≤ _)⟩)
    dsimp only [Pt.U, Pt.locs, Pt.cells, Pt.slots] at X7 l7 y7 z7 st7 hQ7
    subst l7 y7 z7
    obtain ⟨be7, ke7, ne7, ue7, rfl, N7q, k7, ge7, hs7, el7, eu7, Ve7, hd7⟩ := hQ7
    have N_7 := Fr.app N_5 N7q
    have ne_a0_be7 : a0 ≠ be7 := Nat.ne_of_lt (Nat.lt_of_lt_of_le E_a0_4.lt hs7)
    have ne_a1_be7 : a1 ≠ be7 := Nat.ne_of_lt (Nat.lt_of_lt_of_le E_a1_4.lt hs7)
    have ne_bf_be7 : bf ≠ be7 := Nat.ne_of_lt (Nat.lt_of_lt_of_le Vb3_4.lt hs7)
    have ne_pf_be7 : pf ≠ be7 := Nat.ne_of_lt (Nat.lt_of_lt_of_le V_pf_4.lt hs7)
    have ne_be2_be7 : be2 ≠ be7 := Nat.ne_of_lt (Nat.lt_of_lt_of_le Ve2_4.lt hs7)
    have sz_be7 : h0.size ≤ be7 := Nat.le_trans K_4.1 hs7
    have E_a0_7 := E_a0_4.keep k7
    have E_a1_7 := E_a1_4.keep k7
    have F_t_7 := F_t_4.keep k7 nin0
    have F_p_7 := F_p_4.keep k7 nin0
    have V_pf_7 := V_pf_4.keep k7 nin0
    have Ve2_7 := Ve2_4.keep k7 nin0
    have Fb3_7 := Fb3_4.keep k7 nin0
    have Fz3_7 := Fz3_4.keep k7 nin0
    have Fp3_7 := Fp3_4.keep k7 nin0
    have Fm3_7 := Fm3_4.keep k7 nin0
    have Fq3_7 := Fq3_4.keep k7 nin0
    have Vb3_7 := Vb3_4.keep k7 nin0
    have K_7 : Keep h0 T7.heap [a0, bf] := K_4.trans k7 all0
    have Z_7 : n0 ≤ T7.heap.size := Nat.le_trans Z_4 k7.1
    refine own_step st7 ?_
    show own_Ends p.tables e below _ (T7.setTop (mkF m 58 #[.val (.ref a0), .val (.ref a1), .val (.long t), .second, .val (.ref pf)] [(.ref be7), (.ref a0)]))
    obtain ⟨cq8, qz8, qz8'⟩ := E_a0_7.cell
    obtain ⟨_, _, ⟨T8, L8, k8, n8⟩, -, X8, ⟨Lc8, hQ8, l8, y8, z8⟩, st8⟩ := X7.privateBack hx (y := (⟨"com/example/ketchup/ketchup/negentropy/MessageWriter", "write", "([B)V"⟩ : MethodName)) hown (mvT hZ (hw _ (List.mem_of_getElem? (i := 13) rfl))) (mvT hZ (hw _ (List.mem_of_getElem? (i := 14) rfl))) (own_sel_priv (by decide) (mvT hZ (hw _ (List.mem_of_getElem? (i := 2) rfl))) (mvP hZ (hw _ (List.mem_of_getElem? (i := 15) rfl))) (mvT hZ (hw _ (List.mem_of_getElem? (i := 14) rfl)))) (Cond.privateMethod_at (mvP hZ (hw _ (List.mem_of_getElem? (i := 15) rfl)) (args := #[]))) (mvT hZ (hw _ (List.mem_of_getElem? (i := 16) rfl))) (by decide) (backOf (W := 0) (own_rm_write l Z aw hw [] a0 be7 bf kb (own_put vs sz ne2 ue2) (sz + ne2) t ms mp ke7 ne7 ue7 T7.heap n0 Z_7 E_a0_7 Fb3_7 Fz3_7 Fp3_7 Fm3_7 Fq3_7 Vb3_7 hvs3 ne_ab g_a0 g_bf Ve7 ne_bf_be7 ne_a0_be7 (by omega)) hZ (hw _ (List.mem_of_getElem? (i := 16) rfl)) (hw _ (List.mem_of_getElem? (i := 3) rfl)) (by decide) (by decide)) (g := (mkF m 58 #[.val (.ref a0), .val (.ref a1), .val (.long t), .second, .val (.ref pf)] [(.ref be7), (.ref a0)])) rfl (by rw [hml]; rfl) (Steps.refl _) (a := a0) qz8 qz8' (argsL := [(.ref be7)]) (rest := []) (lenOf own_pd3 rfl) rfl (by show 2 * 0 + _ ≤ _; exact Nat.le_of_eq rfl) (hb hby own_d8_58) (fun _ _ => ⟨rfl, rfl, (by decide : 4 + 0 ≤ _), (by decide : 40 + 0 ≤ _)⟩)
    dsimp only [Pt.U, Pt.locs, Pt.cells, Pt.slots] at X8 l8 y8 z8 st8 hQ8
    subst l8 y8 z8
    obtain ⟨rfl, N8q, k8, Fb8, Fz8, Fp8, Fm8, Fq8, Vb8⟩ := hQ8
    have N_8 := Fr.app N_7 N8q
    have E_a0_8 := E_a0_7.keep k8
    have E_a1_8 := E_a1_7.keep k8
    have F_t_8 := F_t_7.keep k8 (ninS (Ne.symm ne_a1) (ninS (Ne.symm ne_b1) nin0))
    have F_p_8 := F_p_7.keep k8 (ninS (Ne.symm ne_a1) (ninS (Ne.symm ne_b1) nin0))
    have V_pf_8 := V_pf_7.keep k8 (ninS (Ne.symm ne_ap) (ninS (Ne.symm ne_bp) nin0))
    have Ve2_8 := Ve2_7.keep k8 (ninS (Ne.symm ne_a0_be2) (ninS (Ne.symm ne_bf_be2) nin0))
    have Ve7_8 := Ve7.keep k8 (ninS (Ne.symm ne_a0_be7) (ninS (Ne.symm ne_bf_be7) nin0))
    have K_8 : Keep h0 T8.heap [a0, bf] := K_7.trans k8 (allS (Or.inl (List.mem_of_getElem? (i := 0) rfl)) (allS (Or.inl (List.mem_of_getElem? (i := 1) rfl)) all0))
    have Z_8 : n0 ≤ T8.heap.size := Nat.le_trans Z_7 k8.1
    have hvs8 : (own_put (own_put vs sz ne2 ue2) (sz + ne2) ne7 ue7).length = 256 := by rw [own_put_len (by rw [hvs3]; omega)]; exact hvs3
    refine own_step (fun _ k => st8.trans k) ?_
    show own_Ends p.tables e below _ (T8.setTop (mkF m 61 #[.val (.ref a0), .val (.ref a1), .val (.long t), .second, .val (.ref pf)] []))
    refine own_step (fun _ k => XS.aloadN X8.here hx rfl (hb hby own_d8_61) rfl rfl k) ?_
    show own_Ends p.tables e below _ (T8.setTop (mkF m 62 #[.val (.ref a0), .val (.ref a1), .val (.long t), .second, .val (.ref pf)] [(.ref a0)]))
    refine own_step (fun _ k => XS.aload X8.here hx rfl (hb hby own_d8_62) rfl rfl k) ?_
    show own_Ends p.tables e below _ (T8.setTop (mkF m 64 #[.val (.ref a0), .val (.ref a1), .val (.long t), .second, .val (.ref pf)] [(.ref pf), (.ref a0)]))
    obtain ⟨cq9, qz9, qz9'⟩ := E_a0_8.cell
    obtain ⟨_, _, ⟨T9, L9, k9, n9⟩, -, X9, ⟨Lc9, hQ9, l9, y9, z9⟩, st9⟩ := X8.privateBack hx (y := (⟨"com/example/ketchup/ketchup/negentropy/MessageWriter", "write", "([B)V"⟩ : MethodName)) hown (mvT hZ (hw _ (List.mem_of_getElem? (i := 13) rfl))) (mvT hZ (hw _ (List.mem_of_getElem? (i := 14) rfl))) (own_sel_priv (by decide) (mvT hZ (hw _ (List.mem_of_getElem? (i := 2) rfl))) (mvP hZ (hw _ (List.mem_of_getElem? (i := 15) rfl))) (mvT hZ (hw _ (List.mem_of_getElem? (i := 14) rfl)))) (Cond.privateMethod_at (mvP hZ (hw _ (List.mem_of_getElem? (i := 15) rfl)) (args := #[]))) (mvT hZ (hw _ (List.mem_of_getElem? (i := 16) rfl))) (by decide) (backOf (W := 0) (own_rm_write l Z aw hw [] a0 pf bf kb (own_put (own_put vs sz ne2 ue2) (sz + ne2) ne7 ue7) (sz + ne2 + ne7) t ms mp kp np up T8.heap n0 Z_8 E_a0_8 Fb8 Fz8 Fp8 Fm8 Fq8 Vb8 hvs8 ne_ab g_a0 g_bf V_pf_8 ne_bp ne_ap (by omega)) hZ (hw _ (List.mem_of_getElem? (i := 16) rfl)) (hw _ (List.mem_of_getElem? (i := 3) rfl)) (by decide) (by decide)) (g := (mkF m 64 #[.val (.ref a0), .val (.ref a1), .val (.long t), .second, .val (.ref pf)] [(.ref pf), (.ref a0)])) rfl (by rw [hml]; rfl) (Steps.refl _) (a := a0) qz9 qz9' (argsL := [(.ref pf)]) (rest := []) (lenOf own_pd3 rfl) rfl (by show 2 * 0 + _ ≤ _; exact Nat.le_of_eq rfl) (hb hby own_d8_64) (fun _ _ => ⟨rfl, rfl, (by decide : 4 + 0 ≤ _), (by decide : 40 + 0 ≤ _)⟩)
    dsimp only [Pt.U, Pt.locs, Pt.cells, Pt.slots] at X9 l9 y9 z9 st9 hQ9
    subst l9 y9 z9
    obtain ⟨rfl, N9q, k9, Fb9, Fz9, Fp9, Fm9, Fq9, Vb9⟩ := hQ9
    have N_9 := Fr.app N_8 N9q
    have E_a0_9 := E_a0_8.keep k9
    have E_a1_9 := E_a1_8.keep k9
    have F_t_9 := F_t_8.keep k9 (ninS (Ne.symm ne_a1) (ninS (Ne.symm ne_b1) nin0))
    have F_p_9 := F_p_8.keep k9 (ninS (Ne.symm ne_a1) (ninS (Ne.symm ne_b1) nin0))
    have V_pf_9 := V_pf_8.keep k9 (ninS (Ne.symm ne_ap) (ninS (Ne.symm ne_bp) nin0))
    have Ve2_9 := Ve2_8.keep k9 (ninS (Ne.symm ne_a0_be2) (ninS (Ne.symm ne_bf_be2) nin0))
    have Ve7_9 := Ve7_8.keep k9 (ninS (Ne.symm ne_a0_be7) (ninS (Ne.symm ne_bf_be7) nin0))
    have K_9 : Keep h0 T9.heap [a0, bf] := K_8.trans k9 (allS (Or.inl (List.mem_of_getElem? (i := 0) rfl)) (allS (Or.inl (List.mem_of_getElem? (i := 1) rfl)) all0))
    have Z_9 : n0 ≤ T9.heap.size := Nat.le_trans Z_8 k9.1
    have hvs9 : (own_put (own_put (own_put vs sz ne2 ue2) (sz + ne2) ne7 ue7) (sz + ne2 + ne7) np up).length = 256 := by rw [own_put_len (by rw [hvs8]; omega)]; exact hvs8
    refine own_step (fun _ k => st9.trans k) ?_
    show own_Ends p.tables e below _ (T9.setTop (mkF m 67 #[.val (.ref a0), .val (.ref a1), .val (.long t), .second, .val (.ref pf)] []))
    have he1 : own_enc t pt = (0 : Int64) := if_pos hc10
    obtain ⟨hn2, hu2⟩ := hd7 (by rw [(own_np np (by omega)).1]; omega)
    rw [(own_np np (by omega)).2] at hu2
    have hlen1 : (own_put vs sz ne2 ue2).length = 256 := by rw [own_put_len (by rw [hvs]; omega)]; exact hvs
    have hlen2 : (own_put (own_put vs sz ne2 ue2) (sz + ne2) ne7 ue7).length = 256 := by rw [own_put_len (by rw [hlen1]; omega)]; exact hlen1
    have hlow : ∀ i, i < sz → (own_put (own_put (own_put vs sz ne2 ue2) (sz + ne2) ne7 ue7) (sz + ne2 + ne7) np up).getD i (Value.int (0 : Int32)) = vs.getD i (Value.int (0 : Int32)) := fun i hi => by rw [own_put_lo _ (by rw [hlen2]; omega) (by omega), own_put_lo _ (by rw [hlen1]; omega) (by omega), own_put_lo _ (by rw [hvs]; omega) (by omega)]
    have hsma : (own_enc t pt).toUInt64.toNat < 128 → ne2 = 1 ∧ (own_put (own_put (own_put vs sz ne2 ue2) (sz + ne2) ne7 ue7) (sz + ne2 + ne7) np up).getD sz (Value.int (0 : Int32)) = Value.int (own_enc t pt).toInt32 ∧ (own_put (own_put (own_put vs sz ne2 ue2) (sz + ne2) ne7 ue7) (sz + ne2 + ne7) np up).getD (sz + 1) (Value.int (0 : Int32)) = Value.int (Int32.ofNat np) := by
      intro hsmall
      rw [he1] at hsmall ⊢
      obtain ⟨hn1, hu1⟩ := hd2 hsmall
      have q1 := own_put_at (i := 0) (us := ue2) (sz := sz) (n := ne2) (Value.int (0 : Int32)) (vs := vs) (by rw [hvs]; omega) (by omega)
      have q2 := own_put_at (i := 0) (us := ue7) (sz := sz + ne2) (n := ne7) (Value.int (0 : Int32)) (vs := own_put vs sz ne2 ue2) (by rw [hlen1]; omega) (by omega)
      refine ⟨hn1, ?_, ?_⟩
      · rw [own_put_lo _ (by rw [hlen2]; omega) (by omega), own_put_lo _ (by rw [hlen1]; omega) (by omega)]; exact q1.trans hu1
      · rw [show sz + 1 = sz + ne2 by omega, own_put_lo _ (by rw [hlen2]; omega) (by omega)]; exact q2.trans hu2
    exact own_ret0 X9 hx hlk (by decide) (by decide) Bd.returns (hb hby own_d8_67) (⟨rfl, N_9, K_9, ne2, _, el2, eu2, Fb9, (by have q := Fz9; rw [show sz + ne2 + ne7 + np = sz + ne2 + 1 + np by omega] at q; exact q), Fp9, Fm9, Fq9, Vb9, hvs9, hlow, hsma⟩)
  · refine own_step (fun _ k => XS.ifYes X1.here hx rfl (pc0 := 10) (pc' := 24) rfl (hb hby own_d8_10) rfl ((if0 _ _).trans (feq (fun q => hc10 ((own_lc_eq _ _).mp q))).2) (by decide) (by decide) k) ?_
    show own_Ends p.tables e below _ (T1.setTop (mkF m 24 #[.val (.ref a0), .val (.ref a1), .val (.long t), .second, .unset] []))
    refine own_step (fun _ k => XS.aloadN X1.here hx rfl (hb hby own_d8_24) rfl rfl k) ?_
    show own_Ends p.tables e below _ (T1.setTop (mkF m 25 #[.val (.ref a0), .val (.ref a1), .val (.long t), .second, .unset] [(.ref a0)]))
    refine own_step (fun _ k => XS.lloadN X1.here hx rfl (hb hby own_d8_25) rfl k) ?_
    show own_Ends p.tables e below _ (T1.setTop (mkF m 26 #[.val (.ref a0), .val (.ref a1), .val (.long t), .second, .unset] [(.long t), (.ref a0)]))
    refine own_step (fun _ k => XS.aloadN X1.here hx rfl (hb hby own_d8_26) rfl rfl k) ?_
    show own_Ends p.tables e below _ (T1.setTop (mkF m 27 #[.val (.ref a0), .val (.ref a1), .val (.long t), .second, .unset] [(.ref a0), (.long t), (.ref a0)]))
    obtain ⟨T10, X10, e10, st10⟩ := getF X1 hx hZ hown (host := "") (Or.inl (hw _ (List.mem_of_getElem? (i := 30) rfl))) Via.refl e1 F_previousTimestamp (g := (mkF m 27 #[.val (.ref a0), .val (.ref a1), .val (.long t), .second, .unset] [(.ref a0), (.long t), (.ref a0)])) rfl rfl (hb hby own_d8_27)
    refine own_step st10 ?_
    show own_Ends p.tables e below _ (T10.setTop (mkF m 30 #[.val (.ref a0), .val (.ref a1), .val (.long t), .second, .unset] [(.long pt), (.long t), (.ref a0)]))
    refine own_step (fun _ k => XS.lsub X10.here hx rfl (hb hby own_d8_30) rfl k) ?_
    show own_Ends p.tables e below _ (T10.setTop (mkF m 31 #[.val (.ref a0), .val (.ref a1), .val (.long t), .second, .unset] [(.long (t - pt)), (.ref a0)]))
    refine own_step (fun _ k => XS.lconst X10.here hx rfl (hb hby own_d8_31) k) ?_
    show own_Ends p.tables e below _ (T10.setTop (mkF m 32 #[.val (.ref a0), .val (.ref a1), .val (.long t), .second, .unset] [(.long (1 : Int64)), (.long (t - pt)), (.ref a0)]))
    refine own_step (fun _ k => XS.ladd X10.here hx rfl (hb hby own_d8_32) rfl k) ?_
    show own_Ends p.tables e below _ (T10.setTop (mkF m 33 #[.val (.ref a0), .val (.ref a1), .val (.long t), .second, .unset] [(.long ((t - pt) + (1 : Int64))), (.ref a0)]))
    obtain ⟨_, _, ⟨T11, L11, k11, n11⟩, -, X11, ⟨Lc11, hQ11, l11, y11, z11⟩, st11⟩ := Jvm.LawKit.callS X10 hx (y := (⟨"com/example/ketchup/ketchup/negentropy/Varint", "encode", "(J)[B"⟩ : MethodName)) hown (mvT hZ (hw _ (List.mem_of_getElem? (i := 67) rfl))) (mvT hZ (hw _ (List.mem_of_getElem? (i := 68) rfl))) (mvT hZ (hw _ (List.mem_of_getElem? (i := 69) rfl))) (mvT hZ (hw _ (List.mem_of_getElem? (i := 70) rfl))) (by decide) (backOf (W := 1) (own_rm_encode l Z aw hw [] ((t - pt) + (1 : Int64)) h0 n0 Z0 ) hZ (hw _ (List.mem_of_getElem? (i := 70) rfl)) (hw _ (List.mem_of_getElem? (i := 69) rfl)) (by decide) (by decide)) (g := (mkF m 33 #[.val (.ref a0), .val (.ref a1), .val (.long t), .second, .unset] [(.long ((t - pt) + (1 : Int64))), (.ref a0)])) rfl (by rw [hml]; rfl) (argsL := [(.long ((t - pt) + (1 : Int64)))]) (rest := [(.ref a0)]) (lenOf own_pd5 rfl) rfl (by show 2 * 0 + _ ≤ _; exact Nat.le_of_eq rfl) (hb hby own_d8_33) (fun _ _ => ⟨rfl, e10, (by decide : 0 + 2 ≤ _), (by decide : 0 + 20 ≤ _)⟩)
    dsimp only [Pt.U, Pt.locs, Pt.cells, Pt.slots] at X11 l11 y11 z11 st11 hQ11
    subst l11 y11 z11
    obtain ⟨be11, ke11, ne11, ue11, rfl, N11q, k11, ge11, hs11, el11, eu11, Ve11, hd11⟩ := hQ11
    have N_11 := Fr.app N_1 N11q
    have ne_a0_be11 : a0 ≠ be11 := Nat.ne_of_lt (Nat.lt_of_lt_of_le F_buffer.lt hs11)
    have ne_a1_be11 : a1 ≠ be11 := Nat.ne_of_lt (Nat.lt_of_lt_of_le E_a1.lt hs11)
    have ne_bf_be11 : bf ≠ be11 := Nat.ne_of_lt (Nat.lt_of_lt_of_le V_bf.lt hs11)
    have ne_pf_be11 : pf ≠ be11 := Nat.ne_of_lt (Nat.lt_of_lt_of_le V_pf.lt hs11)
    have sz_be11 : h0.size ≤ be11 := Nat.le_trans K0.1 hs11
    have F_buffer_11 := F_buffer.keep k11 nin0
    have F_size_11 := F_size.keep k11 nin0
    have F_previousTimestamp_11 := F_previousTimestamp.keep k11 nin0
    have F_markedSize_11 := F_markedSize.keep k11 nin0
    have F_markedPreviousTimestamp_11 := F_markedPreviousTimestamp.keep k11 nin0
    have E_a0_11 := E_a0.keep k11
    have V_bf_11 := V_bf.keep k11 nin0
    have E_a1_11 := E_a1.keep k11
    have F_t_11 := F_t.keep k11 nin0
    have F_p_11 := F_p.keep k11 nin0
    have V_pf_11 := V_pf.keep k11 nin0
    have K_11 : Keep h0 T11.heap [a0, bf] := K0.trans k11 all0
    have Z_11 : n0 ≤ T11.heap.size := Nat.le_trans Z0 k11.1
    refine own_step st11 ?_
    show own_Ends p.tables e below _ (T11.setTop (mkF m 36 #[.val (.ref a0), .val (.ref a1), .val (.long t), .second, .unset] [(.ref be11), (.ref a0)]))
    obtain ⟨cq12, qz12, qz12'⟩ := E_a0_11.cell
    obtain ⟨_, _, ⟨T12, L12, k12, n12⟩, -, X12, ⟨Lc12, hQ12, l12, y12, z12⟩, st12⟩ := X11.privateBack hx (y := (⟨"com/example/ketchup/ketchup/negentropy/MessageWriter", "write", "([B)V"⟩ : MethodName)) hown (mvT hZ (hw _ (List.mem_of_getElem? (i := 13) rfl))) (mvT hZ (hw _ (List.mem_of_getElem? (i := 14) rfl))) (own_sel_priv (by decide) (mvT hZ (hw _ (List.mem_of_getElem? (i := 2) rfl))) (mvP hZ (hw _ (List.mem_of_getElem? (i := 15) rfl))) (mvT hZ (hw _ (List.mem_of_getElem? (i := 14) rfl)))) (Cond.privateMethod_at (mvP hZ (hw _ (List.mem_of_getElem? (i := 15) rfl)) (args := #[]))) (mvT hZ (hw _ (List.mem_of_getElem? (i := 16) rfl))) (by decide) (backOf (W := 0) (own_rm_write l Z aw hw [] a0 be11 bf kb vs sz pt ms mp ke11 ne11 ue11 T11.heap n0 Z_11 E_a0_11 F_buffer_11 F_size_11 F_previousTimestamp_11 F_markedSize_11 F_markedPreviousTimestamp_11 V_bf_11 hvs ne_ab g_a0 g_bf Ve11 ne_bf_be11 ne_a0_be11 (by omega)) hZ (hw _ (List.mem_of_getElem? (i := 16) rfl)) (hw _ (List.mem_of_getElem? (i := 3) rfl)) (by decide) (by decide)) (g := (mkF m 36 #[.val (.ref a0), .val (.ref a1), .val (.long t), .second, .unset] [(.ref be11), (.ref a0)])) rfl (by rw [hml]; rfl) (Steps.refl _) (a := a0) qz12 qz12' (argsL := [(.ref be11)]) (rest := []) (lenOf own_pd3 rfl) rfl (by show 2 * 0 + _ ≤ _; exact Nat.le_of_eq rfl) (hb hby own_d8_36) (fun _ _ => ⟨rfl, rfl, (by decide : 2 + 0 ≤ _), (by decide : 20 + 0 ≤ _)⟩)
    dsimp only [Pt.U, Pt.locs, Pt.cells, Pt.slots] at X12 l12 y12 z12 st12 hQ12
    subst l12 y12 z12
    obtain ⟨rfl, N12q, k12, Fb12, Fz12, Fp12, Fm12, Fq12, Vb12⟩ := hQ12
    have N_12 := Fr.app N_11 N12q
    have E_a0_12 := E_a0_11.keep k12
    have E_a1_12 := E_a1_11.keep k12
    have F_t_12 := F_t_11.keep k12 (ninS (Ne.symm ne_a1) (ninS (Ne.symm ne_b1) nin0))
    have F_p_12 := F_p_11.keep k12 (ninS (Ne.symm ne_a1) (ninS (Ne.symm ne_b1) nin0))
    have V_pf_12 := V_pf_11.keep k12 (ninS (Ne.symm ne_ap) (ninS (Ne.symm ne_bp) nin0))
    have Ve11_12 := Ve11.keep k12 (ninS (Ne.symm ne_a0_be11) (ninS (Ne.symm ne_bf_be11) nin0))
    have K_12 : Keep h0 T12.heap [a0, bf] := K_11.trans k12 (allS (Or.inl (List.mem_of_getElem? (i := 0) rfl)) (allS (Or.inl (List.mem_of_getElem? (i := 1) rfl)) all0))
    have Z_12 : n0 ≤ T12.heap.size := Nat.le_trans Z_11 k12.1
    have hvs12 : (own_put vs sz ne11 ue11).length = 256 := by rw [own_put_len (by rw [hvs]; omega)]; exact hvs
    refine own_step (fun _ k => st12.trans k) ?_
    show own_Ends p.tables e below _ (T12.setTop (mkF m 39 #[.val (.ref a0), .val (.ref a1), .val (.long t), .second, .unset] []))
    refine own_step (fun _ k => XS.aloadN X12.here hx rfl (hb hby own_d8_39) rfl rfl k) ?_
    show own_Ends p.tables e below _ (T12.setTop (mkF m 40 #[.val (.ref a0), .val (.ref a1), .val (.long t), .second, .unset] [(.ref a0)]))
    refine own_step (fun _ k => XS.lloadN X12.here hx rfl (hb hby own_d8_40) rfl k) ?_
    show own_Ends p.tables e below _ (T12.setTop (mkF m 41 #[.val (.ref a0), .val (.ref a1), .val (.long t), .second, .unset] [(.long t), (.ref a0)]))
    obtain ⟨T13, h13, X13, e13, W13, st13⟩ := putF X12 hx hZ hown (host := "") (Or.inl (hw _ (List.mem_of_getElem? (i := 30) rfl))) Via.refl rfl Fp12 E_a0_12 (Or.inl (hw _ (List.mem_of_getElem? (i := 31) rfl))) (hw _ (List.mem_of_getElem? (i := 2) rfl)) (ty := .long) (by decide) rfl rfl (g := (mkF m 41 #[.val (.ref a0), .val (.ref a1), .val (.long t), .second, .unset] [(.long t), (.ref a0)])) rfl rfl (hb hby own_d8_41)
    refine own_step st13 ?_
    have E_a0_13 := E_a0_12.wr W13
    have E_a1_13 := E_a1_12.wr W13
    have F_t_13 := F_t_12.other W13 (Or.inl (Ne.symm ne_a1))
    have F_p_13 := F_p_12.other W13 (Or.inl (Ne.symm ne_a1))
    have V_pf_13 := V_pf_12.other W13 (Ne.symm ne_ap)
    have Ve11_13 := Ve11_12.other W13 (Ne.symm ne_a0_be11)
    have Fb12_13 := Fb12.other W13 (Or.inr (slot_ne (Or.inl (hw _ (List.mem_of_getElem? (i := 12) rfl))) (Or.inl (hw _ (List.mem_of_getElem? (i := 31) rfl))) (by decide) (t := (.array .byte)) (t' := .long) (by decide) (by decide)))
    have Fz12_13 := Fz12.other W13 (Or.inr (slot_ne (Or.inl (hw _ (List.mem_of_getElem? (i := 18) rfl))) (Or.inl (hw _ (List.mem_of_getElem? (i := 31) rfl))) (by decide) (t := .int) (t' := .long) (by decide) (by decide)))
    have Fp12_13 := Fp12.same W13
    have Fm12_13 := Fm12.other W13 (Or.inr (slot_ne (Or.inl (hw _ (List.mem_of_getElem? (i := 29) rfl))) (Or.inl (hw _ (List.mem_of_getElem? (i := 31) rfl))) (by decide) (t := .int) (t' := .long) (by decide) (by decide)))
    have Fq12_13 := Fq12.other W13 (Or.inr (slot_ne (Or.inl (hw _ (List.mem_of_getElem? (i := 33) rfl))) (Or.inl (hw _ (List.mem_of_getElem? (i := 31) rfl))) (by decide) (t := .long) (t' := .long) (by decide) (by decide)))
    have Vb12_13 := Vb12.other W13 (Ne.symm ne_ab)
    have K_13 : Keep h0 h13 [a0, bf] := K_12.wr W13 (Or.inl (List.mem_of_getElem? (i := 0) rfl))
    have Z_13 : n0 ≤ h13.size := Nat.le_trans Z_12 (Keep.of_wr W13).1
    have N_13 := Fr.snoc X13 N_12 g_a0
    show own_Ends p.tables e below _ (T13.setTop (mkF m 44 #[.val (.ref a0), .val (.ref a1), .val (.long t), .second, .unset] []))
    refine own_step (fun _ k => XS.aloadN X13.here hx rfl (hb hby own_d8_44) rfl rfl k) ?_
    show own_Ends p.tables e below _ (T13.setTop (mkF m 45 #[.val (.ref a0), .val (.ref a1), .val (.long t), .second, .unset] [(.ref a1)]))
    obtain ⟨cq14, kq14, q14a, q14b, q14c⟩ := isOf hZ e13 E_a1_13
    obtain ⟨_, _, ⟨T14, L14, k14, n14⟩, -, X14, ⟨Lc14, hQ14, l14, y14, z14⟩, st14⟩ := X13.virtualBack hx (y := (⟨"com/example/ketchup/ketchup/negentropy/Bound", "prefix", "()[B"⟩ : MethodName)) (z := (⟨"com/example/ketchup/ketchup/negentropy/Bound", "prefix", "()[B"⟩ : MethodName)) hown (mvT hZ (hw _ (List.mem_of_getElem? (i := 73) rfl))) (mvT hZ (hw _ (List.mem_of_getElem? (i := 74) rfl))) (notFace_of_selects (args := #[]) (mvT hZ (hw _ (List.mem_of_getElem? (i := 76) rfl)))) (mvT hZ (hw _ (List.mem_of_getElem? (i := 76) rfl))) (mvT hZ (hw _ (List.mem_of_getElem? (i := 75) rfl))) (by decide) (backOf (W := 0) (own_rm_prefix l Z aw hw [] a1 pf h13 n0 Z_13 F_p_13) hZ (hw _ (List.mem_of_getElem? (i := 77) rfl)) (hw _ (List.mem_of_getElem? (i := 47) rfl)) (by decide) (by decide)) q14a q14c (g := (mkF m 45 #[.val (.ref a0), .val (.ref a1), .val (.long t), .second, .unset] [(.ref a1)])) rfl (by rw [hml]; rfl) (Steps.refl _) (argsL := []) (rest := []) (lenOf own_pd6 rfl) rfl (by show 2 * 0 + _ ≤ _; exact Nat.le_of_eq rfl) (hb hby own_d8_45) (fun _ _ => ⟨rfl, e13, (by decide : 2 + 0 ≤ _), (by decide : 20 + 0 ≤ _)⟩)
    dsimp only [Pt.U, Pt.locs, Pt.cells, Pt.slots] at X14 l14 y14 z14 st14 hQ14
    subst l14 y14 z14
    obtain ⟨rfl, N14q, e14⟩ := hQ14
    have N_14 := Fr.app N_13 N14q
    refine own_step (fun _ k => st14.trans k) ?_
    show own_Ends p.tables e below _ (T14.setTop (mkF m 48 #[.val (.ref a0), .val (.ref a1), .val (.long t), .second, .unset] [(.ref pf)]))
    refine own_step (fun _ k => XS.astore X14.here hx rfl (hb hby own_d8_48) rfl rfl (l' := #[.val (.ref a0), .val (.ref a1), .val (.long t), .second, .val (.ref pf)]) rfl k) ?_
    show own_Ends p.tables e below _ (T14.setTop (mkF m 50 #[.val (.ref a0), .val (.ref a1), .val (.long t), .second, .val (.ref pf)] []))
    refine own_step (fun _ k => XS.aloadN X14.here hx rfl (hb hby own_d8_50) rfl rfl k) ?_
    show own_Ends p.tables e below _ (T14.setTop (mkF m 51 #[.val (.ref a0), .val (.ref a1), .val (.long t), .second, .val (.ref pf)] [(.ref a0)]))
    refine own_step (fun _ k => XS.aload X14.here hx rfl (hb hby own_d8_51) rfl rfl k) ?_
    show own_Ends p.tables e below _ (T14.setTop (mkF m 53 #[.val (.ref a0), .val (.ref a1), .val (.long t), .second, .val (.ref pf)] [(.ref pf), (.ref a0)]))
    obtain ⟨cl15, Ar15, q15, S15, Nn15, H15, G15⟩ := id V_pf_13
    refine own_step (fun _ k => X14.arraylength hx (by rw [e14]; exact Ar15.1) (State.isArrayOf_alike hZ.alike Ar15.2.1) (g := (mkF m 53 #[.val (.ref a0), .val (.ref a1), .val (.long t), .second, .val (.ref pf)] [(.ref pf), (.ref a0)])) rfl rfl (hb hby own_d8_53) _ k) ?_
    rw [len_of S15 Nn15]
    show own_Ends p.tables e below _ (T14.setTop (mkF m 54 #[.val (.ref a0), .val (.ref a1), .val (.long t), .second, .val (.ref pf)] [(.int (Int32.ofNat np)), (.ref a0)]))
    refine own_step (fun _ k => XS.i2l X14.here hx rfl (hb hby own_d8_54) rfl k) ?_
    show own_Ends p.tables e below _ (T14.setTop (mkF m 55 #[.val (.ref a0), .val (.ref a1), .val (.long t), .second, .val (.ref pf)] [(.long ((Int32.ofNat np).toInt64)), (.ref a0)]))
    obtain ⟨_, _, ⟨T16, L16, k16, n16⟩, -, X16, ⟨Lc16, hQ16, l16, y16, z16⟩, st16⟩ := Jvm.LawKit.callS X14 hx (y := (⟨"com/example/ketchup/ketchup/negentropy/Varint", "encode", "(J)[B"⟩ : MethodName)) hown (mvT hZ (hw _ (List.mem_of_getElem? (i := 67) rfl))) (mvT hZ (hw _ (List.mem_of_getElem? (i := 68) rfl))) (mvT hZ (hw _ (List.mem_of_getElem? (i := 69) rfl))) (mvT hZ (hw _ (List.mem_of_getElem? (i := 70) rfl))) (by decide) (backOf (W := 1) (own_rm_encode l Z aw hw [] ((Int32.ofNat np).toInt64) h13 n0 Z_13 ) hZ (hw _ (List.mem_of_getElem? (i := 70) rfl)) (hw _ (List.mem_of_getElem? (i := 69) rfl)) (by decide) (by decide)) (g := (mkF m 55 #[.val (.ref a0), .val (.ref a1), .val (.long t), .second, .val (.ref pf)] [(.long ((Int32.ofNat np).toInt64)), (.ref a0)])) rfl (by rw [hml]; rfl) (argsL := [(.long ((Int32.ofNat np).toInt64))]) (rest := [(.ref a0)]) (lenOf own_pd5 rfl) rfl (by show 2 * 0 + _ ≤ _; exact Nat.le_of_eq rfl) (hb hby own_d8_55) (fun _ _ => ⟨rfl, e14, (by decide : 2 + 2 ≤ _), (by decide : 20 + 20 ≤ _)⟩)
    dsimp only [Pt.U, Pt.locs, Pt.cells, Pt.slots] at X16 l16 y16 z16 st16 hQ16
    subst l16 y16 z16
    obtain ⟨be16, ke16, ne16, ue16, rfl, N16q, k16, ge16, hs16, el16, eu16, Ve16, hd16⟩ := hQ16
    have N_16 := Fr.app N_14 N16q
    have ne_a0_be16 : a0 ≠ be16 := Nat.ne_of_lt (Nat.lt_of_lt_of_le E_a0_13.lt hs16)
    have ne_a1_be16 : a1 ≠ be16 := Nat.ne_of_lt (Nat.lt_of_lt_of_le E_a1_13.lt hs16)
    have ne_bf_be16 : bf ≠ be16 := Nat.ne_of_lt (Nat.lt_of_lt_of_le Vb12_13.lt hs16)
    have ne_pf_be16 : pf ≠ be16 := Nat.ne_of_lt (Nat.lt_of_lt_of_le V_pf_13.lt hs16)
    have ne_be11_be16 : be11 ≠ be16 := Nat.ne_of_lt (Nat.lt_of_lt_of_le Ve11_13.lt hs16)
    have sz_be16 : h0.size ≤ be16 := Nat.le_trans K_13.1 hs16
    have E_a0_16 := E_a0_13.keep k16
    have E_a1_16 := E_a1_13.keep k16
    have F_t_16 := F_t_13.keep k16 nin0
    have F_p_16 := F_p_13.keep k16 nin0
    have V_pf_16 := V_pf_13.keep k16 nin0
    have Ve11_16 := Ve11_13.keep k16 nin0
    have Fb12_16 := Fb12_13.keep k16 nin0
    have Fz12_16 := Fz12_13.keep k16 nin0
    have Fp12_16 := Fp12_13.keep k16 nin0
    have Fm12_16 := Fm12_13.keep k16 nin0
    have Fq12_16 := Fq12_13.keep k16 nin0
    have Vb12_16 := Vb12_13.keep k16 nin0
    have K_16 : Keep h0 T16.heap [a0, bf] := K_13.trans k16 all0
    have Z_16 : n0 ≤ T16.heap.size := Nat.le_trans Z_13 k16.1
    refine own_step st16 ?_
    show own_Ends p.tables e below _ (T16.setTop (mkF m 58 #[.val (.ref a0), .val (.ref a1), .val (.long t), .second, .val (.ref pf)] [(.ref be16), (.ref a0)]))
    obtain ⟨cq17, qz17, qz17'⟩ := E_a0_16.cell
    obtain ⟨_, _, ⟨T17, L17, k17, n17⟩, -, X17, ⟨Lc17, hQ17, l17, y17, z17⟩, st17⟩ := X16.privateBack hx (y := (⟨"com/example/ketchup/ketchup/negentropy/MessageWriter", "write", "([B)V"⟩ : MethodName)) hown (mvT hZ (hw _ (List.mem_of_getElem? (i := 13) rfl))) (mvT hZ (hw _ (List.mem_of_getElem? (i := 14) rfl))) (own_sel_priv (by decide) (mvT hZ (hw _ (List.mem_of_getElem? (i := 2) rfl))) (mvP hZ (hw _ (List.mem_of_getElem? (i := 15) rfl))) (mvT hZ (hw _ (List.mem_of_getElem? (i := 14) rfl)))) (Cond.privateMethod_at (mvP hZ (hw _ (List.mem_of_getElem? (i := 15) rfl)) (args := #[]))) (mvT hZ (hw _ (List.mem_of_getElem? (i := 16) rfl))) (by decide) (backOf (W := 0) (own_rm_write l Z aw hw [] a0 be16 bf kb (own_put vs sz ne11 ue11) (sz + ne11) t ms mp ke16 ne16 ue16 T16.heap n0 Z_16 E_a0_16 Fb12_16 Fz12_16 Fp12_16 Fm12_16 Fq12_16 Vb12_16 hvs12 ne_ab g_a0 g_bf Ve16 ne_bf_be16 ne_a0_be16 (by omega)) hZ (hw _ (List.mem_of_getElem? (i := 16) rfl)) (hw _ (List.mem_of_getElem? (i := 3) rfl)) (by decide) (by decide)) (g := (mkF m 58 #[.val (.ref a0), .val (.ref a1), .val (.long t), .second, .val (.ref pf)] [(.ref be16), (.ref a0)])) rfl (by rw [hml]; rfl) (Steps.refl _) (a := a0) qz17 qz17' (argsL := [(.ref be16)]) (rest := []) (lenOf own_pd3 rfl) rfl (by show 2 * 0 + _ ≤ _; exact Nat.le_of_eq rfl) (hb hby own_d8_58) (fun _ _ => ⟨rfl, rfl, (by decide : 4 + 0 ≤ _), (by decide : 40 + 0 ≤ _)⟩)
    dsimp only [Pt.U, Pt.locs, Pt.cells, Pt.slots] at X17 l17 y17 z17 st17 hQ17
    subst l17 y17 z17
    obtain ⟨rfl, N17q, k17, Fb17, Fz17, Fp17, Fm17, Fq17, Vb17⟩ := hQ17
    have N_17 := Fr.app N_16 N17q
    have E_a0_17 := E_a0_16.keep k17
    have E_a1_17 := E_a1_16.keep k17
    have F_t_17 := F_t_16.keep k17 (ninS (Ne.symm ne_a1) (ninS (Ne.symm ne_b1) nin0))
    have F_p_17 := F_p_16.keep k17 (ninS (Ne.symm ne_a1) (ninS (Ne.symm ne_b1) nin0))
    have V_pf_17 := V_pf_16.keep k17 (ninS (Ne.symm ne_ap) (ninS (Ne.symm ne_bp) nin0))
    have Ve11_17 := Ve11_16.keep k17 (ninS (Ne.symm ne_a0_be11) (ninS (Ne.symm ne_bf_be11) nin0))
    have Ve16_17 := Ve16.keep k17 (ninS (Ne.symm ne_a0_be16) (ninS (Ne.symm ne_bf_be16) nin0))
    have K_17 : Keep h0 T17.heap [a0, bf] := K_16.trans k17 (allS (Or.inl (List.mem_of_getElem? (i := 0) rfl)) (allS (Or.inl (List.mem_of_getElem? (i := 1) rfl)) all0))
    have Z_17 : n0 ≤ T17.heap.size := Nat.le_trans Z_16 k17.1
    have hvs17 : (own_put (own_put vs sz ne11 ue11) (sz + ne11) ne16 ue16).length = 256 := by rw [own_put_len (by rw [hvs12]; omega)]; exact hvs12
    refine own_step (fun _ k => st17.trans k) ?_
    show own_Ends p.tables e below _ (T17.setTop (mkF m 61 #[.val (.ref a0), .val (.ref a1), .val (.long t), .second, .val (.ref pf)] []))
    refine own_step (fun _ k => XS.aloadN X17.here hx rfl (hb hby own_d8_61) rfl rfl k) ?_
    show own_Ends p.tables e below _ (T17.setTop (mkF m 62 #[.val (.ref a0), .val (.ref a1), .val (.long t), .second, .val (.ref pf)] [(.ref a0)]))
    refine own_step (fun _ k => XS.aload X17.here hx rfl (hb hby own_d8_62) rfl rfl k) ?_
    show own_Ends p.tables e below _ (T17.setTop (mkF m 64 #[.val (.ref a0), .val (.ref a1), .val (.long t), .second, .val (.ref pf)] [(.ref pf), (.ref a0)]))
    obtain ⟨cq18, qz18, qz18'⟩ := E_a0_17.cell
    obtain ⟨_, _, ⟨T18, L18, k18, n18⟩, -, X18, ⟨Lc18, hQ18, l18, y18, z18⟩, st18⟩ := X17.privateBack hx (y := (⟨"com/example/ketchup/ketchup/negentropy/MessageWriter", "write", "([B)V"⟩ : MethodName)) hown (mvT hZ (hw _ (List.mem_of_getElem? (i := 13) rfl))) (mvT hZ (hw _ (List.mem_of_getElem? (i := 14) rfl))) (own_sel_priv (by decide) (mvT hZ (hw _ (List.mem_of_getElem? (i := 2) rfl))) (mvP hZ (hw _ (List.mem_of_getElem? (i := 15) rfl))) (mvT hZ (hw _ (List.mem_of_getElem? (i := 14) rfl)))) (Cond.privateMethod_at (mvP hZ (hw _ (List.mem_of_getElem? (i := 15) rfl)) (args := #[]))) (mvT hZ (hw _ (List.mem_of_getElem? (i := 16) rfl))) (by decide) (backOf (W := 0) (own_rm_write l Z aw hw [] a0 pf bf kb (own_put (own_put vs sz ne11 ue11) (sz + ne11) ne16 ue16) (sz + ne11 + ne16) t ms mp kp np up T17.heap n0 Z_17 E_a0_17 Fb17 Fz17 Fp17 Fm17 Fq17 Vb17 hvs17 ne_ab g_a0 g_bf V_pf_17 ne_bp ne_ap (by omega)) hZ (hw _ (List.mem_of_getElem? (i := 16) rfl)) (hw _ (List.mem_of_getElem? (i := 3) rfl)) (by decide) (by decide)) (g := (mkF m 64 #[.val (.ref a0), .val (.ref a1), .val (.long t), .second, .val (.ref pf)] [(.ref pf), (.ref a0)])) rfl (by rw [hml]; rfl) (Steps.refl _) (a := a0) qz18 qz18' (argsL := [(.ref pf)]) (rest := []) (lenOf own_pd3 rfl) rfl (by show 2 * 0 + _ ≤ _; exact Nat.le_of_eq rfl) (hb hby own_d8_64) (fun _ _ => ⟨rfl, rfl, (by decide : 4 + 0 ≤ _), (by decide : 40 + 0 ≤ _)⟩)
    dsimp only [Pt.U, Pt.locs, Pt.cells, Pt.slots] at X18 l18 y18 z18 st18 hQ18
    subst l18 y18 z18
    obtain ⟨rfl, N18q, k18, Fb18, Fz18, Fp18, Fm18, Fq18, Vb18⟩ := hQ18
    have N_18 := Fr.app N_17 N18q
    have E_a0_18 := E_a0_17.keep k18
    have E_a1_18 := E_a1_17.keep k18
    have F_t_18 := F_t_17.keep k18 (ninS (Ne.symm ne_a1) (ninS (Ne.symm ne_b1) nin0))
    have F_p_18 := F_p_17.keep k18 (ninS (Ne.symm ne_a1) (ninS (Ne.symm ne_b1) nin0))
    have V_pf_18 := V_pf_17.keep k18 (ninS (Ne.symm ne_ap) (ninS (Ne.symm ne_bp) nin0))
    have Ve11_18 := Ve11_17.keep k18 (ninS (Ne.symm ne_a0_be11) (ninS (Ne.symm ne_bf_be11) nin0))
    have Ve16_18 := Ve16_17.keep k18 (ninS (Ne.symm ne_a0_be16) (ninS (Ne.symm ne_bf_be16) nin0))
    have K_18 : Keep h0 T18.heap [a0, bf] := K_17.trans k18 (allS (Or.inl (List.mem_of_getElem? (i := 0) rfl)) (allS (Or.inl (List.mem_of_getElem? (i := 1) rfl)) all0))
    have Z_18 : n0 ≤ T18.heap.size := Nat.le_trans Z_17 k18.1
    have hvs18 : (own_put (own_put (own_put vs sz ne11 ue11) (sz + ne11) ne16 ue16) (sz + ne11 + ne16) np up).length = 256 := by rw [own_put_len (by rw [hvs17]; omega)]; exact hvs17
    refine own_step (fun _ k => st18.trans k) ?_
    show own_Ends p.tables e below _ (T18.setTop (mkF m 67 #[.val (.ref a0), .val (.ref a1), .val (.long t), .second, .val (.ref pf)] []))
    have he1 : own_enc t pt = (t - pt + (1 : Int64)) := if_neg hc10
    obtain ⟨hn2, hu2⟩ := hd16 (by rw [(own_np np (by omega)).1]; omega)
    rw [(own_np np (by omega)).2] at hu2
    have hlen1 : (own_put vs sz ne11 ue11).length = 256 := by rw [own_put_len (by rw [hvs]; omega)]; exact hvs
    have hlen2 : (own_put (own_put vs sz ne11 ue11) (sz + ne11) ne16 ue16).length = 256 := by rw [own_put_len (by rw [hlen1]; omega)]; exact hlen1
    have hlow : ∀ i, i < sz → (own_put (own_put (own_put vs sz ne11 ue11) (sz + ne11) ne16 ue16) (sz + ne11 + ne16) np up).getD i (Value.int (0 : Int32)) = vs.getD i (Value.int (0 : Int32)) := fun i hi => by rw [own_put_lo _ (by rw [hlen2]; omega) (by omega), own_put_lo _ (by rw [hlen1]; omega) (by omega), own_put_lo _ (by rw [hvs]; omega) (by omega)]
    have hsma : (own_enc t pt).toUInt64.toNat < 128 → ne11 = 1 ∧ (own_put (own_put (own_put vs sz ne11 ue11) (sz + ne11) ne16 ue16) (sz + ne11 + ne16) np up).getD sz (Value.int (0 : Int32)) = Value.int (own_enc t pt).toInt32 ∧ (own_put (own_put (own_put vs sz ne11 ue11) (sz + ne11) ne16 ue16) (sz + ne11 + ne16) np up).getD (sz + 1) (Value.int (0 : Int32)) = Value.int (Int32.ofNat np) := by
      intro hsmall
      rw [he1] at hsmall ⊢
      obtain ⟨hn1, hu1⟩ := hd11 hsmall
      have q1 := own_put_at (i := 0) (us := ue11) (sz := sz) (n := ne11) (Value.int (0 : Int32)) (vs := vs) (by rw [hvs]; omega) (by omega)
      have q2 := own_put_at (i := 0) (us := ue16) (sz := sz + ne11) (n := ne16) (Value.int (0 : Int32)) (vs := own_put vs sz ne11 ue11) (by rw [hlen1]; omega) (by omega)
      refine ⟨hn1, ?_, ?_⟩
      · rw [own_put_lo _ (by rw [hlen2]; omega) (by omega), own_put_lo _ (by rw [hlen1]; omega) (by omega)]; exact q1.trans hu1
      · rw [show sz + 1 = sz + ne11 by omega, own_put_lo _ (by rw [hlen2]; omega) (by omega)]; exact q2.trans hu2
    exact own_ret0 X18 hx hlk (by decide) (by decide) Bd.returns (hb hby own_d8_67) (⟨rfl, N_18, K_18, ne11, _, el11, eu11, Fb18, (by have q := Fz18; rw [show sz + ne11 + ne16 + np = sz + ne11 + 1 + np by omega] at q; exact q), Fp18, Fm18, Fq18, Vb18, hvs18, hlow, hsma⟩)
def own_QCp (Z : State) (n : Nat) (vs : List Value) (h0 : Heap) (n0 : Nat) (v : Option Value) (h : Heap) (L : List Loc) : Prop := ∃ (b : Addr) (k : ClassId) (us : List Value), v = some (.ref b) ∧ Fr n0 L ∧ Keep h0 h [] ∧ n0 ≤ b ∧ h0.size ≤ b ∧ Arv Z h b k .byte (Int32.ofNat n) us (Value.int (0 : Int32)) ∧ ∀ i, i < n → us.getD i (Value.int (0 : Int32)) = vs.getD i (Value.int (0 : Int32))
theorem own_min256 (n : Nat) (h : n ≤ 64) : own_minI (256 : Int32) (Int32.ofNat n) = Int32.ofNat n := if_pos ((own_nlt (b := 256) (by omega) (by omega)).mpr (by omega))
theorem own_cp_get (vs : List Value) (n i : Nat) (hn : n ≤ 64) (hi : i < n) : ((List.replicate 64 (Value.int (0 : Int32))).take (0 : Int32).toNatClampNeg ++ ((List.range (Int32.ofNat n).toNatClampNeg).map fun i => vs.getD ((0 : Int32).toNatClampNeg + i) (Value.int (0 : Int32))) ++ (List.replicate 64 (Value.int (0 : Int32))).drop ((0 : Int32).toNatClampNeg + (Int32.ofNat n).toNatClampNeg)).getD i (Value.int (0 : Int32)) = vs.getD i (Value.int (0 : Int32)) := by
  rw [own_clamp (by omega)]
  have z : (0 : Int32).toNatClampNeg = 0 := rfl
  rw [z]; simp only [Nat.zero_add]
  have := own_put_at (vs := List.replicate 64 (Value.int (0 : Int32))) (us := vs) (sz := 0) (n := n) (i := i) (Value.int (0 : Int32)) (by simp; omega) hi
  unfold own_put at this; simpa using this
theorem own_pd7 : parseMethodDescriptor "(II)I" = some ⟨[.int, .int], some .int⟩ := by decide +kernel
theorem own_d13_0 : decode jdk_65_method_121_code 0 = .ok (.iload_n 1, 1) := by decide +kernel
theorem own_d13_1 : decode jdk_65_method_121_code 1 = .ok (.aload_n 0, 1) := by decide +kernel
theorem own_d13_2 : decode jdk_65_method_121_code 2 = .ok (.arraylength, 1) := by decide +kernel
theorem own_d13_3 : decode jdk_65_method_121_code 3 = .ok (.if_icmp .ne 11, 3) := by decide +kernel
theorem own_d13_14 : decode jdk_65_method_121_code 14 = .ok (.iload_n 1, 1) := by decide +kernel
theorem own_d13_15 : decode jdk_65_method_121_code 15 = .ok (.newarray .byte, 2) := by decide +kernel
theorem own_d13_17 : decode jdk_65_method_121_code 17 = .ok (.astore_n 2, 1) := by decide +kernel
theorem own_d13_18 : decode jdk_65_method_121_code 18 = .ok (.aload_n 0, 1) := by decide +kernel
theorem own_d13_19 : decode jdk_65_method_121_code 19 = .ok (.iconst 0, 1) := by decide +kernel
theorem own_d13_20 : decode jdk_65_method_121_code 20 = .ok (.aload_n 2, 1) := by decide +kernel
theorem own_d13_21 : decode jdk_65_method_121_code 21 = .ok (.iconst 0, 1) := by decide +kernel
theorem own_d13_22 : decode jdk_65_method_121_code 22 = .ok (.aload_n 0, 1) := by decide +kernel
theorem own_d13_23 : decode jdk_65_method_121_code 23 = .ok (.arraylength, 1) := by decide +kernel
theorem own_d13_24 : decode jdk_65_method_121_code 24 = .ok (.iload_n 1, 1) := by decide +kernel
theorem own_d13_25 : decode jdk_65_method_121_code 25 = .ok (.invokestatic 304, 3) := by decide +kernel
theorem own_d13_28 : decode jdk_65_method_121_code 28 = .ok (.invokestatic 150, 3) := by decide +kernel
theorem own_d13_31 : decode jdk_65_method_121_code 31 = .ok (.aload_n 2, 1) := by decide +kernel
theorem own_d13_32 : decode jdk_65_method_121_code 32 = .ok (.areturn, 1) := by decide +kernel
theorem own_pn3 : plainName "java/util/Arrays" = true := by first | (simp [plainName, overriddenIn]; done) | decide +kernel
theorem own_ef_13 (m : MethodId) (x0 : Addr) (x1 : Int32) : entryFrame m #[(.ref x0), (.int x1)] 3 = mkF m 0 #[.val (.ref x0), .val (.int x1), .unset] [] := by first | (simp [entryFrame, mkF, argsToLocals, Value.category]; done) | rfl
set_option maxRecDepth 65536 in
set_option maxHeartbeats 40000000 in
theorem own_rm_copyOf (l : Launch) (Z : State) (aw : Array Value) (hw : ∀ d ∈ tables_1, d.before aw Z = true) (ws : List Jvm.Cond) (a0 : Addr) (k : ClassId) (vs : List Value) (n : Nat) (h0 : Heap) (n0 : Nat) (Z0 : n0 ≤ h0.size) (V_a0 : Arv Z h0 a0 k .byte (256 : Int32) vs (Value.int (0 : Int32))) (hvs : vs.length = 256) (hn : n ≤ 64) :
    MetFree l (⟨"java/util/Arrays", "copyOf", "([BI)[B"⟩ : MethodName) (head1 (Jvm.Cond.code (⟨"java/util/Arrays", "copyOf", "([BI)[B"⟩ : MethodName) jdk_65_method_121_code 3 (some (.array .byte)) :: ws) ({ frames := 1, cells := 1, slots := 64, locals := 18 } : Room)) (fun a U => a = #[(.ref a0), (.int (Int32.ofNat n))] ∧ Z.Warmed39 U.vm ∧ U.heap = h0) (fun _ _ _ _ _ => True) (fun _ U o U' => ∃ v L, o = .returned v ∧ own_QCp Z n vs h0 n0 v U'.heap L ∧ FrameEnd U o U' L ({ frames := 1, cells := 1, slots := 64, locals := 18 } : Room).cells ({ frames := 1, cells := 1, slots := 64, locals := 18 } : Room).slots) := by
  refine MetFree.of_bodySF (plainFor_of_name own_pn3) hisR ?_
  intro p e s m args below meth c s₁ Bd hml0 hP hK
  obtain ⟨rfl, hZ, hh⟩ := hP
  have hx := Bd.exec
  have hby := Bd.bytes
  have hlk : meth.locks = false := BodyLoose.notSynchronized Bd
  have hml : c.maxLocals = 3 := hml0
  have hown : s.vm.findClass "java/util/Arrays" = some m.cls := findClass_of_methodNamed Bd.named
  have hnm := (name_of_methodNamed Bd.named Bd.method).1
  have X0 : Stand p l e ({ frames := 1, cells := 1, slots := 64, locals := 18 } : Room) s m #[(.ref a0), (.int (Int32.ofNat n))] below meth c s₁ [] 0 0 := Stand.of_body Bd
  have e0 : s₁.heap = h0 := by rw [← hh, Bd.state]; rfl
  have N0 := Fr.nil n0
  have K0 : Keep h0 h0 [] := Keep.refl _ _
  have pre0 : ∀ t, Steps p.tables e below (s₁.setTop (mkF m 0 #[.val (.ref a0), .val (.int (Int32.ofNat n)), .unset] [])) t → Steps p.tables e below (s₁.setTop (entryFrame m #[(.ref a0), (.int (Int32.ofNat n))] 3)) t := fun t k => castTop (own_ef_13 m a0 (Int32.ofNat n)) k
  show own_Ends p.tables e below (own_Q s (own_QCp Z n vs h0 n0) ({ frames := 1, cells := 1, slots := 64, locals := 18 } : Room).cells ({ frames := 1, cells := 1, slots := 64, locals := 18 } : Room).slots) (s₁.setTop (entryFrame m #[(.ref a0), (.int (Int32.ofNat n))] 3))
  refine own_step pre0 ?_
  show own_Ends p.tables e below _ (s₁.setTop (mkF m 0 #[.val (.ref a0), .val (.int (Int32.ofNat n)), .unset] []))
  refine own_step (fun _ k => XS.iloadN X0.here hx rfl (hb hby own_d13_0) rfl k) ?_
  show own_Ends p.tables e below _ (s₁.setTop (mkF m 1 #[.val (.ref a0), .val (.int (Int32.ofNat n)), .unset] [(.int (Int32.ofNat n))]))
  refine own_step (fun _ k => XS.aloadN X0.here hx rfl (hb hby own_d13_1) rfl rfl k) ?_
  show own_Ends p.tables e below _ (s₁.setTop (mkF m 2 #[.val (.ref a0), .val (.int (Int32.ofNat n)), .unset] [(.ref a0), (.int (Int32.ofNat n))]))
  obtain ⟨cl1, Ar1, q1, S1, Nn1, H1, G1⟩ := id V_a0
  refine own_step (fun _ k => X0.arraylength hx (by rw [e0]; exact Ar1.1) (State.isArrayOf_alike hZ.alike Ar1.2.1) (g := (mkF m 2 #[.val (.ref a0), .val (.int (Int32.ofNat n)), .unset] [(.ref a0), (.int (Int32.ofNat n))])) rfl rfl (hb hby own_d13_2) _ k) ?_
  rw [len_of S1 Nn1]
  show own_Ends p.tables e below _ (s₁.setTop (mkF m 3 #[.val (.ref a0), .val (.int (Int32.ofNat n)), .unset] [(.int (256 : Int32)), (.int (Int32.ofNat n))]))
  refine own_step (fun _ k => XS.icmpYes X0.here hx rfl (pc0 := 3) (pc' := 14) rfl (hb hby own_d13_3) rfl (feq (fun q => by have := (own_neq (b := 256) (by omega) (by omega)).mp q; omega)).2 (by decide) (by decide) k) ?_
  show own_Ends p.tables e below _ (s₁.setTop (mkF m 14 #[.val (.ref a0), .val (.int (Int32.ofNat n)), .unset] []))
  refine own_step (fun _ k => XS.iloadN X0.here hx rfl (hb hby own_d13_14) rfl k) ?_
  show own_Ends p.tables e below _ (s₁.setTop (mkF m 15 #[.val (.ref a0), .val (.int (Int32.ofNat n)), .unset] [(.int (Int32.ofNat n))]))
  obtain ⟨T2, h2, k2, X2, e2, E2, A2, st2⟩ := newP X0 hx hZ (hw _ (List.mem_of_getElem? (i := 10) rfl)) e0 (g := (mkF m 15 #[.val (.ref a0), .val (.int (Int32.ofNat n)), .unset] [(.int (Int32.ofNat n))])) rfl (hb hby own_d13_15) rfl (own_nn (by omega)) (cap := 64) (by rw [own_clamp (by omega)]; omega) (by decide) (by decide) (by decide)
  obtain ⟨b2, g2⟩ : ∃ z, z = h0.size := ⟨_, rfl⟩
  rw [← g2] at A2 st2
  refine own_step st2 ?_
  have ne_a0_b2 : a0 ≠ b2 := Nat.ne_of_lt (Nat.lt_of_lt_of_le V_a0.lt (Nat.le_of_eq g2.symm))
  have g_b2 : n0 ≤ b2 := Nat.le_trans Z0 (Nat.le_of_eq g2.symm)
  have sz_b2 : h0.size ≤ b2 := Nat.le_trans K0.1 (Nat.le_of_eq g2.symm)
  have V_a0_2 := V_a0.ext E2
  have K_2 : Keep h0 h2 [] := K0.ext E2
  have Z_2 : n0 ≤ h2.size := Nat.le_trans Z0 E2.1
  have V_b2 : Arv Z h2 b2 k2 .byte (Int32.ofNat n) (List.replicate 64 (.int (0 : Int32))) (.int (0 : Int32)) := (Arv.new A2 (own_nn (by omega))).pad (pad_rep [] (.int (0 : Int32)) 64)
  show own_Ends p.tables e below _ (T2.setTop (mkF m 17 #[.val (.ref a0), .val (.int (Int32.ofNat n)), .unset] [(.ref b2)]))
  refine own_step (fun _ k => XS.astoreN X2.here hx rfl (hb hby own_d13_17) rfl rfl (l' := #[.val (.ref a0), .val (.int (Int32.ofNat n)), .val (.ref b2)]) rfl k) ?_
  show own_Ends p.tables e below _ (T2.setTop (mkF m 18 #[.val (.ref a0), .val (.int (Int32.ofNat n)), .val (.ref b2)] []))
  refine own_step (fun _ k => XS.aloadN X2.here hx rfl (hb hby own_d13_18) rfl rfl k) ?_
  show own_Ends p.tables e below _ (T2.setTop (mkF m 19 #[.val (.ref a0), .val (.int (Int32.ofNat n)), .val (.ref b2)] [(.ref a0)]))
  refine own_step (fun _ k => XS.iconst X2.here hx rfl (hb hby own_d13_19) k) ?_
  show own_Ends p.tables e below _ (T2.setTop (mkF m 20 #[.val (.ref a0), .val (.int (Int32.ofNat n)), .val (.ref b2)] [(.int (0 : Int32)), (.ref a0)]))
  refine own_step (fun _ k => XS.aloadN X2.here hx rfl (hb hby own_d13_20) rfl rfl k) ?_
  show own_Ends p.tables e below _ (T2.setTop (mkF m 21 #[.val (.ref a0), .val (.int (Int32.ofNat n)), .val (.ref b2)] [(.ref b2), (.int (0 : Int32)), (.ref a0)]))
  refine own_step (fun _ k => XS.iconst X2.here hx rfl (hb hby own_d13_21) k) ?_
  show own_Ends p.tables e below _ (T2.setTop (mkF m 22 #[.val (.ref a0), .val (.int (Int32.ofNat n)), .val (.ref b2)] [(.int (0 : Int32)), (.ref b2), (.int (0 : Int32)), (.ref a0)]))
  refine own_step (fun _ k => XS.aloadN X2.here hx rfl (hb hby own_d13_22) rfl rfl k) ?_
  show own_Ends p.tables e below _ (T2.setTop (mkF m 23 #[.val (.ref a0), .val (.int (Int32.ofNat n)), .val (.ref b2)] [(.ref a0), (.int (0 : Int32)), (.ref b2), (.int (0 : Int32)), (.ref a0)]))
  obtain ⟨cl3, Ar3, q3, S3, Nn3, H3, G3⟩ := id V_a0_2
  refine own_step (fun _ k => X2.arraylength hx (by rw [e2]; exact Ar3.1) (State.isArrayOf_alike hZ.alike Ar3.2.1) (g := (mkF m 23 #[.val (.ref a0), .val (.int (Int32.ofNat n)), .val (.ref b2)] [(.ref a0), (.int (0 : Int32)), (.ref b2), (.int (0 : Int32)), (.ref a0)])) rfl rfl (hb hby own_d13_23) _ k) ?_
  rw [len_of S3 Nn3]
  show own_Ends p.tables e below _ (T2.setTop (mkF m 24 #[.val (.ref a0), .val (.int (Int32.ofNat n)), .val (.ref b2)] [(.int (256 : Int32)), (.int (0 : Int32)), (.ref b2), (.int (0 : Int32)), (.ref a0)]))
  refine own_step (fun _ k => XS.iloadN X2.here hx rfl (hb hby own_d13_24) rfl k) ?_
  show own_Ends p.tables e below _ (T2.setTop (mkF m 25 #[.val (.ref a0), .val (.int (Int32.ofNat n)), .val (.ref b2)] [(.int (Int32.ofNat n)), (.int (256 : Int32)), (.int (0 : Int32)), (.ref b2), (.int (0 : Int32)), (.ref a0)]))
  obtain ⟨_, _, ⟨T4, L4, k4, n4⟩, -, X4, ⟨Lc4, hQ4, l4, y4, z4⟩, st4⟩ := Jvm.LawKit.callS X2 hx (y := (⟨"java/lang/Math", "min", "(II)I"⟩ : MethodName)) hown (mvT hZ (hw _ (List.mem_of_getElem? (i := 87) rfl))) (mvT hZ (hw _ (List.mem_of_getElem? (i := 88) rfl))) (mvT hZ (hw _ (List.mem_of_getElem? (i := 89) rfl))) (mvT hZ (hw _ (List.mem_of_getElem? (i := 90) rfl))) (by decide) (backOf (W := 4) (own_rm_minI l Z aw hw [] (256 : Int32) (Int32.ofNat n) h2 n0 Z_2 ) hZ (hw _ (List.mem_of_getElem? (i := 90) rfl)) (hw _ (List.mem_of_getElem? (i := 89) rfl)) (by decide) (by decide)) (g := (mkF m 25 #[.val (.ref a0), .val (.int (Int32.ofNat n)), .val (.ref b2)] [(.int (Int32.ofNat n)), (.int (256 : Int32)), (.int (0 : Int32)), (.ref b2), (.int (0 : Int32)), (.ref a0)])) rfl (by rw [hml]; rfl) (argsL := [(.int (256 : Int32)), (.int (Int32.ofNat n))]) (rest := [(.int (0 : Int32)), (.ref b2), (.int (0 : Int32)), (.ref a0)]) (lenOf own_pd7 rfl) rfl (by show 2 * 0 + _ ≤ _; exact Nat.le_of_eq rfl) (hb hby own_d13_25) (fun _ _ => ⟨rfl, e2, (by decide : 1 + 0 ≤ _), (by decide : 64 + 0 ≤ _)⟩)
  dsimp only [Pt.U, Pt.locs, Pt.cells, Pt.slots] at X4 l4 y4 z4 st4 hQ4
  subst l4 y4 z4
  obtain ⟨rfl, N4q, e4⟩ := hQ4
  have N_4 := Fr.app N0 N4q
  refine own_step st4 ?_
  show own_Ends p.tables e below _ (T4.setTop (mkF m 28 #[.val (.ref a0), .val (.int (Int32.ofNat n)), .val (.ref b2)] [(.int (own_minI (256 : Int32) (Int32.ofNat n))), (.int (0 : Int32)), (.ref b2), (.int (0 : Int32)), (.ref a0)]))
  rw [own_min256 n hn]
  show own_Ends p.tables e below _ (T4.setTop (mkF m 28 #[.val (.ref a0), .val (.int (Int32.ofNat n)), .val (.ref b2)] [(.int (Int32.ofNat n)), (.int (0 : Int32)), (.ref b2), (.int (0 : Int32)), (.ref a0)]))
  obtain ⟨T5, h5, L5, X5, e5, N_5, k5, V_b2_5, st5⟩ := cpA X4 hx hZ hown (hw _ (List.mem_of_getElem? (i := 91) rfl)) (hw _ (List.mem_of_getElem? (i := 22) rfl)) (hw _ (List.mem_of_getElem? (i := 20) rfl)) (hw _ (List.mem_of_getElem? (i := 21) rfl)) e4 V_a0_2 V_b2 (Or.inl ⟨rfl, rfl⟩) (us := _) (by decide) (by decide) (own_nn (by omega)) (by rw [own_clamp (by omega)]; show 0 + n ≤ 256; omega) (by rw [own_clamp (by omega)]; show 0 + n ≤ n; omega) rfl (by rw [own_clamp (by omega)]; simp only [List.length_replicate]; show 0 + n ≤ 64; omega) N_4 g_b2 (g := (mkF m 28 #[.val (.ref a0), .val (.int (Int32.ofNat n)), .val (.ref b2)] [(.int (Int32.ofNat n)), (.int (0 : Int32)), (.ref b2), (.int (0 : Int32)), (.ref a0)])) rfl (by rw [hml]; rfl) rfl (hb hby own_d13_28) (by decide) (W := 0) (by show 2 * 0 + _ ≤ _; exact Nat.le_of_eq rfl) (by decide)
  refine own_step st5 ?_
  have V_a0_5 := V_a0_2.keep k5 (ninS ne_a0_b2 nin0)
  have K_5 : Keep h0 h5 [] := K_2.trans k5 (allS (Or.inr sz_b2) all0)
  have Z_5 : n0 ≤ h5.size := Nat.le_trans Z_2 k5.1
  show own_Ends p.tables e below _ (T5.setTop (mkF m 31 #[.val (.ref a0), .val (.int (Int32.ofNat n)), .val (.ref b2)] []))
  refine own_step (fun _ k => XS.aloadN X5.here hx rfl (hb hby own_d13_31) rfl rfl k) ?_
  show own_Ends p.tables e below _ (T5.setTop (mkF m 32 #[.val (.ref a0), .val (.int (Int32.ofNat n)), .val (.ref b2)] [(.ref b2)]))
  exact own_retA X5 hx hlk (by decide) (by decide) Bd.returns rfl rfl (hb hby own_d13_32) (by rw [e5]; exact ⟨_, _, _, rfl, N_5, K_5, g_b2, sz_b2, V_b2_5, fun i hi => own_cp_get vs n i hn hi⟩)
theorem own_d12_0 : decode prog_18_method_10_code 0 = .ok (.aload_n 0, 1) := by decide +kernel
theorem own_d12_1 : decode prog_18_method_10_code 1 = .ok (.getfield 7, 3) := by decide +kernel
theorem own_d12_4 : decode prog_18_method_10_code 4 = .ok (.aload_n 0, 1) := by decide +kernel
theorem own_d12_5 : decode prog_18_method_10_code 5 = .ok (.getfield 20, 3) := by decide +kernel
theorem own_d12_8 : decode prog_18_method_10_code 8 = .ok (.invokestatic 63, 3) := by decide +kernel
theorem own_d12_11 : decode prog_18_method_10_code 11 = .ok (.areturn, 1) := by decide +kernel
theorem own_ef_12 (m : MethodId) (x0 : Addr) : entryFrame m #[(.ref x0)] 1 = mkF m 0 #[.val (.ref x0)] [] := by first | (simp [entryFrame, mkF, argsToLocals, Value.category]; done) | rfl
set_option maxRecDepth 65536 in
set_option maxHeartbeats 40000000 in
theorem own_rm_toByteArray (l : Launch) (Z : State) (aw : Array Value) (hw : ∀ d ∈ tables_1, d.before aw Z = true) (ws : List Jvm.Cond) (a0 : Addr) (bf : Addr) (kb : ClassId) (vs : List Value) (sz : Nat) (h0 : Heap) (n0 : Nat) (Z0 : n0 ≤ h0.size) (F_buffer : Fld Z h0 a0 "com/example/ketchup/ketchup/negentropy/MessageWriter" "buffer" "[B" (.ref bf)) (F_size : Fld Z h0 a0 "com/example/ketchup/ketchup/negentropy/MessageWriter" "size" "I" (.int (Int32.ofNat sz))) (V_bf : Arv Z h0 bf kb .byte (256 : Int32) vs (Value.int (0 : Int32))) (hvs : vs.length = 256) (g_bf : n0 ≤ bf) (hn : sz ≤ 64) :
    MetFree l (⟨"com/example/ketchup/ketchup/negentropy/MessageWriter", "toByteArray", "()[B"⟩ : MethodName) (head1 (Jvm.Cond.code (⟨"com/example/ketchup/ketchup/negentropy/MessageWriter", "toByteArray", "()[B"⟩ : MethodName) prog_18_method_10_code 1 (some (.array .byte)) :: ws) ({ frames := 2, cells := 1, slots := 64, locals := 32 } : Room)) (fun a U => a = #[(.ref a0)] ∧ Z.Warmed39 U.vm ∧ U.heap = h0) (fun _ _ _ _ _ => True) (fun _ U o U' => ∃ v L, o = .returned v ∧ own_QCp Z sz vs h0 n0 v U'.heap L ∧ FrameEnd U o U' L ({ frames := 2, cells := 1, slots := 64, locals := 32 } : Room).cells ({ frames := 2, cells := 1, slots := 64, locals := 32 } : Room).slots) := by
  refine MetFree.of_bodySF (plainFor_of_name own_pn0) hisR ?_
  intro p e s m args below meth c s₁ Bd hml0 hP hK
  obtain ⟨rfl, hZ, hh⟩ := hP
  have hx := Bd.exec
  have hby := Bd.bytes
  have hlk : meth.locks = false := BodyLoose.notSynchronized Bd
  have hml : c.maxLocals = 1 := hml0
  have hown : s.vm.findClass "com/example/ketchup/ketchup/negentropy/MessageWriter" = some m.cls := findClass_of_methodNamed Bd.named
  have hnm := (name_of_methodNamed Bd.named Bd.method).1
  have X0 : Stand p l e ({ frames := 2, cells := 1, slots := 64, locals := 32 } : Room) s m #[(.ref a0)] below meth c s₁ [] 0 0 := Stand.of_body Bd
  have e0 : s₁.heap = h0 := by rw [← hh, Bd.state]; rfl
  have N0 := Fr.nil n0
  have K0 : Keep h0 h0 [] := Keep.refl _ _
  have pre0 : ∀ t, Steps p.tables e below (s₁.setTop (mkF m 0 #[.val (.ref a0)] [])) t → Steps p.tables e below (s₁.setTop (entryFrame m #[(.ref a0)] 1)) t := fun t k => castTop (own_ef_12 m a0) k
  show own_Ends p.tables e below (own_Q s (own_QCp Z sz vs h0 n0) ({ frames := 2, cells := 1, slots := 64, locals := 32 } : Room).cells ({ frames := 2, cells := 1, slots := 64, locals := 32 } : Room).slots) (s₁.setTop (entryFrame m #[(.ref a0)] 1))
  refine own_step pre0 ?_
  show own_Ends p.tables e below _ (s₁.setTop (mkF m 0 #[.val (.ref a0)] []))
  refine own_step (fun _ k => XS.aloadN X0.here hx rfl (hb hby own_d12_0) rfl rfl k) ?_
  show own_Ends p.tables e below _ (s₁.setTop (mkF m 1 #[.val (.ref a0)] [(.ref a0)]))
  obtain ⟨T1, X1, e1, st1⟩ := getF X0 hx hZ hown (host := "") (Or.inl (hw _ (List.mem_of_getElem? (i := 11) rfl))) Via.refl e0 F_buffer (g := (mkF m 1 #[.val (.ref a0)] [(.ref a0)])) rfl rfl (hb hby own_d12_1)
  refine own_step st1 ?_
  show own_Ends p.tables e below _ (T1.setTop (mkF m 4 #[.val (.ref a0)] [(.ref bf)]))
  refine own_step (fun _ k => XS.aloadN X1.here hx rfl (hb hby own_d12_4) rfl rfl k) ?_
  show own_Ends p.tables e below _ (T1.setTop (mkF m 5 #[.val (.ref a0)] [(.ref a0), (.ref bf)]))
  obtain ⟨T2, X2, e2, st2⟩ := getF X1 hx hZ hown (host := "") (Or.inl (hw _ (List.mem_of_getElem? (i := 17) rfl))) Via.refl e1 F_size (g := (mkF m 5 #[.val (.ref a0)] [(.ref a0), (.ref bf)])) rfl rfl (hb hby own_d12_5)
  refine own_step st2 ?_
  show own_Ends p.tables e below _ (T2.setTop (mkF m 8 #[.val (.ref a0)] [(.int (Int32.ofNat sz)), (.ref bf)]))
  obtain ⟨_, _, ⟨T3, L3, k3, n3⟩, -, X3, ⟨Lc3, hQ3, l3, y3, z3⟩, st3⟩ := Jvm.LawKit.callS X2 hx (y := (⟨"java/util/Arrays", "copyOf", "([BI)[B"⟩ : MethodName)) hown (mvT hZ (hw _ (List.mem_of_getElem? (i := 83) rfl))) (mvT hZ (hw _ (List.mem_of_getElem? (i := 84) rfl))) (mvT hZ (hw _ (List.mem_of_getElem? (i := 85) rfl))) (mvT hZ (hw _ (List.mem_of_getElem? (i := 86) rfl))) (by decide) (backOf (W := 0) (own_rm_copyOf l Z aw hw [] bf kb vs sz h0 n0 Z0 V_bf hvs hn) hZ (hw _ (List.mem_of_getElem? (i := 86) rfl)) (hw _ (List.mem_of_getElem? (i := 85) rfl)) (by decide) (by decide)) (g := (mkF m 8 #[.val (.ref a0)] [(.int (Int32.ofNat sz)), (.ref bf)])) rfl (by rw [hml]; rfl) (argsL := [(.ref bf), (.int (Int32.ofNat sz))]) (rest := []) (lenOf own_pd0 rfl) rfl (by show 2 * 0 + _ ≤ _; exact Nat.le_of_eq rfl) (hb hby own_d12_8) (fun _ _ => ⟨rfl, e2, (by decide : 0 + 1 ≤ _), (by decide : 0 + 64 ≤ _)⟩)
  dsimp only [Pt.U, Pt.locs, Pt.cells, Pt.slots] at X3 l3 y3 z3 st3 hQ3
  subst l3 y3 z3
  obtain ⟨bo3, ko3, uo3, rfl, N3q, k3, ge3, hs3, Vo3, ho3⟩ := hQ3
  have N_3 := Fr.app N0 N3q
  refine own_step st3 ?_
  show own_Ends p.tables e below _ (T3.setTop (mkF m 11 #[.val (.ref a0)] [(.ref bo3)]))
  exact own_retA X3 hx hlk (by decide) (by decide) Bd.returns rfl rfl (hb hby own_d12_11) (⟨_, _, _, rfl, N_3, k3, ge3, hs3, Vo3, ho3⟩)
theorem own_pd8 : parseMethodDescriptor "(J[B)V" = some ⟨[.long, (.array .byte)], none⟩ := by decide +kernel
theorem own_pd9 : parseMethodDescriptor "(Lcom/example/ketchup/ketchup/negentropy/Bound;)V" = some ⟨[(.object "com/example/ketchup/ketchup/negentropy/Bound")], none⟩ := by decide +kernel
theorem own_pd10 : parseMethodDescriptor "()I" = some ⟨[], some .int⟩ := by decide +kernel
theorem own_pn4 : plainName "com/example/ketchup/ketchup/negentropy/MessageWriterResetPinLaw" = true := by first | (simp [plainName, overriddenIn]; done) | decide +kernel
theorem own_ef_0 (m : MethodId) (x0 : Int64) (x1 : Int64) (x2 : Int32) : entryFrame m #[(.long x0), (.long x1), (.int x2)] maxLocals = mkF m 0 #[.val (.long x0), .second, .val (.long x1), .second, .val (.int x2), .unset, .unset, .unset, .unset, .unset, .unset, .unset, .unset, .unset, .unset, .unset] [] := by first | (simp [entryFrame, mkF, argsToLocals, Value.category, maxLocals]; done) | rfl
def own_Q_law (Z : State) (q0 : Int64) (q1 : Int64) (p2 : Int32) (h0 : Heap) (n0 : Nat) (v : Option Value) (h : Heap) (L : List Loc) : Prop := v = some (.int 1) ∧ Fr n0 L
set_option maxRecDepth 65536 in
set_option maxHeartbeats 40000000 in
theorem own_rm_law (l : Launch) (Z : State) (aw : Array Value) (hw : ∀ d ∈ tables_1, d.before aw Z = true) (ws : List Jvm.Cond) (q0 : Int64) (q1 : Int64) (p2 : Int32) (h0 : Heap) (n0 : Nat) (Z0 : n0 ≤ h0.size) :
    MetFree l x (head1 (Jvm.Cond.code x code maxLocals ret :: ws) room_1) (fun a U => a = #[(.long q0), (.long q1), (.int p2)] ∧ Z.Warmed39 U.vm ∧ U.heap = h0) (fun _ _ _ _ _ => True) (fun _ U o U' => ∃ v L, o = .returned v ∧ own_Q_law Z q0 q1 p2 h0 n0 v U'.heap L ∧ FrameEnd U o U' L room_1.cells room_1.slots) := by
  refine MetFree.of_bodySF (plainFor_of_name own_pn4) hisR ?_
  intro p e s m args below meth c s₁ Bd hml0 hP hK
  obtain ⟨rfl, hZ, hh⟩ := hP
  have hx := Bd.exec
  have hby := Bd.bytes
  have hlk : meth.locks = false := BodyLoose.notSynchronized Bd
  have hml : c.maxLocals = 16 := hml0
  have hown : s.vm.findClass "com/example/ketchup/ketchup/negentropy/MessageWriterResetPinLaw" = some m.cls := findClass_of_methodNamed Bd.named
  have hnm := (name_of_methodNamed Bd.named Bd.method).1
  have X0 : Stand p l e room_1 s m #[(.long q0), (.long q1), (.int p2)] below meth c s₁ [] 0 0 := Stand.of_body Bd
  have e0 : s₁.heap = h0 := by rw [← hh, Bd.state]; rfl
  have N0 := Fr.nil n0
  have K0 : Keep h0 h0 [] := Keep.refl _ _
  have pre0 : ∀ t, Steps p.tables e below (s₁.setTop (mkF m 0 #[.val (.long q0), .second, .val (.long q1), .second, .val (.int p2), .unset, .unset, .unset, .unset, .unset, .unset, .unset, .unset, .unset, .unset, .unset] [])) t → Steps p.tables e below (s₁.setTop (entryFrame m #[(.long q0), (.long q1), (.int p2)] maxLocals)) t := fun t k => castTop (own_ef_0 m q0 q1 p2) k
  show own_Ends p.tables e below (own_Q s (own_Q_law Z q0 q1 p2 h0 n0) room_1.cells room_1.slots) (s₁.setTop (entryFrame m #[(.long q0), (.long q1), (.int p2)] maxLocals))
  refine own_step pre0 ?_
  show own_Ends p.tables e below _ (s₁.setTop (mkF m 0 #[.val (.long q0), .second, .val (.long q1), .second, .val (.int p2), .unset, .unset, .unset, .unset, .unset, .unset, .unset, .unset, .unset, .unset, .unset] []))
  refine own_step (fun _ k => XS.iload X0.here hx rfl (hb hby at_0) rfl k) ?_
  show own_Ends p.tables e below _ (s₁.setTop (mkF m 2 #[.val (.long q0), .second, .val (.long q1), .second, .val (.int p2), .unset, .unset, .unset, .unset, .unset, .unset, .unset, .unset, .unset, .unset, .unset] [(.int p2)]))
  refine own_step (fun _ k => XS.iconst X0.here hx rfl (hb hby at_2) k) ?_
  show own_Ends p.tables e below _ (s₁.setTop (mkF m 3 #[.val (.long q0), .second, .val (.long q1), .second, .val (.int p2), .unset, .unset, .unset, .unset, .unset, .unset, .unset, .unset, .unset, .unset, .unset] [(.int (1 : Int32)), (.int p2)]))
  refine own_step (fun _ k => XS.iand X0.here hx rfl (hb hby at_3) rfl k) ?_
  show own_Ends p.tables e below _ (s₁.setTop (mkF m 4 #[.val (.long q0), .second, .val (.long q1), .second, .val (.int p2), .unset, .unset, .unset, .unset, .unset, .unset, .unset, .unset, .unset, .unset, .unset] [(.int (p2 &&& (1 : Int32)))]))
  have jn14 : ∀ (f5 : Int32), own_Ends p.tables e below (own_Q s (own_Q_law Z q0 q1 p2 h0 n0) room_1.cells room_1.slots) (s₁.setTop (mkF m 14 #[.val (.long q0), .second, .val (.long q1), .second, .val (.int p2), .val (.int f5), .unset, .unset, .unset, .unset, .unset, .unset, .unset, .unset, .unset, .unset] [])) := by
    intro f5
    refine own_step (fun _ k => XS.iload X0.here hx rfl (hb hby at_14) rfl k) ?_
    show own_Ends p.tables e below _ (s₁.setTop (mkF m 16 #[.val (.long q0), .second, .val (.long q1), .second, .val (.int p2), .val (.int f5), .unset, .unset, .unset, .unset, .unset, .unset, .unset, .unset, .unset, .unset] [(.int p2)]))
    refine own_step (fun _ k => XS.iconst X0.here hx rfl (hb hby at_16) k) ?_
    show own_Ends p.tables e below _ (s₁.setTop (mkF m 17 #[.val (.long q0), .second, .val (.long q1), .second, .val (.int p2), .val (.int f5), .unset, .unset, .unset, .unset, .unset, .unset, .unset, .unset, .unset, .unset] [(.int (2 : Int32)), (.int p2)]))
    refine own_step (fun _ k => XS.iand X0.here hx rfl (hb hby at_17) rfl k) ?_
    show own_Ends p.tables e below _ (s₁.setTop (mkF m 18 #[.val (.long q0), .second, .val (.long q1), .second, .val (.int p2), .val (.int f5), .unset, .unset, .unset, .unset, .unset, .unset, .unset, .unset, .unset, .unset] [(.int (p2 &&& (2 : Int32)))]))
    have jn28 : ∀ (f6 : Int32), own_Ends p.tables e below (own_Q s (own_Q_law Z q0 q1 p2 h0 n0) room_1.cells room_1.slots) (s₁.setTop (mkF m 28 #[.val (.long q0), .second, .val (.long q1), .second, .val (.int p2), .val (.int f5), .val (.int f6), .unset, .unset, .unset, .unset, .unset, .unset, .unset, .unset, .unset] [])) := by
      intro f6
      refine own_step (fun _ k => XS.iload X0.here hx rfl (hb hby at_28) rfl k) ?_
      show own_Ends p.tables e below _ (s₁.setTop (mkF m 30 #[.val (.long q0), .second, .val (.long q1), .second, .val (.int p2), .val (.int f5), .val (.int f6), .unset, .unset, .unset, .unset, .unset, .unset, .unset, .unset, .unset] [(.int p2)]))
      refine own_step (fun _ k => XS.bipush X0.here hx rfl (hb hby at_30) k) ?_
      show own_Ends p.tables e below _ (s₁.setTop (mkF m 32 #[.val (.long q0), .second, .val (.long q1), .second, .val (.int p2), .val (.int f5), .val (.int f6), .unset, .unset, .unset, .unset, .unset, .unset, .unset, .unset, .unset] [(.int (8 : Int32)), (.int p2)]))
      refine own_step (fun _ k => XS.iushr X0.here hx rfl (hb hby at_32) rfl k) ?_
      show own_Ends p.tables e below _ (s₁.setTop (mkF m 33 #[.val (.long q0), .second, .val (.long q1), .second, .val (.int p2), .val (.int f5), .val (.int f6), .unset, .unset, .unset, .unset, .unset, .unset, .unset, .unset, .unset] [(.int ((p2.toUInt32 >>> ((8 : Int32) &&& 31).toUInt32).toInt32))]))
      refine own_step (fun _ k => X0.ldcInt hx hown (mvT hZ (hw _ (List.mem_of_getElem? (i := 0) rfl))) (g := (mkF m 33 #[.val (.long q0), .second, .val (.long q1), .second, .val (.int p2), .val (.int f5), .val (.int f6), .unset, .unset, .unset, .unset, .unset, .unset, .unset, .unset, .unset] [(.int ((p2.toUInt32 >>> ((8 : Int32) &&& 31).toUInt32).toInt32))])) rfl (hb hby at_33) _ k) ?_
      show own_Ends p.tables e below _ (s₁.setTop (mkF m 35 #[.val (.long q0), .second, .val (.long q1), .second, .val (.int p2), .val (.int f5), .val (.int f6), .unset, .unset, .unset, .unset, .unset, .unset, .unset, .unset, .unset] [(.int (65535 : Int32)), (.int ((p2.toUInt32 >>> ((8 : Int32) &&& 31).toUInt32).toInt32))]))
      refine own_step (fun _ k => XS.iand X0.here hx rfl (hb hby at_35) rfl k) ?_
      show own_Ends p.tables e below _ (s₁.setTop (mkF m 36 #[.val (.long q0), .second, .val (.long q1), .second, .val (.int p2), .val (.int f5), .val (.int f6), .unset, .unset, .unset, .unset, .unset, .unset, .unset, .unset, .unset] [(.int (((p2.toUInt32 >>> ((8 : Int32) &&& 31).toUInt32).toInt32) &&& (65535 : Int32)))]))
      refine own_step (fun _ k => XS.bipush X0.here hx rfl (hb hby at_36) k) ?_
      show own_Ends p.tables e below _ (s₁.setTop (mkF m 38 #[.val (.long q0), .second, .val (.long q1), .second, .val (.int p2), .val (.int f5), .val (.int f6), .unset, .unset, .unset, .unset, .unset, .unset, .unset, .unset, .unset] [(.int (127 : Int32)), (.int (((p2.toUInt32 >>> ((8 : Int32) &&& 31).toUInt32).toInt32) &&& (65535 : Int32)))]))
      refine own_step (fun _ k => iremM X0 hx rfl (hb hby at_38) rfl (by decide) k) ?_
      show own_Ends p.tables e below _ (s₁.setTop (mkF m 39 #[.val (.long q0), .second, .val (.long q1), .second, .val (.int p2), .val (.int f5), .val (.int f6), .unset, .unset, .unset, .unset, .unset, .unset, .unset, .unset, .unset] [(.int ((((p2.toUInt32 >>> ((8 : Int32) &&& 31).toUInt32).toInt32) &&& (65535 : Int32)) % (127 : Int32)))]))
      obtain ⟨d, hd, ed⟩ := own_drange p2
      rw [ed]
      show own_Ends p.tables e below _ (s₁.setTop (mkF m 39 #[.val (.long q0), .second, .val (.long q1), .second, .val (.int p2), .val (.int f5), .val (.int f6), .unset, .unset, .unset, .unset, .unset, .unset, .unset, .unset, .unset] [(.int (Int32.ofNat d))]))
      refine own_step (fun _ k => XS.istore X0.here hx rfl (hb hby at_39) rfl (l' := #[.val (.long q0), .second, .val (.long q1), .second, .val (.int p2), .val (.int f5), .val (.int f6), .val (.int (Int32.ofNat d)), .unset, .unset, .unset, .unset, .unset, .unset, .unset, .unset]) rfl k) ?_
      show own_Ends p.tables e below _ (s₁.setTop (mkF m 41 #[.val (.long q0), .second, .val (.long q1), .second, .val (.int p2), .val (.int f5), .val (.int f6), .val (.int (Int32.ofNat d)), .unset, .unset, .unset, .unset, .unset, .unset, .unset, .unset] []))
      obtain ⟨T1, h1, X1, e1, E1, A1, D1, -, st1⟩ := newO X0 hx hZ hown (hw _ (List.mem_of_getElem? (i := 1) rfl)) (hw _ (List.mem_of_getElem? (i := 2) rfl)) (hw _ (List.mem_of_getElem? (i := 3) rfl)) e0 (g := (mkF m 41 #[.val (.long q0), .second, .val (.long q1), .second, .val (.int p2), .val (.int f5), .val (.int f6), .val (.int (Int32.ofNat d)), .unset, .unset, .unset, .unset, .unset, .unset, .unset, .unset] [])) rfl (hb hby at_41) (by decide) (by decide)
      obtain ⟨b1, g1⟩ : ∃ z, z = h0.size := ⟨_, rfl⟩
      rw [← g1] at A1 D1 st1
      refine own_step st1 ?_
      have g_b1 : n0 ≤ b1 := Nat.le_trans Z0 (Nat.le_of_eq g1.symm)
      have sz_b1 : h0.size ≤ b1 := Nat.le_trans K0.1 (Nat.le_of_eq g1.symm)
      have K_1 : Keep h0 h1 [] := K0.ext E1
      have Z_1 : n0 ≤ h1.size := Nat.le_trans Z0 E1.1
      have F_buffer_b1 : Fld Z h1 b1 "com/example/ketchup/ketchup/negentropy/MessageWriter" "buffer" "[B" .null := D1 (Or.inl (hw _ (List.mem_of_getElem? (i := 12) rfl))) (ty := (.array .byte)) (by decide)
      have F_size_b1 : Fld Z h1 b1 "com/example/ketchup/ketchup/negentropy/MessageWriter" "size" "I" (.int (0 : Int32)) := D1 (Or.inl (hw _ (List.mem_of_getElem? (i := 18) rfl))) (ty := .int) (by decide)
      have F_markedSize_b1 : Fld Z h1 b1 "com/example/ketchup/ketchup/negentropy/MessageWriter" "markedSize" "I" (.int (0 : Int32)) := D1 (Or.inl (hw _ (List.mem_of_getElem? (i := 29) rfl))) (ty := .int) (by decide)
      have F_previousTimestamp_b1 : Fld Z h1 b1 "com/example/ketchup/ketchup/negentropy/MessageWriter" "previousTimestamp" "J" (.long (0 : Int64)) := D1 (Or.inl (hw _ (List.mem_of_getElem? (i := 31) rfl))) (ty := .long) (by decide)
      have F_markedPreviousTimestamp_b1 : Fld Z h1 b1 "com/example/ketchup/ketchup/negentropy/MessageWriter" "markedPreviousTimestamp" "J" (.long (0 : Int64)) := D1 (Or.inl (hw _ (List.mem_of_getElem? (i := 33) rfl))) (ty := .long) (by decide)
      show own_Ends p.tables e below _ (T1.setTop (mkF m 44 #[.val (.long q0), .second, .val (.long q1), .second, .val (.int p2), .val (.int f5), .val (.int f6), .val (.int (Int32.ofNat d)), .unset, .unset, .unset, .unset, .unset, .unset, .unset, .unset] [(.ref b1)]))
      refine own_step (fun _ k => XS.dup X1.here hx rfl (hb hby at_44) rfl rfl k) ?_
      show own_Ends p.tables e below _ (T1.setTop (mkF m 45 #[.val (.long q0), .second, .val (.long q1), .second, .val (.int p2), .val (.int f5), .val (.int f6), .val (.int (Int32.ofNat d)), .unset, .unset, .unset, .unset, .unset, .unset, .unset, .unset] [(.ref b1), (.ref b1)]))
      obtain ⟨_, _, ⟨T2, L2, k2, n2⟩, -, X2, ⟨Lc2, hQ2, l2, y2, z2⟩, st2⟩ := X1.specialBack hx (y := (⟨"com/example/ketchup/ketchup/negentropy/MessageWriter", "<init>", "()V"⟩ : MethodName)) rfl hown (mvT hZ (hw _ (List.mem_of_getElem? (i := 4) rfl))) (mvT hZ (hw _ (List.mem_of_getElem? (i := 5) rfl))) (mvT hZ (hw _ (List.mem_of_getElem? (i := 6) rfl))) (by decide) (backOf (W := 1) (own_rm_winit l Z aw hw [] b1 h1 n0 Z_1 A1 F_buffer_b1 F_size_b1 F_previousTimestamp_b1 F_markedSize_b1 F_markedPreviousTimestamp_b1 g_b1) hZ (hw _ (List.mem_of_getElem? (i := 6) rfl)) (hw _ (List.mem_of_getElem? (i := 3) rfl)) (by decide) (by decide)) (g := (mkF m 45 #[.val (.long q0), .second, .val (.long q1), .second, .val (.int p2), .val (.int f5), .val (.int f6), .val (.int (Int32.ofNat d)), .unset, .unset, .unset, .unset, .unset, .unset, .unset, .unset] [(.ref b1), (.ref b1)])) rfl (by rw [hml]; rfl) (Steps.refl _) (a := b1) (argsL := []) (rest := [(.ref b1)]) (lenOf own_pd2 rfl) rfl (by show 2 * 0 + _ ≤ _; exact Nat.le_of_eq rfl) (hb hby at_45) (fun _ _ => ⟨rfl, e1, (by decide : 1 + 2 ≤ _), (by decide : 5 + 257 ≤ _)⟩)
      dsimp only [Pt.U, Pt.locs, Pt.cells, Pt.slots] at X2 l2 y2 z2 st2 hQ2
      subst l2 y2 z2
      obtain ⟨rfl, N2q, k2, bf2, kb2, vs2, ge2, hs2, new2, Fb2, Fz2, Fp2, Fm2, Fq2, Vb2, hvs2, hz2⟩ := hQ2
      have N_2 := Fr.app N0 N2q
      have ne_b1_bf2 : b1 ≠ bf2 := Nat.ne_of_lt (Nat.lt_of_lt_of_le A1.lt hs2)
      have sz_bf2 : h0.size ≤ bf2 := Nat.le_trans K_1.1 hs2
      have A1_2 := A1.keep k2
      have K_2 : Keep h0 T2.heap [] := K_1.trans k2 (allS (Or.inr sz_b1) all0)
      have Z_2 : n0 ≤ T2.heap.size := Nat.le_trans Z_1 k2.1
      refine own_step (fun _ k => st2.trans k) ?_
      show own_Ends p.tables e below _ (T2.setTop (mkF m 48 #[.val (.long q0), .second, .val (.long q1), .second, .val (.int p2), .val (.int f5), .val (.int f6), .val (.int (Int32.ofNat d)), .unset, .unset, .unset, .unset, .unset, .unset, .unset, .unset] [(.ref b1)]))
      refine own_step (fun _ k => XS.astore X2.here hx rfl (hb hby at_48) rfl rfl (l' := #[.val (.long q0), .second, .val (.long q1), .second, .val (.int p2), .val (.int f5), .val (.int f6), .val (.int (Int32.ofNat d)), .val (.ref b1), .unset, .unset, .unset, .unset, .unset, .unset, .unset]) rfl k) ?_
      show own_Ends p.tables e below _ (T2.setTop (mkF m 50 #[.val (.long q0), .second, .val (.long q1), .second, .val (.int p2), .val (.int f5), .val (.int f6), .val (.int (Int32.ofNat d)), .val (.ref b1), .unset, .unset, .unset, .unset, .unset, .unset, .unset] []))
      refine own_step (fun _ k => XS.lconst X2.here hx rfl (hb hby at_50) k) ?_
      show own_Ends p.tables e below _ (T2.setTop (mkF m 51 #[.val (.long q0), .second, .val (.long q1), .second, .val (.int p2), .val (.int f5), .val (.int f6), .val (.int (Int32.ofNat d)), .val (.ref b1), .unset, .unset, .unset, .unset, .unset, .unset, .unset] [(.long (0 : Int64))]))
      refine own_step (fun _ k => XS.lstore X2.here hx rfl (hb hby at_51) rfl (l' := #[.val (.long q0), .second, .val (.long q1), .second, .val (.int p2), .val (.int f5), .val (.int f6), .val (.int (Int32.ofNat d)), .val (.ref b1), .val (.long (0 : Int64)), .second, .unset, .unset, .unset, .unset, .unset]) rfl k) ?_
      show own_Ends p.tables e below _ (T2.setTop (mkF m 53 #[.val (.long q0), .second, .val (.long q1), .second, .val (.int p2), .val (.int f5), .val (.int f6), .val (.int (Int32.ofNat d)), .val (.ref b1), .val (.long (0 : Int64)), .second, .unset, .unset, .unset, .unset, .unset] []))
      refine own_step (fun _ k => XS.iload X2.here hx rfl (hb hby at_53) rfl k) ?_
      show own_Ends p.tables e below _ (T2.setTop (mkF m 55 #[.val (.long q0), .second, .val (.long q1), .second, .val (.int p2), .val (.int f5), .val (.int f6), .val (.int (Int32.ofNat d)), .val (.ref b1), .val (.long (0 : Int64)), .second, .unset, .unset, .unset, .unset, .unset] [(.int f5)]))
      have jn77 : ∀ (Tj77 : State) (loj77 : List Loc) (hj77 : Heap) (vs : List Value) (sz : Nat) (pt : Int64) (ms : Int32) (mp : Int64) (Xj77 : Stand p l e room_1 s m #[(.long q0), (.long q1), (.int p2)] below meth c Tj77 loj77 9 304) (ej77 : Tj77.heap = hj77) (Nj77 : Fr n0 loj77) (Kj77 : Keep h0 hj77 []) (Zj77 : n0 ≤ hj77.size) (F_buffer_j77 : Fld Z hj77 b1 "com/example/ketchup/ketchup/negentropy/MessageWriter" "buffer" "[B" (.ref bf2)) (F_size_j77 : Fld Z hj77 b1 "com/example/ketchup/ketchup/negentropy/MessageWriter" "size" "I" (.int (Int32.ofNat sz))) (F_previousTimestamp_j77 : Fld Z hj77 b1 "com/example/ketchup/ketchup/negentropy/MessageWriter" "previousTimestamp" "J" (.long pt)) (F_markedSize_j77 : Fld Z hj77 b1 "com/example/ketchup/ketchup/negentropy/MessageWriter" "markedSize" "I" (.int ms)) (F_markedPreviousTimestamp_j77 : Fld Z hj77 b1 "com/example/ketchup/ketchup/negentropy/MessageWriter" "markedPreviousTimestamp" "J" (.long mp)) (E_w_j77 : Exa Z hj77 b1 "com/example/ketchup/ketchup/negentropy/MessageWriter") (V_bf_j77 : Arv Z hj77 bf2 kb2 .byte (256 : Int32) vs (Value.int (0 : Int32))) (hvsj : vs.length = 256) (hzj : vs.getD 0 (Value.int (0 : Int32)) = .int (97 : Int32)) (hz1 : 1 ≤ sz) (hz2 : sz ≤ 12), own_Ends p.tables e below (own_Q s (own_Q_law Z q0 q1 p2 h0 n0) room_1.cells room_1.slots) (Tj77.setTop (mkF m 77 #[.val (.long q0), .second, .val (.long q1), .second, .val (.int p2), .val (.int f5), .val (.int f6), .val (.int (Int32.ofNat d)), .val (.ref b1), .val (.long pt), .second, .unset, .unset, .unset, .unset, .unset] [])) := by
        intro Tj77 loj77 hj77 vs sz pt ms mp Xj77 ej77 Nj77 Kj77 Zj77 F_buffer_j77 F_size_j77 F_previousTimestamp_j77 F_markedSize_j77 F_markedPreviousTimestamp_j77 E_w_j77 V_bf_j77 hvsj hzj hz1 hz2
        refine own_step (fun _ k => XS.aload Xj77.here hx rfl (hb hby at_77) rfl rfl k) ?_
        show own_Ends p.tables e below _ (Tj77.setTop (mkF m 79 #[.val (.long q0), .second, .val (.long q1), .second, .val (.int p2), .val (.int f5), .val (.int f6), .val (.int (Int32.ofNat d)), .val (.ref b1), .val (.long pt), .second, .unset, .unset, .unset, .unset, .unset] [(.ref b1)]))
        obtain ⟨cq3, kq3, q3a, q3b, q3c⟩ := isOf hZ ej77 E_w_j77
        obtain ⟨_, _, ⟨T3, L3, k3, n3⟩, -, X3, ⟨Lc3, hQ3, l3, y3, z3⟩, st3⟩ := Xj77.virtualBack hx (y := (⟨"com/example/ketchup/ketchup/negentropy/MessageWriter", "mark", "()V"⟩ : MethodName)) (z := (⟨"com/example/ketchup/ketchup/negentropy/MessageWriter", "mark", "()V"⟩ : MethodName)) hown (mvT hZ (hw _ (List.mem_of_getElem? (i := 34) rfl))) (mvT hZ (hw _ (List.mem_of_getElem? (i := 24) rfl))) (notFace_of_selects (args := #[]) (mvT hZ (hw _ (List.mem_of_getElem? (i := 26) rfl)))) (mvT hZ (hw _ (List.mem_of_getElem? (i := 26) rfl))) (mvT hZ (hw _ (List.mem_of_getElem? (i := 25) rfl))) (by decide) (backOf (W := 0) (own_rm_mark l Z aw hw [] b1 bf2 kb2 vs sz pt ms mp hj77 n0 Zj77 E_w_j77 F_buffer_j77 F_size_j77 F_previousTimestamp_j77 F_markedSize_j77 F_markedPreviousTimestamp_j77 V_bf_j77 hvsj new2 g_b1 ge2) hZ (hw _ (List.mem_of_getElem? (i := 27) rfl)) (hw _ (List.mem_of_getElem? (i := 3) rfl)) (by decide) (by decide)) q3a q3c (g := (mkF m 79 #[.val (.long q0), .second, .val (.long q1), .second, .val (.int p2), .val (.int f5), .val (.int f6), .val (.int (Int32.ofNat d)), .val (.ref b1), .val (.long pt), .second, .unset, .unset, .unset, .unset, .unset] [(.ref b1)])) rfl (by rw [hml]; rfl) (Steps.refl _) (argsL := []) (rest := []) (lenOf own_pd2 rfl) rfl (by show 2 * 0 + _ ≤ _; exact Nat.le_of_eq rfl) (hb hby at_79) (fun _ _ => ⟨rfl, ej77, (by decide : 9 + 0 ≤ _), (by decide : 304 + 0 ≤ _)⟩)
        dsimp only [Pt.U, Pt.locs, Pt.cells, Pt.slots] at X3 l3 y3 z3 st3 hQ3
        subst l3 y3 z3
        obtain ⟨rfl, N3q, k3, Fb3, Fz3, Fp3, Fm3, Fq3⟩ := hQ3
        have N_3 := Fr.app Nj77 N3q
        have E_w_j77_3 := E_w_j77.keep k3
        have V_bf_j77_3 := V_bf_j77.keep k3 (ninS (Ne.symm new2) nin0)
        have K_3 : Keep h0 T3.heap [] := Kj77.trans k3 (allS (Or.inr sz_b1) all0)
        have Z_3 : n0 ≤ T3.heap.size := Nat.le_trans Zj77 k3.1
        refine own_step (fun _ k => st3.trans k) ?_
        show own_Ends p.tables e below _ (T3.setTop (mkF m 82 #[.val (.long q0), .second, .val (.long q1), .second, .val (.int p2), .val (.int f5), .val (.int f6), .val (.int (Int32.ofNat d)), .val (.ref b1), .val (.long pt), .second, .unset, .unset, .unset, .unset, .unset] []))
        refine own_step (fun _ k => XS.aload X3.here hx rfl (hb hby at_82) rfl rfl k) ?_
        show own_Ends p.tables e below _ (T3.setTop (mkF m 84 #[.val (.long q0), .second, .val (.long q1), .second, .val (.int p2), .val (.int f5), .val (.int f6), .val (.int (Int32.ofNat d)), .val (.ref b1), .val (.long pt), .second, .unset, .unset, .unset, .unset, .unset] [(.ref b1)]))
        obtain ⟨cq4, kq4, q4a, q4b, q4c⟩ := isOf hZ rfl E_w_j77_3
        obtain ⟨_, _, ⟨T4, L4, k4, n4⟩, -, X4, ⟨Lc4, hQ4, l4, y4, z4⟩, st4⟩ := X3.virtualBack hx (y := (⟨"com/example/ketchup/ketchup/negentropy/MessageWriter", "size", "()I"⟩ : MethodName)) (z := (⟨"com/example/ketchup/ketchup/negentropy/MessageWriter", "size", "()I"⟩ : MethodName)) hown (mvT hZ (hw _ (List.mem_of_getElem? (i := 35) rfl))) (mvT hZ (hw _ (List.mem_of_getElem? (i := 36) rfl))) (notFace_of_selects (args := #[]) (mvT hZ (hw _ (List.mem_of_getElem? (i := 38) rfl)))) (mvT hZ (hw _ (List.mem_of_getElem? (i := 38) rfl))) (mvT hZ (hw _ (List.mem_of_getElem? (i := 37) rfl))) (by decide) (backOf (W := 0) (own_rm_size l Z aw hw [] b1 (Int32.ofNat sz) T3.heap n0 Z_3 Fz3) hZ (hw _ (List.mem_of_getElem? (i := 39) rfl)) (hw _ (List.mem_of_getElem? (i := 3) rfl)) (by decide) (by decide)) q4a q4c (g := (mkF m 84 #[.val (.long q0), .second, .val (.long q1), .second, .val (.int p2), .val (.int f5), .val (.int f6), .val (.int (Int32.ofNat d)), .val (.ref b1), .val (.long pt), .second, .unset, .unset, .unset, .unset, .unset] [(.ref b1)])) rfl (by rw [hml]; rfl) (Steps.refl _) (argsL := []) (rest := []) (lenOf own_pd10 rfl) rfl (by show 2 * 0 + _ ≤ _; exact Nat.le_of_eq rfl) (hb hby at_84) (fun _ _ => ⟨rfl, rfl, (by decide : 9 + 0 ≤ _), (by decide : 304 + 0 ≤ _)⟩)
        dsimp only [Pt.U, Pt.locs, Pt.cells, Pt.slots] at X4 l4 y4 z4 st4 hQ4
        subst l4 y4 z4
        obtain ⟨rfl, N4q, e4⟩ := hQ4
        have N_4 := Fr.app N_3 N4q
        refine own_step (fun _ k => st4.trans k) ?_
        show own_Ends p.tables e below _ (T4.setTop (mkF m 87 #[.val (.long q0), .second, .val (.long q1), .second, .val (.int p2), .val (.int f5), .val (.int f6), .val (.int (Int32.ofNat d)), .val (.ref b1), .val (.long pt), .second, .unset, .unset, .unset, .unset, .unset] [(.int (Int32.ofNat sz))]))
        refine own_step (fun _ k => XS.istore X4.here hx rfl (hb hby at_87) rfl (l' := #[.val (.long q0), .second, .val (.long q1), .second, .val (.int p2), .val (.int f5), .val (.int f6), .val (.int (Int32.ofNat d)), .val (.ref b1), .val (.long pt), .second, .val (.int (Int32.ofNat sz)), .unset, .unset, .unset, .unset]) rfl k) ?_
        show own_Ends p.tables e below _ (T4.setTop (mkF m 89 #[.val (.long q0), .second, .val (.long q1), .second, .val (.int p2), .val (.int f5), .val (.int f6), .val (.int (Int32.ofNat d)), .val (.ref b1), .val (.long pt), .second, .val (.int (Int32.ofNat sz)), .unset, .unset, .unset, .unset] []))
        refine own_step (fun _ k => XS.iload X4.here hx rfl (hb hby at_89) rfl k) ?_
        show own_Ends p.tables e below _ (T4.setTop (mkF m 91 #[.val (.long q0), .second, .val (.long q1), .second, .val (.int p2), .val (.int f5), .val (.int f6), .val (.int (Int32.ofNat d)), .val (.ref b1), .val (.long pt), .second, .val (.int (Int32.ofNat sz)), .unset, .unset, .unset, .unset] [(.int f6)]))
        have jn125 : ∀ (Tj125 : State) (loj125 : List Loc) (hj125 : Heap) (v2 : List Value) (s2 : Nat) (pp2 : Int64) (Xj125 : Stand p l e room_1 s m #[(.long q0), (.long q1), (.int p2)] below meth c Tj125 loj125 15 348) (ej125 : Tj125.heap = hj125) (Nj125 : Fr n0 loj125) (Kj125 : Keep h0 hj125 []) (Zj125 : n0 ≤ hj125.size) (F_buffer_j125 : Fld Z hj125 b1 "com/example/ketchup/ketchup/negentropy/MessageWriter" "buffer" "[B" (.ref bf2)) (F_size_j125 : Fld Z hj125 b1 "com/example/ketchup/ketchup/negentropy/MessageWriter" "size" "I" (.int (Int32.ofNat s2))) (F_previousTimestamp_j125 : Fld Z hj125 b1 "com/example/ketchup/ketchup/negentropy/MessageWriter" "previousTimestamp" "J" (.long pp2)) (F_markedSize_j125 : Fld Z hj125 b1 "com/example/ketchup/ketchup/negentropy/MessageWriter" "markedSize" "I" (.int (Int32.ofNat sz))) (F_markedPreviousTimestamp_j125 : Fld Z hj125 b1 "com/example/ketchup/ketchup/negentropy/MessageWriter" "markedPreviousTimestamp" "J" (.long pt)) (E_w_j125 : Exa Z hj125 b1 "com/example/ketchup/ketchup/negentropy/MessageWriter") (V_bf_j125 : Arv Z hj125 bf2 kb2 .byte (256 : Int32) v2 (Value.int (0 : Int32))) (hv2 : v2.length = 256) (hlj : ∀ i, i < sz → v2.getD i (Value.int (0 : Int32)) = vs.getD i (Value.int (0 : Int32))), own_Ends p.tables e below (own_Q s (own_Q_law Z q0 q1 p2 h0 n0) room_1.cells room_1.slots) (Tj125.setTop (mkF m 125 #[.val (.long q0), .second, .val (.long q1), .second, .val (.int p2), .val (.int f5), .val (.int f6), .val (.int (Int32.ofNat d)), .val (.ref b1), .val (.long pt), .second, .val (.int (Int32.ofNat sz)), .unset, .unset, .unset, .unset] [])) := by
          intro Tj125 loj125 hj125 v2 s2 pp2 Xj125 ej125 Nj125 Kj125 Zj125 F_buffer_j125 F_size_j125 F_previousTimestamp_j125 F_markedSize_j125 F_markedPreviousTimestamp_j125 E_w_j125 V_bf_j125 hv2 hlj
          refine own_step (fun _ k => XS.aload Xj125.here hx rfl (hb hby at_125) rfl rfl k) ?_
          show own_Ends p.tables e below _ (Tj125.setTop (mkF m 127 #[.val (.long q0), .second, .val (.long q1), .second, .val (.int p2), .val (.int f5), .val (.int f6), .val (.int (Int32.ofNat d)), .val (.ref b1), .val (.long pt), .second, .val (.int (Int32.ofNat sz)), .unset, .unset, .unset, .unset] [(.ref b1)]))
          obtain ⟨cq5, kq5, q5a, q5b, q5c⟩ := isOf hZ ej125 E_w_j125
          obtain ⟨_, _, ⟨T5, L5, k5, n5⟩, -, X5, ⟨Lc5, hQ5, l5, y5, z5⟩, st5⟩ := Xj125.virtualBack hx (y := (⟨"com/example/ketchup/ketchup/negentropy/MessageWriter", "reset", "()V"⟩ : MethodName)) (z := (⟨"com/example/ketchup/ketchup/negentropy/MessageWriter", "reset", "()V"⟩ : MethodName)) hown (mvT hZ (hw _ (List.mem_of_getElem? (i := 40) rfl))) (mvT hZ (hw _ (List.mem_of_getElem? (i := 41) rfl))) (notFace_of_selects (args := #[]) (mvT hZ (hw _ (List.mem_of_getElem? (i := 43) rfl)))) (mvT hZ (hw _ (List.mem_of_getElem? (i := 43) rfl))) (mvT hZ (hw _ (List.mem_of_getElem? (i := 42) rfl))) (by decide) (backOf (W := 0) (own_rm_reset l Z aw hw [] b1 bf2 kb2 v2 s2 pp2 (Int32.ofNat sz) pt hj125 n0 Zj125 E_w_j125 F_buffer_j125 F_size_j125 F_previousTimestamp_j125 F_markedSize_j125 F_markedPreviousTimestamp_j125 V_bf_j125 hv2 new2 g_b1 ge2) hZ (hw _ (List.mem_of_getElem? (i := 44) rfl)) (hw _ (List.mem_of_getElem? (i := 3) rfl)) (by decide) (by decide)) q5a q5c (g := (mkF m 127 #[.val (.long q0), .second, .val (.long q1), .second, .val (.int p2), .val (.int f5), .val (.int f6), .val (.int (Int32.ofNat d)), .val (.ref b1), .val (.long pt), .second, .val (.int (Int32.ofNat sz)), .unset, .unset, .unset, .unset] [(.ref b1)])) rfl (by rw [hml]; rfl) (Steps.refl _) (argsL := []) (rest := []) (lenOf own_pd2 rfl) rfl (by show 2 * 0 + _ ≤ _; exact Nat.le_of_eq rfl) (hb hby at_127) (fun _ _ => ⟨rfl, ej125, (by decide : 15 + 0 ≤ _), (by decide : 348 + 0 ≤ _)⟩)
          dsimp only [Pt.U, Pt.locs, Pt.cells, Pt.slots] at X5 l5 y5 z5 st5 hQ5
          subst l5 y5 z5
          obtain ⟨rfl, N5q, k5, Fb5, Fz5, Fp5, Fm5, Fq5⟩ := hQ5
          have N_5 := Fr.app Nj125 N5q
          have E_w_j125_5 := E_w_j125.keep k5
          have V_bf_j125_5 := V_bf_j125.keep k5 (ninS (Ne.symm new2) nin0)
          have K_5 : Keep h0 T5.heap [] := Kj125.trans k5 (allS (Or.inr sz_b1) all0)
          have Z_5 : n0 ≤ T5.heap.size := Nat.le_trans Zj125 k5.1
          refine own_step (fun _ k => st5.trans k) ?_
          show own_Ends p.tables e below _ (T5.setTop (mkF m 130 #[.val (.long q0), .second, .val (.long q1), .second, .val (.int p2), .val (.int f5), .val (.int f6), .val (.int (Int32.ofNat d)), .val (.ref b1), .val (.long pt), .second, .val (.int (Int32.ofNat sz)), .unset, .unset, .unset, .unset] []))
          refine own_step (fun _ k => XS.aload X5.here hx rfl (hb hby at_130) rfl rfl k) ?_
          show own_Ends p.tables e below _ (T5.setTop (mkF m 132 #[.val (.long q0), .second, .val (.long q1), .second, .val (.int p2), .val (.int f5), .val (.int f6), .val (.int (Int32.ofNat d)), .val (.ref b1), .val (.long pt), .second, .val (.int (Int32.ofNat sz)), .unset, .unset, .unset, .unset] [(.ref b1)]))
          obtain ⟨cq6, kq6, q6a, q6b, q6c⟩ := isOf hZ rfl E_w_j125_5
          obtain ⟨_, _, ⟨T6, L6, k6, n6⟩, -, X6, ⟨Lc6, hQ6, l6, y6, z6⟩, st6⟩ := X5.virtualBack hx (y := (⟨"com/example/ketchup/ketchup/negentropy/MessageWriter", "size", "()I"⟩ : MethodName)) (z := (⟨"com/example/ketchup/ketchup/negentropy/MessageWriter", "size", "()I"⟩ : MethodName)) hown (mvT hZ (hw _ (List.mem_of_getElem? (i := 35) rfl))) (mvT hZ (hw _ (List.mem_of_getElem? (i := 36) rfl))) (notFace_of_selects (args := #[]) (mvT hZ (hw _ (List.mem_of_getElem? (i := 38) rfl)))) (mvT hZ (hw _ (List.mem_of_getElem? (i := 38) rfl))) (mvT hZ (hw _ (List.mem_of_getElem? (i := 37) rfl))) (by decide) (backOf (W := 0) (own_rm_size l Z aw hw [] b1 (Int32.ofNat sz) T5.heap n0 Z_5 Fz5) hZ (hw _ (List.mem_of_getElem? (i := 39) rfl)) (hw _ (List.mem_of_getElem? (i := 3) rfl)) (by decide) (by decide)) q6a q6c (g := (mkF m 132 #[.val (.long q0), .second, .val (.long q1), .second, .val (.int p2), .val (.int f5), .val (.int f6), .val (.int (Int32.ofNat d)), .val (.ref b1), .val (.long pt), .second, .val (.int (Int32.ofNat sz)), .unset, .unset, .unset, .unset] [(.ref b1)])) rfl (by rw [hml]; rfl) (Steps.refl _) (argsL := []) (rest := []) (lenOf own_pd10 rfl) rfl (by show 2 * 0 + _ ≤ _; exact Nat.le_of_eq rfl) (hb hby at_132) (fun _ _ => ⟨rfl, rfl, (by decide : 15 + 0 ≤ _), (by decide : 348 + 0 ≤ _)⟩)
          dsimp only [Pt.U, Pt.locs, Pt.cells, Pt.slots] at X6 l6 y6 z6 st6 hQ6
          subst l6 y6 z6
          obtain ⟨rfl, N6q, e6⟩ := hQ6
          have N_6 := Fr.app N_5 N6q
          refine own_step (fun _ k => st6.trans k) ?_
          show own_Ends p.tables e below _ (T6.setTop (mkF m 135 #[.val (.long q0), .second, .val (.long q1), .second, .val (.int p2), .val (.int f5), .val (.int f6), .val (.int (Int32.ofNat d)), .val (.ref b1), .val (.long pt), .second, .val (.int (Int32.ofNat sz)), .unset, .unset, .unset, .unset] [(.int (Int32.ofNat sz))]))
          refine own_step (fun _ k => XS.iload X6.here hx rfl (hb hby at_135) rfl k) ?_
          show own_Ends p.tables e below _ (T6.setTop (mkF m 137 #[.val (.long q0), .second, .val (.long q1), .second, .val (.int p2), .val (.int f5), .val (.int f6), .val (.int (Int32.ofNat d)), .val (.ref b1), .val (.long pt), .second, .val (.int (Int32.ofNat sz)), .unset, .unset, .unset, .unset] [(.int (Int32.ofNat sz)), (.int (Int32.ofNat sz))]))
          refine own_step (fun _ k => XS.icmpYes X6.here hx rfl (pc0 := 137) (pc' := 142) rfl (hb hby at_137) rfl (teq rfl).1 (by decide) (by decide) k) ?_
          show own_Ends p.tables e below _ (T6.setTop (mkF m 142 #[.val (.long q0), .second, .val (.long q1), .second, .val (.int p2), .val (.int f5), .val (.int f6), .val (.int (Int32.ofNat d)), .val (.ref b1), .val (.long pt), .second, .val (.int (Int32.ofNat sz)), .unset, .unset, .unset, .unset] []))
          refine own_step (fun _ k => XS.lload X6.here hx rfl (hb hby at_142) rfl k) ?_
          show own_Ends p.tables e below _ (T6.setTop (mkF m 144 #[.val (.long q0), .second, .val (.long q1), .second, .val (.int p2), .val (.int f5), .val (.int f6), .val (.int (Int32.ofNat d)), .val (.ref b1), .val (.long pt), .second, .val (.int (Int32.ofNat sz)), .unset, .unset, .unset, .unset] [(.long pt)]))
          refine own_step (fun _ k => XS.iload X6.here hx rfl (hb hby at_144) rfl k) ?_
          show own_Ends p.tables e below _ (T6.setTop (mkF m 146 #[.val (.long q0), .second, .val (.long q1), .second, .val (.int p2), .val (.int f5), .val (.int f6), .val (.int (Int32.ofNat d)), .val (.ref b1), .val (.long pt), .second, .val (.int (Int32.ofNat sz)), .unset, .unset, .unset, .unset] [(.int (Int32.ofNat d)), (.long pt)]))
          refine own_step (fun _ k => XS.i2l X6.here hx rfl (hb hby at_146) rfl k) ?_
          show own_Ends p.tables e below _ (T6.setTop (mkF m 147 #[.val (.long q0), .second, .val (.long q1), .second, .val (.int p2), .val (.int f5), .val (.int f6), .val (.int (Int32.ofNat d)), .val (.ref b1), .val (.long pt), .second, .val (.int (Int32.ofNat sz)), .unset, .unset, .unset, .unset] [(.long ((Int32.ofNat d).toInt64)), (.long pt)]))
          refine own_step (fun _ k => XS.ladd X6.here hx rfl (hb hby at_147) rfl k) ?_
          show own_Ends p.tables e below _ (T6.setTop (mkF m 148 #[.val (.long q0), .second, .val (.long q1), .second, .val (.int p2), .val (.int f5), .val (.int f6), .val (.int (Int32.ofNat d)), .val (.ref b1), .val (.long pt), .second, .val (.int (Int32.ofNat sz)), .unset, .unset, .unset, .unset] [(.long (pt + ((Int32.ofNat d).toInt64)))]))
          refine own_step (fun _ k => XS.lstore X6.here hx rfl (hb hby at_148) rfl (l' := #[.val (.long q0), .second, .val (.long q1), .second, .val (.int p2), .val (.int f5), .val (.int f6), .val (.int (Int32.ofNat d)), .val (.ref b1), .val (.long pt), .second, .val (.int (Int32.ofNat sz)), .val (.long (pt + ((Int32.ofNat d).toInt64))), .second, .unset, .unset]) rfl k) ?_
          show own_Ends p.tables e below _ (T6.setTop (mkF m 150 #[.val (.long q0), .second, .val (.long q1), .second, .val (.int p2), .val (.int f5), .val (.int f6), .val (.int (Int32.ofNat d)), .val (.ref b1), .val (.long pt), .second, .val (.int (Int32.ofNat sz)), .val (.long (pt + ((Int32.ofNat d).toInt64))), .second, .unset, .unset] []))
          refine own_step (fun _ k => XS.aload X6.here hx rfl (hb hby at_150) rfl rfl k) ?_
          show own_Ends p.tables e below _ (T6.setTop (mkF m 152 #[.val (.long q0), .second, .val (.long q1), .second, .val (.int p2), .val (.int f5), .val (.int f6), .val (.int (Int32.ofNat d)), .val (.ref b1), .val (.long pt), .second, .val (.int (Int32.ofNat sz)), .val (.long (pt + ((Int32.ofNat d).toInt64))), .second, .unset, .unset] [(.ref b1)]))
          obtain ⟨T7, h7, X7, e7, E7, A7, D7, -, st7⟩ := newO X6 hx hZ hown (hw _ (List.mem_of_getElem? (i := 45) rfl)) (hw _ (List.mem_of_getElem? (i := 46) rfl)) (hw _ (List.mem_of_getElem? (i := 47) rfl)) e6 (g := (mkF m 152 #[.val (.long q0), .second, .val (.long q1), .second, .val (.int p2), .val (.int f5), .val (.int f6), .val (.int (Int32.ofNat d)), .val (.ref b1), .val (.long pt), .second, .val (.int (Int32.ofNat sz)), .val (.long (pt + ((Int32.ofNat d).toInt64))), .second, .unset, .unset] [(.ref b1)])) rfl (hb hby at_152) (by decide) (by decide)
          obtain ⟨b7, g7⟩ : ∃ z, z = T5.heap.size := ⟨_, rfl⟩
          rw [← g7] at A7 D7 st7
          refine own_step st7 ?_
          have ne_b1_b7 : b1 ≠ b7 := Nat.ne_of_lt (Nat.lt_of_lt_of_le E_w_j125_5.lt (Nat.le_of_eq g7.symm))
          have ne_bf2_b7 : bf2 ≠ b7 := Nat.ne_of_lt (Nat.lt_of_lt_of_le V_bf_j125_5.lt (Nat.le_of_eq g7.symm))
          have g_b7 : n0 ≤ b7 := Nat.le_trans Z_5 (Nat.le_of_eq g7.symm)
          have sz_b7 : h0.size ≤ b7 := Nat.le_trans K_5.1 (Nat.le_of_eq g7.symm)
          have E_w_j125_7 := E_w_j125_5.ext E7
          have V_bf_j125_7 := V_bf_j125_5.ext E7
          have Fb5_7 := Fb5.ext E7
          have Fz5_7 := Fz5.ext E7
          have Fp5_7 := Fp5.ext E7
          have Fm5_7 := Fm5.ext E7
          have Fq5_7 := Fq5.ext E7
          have K_7 : Keep h0 h7 [] := K_5.ext E7
          have Z_7 : n0 ≤ h7.size := Nat.le_trans Z_5 E7.1
          have F_timestamp_b7 : Fld Z h7 b7 "com/example/ketchup/ketchup/negentropy/Bound" "timestamp" "J" (.long (0 : Int64)) := D7 (Or.inr (hw _ (List.mem_of_getElem? (i := 53) rfl))) (ty := .long) (by decide)
          have F_prefix_b7 : Fld Z h7 b7 "com/example/ketchup/ketchup/negentropy/Bound" "prefix" "[B" .null := D7 (Or.inr (hw _ (List.mem_of_getElem? (i := 55) rfl))) (ty := (.array .byte)) (by decide)
          show own_Ends p.tables e below _ (T7.setTop (mkF m 155 #[.val (.long q0), .second, .val (.long q1), .second, .val (.int p2), .val (.int f5), .val (.int f6), .val (.int (Int32.ofNat d)), .val (.ref b1), .val (.long pt), .second, .val (.int (Int32.ofNat sz)), .val (.long (pt + ((Int32.ofNat d).toInt64))), .second, .unset, .unset] [(.ref b7), (.ref b1)]))
          refine own_step (fun _ k => XS.dup X7.here hx rfl (hb hby at_155) rfl rfl k) ?_
          show own_Ends p.tables e below _ (T7.setTop (mkF m 156 #[.val (.long q0), .second, .val (.long q1), .second, .val (.int p2), .val (.int f5), .val (.int f6), .val (.int (Int32.ofNat d)), .val (.ref b1), .val (.long pt), .second, .val (.int (Int32.ofNat sz)), .val (.long (pt + ((Int32.ofNat d).toInt64))), .second, .unset, .unset] [(.ref b7), (.ref b7), (.ref b1)]))
          refine own_step (fun _ k => XS.lload X7.here hx rfl (hb hby at_156) rfl k) ?_
          show own_Ends p.tables e below _ (T7.setTop (mkF m 158 #[.val (.long q0), .second, .val (.long q1), .second, .val (.int p2), .val (.int f5), .val (.int f6), .val (.int (Int32.ofNat d)), .val (.ref b1), .val (.long pt), .second, .val (.int (Int32.ofNat sz)), .val (.long (pt + ((Int32.ofNat d).toInt64))), .second, .unset, .unset] [(.long (pt + ((Int32.ofNat d).toInt64))), (.ref b7), (.ref b7), (.ref b1)]))
          refine own_step (fun _ k => XS.iconst X7.here hx rfl (hb hby at_158) k) ?_
          show own_Ends p.tables e below _ (T7.setTop (mkF m 159 #[.val (.long q0), .second, .val (.long q1), .second, .val (.int p2), .val (.int f5), .val (.int f6), .val (.int (Int32.ofNat d)), .val (.ref b1), .val (.long pt), .second, .val (.int (Int32.ofNat sz)), .val (.long (pt + ((Int32.ofNat d).toInt64))), .second, .unset, .unset] [(.int (0 : Int32)), (.long (pt + ((Int32.ofNat d).toInt64))), (.ref b7), (.ref b7), (.ref b1)]))
          obtain ⟨T8, h8, k8, X8, e8, E8, A8, st8⟩ := newP X7 hx hZ (hw _ (List.mem_of_getElem? (i := 10) rfl)) e7 (g := (mkF m 159 #[.val (.long q0), .second, .val (.long q1), .second, .val (.int p2), .val (.int f5), .val (.int f6), .val (.int (Int32.ofNat d)), .val (.ref b1), .val (.long pt), .second, .val (.int (Int32.ofNat sz)), .val (.long (pt + ((Int32.ofNat d).toInt64))), .second, .unset, .unset] [(.int (0 : Int32)), (.long (pt + ((Int32.ofNat d).toInt64))), (.ref b7), (.ref b7), (.ref b1)])) rfl (hb hby at_159) rfl (by decide) (cap := 0) (by decide) (by decide) (by decide) (by decide)
          obtain ⟨b8, g8⟩ : ∃ z, z = h7.size := ⟨_, rfl⟩
          rw [← g8] at A8 st8
          refine own_step st8 ?_
          have ne_b1_b8 : b1 ≠ b8 := Nat.ne_of_lt (Nat.lt_of_lt_of_le E_w_j125_7.lt (Nat.le_of_eq g8.symm))
          have ne_bf2_b8 : bf2 ≠ b8 := Nat.ne_of_lt (Nat.lt_of_lt_of_le V_bf_j125_7.lt (Nat.le_of_eq g8.symm))
          have ne_b7_b8 : b7 ≠ b8 := Nat.ne_of_lt (Nat.lt_of_lt_of_le A7.lt (Nat.le_of_eq g8.symm))
          have g_b8 : n0 ≤ b8 := Nat.le_trans Z_7 (Nat.le_of_eq g8.symm)
          have sz_b8 : h0.size ≤ b8 := Nat.le_trans K_7.1 (Nat.le_of_eq g8.symm)
          have E_w_j125_8 := E_w_j125_7.ext E8
          have V_bf_j125_8 := V_bf_j125_7.ext E8
          have Fb5_8 := Fb5_7.ext E8
          have Fz5_8 := Fz5_7.ext E8
          have Fp5_8 := Fp5_7.ext E8
          have Fm5_8 := Fm5_7.ext E8
          have Fq5_8 := Fq5_7.ext E8
          have A7_8 := A7.ext E8
          have F_timestamp_b7_8 := F_timestamp_b7.ext E8
          have F_prefix_b7_8 := F_prefix_b7.ext E8
          have K_8 : Keep h0 h8 [] := K_7.ext E8
          have Z_8 : n0 ≤ h8.size := Nat.le_trans Z_7 E8.1
          have V_b8 : Arv Z h8 b8 k8 .byte (0 : Int32) (List.replicate 0 (.int (0 : Int32))) (.int (0 : Int32)) := (Arv.new A8 (by decide)).pad (pad_rep [] (.int (0 : Int32)) 0)
          show own_Ends p.tables e below _ (T8.setTop (mkF m 161 #[.val (.long q0), .second, .val (.long q1), .second, .val (.int p2), .val (.int f5), .val (.int f6), .val (.int (Int32.ofNat d)), .val (.ref b1), .val (.long pt), .second, .val (.int (Int32.ofNat sz)), .val (.long (pt + ((Int32.ofNat d).toInt64))), .second, .unset, .unset] [(.ref b8), (.long (pt + ((Int32.ofNat d).toInt64))), (.ref b7), (.ref b7), (.ref b1)]))
          obtain ⟨_, _, ⟨T9, L9, k9, n9⟩, -, X9, ⟨Lc9, hQ9, l9, y9, z9⟩, st9⟩ := X8.specialBack hx (y := (⟨"com/example/ketchup/ketchup/negentropy/Bound", "<init>", "(J[B)V"⟩ : MethodName)) rfl hown (mvT hZ (hw _ (List.mem_of_getElem? (i := 48) rfl))) (mvT hZ (hw _ (List.mem_of_getElem? (i := 49) rfl))) (mvT hZ (hw _ (List.mem_of_getElem? (i := 50) rfl))) (by decide) (backOf (W := 2) (own_rm_binit l Z aw hw [] b7 (pt + ((Int32.ofNat d).toInt64)) b8 k8 0 (List.replicate 0 (.int (0 : Int32))) h8 n0 Z_8 A7_8 F_timestamp_b7_8 F_prefix_b7_8 g_b7 V_b8 ne_b7_b8 (by omega)) hZ (hw _ (List.mem_of_getElem? (i := 50) rfl)) (hw _ (List.mem_of_getElem? (i := 47) rfl)) (by decide) (by decide)) (g := (mkF m 161 #[.val (.long q0), .second, .val (.long q1), .second, .val (.int p2), .val (.int f5), .val (.int f6), .val (.int (Int32.ofNat d)), .val (.ref b1), .val (.long pt), .second, .val (.int (Int32.ofNat sz)), .val (.long (pt + ((Int32.ofNat d).toInt64))), .second, .unset, .unset] [(.ref b8), (.long (pt + ((Int32.ofNat d).toInt64))), (.ref b7), (.ref b7), (.ref b1)])) rfl (by rw [hml]; rfl) (Steps.refl _) (a := b7) (argsL := [(.long (pt + ((Int32.ofNat d).toInt64))), (.ref b8)]) (rest := [(.ref b7), (.ref b1)]) (lenOf own_pd8 rfl) rfl (by show 2 * 0 + _ ≤ _; exact Nat.le_of_eq rfl) (hb hby at_161) (fun _ _ => ⟨rfl, e8, (by decide : 17 + 0 ≤ _), (by decide : 350 + 0 ≤ _)⟩)
          dsimp only [Pt.U, Pt.locs, Pt.cells, Pt.slots] at X9 l9 y9 z9 st9 hQ9
          subst l9 y9 z9
          obtain ⟨rfl, N9q, k9, Ft9, Fx9⟩ := hQ9
          have N_9 := Fr.app N_6 N9q
          have E_w_j125_9 := E_w_j125_8.keep k9
          have V_bf_j125_9 := V_bf_j125_8.keep k9 (ninS ne_bf2_b7 nin0)
          have Fb5_9 := Fb5_8.keep k9 (ninS ne_b1_b7 nin0)
          have Fz5_9 := Fz5_8.keep k9 (ninS ne_b1_b7 nin0)
          have Fp5_9 := Fp5_8.keep k9 (ninS ne_b1_b7 nin0)
          have Fm5_9 := Fm5_8.keep k9 (ninS ne_b1_b7 nin0)
          have Fq5_9 := Fq5_8.keep k9 (ninS ne_b1_b7 nin0)
          have A7_9 := A7_8.keep k9
          have V_b8_9 := V_b8.keep k9 (ninS (Ne.symm ne_b7_b8) nin0)
          have K_9 : Keep h0 T9.heap [] := K_8.trans k9 (allS (Or.inr sz_b7) all0)
          have Z_9 : n0 ≤ T9.heap.size := Nat.le_trans Z_8 k9.1
          refine own_step (fun _ k => st9.trans k) ?_
          show own_Ends p.tables e below _ (T9.setTop (mkF m 164 #[.val (.long q0), .second, .val (.long q1), .second, .val (.int p2), .val (.int f5), .val (.int f6), .val (.int (Int32.ofNat d)), .val (.ref b1), .val (.long pt), .second, .val (.int (Int32.ofNat sz)), .val (.long (pt + ((Int32.ofNat d).toInt64))), .second, .unset, .unset] [(.ref b7), (.ref b1)]))
          obtain ⟨cq10, kq10, q10a, q10b, q10c⟩ := isOf hZ rfl E_w_j125_9
          obtain ⟨_, _, ⟨T10, L10, k10, n10⟩, -, X10, ⟨Lc10, hQ10, l10, y10, z10⟩, st10⟩ := X9.virtualBack hx (y := (⟨"com/example/ketchup/ketchup/negentropy/MessageWriter", "writeBound", "(Lcom/example/ketchup/ketchup/negentropy/Bound;)V"⟩ : MethodName)) (z := (⟨"com/example/ketchup/ketchup/negentropy/MessageWriter", "writeBound", "(Lcom/example/ketchup/ketchup/negentropy/Bound;)V"⟩ : MethodName)) hown (mvT hZ (hw _ (List.mem_of_getElem? (i := 56) rfl))) (mvT hZ (hw _ (List.mem_of_getElem? (i := 57) rfl))) (notFace_of_selects (args := #[]) (mvT hZ (hw _ (List.mem_of_getElem? (i := 59) rfl)))) (mvT hZ (hw _ (List.mem_of_getElem? (i := 59) rfl))) (mvT hZ (hw _ (List.mem_of_getElem? (i := 58) rfl))) (by decide) (backOf (W := 0) (own_rm_writeBound l Z aw hw [] b1 b7 bf2 kb2 v2 sz pt (Int32.ofNat sz) pt (pt + ((Int32.ofNat d).toInt64)) b8 k8 0 (List.replicate 0 (.int (0 : Int32))) T9.heap n0 Z_9 E_w_j125_9 Fb5_9 Fz5_9 Fp5_9 Fm5_9 Fq5_9 V_bf_j125_9 hv2 new2 g_b1 ge2 A7_9 Ft9 Fx9 V_b8_9 ne_b1_b7 ne_bf2_b7 ne_b1_b8 ne_bf2_b8 ne_b7_b8 (by omega) (by omega)) hZ (hw _ (List.mem_of_getElem? (i := 60) rfl)) (hw _ (List.mem_of_getElem? (i := 3) rfl)) (by decide) (by decide)) q10a q10c (g := (mkF m 164 #[.val (.long q0), .second, .val (.long q1), .second, .val (.int p2), .val (.int f5), .val (.int f6), .val (.int (Int32.ofNat d)), .val (.ref b1), .val (.long pt), .second, .val (.int (Int32.ofNat sz)), .val (.long (pt + ((Int32.ofNat d).toInt64))), .second, .unset, .unset] [(.ref b7), (.ref b1)])) rfl (by rw [hml]; rfl) (Steps.refl _) (argsL := [(.ref b7)]) (rest := []) (lenOf own_pd9 rfl) rfl (by show 2 * 0 + _ ≤ _; exact Nat.le_of_eq rfl) (hb hby at_164) (fun _ _ => ⟨rfl, rfl, (by decide : 17 + 4 ≤ _), (by decide : 350 + 40 ≤ _)⟩)
          dsimp only [Pt.U, Pt.locs, Pt.cells, Pt.slots] at X10 l10 y10 z10 st10 hQ10
          subst l10 y10 z10
          obtain ⟨rfl, N10q, k10, n110, vs10, hl110, hu110, Fb10, Fz10, Fp10, Fm10, Fq10, Vb10, hvs10, hlo10, hsm10⟩ := hQ10
          have N_10 := Fr.app N_9 N10q
          have E_w_j125_10 := E_w_j125_9.keep k10
          have A7_10 := A7_9.keep k10
          have V_b8_10 := V_b8_9.keep k10 (ninS (Ne.symm ne_b1_b8) (ninS (Ne.symm ne_bf2_b8) nin0))
          have Ft9_10 := Ft9.keep k10 (ninS (Ne.symm ne_b1_b7) (ninS (Ne.symm ne_bf2_b7) nin0))
          have Fx9_10 := Fx9.keep k10 (ninS (Ne.symm ne_b1_b7) (ninS (Ne.symm ne_bf2_b7) nin0))
          have K_10 : Keep h0 T10.heap [] := K_9.trans k10 (allS (Or.inr sz_b1) (allS (Or.inr sz_bf2) all0))
          have Z_10 : n0 ≤ T10.heap.size := Nat.le_trans Z_9 k10.1
          refine own_step (fun _ k => st10.trans k) ?_
          show own_Ends p.tables e below _ (T10.setTop (mkF m 167 #[.val (.long q0), .second, .val (.long q1), .second, .val (.int p2), .val (.int f5), .val (.int f6), .val (.int (Int32.ofNat d)), .val (.ref b1), .val (.long pt), .second, .val (.int (Int32.ofNat sz)), .val (.long (pt + ((Int32.ofNat d).toInt64))), .second, .unset, .unset] []))
          obtain ⟨hd1, hd2, hd3⟩ := own_e3 pt d hd
          obtain ⟨hq1, hq2, hq3⟩ := hsm10 hd1
          subst hq1
          refine own_step (fun _ k => XS.aload X10.here hx rfl (hb hby at_167) rfl rfl k) ?_
          show own_Ends p.tables e below _ (T10.setTop (mkF m 169 #[.val (.long q0), .second, .val (.long q1), .second, .val (.int p2), .val (.int f5), .val (.int f6), .val (.int (Int32.ofNat d)), .val (.ref b1), .val (.long pt), .second, .val (.int (Int32.ofNat sz)), .val (.long (pt + ((Int32.ofNat d).toInt64))), .second, .unset, .unset] [(.ref b1)]))
          obtain ⟨cq11, kq11, q11a, q11b, q11c⟩ := isOf hZ rfl E_w_j125_10
          obtain ⟨_, _, ⟨T11, L11, k11, n11⟩, -, X11, ⟨Lc11, hQ11, l11, y11, z11⟩, st11⟩ := X10.virtualBack hx (y := (⟨"com/example/ketchup/ketchup/negentropy/MessageWriter", "toByteArray", "()[B"⟩ : MethodName)) (z := (⟨"com/example/ketchup/ketchup/negentropy/MessageWriter", "toByteArray", "()[B"⟩ : MethodName)) hown (mvT hZ (hw _ (List.mem_of_getElem? (i := 78) rfl))) (mvT hZ (hw _ (List.mem_of_getElem? (i := 79) rfl))) (notFace_of_selects (args := #[]) (mvT hZ (hw _ (List.mem_of_getElem? (i := 81) rfl)))) (mvT hZ (hw _ (List.mem_of_getElem? (i := 81) rfl))) (mvT hZ (hw _ (List.mem_of_getElem? (i := 80) rfl))) (by decide) (backOf (W := 0) (own_rm_toByteArray l Z aw hw [] b1 bf2 kb2 vs10 (sz + 1 + 1 + 0) T10.heap n0 Z_10 Fb10 Fz10 Vb10 hvs10 ge2 (by omega)) hZ (hw _ (List.mem_of_getElem? (i := 82) rfl)) (hw _ (List.mem_of_getElem? (i := 3) rfl)) (by decide) (by decide)) q11a q11c (g := (mkF m 169 #[.val (.long q0), .second, .val (.long q1), .second, .val (.int p2), .val (.int f5), .val (.int f6), .val (.int (Int32.ofNat d)), .val (.ref b1), .val (.long pt), .second, .val (.int (Int32.ofNat sz)), .val (.long (pt + ((Int32.ofNat d).toInt64))), .second, .unset, .unset] [(.ref b1)])) rfl (by rw [hml]; rfl) (Steps.refl _) (argsL := []) (rest := []) (lenOf own_pd6 rfl) rfl (by show 2 * 0 + _ ≤ _; exact Nat.le_of_eq rfl) (hb hby at_169) (fun _ _ => ⟨rfl, rfl, (by decide : 21 + 1 ≤ _), (by decide : 390 + 64 ≤ _)⟩)
          dsimp only [Pt.U, Pt.locs, Pt.cells, Pt.slots] at X11 l11 y11 z11 st11 hQ11
          subst l11 y11 z11
          obtain ⟨bo11, ko11, uo11, rfl, N11q, k11, ge11, hs11, Vo11, ho11⟩ := hQ11
          have N_11 := Fr.app N_10 N11q
          have ne_b1_bo11 : b1 ≠ bo11 := Nat.ne_of_lt (Nat.lt_of_lt_of_le E_w_j125_10.lt hs11)
          have ne_bf2_bo11 : bf2 ≠ bo11 := Nat.ne_of_lt (Nat.lt_of_lt_of_le Vb10.lt hs11)
          have ne_b7_bo11 : b7 ≠ bo11 := Nat.ne_of_lt (Nat.lt_of_lt_of_le A7_10.lt hs11)
          have ne_b8_bo11 : b8 ≠ bo11 := Nat.ne_of_lt (Nat.lt_of_lt_of_le V_b8_10.lt hs11)
          have sz_bo11 : h0.size ≤ bo11 := Nat.le_trans K_10.1 hs11
          have E_w_j125_11 := E_w_j125_10.keep k11
          have A7_11 := A7_10.keep k11
          have V_b8_11 := V_b8_10.keep k11 nin0
          have Ft9_11 := Ft9_10.keep k11 nin0
          have Fx9_11 := Fx9_10.keep k11 nin0
          have Fb10_11 := Fb10.keep k11 nin0
          have Fz10_11 := Fz10.keep k11 nin0
          have Fp10_11 := Fp10.keep k11 nin0
          have Fm10_11 := Fm10.keep k11 nin0
          have Fq10_11 := Fq10.keep k11 nin0
          have Vb10_11 := Vb10.keep k11 nin0
          have K_11 : Keep h0 T11.heap [] := K_10.trans k11 all0
          have Z_11 : n0 ≤ T11.heap.size := Nat.le_trans Z_10 k11.1
          refine own_step (fun _ k => st11.trans k) ?_
          show own_Ends p.tables e below _ (T11.setTop (mkF m 172 #[.val (.long q0), .second, .val (.long q1), .second, .val (.int p2), .val (.int f5), .val (.int f6), .val (.int (Int32.ofNat d)), .val (.ref b1), .val (.long pt), .second, .val (.int (Int32.ofNat sz)), .val (.long (pt + ((Int32.ofNat d).toInt64))), .second, .unset, .unset] [(.ref bo11)]))
          refine own_step (fun _ k => XS.astore X11.here hx rfl (hb hby at_172) rfl rfl (l' := #[.val (.long q0), .second, .val (.long q1), .second, .val (.int p2), .val (.int f5), .val (.int f6), .val (.int (Int32.ofNat d)), .val (.ref b1), .val (.long pt), .second, .val (.int (Int32.ofNat sz)), .val (.long (pt + ((Int32.ofNat d).toInt64))), .second, .val (.ref bo11), .unset]) rfl k) ?_
          show own_Ends p.tables e below _ (T11.setTop (mkF m 174 #[.val (.long q0), .second, .val (.long q1), .second, .val (.int p2), .val (.int f5), .val (.int f6), .val (.int (Int32.ofNat d)), .val (.ref b1), .val (.long pt), .second, .val (.int (Int32.ofNat sz)), .val (.long (pt + ((Int32.ofNat d).toInt64))), .second, .val (.ref bo11), .unset] []))
          refine own_step (fun _ k => XS.lload X11.here hx rfl (hb hby at_174) rfl k) ?_
          show own_Ends p.tables e below _ (T11.setTop (mkF m 176 #[.val (.long q0), .second, .val (.long q1), .second, .val (.int p2), .val (.int f5), .val (.int f6), .val (.int (Int32.ofNat d)), .val (.ref b1), .val (.long pt), .second, .val (.int (Int32.ofNat sz)), .val (.long (pt + ((Int32.ofNat d).toInt64))), .second, .val (.ref bo11), .unset] [(.long (pt + ((Int32.ofNat d).toInt64)))]))
          refine own_step (fun _ k => X11.ldc2Long hx hown (mvT hZ (hw _ (List.mem_of_getElem? (i := 92) rfl))) (g := (mkF m 176 #[.val (.long q0), .second, .val (.long q1), .second, .val (.int p2), .val (.int f5), .val (.int f6), .val (.int (Int32.ofNat d)), .val (.ref b1), .val (.long pt), .second, .val (.int (Int32.ofNat sz)), .val (.long (pt + ((Int32.ofNat d).toInt64))), .second, .val (.ref bo11), .unset] [(.long (pt + ((Int32.ofNat d).toInt64)))])) rfl (hb hby at_176) _ k) ?_
          show own_Ends p.tables e below _ (T11.setTop (mkF m 179 #[.val (.long q0), .second, .val (.long q1), .second, .val (.int p2), .val (.int f5), .val (.int f6), .val (.int (Int32.ofNat d)), .val (.ref b1), .val (.long pt), .second, .val (.int (Int32.ofNat sz)), .val (.long (pt + ((Int32.ofNat d).toInt64))), .second, .val (.ref bo11), .unset] [(.long (-1 : Int64)), (.long (pt + ((Int32.ofNat d).toInt64)))]))
          refine own_step (fun _ k => XS.lcmp X11.here hx rfl (hb hby at_179) rfl k) ?_
          show own_Ends p.tables e below _ (T11.setTop (mkF m 180 #[.val (.long q0), .second, .val (.long q1), .second, .val (.int p2), .val (.int f5), .val (.int f6), .val (.int (Int32.ofNat d)), .val (.ref b1), .val (.long pt), .second, .val (.int (Int32.ofNat sz)), .val (.long (pt + ((Int32.ofNat d).toInt64))), .second, .val (.ref bo11), .unset] [(.int (lcmpW (pt + ((Int32.ofNat d).toInt64)) (-1 : Int64)))]))
          by_cases hc180 : (pt + ((Int32.ofNat d).toInt64)) = (-1 : Int64)
          · refine own_step (fun _ k => XS.ifNo X11.here hx rfl (hb hby at_180) rfl ((if0 _ _).trans (teq ((own_lc_eq _ _).mpr hc180)).2) k) ?_
            show own_Ends p.tables e below _ (T11.setTop (mkF m 183 #[.val (.long q0), .second, .val (.long q1), .second, .val (.int p2), .val (.int f5), .val (.int f6), .val (.int (Int32.ofNat d)), .val (.ref b1), .val (.long pt), .second, .val (.int (Int32.ofNat sz)), .val (.long (pt + ((Int32.ofNat d).toInt64))), .second, .val (.ref bo11), .unset] []))
            refine own_step (fun _ k => XS.iconst X11.here hx rfl (hb hby at_183) k) ?_
            show own_Ends p.tables e below _ (T11.setTop (mkF m 184 #[.val (.long q0), .second, .val (.long q1), .second, .val (.int p2), .val (.int f5), .val (.int f6), .val (.int (Int32.ofNat d)), .val (.ref b1), .val (.long pt), .second, .val (.int (Int32.ofNat sz)), .val (.long (pt + ((Int32.ofNat d).toInt64))), .second, .val (.ref bo11), .unset] [(.int (0 : Int32))]))
            refine own_step (fun _ k => XS.goto X11.here hx rfl (pc0 := 184) (pc' := 192) rfl (hb hby at_184) (by decide) (by decide) k) ?_
            show own_Ends p.tables e below _ (T11.setTop (mkF m 192 #[.val (.long q0), .second, .val (.long q1), .second, .val (.int p2), .val (.int f5), .val (.int f6), .val (.int (Int32.ofNat d)), .val (.ref b1), .val (.long pt), .second, .val (.int (Int32.ofNat sz)), .val (.long (pt + ((Int32.ofNat d).toInt64))), .second, .val (.ref bo11), .unset] [(.int (0 : Int32))]))
            refine own_step (fun _ k => XS.istore X11.here hx rfl (hb hby at_192) rfl (l' := #[.val (.long q0), .second, .val (.long q1), .second, .val (.int p2), .val (.int f5), .val (.int f6), .val (.int (Int32.ofNat d)), .val (.ref b1), .val (.long pt), .second, .val (.int (Int32.ofNat sz)), .val (.long (pt + ((Int32.ofNat d).toInt64))), .second, .val (.ref bo11), .val (.int (0 : Int32))]) rfl k) ?_
            show own_Ends p.tables e below _ (T11.setTop (mkF m 194 #[.val (.long q0), .second, .val (.long q1), .second, .val (.int p2), .val (.int f5), .val (.int f6), .val (.int (Int32.ofNat d)), .val (.ref b1), .val (.long pt), .second, .val (.int (Int32.ofNat sz)), .val (.long (pt + ((Int32.ofNat d).toInt64))), .second, .val (.ref bo11), .val (.int (0 : Int32))] []))
            refine own_step (fun _ k => XS.aload X11.here hx rfl (hb hby at_194) rfl rfl k) ?_
            show own_Ends p.tables e below _ (T11.setTop (mkF m 196 #[.val (.long q0), .second, .val (.long q1), .second, .val (.int p2), .val (.int f5), .val (.int f6), .val (.int (Int32.ofNat d)), .val (.ref b1), .val (.long pt), .second, .val (.int (Int32.ofNat sz)), .val (.long (pt + ((Int32.ofNat d).toInt64))), .second, .val (.ref bo11), .val (.int (0 : Int32))] [(.ref bo11)]))
            obtain ⟨cl12, Ar12, q12, S12, Nn12, H12, G12⟩ := id Vo11
            refine own_step (fun _ k => X11.arraylength hx Ar12.1 (State.isArrayOf_alike hZ.alike Ar12.2.1) (g := (mkF m 196 #[.val (.long q0), .second, .val (.long q1), .second, .val (.int p2), .val (.int f5), .val (.int f6), .val (.int (Int32.ofNat d)), .val (.ref b1), .val (.long pt), .second, .val (.int (Int32.ofNat sz)), .val (.long (pt + ((Int32.ofNat d).toInt64))), .second, .val (.ref bo11), .val (.int (0 : Int32))] [(.ref bo11)])) rfl rfl (hb hby at_196) _ k) ?_
            rw [len_of S12 Nn12]
            show own_Ends p.tables e below _ (T11.setTop (mkF m 197 #[.val (.long q0), .second, .val (.long q1), .second, .val (.int p2), .val (.int f5), .val (.int f6), .val (.int (Int32.ofNat d)), .val (.ref b1), .val (.long pt), .second, .val (.int (Int32.ofNat sz)), .val (.long (pt + ((Int32.ofNat d).toInt64))), .second, .val (.ref bo11), .val (.int (0 : Int32))] [(.int (Int32.ofNat (sz + 1 + 1 + 0)))]))
            refine own_step (fun _ k => XS.iload X11.here hx rfl (hb hby at_197) rfl k) ?_
            show own_Ends p.tables e below _ (T11.setTop (mkF m 199 #[.val (.long q0), .second, .val (.long q1), .second, .val (.int p2), .val (.int f5), .val (.int f6), .val (.int (Int32.ofNat d)), .val (.ref b1), .val (.long pt), .second, .val (.int (Int32.ofNat sz)), .val (.long (pt + ((Int32.ofNat d).toInt64))), .second, .val (.ref bo11), .val (.int (0 : Int32))] [(.int (Int32.ofNat sz)), (.int (Int32.ofNat (sz + 1 + 1 + 0)))]))
            refine own_step (fun _ k => XS.iconst X11.here hx rfl (hb hby at_199) k) ?_
            show own_Ends p.tables e below _ (T11.setTop (mkF m 200 #[.val (.long q0), .second, .val (.long q1), .second, .val (.int p2), .val (.int f5), .val (.int f6), .val (.int (Int32.ofNat d)), .val (.ref b1), .val (.long pt), .second, .val (.int (Int32.ofNat sz)), .val (.long (pt + ((Int32.ofNat d).toInt64))), .second, .val (.ref bo11), .val (.int (0 : Int32))] [(.int (2 : Int32)), (.int (Int32.ofNat sz)), (.int (Int32.ofNat (sz + 1 + 1 + 0)))]))
            refine own_step (fun _ k => XS.iadd X11.here hx rfl (hb hby at_200) rfl k) ?_
            show own_Ends p.tables e below _ (T11.setTop (mkF m 201 #[.val (.long q0), .second, .val (.long q1), .second, .val (.int p2), .val (.int f5), .val (.int f6), .val (.int (Int32.ofNat d)), .val (.ref b1), .val (.long pt), .second, .val (.int (Int32.ofNat sz)), .val (.long (pt + ((Int32.ofNat d).toInt64))), .second, .val (.ref bo11), .val (.int (0 : Int32))] [(.int ((Int32.ofNat sz) + (2 : Int32))), (.int (Int32.ofNat (sz + 1 + 1 + 0)))]))
            rw [show ((Int32.ofNat sz) + (2 : Int32)) = (Int32.ofNat (sz + 1 + 1 + 0)) from own_add2 sz]
            show own_Ends p.tables e below _ (T11.setTop (mkF m 201 #[.val (.long q0), .second, .val (.long q1), .second, .val (.int p2), .val (.int f5), .val (.int f6), .val (.int (Int32.ofNat d)), .val (.ref b1), .val (.long pt), .second, .val (.int (Int32.ofNat sz)), .val (.long (pt + ((Int32.ofNat d).toInt64))), .second, .val (.ref bo11), .val (.int (0 : Int32))] [(.int (Int32.ofNat (sz + 1 + 1 + 0))), (.int (Int32.ofNat (sz + 1 + 1 + 0)))]))
            refine own_step (fun _ k => XS.icmpNo X11.here hx rfl (hb hby at_201) rfl (teq rfl).2 k) ?_
            show own_Ends p.tables e below _ (T11.setTop (mkF m 204 #[.val (.long q0), .second, .val (.long q1), .second, .val (.int p2), .val (.int f5), .val (.int f6), .val (.int (Int32.ofNat d)), .val (.ref b1), .val (.long pt), .second, .val (.int (Int32.ofNat sz)), .val (.long (pt + ((Int32.ofNat d).toInt64))), .second, .val (.ref bo11), .val (.int (0 : Int32))] []))
            refine own_step (fun _ k => XS.aload X11.here hx rfl (hb hby at_204) rfl rfl k) ?_
            show own_Ends p.tables e below _ (T11.setTop (mkF m 206 #[.val (.long q0), .second, .val (.long q1), .second, .val (.int p2), .val (.int f5), .val (.int f6), .val (.int (Int32.ofNat d)), .val (.ref b1), .val (.long pt), .second, .val (.int (Int32.ofNat sz)), .val (.long (pt + ((Int32.ofNat d).toInt64))), .second, .val (.ref bo11), .val (.int (0 : Int32))] [(.ref bo11)]))
            refine own_step (fun _ k => XS.iconst X11.here hx rfl (hb hby at_206) k) ?_
            show own_Ends p.tables e below _ (T11.setTop (mkF m 207 #[.val (.long q0), .second, .val (.long q1), .second, .val (.int p2), .val (.int f5), .val (.int f6), .val (.int (Int32.ofNat d)), .val (.ref b1), .val (.long pt), .second, .val (.int (Int32.ofNat sz)), .val (.long (pt + ((Int32.ofNat d).toInt64))), .second, .val (.ref bo11), .val (.int (0 : Int32))] [(.int (0 : Int32)), (.ref bo11)]))
            obtain ⟨cl13, Ar13, q13, S13, Nn13, H13, G13⟩ := id Vo11
            have hin13 : ¬ ((0 : Int32) < 0 ∨ cl13.slots.size ≤ ((0 : Int32)).toNatClampNeg) := inb_of S13 ⟨(by decide), ((own_nlt (a := 0) (by omega) (by omega)).mpr (by omega))⟩
            have hat13 : cl13.slots[((0 : Int32)).toNatClampNeg]? = some (.int (97 : Int32)) := H13.at hin13 (by show uo11.getD 0 _ = _; rw [(ho11 0 (by omega)), hlo10 0 (by omega), hlj 0 (by omega)]; exact hzj)
            refine own_step (fun _ k => X11.baloadBytes hx (j := (0 : Int32)) (v := (.int (97 : Int32))) Ar13.1 (State.isArrayOf_alike hZ.alike Ar13.2.1) Ar13.2.2 hin13 hat13 (g := (mkF m 207 #[.val (.long q0), .second, .val (.long q1), .second, .val (.int p2), .val (.int f5), .val (.int f6), .val (.int (Int32.ofNat d)), .val (.ref b1), .val (.long pt), .second, .val (.int (Int32.ofNat sz)), .val (.long (pt + ((Int32.ofNat d).toInt64))), .second, .val (.ref bo11), .val (.int (0 : Int32))] [(.int (0 : Int32)), (.ref bo11)])) rfl rfl (hb hby at_207) _ k) ?_
            show own_Ends p.tables e below _ (T11.setTop (mkF m 208 #[.val (.long q0), .second, .val (.long q1), .second, .val (.int p2), .val (.int f5), .val (.int f6), .val (.int (Int32.ofNat d)), .val (.ref b1), .val (.long pt), .second, .val (.int (Int32.ofNat sz)), .val (.long (pt + ((Int32.ofNat d).toInt64))), .second, .val (.ref bo11), .val (.int (0 : Int32))] [(.int (97 : Int32))]))
            refine own_step (fun _ k => XS.bipush X11.here hx rfl (hb hby at_208) k) ?_
            show own_Ends p.tables e below _ (T11.setTop (mkF m 210 #[.val (.long q0), .second, .val (.long q1), .second, .val (.int p2), .val (.int f5), .val (.int f6), .val (.int (Int32.ofNat d)), .val (.ref b1), .val (.long pt), .second, .val (.int (Int32.ofNat sz)), .val (.long (pt + ((Int32.ofNat d).toInt64))), .second, .val (.ref bo11), .val (.int (0 : Int32))] [(.int (97 : Int32)), (.int (97 : Int32))]))
            refine own_step (fun _ k => XS.icmpNo X11.here hx rfl (hb hby at_210) rfl (teq rfl).2 k) ?_
            show own_Ends p.tables e below _ (T11.setTop (mkF m 213 #[.val (.long q0), .second, .val (.long q1), .second, .val (.int p2), .val (.int f5), .val (.int f6), .val (.int (Int32.ofNat d)), .val (.ref b1), .val (.long pt), .second, .val (.int (Int32.ofNat sz)), .val (.long (pt + ((Int32.ofNat d).toInt64))), .second, .val (.ref bo11), .val (.int (0 : Int32))] []))
            refine own_step (fun _ k => XS.aload X11.here hx rfl (hb hby at_213) rfl rfl k) ?_
            show own_Ends p.tables e below _ (T11.setTop (mkF m 215 #[.val (.long q0), .second, .val (.long q1), .second, .val (.int p2), .val (.int f5), .val (.int f6), .val (.int (Int32.ofNat d)), .val (.ref b1), .val (.long pt), .second, .val (.int (Int32.ofNat sz)), .val (.long (pt + ((Int32.ofNat d).toInt64))), .second, .val (.ref bo11), .val (.int (0 : Int32))] [(.ref bo11)]))
            refine own_step (fun _ k => XS.iload X11.here hx rfl (hb hby at_215) rfl k) ?_
            show own_Ends p.tables e below _ (T11.setTop (mkF m 217 #[.val (.long q0), .second, .val (.long q1), .second, .val (.int p2), .val (.int f5), .val (.int f6), .val (.int (Int32.ofNat d)), .val (.ref b1), .val (.long pt), .second, .val (.int (Int32.ofNat sz)), .val (.long (pt + ((Int32.ofNat d).toInt64))), .second, .val (.ref bo11), .val (.int (0 : Int32))] [(.int (Int32.ofNat sz)), (.ref bo11)]))
            obtain ⟨cl14, Ar14, q14, S14, Nn14, H14, G14⟩ := id Vo11
            have hin14 : ¬ ((Int32.ofNat sz) < 0 ∨ cl14.slots.size ≤ ((Int32.ofNat sz)).toNatClampNeg) := inb_of S14 ⟨(own_nn (by omega)), ((own_nlt (by omega) (by omega)).mpr (by omega))⟩
            have hat14 : cl14.slots[((Int32.ofNat sz)).toNatClampNeg]? = some (.int ((own_enc (pt + (Int32.ofNat d).toInt64) pt).toInt32)) := H14.at hin14 (by rw [own_clamp (by omega), (ho11 sz (by omega))]; exact hq2)
            refine own_step (fun _ k => X11.baloadBytes hx (j := (Int32.ofNat sz)) (v := (.int ((own_enc (pt + (Int32.ofNat d).toInt64) pt).toInt32))) Ar14.1 (State.isArrayOf_alike hZ.alike Ar14.2.1) Ar14.2.2 hin14 hat14 (g := (mkF m 217 #[.val (.long q0), .second, .val (.long q1), .second, .val (.int p2), .val (.int f5), .val (.int f6), .val (.int (Int32.ofNat d)), .val (.ref b1), .val (.long pt), .second, .val (.int (Int32.ofNat sz)), .val (.long (pt + ((Int32.ofNat d).toInt64))), .second, .val (.ref bo11), .val (.int (0 : Int32))] [(.int (Int32.ofNat sz)), (.ref bo11)])) rfl rfl (hb hby at_217) _ k) ?_
            show own_Ends p.tables e below _ (T11.setTop (mkF m 218 #[.val (.long q0), .second, .val (.long q1), .second, .val (.int p2), .val (.int f5), .val (.int f6), .val (.int (Int32.ofNat d)), .val (.ref b1), .val (.long pt), .second, .val (.int (Int32.ofNat sz)), .val (.long (pt + ((Int32.ofNat d).toInt64))), .second, .val (.ref bo11), .val (.int (0 : Int32))] [(.int ((own_enc (pt + (Int32.ofNat d).toInt64) pt).toInt32))]))
            refine own_step (fun _ k => XS.iload X11.here hx rfl (hb hby at_218) rfl k) ?_
            show own_Ends p.tables e below _ (T11.setTop (mkF m 220 #[.val (.long q0), .second, .val (.long q1), .second, .val (.int p2), .val (.int f5), .val (.int f6), .val (.int (Int32.ofNat d)), .val (.ref b1), .val (.long pt), .second, .val (.int (Int32.ofNat sz)), .val (.long (pt + ((Int32.ofNat d).toInt64))), .second, .val (.ref bo11), .val (.int (0 : Int32))] [(.int (0 : Int32)), (.int ((own_enc (pt + (Int32.ofNat d).toInt64) pt).toInt32))]))
            refine own_step (fun _ k => XS.icmpNo X11.here hx rfl (hb hby at_220) rfl (teq (by rw [hd2 hc180]; rfl)).2 k) ?_
            show own_Ends p.tables e below _ (T11.setTop (mkF m 223 #[.val (.long q0), .second, .val (.long q1), .second, .val (.int p2), .val (.int f5), .val (.int f6), .val (.int (Int32.ofNat d)), .val (.ref b1), .val (.long pt), .second, .val (.int (Int32.ofNat sz)), .val (.long (pt + ((Int32.ofNat d).toInt64))), .second, .val (.ref bo11), .val (.int (0 : Int32))] []))
            refine own_step (fun _ k => XS.aload X11.here hx rfl (hb hby at_223) rfl rfl k) ?_
            show own_Ends p.tables e below _ (T11.setTop (mkF m 225 #[.val (.long q0), .second, .val (.long q1), .second, .val (.int p2), .val (.int f5), .val (.int f6), .val (.int (Int32.ofNat d)), .val (.ref b1), .val (.long pt), .second, .val (.int (Int32.ofNat sz)), .val (.long (pt + ((Int32.ofNat d).toInt64))), .second, .val (.ref bo11), .val (.int (0 : Int32))] [(.ref bo11)]))
            refine own_step (fun _ k => XS.iload X11.here hx rfl (hb hby at_225) rfl k) ?_
            show own_Ends p.tables e below _ (T11.setTop (mkF m 227 #[.val (.long q0), .second, .val (.long q1), .second, .val (.int p2), .val (.int f5), .val (.int f6), .val (.int (Int32.ofNat d)), .val (.ref b1), .val (.long pt), .second, .val (.int (Int32.ofNat sz)), .val (.long (pt + ((Int32.ofNat d).toInt64))), .second, .val (.ref bo11), .val (.int (0 : Int32))] [(.int (Int32.ofNat sz)), (.ref bo11)]))
            refine own_step (fun _ k => XS.iconst X11.here hx rfl (hb hby at_227) k) ?_
            show own_Ends p.tables e below _ (T11.setTop (mkF m 228 #[.val (.long q0), .second, .val (.long q1), .second, .val (.int p2), .val (.int f5), .val (.int f6), .val (.int (Int32.ofNat d)), .val (.ref b1), .val (.long pt), .second, .val (.int (Int32.ofNat sz)), .val (.long (pt + ((Int32.ofNat d).toInt64))), .second, .val (.ref bo11), .val (.int (0 : Int32))] [(.int (1 : Int32)), (.int (Int32.ofNat sz)), (.ref bo11)]))
            refine own_step (fun _ k => XS.iadd X11.here hx rfl (hb hby at_228) rfl k) ?_
            show own_Ends p.tables e below _ (T11.setTop (mkF m 229 #[.val (.long q0), .second, .val (.long q1), .second, .val (.int p2), .val (.int f5), .val (.int f6), .val (.int (Int32.ofNat d)), .val (.ref b1), .val (.long pt), .second, .val (.int (Int32.ofNat sz)), .val (.long (pt + ((Int32.ofNat d).toInt64))), .second, .val (.ref bo11), .val (.int (0 : Int32))] [(.int ((Int32.ofNat sz) + (1 : Int32))), (.ref bo11)]))
            rw [show ((Int32.ofNat sz) + (1 : Int32)) = (Int32.ofNat (sz + 1)) from own_inc sz]
            show own_Ends p.tables e below _ (T11.setTop (mkF m 229 #[.val (.long q0), .second, .val (.long q1), .second, .val (.int p2), .val (.int f5), .val (.int f6), .val (.int (Int32.ofNat d)), .val (.ref b1), .val (.long pt), .second, .val (.int (Int32.ofNat sz)), .val (.long (pt + ((Int32.ofNat d).toInt64))), .second, .val (.ref bo11), .val (.int (0 : Int32))] [(.int (Int32.ofNat (sz + 1))), (.ref bo11)]))
            obtain ⟨cl15, Ar15, q15, S15, Nn15, H15, G15⟩ := id Vo11
            have hin15 : ¬ ((Int32.ofNat (sz + 1)) < 0 ∨ cl15.slots.size ≤ ((Int32.ofNat (sz + 1))).toNatClampNeg) := inb_of S15 ⟨(own_nn (by omega)), ((own_nlt (by omega) (by omega)).mpr (by omega))⟩
            have hat15 : cl15.slots[((Int32.ofNat (sz + 1))).toNatClampNeg]? = some (.int (0 : Int32)) := H15.at hin15 (by rw [own_clamp (by omega), (ho11 (sz + 1) (by omega))]; exact hq3)
            refine own_step (fun _ k => X11.baloadBytes hx (j := (Int32.ofNat (sz + 1))) (v := (.int (0 : Int32))) Ar15.1 (State.isArrayOf_alike hZ.alike Ar15.2.1) Ar15.2.2 hin15 hat15 (g := (mkF m 229 #[.val (.long q0), .second, .val (.long q1), .second, .val (.int p2), .val (.int f5), .val (.int f6), .val (.int (Int32.ofNat d)), .val (.ref b1), .val (.long pt), .second, .val (.int (Int32.ofNat sz)), .val (.long (pt + ((Int32.ofNat d).toInt64))), .second, .val (.ref bo11), .val (.int (0 : Int32))] [(.int (Int32.ofNat (sz + 1))), (.ref bo11)])) rfl rfl (hb hby at_229) _ k) ?_
            show own_Ends p.tables e below _ (T11.setTop (mkF m 230 #[.val (.long q0), .second, .val (.long q1), .second, .val (.int p2), .val (.int f5), .val (.int f6), .val (.int (Int32.ofNat d)), .val (.ref b1), .val (.long pt), .second, .val (.int (Int32.ofNat sz)), .val (.long (pt + ((Int32.ofNat d).toInt64))), .second, .val (.ref bo11), .val (.int (0 : Int32))] [(.int (0 : Int32))]))
            refine own_step (fun _ k => XS.ifNo X11.here hx rfl (hb hby at_230) rfl ((if0 _ _).trans (teq rfl).2) k) ?_
            show own_Ends p.tables e below _ (T11.setTop (mkF m 233 #[.val (.long q0), .second, .val (.long q1), .second, .val (.int p2), .val (.int f5), .val (.int f6), .val (.int (Int32.ofNat d)), .val (.ref b1), .val (.long pt), .second, .val (.int (Int32.ofNat sz)), .val (.long (pt + ((Int32.ofNat d).toInt64))), .second, .val (.ref bo11), .val (.int (0 : Int32))] []))
            refine own_step (fun _ k => XS.iconst X11.here hx rfl (hb hby at_233) k) ?_
            show own_Ends p.tables e below _ (T11.setTop (mkF m 234 #[.val (.long q0), .second, .val (.long q1), .second, .val (.int p2), .val (.int f5), .val (.int f6), .val (.int (Int32.ofNat d)), .val (.ref b1), .val (.long pt), .second, .val (.int (Int32.ofNat sz)), .val (.long (pt + ((Int32.ofNat d).toInt64))), .second, .val (.ref bo11), .val (.int (0 : Int32))] [(.int (1 : Int32))]))
            refine own_step (fun _ k => XS.goto X11.here hx rfl (pc0 := 234) (pc' := 238) rfl (hb hby at_234) (by decide) (by decide) k) ?_
            show own_Ends p.tables e below _ (T11.setTop (mkF m 238 #[.val (.long q0), .second, .val (.long q1), .second, .val (.int p2), .val (.int f5), .val (.int f6), .val (.int (Int32.ofNat d)), .val (.ref b1), .val (.long pt), .second, .val (.int (Int32.ofNat sz)), .val (.long (pt + ((Int32.ofNat d).toInt64))), .second, .val (.ref bo11), .val (.int (0 : Int32))] [(.int (1 : Int32))]))
            exact own_retN X11 hx hlk (by decide) (by decide) (t := .boolean) Bd.returns (by simp) (hb hby at_238) (⟨rfl, N_11⟩)
          · refine own_step (fun _ k => XS.ifYes X11.here hx rfl (pc0 := 180) (pc' := 187) rfl (hb hby at_180) rfl ((if0 _ _).trans (feq (fun q => hc180 ((own_lc_eq _ _).mp q))).2) (by decide) (by decide) k) ?_
            show own_Ends p.tables e below _ (T11.setTop (mkF m 187 #[.val (.long q0), .second, .val (.long q1), .second, .val (.int p2), .val (.int f5), .val (.int f6), .val (.int (Int32.ofNat d)), .val (.ref b1), .val (.long pt), .second, .val (.int (Int32.ofNat sz)), .val (.long (pt + ((Int32.ofNat d).toInt64))), .second, .val (.ref bo11), .unset] []))
            refine own_step (fun _ k => XS.iload X11.here hx rfl (hb hby at_187) rfl k) ?_
            show own_Ends p.tables e below _ (T11.setTop (mkF m 189 #[.val (.long q0), .second, .val (.long q1), .second, .val (.int p2), .val (.int f5), .val (.int f6), .val (.int (Int32.ofNat d)), .val (.ref b1), .val (.long pt), .second, .val (.int (Int32.ofNat sz)), .val (.long (pt + ((Int32.ofNat d).toInt64))), .second, .val (.ref bo11), .unset] [(.int (Int32.ofNat d))]))
            refine own_step (fun _ k => XS.iconst X11.here hx rfl (hb hby at_189) k) ?_
            show own_Ends p.tables e below _ (T11.setTop (mkF m 190 #[.val (.long q0), .second, .val (.long q1), .second, .val (.int p2), .val (.int f5), .val (.int f6), .val (.int (Int32.ofNat d)), .val (.ref b1), .val (.long pt), .second, .val (.int (Int32.ofNat sz)), .val (.long (pt + ((Int32.ofNat d).toInt64))), .second, .val (.ref bo11), .unset] [(.int (1 : Int32)), (.int (Int32.ofNat d))]))
            refine own_step (fun _ k => XS.iadd X11.here hx rfl (hb hby at_190) rfl k) ?_
            show own_Ends p.tables e below _ (T11.setTop (mkF m 191 #[.val (.long q0), .second, .val (.long q1), .second, .val (.int p2), .val (.int f5), .val (.int f6), .val (.int (Int32.ofNat d)), .val (.ref b1), .val (.long pt), .second, .val (.int (Int32.ofNat sz)), .val (.long (pt + ((Int32.ofNat d).toInt64))), .second, .val (.ref bo11), .unset] [(.int ((Int32.ofNat d) + (1 : Int32)))]))
            refine own_step (fun _ k => XS.i2b X11.here hx rfl (hb hby at_191) rfl k) ?_
            show own_Ends p.tables e below _ (T11.setTop (mkF m 192 #[.val (.long q0), .second, .val (.long q1), .second, .val (.int p2), .val (.int f5), .val (.int f6), .val (.int (Int32.ofNat d)), .val (.ref b1), .val (.long pt), .second, .val (.int (Int32.ofNat sz)), .val (.long (pt + ((Int32.ofNat d).toInt64))), .second, .val (.ref bo11), .unset] [(.int (((Int32.ofNat d) + (1 : Int32)).toInt8.toInt32))]))
            refine own_step (fun _ k => XS.istore X11.here hx rfl (hb hby at_192) rfl (l' := #[.val (.long q0), .second, .val (.long q1), .second, .val (.int p2), .val (.int f5), .val (.int f6), .val (.int (Int32.ofNat d)), .val (.ref b1), .val (.long pt), .second, .val (.int (Int32.ofNat sz)), .val (.long (pt + ((Int32.ofNat d).toInt64))), .second, .val (.ref bo11), .val (.int (((Int32.ofNat d) + (1 : Int32)).toInt8.toInt32))]) rfl k) ?_
            show own_Ends p.tables e below _ (T11.setTop (mkF m 194 #[.val (.long q0), .second, .val (.long q1), .second, .val (.int p2), .val (.int f5), .val (.int f6), .val (.int (Int32.ofNat d)), .val (.ref b1), .val (.long pt), .second, .val (.int (Int32.ofNat sz)), .val (.long (pt + ((Int32.ofNat d).toInt64))), .second, .val (.ref bo11), .val (.int (((Int32.ofNat d) + (1 : Int32)).toInt8.toInt32))] []))
            refine own_step (fun _ k => XS.aload X11.here hx rfl (hb hby at_194) rfl rfl k) ?_
            show own_Ends p.tables e below _ (T11.setTop (mkF m 196 #[.val (.long q0), .second, .val (.long q1), .second, .val (.int p2), .val (.int f5), .val (.int f6), .val (.int (Int32.ofNat d)), .val (.ref b1), .val (.long pt), .second, .val (.int (Int32.ofNat sz)), .val (.long (pt + ((Int32.ofNat d).toInt64))), .second, .val (.ref bo11), .val (.int (((Int32.ofNat d) + (1 : Int32)).toInt8.toInt32))] [(.ref bo11)]))
            obtain ⟨cl16, Ar16, q16, S16, Nn16, H16, G16⟩ := id Vo11
            refine own_step (fun _ k => X11.arraylength hx Ar16.1 (State.isArrayOf_alike hZ.alike Ar16.2.1) (g := (mkF m 196 #[.val (.long q0), .second, .val (.long q1), .second, .val (.int p2), .val (.int f5), .val (.int f6), .val (.int (Int32.ofNat d)), .val (.ref b1), .val (.long pt), .second, .val (.int (Int32.ofNat sz)), .val (.long (pt + ((Int32.ofNat d).toInt64))), .second, .val (.ref bo11), .val (.int (((Int32.ofNat d) + (1 : Int32)).toInt8.toInt32))] [(.ref bo11)])) rfl rfl (hb hby at_196) _ k) ?_
            rw [len_of S16 Nn16]
            show own_Ends p.tables e below _ (T11.setTop (mkF m 197 #[.val (.long q0), .second, .val (.long q1), .second, .val (.int p2), .val (.int f5), .val (.int f6), .val (.int (Int32.ofNat d)), .val (.ref b1), .val (.long pt), .second, .val (.int (Int32.ofNat sz)), .val (.long (pt + ((Int32.ofNat d).toInt64))), .second, .val (.ref bo11), .val (.int (((Int32.ofNat d) + (1 : Int32)).toInt8.toInt32))] [(.int (Int32.ofNat (sz + 1 + 1 + 0)))]))
            refine own_step (fun _ k => XS.iload X11.here hx rfl (hb hby at_197) rfl k) ?_
            show own_Ends p.tables e below _ (T11.setTop (mkF m 199 #[.val (.long q0), .second, .val (.long q1), .second, .val (.int p2), .val (.int f5), .val (.int f6), .val (.int (Int32.ofNat d)), .val (.ref b1), .val (.long pt), .second, .val (.int (Int32.ofNat sz)), .val (.long (pt + ((Int32.ofNat d).toInt64))), .second, .val (.ref bo11), .val (.int (((Int32.ofNat d) + (1 : Int32)).toInt8.toInt32))] [(.int (Int32.ofNat sz)), (.int (Int32.ofNat (sz + 1 + 1 + 0)))]))
            refine own_step (fun _ k => XS.iconst X11.here hx rfl (hb hby at_199) k) ?_
            show own_Ends p.tables e below _ (T11.setTop (mkF m 200 #[.val (.long q0), .second, .val (.long q1), .second, .val (.int p2), .val (.int f5), .val (.int f6), .val (.int (Int32.ofNat d)), .val (.ref b1), .val (.long pt), .second, .val (.int (Int32.ofNat sz)), .val (.long (pt + ((Int32.ofNat d).toInt64))), .second, .val (.ref bo11), .val (.int (((Int32.ofNat d) + (1 : Int32)).toInt8.toInt32))] [(.int (2 : Int32)), (.int (Int32.ofNat sz)), (.int (Int32.ofNat (sz + 1 + 1 + 0)))]))
            refine own_step (fun _ k => XS.iadd X11.here hx rfl (hb hby at_200) rfl k) ?_
            show own_Ends p.tables e below _ (T11.setTop (mkF m 201 #[.val (.long q0), .second, .val (.long q1), .second, .val (.int p2), .val (.int f5), .val (.int f6), .val (.int (Int32.ofNat d)), .val (.ref b1), .val (.long pt), .second, .val (.int (Int32.ofNat sz)), .val (.long (pt + ((Int32.ofNat d).toInt64))), .second, .val (.ref bo11), .val (.int (((Int32.ofNat d) + (1 : Int32)).toInt8.toInt32))] [(.int ((Int32.ofNat sz) + (2 : Int32))), (.int (Int32.ofNat (sz + 1 + 1 + 0)))]))
            rw [show ((Int32.ofNat sz) + (2 : Int32)) = (Int32.ofNat (sz + 1 + 1 + 0)) from own_add2 sz]
            show own_Ends p.tables e below _ (T11.setTop (mkF m 201 #[.val (.long q0), .second, .val (.long q1), .second, .val (.int p2), .val (.int f5), .val (.int f6), .val (.int (Int32.ofNat d)), .val (.ref b1), .val (.long pt), .second, .val (.int (Int32.ofNat sz)), .val (.long (pt + ((Int32.ofNat d).toInt64))), .second, .val (.ref bo11), .val (.int (((Int32.ofNat d) + (1 : Int32)).toInt8.toInt32))] [(.int (Int32.ofNat (sz + 1 + 1 + 0))), (.int (Int32.ofNat (sz + 1 + 1 + 0)))]))
            refine own_step (fun _ k => XS.icmpNo X11.here hx rfl (hb hby at_201) rfl (teq rfl).2 k) ?_
            show own_Ends p.tables e below _ (T11.setTop (mkF m 204 #[.val (.long q0), .second, .val (.long q1), .second, .val (.int p2), .val (.int f5), .val (.int f6), .val (.int (Int32.ofNat d)), .val (.ref b1), .val (.long pt), .second, .val (.int (Int32.ofNat sz)), .val (.long (pt + ((Int32.ofNat d).toInt64))), .second, .val (.ref bo11), .val (.int (((Int32.ofNat d) + (1 : Int32)).toInt8.toInt32))] []))
            refine own_step (fun _ k => XS.aload X11.here hx rfl (hb hby at_204) rfl rfl k) ?_
            show own_Ends p.tables e below _ (T11.setTop (mkF m 206 #[.val (.long q0), .second, .val (.long q1), .second, .val (.int p2), .val (.int f5), .val (.int f6), .val (.int (Int32.ofNat d)), .val (.ref b1), .val (.long pt), .second, .val (.int (Int32.ofNat sz)), .val (.long (pt + ((Int32.ofNat d).toInt64))), .second, .val (.ref bo11), .val (.int (((Int32.ofNat d) + (1 : Int32)).toInt8.toInt32))] [(.ref bo11)]))
            refine own_step (fun _ k => XS.iconst X11.here hx rfl (hb hby at_206) k) ?_
            show own_Ends p.tables e below _ (T11.setTop (mkF m 207 #[.val (.long q0), .second, .val (.long q1), .second, .val (.int p2), .val (.int f5), .val (.int f6), .val (.int (Int32.ofNat d)), .val (.ref b1), .val (.long pt), .second, .val (.int (Int32.ofNat sz)), .val (.long (pt + ((Int32.ofNat d).toInt64))), .second, .val (.ref bo11), .val (.int (((Int32.ofNat d) + (1 : Int32)).toInt8.toInt32))] [(.int (0 : Int32)), (.ref bo11)]))
            obtain ⟨cl17, Ar17, q17, S17, Nn17, H17, G17⟩ := id Vo11
            have hin17 : ¬ ((0 : Int32) < 0 ∨ cl17.slots.size ≤ ((0 : Int32)).toNatClampNeg) := inb_of S17 ⟨(by decide), ((own_nlt (a := 0) (by omega) (by omega)).mpr (by omega))⟩
            have hat17 : cl17.slots[((0 : Int32)).toNatClampNeg]? = some (.int (97 : Int32)) := H17.at hin17 (by show uo11.getD 0 _ = _; rw [(ho11 0 (by omega)), hlo10 0 (by omega), hlj 0 (by omega)]; exact hzj)
            refine own_step (fun _ k => X11.baloadBytes hx (j := (0 : Int32)) (v := (.int (97 : Int32))) Ar17.1 (State.isArrayOf_alike hZ.alike Ar17.2.1) Ar17.2.2 hin17 hat17 (g := (mkF m 207 #[.val (.long q0), .second, .val (.long q1), .second, .val (.int p2), .val (.int f5), .val (.int f6), .val (.int (Int32.ofNat d)), .val (.ref b1), .val (.long pt), .second, .val (.int (Int32.ofNat sz)), .val (.long (pt + ((Int32.ofNat d).toInt64))), .second, .val (.ref bo11), .val (.int (((Int32.ofNat d) + (1 : Int32)).toInt8.toInt32))] [(.int (0 : Int32)), (.ref bo11)])) rfl rfl (hb hby at_207) _ k) ?_
            show own_Ends p.tables e below _ (T11.setTop (mkF m 208 #[.val (.long q0), .second, .val (.long q1), .second, .val (.int p2), .val (.int f5), .val (.int f6), .val (.int (Int32.ofNat d)), .val (.ref b1), .val (.long pt), .second, .val (.int (Int32.ofNat sz)), .val (.long (pt + ((Int32.ofNat d).toInt64))), .second, .val (.ref bo11), .val (.int (((Int32.ofNat d) + (1 : Int32)).toInt8.toInt32))] [(.int (97 : Int32))]))
            refine own_step (fun _ k => XS.bipush X11.here hx rfl (hb hby at_208) k) ?_
            show own_Ends p.tables e below _ (T11.setTop (mkF m 210 #[.val (.long q0), .second, .val (.long q1), .second, .val (.int p2), .val (.int f5), .val (.int f6), .val (.int (Int32.ofNat d)), .val (.ref b1), .val (.long pt), .second, .val (.int (Int32.ofNat sz)), .val (.long (pt + ((Int32.ofNat d).toInt64))), .second, .val (.ref bo11), .val (.int (((Int32.ofNat d) + (1 : Int32)).toInt8.toInt32))] [(.int (97 : Int32)), (.int (97 : Int32))]))
            refine own_step (fun _ k => XS.icmpNo X11.here hx rfl (hb hby at_210) rfl (teq rfl).2 k) ?_
            show own_Ends p.tables e below _ (T11.setTop (mkF m 213 #[.val (.long q0), .second, .val (.long q1), .second, .val (.int p2), .val (.int f5), .val (.int f6), .val (.int (Int32.ofNat d)), .val (.ref b1), .val (.long pt), .second, .val (.int (Int32.ofNat sz)), .val (.long (pt + ((Int32.ofNat d).toInt64))), .second, .val (.ref bo11), .val (.int (((Int32.ofNat d) + (1 : Int32)).toInt8.toInt32))] []))
            refine own_step (fun _ k => XS.aload X11.here hx rfl (hb hby at_213) rfl rfl k) ?_
            show own_Ends p.tables e below _ (T11.setTop (mkF m 215 #[.val (.long q0), .second, .val (.long q1), .second, .val (.int p2), .val (.int f5), .val (.int f6), .val (.int (Int32.ofNat d)), .val (.ref b1), .val (.long pt), .second, .val (.int (Int32.ofNat sz)), .val (.long (pt + ((Int32.ofNat d).toInt64))), .second, .val (.ref bo11), .val (.int (((Int32.ofNat d) + (1 : Int32)).toInt8.toInt32))] [(.ref bo11)]))
            refine own_step (fun _ k => XS.iload X11.here hx rfl (hb hby at_215) rfl k) ?_
            show own_Ends p.tables e below _ (T11.setTop (mkF m 217 #[.val (.long q0), .second, .val (.long q1), .second, .val (.int p2), .val (.int f5), .val (.int f6), .val (.int (Int32.ofNat d)), .val (.ref b1), .val (.long pt), .second, .val (.int (Int32.ofNat sz)), .val (.long (pt + ((Int32.ofNat d).toInt64))), .second, .val (.ref bo11), .val (.int (((Int32.ofNat d) + (1 : Int32)).toInt8.toInt32))] [(.int (Int32.ofNat sz)), (.ref bo11)]))
            obtain ⟨cl18, Ar18, q18, S18, Nn18, H18, G18⟩ := id Vo11
            have hin18 : ¬ ((Int32.ofNat sz) < 0 ∨ cl18.slots.size ≤ ((Int32.ofNat sz)).toNatClampNeg) := inb_of S18 ⟨(own_nn (by omega)), ((own_nlt (by omega) (by omega)).mpr (by omega))⟩
            have hat18 : cl18.slots[((Int32.ofNat sz)).toNatClampNeg]? = some (.int ((own_enc (pt + (Int32.ofNat d).toInt64) pt).toInt32)) := H18.at hin18 (by rw [own_clamp (by omega), (ho11 sz (by omega))]; exact hq2)
            refine own_step (fun _ k => X11.baloadBytes hx (j := (Int32.ofNat sz)) (v := (.int ((own_enc (pt + (Int32.ofNat d).toInt64) pt).toInt32))) Ar18.1 (State.isArrayOf_alike hZ.alike Ar18.2.1) Ar18.2.2 hin18 hat18 (g := (mkF m 217 #[.val (.long q0), .second, .val (.long q1), .second, .val (.int p2), .val (.int f5), .val (.int f6), .val (.int (Int32.ofNat d)), .val (.ref b1), .val (.long pt), .second, .val (.int (Int32.ofNat sz)), .val (.long (pt + ((Int32.ofNat d).toInt64))), .second, .val (.ref bo11), .val (.int (((Int32.ofNat d) + (1 : Int32)).toInt8.toInt32))] [(.int (Int32.ofNat sz)), (.ref bo11)])) rfl rfl (hb hby at_217) _ k) ?_
            show own_Ends p.tables e below _ (T11.setTop (mkF m 218 #[.val (.long q0), .second, .val (.long q1), .second, .val (.int p2), .val (.int f5), .val (.int f6), .val (.int (Int32.ofNat d)), .val (.ref b1), .val (.long pt), .second, .val (.int (Int32.ofNat sz)), .val (.long (pt + ((Int32.ofNat d).toInt64))), .second, .val (.ref bo11), .val (.int (((Int32.ofNat d) + (1 : Int32)).toInt8.toInt32))] [(.int ((own_enc (pt + (Int32.ofNat d).toInt64) pt).toInt32))]))
            refine own_step (fun _ k => XS.iload X11.here hx rfl (hb hby at_218) rfl k) ?_
            show own_Ends p.tables e below _ (T11.setTop (mkF m 220 #[.val (.long q0), .second, .val (.long q1), .second, .val (.int p2), .val (.int f5), .val (.int f6), .val (.int (Int32.ofNat d)), .val (.ref b1), .val (.long pt), .second, .val (.int (Int32.ofNat sz)), .val (.long (pt + ((Int32.ofNat d).toInt64))), .second, .val (.ref bo11), .val (.int (((Int32.ofNat d) + (1 : Int32)).toInt8.toInt32))] [(.int (((Int32.ofNat d) + (1 : Int32)).toInt8.toInt32)), (.int ((own_enc (pt + (Int32.ofNat d).toInt64) pt).toInt32))]))
            refine own_step (fun _ k => XS.icmpNo X11.here hx rfl (hb hby at_220) rfl (teq (hd3 hc180)).2 k) ?_
            show own_Ends p.tables e below _ (T11.setTop (mkF m 223 #[.val (.long q0), .second, .val (.long q1), .second, .val (.int p2), .val (.int f5), .val (.int f6), .val (.int (Int32.ofNat d)), .val (.ref b1), .val (.long pt), .second, .val (.int (Int32.ofNat sz)), .val (.long (pt + ((Int32.ofNat d).toInt64))), .second, .val (.ref bo11), .val (.int (((Int32.ofNat d) + (1 : Int32)).toInt8.toInt32))] []))
            refine own_step (fun _ k => XS.aload X11.here hx rfl (hb hby at_223) rfl rfl k) ?_
            show own_Ends p.tables e below _ (T11.setTop (mkF m 225 #[.val (.long q0), .second, .val (.long q1), .second, .val (.int p2), .val (.int f5), .val (.int f6), .val (.int (Int32.ofNat d)), .val (.ref b1), .val (.long pt), .second, .val (.int (Int32.ofNat sz)), .val (.long (pt + ((Int32.ofNat d).toInt64))), .second, .val (.ref bo11), .val (.int (((Int32.ofNat d) + (1 : Int32)).toInt8.toInt32))] [(.ref bo11)]))
            refine own_step (fun _ k => XS.iload X11.here hx rfl (hb hby at_225) rfl k) ?_
            show own_Ends p.tables e below _ (T11.setTop (mkF m 227 #[.val (.long q0), .second, .val (.long q1), .second, .val (.int p2), .val (.int f5), .val (.int f6), .val (.int (Int32.ofNat d)), .val (.ref b1), .val (.long pt), .second, .val (.int (Int32.ofNat sz)), .val (.long (pt + ((Int32.ofNat d).toInt64))), .second, .val (.ref bo11), .val (.int (((Int32.ofNat d) + (1 : Int32)).toInt8.toInt32))] [(.int (Int32.ofNat sz)), (.ref bo11)]))
            refine own_step (fun _ k => XS.iconst X11.here hx rfl (hb hby at_227) k) ?_
            show own_Ends p.tables e below _ (T11.setTop (mkF m 228 #[.val (.long q0), .second, .val (.long q1), .second, .val (.int p2), .val (.int f5), .val (.int f6), .val (.int (Int32.ofNat d)), .val (.ref b1), .val (.long pt), .second, .val (.int (Int32.ofNat sz)), .val (.long (pt + ((Int32.ofNat d).toInt64))), .second, .val (.ref bo11), .val (.int (((Int32.ofNat d) + (1 : Int32)).toInt8.toInt32))] [(.int (1 : Int32)), (.int (Int32.ofNat sz)), (.ref bo11)]))
            refine own_step (fun _ k => XS.iadd X11.here hx rfl (hb hby at_228) rfl k) ?_
            show own_Ends p.tables e below _ (T11.setTop (mkF m 229 #[.val (.long q0), .second, .val (.long q1), .second, .val (.int p2), .val (.int f5), .val (.int f6), .val (.int (Int32.ofNat d)), .val (.ref b1), .val (.long pt), .second, .val (.int (Int32.ofNat sz)), .val (.long (pt + ((Int32.ofNat d).toInt64))), .second, .val (.ref bo11), .val (.int (((Int32.ofNat d) + (1 : Int32)).toInt8.toInt32))] [(.int ((Int32.ofNat sz) + (1 : Int32))), (.ref bo11)]))
            rw [show ((Int32.ofNat sz) + (1 : Int32)) = (Int32.ofNat (sz + 1)) from own_inc sz]
            show own_Ends p.tables e below _ (T11.setTop (mkF m 229 #[.val (.long q0), .second, .val (.long q1), .second, .val (.int p2), .val (.int f5), .val (.int f6), .val (.int (Int32.ofNat d)), .val (.ref b1), .val (.long pt), .second, .val (.int (Int32.ofNat sz)), .val (.long (pt + ((Int32.ofNat d).toInt64))), .second, .val (.ref bo11), .val (.int (((Int32.ofNat d) + (1 : Int32)).toInt8.toInt32))] [(.int (Int32.ofNat (sz + 1))), (.ref bo11)]))
            obtain ⟨cl19, Ar19, q19, S19, Nn19, H19, G19⟩ := id Vo11
            have hin19 : ¬ ((Int32.ofNat (sz + 1)) < 0 ∨ cl19.slots.size ≤ ((Int32.ofNat (sz + 1))).toNatClampNeg) := inb_of S19 ⟨(own_nn (by omega)), ((own_nlt (by omega) (by omega)).mpr (by omega))⟩
            have hat19 : cl19.slots[((Int32.ofNat (sz + 1))).toNatClampNeg]? = some (.int (0 : Int32)) := H19.at hin19 (by rw [own_clamp (by omega), (ho11 (sz + 1) (by omega))]; exact hq3)
            refine own_step (fun _ k => X11.baloadBytes hx (j := (Int32.ofNat (sz + 1))) (v := (.int (0 : Int32))) Ar19.1 (State.isArrayOf_alike hZ.alike Ar19.2.1) Ar19.2.2 hin19 hat19 (g := (mkF m 229 #[.val (.long q0), .second, .val (.long q1), .second, .val (.int p2), .val (.int f5), .val (.int f6), .val (.int (Int32.ofNat d)), .val (.ref b1), .val (.long pt), .second, .val (.int (Int32.ofNat sz)), .val (.long (pt + ((Int32.ofNat d).toInt64))), .second, .val (.ref bo11), .val (.int (((Int32.ofNat d) + (1 : Int32)).toInt8.toInt32))] [(.int (Int32.ofNat (sz + 1))), (.ref bo11)])) rfl rfl (hb hby at_229) _ k) ?_
            show own_Ends p.tables e below _ (T11.setTop (mkF m 230 #[.val (.long q0), .second, .val (.long q1), .second, .val (.int p2), .val (.int f5), .val (.int f6), .val (.int (Int32.ofNat d)), .val (.ref b1), .val (.long pt), .second, .val (.int (Int32.ofNat sz)), .val (.long (pt + ((Int32.ofNat d).toInt64))), .second, .val (.ref bo11), .val (.int (((Int32.ofNat d) + (1 : Int32)).toInt8.toInt32))] [(.int (0 : Int32))]))
            refine own_step (fun _ k => XS.ifNo X11.here hx rfl (hb hby at_230) rfl ((if0 _ _).trans (teq rfl).2) k) ?_
            show own_Ends p.tables e below _ (T11.setTop (mkF m 233 #[.val (.long q0), .second, .val (.long q1), .second, .val (.int p2), .val (.int f5), .val (.int f6), .val (.int (Int32.ofNat d)), .val (.ref b1), .val (.long pt), .second, .val (.int (Int32.ofNat sz)), .val (.long (pt + ((Int32.ofNat d).toInt64))), .second, .val (.ref bo11), .val (.int (((Int32.ofNat d) + (1 : Int32)).toInt8.toInt32))] []))
            refine own_step (fun _ k => XS.iconst X11.here hx rfl (hb hby at_233) k) ?_
            show own_Ends p.tables e below _ (T11.setTop (mkF m 234 #[.val (.long q0), .second, .val (.long q1), .second, .val (.int p2), .val (.int f5), .val (.int f6), .val (.int (Int32.ofNat d)), .val (.ref b1), .val (.long pt), .second, .val (.int (Int32.ofNat sz)), .val (.long (pt + ((Int32.ofNat d).toInt64))), .second, .val (.ref bo11), .val (.int (((Int32.ofNat d) + (1 : Int32)).toInt8.toInt32))] [(.int (1 : Int32))]))
            refine own_step (fun _ k => XS.goto X11.here hx rfl (pc0 := 234) (pc' := 238) rfl (hb hby at_234) (by decide) (by decide) k) ?_
            show own_Ends p.tables e below _ (T11.setTop (mkF m 238 #[.val (.long q0), .second, .val (.long q1), .second, .val (.int p2), .val (.int f5), .val (.int f6), .val (.int (Int32.ofNat d)), .val (.ref b1), .val (.long pt), .second, .val (.int (Int32.ofNat sz)), .val (.long (pt + ((Int32.ofNat d).toInt64))), .second, .val (.ref bo11), .val (.int (((Int32.ofNat d) + (1 : Int32)).toInt8.toInt32))] [(.int (1 : Int32))]))
            exact own_retN X11 hx hlk (by decide) (by decide) (t := .boolean) Bd.returns (by simp) (hb hby at_238) (⟨rfl, N_11⟩)
        show own_Ends p.tables e below _ (T4.setTop (mkF m 91 #[.val (.long q0), .second, .val (.long q1), .second, .val (.int p2), .val (.int f5), .val (.int f6), .val (.int (Int32.ofNat d)), .val (.ref b1), .val (.long pt), .second, .val (.int (Int32.ofNat sz)), .unset, .unset, .unset, .unset] [(.int f6)]))
        by_cases hc91 : f6 = (0 : Int32)
        · refine own_step (fun _ k => XS.ifYes X4.here hx rfl (pc0 := 91) (pc' := 125) rfl (hb hby at_91) rfl ((if0 _ _).trans (teq hc91).1) (by decide) (by decide) k) ?_
          show own_Ends p.tables e below _ (T4.setTop (mkF m 125 #[.val (.long q0), .second, .val (.long q1), .second, .val (.int p2), .val (.int f5), .val (.int f6), .val (.int (Int32.ofNat d)), .val (.ref b1), .val (.long pt), .second, .val (.int (Int32.ofNat sz)), .unset, .unset, .unset, .unset] []))
          exact jn125 _ _ _ vs sz pt (X4.more (by decide) (by decide)) e4 N_4 K_3 Z_3 Fb3 Fz3 Fp3 Fm3 Fq3 E_w_j77_3 V_bf_j77_3 hvsj (fun i hi => rfl)
        · refine own_step (fun _ k => XS.ifNo X4.here hx rfl (hb hby at_91) rfl ((if0 _ _).trans (feq hc91).1) k) ?_
          show own_Ends p.tables e below _ (T4.setTop (mkF m 94 #[.val (.long q0), .second, .val (.long q1), .second, .val (.int p2), .val (.int f5), .val (.int f6), .val (.int (Int32.ofNat d)), .val (.ref b1), .val (.long pt), .second, .val (.int (Int32.ofNat sz)), .unset, .unset, .unset, .unset] []))
          refine own_step (fun _ k => XS.aload X4.here hx rfl (hb hby at_94) rfl rfl k) ?_
          show own_Ends p.tables e below _ (T4.setTop (mkF m 96 #[.val (.long q0), .second, .val (.long q1), .second, .val (.int p2), .val (.int f5), .val (.int f6), .val (.int (Int32.ofNat d)), .val (.ref b1), .val (.long pt), .second, .val (.int (Int32.ofNat sz)), .unset, .unset, .unset, .unset] [(.ref b1)]))
          obtain ⟨T20, h20, X20, e20, E20, A20, D20, -, st20⟩ := newO X4 hx hZ hown (hw _ (List.mem_of_getElem? (i := 45) rfl)) (hw _ (List.mem_of_getElem? (i := 46) rfl)) (hw _ (List.mem_of_getElem? (i := 47) rfl)) e4 (g := (mkF m 96 #[.val (.long q0), .second, .val (.long q1), .second, .val (.int p2), .val (.int f5), .val (.int f6), .val (.int (Int32.ofNat d)), .val (.ref b1), .val (.long pt), .second, .val (.int (Int32.ofNat sz)), .unset, .unset, .unset, .unset] [(.ref b1)])) rfl (hb hby at_96) (by decide) (by decide)
          obtain ⟨b20, g20⟩ : ∃ z, z = T3.heap.size := ⟨_, rfl⟩
          rw [← g20] at A20 D20 st20
          refine own_step st20 ?_
          have ne_b1_b20 : b1 ≠ b20 := Nat.ne_of_lt (Nat.lt_of_lt_of_le E_w_j77_3.lt (Nat.le_of_eq g20.symm))
          have ne_bf2_b20 : bf2 ≠ b20 := Nat.ne_of_lt (Nat.lt_of_lt_of_le V_bf_j77_3.lt (Nat.le_of_eq g20.symm))
          have g_b20 : n0 ≤ b20 := Nat.le_trans Z_3 (Nat.le_of_eq g20.symm)
          have sz_b20 : h0.size ≤ b20 := Nat.le_trans K_3.1 (Nat.le_of_eq g20.symm)
          have E_w_j77_20 := E_w_j77_3.ext E20
          have V_bf_j77_20 := V_bf_j77_3.ext E20
          have Fb3_20 := Fb3.ext E20
          have Fz3_20 := Fz3.ext E20
          have Fp3_20 := Fp3.ext E20
          have Fm3_20 := Fm3.ext E20
          have Fq3_20 := Fq3.ext E20
          have K_20 : Keep h0 h20 [] := K_3.ext E20
          have Z_20 : n0 ≤ h20.size := Nat.le_trans Z_3 E20.1
          have F_timestamp_b20 : Fld Z h20 b20 "com/example/ketchup/ketchup/negentropy/Bound" "timestamp" "J" (.long (0 : Int64)) := D20 (Or.inr (hw _ (List.mem_of_getElem? (i := 53) rfl))) (ty := .long) (by decide)
          have F_prefix_b20 : Fld Z h20 b20 "com/example/ketchup/ketchup/negentropy/Bound" "prefix" "[B" .null := D20 (Or.inr (hw _ (List.mem_of_getElem? (i := 55) rfl))) (ty := (.array .byte)) (by decide)
          show own_Ends p.tables e below _ (T20.setTop (mkF m 99 #[.val (.long q0), .second, .val (.long q1), .second, .val (.int p2), .val (.int f5), .val (.int f6), .val (.int (Int32.ofNat d)), .val (.ref b1), .val (.long pt), .second, .val (.int (Int32.ofNat sz)), .unset, .unset, .unset, .unset] [(.ref b20), (.ref b1)]))
          refine own_step (fun _ k => XS.dup X20.here hx rfl (hb hby at_99) rfl rfl k) ?_
          show own_Ends p.tables e below _ (T20.setTop (mkF m 100 #[.val (.long q0), .second, .val (.long q1), .second, .val (.int p2), .val (.int f5), .val (.int f6), .val (.int (Int32.ofNat d)), .val (.ref b1), .val (.long pt), .second, .val (.int (Int32.ofNat sz)), .unset, .unset, .unset, .unset] [(.ref b20), (.ref b20), (.ref b1)]))
          refine own_step (fun _ k => XS.lloadN X20.here hx rfl (hb hby at_100) rfl k) ?_
          show own_Ends p.tables e below _ (T20.setTop (mkF m 101 #[.val (.long q0), .second, .val (.long q1), .second, .val (.int p2), .val (.int f5), .val (.int f6), .val (.int (Int32.ofNat d)), .val (.ref b1), .val (.long pt), .second, .val (.int (Int32.ofNat sz)), .unset, .unset, .unset, .unset] [(.long q1), (.ref b20), (.ref b20), (.ref b1)]))
          refine own_step (fun _ k => XS.iconst X20.here hx rfl (hb hby at_101) k) ?_
          show own_Ends p.tables e below _ (T20.setTop (mkF m 102 #[.val (.long q0), .second, .val (.long q1), .second, .val (.int p2), .val (.int f5), .val (.int f6), .val (.int (Int32.ofNat d)), .val (.ref b1), .val (.long pt), .second, .val (.int (Int32.ofNat sz)), .unset, .unset, .unset, .unset] [(.int (2 : Int32)), (.long q1), (.ref b20), (.ref b20), (.ref b1)]))
          obtain ⟨T21, h21, k21, X21, e21, E21, A21, st21⟩ := newP X20 hx hZ (hw _ (List.mem_of_getElem? (i := 10) rfl)) e20 (g := (mkF m 102 #[.val (.long q0), .second, .val (.long q1), .second, .val (.int p2), .val (.int f5), .val (.int f6), .val (.int (Int32.ofNat d)), .val (.ref b1), .val (.long pt), .second, .val (.int (Int32.ofNat sz)), .unset, .unset, .unset, .unset] [(.int (2 : Int32)), (.long q1), (.ref b20), (.ref b20), (.ref b1)])) rfl (hb hby at_102) rfl (by decide) (cap := 2) (by decide) (by decide) (by decide) (by decide)
          obtain ⟨b21, g21⟩ : ∃ z, z = h20.size := ⟨_, rfl⟩
          rw [← g21] at A21 st21
          refine own_step st21 ?_
          have ne_b1_b21 : b1 ≠ b21 := Nat.ne_of_lt (Nat.lt_of_lt_of_le E_w_j77_20.lt (Nat.le_of_eq g21.symm))
          have ne_bf2_b21 : bf2 ≠ b21 := Nat.ne_of_lt (Nat.lt_of_lt_of_le V_bf_j77_20.lt (Nat.le_of_eq g21.symm))
          have ne_b20_b21 : b20 ≠ b21 := Nat.ne_of_lt (Nat.lt_of_lt_of_le A20.lt (Nat.le_of_eq g21.symm))
          have g_b21 : n0 ≤ b21 := Nat.le_trans Z_20 (Nat.le_of_eq g21.symm)
          have sz_b21 : h0.size ≤ b21 := Nat.le_trans K_20.1 (Nat.le_of_eq g21.symm)
          have E_w_j77_21 := E_w_j77_20.ext E21
          have V_bf_j77_21 := V_bf_j77_20.ext E21
          have Fb3_21 := Fb3_20.ext E21
          have Fz3_21 := Fz3_20.ext E21
          have Fp3_21 := Fp3_20.ext E21
          have Fm3_21 := Fm3_20.ext E21
          have Fq3_21 := Fq3_20.ext E21
          have A20_21 := A20.ext E21
          have F_timestamp_b20_21 := F_timestamp_b20.ext E21
          have F_prefix_b20_21 := F_prefix_b20.ext E21
          have K_21 : Keep h0 h21 [] := K_20.ext E21
          have Z_21 : n0 ≤ h21.size := Nat.le_trans Z_20 E21.1
          have V_b21 : Arv Z h21 b21 k21 .byte (2 : Int32) (List.replicate 2 (.int (0 : Int32))) (.int (0 : Int32)) := (Arv.new A21 (by decide)).pad (pad_rep [] (.int (0 : Int32)) 2)
          show own_Ends p.tables e below _ (T21.setTop (mkF m 104 #[.val (.long q0), .second, .val (.long q1), .second, .val (.int p2), .val (.int f5), .val (.int f6), .val (.int (Int32.ofNat d)), .val (.ref b1), .val (.long pt), .second, .val (.int (Int32.ofNat sz)), .unset, .unset, .unset, .unset] [(.ref b21), (.long q1), (.ref b20), (.ref b20), (.ref b1)]))
          refine own_step (fun _ k => XS.dup X21.here hx rfl (hb hby at_104) rfl rfl k) ?_
          show own_Ends p.tables e below _ (T21.setTop (mkF m 105 #[.val (.long q0), .second, .val (.long q1), .second, .val (.int p2), .val (.int f5), .val (.int f6), .val (.int (Int32.ofNat d)), .val (.ref b1), .val (.long pt), .second, .val (.int (Int32.ofNat sz)), .unset, .unset, .unset, .unset] [(.ref b21), (.ref b21), (.long q1), (.ref b20), (.ref b20), (.ref b1)]))
          refine own_step (fun _ k => XS.iconst X21.here hx rfl (hb hby at_105) k) ?_
          show own_Ends p.tables e below _ (T21.setTop (mkF m 106 #[.val (.long q0), .second, .val (.long q1), .second, .val (.int p2), .val (.int f5), .val (.int f6), .val (.int (Int32.ofNat d)), .val (.ref b1), .val (.long pt), .second, .val (.int (Int32.ofNat sz)), .unset, .unset, .unset, .unset] [(.int (0 : Int32)), (.ref b21), (.ref b21), (.long q1), (.ref b20), (.ref b20), (.ref b1)]))
          refine own_step (fun _ k => XS.iload X21.here hx rfl (hb hby at_106) rfl k) ?_
          show own_Ends p.tables e below _ (T21.setTop (mkF m 108 #[.val (.long q0), .second, .val (.long q1), .second, .val (.int p2), .val (.int f5), .val (.int f6), .val (.int (Int32.ofNat d)), .val (.ref b1), .val (.long pt), .second, .val (.int (Int32.ofNat sz)), .unset, .unset, .unset, .unset] [(.int p2), (.int (0 : Int32)), (.ref b21), (.ref b21), (.long q1), (.ref b20), (.ref b20), (.ref b1)]))
          refine own_step (fun _ k => XS.i2b X21.here hx rfl (hb hby at_108) rfl k) ?_
          show own_Ends p.tables e below _ (T21.setTop (mkF m 109 #[.val (.long q0), .second, .val (.long q1), .second, .val (.int p2), .val (.int f5), .val (.int f6), .val (.int (Int32.ofNat d)), .val (.ref b1), .val (.long pt), .second, .val (.int (Int32.ofNat sz)), .unset, .unset, .unset, .unset] [(.int (p2.toInt8.toInt32)), (.int (0 : Int32)), (.ref b21), (.ref b21), (.long q1), (.ref b20), (.ref b20), (.ref b1)]))
          obtain ⟨cl22, Ar22, q22, S22, Nn22, H22, G22⟩ := id V_b21
          have hin22 : ¬ ((0 : Int32) < 0 ∨ cl22.slots.size ≤ ((0 : Int32)).toNatClampNeg) := inb_of S22 ⟨(by decide), (by decide)⟩
          obtain ⟨T22, h22, X22, e22, W22, st22⟩ := stB X21 hx hZ e21 Ar22 (j := (0 : Int32)) hin22 (g := (mkF m 109 #[.val (.long q0), .second, .val (.long q1), .second, .val (.int p2), .val (.int f5), .val (.int f6), .val (.int (Int32.ofNat d)), .val (.ref b1), .val (.long pt), .second, .val (.int (Int32.ofNat sz)), .unset, .unset, .unset, .unset] [(.int (p2.toInt8.toInt32)), (.int (0 : Int32)), (.ref b21), (.ref b21), (.long q1), (.ref b20), (.ref b20), (.ref b1)])) rfl rfl (hb hby at_109)
          refine own_step st22 ?_
          have E_w_j77_22 := E_w_j77_21.wr W22
          have V_bf_j77_22 := V_bf_j77_21.other W22 ne_bf2_b21
          have Fb3_22 := Fb3_21.other W22 (Or.inl ne_b1_b21)
          have Fz3_22 := Fz3_21.other W22 (Or.inl ne_b1_b21)
          have Fp3_22 := Fp3_21.other W22 (Or.inl ne_b1_b21)
          have Fm3_22 := Fm3_21.other W22 (Or.inl ne_b1_b21)
          have Fq3_22 := Fq3_21.other W22 (Or.inl ne_b1_b21)
          have A20_22 := A20_21.wr W22
          have F_timestamp_b20_22 := F_timestamp_b20_21.other W22 (Or.inl ne_b20_b21)
          have F_prefix_b20_22 := F_prefix_b20_21.other W22 (Or.inl ne_b20_b21)
          have K_22 : Keep h0 h22 [] := K_21.wr W22 (Or.inr sz_b21)
          have Z_22 : n0 ≤ h22.size := Nat.le_trans Z_21 (Keep.of_wr W22).1
          have N_22 := Fr.snoc X22 N_4 g_b21
          have V_b21_22 : Arv Z h22 b21 k21 .byte (2 : Int32) ((List.replicate 2 (.int (0 : Int32))).set 0 (.int (nar .byte (p2.toInt8.toInt32)))) (.int (0 : Int32)) := Arv.set Ar22 q22 S22 Nn22 H22 G22 (fits_nar_byte _) W22 0 rfl (by simp)
          show own_Ends p.tables e below _ (T22.setTop (mkF m 110 #[.val (.long q0), .second, .val (.long q1), .second, .val (.int p2), .val (.int f5), .val (.int f6), .val (.int (Int32.ofNat d)), .val (.ref b1), .val (.long pt), .second, .val (.int (Int32.ofNat sz)), .unset, .unset, .unset, .unset] [(.ref b21), (.long q1), (.ref b20), (.ref b20), (.ref b1)]))
          refine own_step (fun _ k => XS.dup X22.here hx rfl (hb hby at_110) rfl rfl k) ?_
          show own_Ends p.tables e below _ (T22.setTop (mkF m 111 #[.val (.long q0), .second, .val (.long q1), .second, .val (.int p2), .val (.int f5), .val (.int f6), .val (.int (Int32.ofNat d)), .val (.ref b1), .val (.long pt), .second, .val (.int (Int32.ofNat sz)), .unset, .unset, .unset, .unset] [(.ref b21), (.ref b21), (.long q1), (.ref b20), (.ref b20), (.ref b1)]))
          refine own_step (fun _ k => XS.iconst X22.here hx rfl (hb hby at_111) k) ?_
          show own_Ends p.tables e below _ (T22.setTop (mkF m 112 #[.val (.long q0), .second, .val (.long q1), .second, .val (.int p2), .val (.int f5), .val (.int f6), .val (.int (Int32.ofNat d)), .val (.ref b1), .val (.long pt), .second, .val (.int (Int32.ofNat sz)), .unset, .unset, .unset, .unset] [(.int (1 : Int32)), (.ref b21), (.ref b21), (.long q1), (.ref b20), (.ref b20), (.ref b1)]))
          refine own_step (fun _ k => XS.iload X22.here hx rfl (hb hby at_112) rfl k) ?_
          show own_Ends p.tables e below _ (T22.setTop (mkF m 114 #[.val (.long q0), .second, .val (.long q1), .second, .val (.int p2), .val (.int f5), .val (.int f6), .val (.int (Int32.ofNat d)), .val (.ref b1), .val (.long pt), .second, .val (.int (Int32.ofNat sz)), .unset, .unset, .unset, .unset] [(.int p2), (.int (1 : Int32)), (.ref b21), (.ref b21), (.long q1), (.ref b20), (.ref b20), (.ref b1)]))
          refine own_step (fun _ k => XS.bipush X22.here hx rfl (hb hby at_114) k) ?_
          show own_Ends p.tables e below _ (T22.setTop (mkF m 116 #[.val (.long q0), .second, .val (.long q1), .second, .val (.int p2), .val (.int f5), .val (.int f6), .val (.int (Int32.ofNat d)), .val (.ref b1), .val (.long pt), .second, .val (.int (Int32.ofNat sz)), .unset, .unset, .unset, .unset] [(.int (16 : Int32)), (.int p2), (.int (1 : Int32)), (.ref b21), (.ref b21), (.long q1), (.ref b20), (.ref b20), (.ref b1)]))
          refine own_step (fun _ k => XS.iushr X22.here hx rfl (hb hby at_116) rfl k) ?_
          show own_Ends p.tables e below _ (T22.setTop (mkF m 117 #[.val (.long q0), .second, .val (.long q1), .second, .val (.int p2), .val (.int f5), .val (.int f6), .val (.int (Int32.ofNat d)), .val (.ref b1), .val (.long pt), .second, .val (.int (Int32.ofNat sz)), .unset, .unset, .unset, .unset] [(.int ((p2.toUInt32 >>> ((16 : Int32) &&& 31).toUInt32).toInt32)), (.int (1 : Int32)), (.ref b21), (.ref b21), (.long q1), (.ref b20), (.ref b20), (.ref b1)]))
          refine own_step (fun _ k => XS.i2b X22.here hx rfl (hb hby at_117) rfl k) ?_
          show own_Ends p.tables e below _ (T22.setTop (mkF m 118 #[.val (.long q0), .second, .val (.long q1), .second, .val (.int p2), .val (.int f5), .val (.int f6), .val (.int (Int32.ofNat d)), .val (.ref b1), .val (.long pt), .second, .val (.int (Int32.ofNat sz)), .unset, .unset, .unset, .unset] [(.int (((p2.toUInt32 >>> ((16 : Int32) &&& 31).toUInt32).toInt32).toInt8.toInt32)), (.int (1 : Int32)), (.ref b21), (.ref b21), (.long q1), (.ref b20), (.ref b20), (.ref b1)]))
          obtain ⟨cl23, Ar23, q23, S23, Nn23, H23, G23⟩ := id V_b21_22
          have hin23 : ¬ ((1 : Int32) < 0 ∨ cl23.slots.size ≤ ((1 : Int32)).toNatClampNeg) := inb_of S23 ⟨(by decide), (by decide)⟩
          obtain ⟨T23, h23, X23, e23, W23, st23⟩ := stB X22 hx hZ e22 Ar23 (j := (1 : Int32)) hin23 (g := (mkF m 118 #[.val (.long q0), .second, .val (.long q1), .second, .val (.int p2), .val (.int f5), .val (.int f6), .val (.int (Int32.ofNat d)), .val (.ref b1), .val (.long pt), .second, .val (.int (Int32.ofNat sz)), .unset, .unset, .unset, .unset] [(.int (((p2.toUInt32 >>> ((16 : Int32) &&& 31).toUInt32).toInt32).toInt8.toInt32)), (.int (1 : Int32)), (.ref b21), (.ref b21), (.long q1), (.ref b20), (.ref b20), (.ref b1)])) rfl rfl (hb hby at_118)
          refine own_step st23 ?_
          have E_w_j77_23 := E_w_j77_22.wr W23
          have V_bf_j77_23 := V_bf_j77_22.other W23 ne_bf2_b21
          have Fb3_23 := Fb3_22.other W23 (Or.inl ne_b1_b21)
          have Fz3_23 := Fz3_22.other W23 (Or.inl ne_b1_b21)
          have Fp3_23 := Fp3_22.other W23 (Or.inl ne_b1_b21)
          have Fm3_23 := Fm3_22.other W23 (Or.inl ne_b1_b21)
          have Fq3_23 := Fq3_22.other W23 (Or.inl ne_b1_b21)
          have A20_23 := A20_22.wr W23
          have F_timestamp_b20_23 := F_timestamp_b20_22.other W23 (Or.inl ne_b20_b21)
          have F_prefix_b20_23 := F_prefix_b20_22.other W23 (Or.inl ne_b20_b21)
          have K_23 : Keep h0 h23 [] := K_22.wr W23 (Or.inr sz_b21)
          have Z_23 : n0 ≤ h23.size := Nat.le_trans Z_22 (Keep.of_wr W23).1
          have N_23 := Fr.snoc X23 N_22 g_b21
          have V_b21_23 : Arv Z h23 b21 k21 .byte (2 : Int32) (((List.replicate 2 (.int (0 : Int32))).set 0 (.int (nar .byte (p2.toInt8.toInt32)))).set 1 (.int (nar .byte (((p2.toUInt32 >>> ((16 : Int32) &&& 31).toUInt32).toInt32).toInt8.toInt32)))) (.int (0 : Int32)) := Arv.set Ar23 q23 S23 Nn23 H23 G23 (fits_nar_byte _) W23 1 rfl (by simp)
          show own_Ends p.tables e below _ (T23.setTop (mkF m 119 #[.val (.long q0), .second, .val (.long q1), .second, .val (.int p2), .val (.int f5), .val (.int f6), .val (.int (Int32.ofNat d)), .val (.ref b1), .val (.long pt), .second, .val (.int (Int32.ofNat sz)), .unset, .unset, .unset, .unset] [(.ref b21), (.long q1), (.ref b20), (.ref b20), (.ref b1)]))
          obtain ⟨_, _, ⟨T24, L24, k24, n24⟩, -, X24, ⟨Lc24, hQ24, l24, y24, z24⟩, st24⟩ := X23.specialBack hx (y := (⟨"com/example/ketchup/ketchup/negentropy/Bound", "<init>", "(J[B)V"⟩ : MethodName)) rfl hown (mvT hZ (hw _ (List.mem_of_getElem? (i := 48) rfl))) (mvT hZ (hw _ (List.mem_of_getElem? (i := 49) rfl))) (mvT hZ (hw _ (List.mem_of_getElem? (i := 50) rfl))) (by decide) (backOf (W := 2) (own_rm_binit l Z aw hw [] b20 q1 b21 k21 2 (((List.replicate 2 (.int (0 : Int32))).set 0 (.int (nar .byte (p2.toInt8.toInt32)))).set 1 (.int (nar .byte (((p2.toUInt32 >>> ((16 : Int32) &&& 31).toUInt32).toInt32).toInt8.toInt32)))) h23 n0 Z_23 A20_23 F_timestamp_b20_23 F_prefix_b20_23 g_b20 V_b21_23 ne_b20_b21 (by omega)) hZ (hw _ (List.mem_of_getElem? (i := 50) rfl)) (hw _ (List.mem_of_getElem? (i := 47) rfl)) (by decide) (by decide)) (g := (mkF m 119 #[.val (.long q0), .second, .val (.long q1), .second, .val (.int p2), .val (.int f5), .val (.int f6), .val (.int (Int32.ofNat d)), .val (.ref b1), .val (.long pt), .second, .val (.int (Int32.ofNat sz)), .unset, .unset, .unset, .unset] [(.ref b21), (.long q1), (.ref b20), (.ref b20), (.ref b1)])) rfl (by rw [hml]; rfl) (Steps.refl _) (a := b20) (argsL := [(.long q1), (.ref b21)]) (rest := [(.ref b20), (.ref b1)]) (lenOf own_pd8 rfl) rfl (by show 2 * 0 + _ ≤ _; exact Nat.le_of_eq rfl) (hb hby at_119) (fun _ _ => ⟨rfl, e23, (by decide : 11 + 0 ≤ _), (by decide : 308 + 0 ≤ _)⟩)
          dsimp only [Pt.U, Pt.locs, Pt.cells, Pt.slots] at X24 l24 y24 z24 st24 hQ24
          subst l24 y24 z24
          obtain ⟨rfl, N24q, k24, Ft24, Fx24⟩ := hQ24
          have N_24 := Fr.app N_23 N24q
          have E_w_j77_24 := E_w_j77_23.keep k24
          have V_bf_j77_24 := V_bf_j77_23.keep k24 (ninS ne_bf2_b20 nin0)
          have Fb3_24 := Fb3_23.keep k24 (ninS ne_b1_b20 nin0)
          have Fz3_24 := Fz3_23.keep k24 (ninS ne_b1_b20 nin0)
          have Fp3_24 := Fp3_23.keep k24 (ninS ne_b1_b20 nin0)
          have Fm3_24 := Fm3_23.keep k24 (ninS ne_b1_b20 nin0)
          have Fq3_24 := Fq3_23.keep k24 (ninS ne_b1_b20 nin0)
          have A20_24 := A20_23.keep k24
          have V_b21_24 := V_b21_23.keep k24 (ninS (Ne.symm ne_b20_b21) nin0)
          have K_24 : Keep h0 T24.heap [] := K_23.trans k24 (allS (Or.inr sz_b20) all0)
          have Z_24 : n0 ≤ T24.heap.size := Nat.le_trans Z_23 k24.1
          refine own_step (fun _ k => st24.trans k) ?_
          show own_Ends p.tables e below _ (T24.setTop (mkF m 122 #[.val (.long q0), .second, .val (.long q1), .second, .val (.int p2), .val (.int f5), .val (.int f6), .val (.int (Int32.ofNat d)), .val (.ref b1), .val (.long pt), .second, .val (.int (Int32.ofNat sz)), .unset, .unset, .unset, .unset] [(.ref b20), (.ref b1)]))
          obtain ⟨cq25, kq25, q25a, q25b, q25c⟩ := isOf hZ rfl E_w_j77_24
          obtain ⟨_, _, ⟨T25, L25, k25, n25⟩, -, X25, ⟨Lc25, hQ25, l25, y25, z25⟩, st25⟩ := X24.virtualBack hx (y := (⟨"com/example/ketchup/ketchup/negentropy/MessageWriter", "writeBound", "(Lcom/example/ketchup/ketchup/negentropy/Bound;)V"⟩ : MethodName)) (z := (⟨"com/example/ketchup/ketchup/negentropy/MessageWriter", "writeBound", "(Lcom/example/ketchup/ketchup/negentropy/Bound;)V"⟩ : MethodName)) hown (mvT hZ (hw _ (List.mem_of_getElem? (i := 56) rfl))) (mvT hZ (hw _ (List.mem_of_getElem? (i := 57) rfl))) (notFace_of_selects (args := #[]) (mvT hZ (hw _ (List.mem_of_getElem? (i := 59) rfl)))) (mvT hZ (hw _ (List.mem_of_getElem? (i := 59) rfl))) (mvT hZ (hw _ (List.mem_of_getElem? (i := 58) rfl))) (by decide) (backOf (W := 0) (own_rm_writeBound l Z aw hw [] b1 b20 bf2 kb2 vs sz pt (Int32.ofNat sz) pt q1 b21 k21 2 (((List.replicate 2 (.int (0 : Int32))).set 0 (.int (nar .byte (p2.toInt8.toInt32)))).set 1 (.int (nar .byte (((p2.toUInt32 >>> ((16 : Int32) &&& 31).toUInt32).toInt32).toInt8.toInt32)))) T24.heap n0 Z_24 E_w_j77_24 Fb3_24 Fz3_24 Fp3_24 Fm3_24 Fq3_24 V_bf_j77_24 hvsj new2 g_b1 ge2 A20_24 Ft24 Fx24 V_b21_24 ne_b1_b20 ne_bf2_b20 ne_b1_b21 ne_bf2_b21 ne_b20_b21 (by omega) (by omega)) hZ (hw _ (List.mem_of_getElem? (i := 60) rfl)) (hw _ (List.mem_of_getElem? (i := 3) rfl)) (by decide) (by decide)) q25a q25c (g := (mkF m 122 #[.val (.long q0), .second, .val (.long q1), .second, .val (.int p2), .val (.int f5), .val (.int f6), .val (.int (Int32.ofNat d)), .val (.ref b1), .val (.long pt), .second, .val (.int (Int32.ofNat sz)), .unset, .unset, .unset, .unset] [(.ref b20), (.ref b1)])) rfl (by rw [hml]; rfl) (Steps.refl _) (argsL := [(.ref b20)]) (rest := []) (lenOf own_pd9 rfl) rfl (by show 2 * 0 + _ ≤ _; exact Nat.le_of_eq rfl) (hb hby at_122) (fun _ _ => ⟨rfl, rfl, (by decide : 11 + 4 ≤ _), (by decide : 308 + 40 ≤ _)⟩)
          dsimp only [Pt.U, Pt.locs, Pt.cells, Pt.slots] at X25 l25 y25 z25 st25 hQ25
          subst l25 y25 z25
          obtain ⟨rfl, N25q, k25, n125, vs25, hl125, hu125, Fb25, Fz25, Fp25, Fm25, Fq25, Vb25, hvs25, hlo25, hsm25⟩ := hQ25
          have N_25 := Fr.app N_24 N25q
          have E_w_j77_25 := E_w_j77_24.keep k25
          have A20_25 := A20_24.keep k25
          have V_b21_25 := V_b21_24.keep k25 (ninS (Ne.symm ne_b1_b21) (ninS (Ne.symm ne_bf2_b21) nin0))
          have Ft24_25 := Ft24.keep k25 (ninS (Ne.symm ne_b1_b20) (ninS (Ne.symm ne_bf2_b20) nin0))
          have Fx24_25 := Fx24.keep k25 (ninS (Ne.symm ne_b1_b20) (ninS (Ne.symm ne_bf2_b20) nin0))
          have K_25 : Keep h0 T25.heap [] := K_24.trans k25 (allS (Or.inr sz_b1) (allS (Or.inr sz_bf2) all0))
          have Z_25 : n0 ≤ T25.heap.size := Nat.le_trans Z_24 k25.1
          refine own_step (fun _ k => st25.trans k) ?_
          show own_Ends p.tables e below _ (T25.setTop (mkF m 125 #[.val (.long q0), .second, .val (.long q1), .second, .val (.int p2), .val (.int f5), .val (.int f6), .val (.int (Int32.ofNat d)), .val (.ref b1), .val (.long pt), .second, .val (.int (Int32.ofNat sz)), .unset, .unset, .unset, .unset] []))
          exact jn125 _ _ _ vs25 (sz + n125 + 1 + 2) q1 X25 rfl N_25 K_25 Z_25 Fb25 Fz25 Fp25 Fm25 Fq25 E_w_j77_25 Vb25 hvs25 hlo25
      show own_Ends p.tables e below _ (T2.setTop (mkF m 55 #[.val (.long q0), .second, .val (.long q1), .second, .val (.int p2), .val (.int f5), .val (.int f6), .val (.int (Int32.ofNat d)), .val (.ref b1), .val (.long (0 : Int64)), .second, .unset, .unset, .unset, .unset, .unset] [(.int f5)]))
      by_cases hc55 : f5 = (0 : Int32)
      · refine own_step (fun _ k => XS.ifYes X2.here hx rfl (pc0 := 55) (pc' := 77) rfl (hb hby at_55) rfl ((if0 _ _).trans (teq hc55).1) (by decide) (by decide) k) ?_
        show own_Ends p.tables e below _ (T2.setTop (mkF m 77 #[.val (.long q0), .second, .val (.long q1), .second, .val (.int p2), .val (.int f5), .val (.int f6), .val (.int (Int32.ofNat d)), .val (.ref b1), .val (.long (0 : Int64)), .second, .unset, .unset, .unset, .unset, .unset] []))
        exact jn77 _ _ _ vs2 1 (0 : Int64) (Int32.ofNat 1) (0 : Int64) (X2.more (by decide) (by decide)) rfl N_2 K_2 Z_2 Fb2 Fz2 Fp2 Fm2 Fq2 A1_2 Vb2 hvs2 hz2 (by omega) (by omega)
      · refine own_step (fun _ k => XS.ifNo X2.here hx rfl (hb hby at_55) rfl ((if0 _ _).trans (feq hc55).1) k) ?_
        show own_Ends p.tables e below _ (T2.setTop (mkF m 58 #[.val (.long q0), .second, .val (.long q1), .second, .val (.int p2), .val (.int f5), .val (.int f6), .val (.int (Int32.ofNat d)), .val (.ref b1), .val (.long (0 : Int64)), .second, .unset, .unset, .unset, .unset, .unset] []))
        refine own_step (fun _ k => XS.aload X2.here hx rfl (hb hby at_58) rfl rfl k) ?_
        show own_Ends p.tables e below _ (T2.setTop (mkF m 60 #[.val (.long q0), .second, .val (.long q1), .second, .val (.int p2), .val (.int f5), .val (.int f6), .val (.int (Int32.ofNat d)), .val (.ref b1), .val (.long (0 : Int64)), .second, .unset, .unset, .unset, .unset, .unset] [(.ref b1)]))
        obtain ⟨T26, h26, X26, e26, E26, A26, D26, -, st26⟩ := newO X2 hx hZ hown (hw _ (List.mem_of_getElem? (i := 45) rfl)) (hw _ (List.mem_of_getElem? (i := 46) rfl)) (hw _ (List.mem_of_getElem? (i := 47) rfl)) rfl (g := (mkF m 60 #[.val (.long q0), .second, .val (.long q1), .second, .val (.int p2), .val (.int f5), .val (.int f6), .val (.int (Int32.ofNat d)), .val (.ref b1), .val (.long (0 : Int64)), .second, .unset, .unset, .unset, .unset, .unset] [(.ref b1)])) rfl (hb hby at_60) (by decide) (by decide)
        obtain ⟨b26, g26⟩ : ∃ z, z = T2.heap.size := ⟨_, rfl⟩
        rw [← g26] at A26 D26 st26
        refine own_step st26 ?_
        have ne_b1_b26 : b1 ≠ b26 := Nat.ne_of_lt (Nat.lt_of_lt_of_le A1_2.lt (Nat.le_of_eq g26.symm))
        have ne_bf2_b26 : bf2 ≠ b26 := Nat.ne_of_lt (Nat.lt_of_lt_of_le Vb2.lt (Nat.le_of_eq g26.symm))
        have g_b26 : n0 ≤ b26 := Nat.le_trans Z_2 (Nat.le_of_eq g26.symm)
        have sz_b26 : h0.size ≤ b26 := Nat.le_trans K_2.1 (Nat.le_of_eq g26.symm)
        have A1_26 := A1_2.ext E26
        have Fb2_26 := Fb2.ext E26
        have Fz2_26 := Fz2.ext E26
        have Fp2_26 := Fp2.ext E26
        have Fm2_26 := Fm2.ext E26
        have Fq2_26 := Fq2.ext E26
        have Vb2_26 := Vb2.ext E26
        have K_26 : Keep h0 h26 [] := K_2.ext E26
        have Z_26 : n0 ≤ h26.size := Nat.le_trans Z_2 E26.1
        have F_timestamp_b26 : Fld Z h26 b26 "com/example/ketchup/ketchup/negentropy/Bound" "timestamp" "J" (.long (0 : Int64)) := D26 (Or.inr (hw _ (List.mem_of_getElem? (i := 53) rfl))) (ty := .long) (by decide)
        have F_prefix_b26 : Fld Z h26 b26 "com/example/ketchup/ketchup/negentropy/Bound" "prefix" "[B" .null := D26 (Or.inr (hw _ (List.mem_of_getElem? (i := 55) rfl))) (ty := (.array .byte)) (by decide)
        show own_Ends p.tables e below _ (T26.setTop (mkF m 63 #[.val (.long q0), .second, .val (.long q1), .second, .val (.int p2), .val (.int f5), .val (.int f6), .val (.int (Int32.ofNat d)), .val (.ref b1), .val (.long (0 : Int64)), .second, .unset, .unset, .unset, .unset, .unset] [(.ref b26), (.ref b1)]))
        refine own_step (fun _ k => XS.dup X26.here hx rfl (hb hby at_63) rfl rfl k) ?_
        show own_Ends p.tables e below _ (T26.setTop (mkF m 64 #[.val (.long q0), .second, .val (.long q1), .second, .val (.int p2), .val (.int f5), .val (.int f6), .val (.int (Int32.ofNat d)), .val (.ref b1), .val (.long (0 : Int64)), .second, .unset, .unset, .unset, .unset, .unset] [(.ref b26), (.ref b26), (.ref b1)]))
        refine own_step (fun _ k => XS.lloadN X26.here hx rfl (hb hby at_64) rfl k) ?_
        show own_Ends p.tables e below _ (T26.setTop (mkF m 65 #[.val (.long q0), .second, .val (.long q1), .second, .val (.int p2), .val (.int f5), .val (.int f6), .val (.int (Int32.ofNat d)), .val (.ref b1), .val (.long (0 : Int64)), .second, .unset, .unset, .unset, .unset, .unset] [(.long q0), (.ref b26), (.ref b26), (.ref b1)]))
        refine own_step (fun _ k => XS.iconst X26.here hx rfl (hb hby at_65) k) ?_
        show own_Ends p.tables e below _ (T26.setTop (mkF m 66 #[.val (.long q0), .second, .val (.long q1), .second, .val (.int p2), .val (.int f5), .val (.int f6), .val (.int (Int32.ofNat d)), .val (.ref b1), .val (.long (0 : Int64)), .second, .unset, .unset, .unset, .unset, .unset] [(.int (0 : Int32)), (.long q0), (.ref b26), (.ref b26), (.ref b1)]))
        obtain ⟨T27, h27, k27, X27, e27, E27, A27, st27⟩ := newP X26 hx hZ (hw _ (List.mem_of_getElem? (i := 10) rfl)) e26 (g := (mkF m 66 #[.val (.long q0), .second, .val (.long q1), .second, .val (.int p2), .val (.int f5), .val (.int f6), .val (.int (Int32.ofNat d)), .val (.ref b1), .val (.long (0 : Int64)), .second, .unset, .unset, .unset, .unset, .unset] [(.int (0 : Int32)), (.long q0), (.ref b26), (.ref b26), (.ref b1)])) rfl (hb hby at_66) rfl (by decide) (cap := 0) (by decide) (by decide) (by decide) (by decide)
        obtain ⟨b27, g27⟩ : ∃ z, z = h26.size := ⟨_, rfl⟩
        rw [← g27] at A27 st27
        refine own_step st27 ?_
        have ne_b1_b27 : b1 ≠ b27 := Nat.ne_of_lt (Nat.lt_of_lt_of_le A1_26.lt (Nat.le_of_eq g27.symm))
        have ne_bf2_b27 : bf2 ≠ b27 := Nat.ne_of_lt (Nat.lt_of_lt_of_le Vb2_26.lt (Nat.le_of_eq g27.symm))
        have ne_b26_b27 : b26 ≠ b27 := Nat.ne_of_lt (Nat.lt_of_lt_of_le A26.lt (Nat.le_of_eq g27.symm))
        have g_b27 : n0 ≤ b27 := Nat.le_trans Z_26 (Nat.le_of_eq g27.symm)
        have sz_b27 : h0.size ≤ b27 := Nat.le_trans K_26.1 (Nat.le_of_eq g27.symm)
        have A1_27 := A1_26.ext E27
        have Fb2_27 := Fb2_26.ext E27
        have Fz2_27 := Fz2_26.ext E27
        have Fp2_27 := Fp2_26.ext E27
        have Fm2_27 := Fm2_26.ext E27
        have Fq2_27 := Fq2_26.ext E27
        have Vb2_27 := Vb2_26.ext E27
        have A26_27 := A26.ext E27
        have F_timestamp_b26_27 := F_timestamp_b26.ext E27
        have F_prefix_b26_27 := F_prefix_b26.ext E27
        have K_27 : Keep h0 h27 [] := K_26.ext E27
        have Z_27 : n0 ≤ h27.size := Nat.le_trans Z_26 E27.1
        have V_b27 : Arv Z h27 b27 k27 .byte (0 : Int32) (List.replicate 0 (.int (0 : Int32))) (.int (0 : Int32)) := (Arv.new A27 (by decide)).pad (pad_rep [] (.int (0 : Int32)) 0)
        show own_Ends p.tables e below _ (T27.setTop (mkF m 68 #[.val (.long q0), .second, .val (.long q1), .second, .val (.int p2), .val (.int f5), .val (.int f6), .val (.int (Int32.ofNat d)), .val (.ref b1), .val (.long (0 : Int64)), .second, .unset, .unset, .unset, .unset, .unset] [(.ref b27), (.long q0), (.ref b26), (.ref b26), (.ref b1)]))
        obtain ⟨_, _, ⟨T28, L28, k28, n28⟩, -, X28, ⟨Lc28, hQ28, l28, y28, z28⟩, st28⟩ := X27.specialBack hx (y := (⟨"com/example/ketchup/ketchup/negentropy/Bound", "<init>", "(J[B)V"⟩ : MethodName)) rfl hown (mvT hZ (hw _ (List.mem_of_getElem? (i := 48) rfl))) (mvT hZ (hw _ (List.mem_of_getElem? (i := 49) rfl))) (mvT hZ (hw _ (List.mem_of_getElem? (i := 50) rfl))) (by decide) (backOf (W := 2) (own_rm_binit l Z aw hw [] b26 q0 b27 k27 0 (List.replicate 0 (.int (0 : Int32))) h27 n0 Z_27 A26_27 F_timestamp_b26_27 F_prefix_b26_27 g_b26 V_b27 ne_b26_b27 (by omega)) hZ (hw _ (List.mem_of_getElem? (i := 50) rfl)) (hw _ (List.mem_of_getElem? (i := 47) rfl)) (by decide) (by decide)) (g := (mkF m 68 #[.val (.long q0), .second, .val (.long q1), .second, .val (.int p2), .val (.int f5), .val (.int f6), .val (.int (Int32.ofNat d)), .val (.ref b1), .val (.long (0 : Int64)), .second, .unset, .unset, .unset, .unset, .unset] [(.ref b27), (.long q0), (.ref b26), (.ref b26), (.ref b1)])) rfl (by rw [hml]; rfl) (Steps.refl _) (a := b26) (argsL := [(.long q0), (.ref b27)]) (rest := [(.ref b26), (.ref b1)]) (lenOf own_pd8 rfl) rfl (by show 2 * 0 + _ ≤ _; exact Nat.le_of_eq rfl) (hb hby at_68) (fun _ _ => ⟨rfl, e27, (by decide : 5 + 0 ≤ _), (by decide : 264 + 0 ≤ _)⟩)
        dsimp only [Pt.U, Pt.locs, Pt.cells, Pt.slots] at X28 l28 y28 z28 st28 hQ28
        subst l28 y28 z28
        obtain ⟨rfl, N28q, k28, Ft28, Fx28⟩ := hQ28
        have N_28 := Fr.app N_2 N28q
        have A1_28 := A1_27.keep k28
        have Fb2_28 := Fb2_27.keep k28 (ninS ne_b1_b26 nin0)
        have Fz2_28 := Fz2_27.keep k28 (ninS ne_b1_b26 nin0)
        have Fp2_28 := Fp2_27.keep k28 (ninS ne_b1_b26 nin0)
        have Fm2_28 := Fm2_27.keep k28 (ninS ne_b1_b26 nin0)
        have Fq2_28 := Fq2_27.keep k28 (ninS ne_b1_b26 nin0)
        have Vb2_28 := Vb2_27.keep k28 (ninS ne_bf2_b26 nin0)
        have A26_28 := A26_27.keep k28
        have V_b27_28 := V_b27.keep k28 (ninS (Ne.symm ne_b26_b27) nin0)
        have K_28 : Keep h0 T28.heap [] := K_27.trans k28 (allS (Or.inr sz_b26) all0)
        have Z_28 : n0 ≤ T28.heap.size := Nat.le_trans Z_27 k28.1
        refine own_step (fun _ k => st28.trans k) ?_
        show own_Ends p.tables e below _ (T28.setTop (mkF m 71 #[.val (.long q0), .second, .val (.long q1), .second, .val (.int p2), .val (.int f5), .val (.int f6), .val (.int (Int32.ofNat d)), .val (.ref b1), .val (.long (0 : Int64)), .second, .unset, .unset, .unset, .unset, .unset] [(.ref b26), (.ref b1)]))
        obtain ⟨cq29, kq29, q29a, q29b, q29c⟩ := isOf hZ rfl A1_28
        obtain ⟨_, _, ⟨T29, L29, k29, n29⟩, -, X29, ⟨Lc29, hQ29, l29, y29, z29⟩, st29⟩ := X28.virtualBack hx (y := (⟨"com/example/ketchup/ketchup/negentropy/MessageWriter", "writeBound", "(Lcom/example/ketchup/ketchup/negentropy/Bound;)V"⟩ : MethodName)) (z := (⟨"com/example/ketchup/ketchup/negentropy/MessageWriter", "writeBound", "(Lcom/example/ketchup/ketchup/negentropy/Bound;)V"⟩ : MethodName)) hown (mvT hZ (hw _ (List.mem_of_getElem? (i := 56) rfl))) (mvT hZ (hw _ (List.mem_of_getElem? (i := 57) rfl))) (notFace_of_selects (args := #[]) (mvT hZ (hw _ (List.mem_of_getElem? (i := 59) rfl)))) (mvT hZ (hw _ (List.mem_of_getElem? (i := 59) rfl))) (mvT hZ (hw _ (List.mem_of_getElem? (i := 58) rfl))) (by decide) (backOf (W := 0) (own_rm_writeBound l Z aw hw [] b1 b26 bf2 kb2 vs2 1 (0 : Int64) (Int32.ofNat 1) (0 : Int64) q0 b27 k27 0 (List.replicate 0 (.int (0 : Int32))) T28.heap n0 Z_28 A1_28 Fb2_28 Fz2_28 Fp2_28 Fm2_28 Fq2_28 Vb2_28 hvs2 new2 g_b1 ge2 A26_28 Ft28 Fx28 V_b27_28 ne_b1_b26 ne_bf2_b26 ne_b1_b27 ne_bf2_b27 ne_b26_b27 (by omega) (by omega)) hZ (hw _ (List.mem_of_getElem? (i := 60) rfl)) (hw _ (List.mem_of_getElem? (i := 3) rfl)) (by decide) (by decide)) q29a q29c (g := (mkF m 71 #[.val (.long q0), .second, .val (.long q1), .second, .val (.int p2), .val (.int f5), .val (.int f6), .val (.int (Int32.ofNat d)), .val (.ref b1), .val (.long (0 : Int64)), .second, .unset, .unset, .unset, .unset, .unset] [(.ref b26), (.ref b1)])) rfl (by rw [hml]; rfl) (Steps.refl _) (argsL := [(.ref b26)]) (rest := []) (lenOf own_pd9 rfl) rfl (by show 2 * 0 + _ ≤ _; exact Nat.le_of_eq rfl) (hb hby at_71) (fun _ _ => ⟨rfl, rfl, (by decide : 5 + 4 ≤ _), (by decide : 264 + 40 ≤ _)⟩)
        dsimp only [Pt.U, Pt.locs, Pt.cells, Pt.slots] at X29 l29 y29 z29 st29 hQ29
        subst l29 y29 z29
        obtain ⟨rfl, N29q, k29, n129, vs29, hl129, hu129, Fb29, Fz29, Fp29, Fm29, Fq29, Vb29, hvs29, hlo29, hsm29⟩ := hQ29
        have N_29 := Fr.app N_28 N29q
        have A1_29 := A1_28.keep k29
        have A26_29 := A26_28.keep k29
        have V_b27_29 := V_b27_28.keep k29 (ninS (Ne.symm ne_b1_b27) (ninS (Ne.symm ne_bf2_b27) nin0))
        have Ft28_29 := Ft28.keep k29 (ninS (Ne.symm ne_b1_b26) (ninS (Ne.symm ne_bf2_b26) nin0))
        have Fx28_29 := Fx28.keep k29 (ninS (Ne.symm ne_b1_b26) (ninS (Ne.symm ne_bf2_b26) nin0))
        have K_29 : Keep h0 T29.heap [] := K_28.trans k29 (allS (Or.inr sz_b1) (allS (Or.inr sz_bf2) all0))
        have Z_29 : n0 ≤ T29.heap.size := Nat.le_trans Z_28 k29.1
        refine own_step (fun _ k => st29.trans k) ?_
        show own_Ends p.tables e below _ (T29.setTop (mkF m 74 #[.val (.long q0), .second, .val (.long q1), .second, .val (.int p2), .val (.int f5), .val (.int f6), .val (.int (Int32.ofNat d)), .val (.ref b1), .val (.long (0 : Int64)), .second, .unset, .unset, .unset, .unset, .unset] []))
        refine own_step (fun _ k => XS.lloadN X29.here hx rfl (hb hby at_74) rfl k) ?_
        show own_Ends p.tables e below _ (T29.setTop (mkF m 75 #[.val (.long q0), .second, .val (.long q1), .second, .val (.int p2), .val (.int f5), .val (.int f6), .val (.int (Int32.ofNat d)), .val (.ref b1), .val (.long (0 : Int64)), .second, .unset, .unset, .unset, .unset, .unset] [(.long q0)]))
        refine own_step (fun _ k => XS.lstore X29.here hx rfl (hb hby at_75) rfl (l' := #[.val (.long q0), .second, .val (.long q1), .second, .val (.int p2), .val (.int f5), .val (.int f6), .val (.int (Int32.ofNat d)), .val (.ref b1), .val (.long q0), .second, .unset, .unset, .unset, .unset, .unset]) rfl k) ?_
        show own_Ends p.tables e below _ (T29.setTop (mkF m 77 #[.val (.long q0), .second, .val (.long q1), .second, .val (.int p2), .val (.int f5), .val (.int f6), .val (.int (Int32.ofNat d)), .val (.ref b1), .val (.long q0), .second, .unset, .unset, .unset, .unset, .unset] []))
        exact jn77 _ _ _ vs29 (1 + n129 + 1 + 0) q0 (Int32.ofNat 1) (0 : Int64) X29 rfl N_29 K_29 Z_29 Fb29 Fz29 Fp29 Fm29 Fq29 A1_29 Vb29 hvs29 ((hlo29 0 (by omega)).trans hz2) (by omega) (by omega)
    show own_Ends p.tables e below _ (s₁.setTop (mkF m 18 #[.val (.long q0), .second, .val (.long q1), .second, .val (.int p2), .val (.int f5), .unset, .unset, .unset, .unset, .unset, .unset, .unset, .unset, .unset, .unset] [(.int (p2 &&& (2 : Int32)))]))
    by_cases hc18 : (p2 &&& (2 : Int32)) = (0 : Int32)
    · refine own_step (fun _ k => XS.ifYes X0.here hx rfl (pc0 := 18) (pc' := 25) rfl (hb hby at_18) rfl ((if0 _ _).trans (teq hc18).1) (by decide) (by decide) k) ?_
      show own_Ends p.tables e below _ (s₁.setTop (mkF m 25 #[.val (.long q0), .second, .val (.long q1), .second, .val (.int p2), .val (.int f5), .unset, .unset, .unset, .unset, .unset, .unset, .unset, .unset, .unset, .unset] []))
      refine own_step (fun _ k => XS.iconst X0.here hx rfl (hb hby at_25) k) ?_
      show own_Ends p.tables e below _ (s₁.setTop (mkF m 26 #[.val (.long q0), .second, .val (.long q1), .second, .val (.int p2), .val (.int f5), .unset, .unset, .unset, .unset, .unset, .unset, .unset, .unset, .unset, .unset] [(.int (0 : Int32))]))
      refine own_step (fun _ k => XS.istore X0.here hx rfl (hb hby at_26) rfl (l' := #[.val (.long q0), .second, .val (.long q1), .second, .val (.int p2), .val (.int f5), .val (.int (0 : Int32)), .unset, .unset, .unset, .unset, .unset, .unset, .unset, .unset, .unset]) rfl k) ?_
      show own_Ends p.tables e below _ (s₁.setTop (mkF m 28 #[.val (.long q0), .second, .val (.long q1), .second, .val (.int p2), .val (.int f5), .val (.int (0 : Int32)), .unset, .unset, .unset, .unset, .unset, .unset, .unset, .unset, .unset] []))
      exact jn28 (0 : Int32) 
    · refine own_step (fun _ k => XS.ifNo X0.here hx rfl (hb hby at_18) rfl ((if0 _ _).trans (feq hc18).1) k) ?_
      show own_Ends p.tables e below _ (s₁.setTop (mkF m 21 #[.val (.long q0), .second, .val (.long q1), .second, .val (.int p2), .val (.int f5), .unset, .unset, .unset, .unset, .unset, .unset, .unset, .unset, .unset, .unset] []))
      refine own_step (fun _ k => XS.iconst X0.here hx rfl (hb hby at_21) k) ?_
      show own_Ends p.tables e below _ (s₁.setTop (mkF m 22 #[.val (.long q0), .second, .val (.long q1), .second, .val (.int p2), .val (.int f5), .unset, .unset, .unset, .unset, .unset, .unset, .unset, .unset, .unset, .unset] [(.int (1 : Int32))]))
      refine own_step (fun _ k => XS.goto X0.here hx rfl (pc0 := 22) (pc' := 26) rfl (hb hby at_22) (by decide) (by decide) k) ?_
      show own_Ends p.tables e below _ (s₁.setTop (mkF m 26 #[.val (.long q0), .second, .val (.long q1), .second, .val (.int p2), .val (.int f5), .unset, .unset, .unset, .unset, .unset, .unset, .unset, .unset, .unset, .unset] [(.int (1 : Int32))]))
      refine own_step (fun _ k => XS.istore X0.here hx rfl (hb hby at_26) rfl (l' := #[.val (.long q0), .second, .val (.long q1), .second, .val (.int p2), .val (.int f5), .val (.int (1 : Int32)), .unset, .unset, .unset, .unset, .unset, .unset, .unset, .unset, .unset]) rfl k) ?_
      show own_Ends p.tables e below _ (s₁.setTop (mkF m 28 #[.val (.long q0), .second, .val (.long q1), .second, .val (.int p2), .val (.int f5), .val (.int (1 : Int32)), .unset, .unset, .unset, .unset, .unset, .unset, .unset, .unset, .unset] []))
      exact jn28 (1 : Int32) 
  show own_Ends p.tables e below _ (s₁.setTop (mkF m 4 #[.val (.long q0), .second, .val (.long q1), .second, .val (.int p2), .unset, .unset, .unset, .unset, .unset, .unset, .unset, .unset, .unset, .unset, .unset] [(.int (p2 &&& (1 : Int32)))]))
  by_cases hc4 : (p2 &&& (1 : Int32)) = (0 : Int32)
  · refine own_step (fun _ k => XS.ifYes X0.here hx rfl (pc0 := 4) (pc' := 11) rfl (hb hby at_4) rfl ((if0 _ _).trans (teq hc4).1) (by decide) (by decide) k) ?_
    show own_Ends p.tables e below _ (s₁.setTop (mkF m 11 #[.val (.long q0), .second, .val (.long q1), .second, .val (.int p2), .unset, .unset, .unset, .unset, .unset, .unset, .unset, .unset, .unset, .unset, .unset] []))
    refine own_step (fun _ k => XS.iconst X0.here hx rfl (hb hby at_11) k) ?_
    show own_Ends p.tables e below _ (s₁.setTop (mkF m 12 #[.val (.long q0), .second, .val (.long q1), .second, .val (.int p2), .unset, .unset, .unset, .unset, .unset, .unset, .unset, .unset, .unset, .unset, .unset] [(.int (0 : Int32))]))
    refine own_step (fun _ k => XS.istore X0.here hx rfl (hb hby at_12) rfl (l' := #[.val (.long q0), .second, .val (.long q1), .second, .val (.int p2), .val (.int (0 : Int32)), .unset, .unset, .unset, .unset, .unset, .unset, .unset, .unset, .unset, .unset]) rfl k) ?_
    show own_Ends p.tables e below _ (s₁.setTop (mkF m 14 #[.val (.long q0), .second, .val (.long q1), .second, .val (.int p2), .val (.int (0 : Int32)), .unset, .unset, .unset, .unset, .unset, .unset, .unset, .unset, .unset, .unset] []))
    exact jn14 (0 : Int32) 
  · refine own_step (fun _ k => XS.ifNo X0.here hx rfl (hb hby at_4) rfl ((if0 _ _).trans (feq hc4).1) k) ?_
    show own_Ends p.tables e below _ (s₁.setTop (mkF m 7 #[.val (.long q0), .second, .val (.long q1), .second, .val (.int p2), .unset, .unset, .unset, .unset, .unset, .unset, .unset, .unset, .unset, .unset, .unset] []))
    refine own_step (fun _ k => XS.iconst X0.here hx rfl (hb hby at_7) k) ?_
    show own_Ends p.tables e below _ (s₁.setTop (mkF m 8 #[.val (.long q0), .second, .val (.long q1), .second, .val (.int p2), .unset, .unset, .unset, .unset, .unset, .unset, .unset, .unset, .unset, .unset, .unset] [(.int (1 : Int32))]))
    refine own_step (fun _ k => XS.goto X0.here hx rfl (pc0 := 8) (pc' := 12) rfl (hb hby at_8) (by decide) (by decide) k) ?_
    show own_Ends p.tables e below _ (s₁.setTop (mkF m 12 #[.val (.long q0), .second, .val (.long q1), .second, .val (.int p2), .unset, .unset, .unset, .unset, .unset, .unset, .unset, .unset, .unset, .unset, .unset] [(.int (1 : Int32))]))
    refine own_step (fun _ k => XS.istore X0.here hx rfl (hb hby at_12) rfl (l' := #[.val (.long q0), .second, .val (.long q1), .second, .val (.int p2), .val (.int (1 : Int32)), .unset, .unset, .unset, .unset, .unset, .unset, .unset, .unset, .unset, .unset]) rfl k) ?_
    show own_Ends p.tables e below _ (s₁.setTop (mkF m 14 #[.val (.long q0), .second, .val (.long q1), .second, .val (.int p2), .val (.int (1 : Int32)), .unset, .unset, .unset, .unset, .unset, .unset, .unset, .unset, .unset, .unset] []))
    exact jn14 (1 : Int32) 
set_option maxRecDepth 65536 in
set_option maxHeartbeats 40000000 in
theorem own_comes_1 {Post : Tables → Env → Array Value → State → Outcome → State → Prop} (hpost : ∀ tb e args s v u, (limb_1_1.after args s (.returned v) u = true ∧ limb_1_2.after args s (.returned v) u = true ∧ True) → FrameEnd s (.returned v) u (Jvm.fieldLocs frame_1_writes args s ++ Jvm.arrayLocs frame_1_arrays args s ++ Jvm.staticLocs frame_1_statics s) 56 832 → Post tb e args s (.returned v) u) :
    ArmFor flags0 classFile x code maxLocals ret World_1 tables_1 room_1 Calls_1 rest_1 Pre_1 Post := by
  intro l hfl _ _ p e ha hc hk s m args below hf hA hF happ hP
  obtain ⟨hcalls, hrest, hpre⟩ := hP
  obtain ⟨-, -, -, hnamed, -, -, -, hat⟩ := (Spec.applies_iff hf).mp happ
  obtain ⟨hg, hn⟩ := and_e (Cond.before_iff.mp (show (Jvm.Cond.and given_1 narrow_1).before args s = true from hpre))
  obtain ⟨g0, r0⟩ := and_e hg
  obtain ⟨g1, r1⟩ := and_e r0
  obtain ⟨g2, r2⟩ := and_e r1
  obtain ⟨w0, w1, w2, rfl⟩ : ∃ w0 w1 w2 : Value, args = #[w0, w1, w2] := by
    have hs : args.size = 3 := by simpa [Cond.value, given_1] using g0
    obtain ⟨L⟩ := args
    match L, hs with
    | [w0, w1, w2], _ => exact ⟨w0, w1, w2, rfl⟩
  have hw := fun d (hd : d ∈ tables_1) => atoms_spec (ws := Jvm.Cond.code x code maxLocals ret :: tables_1) hat d (List.mem_cons_of_mem _ hd)
  have hfit : Fit s := fun {y c} hc i hi => by
    obtain ⟨ha, rfl⟩ := Array.getElem?_eq_some_iff.mp hc
    have q := List.all_eq_true.mp ((Array.all_eq_true_iff_forall_mem.mp hF) _ (Array.getElem_mem ha)) i (List.mem_range.mpr hi)
    simpa [Array.getElem?_eq_getElem hi] using q
  obtain ⟨i0, ei0⟩ := isL_v g1
  obtain rfl : w0 = (.long i0) := Option.some.inj ei0
  obtain ⟨i1, ei1⟩ := isL_v g2
  obtain rfl : w1 = (.long i1) := Option.some.inj ei1
  obtain ⟨i2, ei2⟩ := is_v r2
  obtain rfl : w2 = (.int i2) := Option.some.inj ei2
  obtain ⟨n, o, h1, h2, h3, _, L, rfl, ⟨rfl, N⟩, hq⟩ := own_rm_law l s _ hw tables_1 i0 i1 i2  s.heap s.heap.size (Nat.le_refl _)  p e ha hc hk s m _ below hf ((Spec.applies_iff_loose hf).mp happ).1 ⟨rfl, State.Warmed39.refl s, rfl⟩ trivial
  refine ⟨n, _, h1, h2, h3, hpost _ _ _ _ _ _ ⟨Cond.after_iff.mpr rfl, Cond.after_iff.mpr (eq_i res_at (Term.int_eval (1)) rfl), trivial⟩ ⟨hq.1, hq.2.1, (hq.2.2.sift fun y hy => Or.inr (N y hy)).mono (by decide) (by decide)⟩⟩
theorem main_1_1 : Claimed_1_1 := own_comes_1 fun _ _ _ _ _ _ h hF => ⟨h.1, hF⟩
theorem main_1_2 : Claimed_1_2 := own_comes_1 fun _ _ _ _ _ _ h hF => ⟨h.2.1, hF⟩
end Jvm.Pilot.@@N@@
namespace Jvm.Pilot.@@N@@
open Jvm Jvm.ClassFile Sem Op Lib Jvm.Free Jvm.Stand Jvm.Pilot.@@N@@.Jvm.D
/-! MADE BY PROGRAM (witnessworld.py) out of the Statement's table words and the real class files: 14 classes; the members and pool entries that the words name. The judged class is class 1, her method 1. -/
namespace start1
open Jvm.ClassFile
def u (s : String) : CpInfo := .utf8 (stringToUtf16 s)
/-- a pool by its gaps: so many unusable entries, then the entry; so many at the end -/
def gap : Nat → List CpInfo → List CpInfo
  | 0, r => r
  | n + 1, r => .unusable :: gap n r
def poolList (es : List (Nat × CpInfo)) (last : Nat) : List CpInfo := es.foldr (fun e r => gap e.1 (e.2 :: r)) (gap last [])
def pool (es : List (Nat × CpInfo)) (last : Nat) : Array CpInfo := ⟨poolList es last⟩
def fileOf (pool : Array CpInfo) (this : Nat) (attrs : Array Attribute := #[]) (ms : Array MethodInfo := #[]) (fl : Nat := 33) (sup : Nat := 0) (ifs : Array Nat := #[]) (fds : Array FieldInfo := #[]) : ClassFile where
  minorVersion := 0
  majorVersion := 65
  constantPool := pool
  accessFlags := fl
  thisClass := this
  superClass := sup
  interfaces := ifs
  fields := fds
  methods := ms
  attributes := attrs
def plain (name : String) (sup : Option ClassId) : Class where
  name := name
  kind := .ordinary
  loader := none
  accessFlags := 33
  super := sup
  interfaces := #[]
  cf := none
  fields := #[]
  methods := #[]
  instanceTypes := #[]
  staticTypes := #[]
  resolved := #[]
  callSites := []
  init := .initialized
  statics := none
  mirror := none

def pool0 : Array CpInfo := pool [(5, u "<init>"), (0, u "()V"), (1, .class_ 10), (1, u "java/lang/Object")] 113

def k0c0 : Code := { maxStack := 0, maxLocals := 1, code := object_method_1_code, exceptionTable := #[], attributes := #[] }
def k0m0 : Method := { name := "<init>", desc := "()V", sig := { parameters := [], returnType := none }, accessFlags := 1, code := some k0c0 }
/-- java/lang/Object -/
def k0 : Class := { plain "java/lang/Object" none with
  accessFlags := 33
  interfaces := #[]
  cf := some (fileOf pool0 8 #[] #[{ accessFlags := 1, nameIndex := 5, descriptorIndex := 6, attributes := #[] }] 33 0 #[] #[])
  fields := #[]
  methods := #[k0m0]
  instanceTypes := #[]
  staticTypes := #[]
  resolved := Array.replicate 124 none
  statics := none }

def pool1 : Array CpInfo := pool [(2, .class_ 4), (0, .nameAndType 5 6), (0, u "java/lang/Object"), (0, u "<init>"), (0, u "()V"), (0, .integer 65535), (0, .class_ 9), (0, u "com/example/ketchup/ketchup/negentropy/MessageWriter"), (0, .methodref 8 3), (0, .class_ 12), (0, u "com/example/ketchup/ketchup/negentropy/Bound"), (0, .methodref 11 14), (0, .nameAndType 5 15), (0, u "(J[B)V"), (0, .methodref 8 17), (0, .nameAndType 18 19), (0, u "writeBound"), (0, u "(Lcom/example/ketchup/ketchup/negentropy/Bound;)V"), (0, .methodref 8 21), (0, .nameAndType 22 6), (0, u "mark"), (0, .methodref 8 24), (0, .nameAndType 25 26), (0, u "size"), (0, u "()I"), (0, .methodref 8 28), (0, .nameAndType 29 6), (0, u "reset"), (0, .methodref 8 31), (0, .nameAndType 32 33), (0, u "toByteArray"), (0, u "()[B"), (0, .long 18446744073709551615), (1, .class_ 37), (0, u "com/example/ketchup/ketchup/negentropy/MessageWriterResetPinLaw"), (2, u "law"), (0, u "(JJI)Z")] 5

def k1m0 : Method := { name := "<init>", desc := "()V", sig := { parameters := [], returnType := none }, accessFlags := 1, code := none }
def k1c1 : Code := { maxStack := 10, maxLocals := 16, code := code, exceptionTable := #[], attributes := #[] }
def k1m1 : Method := { name := "law", desc := "(JJI)Z", sig := { parameters := [.long, .long, .int], returnType := some .boolean }, accessFlags := 9, code := some k1c1 }
/-- com/example/ketchup/ketchup/negentropy/MessageWriterResetPinLaw -/
def k1 : Class := { plain "com/example/ketchup/ketchup/negentropy/MessageWriterResetPinLaw" (some 0) with
  accessFlags := 49
  interfaces := #[]
  cf := some (fileOf pool1 36 #[] #[{ accessFlags := 1, nameIndex := 5, descriptorIndex := 6, attributes := #[] }, { accessFlags := 9, nameIndex := 40, descriptorIndex := 41, attributes := #[] }] 49 2 #[] #[])
  fields := #[]
  methods := #[k1m0, k1m1]
  instanceTypes := #[]
  staticTypes := #[]
  resolved := Array.replicate 47 none
  statics := none }

def pool2 : Array CpInfo := pool [(1, .methodref 2 3), (0, .class_ 4), (0, .nameAndType 5 6), (0, u "java/lang/Object"), (0, u "<init>"), (0, u "()V"), (0, .fieldref 8 9), (0, .class_ 10), (0, .nameAndType 11 12), (0, u "com/example/ketchup/ketchup/negentropy/MessageWriter"), (0, u "buffer"), (0, u "[B"), (0, .methodref 8 14), (0, .nameAndType 15 16), (0, u "write"), (0, u "([B)V"), (0, .methodref 8 18), (0, .nameAndType 19 6), (0, u "mark"), (0, .fieldref 8 21), (0, .nameAndType 22 23), (0, u "size"), (0, u "I"), (0, .fieldref 8 25), (0, .nameAndType 26 23), (0, u "markedSize"), (0, .fieldref 8 28), (0, .nameAndType 29 30), (0, u "previousTimestamp"), (0, u "J"), (0, .fieldref 8 32), (0, .nameAndType 33 30), (0, u "markedPreviousTimestamp"), (0, .methodref 35 36), (0, .class_ 37), (0, .nameAndType 38 39), (0, u "com/example/ketchup/ketchup/negentropy/Bound"), (0, u "timestamp"), (0, u "()J"), (0, .long 18446744073709551615), (1, .methodref 43 44), (0, .class_ 45), (0, .nameAndType 46 47), (0, u "com/example/ketchup/ketchup/negentropy/Varint"), (0, u "encode"), (0, u "(J)[B"), (0, .methodref 35 49), (0, .nameAndType 50 51), (0, u "prefix"), (0, u "()[B"), (5, u "()I"), (5, .methodref 64 65), (0, .class_ 66), (0, .nameAndType 67 68), (0, u "java/util/Arrays"), (0, u "copyOf"), (0, u "([BI)[B"), (6, .methodref 76 77), (0, .class_ 78), (0, .nameAndType 79 80), (0, u "java/lang/System"), (0, u "arraycopy"), (0, u "(Ljava/lang/Object;ILjava/lang/Object;II)V"), (0, u "VERSION"), (0, u "B"), (4, u "reset"), (0, u "writeBound"), (0, u "(Lcom/example/ketchup/ketchup/negentropy/Bound;)V"), (8, u "toByteArray")] 2

def k2c0 : Code := { maxStack := 5, maxLocals := 1, code := prog_18_method_1_code, exceptionTable := #[], attributes := #[] }
def k2m0 : Method := { name := "<init>", desc := "()V", sig := { parameters := [], returnType := none }, accessFlags := 0, code := some k2c0 }
def k2c1 : Code := { maxStack := 1, maxLocals := 1, code := prog_18_method_2_code, exceptionTable := #[], attributes := #[] }
def k2m1 : Method := { name := "size", desc := "()I", sig := { parameters := [], returnType := some .int }, accessFlags := 0, code := some k2c1 }
def k2c2 : Code := { maxStack := 3, maxLocals := 1, code := prog_18_method_3_code, exceptionTable := #[], attributes := #[] }
def k2m2 : Method := { name := "mark", desc := "()V", sig := { parameters := [], returnType := none }, accessFlags := 0, code := some k2c2 }
def k2c3 : Code := { maxStack := 3, maxLocals := 1, code := prog_18_method_4_code, exceptionTable := #[], attributes := #[] }
def k2m3 : Method := { name := "reset", desc := "()V", sig := { parameters := [], returnType := none }, accessFlags := 0, code := some k2c3 }
def k2c4 : Code := { maxStack := 5, maxLocals := 5, code := prog_18_method_5_code, exceptionTable := #[], attributes := #[] }
def k2m4 : Method := { name := "writeBound", desc := "(Lcom/example/ketchup/ketchup/negentropy/Bound;)V", sig := { parameters := [(.object "com/example/ketchup/ketchup/negentropy/Bound")], returnType := none }, accessFlags := 0, code := some k2c4 }
def k2c5 : Code := { maxStack := 2, maxLocals := 1, code := prog_18_method_10_code, exceptionTable := #[], attributes := #[] }
def k2m5 : Method := { name := "toByteArray", desc := "()[B", sig := { parameters := [], returnType := some (.array .byte) }, accessFlags := 0, code := some k2c5 }
def k2c6 : Code := { maxStack := 5, maxLocals := 2, code := prog_18_method_11_code, exceptionTable := #[], attributes := #[] }
def k2m6 : Method := { name := "write", desc := "([B)V", sig := { parameters := [(.array .byte)], returnType := none }, accessFlags := 2, code := some k2c6 }
/-- com/example/ketchup/ketchup/negentropy/MessageWriter -/
def k2 : Class := { plain "com/example/ketchup/ketchup/negentropy/MessageWriter" (some 0) with
  accessFlags := 48
  interfaces := #[]
  cf := some (fileOf pool2 8 #[] #[{ accessFlags := 0, nameIndex := 5, descriptorIndex := 6, attributes := #[] }, { accessFlags := 0, nameIndex := 22, descriptorIndex := 57, attributes := #[] }, { accessFlags := 0, nameIndex := 19, descriptorIndex := 6, attributes := #[] }, { accessFlags := 0, nameIndex := 87, descriptorIndex := 6, attributes := #[] }, { accessFlags := 0, nameIndex := 88, descriptorIndex := 89, attributes := #[] }, { accessFlags := 0, nameIndex := 98, descriptorIndex := 51, attributes := #[] }, { accessFlags := 2, nameIndex := 15, descriptorIndex := 16, attributes := #[] }] 48 2 #[] #[{ accessFlags := 24, nameIndex := 81, descriptorIndex := 82, attributes := #[] }, { accessFlags := 2, nameIndex := 11, descriptorIndex := 12, attributes := #[] }, { accessFlags := 2, nameIndex := 22, descriptorIndex := 23, attributes := #[] }, { accessFlags := 2, nameIndex := 29, descriptorIndex := 30, attributes := #[] }, { accessFlags := 2, nameIndex := 26, descriptorIndex := 23, attributes := #[] }, { accessFlags := 2, nameIndex := 33, descriptorIndex := 30, attributes := #[] }])
  fields := #[{ name := "VERSION", type := .byte, accessFlags := 24, slot := 0, constantValue := 0 }, { name := "buffer", type := (.array .byte), accessFlags := 2, slot := 0, constantValue := 0 }, { name := "size", type := .int, accessFlags := 2, slot := 1, constantValue := 0 }, { name := "previousTimestamp", type := .long, accessFlags := 2, slot := 2, constantValue := 0 }, { name := "markedSize", type := .int, accessFlags := 2, slot := 3, constantValue := 0 }, { name := "markedPreviousTimestamp", type := .long, accessFlags := 2, slot := 4, constantValue := 0 }]
  methods := #[k2m0, k2m1, k2m2, k2m3, k2m4, k2m5, k2m6]
  instanceTypes := #[(.array .byte), .int, .long, .int, .long]
  staticTypes := #[.byte]
  resolved := Array.replicate 101 none
  statics := none }

def pool3 : Array CpInfo := pool [(2, .class_ 4), (1, u "java/lang/Object"), (0, u "<init>"), (0, u "()V"), (1, .class_ 10), (1, u "java/lang/System"), (0, u "allowSecurityManager"), (0, u "I"), (16, u "cons"), (0, u "Ljava/io/Console;"), (77, .class_ 110), (1, u "java/lang/System$CallersHolder"), (43, u "initialErrStream"), (0, u "Ljava/io/PrintStream;"), (19, u "security"), (0, u "Ljava/lang/SecurityManager;"), (31, .class_ 209), (0, u "java/lang/System$1"), (7, u "props"), (0, u "Ljava/util/Properties;"), (2, u "lineSeparator"), (0, u "Ljava/lang/String;"), (96, .class_ 321), (1, u "java/lang/System$LoggerFinder"), (5, .class_ 328), (0, u "java/lang/System$Logger"), (67, u "err"), (2, u "out"), (91, u "notSupportedJnuEncoding"), (15, u "in"), (17, u "initialIn"), (0, u "Ljava/io/InputStream;"), (35, u "bootLayer"), (0, u "Ljava/lang/ModuleLayer;"), (99, .class_ 664), (0, u "java/lang/System$2"), (9, u "NEVER"), (2, u "MAYBE"), (49, u "arraycopy"), (0, u "(Ljava/lang/Object;ILjava/lang/Object;II)V"), (72, .class_ 802), (0, u "java/lang/System$Logger$Level")] 31

def k3m0 : Method := { name := "<init>", desc := "()V", sig := { parameters := [], returnType := none }, accessFlags := 2, code := none }
def k3m1 : Method := { name := "arraycopy", desc := "(Ljava/lang/Object;ILjava/lang/Object;II)V", sig := { parameters := [(.object "java/lang/Object"), .int, (.object "java/lang/Object"), .int, .int], returnType := none }, accessFlags := 265, code := none }
/-- java/lang/System -/
def k3 : Class := { plain "java/lang/System" (some 0) with
  accessFlags := 49
  interfaces := #[]
  cf := some (fileOf pool3 8 #[.nestMembers #[319, 327, 801, 108, 663, 208]] #[{ accessFlags := 2, nameIndex := 5, descriptorIndex := 6, attributes := #[] }, { accessFlags := 265, nameIndex := 727, descriptorIndex := 728, attributes := #[] }] 49 2 #[] #[{ accessFlags := 25, nameIndex := 507, descriptorIndex := 526, attributes := #[] }, { accessFlags := 25, nameIndex := 399, descriptorIndex := 155, attributes := #[] }, { accessFlags := 25, nameIndex := 396, descriptorIndex := 155, attributes := #[] }, { accessFlags := 10, nameIndex := 525, descriptorIndex := 526, attributes := #[] }, { accessFlags := 26, nameIndex := 674, descriptorIndex := 12, attributes := #[] }, { accessFlags := 26, nameIndex := 677, descriptorIndex := 12, attributes := #[] }, { accessFlags := 10, nameIndex := 11, descriptorIndex := 12, attributes := #[] }, { accessFlags := 74, nameIndex := 175, descriptorIndex := 176, attributes := #[] }, { accessFlags := 10, nameIndex := 491, descriptorIndex := 222, attributes := #[] }, { accessFlags := 74, nameIndex := 29, descriptorIndex := 30, attributes := #[] }, { accessFlags := 74, nameIndex := 154, descriptorIndex := 155, attributes := #[] }, { accessFlags := 10, nameIndex := 217, descriptorIndex := 218, attributes := #[] }, { accessFlags := 10, nameIndex := 221, descriptorIndex := 222, attributes := #[] }, { accessFlags := 8, nameIndex := 562, descriptorIndex := 563, attributes := #[] }])
  fields := #[{ name := "in", type := (.object "java/io/InputStream"), accessFlags := 25, slot := 0, constantValue := 0 }, { name := "out", type := (.object "java/io/PrintStream"), accessFlags := 25, slot := 1, constantValue := 0 }, { name := "err", type := (.object "java/io/PrintStream"), accessFlags := 25, slot := 2, constantValue := 0 }, { name := "initialIn", type := (.object "java/io/InputStream"), accessFlags := 10, slot := 3, constantValue := 0 }, { name := "NEVER", type := .int, accessFlags := 26, slot := 4, constantValue := 0 }, { name := "MAYBE", type := .int, accessFlags := 26, slot := 5, constantValue := 0 }, { name := "allowSecurityManager", type := .int, accessFlags := 10, slot := 6, constantValue := 0 }, { name := "security", type := (.object "java/lang/SecurityManager"), accessFlags := 74, slot := 7, constantValue := 0 }, { name := "notSupportedJnuEncoding", type := (.object "java/lang/String"), accessFlags := 10, slot := 8, constantValue := 0 }, { name := "cons", type := (.object "java/io/Console"), accessFlags := 74, slot := 9, constantValue := 0 }, { name := "initialErrStream", type := (.object "java/io/PrintStream"), accessFlags := 74, slot := 10, constantValue := 0 }, { name := "props", type := (.object "java/util/Properties"), accessFlags := 10, slot := 11, constantValue := 0 }, { name := "lineSeparator", type := (.object "java/lang/String"), accessFlags := 10, slot := 12, constantValue := 0 }, { name := "bootLayer", type := (.object "java/lang/ModuleLayer"), accessFlags := 8, slot := 13, constantValue := 0 }]
  methods := #[k3m0, k3m1]
  instanceTypes := #[]
  staticTypes := #[(.object "java/io/InputStream"), (.object "java/io/PrintStream"), (.object "java/io/PrintStream"), (.object "java/io/InputStream"), .int, .int, .int, (.object "java/lang/SecurityManager"), (.object "java/lang/String"), (.object "java/io/Console"), (.object "java/io/PrintStream"), (.object "java/util/Properties"), (.object "java/lang/String"), (.object "java/lang/ModuleLayer")]
  resolved := Array.replicate 834 none
  statics := none }

def pool4 : Array CpInfo := pool [(1, .methodref 2 3), (0, .class_ 4), (0, .nameAndType 5 6), (0, u "java/lang/Object"), (0, u "<init>"), (0, u "()V"), (11, .fieldref 19 20), (0, .class_ 21), (0, .nameAndType 22 23), (0, u "com/example/ketchup/ketchup/negentropy/Bound"), (0, u "timestamp"), (0, u "J"), (0, .fieldref 19 25), (0, .nameAndType 26 27), (0, u "prefix"), (0, u "[B"), (23, u "(J[B)V"), (2, u "LOWEST"), (0, u "Lcom/example/ketchup/ketchup/negentropy/Bound;"), (4, u "HIGHEST"), (0, u "INFINITY"), (5, u "()J"), (0, u "()[B")] 20

def k4c0 : Code := { maxStack := 3, maxLocals := 4, code := prog_11_method_1_code, exceptionTable := #[], attributes := #[] }
def k4m0 : Method := { name := "<init>", desc := "(J[B)V", sig := { parameters := [.long, (.array .byte)], returnType := none }, accessFlags := 0, code := some k4c0 }
def k4c1 : Code := { maxStack := 2, maxLocals := 1, code := prog_11_method_2_code, exceptionTable := #[], attributes := #[] }
def k4m1 : Method := { name := "timestamp", desc := "()J", sig := { parameters := [], returnType := some .long }, accessFlags := 0, code := some k4c1 }
def k4c2 : Code := { maxStack := 1, maxLocals := 1, code := prog_11_method_3_code, exceptionTable := #[], attributes := #[] }
def k4m2 : Method := { name := "prefix", desc := "()[B", sig := { parameters := [], returnType := some (.array .byte) }, accessFlags := 0, code := some k4c2 }
/-- com/example/ketchup/ketchup/negentropy/Bound -/
def k4 : Class := { plain "com/example/ketchup/ketchup/negentropy/Bound" (some 0) with
  accessFlags := 48
  interfaces := #[]
  cf := some (fileOf pool4 19 #[] #[{ accessFlags := 0, nameIndex := 5, descriptorIndex := 51, attributes := #[] }, { accessFlags := 0, nameIndex := 22, descriptorIndex := 67, attributes := #[] }, { accessFlags := 0, nameIndex := 26, descriptorIndex := 68, attributes := #[] }] 48 2 #[] #[{ accessFlags := 24, nameIndex := 61, descriptorIndex := 23, attributes := #[] }, { accessFlags := 24, nameIndex := 54, descriptorIndex := 55, attributes := #[] }, { accessFlags := 24, nameIndex := 60, descriptorIndex := 55, attributes := #[] }, { accessFlags := 18, nameIndex := 22, descriptorIndex := 23, attributes := #[] }, { accessFlags := 18, nameIndex := 26, descriptorIndex := 27, attributes := #[] }])
  fields := #[{ name := "INFINITY", type := .long, accessFlags := 24, slot := 0, constantValue := 0 }, { name := "LOWEST", type := (.object "com/example/ketchup/ketchup/negentropy/Bound"), accessFlags := 24, slot := 1, constantValue := 0 }, { name := "HIGHEST", type := (.object "com/example/ketchup/ketchup/negentropy/Bound"), accessFlags := 24, slot := 2, constantValue := 0 }, { name := "timestamp", type := .long, accessFlags := 18, slot := 0, constantValue := 0 }, { name := "prefix", type := (.array .byte), accessFlags := 18, slot := 1, constantValue := 0 }]
  methods := #[k4m0, k4m1, k4m2]
  instanceTypes := #[.long, (.array .byte)]
  staticTypes := #[.long, (.object "com/example/ketchup/ketchup/negentropy/Bound"), (.object "com/example/ketchup/ketchup/negentropy/Bound")]
  resolved := Array.replicate 89 none
  statics := none }

def pool5 : Array CpInfo := pool [(2, .class_ 4), (1, u "java/lang/Object"), (0, u "<init>"), (0, u "()V"), (0, .class_ 8), (0, u "com/example/ketchup/ketchup/negentropy/Varint"), (0, .long 127), (1, .methodref 12 13), (0, .class_ 14), (0, .nameAndType 15 16), (0, u "java/lang/System"), (0, u "arraycopy"), (0, u "(Ljava/lang/Object;ILjava/lang/Object;II)V"), (22, u "MAX_LENGTH"), (0, u "I"), (4, u "encode"), (0, u "(J)[B")] 8

def k5m0 : Method := { name := "<init>", desc := "()V", sig := { parameters := [], returnType := none }, accessFlags := 2, code := none }
def k5c1 : Code := { maxStack := 6, maxLocals := 7, code := prog_32_method_2_code, exceptionTable := #[], attributes := #[] }
def k5m1 : Method := { name := "encode", desc := "(J)[B", sig := { parameters := [.long], returnType := some (.array .byte) }, accessFlags := 8, code := some k5c1 }
/-- com/example/ketchup/ketchup/negentropy/Varint -/
def k5 : Class := { plain "com/example/ketchup/ketchup/negentropy/Varint" (some 0) with
  accessFlags := 48
  interfaces := #[]
  cf := some (fileOf pool5 7 #[] #[{ accessFlags := 2, nameIndex := 5, descriptorIndex := 6, attributes := #[] }, { accessFlags := 8, nameIndex := 45, descriptorIndex := 46, attributes := #[] }] 48 2 #[] #[{ accessFlags := 24, nameIndex := 39, descriptorIndex := 40, attributes := #[] }])
  fields := #[{ name := "MAX_LENGTH", type := .int, accessFlags := 24, slot := 0, constantValue := 0 }]
  methods := #[k5m0, k5m1]
  instanceTypes := #[]
  staticTypes := #[.int]
  resolved := Array.replicate 55 none
  statics := none }

def pool6 : Array CpInfo := pool [(2, .class_ 4), (1, u "java/lang/Object"), (0, u "<init>"), (0, u "()V"), (7, .class_ 16), (1, u "java/util/Arrays"), (57, .class_ 76), (1, u "java/util/Arrays$NaturalOrder"), (36, .class_ 115), (1, u "java/util/Arrays$LegacyMergeSort"), (1, u "Z"), (32, .methodref 151 152), (0, .class_ 153), (0, .nameAndType 154 155), (0, u "java/lang/System"), (0, u "arraycopy"), (0, u "(Ljava/lang/Object;ILjava/lang/Object;II)V"), (146, u "copyOf"), (1, .methodref 305 306), (0, .class_ 307), (0, .nameAndType 308 309), (0, u "java/lang/Math"), (0, u "min"), (0, u "(II)I"), (65, .class_ 376), (0, u "java/util/Arrays$ArrayList"), (68, u "$assertionsDisabled"), (269, u "MIN_ARRAY_SORT_GRAN"), (0, u "I"), (2, u "INSERTIONSORT_THRESHOLD"), (149, u "([BI)[B"), (105, .class_ 976), (0, u "java/util/Arrays$ArrayItr")] 52

def k6m0 : Method := { name := "<init>", desc := "()V", sig := { parameters := [], returnType := none }, accessFlags := 2, code := none }
def k6c1 : Code := { maxStack := 6, maxLocals := 3, code := jdk_65_method_121_code, exceptionTable := #[], attributes := #[] }
def k6m1 : Method := { name := "copyOf", desc := "([BI)[B", sig := { parameters := [(.array .byte), .int], returnType := some (.array .byte) }, accessFlags := 9, code := some k6c1 }
/-- java/util/Arrays -/
def k6 : Class := { plain "java/util/Arrays" (some 0) with
  accessFlags := 49
  interfaces := #[]
  cf := some (fileOf pool6 14 #[.nestMembers #[975, 375, 113, 74]] #[{ accessFlags := 2, nameIndex := 5, descriptorIndex := 6, attributes := #[] }, { accessFlags := 9, nameIndex := 302, descriptorIndex := 869, attributes := #[] }] 49 2 #[] #[{ accessFlags := 26, nameIndex := 715, descriptorIndex := 716, attributes := #[] }, { accessFlags := 26, nameIndex := 719, descriptorIndex := 716, attributes := #[] }, { accessFlags := 4120, nameIndex := 445, descriptorIndex := 117, attributes := #[] }])
  fields := #[{ name := "MIN_ARRAY_SORT_GRAN", type := .int, accessFlags := 26, slot := 0, constantValue := 0 }, { name := "INSERTIONSORT_THRESHOLD", type := .int, accessFlags := 26, slot := 1, constantValue := 0 }, { name := "$assertionsDisabled", type := .boolean, accessFlags := 4120, slot := 2, constantValue := 0 }]
  methods := #[k6m0, k6m1]
  instanceTypes := #[]
  staticTypes := #[.int, .int, .boolean]
  resolved := Array.replicate 1029 none
  statics := none }

def pool7 : Array CpInfo := pool [(1, .class_ 2), (0, u "java/lang/Math"), (1, .class_ 6), (1, u "java/lang/Object"), (0, u "<init>"), (0, u "()V"), (89, .class_ 100), (1, u "java/lang/Math$RandomNumberGeneratorHolder"), (71, u "negativeZeroFloatBits"), (0, u "J"), (2, u "negativeZeroDoubleBits"), (24, u "min"), (43, u "$assertionsDisabled"), (0, u "Z"), (88, u "(II)I"), (2, u "twoToTheDoubleScaleDown"), (0, u "D"), (4, u "twoToTheDoubleScaleUp"), (9, u "E"), (3, u "PI"), (2, u "TAU"), (2, u "DEGREES_TO_RADIANS"), (0, u "RADIANS_TO_DEGREES")] 94

def k7m0 : Method := { name := "<init>", desc := "()V", sig := { parameters := [], returnType := none }, accessFlags := 2, code := none }
def k7c1 : Code := { maxStack := 2, maxLocals := 2, code := jdk_29_method_69_code, exceptionTable := #[], attributes := #[] }
def k7m1 : Method := { name := "min", desc := "(II)I", sig := { parameters := [.int, .int], returnType := some .int }, accessFlags := 9, code := some k7c1 }
/-- java/lang/Math -/
def k7 : Class := { plain "java/lang/Math" (some 0) with
  accessFlags := 49
  interfaces := #[]
  cf := some (fileOf pool7 1 #[.nestMembers #[98]] #[{ accessFlags := 2, nameIndex := 7, descriptorIndex := 8, attributes := #[] }, { accessFlags := 9, nameIndex := 201, descriptorIndex := 335, attributes := #[] }] 49 4 #[] #[{ accessFlags := 25, nameIndex := 354, descriptorIndex := 339, attributes := #[] }, { accessFlags := 25, nameIndex := 358, descriptorIndex := 339, attributes := #[] }, { accessFlags := 25, nameIndex := 361, descriptorIndex := 339, attributes := #[] }, { accessFlags := 26, nameIndex := 364, descriptorIndex := 339, attributes := #[] }, { accessFlags := 26, nameIndex := 365, descriptorIndex := 339, attributes := #[] }, { accessFlags := 26, nameIndex := 172, descriptorIndex := 173, attributes := #[] }, { accessFlags := 26, nameIndex := 176, descriptorIndex := 173, attributes := #[] }, { accessFlags := 8, nameIndex := 344, descriptorIndex := 339, attributes := #[] }, { accessFlags := 8, nameIndex := 338, descriptorIndex := 339, attributes := #[] }, { accessFlags := 4120, nameIndex := 245, descriptorIndex := 246, attributes := #[] }])
  fields := #[{ name := "E", type := .double, accessFlags := 25, slot := 0, constantValue := 0 }, { name := "PI", type := .double, accessFlags := 25, slot := 1, constantValue := 0 }, { name := "TAU", type := .double, accessFlags := 25, slot := 2, constantValue := 0 }, { name := "DEGREES_TO_RADIANS", type := .double, accessFlags := 26, slot := 3, constantValue := 0 }, { name := "RADIANS_TO_DEGREES", type := .double, accessFlags := 26, slot := 4, constantValue := 0 }, { name := "negativeZeroFloatBits", type := .long, accessFlags := 26, slot := 5, constantValue := 0 }, { name := "negativeZeroDoubleBits", type := .long, accessFlags := 26, slot := 6, constantValue := 0 }, { name := "twoToTheDoubleScaleUp", type := .double, accessFlags := 8, slot := 7, constantValue := 0 }, { name := "twoToTheDoubleScaleDown", type := .double, accessFlags := 8, slot := 8, constantValue := 0 }, { name := "$assertionsDisabled", type := .boolean, accessFlags := 4120, slot := 9, constantValue := 0 }]
  methods := #[k7m0, k7m1]
  instanceTypes := #[]
  staticTypes := #[.double, .double, .double, .double, .double, .long, .long, .double, .double, .boolean]
  resolved := Array.replicate 460 none
  statics := none }

def pool8 : Array CpInfo := pool [(1, u "java/lang/Cloneable"), (0, .class_ 1), (0, u "java/lang/Object"), (0, .class_ 3)] 3

/-- java/lang/Cloneable -/
def k8 : Class := { plain "java/lang/Cloneable" (some 0) with
  accessFlags := 1537
  interfaces := #[]
  cf := some (fileOf pool8 2 #[] #[] 1537 4 #[] #[])
  fields := #[]
  methods := #[]
  instanceTypes := #[]
  staticTypes := #[]
  resolved := Array.replicate 8 none
  statics := none }

def pool9 : Array CpInfo := pool [(1, u "java/io/Serializable"), (0, .class_ 1), (0, u "java/lang/Object"), (0, .class_ 3)] 3

/-- java/io/Serializable -/
def k9 : Class := { plain "java/io/Serializable" (some 0) with
  accessFlags := 1537
  interfaces := #[]
  cf := some (fileOf pool9 2 #[] #[] 1537 4 #[] #[])
  fields := #[]
  methods := #[]
  instanceTypes := #[]
  staticTypes := #[]
  resolved := Array.replicate 8 none
  statics := none }

/-- the primitive byte -/
def k10 : Class := { plain "byte" none with kind := .primitive 'B', accessFlags := 0x411 }
/-- [B -/
def k11 : Class := { plain "[B" (some 0) with kind := .array 10 .byte, interfaces := #[8, 9], accessFlags := 1041 }

/-- the primitive int -/
def k12 : Class := { plain "int" none with kind := .primitive 'I', accessFlags := 0x411 }
/-- [I -/
def k13 : Class := { plain "[I" (some 0) with kind := .array 12 .int, interfaces := #[8, 9], accessFlags := 1041 }

def heap : Heap := #[]
def classes : Array Class := #[k0, k1, k2, k3, k4, k5, k6, k7, k8, k9, k10, k11, k12, k13]
def interned : List (Array UInt16 × Addr) := []
def slotsUsed : Nat := 0
def theMethod : MethodId := ⟨1, 1⟩
def args0 : Array Value := #[.long 5, .long 7, .int 3]
def aboutOver (below : List Frame) : State where
  vm := { classes := classes, interned := interned.toArray }
  heap := heap
  slotsUsed := slotsUsed
  threads := #[{ frames := .invoking theMethod args0 :: below }]
def below0 : List Frame := [.native { method := ⟨0, 0⟩, args := #[] }]
def about1 : State := aboutOver below0
def p0 : Program := .bare "" "" ""
def e0 : Env := launch0.env 0 0 0
theorem w_frames : about1.frames = Frame.invoking theMethod args0 :: below0 := rfl
set_option maxRecDepth 65536 in
theorem w_args : argsFit about1.vm theMethod args0 = true := by decide +kernel
set_option maxRecDepth 65536 in
theorem w_heap : heapFits about1 = true := by decide +kernel
set_option maxRecDepth 65536 in
theorem w_runnable : about1.curStatus? = some .runnable := by decide +kernel
set_option maxRecDepth 65536 in
theorem w_alone : about1.alone = true := by decide +kernel
set_option maxRecDepth 65536 in
theorem w_named : about1.methodNamed? x = some theMethod := by decide +kernel
set_option maxRecDepth 65536 in
theorem w_hears : about1.hears theMethod below0 = true := by decide +kernel
set_option maxRecDepth 65536 in
theorem w_ripe : about1.ripe theMethod args0 below0 = true := by decide +kernel
theorem w_running : about1.status = .running := rfl
set_option maxRecDepth 65536 in
theorem w_room : about1.hasRoom e0.platform room_1 = true :=
  launch0.hasRoom_least _ room_1 (by decide +kernel) (by decide +kernel) (by decide +kernel) (by decide +kernel) (by decide +kernel) (by decide +kernel)
theorem allAtoms_all (ts : List Jvm.Cond) (a : Array Jvm.Value) (st : Jvm.State) : (allAtoms ts).before a st = ts.all (fun c => c.before a st) := by
  induction ts with
  | nil => rfl
  | cons c t ih =>
    show (Jvm.Cond.and c (allAtoms t)).before a st = _
    rw [Jvm.Cond.before_and, ih, List.all_cons]
def words1 : List Jvm.Cond := Jvm.Cond.code x code maxLocals ret :: tables_1
/-- a 'code' word, met by the world's own term for the bytes: nothing is compared byte by byte -/
theorem code_word {y : MethodName} {bytes : ByteArray} {mx : Nat} {rt : Option FieldType} {a : Array Value} {s : State} {m : MethodId} {meth : Method} {c : Code} (h1 : s.methodNamed? y = some m) (h2 : s.vm.method? m = some meth) (h3 : meth.code = some c) (h4 : c.code = bytes)
    (h5 : (c.maxLocals == mx && c.exceptionTable.isEmpty && decide (c.maxStack ≤ mostOperands) && decide (meth.sig.returnType = rt) && !meth.locks && decide (parseMethodDescriptor y.desc = some meth.sig)) = true) : (Jvm.Cond.code y bytes mx rt).before a s = true := by
  simp only [Bool.and_eq_true, beq_iff_eq, Bool.not_eq_true', decide_eq_true_eq] at h5
  obtain ⟨⟨⟨⟨⟨g1, g2⟩, g3⟩, g4⟩, g5⟩, g6⟩ := h5
  simp [Cond.before, Cond.holds, Cond.value, h1, h2, h3, h4, g1, g2, g3, g4, g5, g6]
def isCode : Jvm.Cond → Bool
  | .code _ _ _ _ => true
  | _ => false
theorem all_split {L : List Jvm.Cond} {P : Jvm.Cond → Bool} (h1 : L.all (fun c => isCode c || P c) = true) (h2 : ∀ c ∈ L.filter isCode, P c = true) : L.all P = true := by
  refine List.all_eq_true.mpr fun c hc => ?_
  have h := List.all_eq_true.mp h1 c hc
  rcases Bool.eq_false_or_eq_true (isCode c) with hi | hi
  · exact h2 c (List.mem_filter.mpr ⟨hc, hi⟩)
  · simpa [hi] using h
set_option maxRecDepth 65536 in
theorem w_c0 : (Jvm.Cond.code x code maxLocals ret).before args0 about1 = true := code_word (m := ⟨1, 1⟩) (meth := k1m1) (c := k1c1) (by decide +kernel) rfl rfl rfl (by decide +kernel)
set_option maxRecDepth 65536 in
theorem w_c1 : (Jvm.Cond.code ({ cls := "com/example/ketchup/ketchup/negentropy/MessageWriter", name := "<init>", desc := "()V" } : Jvm.MethodName) prog_18_method_1_code (1 : Nat) (Option.none : Option Jvm.ClassFile.FieldType)).before args0 about1 = true := code_word (m := ⟨2, 0⟩) (meth := k2m0) (c := k2c0) (by decide +kernel) rfl rfl rfl (by decide +kernel)
set_option maxRecDepth 65536 in
theorem w_c2 : (Jvm.Cond.code ({ cls := "java/lang/Object", name := "<init>", desc := "()V" } : Jvm.MethodName) object_method_1_code (1 : Nat) (Option.none : Option Jvm.ClassFile.FieldType)).before args0 about1 = true := code_word (m := ⟨0, 0⟩) (meth := k0m0) (c := k0c0) (by decide +kernel) rfl rfl rfl (by decide +kernel)
set_option maxRecDepth 65536 in
theorem w_c3 : (Jvm.Cond.code ({ cls := "com/example/ketchup/ketchup/negentropy/MessageWriter", name := "write", desc := "([B)V" } : Jvm.MethodName) prog_18_method_11_code (2 : Nat) (Option.none : Option Jvm.ClassFile.FieldType)).before args0 about1 = true := code_word (m := ⟨2, 6⟩) (meth := k2m6) (c := k2c6) (by decide +kernel) rfl rfl rfl (by decide +kernel)
set_option maxRecDepth 65536 in
theorem w_c4 : (Jvm.Cond.code ({ cls := "com/example/ketchup/ketchup/negentropy/MessageWriter", name := "mark", desc := "()V" } : Jvm.MethodName) prog_18_method_3_code (1 : Nat) (Option.none : Option Jvm.ClassFile.FieldType)).before args0 about1 = true := code_word (m := ⟨2, 2⟩) (meth := k2m2) (c := k2c2) (by decide +kernel) rfl rfl rfl (by decide +kernel)
set_option maxRecDepth 65536 in
theorem w_c5 : (Jvm.Cond.code ({ cls := "com/example/ketchup/ketchup/negentropy/MessageWriter", name := "size", desc := "()I" } : Jvm.MethodName) prog_18_method_2_code (1 : Nat) (Option.some Jvm.ClassFile.FieldType.int)).before args0 about1 = true := code_word (m := ⟨2, 1⟩) (meth := k2m1) (c := k2c1) (by decide +kernel) rfl rfl rfl (by decide +kernel)
set_option maxRecDepth 65536 in
theorem w_c6 : (Jvm.Cond.code ({ cls := "com/example/ketchup/ketchup/negentropy/MessageWriter", name := "reset", desc := "()V" } : Jvm.MethodName) prog_18_method_4_code (1 : Nat) (Option.none : Option Jvm.ClassFile.FieldType)).before args0 about1 = true := code_word (m := ⟨2, 3⟩) (meth := k2m3) (c := k2c3) (by decide +kernel) rfl rfl rfl (by decide +kernel)
set_option maxRecDepth 65536 in
theorem w_c7 : (Jvm.Cond.code ({ cls := "com/example/ketchup/ketchup/negentropy/Bound", name := "<init>", desc := "(J[B)V" } : Jvm.MethodName) prog_11_method_1_code (4 : Nat) (Option.none : Option Jvm.ClassFile.FieldType)).before args0 about1 = true := code_word (m := ⟨4, 0⟩) (meth := k4m0) (c := k4c0) (by decide +kernel) rfl rfl rfl (by decide +kernel)
set_option maxRecDepth 65536 in
theorem w_c8 : (Jvm.Cond.code ({ cls := "com/example/ketchup/ketchup/negentropy/MessageWriter", name := "writeBound", desc := "(Lcom/example/ketchup/ketchup/negentropy/Bound;)V" } : Jvm.MethodName) prog_18_method_5_code (5 : Nat) (Option.none : Option Jvm.ClassFile.FieldType)).before args0 about1 = true := code_word (m := ⟨2, 4⟩) (meth := k2m4) (c := k2c4) (by decide +kernel) rfl rfl rfl (by decide +kernel)
set_option maxRecDepth 65536 in
theorem w_c9 : (Jvm.Cond.code ({ cls := "com/example/ketchup/ketchup/negentropy/Bound", name := "timestamp", desc := "()J" } : Jvm.MethodName) prog_11_method_2_code (1 : Nat) (Option.some Jvm.ClassFile.FieldType.long)).before args0 about1 = true := code_word (m := ⟨4, 1⟩) (meth := k4m1) (c := k4c1) (by decide +kernel) rfl rfl rfl (by decide +kernel)
set_option maxRecDepth 65536 in
theorem w_c10 : (Jvm.Cond.code ({ cls := "com/example/ketchup/ketchup/negentropy/Varint", name := "encode", desc := "(J)[B" } : Jvm.MethodName) prog_32_method_2_code (7 : Nat) (Option.some (Jvm.ClassFile.FieldType.array Jvm.ClassFile.FieldType.byte))).before args0 about1 = true := code_word (m := ⟨5, 1⟩) (meth := k5m1) (c := k5c1) (by decide +kernel) rfl rfl rfl (by decide +kernel)
set_option maxRecDepth 65536 in
theorem w_c11 : (Jvm.Cond.code ({ cls := "com/example/ketchup/ketchup/negentropy/Bound", name := "prefix", desc := "()[B" } : Jvm.MethodName) prog_11_method_3_code (1 : Nat) (Option.some (Jvm.ClassFile.FieldType.array Jvm.ClassFile.FieldType.byte))).before args0 about1 = true := code_word (m := ⟨4, 2⟩) (meth := k4m2) (c := k4c2) (by decide +kernel) rfl rfl rfl (by decide +kernel)
set_option maxRecDepth 65536 in
theorem w_c12 : (Jvm.Cond.code ({ cls := "com/example/ketchup/ketchup/negentropy/MessageWriter", name := "toByteArray", desc := "()[B" } : Jvm.MethodName) prog_18_method_10_code (1 : Nat) (Option.some (Jvm.ClassFile.FieldType.array Jvm.ClassFile.FieldType.byte))).before args0 about1 = true := code_word (m := ⟨2, 5⟩) (meth := k2m5) (c := k2c5) (by decide +kernel) rfl rfl rfl (by decide +kernel)
set_option maxRecDepth 65536 in
theorem w_c13 : (Jvm.Cond.code ({ cls := "java/util/Arrays", name := "copyOf", desc := "([BI)[B" } : Jvm.MethodName) jdk_65_method_121_code (3 : Nat) (Option.some (Jvm.ClassFile.FieldType.array Jvm.ClassFile.FieldType.byte))).before args0 about1 = true := code_word (m := ⟨6, 1⟩) (meth := k6m1) (c := k6c1) (by decide +kernel) rfl rfl rfl (by decide +kernel)
set_option maxRecDepth 65536 in
theorem w_c14 : (Jvm.Cond.code ({ cls := "java/lang/Math", name := "min", desc := "(II)I" } : Jvm.MethodName) jdk_29_method_69_code (2 : Nat) (Option.some Jvm.ClassFile.FieldType.int)).before args0 about1 = true := code_word (m := ⟨7, 1⟩) (meth := k7m1) (c := k7c1) (by decide +kernel) rfl rfl rfl (by decide +kernel)
def codes1 : List Jvm.Cond := [Jvm.Cond.code x code maxLocals ret, Jvm.Cond.code ({ cls := "com/example/ketchup/ketchup/negentropy/MessageWriter", name := "<init>", desc := "()V" } : Jvm.MethodName) prog_18_method_1_code (1 : Nat) (Option.none : Option Jvm.ClassFile.FieldType), Jvm.Cond.code ({ cls := "java/lang/Object", name := "<init>", desc := "()V" } : Jvm.MethodName) object_method_1_code (1 : Nat) (Option.none : Option Jvm.ClassFile.FieldType), Jvm.Cond.code ({ cls := "com/example/ketchup/ketchup/negentropy/MessageWriter", name := "write", desc := "([B)V" } : Jvm.MethodName) prog_18_method_11_code (2 : Nat) (Option.none : Option Jvm.ClassFile.FieldType), Jvm.Cond.code ({ cls := "com/example/ketchup/ketchup/negentropy/MessageWriter", name := "mark", desc := "()V" } : Jvm.MethodName) prog_18_method_3_code (1 : Nat) (Option.none : Option Jvm.ClassFile.FieldType), Jvm.Cond.code ({ cls := "com/example/ketchup/ketchup/negentropy/MessageWriter", name := "size", desc := "()I" } : Jvm.MethodName) prog_18_method_2_code (1 : Nat) (Option.some Jvm.ClassFile.FieldType.int), Jvm.Cond.code ({ cls := "com/example/ketchup/ketchup/negentropy/MessageWriter", name := "reset", desc := "()V" } : Jvm.MethodName) prog_18_method_4_code (1 : Nat) (Option.none : Option Jvm.ClassFile.FieldType), Jvm.Cond.code ({ cls := "com/example/ketchup/ketchup/negentropy/Bound", name := "<init>", desc := "(J[B)V" } : Jvm.MethodName) prog_11_method_1_code (4 : Nat) (Option.none : Option Jvm.ClassFile.FieldType), Jvm.Cond.code ({ cls := "com/example/ketchup/ketchup/negentropy/MessageWriter", name := "writeBound", desc := "(Lcom/example/ketchup/ketchup/negentropy/Bound;)V" } : Jvm.MethodName) prog_18_method_5_code (5 : Nat) (Option.none : Option Jvm.ClassFile.FieldType), Jvm.Cond.code ({ cls := "com/example/ketchup/ketchup/negentropy/Bound", name := "timestamp", desc := "()J" } : Jvm.MethodName) prog_11_method_2_code (1 : Nat) (Option.some Jvm.ClassFile.FieldType.long), Jvm.Cond.code ({ cls := "com/example/ketchup/ketchup/negentropy/Varint", name := "encode", desc := "(J)[B" } : Jvm.MethodName) prog_32_method_2_code (7 : Nat) (Option.some (Jvm.ClassFile.FieldType.array Jvm.ClassFile.FieldType.byte)), Jvm.Cond.code ({ cls := "com/example/ketchup/ketchup/negentropy/Bound", name := "prefix", desc := "()[B" } : Jvm.MethodName) prog_11_method_3_code (1 : Nat) (Option.some (Jvm.ClassFile.FieldType.array Jvm.ClassFile.FieldType.byte)), Jvm.Cond.code ({ cls := "com/example/ketchup/ketchup/negentropy/MessageWriter", name := "toByteArray", desc := "()[B" } : Jvm.MethodName) prog_18_method_10_code (1 : Nat) (Option.some (Jvm.ClassFile.FieldType.array Jvm.ClassFile.FieldType.byte)), Jvm.Cond.code ({ cls := "java/util/Arrays", name := "copyOf", desc := "([BI)[B" } : Jvm.MethodName) jdk_65_method_121_code (3 : Nat) (Option.some (Jvm.ClassFile.FieldType.array Jvm.ClassFile.FieldType.byte)), Jvm.Cond.code ({ cls := "java/lang/Math", name := "min", desc := "(II)I" } : Jvm.MethodName) jdk_29_method_69_code (2 : Nat) (Option.some Jvm.ClassFile.FieldType.int)]
set_option maxRecDepth 65536 in
theorem codes_eq : words1.filter isCode = codes1 := rfl
theorem w_codes : ∀ c ∈ words1.filter isCode, c.before args0 about1 = true := by
  rw [codes_eq]
  intro c hc
  simp only [codes1, List.mem_cons, List.not_mem_nil, or_false] at hc
  rcases hc with rfl | rfl | rfl | rfl | rfl | rfl | rfl | rfl | rfl | rfl | rfl | rfl | rfl | rfl | rfl
  · exact w_c0
  · exact w_c1
  · exact w_c2
  · exact w_c3
  · exact w_c4
  · exact w_c5
  · exact w_c6
  · exact w_c7
  · exact w_c8
  · exact w_c9
  · exact w_c10
  · exact w_c11
  · exact w_c12
  · exact w_c13
  · exact w_c14
set_option maxRecDepth 65536 in
theorem w_t1 : (words1.take 24).all (fun c => isCode c || c.before args0 about1) = true := by decide +kernel
set_option maxRecDepth 65536 in
theorem w_t2 : ((words1.drop 24).take 24).all (fun c => isCode c || c.before args0 about1) = true := by decide +kernel
set_option maxRecDepth 65536 in
theorem w_t3 : (((words1.drop 24).drop 24).take 24).all (fun c => isCode c || c.before args0 about1) = true := by decide +kernel
set_option maxRecDepth 65536 in
theorem w_t4 : (((words1.drop 24).drop 24).drop 24).all (fun c => isCode c || c.before args0 about1) = true := by decide +kernel
theorem w_tables : (allAtoms (Jvm.Cond.code x code maxLocals ret :: tables_1)).before args0 about1 = true := by
  rw [allAtoms_all]
  show words1.all (fun c => c.before args0 about1) = true
  refine all_split ?_ w_codes
  rw [← List.take_append_drop 24 words1, List.all_append, w_t1, ← List.take_append_drop 24 (words1.drop 24), List.all_append, w_t2, ← List.take_append_drop 24 ((words1.drop 24).drop 24), List.all_append, w_t3, w_t4]
  rfl
set_option maxRecDepth 65536 in
theorem w_case : (Jvm.Cond.and given_1 narrow_1).before args0 about1 = true := by decide +kernel
theorem w_applies : (headSpec (Jvm.Cond.code x code maxLocals ret :: tables_1) room_1).applies x e0.platform about1 = true :=
  (Spec.applies_iff w_frames).mpr ⟨w_running, w_runnable, w_alone, w_named, w_hears, w_ripe, w_room, w_tables⟩
theorem atStart : AtStart classFile x code maxLocals ret World_1 tables_1 room_1 Calls_1 rest_1 Pre_1 launch0 p0 e0 about1 theMethod args0 below0 :=
  ⟨lists_1, trivial, launch0.admits_env _ _ _, launch0.least_env, fairChoices_fair.cas, fairChoices_fair.clock, w_frames, w_args, w_heap, w_applies, trivial, trivial, w_case⟩
end start1
theorem witness_1 : WitnessClaimed_1 := ⟨start1.p0, start1.e0, start1.about1, start1.theMethod, start1.args0, start1.below0, start1.atStart⟩
end Jvm.Pilot.@@N@@
