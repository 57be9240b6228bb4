import JvmDerived
import JvmDerived.Pilot.@@N@@Statement
import JvmDerived.Pilot.@@N@@Code
set_option linter.unusedVariables false
set_option linter.unusedSimpArgs false
namespace Jvm.RoadKit
open Sem ClassFile Op Lib Jvm.Stand Jvm.Free Jvm.LawKit
section Own
variable {p : Program} {l : Launch} {e : Env} {R : Room} {s : State} {m : MethodId} {args : Array Value} {below : List Frame} {meth : Method} {c : Code} {T : State} {locs : List Loc} {cells slots : Nat}
theorem retI (X : Stand p l e R s m args below meth c T locs cells slots) (hx : p.tables.exec = Jvm.exec) {pc : Nat} {Ls : Array Slot} {z : Int32} {rest : List Value} (hret : meth.sig.returnType = some .int) (hd : decode c.code pc = .ok (.ireturn, 1)) {fs : List Frame}
    (hl : ∀ (f : JFrame) (acts : List Action), f.method = m → f.locked = none → f.entered = [] → (doReturn e (T.setTop f) acts (some (.int z))).1 = T.setFrames fs) : Steps p.tables e below (T.setTop (mkF m pc Ls (.int z :: rest))) (T.setFrames fs) := by
  have hm' : T.vm.method? m = some meth := X.method'
  have hn : narrow .int (.int z) = .int z := rfl
  show Steps p.tables e below (T.setTop { method := m, pc := pc, locals := Ls, stack := _ :: rest, locked := none }) _
  jvm_step X.here [X.here.top, hx, hd, hm', hret, hn]
  first | (intro acts; rw [hl _ acts rfl rfl rfl]) | rw [hl _ _ rfl rfl rfl]
  exact Steps.refl _
/-- from U the run comes to an end of which Qo holds -/
def own_Ends (tb : Tables) (e : Env) (below : List Frame) (Qo : Outcome → State → Prop) (U : State) : Prop := ∃ s₂ o, Steps tb e below U s₂ ∧ s₂.status = .running ∧ Ended s₂ below o ∧ Qo o s₂
def own_Q (s : State) (Q : Option Value → Heap → List Loc → Prop) (A B : Nat) : Outcome → State → Prop := fun o U' => ∃ v L, o = .returned v ∧ Q v U'.heap L ∧ FrameEnd s o U' L A B
theorem own_step {tb : Tables} {e : Env} {below : List Frame} {Qo : Outcome → State → Prop} {U V : State} (k : ∀ t, Steps tb e below V t → Steps tb e below U t) (h : own_Ends tb e below Qo V) : own_Ends tb e below Qo U := by
  obtain ⟨s₂, o, h1, h2⟩ := h; exact ⟨s₂, o, k _ h1, h2⟩
variable {Q : Option Value → Heap → List Loc → Prop} {A B : Nat}
theorem own_leave (X : Stand p l e R s m args below meth c T locs cells slots) (hlk : meth.locks = false) {v : Option Value} (hv : meth.sig.returnType = none → v = none) (ha : cells ≤ A) (hb : slots ≤ B) (hQ : Q v T.heap locs) {g : JFrame}
    (k : ∀ fs, (∀ (f : JFrame) (acts : List Action), f.method = m → f.locked = none → f.entered = [] → (doReturn e (T.setTop f) acts v).1 = T.setFrames fs) → Steps p.tables e below (T.setTop g) (T.setFrames fs)) : own_Ends p.tables e below (own_Q s Q A B) (T.setTop g) := by
  obtain ⟨fs, hr, hrun, hended, hW, hsame⟩ := X.leave (v := v) hv hlk
  exact ⟨_, _, k fs hr, hrun, hended, _, _, rfl, (show Q v T.heap locs from hQ), ⟨_, rfl⟩, hW, hsame.mono ha hb⟩
theorem own_retN (X : Stand p l e R s m args below meth c T locs cells slots) (hx : p.tables.exec = Jvm.exec) (hlk : meth.locks = false) (ha : cells ≤ A) (hb : slots ≤ B) {pc : Nat} {Ls : Array Slot} {z : Int32} {t : FieldType} {rest : List Value} (hret : meth.sig.returnType = some t) (ht : t = .boolean ∨ t = .byte ∨ t = .char ∨ t = .short)
    (hd : decode c.code pc = .ok (.ireturn, 1)) (hQ : Q (some (.int (nar t z))) T.heap locs) : own_Ends p.tables e below (own_Q s Q A B) (T.setTop (mkF m pc Ls (.int z :: rest))) :=
  own_leave X hlk (fun h => by rw [hret] at h; cases h) ha hb hQ fun fs hr => retN X hx hret ht hd hr
theorem own_retI (X : Stand p l e R s m args below meth c T locs cells slots) (hx : p.tables.exec = Jvm.exec) (hlk : meth.locks = false) (ha : cells ≤ A) (hb : slots ≤ B) {pc : Nat} {Ls : Array Slot} {z : Int32} {rest : List Value} (hret : meth.sig.returnType = some .int)
    (hd : decode c.code pc = .ok (.ireturn, 1)) (hQ : Q (some (.int z)) T.heap locs) : own_Ends p.tables e below (own_Q s Q A B) (T.setTop (mkF m pc Ls (.int z :: rest))) :=
  own_leave X hlk (fun h => by rw [hret] at h; cases h) ha hb hQ fun fs hr => retI X hx hret hd hr
theorem own_retJ (X : Stand p l e R s m args below meth c T locs cells slots) (hx : p.tables.exec = Jvm.exec) (hlk : meth.locks = false) (ha : cells ≤ A) (hb : slots ≤ B) {pc : Nat} {Ls : Array Slot} {z : Int64} {rest : List Value} (hret : meth.sig.returnType = some .long)
    (hd : decode c.code pc = .ok (.lreturn, 1)) (hQ : Q (some (.long z)) T.heap locs) : own_Ends p.tables e below (own_Q s Q A B) (T.setTop (mkF m pc Ls (.long z :: rest))) :=
  own_leave X hlk (fun h => by rw [hret] at h; cases h) ha hb hQ fun fs hr => by
    have hm' : T.vm.method? m = some meth := X.method'
    show Steps p.tables e below (T.setTop { method := m, pc := pc, locals := Ls, stack := _ :: rest, locked := none }) _
    jvm_step X.here [X.here.top, hx, hd, hm', hret, narrow]
    first | (intro acts; rw [hr _ acts rfl rfl rfl]) | rw [hr _ _ rfl rfl rfl]
    exact Steps.refl _
theorem own_retA (X : Stand p l e R s m args below meth c T locs cells slots) (hx : p.tables.exec = Jvm.exec) (hlk : meth.locks = false) (ha : cells ≤ A) (hb : slots ≤ B) {pc : Nat} {Ls : Array Slot} {z : Value} {t : FieldType} {rest : List Value} (hret : meth.sig.returnType = some t) (ht : t.isReference = true) (hz : z.isRef = true)
    (hd : decode c.code pc = .ok (.areturn, 1)) (hQ : Q (some z) T.heap locs) : own_Ends p.tables e below (own_Q s Q A B) (T.setTop (mkF m pc Ls (z :: rest))) :=
  own_leave X hlk (fun h => by rw [hret] at h; cases h) ha hb hQ fun fs hr => by
    have hm' : T.vm.method? m = some meth := X.method'
    show Steps p.tables e below (T.setTop { method := m, pc := pc, locals := Ls, stack := _ :: rest, locked := none }) _
    jvm_step X.here [X.here.top, hx, hd, hm', hret, ht, hz]
    first | (intro acts; rw [hr _ acts rfl rfl rfl]) | rw [hr _ _ rfl rfl rfl]
    exact Steps.refl _
theorem own_ret0 (X : Stand p l e R s m args below meth c T locs cells slots) (hx : p.tables.exec = Jvm.exec) (hlk : meth.locks = false) (ha : cells ≤ A) (hb : slots ≤ B) {pc : Nat} {Ls : Array Slot} (hret : meth.sig.returnType = none)
    (hd : decode c.code pc = .ok (.return_, 1)) (hQ : Q none T.heap locs) : own_Ends p.tables e below (own_Q s Q A B) (T.setTop (mkF m pc Ls [])) :=
  own_leave X hlk (fun _ => rfl) ha hb hQ fun fs hr => X.returnOut hx hret hd hr
theorem own_sel_priv {s : State} {args : Array Value} {n : Nat} {y : MethodName} (hy : y.cls ≠ "java/lang/invoke/MethodHandle" ∧ y.cls ≠ "java/lang/invoke/VarHandle") (hins : (Cond.instantiable y.cls n).before args s = true) (hpriv : (Cond.privateMethod y).before args s = true) (hinst : (Cond.instanceMethod y).before args s = true) :
    (Cond.selects y.cls y y).before args s = true := by
  obtain ⟨c, k, hc, hk, -, hniab, -, -⟩ := Cond.instantiable_spec hins
  have hni : k.isInterface = false := (Bool.or_eq_false_iff.mp hniab).1
  obtain ⟨mk, methM, hnamed, hmethM, -, -⟩ := Cond.instanceMethod_spec hinst
  have hfound : s.methodFound? y.cls y.name y.desc = some mk := State.methodFound?_of_named hnamed hy
  have hcls : mk.cls = c := Option.some.inj ((findClass_of_methodNamed hnamed).symm.trans hc)
  have hsel : selectMethod {} s.vm c mk = .method mk := selectMethod_private hmethM (Cond.privateMethod_at hpriv mk methM hnamed hmethM)
  simp only [Cond.before, Cond.holds, Cond.value, hc, hfound, hnamed, hsel, hcls, hk]
  simp; exact hni
theorem own_pop2J (X : Stand p l e R s m args below meth c T locs cells slots) (hx : p.tables.exec = Jvm.exec) {pc : Nat} {Ls : Array Slot} {z : Int64} {rest : List Value} (hd : decode c.code pc = .ok (.pop2, 1)) {target : State}
    (hr : Steps p.tables e below (T.setTop (mkF m (pc + 1) Ls rest)) target) : Steps p.tables e below (T.setTop (mkF m pc Ls (.long z :: rest))) target := by
  show Steps p.tables e below (T.setTop { method := m, pc := pc, locals := Ls, stack := _ :: rest, locked := none }) _
  jvm_step X.here [X.here.top, hx, hd, Value.category]
  exact hr
def own_NS (h : Heap) (x : Addr) : Prop := ∃ c : Cell, h[x]? = some c ∧ c.vm.isStatics = false
theorem own_ns_exa {Z : State} {h : Heap} {a : Addr} {C : String} (F : Exa Z h a C) : own_NS h a := by obtain ⟨c, k, h1, h2, h3, h4, h5⟩ := F; exact ⟨c, h1, h4⟩
theorem own_ns_arv {Z : State} {h : Heap} {a : Addr} {k : ClassId} {ty : FieldType} {z : Int32} {vs : List Value} {d : Value} (F : Arv Z h a k ty z vs d) : own_NS h a := by obtain ⟨c, A, -⟩ := F; exact ⟨c, A.1, A.plain⟩
theorem own_Sta_keep {Z : State} {h h' : Heap} {ws : List Addr} {C n d : String} {v : Value} (F : Sta Z h C n d v) (K : Keep h h' ws) (q : ∀ x ∈ ws, own_NS h x) : Sta Z h' C n d v := by
  obtain ⟨cf, i, k, f, st, cell, h1, h2, h3, h4, h5, h6, h7⟩ := F
  refine ⟨cf, i, k, f, st, cell, h1, h2, h3, h4, K.2.1 st cell h5 fun m => ?_, h6, h7⟩
  obtain ⟨c, e1, e2⟩ := q st m
  rw [h5] at e1; cases e1; rw [h6] at e2; cases e2
theorem own_lc_lt (x y : Int64) : lcmpW x y < 0 ↔ x < y := by rw [lcW]; exact lc_lt x y
theorem own_lc_gt (x y : Int64) : 0 < lcmpW x y ↔ y < x := by rw [lcW]; exact lc_gt x y
theorem own_lc_eq (x y : Int64) : lcmpW x y = 0 ↔ x = y := by rw [lcW]; exact lc_eq x y
end Own
end Jvm.RoadKit
namespace Jvm.Pilot.@@N@@
open Jvm Jvm.ClassFile Sem Op Lib Jvm.Free Jvm.Stand Jvm.LawKit Jvm.RoadKit Bundle Jvm.Pilot.@@N@@.Jvm.D
theorem own_ofNat_toInt {n : Nat} (h : n < 2147483648) : (Int32.ofNat n).toInt = n := Int32.toInt_ofNat_of_lt h
theorem own_nlt {a b : Nat} (ha : a < 2147483648) (hb : b < 2147483648) : (Int32.ofNat a < Int32.ofNat b) ↔ a < b := by
  rw [Int32.lt_iff_toInt_lt, own_ofNat_toInt ha, own_ofNat_toInt hb]; omega
theorem own_neq {a b : Nat} (ha : a < 2147483648) (hb : b < 2147483648) : (Int32.ofNat a = Int32.ofNat b) ↔ a = b := by
  rw [← Int32.toInt_inj, own_ofNat_toInt ha, own_ofNat_toInt hb]; omega
theorem own_nn {a : Nat} (ha : a < 2147483648) : ¬ Int32.ofNat a < 0 := by
  rw [Int32.lt_iff_toInt_lt, own_ofNat_toInt ha]; show ¬ (a : Int) < 0; omega
theorem own_clamp {a : Nat} (ha : a < 2147483648) : (Int32.ofNat a).toNatClampNeg = a := by
  rw [Int32.toNatClampNeg, own_ofNat_toInt ha]; rfl
theorem own_inc (c : Nat) : Int32.ofNat c + 1 = Int32.ofNat (c + 1) := by
  rw [Int32.ofNat_add]; rfl
theorem own_add (a b : Nat) : Int32.ofNat a + Int32.ofNat b = Int32.ofNat (a + b) := (Int32.ofNat_add a b).symm
theorem own_sub {a b : Nat} (h : b ≤ a) : Int32.ofNat a - Int32.ofNat b = Int32.ofNat (a - b) := by
  have e : Int32.ofNat a = Int32.ofNat (a - b) + Int32.ofNat b := by rw [own_add]; congr 1; omega
  rw [e, Int32.add_sub_cancel]
theorem own_dec (a : Nat) : Int32.ofNat (a + 1) + (-1 : Int32) = Int32.ofNat a := by
  have e : (-1 : Int32) = - Int32.ofNat 1 := rfl
  rw [e, ← Int32.sub_eq_add_neg, own_sub (by omega)]; congr 1
/-- what lies in the buffer behind a write of n bytes at sz -/
def own_put (vs : List Value) (sz n : Nat) (us : List Value) : List Value := vs.take sz ++ (List.range n).map (fun i => us.getD i (.int (0 : Int32))) ++ vs.drop (sz + n)
theorem own_put_len {vs us : List Value} {sz n : Nat} (h : sz + n ≤ vs.length) : (own_put vs sz n us).length = vs.length := by
  unfold own_put; simp; omega
theorem own_put_lo {vs us : List Value} {sz n i : Nat} (d : Value) (h : sz + n ≤ vs.length) (hi : i < sz) : (own_put vs sz n us).getD i d = vs.getD i d := by
  unfold own_put
  simp only [List.getD_eq_getElem?_getD]
  rw [List.append_assoc, List.getElem?_append_left (by simp; omega), List.getElem?_take_of_lt hi]
theorem own_put_at {vs us : List Value} {sz n i : Nat} (d : Value) (h : sz + n ≤ vs.length) (hi : i < n) : (own_put vs sz n us).getD (sz + i) d = us.getD i (.int (0 : Int32)) := by
  unfold own_put
  simp only [List.getD_eq_getElem?_getD]
  have e : (vs.take sz).length = sz := by simp; omega
  rw [List.append_assoc, List.getElem?_append_right (by rw [e]; omega), e, Nat.add_sub_cancel_left, List.getElem?_append_left (by simp; exact hi)]
  simp [hi]
theorem own_cp_put (vd us : List Value) (sz n : Nat) (h1 : sz < 2147483648) (h2 : n < 2147483648) : vd.take (Int32.ofNat sz).toNatClampNeg ++ ((List.range (Int32.ofNat n).toNatClampNeg).map fun i => us.getD ((0 : Int32).toNatClampNeg + i) (.int (0 : Int32))) ++ vd.drop ((Int32.ofNat sz).toNatClampNeg + (Int32.ofNat n).toNatClampNeg) = own_put vd sz n us := by
  rw [own_clamp h1, own_clamp h2]
  have z : (0 : Int32).toNatClampNeg = 0 := rfl
  unfold own_put; rw [z]; simp only [Nat.zero_add]
theorem own_sr7 (r : Int64) : ((r.toUInt64 >>> ((7 : Int32) &&& 0x3f).toInt64.toUInt64).toInt64).toUInt64.toNat = r.toUInt64.toNat / 128 := by
  have e : ((7 : Int32) &&& 0x3f).toInt64.toUInt64 = 7 := by decide
  rw [e]
  show (r.toUInt64 >>> 7).toNat = _
  rw [UInt64.toNat_shiftRight]
  show r.toUInt64.toNat >>> (7 % 64) = _
  rw [Nat.shiftRight_eq_div_pow]
theorem own_u0 (r : Int64) (h : r.toUInt64.toNat = 0) : r = 0 := by
  have : r.toUInt64 = 0 := UInt64.toNat_inj.mp h
  have k : r.toUInt64.toInt64 = (0 : UInt64).toInt64 := by rw [this]
  simpa using k
theorem own_sr7_0 (r : Int64) (h : r.toUInt64.toNat < 128) : ((r.toUInt64 >>> ((7 : Int32) &&& 0x3f).toInt64.toUInt64).toInt64) = 0 := own_u0 _ (by rw [own_sr7]; omega)
theorem own_ofN (r : Int64) : r = Int64.ofNat r.toUInt64.toNat := by
  apply Int64.toBitVec_inj.mp
  show r.toBitVec = BitVec.ofNat 64 r.toBitVec.toNat
  simp
theorem own_digit (r : Int64) (h : r.toUInt64.toNat < 128) : nar .byte (((r &&& (127 : Int64)).toInt32).toInt8.toInt32) = r.toInt32 := by
  rw [own_ofN r]
  generalize r.toUInt64.toNat = m at h
  have k : ∀ m : Fin 128, nar .byte (((Int64.ofNat m.1 &&& (127 : Int64)).toInt32).toInt8.toInt32) = (Int64.ofNat m.1).toInt32 := by decide +kernel
  exact k ⟨m, h⟩
def own_enc (t pt : Int64) : Int64 := if t = -1 then 0 else t - pt + 1
theorem own_np (np : Nat) (h : np < 128) : (Int32.ofNat np).toInt64.toUInt64.toNat = np ∧ ((Int32.ofNat np).toInt64).toInt32 = Int32.ofNat np := by
  have k : ∀ m : Fin 128, (Int32.ofNat m.1).toInt64.toUInt64.toNat = m.1 ∧ ((Int32.ofNat m.1).toInt64).toInt32 = Int32.ofNat m.1 := by decide +kernel
  exact k ⟨np, h⟩
theorem own_e3 (pt : Int64) (d : Nat) (h : d < 127) : (own_enc (pt + (Int32.ofNat d).toInt64) pt).toUInt64.toNat < 128 ∧ (pt + (Int32.ofNat d).toInt64 = -1 → own_enc (pt + (Int32.ofNat d).toInt64) pt = 0) ∧ (¬ pt + (Int32.ofNat d).toInt64 = -1 → (own_enc (pt + (Int32.ofNat d).toInt64) pt).toInt32 = (Int32.ofNat d + 1).toInt8.toInt32) := by
  have k : ∀ m : Fin 127, ((Int32.ofNat m.1).toInt64 + 1).toUInt64.toNat < 128 ∧ ((Int32.ofNat m.1).toInt64 + 1).toInt32 = (Int32.ofNat m.1 + 1).toInt8.toInt32 := by decide +kernel
  have kk := k ⟨d, h⟩
  have e : pt + (Int32.ofNat d).toInt64 - pt + 1 = (Int32.ofNat d).toInt64 + 1 := by rw [Int64.add_comm pt, Int64.add_sub_cancel]
  unfold own_enc
  by_cases q : pt + (Int32.ofNat d).toInt64 = -1
  · rw [if_pos q]; exact ⟨by decide, fun _ => rfl, fun u => absurd q u⟩
  · rw [if_neg q, e]; exact ⟨kk.1, fun u => absurd u q, fun _ => kk.2⟩
theorem own_byte_at {Z : State} {h : Heap} {a : Addr} {k : ClassId} {z : Int32} {vs : List Value} {d : Value} (A : Arv Z h a k .byte z vs d) (i : Nat) (hi : i < z.toNatClampNeg) : ∃ x : Int32, vs.getD i d = .int x := by
  obtain ⟨c, -, -, S, -, -, G⟩ := A
  exact fit_I (G i (by rw [S]; exact hi)) (by simp)
def own_QEnc (Z : State) (q0 : Int64) (h0 : Heap) (n0 : Nat) (v : Option Value) (h : Heap) (L : List Loc) : Prop := ∃ (b : Addr) (k : ClassId) (n : Nat) (us : List Value), v = some (.ref b) ∧ Fr n0 L ∧ Keep h0 h [] ∧ n0 ≤ b ∧ h0.size ≤ b ∧ 1 ≤ n ∧ n ≤ 10 ∧ Arv Z h b k .byte (Int32.ofNat n) us (.int (0 : Int32)) ∧ (q0.toUInt64.toNat < 128 → n = 1 ∧ us.getD 0 (.int (0 : Int32)) = .int q0.toInt32)
theorem own_pow {r k : Nat} (h : r < 128 ^ (k + 1 + 1)) : r / 128 < 128 ^ (k + 1) := by
  rw [Nat.pow_succ] at h; exact Nat.div_lt_of_lt_mul (by rw [Nat.mul_comm]; exact h)
theorem own_lrange (k : Int32) : ∃ d : Nat, d ≤ 32 ∧ ((k &&& (2147483647 : Int32)) % (33 : Int32)) = Int32.ofNat d := by
  have h := c_and k (2147483647 : Int32) (by decide)
  have e := (c_irem (k &&& (2147483647 : Int32)) (33 : Int32) 33 rfl).1 h.1
  generalize k &&& (2147483647 : Int32) = w at h e
  refine ⟨(w.toInt % 33).toNat, by omega, Int32.toInt_inj.mp ?_⟩
  rw [e, own_ofNat_toInt (by omega)]; omega
theorem own_add2 (sz : Nat) : Int32.ofNat sz + (2 : Int32) = Int32.ofNat (sz + 1 + 1 + 0) := own_add sz 2
theorem own_encA (t : Int64) (h : t = -1) : own_enc (0 : Int64) t = 2 := by subst h; decide
theorem own_encB (t : Int64) (h : ¬ t = -1) : own_enc t t = 1 := by
  unfold own_enc; rw [if_neg h, Int64.sub_self]; decide
theorem own_eq_long {args : Array Value} {s : State} {t : Term} {k : Int64} (h : (Jvm.Cond.eq t (.long k)).value args s none s [] = some true) : t.eval args s none [] s = some (.long k) := by
  obtain ⟨x, y, h1, h2, k1, -⟩ := cmp_v (Or.inl h)
  have e : y = .long k := Option.some.inj (h2.symm.trans (long_at k))
  subst e
  cases x <;> simp [Kin, Value.isRef] at k1
  rename_i z
  have := gotT (eq_L h1 h2) h
  rw [h1, this]
theorem own_eq_int {args : Array Value} {s : State} {t : Term} {k : Int32} (h : (Jvm.Cond.eq t (.int k)).value args s none s [] = some true) : t.eval args s none [] s = some (.int k) := by
  obtain ⟨x, y, h1, h2, k1, -⟩ := cmp_v (Or.inl h)
  have e : y = .int k := Option.some.inj (h2.symm.trans (Term.int_eval k))
  subst e
  cases x <;> simp [Kin, Value.isRef] at k1
  rename_i z
  have := gotT (Cond.eq_ints h1 h2) h
  rw [h1, this]
def own_minI (a b : Int32) : Int32 := if b < a then b else a
theorem own_d15_0 : decode jdk_29_method_69_code 0 = .ok (.iload_n 0, 1) := by decide +kernel
theorem own_d15_1 : decode jdk_29_method_69_code 1 = .ok (.iload_n 1, 1) := by decide +kernel
theorem own_d15_2 : decode jdk_29_method_69_code 2 = .ok (.if_icmp .gt 7, 3) := by decide +kernel
theorem own_d15_5 : decode jdk_29_method_69_code 5 = .ok (.iload_n 0, 1) := by decide +kernel
theorem own_d15_6 : decode jdk_29_method_69_code 6 = .ok (.goto 4, 3) := by decide +kernel
theorem own_d15_9 : decode jdk_29_method_69_code 9 = .ok (.iload_n 1, 1) := by decide +kernel
theorem own_d15_10 : decode jdk_29_method_69_code 10 = .ok (.ireturn, 1) := by decide +kernel
theorem own_ef_15 (m : MethodId) (x0 : Int32) (x1 : Int32) : entryFrame m #[(.int x0), (.int x1)] 2 = mkF m 0 #[.val (.int x0), .val (.int x1)] [] := by first | (simp [entryFrame, mkF, argsToLocals, Value.category]; done) | rfl
def own_Q_minI (Z : State) (p0 : Int32) (p1 : Int32) (h0 : Heap) (n0 : Nat) (v : Option Value) (h : Heap) (L : List Loc) : Prop := v = some (.int (own_minI p0 p1)) ∧ Fr n0 L ∧ h = h0
set_option maxRecDepth 65536 in
set_option maxHeartbeats 40000000 in
theorem own_rm_minI (l : Launch) (Z : State) (aw : Array Value) (hw : ∀ d ∈ tables_1, d.before aw Z = true) (ws : List Jvm.Cond) (p0 : Int32) (p1 : Int32) (h0 : Heap) (n0 : Nat) (Z0 : n0 ≤ h0.size) :
    MetFree l (⟨"java/lang/Math", "min", "(II)I"⟩ : MethodName) (head1 (Jvm.Cond.code (⟨"java/lang/Math", "min", "(II)I"⟩ : MethodName) jdk_29_method_69_code 2 (some .int) :: ws) ({ frames := 0, cells := 0, slots := 0, locals := 0 } : Room)) (fun a U => a = #[(.int p0), (.int p1)] ∧ Z.Warmed39 U.vm ∧ U.heap = h0) (fun _ _ _ _ _ => True) (fun _ U o U' => ∃ v L, o = .returned v ∧ own_Q_minI Z p0 p1 h0 n0 v U'.heap L ∧ FrameEnd U o U' L ({ frames := 0, cells := 0, slots := 0, locals := 0 } : Room).cells ({ frames := 0, cells := 0, slots := 0, locals := 0 } : Room).slots) := by
  refine MetFree.of_bodySF (Jvm.Free.JP.mathPlain rfl (by decide +kernel)) hisR ?_
  intro p e s m args below meth c s₁ Bd hml0 hP hK
  obtain ⟨rfl, hZ, hh⟩ := hP
  have hx := Bd.exec
  have hby := Bd.bytes
  have hlk : meth.locks = false := BodyLoose.notSynchronized Bd
  have hml : c.maxLocals = 2 := hml0
  have hown : s.vm.findClass "java/lang/Math" = some m.cls := findClass_of_methodNamed Bd.named
  have hnm := (name_of_methodNamed Bd.named Bd.method).1
  have X0 : Stand p l e ({ frames := 0, cells := 0, slots := 0, locals := 0 } : Room) s m #[(.int p0), (.int p1)] below meth c s₁ [] 0 0 := Stand.of_body Bd
  have e0 : s₁.heap = h0 := by rw [← hh, Bd.state]; rfl
  have N0 := Fr.nil n0
  have K0 : Keep h0 h0 [] := Keep.refl _ _
  have pre0 : ∀ t, Steps p.tables e below (s₁.setTop (mkF m 0 #[.val (.int p0), .val (.int p1)] [])) t → Steps p.tables e below (s₁.setTop (entryFrame m #[(.int p0), (.int p1)] 2)) t := fun t k => castTop (own_ef_15 m p0 p1) k
  show own_Ends p.tables e below (own_Q s (own_Q_minI Z p0 p1 h0 n0) ({ frames := 0, cells := 0, slots := 0, locals := 0 } : Room).cells ({ frames := 0, cells := 0, slots := 0, locals := 0 } : Room).slots) (s₁.setTop (entryFrame m #[(.int p0), (.int p1)] 2))
  refine own_step pre0 ?_
  show own_Ends p.tables e below _ (s₁.setTop (mkF m 0 #[.val (.int p0), .val (.int p1)] []))
  refine own_step (fun _ k => XS.iloadN X0.here hx rfl (hb hby own_d15_0) rfl k) ?_
  show own_Ends p.tables e below _ (s₁.setTop (mkF m 1 #[.val (.int p0), .val (.int p1)] [(.int p0)]))
  refine own_step (fun _ k => XS.iloadN X0.here hx rfl (hb hby own_d15_1) rfl k) ?_
  show own_Ends p.tables e below _ (s₁.setTop (mkF m 2 #[.val (.int p0), .val (.int p1)] [(.int p1), (.int p0)]))
  by_cases hc2 : p1 < p0
  · refine own_step (fun _ k => XS.icmpYes X0.here hx rfl (pc0 := 2) (pc' := 9) rfl (hb hby own_d15_2) rfl (tlt hc2).2.2.1 (by decide) (by decide) k) ?_
    show own_Ends p.tables e below _ (s₁.setTop (mkF m 9 #[.val (.int p0), .val (.int p1)] []))
    refine own_step (fun _ k => XS.iloadN X0.here hx rfl (hb hby own_d15_9) rfl k) ?_
    show own_Ends p.tables e below _ (s₁.setTop (mkF m 10 #[.val (.int p0), .val (.int p1)] [(.int p1)]))
    exact own_retI X0 hx hlk (by decide) (by decide) Bd.returns (hb hby own_d15_10) (by rw [e0]; exact ⟨by rw [show own_minI p0 p1 = p1 by simp [own_minI, hc2]], N0, rfl⟩)
  · refine own_step (fun _ k => XS.icmpNo X0.here hx rfl (hb hby own_d15_2) rfl (flt hc2).2.2.1 k) ?_
    show own_Ends p.tables e below _ (s₁.setTop (mkF m 5 #[.val (.int p0), .val (.int p1)] []))
    refine own_step (fun _ k => XS.iloadN X0.here hx rfl (hb hby own_d15_5) rfl k) ?_
    show own_Ends p.tables e below _ (s₁.setTop (mkF m 6 #[.val (.int p0), .val (.int p1)] [(.int p0)]))
    refine own_step (fun _ k => XS.goto X0.here hx rfl (pc0 := 6) (pc' := 10) rfl (hb hby own_d15_6) (by decide) (by decide) k) ?_
    show own_Ends p.tables e below _ (s₁.setTop (mkF m 10 #[.val (.int p0), .val (.int p1)] [(.int p0)]))
    exact own_retI X0 hx hlk (by decide) (by decide) Bd.returns (hb hby own_d15_10) (by rw [e0]; exact ⟨by rw [show own_minI p0 p1 = p0 by simp [own_minI, hc2]], N0, rfl⟩)
theorem own_d11_0 : decode prog_18_method_2_code 0 = .ok (.aload_n 0, 1) := by decide +kernel
theorem own_d11_1 : decode prog_18_method_2_code 1 = .ok (.getfield 20, 3) := by decide +kernel
theorem own_d11_4 : decode prog_18_method_2_code 4 = .ok (.ireturn, 1) := by decide +kernel
theorem own_pn0 : plainName "com/example/ketchup/ketchup/negentropy/MessageWriter" = true := by first | (simp [plainName, overriddenIn]; done) | decide +kernel
theorem own_ef_11 (m : MethodId) (x0 : Addr) : entryFrame m #[(.ref x0)] 1 = mkF m 0 #[.val (.ref x0)] [] := by first | (simp [entryFrame, mkF, argsToLocals, Value.category]; done) | rfl
def own_Q_size (Z : State) (a0 : Addr) (z : Int32) (h0 : Heap) (n0 : Nat) (v : Option Value) (h : Heap) (L : List Loc) : Prop := v = some (.int z) ∧ Fr n0 L ∧ h = h0
set_option maxRecDepth 65536 in
set_option maxHeartbeats 40000000 in
theorem own_rm_size (l : Launch) (Z : State) (aw : Array Value) (hw : ∀ d ∈ tables_1, d.before aw Z = true) (ws : List Jvm.Cond) (a0 : Addr) (z : Int32) (h0 : Heap) (n0 : Nat) (Z0 : n0 ≤ h0.size) (F_z : Fld Z h0 a0 "com/example/ketchup/ketchup/negentropy/MessageWriter" "size" "I" (.int z)) :
    MetFree l (⟨"com/example/ketchup/ketchup/negentropy/MessageWriter", "size", "()I"⟩ : MethodName) (head1 (Jvm.Cond.code (⟨"com/example/ketchup/ketchup/negentropy/MessageWriter", "size", "()I"⟩ : MethodName) prog_18_method_2_code 1 (some .int) :: ws) ({ frames := 0, cells := 0, slots := 0, locals := 0 } : Room)) (fun a U => a = #[(.ref a0)] ∧ Z.Warmed39 U.vm ∧ U.heap = h0) (fun _ _ _ _ _ => True) (fun _ U o U' => ∃ v L, o = .returned v ∧ own_Q_size Z a0 z h0 n0 v U'.heap L ∧ FrameEnd U o U' L ({ frames := 0, cells := 0, slots := 0, locals := 0 } : Room).cells ({ frames := 0, cells := 0, slots := 0, locals := 0 } : Room).slots) := by
  refine MetFree.of_bodySF (plainFor_of_name own_pn0) hisR ?_
  intro p e s m args below meth c s₁ Bd hml0 hP hK
  obtain ⟨rfl, hZ, hh⟩ := hP
  have hx := Bd.exec
  have hby := Bd.bytes
  have hlk : meth.locks = false := BodyLoose.notSynchronized Bd
  have hml : c.maxLocals = 1 := hml0
  have hown : s.vm.findClass "com/example/ketchup/ketchup/negentropy/MessageWriter" = some m.cls := findClass_of_methodNamed Bd.named
  have hnm := (name_of_methodNamed Bd.named Bd.method).1
  have X0 : Stand p l e ({ frames := 0, cells := 0, slots := 0, locals := 0 } : Room) s m #[(.ref a0)] below meth c s₁ [] 0 0 := Stand.of_body Bd
  have e0 : s₁.heap = h0 := by rw [← hh, Bd.state]; rfl
  have N0 := Fr.nil n0
  have K0 : Keep h0 h0 [] := Keep.refl _ _
  have pre0 : ∀ t, Steps p.tables e below (s₁.setTop (mkF m 0 #[.val (.ref a0)] [])) t → Steps p.tables e below (s₁.setTop (entryFrame m #[(.ref a0)] 1)) t := fun t k => castTop (own_ef_11 m a0) k
  show own_Ends p.tables e below (own_Q s (own_Q_size Z a0 z h0 n0) ({ frames := 0, cells := 0, slots := 0, locals := 0 } : Room).cells ({ frames := 0, cells := 0, slots := 0, locals := 0 } : Room).slots) (s₁.setTop (entryFrame m #[(.ref a0)] 1))
  refine own_step pre0 ?_
  show own_Ends p.tables e below _ (s₁.setTop (mkF m 0 #[.val (.ref a0)] []))
  refine own_step (fun _ k => XS.aloadN X0.here hx rfl (hb hby own_d11_0) rfl rfl k) ?_
  show own_Ends p.tables e below _ (s₁.setTop (mkF m 1 #[.val (.ref a0)] [(.ref a0)]))
  obtain ⟨T1, X1, e1, st1⟩ := getF X0 hx hZ hown (host := "") (Or.inl (hw _ (List.mem_of_getElem? (i := 29) rfl))) Via.refl e0 F_z (g := (mkF m 1 #[.val (.ref a0)] [(.ref a0)])) rfl rfl (hb hby own_d11_1)
  refine own_step st1 ?_
  show own_Ends p.tables e below _ (T1.setTop (mkF m 4 #[.val (.ref a0)] [(.int z)]))
  exact own_retI X1 hx hlk (by decide) (by decide) Bd.returns (hb hby own_d11_4) (by rw [e1]; exact ⟨rfl, N0, rfl⟩)
theorem own_d7_0 : decode prog_11_method_2_code 0 = .ok (.aload_n 0, 1) := by decide +kernel
theorem own_d7_1 : decode prog_11_method_2_code 1 = .ok (.getfield 18, 3) := by decide +kernel
theorem own_d7_4 : decode prog_11_method_2_code 4 = .ok (.lreturn, 1) := by decide +kernel
theorem own_pn1 : plainName "com/example/ketchup/ketchup/negentropy/Bound" = true := by first | (simp [plainName, overriddenIn]; done) | decide +kernel
theorem own_ef_7 (m : MethodId) (x0 : Addr) : entryFrame m #[(.ref x0)] 1 = mkF m 0 #[.val (.ref x0)] [] := by first | (simp [entryFrame, mkF, argsToLocals, Value.category]; done) | rfl
def own_Q_timestamp (Z : State) (a0 : Addr) (z : Int64) (h0 : Heap) (n0 : Nat) (v : Option Value) (h : Heap) (L : List Loc) : Prop := v = some (.long z) ∧ Fr n0 L ∧ h = h0
set_option maxRecDepth 65536 in
set_option maxHeartbeats 40000000 in
theorem own_rm_timestamp (l : Launch) (Z : State) (aw : Array Value) (hw : ∀ d ∈ tables_1, d.before aw Z = true) (ws : List Jvm.Cond) (a0 : Addr) (z : Int64) (h0 : Heap) (n0 : Nat) (Z0 : n0 ≤ h0.size) (F_z : Fld Z h0 a0 "com/example/ketchup/ketchup/negentropy/Bound" "timestamp" "J" (.long z)) :
    MetFree l (⟨"com/example/ketchup/ketchup/negentropy/Bound", "timestamp", "()J"⟩ : MethodName) (head1 (Jvm.Cond.code (⟨"com/example/ketchup/ketchup/negentropy/Bound", "timestamp", "()J"⟩ : MethodName) prog_11_method_2_code 1 (some .long) :: ws) ({ frames := 0, cells := 0, slots := 0, locals := 0 } : Room)) (fun a U => a = #[(.ref a0)] ∧ Z.Warmed39 U.vm ∧ U.heap = h0) (fun _ _ _ _ _ => True) (fun _ U o U' => ∃ v L, o = .returned v ∧ own_Q_timestamp Z a0 z h0 n0 v U'.heap L ∧ FrameEnd U o U' L ({ frames := 0, cells := 0, slots := 0, locals := 0 } : Room).cells ({ frames := 0, cells := 0, slots := 0, locals := 0 } : Room).slots) := by
  refine MetFree.of_bodySF (plainFor_of_name own_pn1) hisR ?_
  intro p e s m args below meth c s₁ Bd hml0 hP hK
  obtain ⟨rfl, hZ, hh⟩ := hP
  have hx := Bd.exec
  have hby := Bd.bytes
  have hlk : meth.locks = false := BodyLoose.notSynchronized Bd
  have hml : c.maxLocals = 1 := hml0
  have hown : s.vm.findClass "com/example/ketchup/ketchup/negentropy/Bound" = some m.cls := findClass_of_methodNamed Bd.named
  have hnm := (name_of_methodNamed Bd.named Bd.method).1
  have X0 : Stand p l e ({ frames := 0, cells := 0, slots := 0, locals := 0 } : Room) s m #[(.ref a0)] below meth c s₁ [] 0 0 := Stand.of_body Bd
  have e0 : s₁.heap = h0 := by rw [← hh, Bd.state]; rfl
  have N0 := Fr.nil n0
  have K0 : Keep h0 h0 [] := Keep.refl _ _
  have pre0 : ∀ t, Steps p.tables e below (s₁.setTop (mkF m 0 #[.val (.ref a0)] [])) t → Steps p.tables e below (s₁.setTop (entryFrame m #[(.ref a0)] 1)) t := fun t k => castTop (own_ef_7 m a0) k
  show own_Ends p.tables e below (own_Q s (own_Q_timestamp Z a0 z h0 n0) ({ frames := 0, cells := 0, slots := 0, locals := 0 } : Room).cells ({ frames := 0, cells := 0, slots := 0, locals := 0 } : Room).slots) (s₁.setTop (entryFrame m #[(.ref a0)] 1))
  refine own_step pre0 ?_
  show own_Ends p.tables e below _ (s₁.setTop (mkF m 0 #[.val (.ref a0)] []))
  refine own_step (fun _ k => XS.aloadN X0.here hx rfl (hb hby own_d7_0) rfl rfl k) ?_
  show own_Ends p.tables e below _ (s₁.setTop (mkF m 1 #[.val (.ref a0)] [(.ref a0)]))
  obtain ⟨T1, X1, e1, st1⟩ := getF X0 hx hZ hown (host := "") (Or.inl (hw _ (List.mem_of_getElem? (i := 11) rfl))) Via.refl e0 F_z (g := (mkF m 1 #[.val (.ref a0)] [(.ref a0)])) rfl rfl (hb hby own_d7_1)
  refine own_step st1 ?_
  show own_Ends p.tables e below _ (T1.setTop (mkF m 4 #[.val (.ref a0)] [(.long z)]))
  exact own_retJ X1 hx hlk (by decide) (by decide) Bd.returns (hb hby own_d7_4) (by rw [e1]; exact ⟨rfl, N0, rfl⟩)
theorem own_d9_0 : decode prog_11_method_3_code 0 = .ok (.aload_n 0, 1) := by decide +kernel
theorem own_d9_1 : decode prog_11_method_3_code 1 = .ok (.getfield 24, 3) := by decide +kernel
theorem own_d9_4 : decode prog_11_method_3_code 4 = .ok (.areturn, 1) := by decide +kernel
theorem own_ef_9 (m : MethodId) (x0 : Addr) : entryFrame m #[(.ref x0)] 1 = mkF m 0 #[.val (.ref x0)] [] := by first | (simp [entryFrame, mkF, argsToLocals, Value.category]; done) | rfl
def own_Q_prefix (Z : State) (a0 : Addr) (z : Addr) (h0 : Heap) (n0 : Nat) (v : Option Value) (h : Heap) (L : List Loc) : Prop := v = some (.ref z) ∧ Fr n0 L ∧ h = h0
set_option maxRecDepth 65536 in
set_option maxHeartbeats 40000000 in
theorem own_rm_prefix (l : Launch) (Z : State) (aw : Array Value) (hw : ∀ d ∈ tables_1, d.before aw Z = true) (ws : List Jvm.Cond) (a0 : Addr) (z : Addr) (h0 : Heap) (n0 : Nat) (Z0 : n0 ≤ h0.size) (F_z : Fld Z h0 a0 "com/example/ketchup/ketchup/negentropy/Bound" "prefix" "[B" (.ref z)) :
    MetFree l (⟨"com/example/ketchup/ketchup/negentropy/Bound", "prefix", "()[B"⟩ : MethodName) (head1 (Jvm.Cond.code (⟨"com/example/ketchup/ketchup/negentropy/Bound", "prefix", "()[B"⟩ : MethodName) prog_11_method_3_code 1 (some (.array .byte)) :: ws) ({ frames := 0, cells := 0, slots := 0, locals := 0 } : Room)) (fun a U => a = #[(.ref a0)] ∧ Z.Warmed39 U.vm ∧ U.heap = h0) (fun _ _ _ _ _ => True) (fun _ U o U' => ∃ v L, o = .returned v ∧ own_Q_prefix Z a0 z h0 n0 v U'.heap L ∧ FrameEnd U o U' L ({ frames := 0, cells := 0, slots := 0, locals := 0 } : Room).cells ({ frames := 0, cells := 0, slots := 0, locals := 0 } : Room).slots) := by
  refine MetFree.of_bodySF (plainFor_of_name own_pn1) hisR ?_
  intro p e s m args below meth c s₁ Bd hml0 hP hK
  obtain ⟨rfl, hZ, hh⟩ := hP
  have hx := Bd.exec
  have hby := Bd.bytes
  have hlk : meth.locks = false := BodyLoose.notSynchronized Bd
  have hml : c.maxLocals = 1 := hml0
  have hown : s.vm.findClass "com/example/ketchup/ketchup/negentropy/Bound" = some m.cls := findClass_of_methodNamed Bd.named
  have hnm := (name_of_methodNamed Bd.named Bd.method).1
  have X0 : Stand p l e ({ frames := 0, cells := 0, slots := 0, locals := 0 } : Room) s m #[(.ref a0)] below meth c s₁ [] 0 0 := Stand.of_body Bd
  have e0 : s₁.heap = h0 := by rw [← hh, Bd.state]; rfl
  have N0 := Fr.nil n0
  have K0 : Keep h0 h0 [] := Keep.refl _ _
  have pre0 : ∀ t, Steps p.tables e below (s₁.setTop (mkF m 0 #[.val (.ref a0)] [])) t → Steps p.tables e below (s₁.setTop (entryFrame m #[(.ref a0)] 1)) t := fun t k => castTop (own_ef_9 m a0) k
  show own_Ends p.tables e below (own_Q s (own_Q_prefix Z a0 z h0 n0) ({ frames := 0, cells := 0, slots := 0, locals := 0 } : Room).cells ({ frames := 0, cells := 0, slots := 0, locals := 0 } : Room).slots) (s₁.setTop (entryFrame m #[(.ref a0)] 1))
  refine own_step pre0 ?_
  show own_Ends p.tables e below _ (s₁.setTop (mkF m 0 #[.val (.ref a0)] []))
  refine own_step (fun _ k => XS.aloadN X0.here hx rfl (hb hby own_d9_0) rfl rfl k) ?_
  show own_Ends p.tables e below _ (s₁.setTop (mkF m 1 #[.val (.ref a0)] [(.ref a0)]))
  obtain ⟨T1, X1, e1, st1⟩ := getF X0 hx hZ hown (host := "") (Or.inl (hw _ (List.mem_of_getElem? (i := 13) rfl))) Via.refl e0 F_z (g := (mkF m 1 #[.val (.ref a0)] [(.ref a0)])) rfl rfl (hb hby own_d9_1)
  refine own_step st1 ?_
  show own_Ends p.tables e below _ (T1.setTop (mkF m 4 #[.val (.ref a0)] [(.ref z)]))
  exact own_retA X1 hx hlk (by decide) (by decide) Bd.returns rfl rfl (hb hby own_d9_4) (by rw [e1]; exact ⟨rfl, N0, rfl⟩)
theorem own_d5_0 : decode prog_18_method_3_code 0 = .ok (.aload_n 0, 1) := by decide +kernel
theorem own_d5_1 : decode prog_18_method_3_code 1 = .ok (.aload_n 0, 1) := by decide +kernel
theorem own_d5_2 : decode prog_18_method_3_code 2 = .ok (.getfield 20, 3) := by decide +kernel
theorem own_d5_5 : decode prog_18_method_3_code 5 = .ok (.putfield 24, 3) := by decide +kernel
theorem own_d5_8 : decode prog_18_method_3_code 8 = .ok (.aload_n 0, 1) := by decide +kernel
theorem own_d5_9 : decode prog_18_method_3_code 9 = .ok (.aload_n 0, 1) := by decide +kernel
theorem own_d5_10 : decode prog_18_method_3_code 10 = .ok (.getfield 27, 3) := by decide +kernel
theorem own_d5_13 : decode prog_18_method_3_code 13 = .ok (.putfield 31, 3) := by decide +kernel
theorem own_d5_16 : decode prog_18_method_3_code 16 = .ok (.return_, 1) := by decide +kernel
theorem own_ef_5 (m : MethodId) (x0 : Addr) : entryFrame m #[(.ref x0)] 1 = mkF m 0 #[.val (.ref x0)] [] := by first | (simp [entryFrame, mkF, argsToLocals, Value.category]; done) | rfl
def own_Q_mark (Z : State) (a0 : Addr) (bf : Addr) (kb : ClassId) (vs : List Value) (sz : Nat) (pt : Int64) (ms : Int32) (mp : Int64) (h0 : Heap) (n0 : Nat) (v : Option Value) (h : Heap) (L : List Loc) : Prop := v = none ∧ Fr n0 L ∧ Keep h0 h [a0] ∧ Fld Z h a0 "com/example/ketchup/ketchup/negentropy/MessageWriter" "buffer" "[B" (.ref bf) ∧ Fld Z h a0 "com/example/ketchup/ketchup/negentropy/MessageWriter" "size" "I" (.int (Int32.ofNat sz)) ∧ Fld Z h a0 "com/example/ketchup/ketchup/negentropy/MessageWriter" "previousTimestamp" "J" (.long pt) ∧ Fld Z h a0 "com/example/ketchup/ketchup/negentropy/MessageWriter" "markedSize" "I" (.int (Int32.ofNat sz)) ∧ Fld Z h a0 "com/example/ketchup/ketchup/negentropy/MessageWriter" "markedPreviousTimestamp" "J" (.long pt)
set_option maxRecDepth 65536 in
set_option maxHeartbeats 40000000 in
theorem own_rm_mark (l : Launch) (Z : State) (aw : Array Value) (hw : ∀ d ∈ tables_1, d.before aw Z = true) (ws : List Jvm.Cond) (a0 : Addr) (bf : Addr) (kb : ClassId) (vs : List Value) (sz : Nat) (pt : Int64) (ms : Int32) (mp : Int64) (h0 : Heap) (n0 : Nat) (Z0 : n0 ≤ h0.size) (E_a0 : Exa Z h0 a0 "com/example/ketchup/ketchup/negentropy/MessageWriter") (F_buffer : Fld Z h0 a0 "com/example/ketchup/ketchup/negentropy/MessageWriter" "buffer" "[B" (.ref bf)) (F_size : Fld Z h0 a0 "com/example/ketchup/ketchup/negentropy/MessageWriter" "size" "I" (.int (Int32.ofNat sz))) (F_previousTimestamp : Fld Z h0 a0 "com/example/ketchup/ketchup/negentropy/MessageWriter" "previousTimestamp" "J" (.long pt)) (F_markedSize : Fld Z h0 a0 "com/example/ketchup/ketchup/negentropy/MessageWriter" "markedSize" "I" (.int ms)) (F_markedPreviousTimestamp : Fld Z h0 a0 "com/example/ketchup/ketchup/negentropy/MessageWriter" "markedPreviousTimestamp" "J" (.long mp)) (V_bf : Arv Z h0 bf kb .byte (256 : Int32) vs (Value.int (0 : Int32))) (hvs : vs.length = 256) (ne_ab : a0 ≠ bf) (g_a0 : n0 ≤ a0) (g_bf : n0 ≤ bf) :
    MetFree l (⟨"com/example/ketchup/ketchup/negentropy/MessageWriter", "mark", "()V"⟩ : MethodName) (head1 (Jvm.Cond.code (⟨"com/example/ketchup/ketchup/negentropy/MessageWriter", "mark", "()V"⟩ : MethodName) prog_18_method_3_code 1 none :: ws) ({ frames := 0, cells := 0, slots := 0, locals := 0 } : Room)) (fun a U => a = #[(.ref a0)] ∧ Z.Warmed39 U.vm ∧ U.heap = h0) (fun _ _ _ _ _ => True) (fun _ U o U' => ∃ v L, o = .returned v ∧ own_Q_mark Z a0 bf kb vs sz pt ms mp h0 n0 v U'.heap L ∧ FrameEnd U o U' L ({ frames := 0, cells := 0, slots := 0, locals := 0 } : Room).cells ({ frames := 0, cells := 0, slots := 0, locals := 0 } : Room).slots) := by
  refine MetFree.of_bodySF (plainFor_of_name own_pn0) hisR ?_
  intro p e s m args below meth c s₁ Bd hml0 hP hK
  obtain ⟨rfl, hZ, hh⟩ := hP
  have hx := Bd.exec
  have hby := Bd.bytes
  have hlk : meth.locks = false := BodyLoose.notSynchronized Bd
  have hml : c.maxLocals = 1 := hml0
  have hown : s.vm.findClass "com/example/ketchup/ketchup/negentropy/MessageWriter" = some m.cls := findClass_of_methodNamed Bd.named
  have hnm := (name_of_methodNamed Bd.named Bd.method).1
  have X0 : Stand p l e ({ frames := 0, cells := 0, slots := 0, locals := 0 } : Room) s m #[(.ref a0)] below meth c s₁ [] 0 0 := Stand.of_body Bd
  have e0 : s₁.heap = h0 := by rw [← hh, Bd.state]; rfl
  have N0 := Fr.nil n0
  have K0 : Keep h0 h0 [a0] := Keep.refl _ _
  have pre0 : ∀ t, Steps p.tables e below (s₁.setTop (mkF m 0 #[.val (.ref a0)] [])) t → Steps p.tables e below (s₁.setTop (entryFrame m #[(.ref a0)] 1)) t := fun t k => castTop (own_ef_5 m a0) k
  show own_Ends p.tables e below (own_Q s (own_Q_mark Z a0 bf kb vs sz pt ms mp h0 n0) ({ frames := 0, cells := 0, slots := 0, locals := 0 } : Room).cells ({ frames := 0, cells := 0, slots := 0, locals := 0 } : Room).slots) (s₁.setTop (entryFrame m #[(.ref a0)] 1))
  refine own_step pre0 ?_
  show own_Ends p.tables e below _ (s₁.setTop (mkF m 0 #[.val (.ref a0)] []))
  refine own_step (fun _ k => XS.aloadN X0.here hx rfl (hb hby own_d5_0) rfl rfl k) ?_
  show own_Ends p.tables e below _ (s₁.setTop (mkF m 1 #[.val (.ref a0)] [(.ref a0)]))
  refine own_step (fun _ k => XS.aloadN X0.here hx rfl (hb hby own_d5_1) rfl rfl k) ?_
  show own_Ends p.tables e below _ (s₁.setTop (mkF m 2 #[.val (.ref a0)] [(.ref a0), (.ref a0)]))
  obtain ⟨T1, X1, e1, st1⟩ := getF X0 hx hZ hown (host := "") (Or.inl (hw _ (List.mem_of_getElem? (i := 29) rfl))) Via.refl e0 F_size (g := (mkF m 2 #[.val (.ref a0)] [(.ref a0), (.ref a0)])) rfl rfl (hb hby own_d5_2)
  refine own_step st1 ?_
  show own_Ends p.tables e below _ (T1.setTop (mkF m 5 #[.val (.ref a0)] [(.int (Int32.ofNat sz)), (.ref a0)]))
  obtain ⟨T2, h2, X2, e2, W2, st2⟩ := putF X1 hx hZ hown (host := "") (Or.inl (hw _ (List.mem_of_getElem? (i := 40) rfl))) Via.refl e1 F_markedSize E_a0 (Or.inl (hw _ (List.mem_of_getElem? (i := 41) rfl))) (hw _ (List.mem_of_getElem? (i := 17) rfl)) (ty := .int) (by decide) rfl rfl (g := (mkF m 5 #[.val (.ref a0)] [(.int (Int32.ofNat sz)), (.ref a0)])) rfl rfl (hb hby own_d5_5)
  refine own_step st2 ?_
  have F_buffer_2 := F_buffer.other W2 (Or.inr (slot_ne (Or.inl (hw _ (List.mem_of_getElem? (i := 24) rfl))) (Or.inl (hw _ (List.mem_of_getElem? (i := 41) rfl))) (by decide) (t := (.array .byte)) (t' := .int) (by decide) (by decide)))
  have F_size_2 := F_size.other W2 (Or.inr (slot_ne (Or.inl (hw _ (List.mem_of_getElem? (i := 30) rfl))) (Or.inl (hw _ (List.mem_of_getElem? (i := 41) rfl))) (by decide) (t := .int) (t' := .int) (by decide) (by decide)))
  have F_previousTimestamp_2 := F_previousTimestamp.other W2 (Or.inr (slot_ne (Or.inl (hw _ (List.mem_of_getElem? (i := 43) rfl))) (Or.inl (hw _ (List.mem_of_getElem? (i := 41) rfl))) (by decide) (t := .long) (t' := .int) (by decide) (by decide)))
  have F_markedSize_2 := F_markedSize.same W2
  have F_markedPreviousTimestamp_2 := F_markedPreviousTimestamp.other W2 (Or.inr (slot_ne (Or.inl (hw _ (List.mem_of_getElem? (i := 45) rfl))) (Or.inl (hw _ (List.mem_of_getElem? (i := 41) rfl))) (by decide) (t := .long) (t' := .int) (by decide) (by decide)))
  have E_a0_2 := E_a0.wr W2
  have V_bf_2 := V_bf.other W2 (Ne.symm ne_ab)
  have K_2 : Keep h0 h2 [a0] := K0.wr W2 (Or.inl (List.mem_of_getElem? (i := 0) rfl))
  have Z_2 : n0 ≤ h2.size := Nat.le_trans Z0 (Keep.of_wr W2).1
  have N_2 := Fr.snoc X2 N0 g_a0
  show own_Ends p.tables e below _ (T2.setTop (mkF m 8 #[.val (.ref a0)] []))
  refine own_step (fun _ k => XS.aloadN X2.here hx rfl (hb hby own_d5_8) rfl rfl k) ?_
  show own_Ends p.tables e below _ (T2.setTop (mkF m 9 #[.val (.ref a0)] [(.ref a0)]))
  refine own_step (fun _ k => XS.aloadN X2.here hx rfl (hb hby own_d5_9) rfl rfl k) ?_
  show own_Ends p.tables e below _ (T2.setTop (mkF m 10 #[.val (.ref a0)] [(.ref a0), (.ref a0)]))
  obtain ⟨T3, X3, e3, st3⟩ := getF X2 hx hZ hown (host := "") (Or.inl (hw _ (List.mem_of_getElem? (i := 42) rfl))) Via.refl e2 F_previousTimestamp_2 (g := (mkF m 10 #[.val (.ref a0)] [(.ref a0), (.ref a0)])) rfl rfl (hb hby own_d5_10)
  refine own_step st3 ?_
  show own_Ends p.tables e below _ (T3.setTop (mkF m 13 #[.val (.ref a0)] [(.long pt), (.ref a0)]))
  obtain ⟨T4, h4, X4, e4, W4, st4⟩ := putF X3 hx hZ hown (host := "") (Or.inl (hw _ (List.mem_of_getElem? (i := 44) rfl))) Via.refl e3 F_markedPreviousTimestamp_2 E_a0_2 (Or.inl (hw _ (List.mem_of_getElem? (i := 45) rfl))) (hw _ (List.mem_of_getElem? (i := 17) rfl)) (ty := .long) (by decide) rfl rfl (g := (mkF m 13 #[.val (.ref a0)] [(.long pt), (.ref a0)])) rfl rfl (hb hby own_d5_13)
  refine own_step st4 ?_
  have F_buffer_4 := F_buffer_2.other W4 (Or.inr (slot_ne (Or.inl (hw _ (List.mem_of_getElem? (i := 24) rfl))) (Or.inl (hw _ (List.mem_of_getElem? (i := 45) rfl))) (by decide) (t := (.array .byte)) (t' := .long) (by decide) (by decide)))
  have F_size_4 := F_size_2.other W4 (Or.inr (slot_ne (Or.inl (hw _ (List.mem_of_getElem? (i := 30) rfl))) (Or.inl (hw _ (List.mem_of_getElem? (i := 45) rfl))) (by decide) (t := .int) (t' := .long) (by decide) (by decide)))
  have F_previousTimestamp_4 := F_previousTimestamp_2.other W4 (Or.inr (slot_ne (Or.inl (hw _ (List.mem_of_getElem? (i := 43) rfl))) (Or.inl (hw _ (List.mem_of_getElem? (i := 45) rfl))) (by decide) (t := .long) (t' := .long) (by decide) (by decide)))
  have F_markedSize_4 := F_markedSize_2.other W4 (Or.inr (slot_ne (Or.inl (hw _ (List.mem_of_getElem? (i := 41) rfl))) (Or.inl (hw _ (List.mem_of_getElem? (i := 45) rfl))) (by decide) (t := .int) (t' := .long) (by decide) (by decide)))
  have F_markedPreviousTimestamp_4 := F_markedPreviousTimestamp_2.same W4
  have E_a0_4 := E_a0_2.wr W4
  have V_bf_4 := V_bf_2.other W4 (Ne.symm ne_ab)
  have K_4 : Keep h0 h4 [a0] := K_2.wr W4 (Or.inl (List.mem_of_getElem? (i := 0) rfl))
  have Z_4 : n0 ≤ h4.size := Nat.le_trans Z_2 (Keep.of_wr W4).1
  have N_4 := Fr.snoc X4 N_2 g_a0
  show own_Ends p.tables e below _ (T4.setTop (mkF m 16 #[.val (.ref a0)] []))
  exact own_ret0 X4 hx hlk (by decide) (by decide) Bd.returns (hb hby own_d5_16) (by rw [e4]; exact ⟨rfl, N_4, K_4, F_buffer_4, F_size_4, F_previousTimestamp_4, F_markedSize_4, F_markedPreviousTimestamp_4⟩)
theorem own_d12_0 : decode prog_18_method_4_code 0 = .ok (.aload_n 0, 1) := by decide +kernel
theorem own_d12_1 : decode prog_18_method_4_code 1 = .ok (.aload_n 0, 1) := by decide +kernel
theorem own_d12_2 : decode prog_18_method_4_code 2 = .ok (.getfield 24, 3) := by decide +kernel
theorem own_d12_5 : decode prog_18_method_4_code 5 = .ok (.putfield 20, 3) := by decide +kernel
theorem own_d12_8 : decode prog_18_method_4_code 8 = .ok (.aload_n 0, 1) := by decide +kernel
theorem own_d12_9 : decode prog_18_method_4_code 9 = .ok (.aload_n 0, 1) := by decide +kernel
theorem own_d12_10 : decode prog_18_method_4_code 10 = .ok (.getfield 31, 3) := by decide +kernel
theorem own_d12_13 : decode prog_18_method_4_code 13 = .ok (.putfield 27, 3) := by decide +kernel
theorem own_d12_16 : decode prog_18_method_4_code 16 = .ok (.return_, 1) := by decide +kernel
theorem own_ef_12 (m : MethodId) (x0 : Addr) : entryFrame m #[(.ref x0)] 1 = mkF m 0 #[.val (.ref x0)] [] := by first | (simp [entryFrame, mkF, argsToLocals, Value.category]; done) | rfl
def own_Q_reset (Z : State) (a0 : Addr) (bf : Addr) (kb : ClassId) (vs : List Value) (sz : Nat) (pt : Int64) (ms : Int32) (mp : Int64) (h0 : Heap) (n0 : Nat) (v : Option Value) (h : Heap) (L : List Loc) : Prop := v = none ∧ Fr n0 L ∧ Keep h0 h [a0] ∧ Fld Z h a0 "com/example/ketchup/ketchup/negentropy/MessageWriter" "buffer" "[B" (.ref bf) ∧ Fld Z h a0 "com/example/ketchup/ketchup/negentropy/MessageWriter" "size" "I" (.int ms) ∧ Fld Z h a0 "com/example/ketchup/ketchup/negentropy/MessageWriter" "previousTimestamp" "J" (.long mp) ∧ Fld Z h a0 "com/example/ketchup/ketchup/negentropy/MessageWriter" "markedSize" "I" (.int ms) ∧ Fld Z h a0 "com/example/ketchup/ketchup/negentropy/MessageWriter" "markedPreviousTimestamp" "J" (.long mp)
set_option maxRecDepth 65536 in
set_option maxHeartbeats 40000000 in
theorem own_rm_reset (l : Launch) (Z : State) (aw : Array Value) (hw : ∀ d ∈ tables_1, d.before aw Z = true) (ws : List Jvm.Cond) (a0 : Addr) (bf : Addr) (kb : ClassId) (vs : List Value) (sz : Nat) (pt : Int64) (ms : Int32) (mp : Int64) (h0 : Heap) (n0 : Nat) (Z0 : n0 ≤ h0.size) (E_a0 : Exa Z h0 a0 "com/example/ketchup/ketchup/negentropy/MessageWriter") (F_buffer : Fld Z h0 a0 "com/example/ketchup/ketchup/negentropy/MessageWriter" "buffer" "[B" (.ref bf)) (F_size : Fld Z h0 a0 "com/example/ketchup/ketchup/negentropy/MessageWriter" "size" "I" (.int (Int32.ofNat sz))) (F_previousTimestamp : Fld Z h0 a0 "com/example/ketchup/ketchup/negentropy/MessageWriter" "previousTimestamp" "J" (.long pt)) (F_markedSize : Fld Z h0 a0 "com/example/ketchup/ketchup/negentropy/MessageWriter" "markedSize" "I" (.int ms)) (F_markedPreviousTimestamp : Fld Z h0 a0 "com/example/ketchup/ketchup/negentropy/MessageWriter" "markedPreviousTimestamp" "J" (.long mp)) (V_bf : Arv Z h0 bf kb .byte (256 : Int32) vs (Value.int (0 : Int32))) (hvs : vs.length = 256) (ne_ab : a0 ≠ bf) (g_a0 : n0 ≤ a0) (g_bf : n0 ≤ bf) :
    MetFree l (⟨"com/example/ketchup/ketchup/negentropy/MessageWriter", "reset", "()V"⟩ : MethodName) (head1 (Jvm.Cond.code (⟨"com/example/ketchup/ketchup/negentropy/MessageWriter", "reset", "()V"⟩ : MethodName) prog_18_method_4_code 1 none :: ws) ({ frames := 0, cells := 0, slots := 0, locals := 0 } : Room)) (fun a U => a = #[(.ref a0)] ∧ Z.Warmed39 U.vm ∧ U.heap = h0) (fun _ _ _ _ _ => True) (fun _ U o U' => ∃ v L, o = .returned v ∧ own_Q_reset Z a0 bf kb vs sz pt ms mp h0 n0 v U'.heap L ∧ FrameEnd U o U' L ({ frames := 0, cells := 0, slots := 0, locals := 0 } : Room).cells ({ frames := 0, cells := 0, slots := 0, locals := 0 } : Room).slots) := by
  refine MetFree.of_bodySF (plainFor_of_name own_pn0) hisR ?_
  intro p e s m args below meth c s₁ Bd hml0 hP hK
  obtain ⟨rfl, hZ, hh⟩ := hP
  have hx := Bd.exec
  have hby := Bd.bytes
  have hlk : meth.locks = false := BodyLoose.notSynchronized Bd
  have hml : c.maxLocals = 1 := hml0
  have hown : s.vm.findClass "com/example/ketchup/ketchup/negentropy/MessageWriter" = some m.cls := findClass_of_methodNamed Bd.named
  have hnm := (name_of_methodNamed Bd.named Bd.method).1
  have X0 : Stand p l e ({ frames := 0, cells := 0, slots := 0, locals := 0 } : Room) s m #[(.ref a0)] below meth c s₁ [] 0 0 := Stand.of_body Bd
  have e0 : s₁.heap = h0 := by rw [← hh, Bd.state]; rfl
  have N0 := Fr.nil n0
  have K0 : Keep h0 h0 [a0] := Keep.refl _ _
  have pre0 : ∀ t, Steps p.tables e below (s₁.setTop (mkF m 0 #[.val (.ref a0)] [])) t → Steps p.tables e below (s₁.setTop (entryFrame m #[(.ref a0)] 1)) t := fun t k => castTop (own_ef_12 m a0) k
  show own_Ends p.tables e below (own_Q s (own_Q_reset Z a0 bf kb vs sz pt ms mp h0 n0) ({ frames := 0, cells := 0, slots := 0, locals := 0 } : Room).cells ({ frames := 0, cells := 0, slots := 0, locals := 0 } : Room).slots) (s₁.setTop (entryFrame m #[(.ref a0)] 1))
  refine own_step pre0 ?_
  show own_Ends p.tables e below _ (s₁.setTop (mkF m 0 #[.val (.ref a0)] []))
  refine own_step (fun _ k => XS.aloadN X0.here hx rfl (hb hby own_d12_0) rfl rfl k) ?_
  show own_Ends p.tables e below _ (s₁.setTop (mkF m 1 #[.val (.ref a0)] [(.ref a0)]))
  refine own_step (fun _ k => XS.aloadN X0.here hx rfl (hb hby own_d12_1) rfl rfl k) ?_
  show own_Ends p.tables e below _ (s₁.setTop (mkF m 2 #[.val (.ref a0)] [(.ref a0), (.ref a0)]))
  obtain ⟨T1, X1, e1, st1⟩ := getF X0 hx hZ hown (host := "") (Or.inl (hw _ (List.mem_of_getElem? (i := 40) rfl))) Via.refl e0 F_markedSize (g := (mkF m 2 #[.val (.ref a0)] [(.ref a0), (.ref a0)])) rfl rfl (hb hby own_d12_2)
  refine own_step st1 ?_
  show own_Ends p.tables e below _ (T1.setTop (mkF m 5 #[.val (.ref a0)] [(.int ms), (.ref a0)]))
  obtain ⟨T2, h2, X2, e2, W2, st2⟩ := putF X1 hx hZ hown (host := "") (Or.inl (hw _ (List.mem_of_getElem? (i := 29) rfl))) Via.refl e1 F_size E_a0 (Or.inl (hw _ (List.mem_of_getElem? (i := 30) rfl))) (hw _ (List.mem_of_getElem? (i := 17) rfl)) (ty := .int) (by decide) rfl rfl (g := (mkF m 5 #[.val (.ref a0)] [(.int ms), (.ref a0)])) rfl rfl (hb hby own_d12_5)
  refine own_step st2 ?_
  have F_buffer_2 := F_buffer.other W2 (Or.inr (slot_ne (Or.inl (hw _ (List.mem_of_getElem? (i := 24) rfl))) (Or.inl (hw _ (List.mem_of_getElem? (i := 30) rfl))) (by decide) (t := (.array .byte)) (t' := .int) (by decide) (by decide)))
  have F_size_2 := F_size.same W2
  have F_previousTimestamp_2 := F_previousTimestamp.other W2 (Or.inr (slot_ne (Or.inl (hw _ (List.mem_of_getElem? (i := 43) rfl))) (Or.inl (hw _ (List.mem_of_getElem? (i := 30) rfl))) (by decide) (t := .long) (t' := .int) (by decide) (by decide)))
  have F_markedSize_2 := F_markedSize.other W2 (Or.inr (slot_ne (Or.inl (hw _ (List.mem_of_getElem? (i := 41) rfl))) (Or.inl (hw _ (List.mem_of_getElem? (i := 30) rfl))) (by decide) (t := .int) (t' := .int) (by decide) (by decide)))
  have F_markedPreviousTimestamp_2 := F_markedPreviousTimestamp.other W2 (Or.inr (slot_ne (Or.inl (hw _ (List.mem_of_getElem? (i := 45) rfl))) (Or.inl (hw _ (List.mem_of_getElem? (i := 30) rfl))) (by decide) (t := .long) (t' := .int) (by decide) (by decide)))
  have E_a0_2 := E_a0.wr W2
  have V_bf_2 := V_bf.other W2 (Ne.symm ne_ab)
  have K_2 : Keep h0 h2 [a0] := K0.wr W2 (Or.inl (List.mem_of_getElem? (i := 0) rfl))
  have Z_2 : n0 ≤ h2.size := Nat.le_trans Z0 (Keep.of_wr W2).1
  have N_2 := Fr.snoc X2 N0 g_a0
  show own_Ends p.tables e below _ (T2.setTop (mkF m 8 #[.val (.ref a0)] []))
  refine own_step (fun _ k => XS.aloadN X2.here hx rfl (hb hby own_d12_8) rfl rfl k) ?_
  show own_Ends p.tables e below _ (T2.setTop (mkF m 9 #[.val (.ref a0)] [(.ref a0)]))
  refine own_step (fun _ k => XS.aloadN X2.here hx rfl (hb hby own_d12_9) rfl rfl k) ?_
  show own_Ends p.tables e below _ (T2.setTop (mkF m 10 #[.val (.ref a0)] [(.ref a0), (.ref a0)]))
  obtain ⟨T3, X3, e3, st3⟩ := getF X2 hx hZ hown (host := "") (Or.inl (hw _ (List.mem_of_getElem? (i := 44) rfl))) Via.refl e2 F_markedPreviousTimestamp_2 (g := (mkF m 10 #[.val (.ref a0)] [(.ref a0), (.ref a0)])) rfl rfl (hb hby own_d12_10)
  refine own_step st3 ?_
  show own_Ends p.tables e below _ (T3.setTop (mkF m 13 #[.val (.ref a0)] [(.long mp), (.ref a0)]))
  obtain ⟨T4, h4, X4, e4, W4, st4⟩ := putF X3 hx hZ hown (host := "") (Or.inl (hw _ (List.mem_of_getElem? (i := 42) rfl))) Via.refl e3 F_previousTimestamp_2 E_a0_2 (Or.inl (hw _ (List.mem_of_getElem? (i := 43) rfl))) (hw _ (List.mem_of_getElem? (i := 17) rfl)) (ty := .long) (by decide) rfl rfl (g := (mkF m 13 #[.val (.ref a0)] [(.long mp), (.ref a0)])) rfl rfl (hb hby own_d12_13)
  refine own_step st4 ?_
  have F_buffer_4 := F_buffer_2.other W4 (Or.inr (slot_ne (Or.inl (hw _ (List.mem_of_getElem? (i := 24) rfl))) (Or.inl (hw _ (List.mem_of_getElem? (i := 43) rfl))) (by decide) (t := (.array .byte)) (t' := .long) (by decide) (by decide)))
  have F_size_4 := F_size_2.other W4 (Or.inr (slot_ne (Or.inl (hw _ (List.mem_of_getElem? (i := 30) rfl))) (Or.inl (hw _ (List.mem_of_getElem? (i := 43) rfl))) (by decide) (t := .int) (t' := .long) (by decide) (by decide)))
  have F_previousTimestamp_4 := F_previousTimestamp_2.same W4
  have F_markedSize_4 := F_markedSize_2.other W4 (Or.inr (slot_ne (Or.inl (hw _ (List.mem_of_getElem? (i := 41) rfl))) (Or.inl (hw _ (List.mem_of_getElem? (i := 43) rfl))) (by decide) (t := .int) (t' := .long) (by decide) (by decide)))
  have F_markedPreviousTimestamp_4 := F_markedPreviousTimestamp_2.other W4 (Or.inr (slot_ne (Or.inl (hw _ (List.mem_of_getElem? (i := 45) rfl))) (Or.inl (hw _ (List.mem_of_getElem? (i := 43) rfl))) (by decide) (t := .long) (t' := .long) (by decide) (by decide)))
  have E_a0_4 := E_a0_2.wr W4
  have V_bf_4 := V_bf_2.other W4 (Ne.symm ne_ab)
  have K_4 : Keep h0 h4 [a0] := K_2.wr W4 (Or.inl (List.mem_of_getElem? (i := 0) rfl))
  have Z_4 : n0 ≤ h4.size := Nat.le_trans Z_2 (Keep.of_wr W4).1
  have N_4 := Fr.snoc X4 N_2 g_a0
  show own_Ends p.tables e below _ (T4.setTop (mkF m 16 #[.val (.ref a0)] []))
  exact own_ret0 X4 hx hlk (by decide) (by decide) Bd.returns (hb hby own_d12_16) (by rw [e4]; exact ⟨rfl, N_4, K_4, F_buffer_4, F_size_4, F_previousTimestamp_4, F_markedSize_4, F_markedPreviousTimestamp_4⟩)
theorem own_pd0 : parseMethodDescriptor "([BI)[B" = some ⟨[(.array .byte), .int], some (.array .byte)⟩ := by decide +kernel
theorem own_pd1 : parseMethodDescriptor "(Ljava/lang/Object;ILjava/lang/Object;II)V" = some ⟨[(.object "java/lang/Object"), .int, (.object "java/lang/Object"), .int, .int], none⟩ := by decide +kernel
theorem own_d4_0 : decode prog_18_method_11_code 0 = .ok (.aload_n 0, 1) := by decide +kernel
theorem own_d4_1 : decode prog_18_method_11_code 1 = .ok (.getfield 7, 3) := by decide +kernel
theorem own_d4_4 : decode prog_18_method_11_code 4 = .ok (.arraylength, 1) := by decide +kernel
theorem own_d4_5 : decode prog_18_method_11_code 5 = .ok (.aload_n 0, 1) := by decide +kernel
theorem own_d4_6 : decode prog_18_method_11_code 6 = .ok (.getfield 20, 3) := by decide +kernel
theorem own_d4_9 : decode prog_18_method_11_code 9 = .ok (.isub, 1) := by decide +kernel
theorem own_d4_10 : decode prog_18_method_11_code 10 = .ok (.aload_n 1, 1) := by decide +kernel
theorem own_d4_11 : decode prog_18_method_11_code 11 = .ok (.arraylength, 1) := by decide +kernel
theorem own_d4_12 : decode prog_18_method_11_code 12 = .ok (.if_icmp .ge 31, 3) := by decide +kernel
theorem own_d4_43 : decode prog_18_method_11_code 43 = .ok (.aload_n 1, 1) := by decide +kernel
theorem own_d4_44 : decode prog_18_method_11_code 44 = .ok (.iconst 0, 1) := by decide +kernel
theorem own_d4_45 : decode prog_18_method_11_code 45 = .ok (.aload_n 0, 1) := by decide +kernel
theorem own_d4_46 : decode prog_18_method_11_code 46 = .ok (.getfield 7, 3) := by decide +kernel
theorem own_d4_49 : decode prog_18_method_11_code 49 = .ok (.aload_n 0, 1) := by decide +kernel
theorem own_d4_50 : decode prog_18_method_11_code 50 = .ok (.getfield 20, 3) := by decide +kernel
theorem own_d4_53 : decode prog_18_method_11_code 53 = .ok (.aload_n 1, 1) := by decide +kernel
theorem own_d4_54 : decode prog_18_method_11_code 54 = .ok (.arraylength, 1) := by decide +kernel
theorem own_d4_55 : decode prog_18_method_11_code 55 = .ok (.invokestatic 75, 3) := by decide +kernel
theorem own_d4_58 : decode prog_18_method_11_code 58 = .ok (.aload_n 0, 1) := by decide +kernel
theorem own_d4_59 : decode prog_18_method_11_code 59 = .ok (.dup, 1) := by decide +kernel
theorem own_d4_60 : decode prog_18_method_11_code 60 = .ok (.getfield 20, 3) := by decide +kernel
theorem own_d4_63 : decode prog_18_method_11_code 63 = .ok (.aload_n 1, 1) := by decide +kernel
theorem own_d4_64 : decode prog_18_method_11_code 64 = .ok (.arraylength, 1) := by decide +kernel
theorem own_d4_65 : decode prog_18_method_11_code 65 = .ok (.iadd, 1) := by decide +kernel
theorem own_d4_66 : decode prog_18_method_11_code 66 = .ok (.putfield 20, 3) := by decide +kernel
theorem own_d4_69 : decode prog_18_method_11_code 69 = .ok (.return_, 1) := by decide +kernel
theorem own_ef_4 (m : MethodId) (x0 : Addr) (x1 : Addr) : entryFrame m #[(.ref x0), (.ref x1)] 2 = mkF m 0 #[.val (.ref x0), .val (.ref x1)] [] := by first | (simp [entryFrame, mkF, argsToLocals, Value.category]; done) | rfl
def own_Q_write (Z : State) (a0 : Addr) (a1 : Addr) (bf : Addr) (kb : ClassId) (vs : List Value) (sz : Nat) (pt : Int64) (ms : Int32) (mp : Int64) (k1 : ClassId) (n : Nat) (us : List Value) (h0 : Heap) (n0 : Nat) (v : Option Value) (h : Heap) (L : List Loc) : Prop := v = none ∧ Fr n0 L ∧ Keep h0 h [a0, bf] ∧ Fld Z h a0 "com/example/ketchup/ketchup/negentropy/MessageWriter" "buffer" "[B" (.ref bf) ∧ Fld Z h a0 "com/example/ketchup/ketchup/negentropy/MessageWriter" "size" "I" (.int (Int32.ofNat (sz + n))) ∧ Fld Z h a0 "com/example/ketchup/ketchup/negentropy/MessageWriter" "previousTimestamp" "J" (.long pt) ∧ Fld Z h a0 "com/example/ketchup/ketchup/negentropy/MessageWriter" "markedSize" "I" (.int ms) ∧ Fld Z h a0 "com/example/ketchup/ketchup/negentropy/MessageWriter" "markedPreviousTimestamp" "J" (.long mp) ∧ Arv Z h bf kb .byte (256 : Int32) (own_put vs sz n us) (Value.int (0 : Int32))
set_option maxRecDepth 65536 in
set_option maxHeartbeats 40000000 in
theorem own_rm_write (l : Launch) (Z : State) (aw : Array Value) (hw : ∀ d ∈ tables_1, d.before aw Z = true) (ws : List Jvm.Cond) (a0 : Addr) (a1 : Addr) (bf : Addr) (kb : ClassId) (vs : List Value) (sz : Nat) (pt : Int64) (ms : Int32) (mp : Int64) (k1 : ClassId) (n : Nat) (us : List Value) (h0 : Heap) (n0 : Nat) (Z0 : n0 ≤ h0.size) (E_a0 : Exa Z h0 a0 "com/example/ketchup/ketchup/negentropy/MessageWriter") (F_buffer : Fld Z h0 a0 "com/example/ketchup/ketchup/negentropy/MessageWriter" "buffer" "[B" (.ref bf)) (F_size : Fld Z h0 a0 "com/example/ketchup/ketchup/negentropy/MessageWriter" "size" "I" (.int (Int32.ofNat sz))) (F_previousTimestamp : Fld Z h0 a0 "com/example/ketchup/ketchup/negentropy/MessageWriter" "previousTimestamp" "J" (.long pt)) (F_markedSize : Fld Z h0 a0 "com/example/ketchup/ketchup/negentropy/MessageWriter" "markedSize" "I" (.int ms)) (F_markedPreviousTimestamp : Fld Z h0 a0 "com/example/ketchup/ketchup/negentropy/MessageWriter" "markedPreviousTimestamp" "J" (.long mp)) (V_bf : Arv Z h0 bf kb .byte (256 : Int32) vs (Value.int (0 : Int32))) (hvs : vs.length = 256) (ne_ab : a0 ≠ bf) (g_a0 : n0 ≤ a0) (g_bf : n0 ≤ bf) (V_a1 : Arv Z h0 a1 k1 .byte (Int32.ofNat n) us (Value.int (0 : Int32))) (ne_b1 : bf ≠ a1) (ne_a1 : a0 ≠ a1) (hfit : sz + n ≤ 256) :
    MetFree l (⟨"com/example/ketchup/ketchup/negentropy/MessageWriter", "write", "([B)V"⟩ : MethodName) (head1 (Jvm.Cond.code (⟨"com/example/ketchup/ketchup/negentropy/MessageWriter", "write", "([B)V"⟩ : MethodName) prog_18_method_11_code 2 none :: ws) ({ frames := 1, cells := 0, slots := 0, locals := 19 } : Room)) (fun a U => a = #[(.ref a0), (.ref a1)] ∧ Z.Warmed39 U.vm ∧ U.heap = h0) (fun _ _ _ _ _ => True) (fun _ U o U' => ∃ v L, o = .returned v ∧ own_Q_write Z a0 a1 bf kb vs sz pt ms mp k1 n us h0 n0 v U'.heap L ∧ FrameEnd U o U' L ({ frames := 1, cells := 0, slots := 0, locals := 19 } : Room).cells ({ frames := 1, cells := 0, slots := 0, locals := 19 } : Room).slots) := by
  refine MetFree.of_bodySF (plainFor_of_name own_pn0) hisR ?_
  intro p e s m args below meth c s₁ Bd hml0 hP hK
  obtain ⟨rfl, hZ, hh⟩ := hP
  have hx := Bd.exec
  have hby := Bd.bytes
  have hlk : meth.locks = false := BodyLoose.notSynchronized Bd
  have hml : c.maxLocals = 2 := hml0
  have hown : s.vm.findClass "com/example/ketchup/ketchup/negentropy/MessageWriter" = some m.cls := findClass_of_methodNamed Bd.named
  have hnm := (name_of_methodNamed Bd.named Bd.method).1
  have X0 : Stand p l e ({ frames := 1, cells := 0, slots := 0, locals := 19 } : Room) s m #[(.ref a0), (.ref a1)] below meth c s₁ [] 0 0 := Stand.of_body Bd
  have e0 : s₁.heap = h0 := by rw [← hh, Bd.state]; rfl
  have N0 := Fr.nil n0
  have K0 : Keep h0 h0 [a0, bf] := Keep.refl _ _
  have pre0 : ∀ t, Steps p.tables e below (s₁.setTop (mkF m 0 #[.val (.ref a0), .val (.ref a1)] [])) t → Steps p.tables e below (s₁.setTop (entryFrame m #[(.ref a0), (.ref a1)] 2)) t := fun t k => castTop (own_ef_4 m a0 a1) k
  show own_Ends p.tables e below (own_Q s (own_Q_write Z a0 a1 bf kb vs sz pt ms mp k1 n us h0 n0) ({ frames := 1, cells := 0, slots := 0, locals := 19 } : Room).cells ({ frames := 1, cells := 0, slots := 0, locals := 19 } : Room).slots) (s₁.setTop (entryFrame m #[(.ref a0), (.ref a1)] 2))
  refine own_step pre0 ?_
  show own_Ends p.tables e below _ (s₁.setTop (mkF m 0 #[.val (.ref a0), .val (.ref a1)] []))
  refine own_step (fun _ k => XS.aloadN X0.here hx rfl (hb hby own_d4_0) rfl rfl k) ?_
  show own_Ends p.tables e below _ (s₁.setTop (mkF m 1 #[.val (.ref a0), .val (.ref a1)] [(.ref a0)]))
  obtain ⟨T1, X1, e1, st1⟩ := getF X0 hx hZ hown (host := "") (Or.inl (hw _ (List.mem_of_getElem? (i := 23) rfl))) Via.refl e0 F_buffer (g := (mkF m 1 #[.val (.ref a0), .val (.ref a1)] [(.ref a0)])) rfl rfl (hb hby own_d4_1)
  refine own_step st1 ?_
  show own_Ends p.tables e below _ (T1.setTop (mkF m 4 #[.val (.ref a0), .val (.ref a1)] [(.ref bf)]))
  obtain ⟨cl2, Ar2, q2, S2, Nn2, H2, G2⟩ := id V_bf
  refine own_step (fun _ k => X1.arraylength hx (by rw [e1]; exact Ar2.1) (State.isArrayOf_alike hZ.alike Ar2.2.1) (g := (mkF m 4 #[.val (.ref a0), .val (.ref a1)] [(.ref bf)])) rfl rfl (hb hby own_d4_4) _ k) ?_
  rw [len_of S2 Nn2]
  show own_Ends p.tables e below _ (T1.setTop (mkF m 5 #[.val (.ref a0), .val (.ref a1)] [(.int (256 : Int32))]))
  refine own_step (fun _ k => XS.aloadN X1.here hx rfl (hb hby own_d4_5) rfl rfl k) ?_
  show own_Ends p.tables e below _ (T1.setTop (mkF m 6 #[.val (.ref a0), .val (.ref a1)] [(.ref a0), (.int (256 : Int32))]))
  obtain ⟨T3, X3, e3, st3⟩ := getF X1 hx hZ hown (host := "") (Or.inl (hw _ (List.mem_of_getElem? (i := 29) rfl))) Via.refl e1 F_size (g := (mkF m 6 #[.val (.ref a0), .val (.ref a1)] [(.ref a0), (.int (256 : Int32))])) rfl rfl (hb hby own_d4_6)
  refine own_step st3 ?_
  show own_Ends p.tables e below _ (T3.setTop (mkF m 9 #[.val (.ref a0), .val (.ref a1)] [(.int (Int32.ofNat sz)), (.int (256 : Int32))]))
  refine own_step (fun _ k => XS.isub X3.here hx rfl (hb hby own_d4_9) rfl k) ?_
  show own_Ends p.tables e below _ (T3.setTop (mkF m 10 #[.val (.ref a0), .val (.ref a1)] [(.int ((256 : Int32) - (Int32.ofNat sz)))]))
  refine own_step (fun _ k => XS.aloadN X3.here hx rfl (hb hby own_d4_10) rfl rfl k) ?_
  show own_Ends p.tables e below _ (T3.setTop (mkF m 11 #[.val (.ref a0), .val (.ref a1)] [(.ref a1), (.int ((256 : Int32) - (Int32.ofNat sz)))]))
  obtain ⟨cl4, Ar4, q4, S4, Nn4, H4, G4⟩ := id V_a1
  refine own_step (fun _ k => X3.arraylength hx (by rw [e3]; exact Ar4.1) (State.isArrayOf_alike hZ.alike Ar4.2.1) (g := (mkF m 11 #[.val (.ref a0), .val (.ref a1)] [(.ref a1), (.int ((256 : Int32) - (Int32.ofNat sz)))])) rfl rfl (hb hby own_d4_11) _ k) ?_
  rw [len_of S4 Nn4]
  show own_Ends p.tables e below _ (T3.setTop (mkF m 12 #[.val (.ref a0), .val (.ref a1)] [(.int (Int32.ofNat n)), (.int ((256 : Int32) - (Int32.ofNat sz)))]))
  refine own_step (fun _ k => XS.icmpYes X3.here hx rfl (pc0 := 12) (pc' := 43) rfl (hb hby own_d4_12) rfl (flt (by rw [show (256 : Int32) = Int32.ofNat 256 from rfl, own_sub (by omega)]; intro q; have := (own_nlt (by omega) (by omega)).mp q; omega)).2.1 (by decide) (by decide) k) ?_
  show own_Ends p.tables e below _ (T3.setTop (mkF m 43 #[.val (.ref a0), .val (.ref a1)] []))
  refine own_step (fun _ k => XS.aloadN X3.here hx rfl (hb hby own_d4_43) rfl rfl k) ?_
  show own_Ends p.tables e below _ (T3.setTop (mkF m 44 #[.val (.ref a0), .val (.ref a1)] [(.ref a1)]))
  refine own_step (fun _ k => XS.iconst X3.here hx rfl (hb hby own_d4_44) k) ?_
  show own_Ends p.tables e below _ (T3.setTop (mkF m 45 #[.val (.ref a0), .val (.ref a1)] [(.int (0 : Int32)), (.ref a1)]))
  refine own_step (fun _ k => XS.aloadN X3.here hx rfl (hb hby own_d4_45) rfl rfl k) ?_
  show own_Ends p.tables e below _ (T3.setTop (mkF m 46 #[.val (.ref a0), .val (.ref a1)] [(.ref a0), (.int (0 : Int32)), (.ref a1)]))
  obtain ⟨T5, X5, e5, st5⟩ := getF X3 hx hZ hown (host := "") (Or.inl (hw _ (List.mem_of_getElem? (i := 23) rfl))) Via.refl e3 F_buffer (g := (mkF m 46 #[.val (.ref a0), .val (.ref a1)] [(.ref a0), (.int (0 : Int32)), (.ref a1)])) rfl rfl (hb hby own_d4_46)
  refine own_step st5 ?_
  show own_Ends p.tables e below _ (T5.setTop (mkF m 49 #[.val (.ref a0), .val (.ref a1)] [(.ref bf), (.int (0 : Int32)), (.ref a1)]))
  refine own_step (fun _ k => XS.aloadN X5.here hx rfl (hb hby own_d4_49) rfl rfl k) ?_
  show own_Ends p.tables e below _ (T5.setTop (mkF m 50 #[.val (.ref a0), .val (.ref a1)] [(.ref a0), (.ref bf), (.int (0 : Int32)), (.ref a1)]))
  obtain ⟨T6, X6, e6, st6⟩ := getF X5 hx hZ hown (host := "") (Or.inl (hw _ (List.mem_of_getElem? (i := 29) rfl))) Via.refl e5 F_size (g := (mkF m 50 #[.val (.ref a0), .val (.ref a1)] [(.ref a0), (.ref bf), (.int (0 : Int32)), (.ref a1)])) rfl rfl (hb hby own_d4_50)
  refine own_step st6 ?_
  show own_Ends p.tables e below _ (T6.setTop (mkF m 53 #[.val (.ref a0), .val (.ref a1)] [(.int (Int32.ofNat sz)), (.ref bf), (.int (0 : Int32)), (.ref a1)]))
  refine own_step (fun _ k => XS.aloadN X6.here hx rfl (hb hby own_d4_53) rfl rfl k) ?_
  show own_Ends p.tables e below _ (T6.setTop (mkF m 54 #[.val (.ref a0), .val (.ref a1)] [(.ref a1), (.int (Int32.ofNat sz)), (.ref bf), (.int (0 : Int32)), (.ref a1)]))
  obtain ⟨cl7, Ar7, q7, S7, Nn7, H7, G7⟩ := id V_a1
  refine own_step (fun _ k => X6.arraylength hx (by rw [e6]; exact Ar7.1) (State.isArrayOf_alike hZ.alike Ar7.2.1) (g := (mkF m 54 #[.val (.ref a0), .val (.ref a1)] [(.ref a1), (.int (Int32.ofNat sz)), (.ref bf), (.int (0 : Int32)), (.ref a1)])) rfl rfl (hb hby own_d4_54) _ k) ?_
  rw [len_of S7 Nn7]
  show own_Ends p.tables e below _ (T6.setTop (mkF m 55 #[.val (.ref a0), .val (.ref a1)] [(.int (Int32.ofNat n)), (.int (Int32.ofNat sz)), (.ref bf), (.int (0 : Int32)), (.ref a1)]))
  obtain ⟨T8, h8, L8, X8, e8, N_8, k8, V_bf_8, st8⟩ := cpA X6 hx hZ hown (hw _ (List.mem_of_getElem? (i := 31) rfl)) (hw _ (List.mem_of_getElem? (i := 34) rfl)) (hw _ (List.mem_of_getElem? (i := 32) rfl)) (hw _ (List.mem_of_getElem? (i := 33) rfl)) e6 V_a1 V_bf (Or.inl ⟨rfl, rfl⟩) (us := _) (by decide) (own_nn (by omega)) (own_nn (by omega)) (by rw [own_clamp (by omega)]; show 0 + n ≤ n; omega) (by rw [own_clamp (by omega), own_clamp (by omega)]; show sz + n ≤ 256; omega) rfl (by rw [own_clamp (by omega), own_clamp (by omega), hvs]; omega) N0 g_bf (g := (mkF m 55 #[.val (.ref a0), .val (.ref a1)] [(.int (Int32.ofNat n)), (.int (Int32.ofNat sz)), (.ref bf), (.int (0 : Int32)), (.ref a1)])) rfl (by rw [hml]; rfl) rfl (hb hby own_d4_55) (by decide) (W := 0) (by show 2 * 0 + _ ≤ _; exact Nat.le_of_eq rfl) (by decide)
  refine own_step st8 ?_
  have F_buffer_8 := F_buffer.keep k8 (ninS ne_ab nin0)
  have F_size_8 := F_size.keep k8 (ninS ne_ab nin0)
  have F_previousTimestamp_8 := F_previousTimestamp.keep k8 (ninS ne_ab nin0)
  have F_markedSize_8 := F_markedSize.keep k8 (ninS ne_ab nin0)
  have F_markedPreviousTimestamp_8 := F_markedPreviousTimestamp.keep k8 (ninS ne_ab nin0)
  have E_a0_8 := E_a0.keep k8
  have V_a1_8 := V_a1.keep k8 (ninS (Ne.symm ne_b1) nin0)
  have K_8 : Keep h0 h8 [a0, bf] := K0.trans k8 (allS (Or.inl (List.mem_of_getElem? (i := 1) rfl)) all0)
  have Z_8 : n0 ≤ h8.size := Nat.le_trans Z0 k8.1
  have Vp8 : Arv Z h8 bf kb .byte (256 : Int32) (own_put vs sz n us) (Value.int (0 : Int32)) := by rw [← own_cp_put vs us sz n (by omega) (by omega)]; exact V_bf_8
  show own_Ends p.tables e below _ (T8.setTop (mkF m 58 #[.val (.ref a0), .val (.ref a1)] []))
  refine own_step (fun _ k => XS.aloadN X8.here hx rfl (hb hby own_d4_58) rfl rfl k) ?_
  show own_Ends p.tables e below _ (T8.setTop (mkF m 59 #[.val (.ref a0), .val (.ref a1)] [(.ref a0)]))
  refine own_step (fun _ k => XS.dup X8.here hx rfl (hb hby own_d4_59) rfl rfl k) ?_
  show own_Ends p.tables e below _ (T8.setTop (mkF m 60 #[.val (.ref a0), .val (.ref a1)] [(.ref a0), (.ref a0)]))
  obtain ⟨T9, X9, e9, st9⟩ := getF X8 hx hZ hown (host := "") (Or.inl (hw _ (List.mem_of_getElem? (i := 29) rfl))) Via.refl e8 F_size_8 (g := (mkF m 60 #[.val (.ref a0), .val (.ref a1)] [(.ref a0), (.ref a0)])) rfl rfl (hb hby own_d4_60)
  refine own_step st9 ?_
  show own_Ends p.tables e below _ (T9.setTop (mkF m 63 #[.val (.ref a0), .val (.ref a1)] [(.int (Int32.ofNat sz)), (.ref a0)]))
  refine own_step (fun _ k => XS.aloadN X9.here hx rfl (hb hby own_d4_63) rfl rfl k) ?_
  show own_Ends p.tables e below _ (T9.setTop (mkF m 64 #[.val (.ref a0), .val (.ref a1)] [(.ref a1), (.int (Int32.ofNat sz)), (.ref a0)]))
  obtain ⟨cl10, Ar10, q10, S10, Nn10, H10, G10⟩ := id V_a1_8
  refine own_step (fun _ k => X9.arraylength hx (by rw [e9]; exact Ar10.1) (State.isArrayOf_alike hZ.alike Ar10.2.1) (g := (mkF m 64 #[.val (.ref a0), .val (.ref a1)] [(.ref a1), (.int (Int32.ofNat sz)), (.ref a0)])) rfl rfl (hb hby own_d4_64) _ k) ?_
  rw [len_of S10 Nn10]
  show own_Ends p.tables e below _ (T9.setTop (mkF m 65 #[.val (.ref a0), .val (.ref a1)] [(.int (Int32.ofNat n)), (.int (Int32.ofNat sz)), (.ref a0)]))
  refine own_step (fun _ k => XS.iadd X9.here hx rfl (hb hby own_d4_65) rfl k) ?_
  show own_Ends p.tables e below _ (T9.setTop (mkF m 66 #[.val (.ref a0), .val (.ref a1)] [(.int ((Int32.ofNat sz) + (Int32.ofNat n))), (.ref a0)]))
  rw [show ((Int32.ofNat sz) + (Int32.ofNat n)) = (Int32.ofNat (sz + n)) from own_add sz n]
  show own_Ends p.tables e below _ (T9.setTop (mkF m 66 #[.val (.ref a0), .val (.ref a1)] [(.int (Int32.ofNat (sz + n))), (.ref a0)]))
  obtain ⟨T11, h11, X11, e11, W11, st11⟩ := putF X9 hx hZ hown (host := "") (Or.inl (hw _ (List.mem_of_getElem? (i := 29) rfl))) Via.refl e9 F_size_8 E_a0_8 (Or.inl (hw _ (List.mem_of_getElem? (i := 30) rfl))) (hw _ (List.mem_of_getElem? (i := 17) rfl)) (ty := .int) (by decide) rfl rfl (g := (mkF m 66 #[.val (.ref a0), .val (.ref a1)] [(.int (Int32.ofNat (sz + n))), (.ref a0)])) rfl rfl (hb hby own_d4_66)
  refine own_step st11 ?_
  have F_buffer_11 := F_buffer_8.other W11 (Or.inr (slot_ne (Or.inl (hw _ (List.mem_of_getElem? (i := 24) rfl))) (Or.inl (hw _ (List.mem_of_getElem? (i := 30) rfl))) (by decide) (t := (.array .byte)) (t' := .int) (by decide) (by decide)))
  have F_size_11 := F_size_8.same W11
  have F_previousTimestamp_11 := F_previousTimestamp_8.other W11 (Or.inr (slot_ne (Or.inl (hw _ (List.mem_of_getElem? (i := 43) rfl))) (Or.inl (hw _ (List.mem_of_getElem? (i := 30) rfl))) (by decide) (t := .long) (t' := .int) (by decide) (by decide)))
  have F_markedSize_11 := F_markedSize_8.other W11 (Or.inr (slot_ne (Or.inl (hw _ (List.mem_of_getElem? (i := 41) rfl))) (Or.inl (hw _ (List.mem_of_getElem? (i := 30) rfl))) (by decide) (t := .int) (t' := .int) (by decide) (by decide)))
  have F_markedPreviousTimestamp_11 := F_markedPreviousTimestamp_8.other W11 (Or.inr (slot_ne (Or.inl (hw _ (List.mem_of_getElem? (i := 45) rfl))) (Or.inl (hw _ (List.mem_of_getElem? (i := 30) rfl))) (by decide) (t := .long) (t' := .int) (by decide) (by decide)))
  have E_a0_11 := E_a0_8.wr W11
  have V_a1_11 := V_a1_8.other W11 (Ne.symm ne_a1)
  have Vp8_11 := Vp8.other W11 (Ne.symm ne_ab)
  have K_11 : Keep h0 h11 [a0, bf] := K_8.wr W11 (Or.inl (List.mem_of_getElem? (i := 0) rfl))
  have Z_11 : n0 ≤ h11.size := Nat.le_trans Z_8 (Keep.of_wr W11).1
  have N_11 := Fr.snoc X11 N_8 g_a0
  show own_Ends p.tables e below _ (T11.setTop (mkF m 69 #[.val (.ref a0), .val (.ref a1)] []))
  exact own_ret0 X11 hx hlk (by decide) (by decide) Bd.returns (hb hby own_d4_69) (by rw [e11]; exact ⟨rfl, N_11, K_11, F_buffer_11, F_size_11, F_previousTimestamp_11, F_markedSize_11, F_markedPreviousTimestamp_11, Vp8_11⟩)
theorem own_d8_0 : decode prog_32_method_2_code 0 = .ok (.bipush 10, 2) := by decide +kernel
theorem own_d8_2 : decode prog_32_method_2_code 2 = .ok (.newarray .byte, 2) := by decide +kernel
theorem own_d8_4 : decode prog_32_method_2_code 4 = .ok (.astore_n 2, 1) := by decide +kernel
theorem own_d8_5 : decode prog_32_method_2_code 5 = .ok (.bipush 10, 2) := by decide +kernel
theorem own_d8_7 : decode prog_32_method_2_code 7 = .ok (.istore_n 3, 1) := by decide +kernel
theorem own_d8_8 : decode prog_32_method_2_code 8 = .ok (.lload_n 0, 1) := by decide +kernel
theorem own_d8_9 : decode prog_32_method_2_code 9 = .ok (.lstore 4, 2) := by decide +kernel
theorem own_d8_11 : decode prog_32_method_2_code 11 = .ok (.iinc 3 (-1), 3) := by decide +kernel
theorem own_d8_14 : decode prog_32_method_2_code 14 = .ok (.aload_n 2, 1) := by decide +kernel
theorem own_d8_15 : decode prog_32_method_2_code 15 = .ok (.iload_n 3, 1) := by decide +kernel
theorem own_d8_16 : decode prog_32_method_2_code 16 = .ok (.lload 4, 2) := by decide +kernel
theorem own_d8_18 : decode prog_32_method_2_code 18 = .ok (.ldc2_w 9, 3) := by decide +kernel
theorem own_d8_21 : decode prog_32_method_2_code 21 = .ok (.land, 1) := by decide +kernel
theorem own_d8_22 : decode prog_32_method_2_code 22 = .ok (.l2i, 1) := by decide +kernel
theorem own_d8_23 : decode prog_32_method_2_code 23 = .ok (.i2b, 1) := by decide +kernel
theorem own_d8_24 : decode prog_32_method_2_code 24 = .ok (.bastore, 1) := by decide +kernel
theorem own_d8_25 : decode prog_32_method_2_code 25 = .ok (.lload 4, 2) := by decide +kernel
theorem own_d8_27 : decode prog_32_method_2_code 27 = .ok (.bipush 7, 2) := by decide +kernel
theorem own_d8_29 : decode prog_32_method_2_code 29 = .ok (.lushr, 1) := by decide +kernel
theorem own_d8_30 : decode prog_32_method_2_code 30 = .ok (.lstore 4, 2) := by decide +kernel
theorem own_d8_32 : decode prog_32_method_2_code 32 = .ok (.lload 4, 2) := by decide +kernel
theorem own_d8_34 : decode prog_32_method_2_code 34 = .ok (.lconst 0, 1) := by decide +kernel
theorem own_d8_35 : decode prog_32_method_2_code 35 = .ok (.lcmp, 1) := by decide +kernel
theorem own_d8_36 : decode prog_32_method_2_code 36 = .ok (.ifCond .ne (-25), 3) := by decide +kernel
theorem own_d8_39 : decode prog_32_method_2_code 39 = .ok (.iload_n 3, 1) := by decide +kernel
theorem own_d8_40 : decode prog_32_method_2_code 40 = .ok (.istore 6, 2) := by decide +kernel
theorem own_d8_42 : decode prog_32_method_2_code 42 = .ok (.iload 6, 2) := by decide +kernel
theorem own_d8_44 : decode prog_32_method_2_code 44 = .ok (.bipush 9, 2) := by decide +kernel
theorem own_d8_46 : decode prog_32_method_2_code 46 = .ok (.if_icmp .ge 19, 3) := by decide +kernel
theorem own_d8_65 : decode prog_32_method_2_code 65 = .ok (.bipush 10, 2) := by decide +kernel
theorem own_d8_67 : decode prog_32_method_2_code 67 = .ok (.iload_n 3, 1) := by decide +kernel
theorem own_d8_68 : decode prog_32_method_2_code 68 = .ok (.isub, 1) := by decide +kernel
theorem own_d8_69 : decode prog_32_method_2_code 69 = .ok (.newarray .byte, 2) := by decide +kernel
theorem own_d8_71 : decode prog_32_method_2_code 71 = .ok (.astore 6, 2) := by decide +kernel
theorem own_d8_73 : decode prog_32_method_2_code 73 = .ok (.aload_n 2, 1) := by decide +kernel
theorem own_d8_74 : decode prog_32_method_2_code 74 = .ok (.iload_n 3, 1) := by decide +kernel
theorem own_d8_75 : decode prog_32_method_2_code 75 = .ok (.aload 6, 2) := by decide +kernel
theorem own_d8_77 : decode prog_32_method_2_code 77 = .ok (.iconst 0, 1) := by decide +kernel
theorem own_d8_78 : decode prog_32_method_2_code 78 = .ok (.aload 6, 2) := by decide +kernel
theorem own_d8_80 : decode prog_32_method_2_code 80 = .ok (.arraylength, 1) := by decide +kernel
theorem own_d8_81 : decode prog_32_method_2_code 81 = .ok (.invokestatic 11, 3) := by decide +kernel
theorem own_d8_84 : decode prog_32_method_2_code 84 = .ok (.aload 6, 2) := by decide +kernel
theorem own_d8_86 : decode prog_32_method_2_code 86 = .ok (.areturn, 1) := by decide +kernel
theorem own_pn2 : plainName "com/example/ketchup/ketchup/negentropy/Varint" = true := by first | (simp [plainName, overriddenIn]; done) | decide +kernel
theorem own_ef_8 (m : MethodId) (x0 : Int64) : entryFrame m #[(.long x0)] 7 = mkF m 0 #[.val (.long x0), .second, .unset, .unset, .unset, .unset, .unset] [] := by first | (simp [entryFrame, mkF, argsToLocals, Value.category]; done) | rfl
set_option maxRecDepth 65536 in
set_option maxHeartbeats 40000000 in
theorem own_rm_encode1 (l : Launch) (Z : State) (aw : Array Value) (hw : ∀ d ∈ tables_1, d.before aw Z = true) (ws : List Jvm.Cond) (q0 : Int64) (h0 : Heap) (n0 : Nat) (Z0 : n0 ≤ h0.size) (hq : q0.toUInt64.toNat < 128) :
    MetFree l (⟨"com/example/ketchup/ketchup/negentropy/Varint", "encode", "(J)[B"⟩ : MethodName) (head1 (Jvm.Cond.code (⟨"com/example/ketchup/ketchup/negentropy/Varint", "encode", "(J)[B"⟩ : MethodName) prog_32_method_2_code 7 (some (.array .byte)) :: ws) ({ frames := 1, cells := 2, slots := 20, locals := 18 } : Room)) (fun a U => a = #[(.long q0)] ∧ Z.Warmed39 U.vm ∧ U.heap = h0) (fun _ _ _ _ _ => True) (fun _ U o U' => ∃ v L, o = .returned v ∧ own_QEnc Z q0 h0 n0 v U'.heap L ∧ FrameEnd U o U' L ({ frames := 1, cells := 2, slots := 20, locals := 18 } : Room).cells ({ frames := 1, cells := 2, slots := 20, locals := 18 } : Room).slots) := by
  refine MetFree.of_bodySF (plainFor_of_name own_pn2) hisR ?_
  intro p e s m args below meth c s₁ Bd hml0 hP hK
  obtain ⟨rfl, hZ, hh⟩ := hP
  have hx := Bd.exec
  have hby := Bd.bytes
  have hlk : meth.locks = false := BodyLoose.notSynchronized Bd
  have hml : c.maxLocals = 7 := hml0
  have hown : s.vm.findClass "com/example/ketchup/ketchup/negentropy/Varint" = some m.cls := findClass_of_methodNamed Bd.named
  have hnm := (name_of_methodNamed Bd.named Bd.method).1
  have X0 : Stand p l e ({ frames := 1, cells := 2, slots := 20, locals := 18 } : Room) s m #[(.long q0)] below meth c s₁ [] 0 0 := Stand.of_body Bd
  have e0 : s₁.heap = h0 := by rw [← hh, Bd.state]; rfl
  have N0 := Fr.nil n0
  have K0 : Keep h0 h0 [] := Keep.refl _ _
  have pre0 : ∀ t, Steps p.tables e below (s₁.setTop (mkF m 0 #[.val (.long q0), .second, .unset, .unset, .unset, .unset, .unset] [])) t → Steps p.tables e below (s₁.setTop (entryFrame m #[(.long q0)] 7)) t := fun t k => castTop (own_ef_8 m q0) k
  show own_Ends p.tables e below (own_Q s (own_QEnc Z q0 h0 n0) ({ frames := 1, cells := 2, slots := 20, locals := 18 } : Room).cells ({ frames := 1, cells := 2, slots := 20, locals := 18 } : Room).slots) (s₁.setTop (entryFrame m #[(.long q0)] 7))
  refine own_step pre0 ?_
  show own_Ends p.tables e below _ (s₁.setTop (mkF m 0 #[.val (.long q0), .second, .unset, .unset, .unset, .unset, .unset] []))
  refine own_step (fun _ k => XS.bipush X0.here hx rfl (hb hby own_d8_0) k) ?_
  show own_Ends p.tables e below _ (s₁.setTop (mkF m 2 #[.val (.long q0), .second, .unset, .unset, .unset, .unset, .unset] [(.int (10 : Int32))]))
  obtain ⟨T1, h1, k1, X1, e1, E1, A1, st1⟩ := newP X0 hx hZ (hw _ (List.mem_of_getElem? (i := 1) rfl)) e0 (g := (mkF m 2 #[.val (.long q0), .second, .unset, .unset, .unset, .unset, .unset] [(.int (10 : Int32))])) rfl (hb hby own_d8_2) rfl (by decide) (cap := 10) (by decide) (by decide) (by decide) (by decide)
  obtain ⟨b1, g1⟩ : ∃ z, z = h0.size := ⟨_, rfl⟩
  rw [← g1] at A1 st1
  refine own_step st1 ?_
  have g_b1 : n0 ≤ b1 := Nat.le_trans Z0 (Nat.le_of_eq g1.symm)
  have sz_b1 : h0.size ≤ b1 := Nat.le_trans K0.1 (Nat.le_of_eq g1.symm)
  have K_1 : Keep h0 h1 [] := K0.ext E1
  have Z_1 : n0 ≤ h1.size := Nat.le_trans Z0 E1.1
  have V_b1 : Arv Z h1 b1 k1 .byte (10 : Int32) (List.replicate 10 (.int (0 : Int32))) (.int (0 : Int32)) := (Arv.new A1 (by decide)).pad (pad_rep [] (.int (0 : Int32)) 10)
  show own_Ends p.tables e below _ (T1.setTop (mkF m 4 #[.val (.long q0), .second, .unset, .unset, .unset, .unset, .unset] [(.ref b1)]))
  refine own_step (fun _ k => XS.astoreN X1.here hx rfl (hb hby own_d8_4) rfl rfl (l' := #[.val (.long q0), .second, .val (.ref b1), .unset, .unset, .unset, .unset]) rfl k) ?_
  show own_Ends p.tables e below _ (T1.setTop (mkF m 5 #[.val (.long q0), .second, .val (.ref b1), .unset, .unset, .unset, .unset] []))
  refine own_step (fun _ k => XS.bipush X1.here hx rfl (hb hby own_d8_5) k) ?_
  show own_Ends p.tables e below _ (T1.setTop (mkF m 7 #[.val (.long q0), .second, .val (.ref b1), .unset, .unset, .unset, .unset] [(.int (10 : Int32))]))
  refine own_step (fun _ k => XS.istoreN X1.here hx rfl (hb hby own_d8_7) rfl (l' := #[.val (.long q0), .second, .val (.ref b1), .val (.int (10 : Int32)), .unset, .unset, .unset]) rfl k) ?_
  show own_Ends p.tables e below _ (T1.setTop (mkF m 8 #[.val (.long q0), .second, .val (.ref b1), .val (.int (10 : Int32)), .unset, .unset, .unset] []))
  refine own_step (fun _ k => XS.lloadN X1.here hx rfl (hb hby own_d8_8) rfl k) ?_
  show own_Ends p.tables e below _ (T1.setTop (mkF m 9 #[.val (.long q0), .second, .val (.ref b1), .val (.int (10 : Int32)), .unset, .unset, .unset] [(.long q0)]))
  refine own_step (fun _ k => XS.lstore X1.here hx rfl (hb hby own_d8_9) rfl (l' := #[.val (.long q0), .second, .val (.ref b1), .val (.int (10 : Int32)), .val (.long q0), .second, .unset]) rfl k) ?_
  show own_Ends p.tables e below _ (T1.setTop (mkF m 11 #[.val (.long q0), .second, .val (.ref b1), .val (.int (10 : Int32)), .val (.long q0), .second, .unset] []))
  refine own_step (fun _ k => XS.iinc X1.here hx rfl (hb hby own_d8_11) rfl (l' := #[.val (.long q0), .second, .val (.ref b1), .val (.int ((10 : Int32) + (-1 : Int32))), .val (.long q0), .second, .unset]) rfl k) ?_
  show own_Ends p.tables e below _ (T1.setTop (mkF m 14 #[.val (.long q0), .second, .val (.ref b1), .val (.int ((10 : Int32) + (-1 : Int32))), .val (.long q0), .second, .unset] []))
  rw [show ((10 : Int32) + (-1 : Int32)) = (9 : Int32) from by decide]
  show own_Ends p.tables e below _ (T1.setTop (mkF m 14 #[.val (.long q0), .second, .val (.ref b1), .val (.int (9 : Int32)), .val (.long q0), .second, .unset] []))
  refine own_step (fun _ k => XS.aloadN X1.here hx rfl (hb hby own_d8_14) rfl rfl k) ?_
  show own_Ends p.tables e below _ (T1.setTop (mkF m 15 #[.val (.long q0), .second, .val (.ref b1), .val (.int (9 : Int32)), .val (.long q0), .second, .unset] [(.ref b1)]))
  refine own_step (fun _ k => XS.iloadN X1.here hx rfl (hb hby own_d8_15) rfl k) ?_
  show own_Ends p.tables e below _ (T1.setTop (mkF m 16 #[.val (.long q0), .second, .val (.ref b1), .val (.int (9 : Int32)), .val (.long q0), .second, .unset] [(.int (9 : Int32)), (.ref b1)]))
  refine own_step (fun _ k => XS.lload X1.here hx rfl (hb hby own_d8_16) rfl k) ?_
  show own_Ends p.tables e below _ (T1.setTop (mkF m 18 #[.val (.long q0), .second, .val (.ref b1), .val (.int (9 : Int32)), .val (.long q0), .second, .unset] [(.long q0), (.int (9 : Int32)), (.ref b1)]))
  refine own_step (fun _ k => X1.ldc2Long hx hown (mvT hZ (hw _ (List.mem_of_getElem? (i := 61) rfl))) (g := (mkF m 18 #[.val (.long q0), .second, .val (.ref b1), .val (.int (9 : Int32)), .val (.long q0), .second, .unset] [(.long q0), (.int (9 : Int32)), (.ref b1)])) rfl (hb hby own_d8_18) _ k) ?_
  show own_Ends p.tables e below _ (T1.setTop (mkF m 21 #[.val (.long q0), .second, .val (.ref b1), .val (.int (9 : Int32)), .val (.long q0), .second, .unset] [(.long (127 : Int64)), (.long q0), (.int (9 : Int32)), (.ref b1)]))
  refine own_step (fun _ k => XS.land X1.here hx rfl (hb hby own_d8_21) rfl k) ?_
  show own_Ends p.tables e below _ (T1.setTop (mkF m 22 #[.val (.long q0), .second, .val (.ref b1), .val (.int (9 : Int32)), .val (.long q0), .second, .unset] [(.long (q0 &&& (127 : Int64))), (.int (9 : Int32)), (.ref b1)]))
  refine own_step (fun _ k => XS.l2i X1.here hx rfl (hb hby own_d8_22) rfl k) ?_
  show own_Ends p.tables e below _ (T1.setTop (mkF m 23 #[.val (.long q0), .second, .val (.ref b1), .val (.int (9 : Int32)), .val (.long q0), .second, .unset] [(.int ((q0 &&& (127 : Int64)).toInt32)), (.int (9 : Int32)), (.ref b1)]))
  refine own_step (fun _ k => XS.i2b X1.here hx rfl (hb hby own_d8_23) rfl k) ?_
  show own_Ends p.tables e below _ (T1.setTop (mkF m 24 #[.val (.long q0), .second, .val (.ref b1), .val (.int (9 : Int32)), .val (.long q0), .second, .unset] [(.int (((q0 &&& (127 : Int64)).toInt32).toInt8.toInt32)), (.int (9 : Int32)), (.ref b1)]))
  obtain ⟨cl2, Ar2, q2, S2, Nn2, H2, G2⟩ := id V_b1
  have hin2 : ¬ ((9 : Int32) < 0 ∨ cl2.slots.size ≤ ((9 : Int32)).toNatClampNeg) := inb_of S2 ⟨(by decide), (by decide)⟩
  obtain ⟨T2, h2, X2, e2, W2, st2⟩ := stB X1 hx hZ e1 Ar2 (j := (9 : Int32)) hin2 (g := (mkF m 24 #[.val (.long q0), .second, .val (.ref b1), .val (.int (9 : Int32)), .val (.long q0), .second, .unset] [(.int (((q0 &&& (127 : Int64)).toInt32).toInt8.toInt32)), (.int (9 : Int32)), (.ref b1)])) rfl rfl (hb hby own_d8_24)
  refine own_step st2 ?_
  have K_2 : Keep h0 h2 [] := K_1.wr W2 (Or.inr sz_b1)
  have Z_2 : n0 ≤ h2.size := Nat.le_trans Z_1 (Keep.of_wr W2).1
  have N_2 := Fr.snoc X2 N0 g_b1
  have V_b1_2 : Arv Z h2 b1 k1 .byte (10 : Int32) ((List.replicate 10 (.int (0 : Int32))).set 9 (.int (nar .byte (((q0 &&& (127 : Int64)).toInt32).toInt8.toInt32)))) (.int (0 : Int32)) := Arv.set Ar2 q2 S2 Nn2 H2 G2 (fits_nar_byte _) W2 9 rfl (by simp)
  show own_Ends p.tables e below _ (T2.setTop (mkF m 25 #[.val (.long q0), .second, .val (.ref b1), .val (.int (9 : Int32)), .val (.long q0), .second, .unset] []))
  refine own_step (fun _ k => XS.lload X2.here hx rfl (hb hby own_d8_25) rfl k) ?_
  show own_Ends p.tables e below _ (T2.setTop (mkF m 27 #[.val (.long q0), .second, .val (.ref b1), .val (.int (9 : Int32)), .val (.long q0), .second, .unset] [(.long q0)]))
  refine own_step (fun _ k => XS.bipush X2.here hx rfl (hb hby own_d8_27) k) ?_
  show own_Ends p.tables e below _ (T2.setTop (mkF m 29 #[.val (.long q0), .second, .val (.ref b1), .val (.int (9 : Int32)), .val (.long q0), .second, .unset] [(.int (7 : Int32)), (.long q0)]))
  refine own_step (fun _ k => XS.lushr X2.here hx rfl (hb hby own_d8_29) rfl k) ?_
  show own_Ends p.tables e below _ (T2.setTop (mkF m 30 #[.val (.long q0), .second, .val (.ref b1), .val (.int (9 : Int32)), .val (.long q0), .second, .unset] [(.long ((q0.toUInt64 >>> ((7 : Int32) &&& 0x3f).toInt64.toUInt64).toInt64))]))
  refine own_step (fun _ k => XS.lstore X2.here hx rfl (hb hby own_d8_30) rfl (l' := #[.val (.long q0), .second, .val (.ref b1), .val (.int (9 : Int32)), .val (.long ((q0.toUInt64 >>> ((7 : Int32) &&& 0x3f).toInt64.toUInt64).toInt64)), .second, .unset]) rfl k) ?_
  show own_Ends p.tables e below _ (T2.setTop (mkF m 32 #[.val (.long q0), .second, .val (.ref b1), .val (.int (9 : Int32)), .val (.long ((q0.toUInt64 >>> ((7 : Int32) &&& 0x3f).toInt64.toUInt64).toInt64)), .second, .unset] []))
  refine own_step (fun _ k => XS.lload X2.here hx rfl (hb hby own_d8_32) rfl k) ?_
  show own_Ends p.tables e below _ (T2.setTop (mkF m 34 #[.val (.long q0), .second, .val (.ref b1), .val (.int (9 : Int32)), .val (.long ((q0.toUInt64 >>> ((7 : Int32) &&& 0x3f).toInt64.toUInt64).toInt64)), .second, .unset] [(.long ((q0.toUInt64 >>> ((7 : Int32) &&& 0x3f).toInt64.toUInt64).toInt64))]))
  refine own_step (fun _ k => XS.lconst X2.here hx rfl (hb hby own_d8_34) k) ?_
  show own_Ends p.tables e below _ (T2.setTop (mkF m 35 #[.val (.long q0), .second, .val (.ref b1), .val (.int (9 : Int32)), .val (.long ((q0.toUInt64 >>> ((7 : Int32) &&& 0x3f).toInt64.toUInt64).toInt64)), .second, .unset] [(.long (0 : Int64)), (.long ((q0.toUInt64 >>> ((7 : Int32) &&& 0x3f).toInt64.toUInt64).toInt64))]))
  refine own_step (fun _ k => XS.lcmp X2.here hx rfl (hb hby own_d8_35) rfl k) ?_
  show own_Ends p.tables e below _ (T2.setTop (mkF m 36 #[.val (.long q0), .second, .val (.ref b1), .val (.int (9 : Int32)), .val (.long ((q0.toUInt64 >>> ((7 : Int32) &&& 0x3f).toInt64.toUInt64).toInt64)), .second, .unset] [(.int (lcmpW ((q0.toUInt64 >>> ((7 : Int32) &&& 0x3f).toInt64.toUInt64).toInt64) (0 : Int64)))]))
  refine own_step (fun _ k => XS.ifNo X2.here hx rfl (hb hby own_d8_36) rfl ((if0 _ _).trans (teq ((own_lc_eq _ _).mpr (own_sr7_0 q0 hq))).2) k) ?_
  show own_Ends p.tables e below _ (T2.setTop (mkF m 39 #[.val (.long q0), .second, .val (.ref b1), .val (.int (9 : Int32)), .val (.long ((q0.toUInt64 >>> ((7 : Int32) &&& 0x3f).toInt64.toUInt64).toInt64)), .second, .unset] []))
  refine own_step (fun _ k => XS.iloadN X2.here hx rfl (hb hby own_d8_39) rfl k) ?_
  show own_Ends p.tables e below _ (T2.setTop (mkF m 40 #[.val (.long q0), .second, .val (.ref b1), .val (.int (9 : Int32)), .val (.long ((q0.toUInt64 >>> ((7 : Int32) &&& 0x3f).toInt64.toUInt64).toInt64)), .second, .unset] [(.int (9 : Int32))]))
  refine own_step (fun _ k => XS.istore X2.here hx rfl (hb hby own_d8_40) rfl (l' := #[.val (.long q0), .second, .val (.ref b1), .val (.int (9 : Int32)), .val (.long ((q0.toUInt64 >>> ((7 : Int32) &&& 0x3f).toInt64.toUInt64).toInt64)), .second, .val (.int (9 : Int32))]) rfl k) ?_
  show own_Ends p.tables e below _ (T2.setTop (mkF m 42 #[.val (.long q0), .second, .val (.ref b1), .val (.int (9 : Int32)), .val (.long ((q0.toUInt64 >>> ((7 : Int32) &&& 0x3f).toInt64.toUInt64).toInt64)), .second, .val (.int (9 : Int32))] []))
  refine own_step (fun _ k => XS.iload X2.here hx rfl (hb hby own_d8_42) rfl k) ?_
  show own_Ends p.tables e below _ (T2.setTop (mkF m 44 #[.val (.long q0), .second, .val (.ref b1), .val (.int (9 : Int32)), .val (.long ((q0.toUInt64 >>> ((7 : Int32) &&& 0x3f).toInt64.toUInt64).toInt64)), .second, .val (.int (9 : Int32))] [(.int (9 : Int32))]))
  refine own_step (fun _ k => XS.bipush X2.here hx rfl (hb hby own_d8_44) k) ?_
  show own_Ends p.tables e below _ (T2.setTop (mkF m 46 #[.val (.long q0), .second, .val (.ref b1), .val (.int (9 : Int32)), .val (.long ((q0.toUInt64 >>> ((7 : Int32) &&& 0x3f).toInt64.toUInt64).toInt64)), .second, .val (.int (9 : Int32))] [(.int (9 : Int32)), (.int (9 : Int32))]))
  refine own_step (fun _ k => XS.icmpYes X2.here hx rfl (pc0 := 46) (pc' := 65) rfl (hb hby own_d8_46) rfl (flt (by decide)).2.1 (by decide) (by decide) k) ?_
  show own_Ends p.tables e below _ (T2.setTop (mkF m 65 #[.val (.long q0), .second, .val (.ref b1), .val (.int (9 : Int32)), .val (.long ((q0.toUInt64 >>> ((7 : Int32) &&& 0x3f).toInt64.toUInt64).toInt64)), .second, .val (.int (9 : Int32))] []))
  refine own_step (fun _ k => XS.bipush X2.here hx rfl (hb hby own_d8_65) k) ?_
  show own_Ends p.tables e below _ (T2.setTop (mkF m 67 #[.val (.long q0), .second, .val (.ref b1), .val (.int (9 : Int32)), .val (.long ((q0.toUInt64 >>> ((7 : Int32) &&& 0x3f).toInt64.toUInt64).toInt64)), .second, .val (.int (9 : Int32))] [(.int (10 : Int32))]))
  refine own_step (fun _ k => XS.iloadN X2.here hx rfl (hb hby own_d8_67) rfl k) ?_
  show own_Ends p.tables e below _ (T2.setTop (mkF m 68 #[.val (.long q0), .second, .val (.ref b1), .val (.int (9 : Int32)), .val (.long ((q0.toUInt64 >>> ((7 : Int32) &&& 0x3f).toInt64.toUInt64).toInt64)), .second, .val (.int (9 : Int32))] [(.int (9 : Int32)), (.int (10 : Int32))]))
  refine own_step (fun _ k => XS.isub X2.here hx rfl (hb hby own_d8_68) rfl k) ?_
  show own_Ends p.tables e below _ (T2.setTop (mkF m 69 #[.val (.long q0), .second, .val (.ref b1), .val (.int (9 : Int32)), .val (.long ((q0.toUInt64 >>> ((7 : Int32) &&& 0x3f).toInt64.toUInt64).toInt64)), .second, .val (.int (9 : Int32))] [(.int ((10 : Int32) - (9 : Int32)))]))
  rw [show ((10 : Int32) - (9 : Int32)) = (1 : Int32) from by decide]
  show own_Ends p.tables e below _ (T2.setTop (mkF m 69 #[.val (.long q0), .second, .val (.ref b1), .val (.int (9 : Int32)), .val (.long ((q0.toUInt64 >>> ((7 : Int32) &&& 0x3f).toInt64.toUInt64).toInt64)), .second, .val (.int (9 : Int32))] [(.int (1 : Int32))]))
  obtain ⟨T3, h3, k3, X3, e3, E3, A3, st3⟩ := newP X2 hx hZ (hw _ (List.mem_of_getElem? (i := 1) rfl)) e2 (g := (mkF m 69 #[.val (.long q0), .second, .val (.ref b1), .val (.int (9 : Int32)), .val (.long ((q0.toUInt64 >>> ((7 : Int32) &&& 0x3f).toInt64.toUInt64).toInt64)), .second, .val (.int (9 : Int32))] [(.int (1 : Int32))])) rfl (hb hby own_d8_69) rfl (by decide) (cap := 1) (by decide) (by decide) (by decide) (by decide)
  obtain ⟨b3, g3⟩ : ∃ z, z = h2.size := ⟨_, rfl⟩
  rw [← g3] at A3 st3
  refine own_step st3 ?_
  have ne_b1_b3 : b1 ≠ b3 := Nat.ne_of_lt (Nat.lt_of_lt_of_le V_b1_2.lt (Nat.le_of_eq g3.symm))
  have g_b3 : n0 ≤ b3 := Nat.le_trans Z_2 (Nat.le_of_eq g3.symm)
  have sz_b3 : h0.size ≤ b3 := Nat.le_trans K_2.1 (Nat.le_of_eq g3.symm)
  have V_b1_3 := V_b1_2.ext E3
  have K_3 : Keep h0 h3 [] := K_2.ext E3
  have Z_3 : n0 ≤ h3.size := Nat.le_trans Z_2 E3.1
  have V_b3 : Arv Z h3 b3 k3 .byte (1 : Int32) (List.replicate 1 (.int (0 : Int32))) (.int (0 : Int32)) := (Arv.new A3 (by decide)).pad (pad_rep [] (.int (0 : Int32)) 1)
  show own_Ends p.tables e below _ (T3.setTop (mkF m 71 #[.val (.long q0), .second, .val (.ref b1), .val (.int (9 : Int32)), .val (.long ((q0.toUInt64 >>> ((7 : Int32) &&& 0x3f).toInt64.toUInt64).toInt64)), .second, .val (.int (9 : Int32))] [(.ref b3)]))
  refine own_step (fun _ k => XS.astore X3.here hx rfl (hb hby own_d8_71) rfl rfl (l' := #[.val (.long q0), .second, .val (.ref b1), .val (.int (9 : Int32)), .val (.long ((q0.toUInt64 >>> ((7 : Int32) &&& 0x3f).toInt64.toUInt64).toInt64)), .second, .val (.ref b3)]) rfl k) ?_
  show own_Ends p.tables e below _ (T3.setTop (mkF m 73 #[.val (.long q0), .second, .val (.ref b1), .val (.int (9 : Int32)), .val (.long ((q0.toUInt64 >>> ((7 : Int32) &&& 0x3f).toInt64.toUInt64).toInt64)), .second, .val (.ref b3)] []))
  refine own_step (fun _ k => XS.aloadN X3.here hx rfl (hb hby own_d8_73) rfl rfl k) ?_
  show own_Ends p.tables e below _ (T3.setTop (mkF m 74 #[.val (.long q0), .second, .val (.ref b1), .val (.int (9 : Int32)), .val (.long ((q0.toUInt64 >>> ((7 : Int32) &&& 0x3f).toInt64.toUInt64).toInt64)), .second, .val (.ref b3)] [(.ref b1)]))
  refine own_step (fun _ k => XS.iloadN X3.here hx rfl (hb hby own_d8_74) rfl k) ?_
  show own_Ends p.tables e below _ (T3.setTop (mkF m 75 #[.val (.long q0), .second, .val (.ref b1), .val (.int (9 : Int32)), .val (.long ((q0.toUInt64 >>> ((7 : Int32) &&& 0x3f).toInt64.toUInt64).toInt64)), .second, .val (.ref b3)] [(.int (9 : Int32)), (.ref b1)]))
  refine own_step (fun _ k => XS.aload X3.here hx rfl (hb hby own_d8_75) rfl rfl k) ?_
  show own_Ends p.tables e below _ (T3.setTop (mkF m 77 #[.val (.long q0), .second, .val (.ref b1), .val (.int (9 : Int32)), .val (.long ((q0.toUInt64 >>> ((7 : Int32) &&& 0x3f).toInt64.toUInt64).toInt64)), .second, .val (.ref b3)] [(.ref b3), (.int (9 : Int32)), (.ref b1)]))
  refine own_step (fun _ k => XS.iconst X3.here hx rfl (hb hby own_d8_77) k) ?_
  show own_Ends p.tables e below _ (T3.setTop (mkF m 78 #[.val (.long q0), .second, .val (.ref b1), .val (.int (9 : Int32)), .val (.long ((q0.toUInt64 >>> ((7 : Int32) &&& 0x3f).toInt64.toUInt64).toInt64)), .second, .val (.ref b3)] [(.int (0 : Int32)), (.ref b3), (.int (9 : Int32)), (.ref b1)]))
  refine own_step (fun _ k => XS.aload X3.here hx rfl (hb hby own_d8_78) rfl rfl k) ?_
  show own_Ends p.tables e below _ (T3.setTop (mkF m 80 #[.val (.long q0), .second, .val (.ref b1), .val (.int (9 : Int32)), .val (.long ((q0.toUInt64 >>> ((7 : Int32) &&& 0x3f).toInt64.toUInt64).toInt64)), .second, .val (.ref b3)] [(.ref b3), (.int (0 : Int32)), (.ref b3), (.int (9 : Int32)), (.ref b1)]))
  obtain ⟨cl4, Ar4, q4, S4, Nn4, H4, G4⟩ := id V_b3
  refine own_step (fun _ k => X3.arraylength hx (by rw [e3]; exact Ar4.1) (State.isArrayOf_alike hZ.alike Ar4.2.1) (g := (mkF m 80 #[.val (.long q0), .second, .val (.ref b1), .val (.int (9 : Int32)), .val (.long ((q0.toUInt64 >>> ((7 : Int32) &&& 0x3f).toInt64.toUInt64).toInt64)), .second, .val (.ref b3)] [(.ref b3), (.int (0 : Int32)), (.ref b3), (.int (9 : Int32)), (.ref b1)])) rfl rfl (hb hby own_d8_80) _ k) ?_
  rw [len_of S4 Nn4]
  show own_Ends p.tables e below _ (T3.setTop (mkF m 81 #[.val (.long q0), .second, .val (.ref b1), .val (.int (9 : Int32)), .val (.long ((q0.toUInt64 >>> ((7 : Int32) &&& 0x3f).toInt64.toUInt64).toInt64)), .second, .val (.ref b3)] [(.int (1 : Int32)), (.int (0 : Int32)), (.ref b3), (.int (9 : Int32)), (.ref b1)]))
  obtain ⟨T5, h5, L5, X5, e5, N_5, k5, V_b3_5, st5⟩ := cpA X3 hx hZ hown (hw _ (List.mem_of_getElem? (i := 62) rfl)) (hw _ (List.mem_of_getElem? (i := 34) rfl)) (hw _ (List.mem_of_getElem? (i := 32) rfl)) (hw _ (List.mem_of_getElem? (i := 33) rfl)) e3 V_b1_3 V_b3 (Or.inl ⟨rfl, rfl⟩) (us := _) (by decide) (by decide) (by decide) (by decide) (by decide) rfl (by simp) N_2 g_b3 (g := (mkF m 81 #[.val (.long q0), .second, .val (.ref b1), .val (.int (9 : Int32)), .val (.long ((q0.toUInt64 >>> ((7 : Int32) &&& 0x3f).toInt64.toUInt64).toInt64)), .second, .val (.ref b3)] [(.int (1 : Int32)), (.int (0 : Int32)), (.ref b3), (.int (9 : Int32)), (.ref b1)])) rfl (by rw [hml]; rfl) rfl (hb hby own_d8_81) (by decide) (W := 0) (by show 2 * 0 + _ ≤ _; exact Nat.le_of_eq rfl) (by decide)
  refine own_step st5 ?_
  have V_b1_5 := V_b1_3.keep k5 (ninS ne_b1_b3 nin0)
  have K_5 : Keep h0 h5 [] := K_3.trans k5 (allS (Or.inr sz_b3) all0)
  have Z_5 : n0 ≤ h5.size := Nat.le_trans Z_3 k5.1
  show own_Ends p.tables e below _ (T5.setTop (mkF m 84 #[.val (.long q0), .second, .val (.ref b1), .val (.int (9 : Int32)), .val (.long ((q0.toUInt64 >>> ((7 : Int32) &&& 0x3f).toInt64.toUInt64).toInt64)), .second, .val (.ref b3)] []))
  refine own_step (fun _ k => XS.aload X5.here hx rfl (hb hby own_d8_84) rfl rfl k) ?_
  show own_Ends p.tables e below _ (T5.setTop (mkF m 86 #[.val (.long q0), .second, .val (.ref b1), .val (.int (9 : Int32)), .val (.long ((q0.toUInt64 >>> ((7 : Int32) &&& 0x3f).toInt64.toUInt64).toInt64)), .second, .val (.ref b3)] [(.ref b3)]))
  exact own_retA X5 hx hlk (by decide) (by decide) Bd.returns rfl rfl (hb hby own_d8_86) (by rw [e5]; exact ⟨_, _, 1, _, rfl, N_5, K_5, g_b3, sz_b3, by omega, by omega, V_b3_5, fun _ => ⟨rfl, congrArg Value.int (own_digit q0 hq)⟩⟩)
theorem own_d8_49 : decode prog_32_method_2_code 49 = .ok (.aload_n 2, 1) := by decide +kernel
theorem own_d8_50 : decode prog_32_method_2_code 50 = .ok (.iload 6, 2) := by decide +kernel
theorem own_d8_52 : decode prog_32_method_2_code 52 = .ok (.dup2, 1) := by decide +kernel
theorem own_d8_53 : decode prog_32_method_2_code 53 = .ok (.baload, 1) := by decide +kernel
theorem own_d8_54 : decode prog_32_method_2_code 54 = .ok (.bipush (-128), 2) := by decide +kernel
theorem own_d8_56 : decode prog_32_method_2_code 56 = .ok (.ior, 1) := by decide +kernel
theorem own_d8_57 : decode prog_32_method_2_code 57 = .ok (.i2b, 1) := by decide +kernel
theorem own_d8_58 : decode prog_32_method_2_code 58 = .ok (.bastore, 1) := by decide +kernel
theorem own_d8_59 : decode prog_32_method_2_code 59 = .ok (.iinc 6 1, 3) := by decide +kernel
theorem own_d8_62 : decode prog_32_method_2_code 62 = .ok (.goto (-20), 3) := by decide +kernel
set_option maxRecDepth 65536 in
set_option maxHeartbeats 40000000 in
theorem own_rm_encoden (l : Launch) (Z : State) (aw : Array Value) (hw : ∀ d ∈ tables_1, d.before aw Z = true) (ws : List Jvm.Cond) (q0 : Int64) (h0 : Heap) (n0 : Nat) (Z0 : n0 ≤ h0.size) (hq : ¬ q0.toUInt64.toNat < 128) :
    MetFree l (⟨"com/example/ketchup/ketchup/negentropy/Varint", "encode", "(J)[B"⟩ : MethodName) (head1 (Jvm.Cond.code (⟨"com/example/ketchup/ketchup/negentropy/Varint", "encode", "(J)[B"⟩ : MethodName) prog_32_method_2_code 7 (some (.array .byte)) :: ws) ({ frames := 1, cells := 2, slots := 20, locals := 18 } : Room)) (fun a U => a = #[(.long q0)] ∧ Z.Warmed39 U.vm ∧ U.heap = h0) (fun _ _ _ _ _ => True) (fun _ U o U' => ∃ v L, o = .returned v ∧ own_QEnc Z q0 h0 n0 v U'.heap L ∧ FrameEnd U o U' L ({ frames := 1, cells := 2, slots := 20, locals := 18 } : Room).cells ({ frames := 1, cells := 2, slots := 20, locals := 18 } : Room).slots) := by
  refine MetFree.of_bodySF (plainFor_of_name own_pn2) hisR ?_
  intro p e s m args below meth c s₁ Bd hml0 hP hK
  obtain ⟨rfl, hZ, hh⟩ := hP
  have hx := Bd.exec
  have hby := Bd.bytes
  have hlk : meth.locks = false := BodyLoose.notSynchronized Bd
  have hml : c.maxLocals = 7 := hml0
  have hown : s.vm.findClass "com/example/ketchup/ketchup/negentropy/Varint" = some m.cls := findClass_of_methodNamed Bd.named
  have hnm := (name_of_methodNamed Bd.named Bd.method).1
  have X0 : Stand p l e ({ frames := 1, cells := 2, slots := 20, locals := 18 } : Room) s m #[(.long q0)] below meth c s₁ [] 0 0 := Stand.of_body Bd
  have e0 : s₁.heap = h0 := by rw [← hh, Bd.state]; rfl
  have N0 := Fr.nil n0
  have K0 : Keep h0 h0 [] := Keep.refl _ _
  have pre0 : ∀ t, Steps p.tables e below (s₁.setTop (mkF m 0 #[.val (.long q0), .second, .unset, .unset, .unset, .unset, .unset] [])) t → Steps p.tables e below (s₁.setTop (entryFrame m #[(.long q0)] 7)) t := fun t k => castTop (own_ef_8 m q0) k
  show own_Ends p.tables e below (own_Q s (own_QEnc Z q0 h0 n0) ({ frames := 1, cells := 2, slots := 20, locals := 18 } : Room).cells ({ frames := 1, cells := 2, slots := 20, locals := 18 } : Room).slots) (s₁.setTop (entryFrame m #[(.long q0)] 7))
  refine own_step pre0 ?_
  show own_Ends p.tables e below _ (s₁.setTop (mkF m 0 #[.val (.long q0), .second, .unset, .unset, .unset, .unset, .unset] []))
  refine own_step (fun _ k => XS.bipush X0.here hx rfl (hb hby own_d8_0) k) ?_
  show own_Ends p.tables e below _ (s₁.setTop (mkF m 2 #[.val (.long q0), .second, .unset, .unset, .unset, .unset, .unset] [(.int (10 : Int32))]))
  obtain ⟨T1, h1, k1, X1, e1, E1, A1, st1⟩ := newP X0 hx hZ (hw _ (List.mem_of_getElem? (i := 1) rfl)) e0 (g := (mkF m 2 #[.val (.long q0), .second, .unset, .unset, .unset, .unset, .unset] [(.int (10 : Int32))])) rfl (hb hby own_d8_2) rfl (by decide) (cap := 10) (by decide) (by decide) (by decide) (by decide)
  obtain ⟨b1, g1⟩ : ∃ z, z = h0.size := ⟨_, rfl⟩
  rw [← g1] at A1 st1
  refine own_step st1 ?_
  have g_b1 : n0 ≤ b1 := Nat.le_trans Z0 (Nat.le_of_eq g1.symm)
  have sz_b1 : h0.size ≤ b1 := Nat.le_trans K0.1 (Nat.le_of_eq g1.symm)
  have K_1 : Keep h0 h1 [] := K0.ext E1
  have Z_1 : n0 ≤ h1.size := Nat.le_trans Z0 E1.1
  have V_b1 : Arv Z h1 b1 k1 .byte (10 : Int32) (List.replicate 10 (.int (0 : Int32))) (.int (0 : Int32)) := (Arv.new A1 (by decide)).pad (pad_rep [] (.int (0 : Int32)) 10)
  show own_Ends p.tables e below _ (T1.setTop (mkF m 4 #[.val (.long q0), .second, .unset, .unset, .unset, .unset, .unset] [(.ref b1)]))
  refine own_step (fun _ k => XS.astoreN X1.here hx rfl (hb hby own_d8_4) rfl rfl (l' := #[.val (.long q0), .second, .val (.ref b1), .unset, .unset, .unset, .unset]) rfl k) ?_
  show own_Ends p.tables e below _ (T1.setTop (mkF m 5 #[.val (.long q0), .second, .val (.ref b1), .unset, .unset, .unset, .unset] []))
  refine own_step (fun _ k => XS.bipush X1.here hx rfl (hb hby own_d8_5) k) ?_
  show own_Ends p.tables e below _ (T1.setTop (mkF m 7 #[.val (.long q0), .second, .val (.ref b1), .unset, .unset, .unset, .unset] [(.int (10 : Int32))]))
  refine own_step (fun _ k => XS.istoreN X1.here hx rfl (hb hby own_d8_7) rfl (l' := #[.val (.long q0), .second, .val (.ref b1), .val (.int (10 : Int32)), .unset, .unset, .unset]) rfl k) ?_
  show own_Ends p.tables e below _ (T1.setTop (mkF m 8 #[.val (.long q0), .second, .val (.ref b1), .val (.int (10 : Int32)), .unset, .unset, .unset] []))
  refine own_step (fun _ k => XS.lloadN X1.here hx rfl (hb hby own_d8_8) rfl k) ?_
  show own_Ends p.tables e below _ (T1.setTop (mkF m 9 #[.val (.long q0), .second, .val (.ref b1), .val (.int (10 : Int32)), .unset, .unset, .unset] [(.long q0)]))
  refine own_step (fun _ k => XS.lstore X1.here hx rfl (hb hby own_d8_9) rfl (l' := #[.val (.long q0), .second, .val (.ref b1), .val (.int (10 : Int32)), .val (.long q0), .second, .unset]) rfl k) ?_
  show own_Ends p.tables e below _ (T1.setTop (mkF m 11 #[.val (.long q0), .second, .val (.ref b1), .val (.int (10 : Int32)), .val (.long q0), .second, .unset] []))
  have jn39 : ∀ (Tj39 : State) (loj39 : List Loc) (hj39 : Heap) (s0 : Nat) (rr : Int64) (w0 : List Value) (Xj39 : Stand p l e ({ frames := 1, cells := 2, slots := 20, locals := 18 } : Room) s m #[(.long q0)] below meth c Tj39 loj39 1 10) (ej39 : Tj39.heap = hj39) (Nj39 : Fr n0 loj39) (Kj39 : Keep h0 hj39 []) (Zj39 : n0 ≤ hj39.size) (V_b1_j39 : Arv Z hj39 b1 k1 .byte (10 : Int32) w0 (Value.int (0 : Int32))) (hs0 : s0 < 10) (hw0 : w0.length = 10), own_Ends p.tables e below (own_Q s (own_QEnc Z q0 h0 n0) ({ frames := 1, cells := 2, slots := 20, locals := 18 } : Room).cells ({ frames := 1, cells := 2, slots := 20, locals := 18 } : Room).slots) (Tj39.setTop (mkF m 39 #[.val (.long q0), .second, .val (.ref b1), .val (.int (Int32.ofNat s0)), .val (.long rr), .second, .unset] [])) := by
    intro Tj39 loj39 hj39 s0 rr w0 Xj39 ej39 Nj39 Kj39 Zj39 V_b1_j39 hs0 hw0
    refine own_step (fun _ k => XS.iloadN Xj39.here hx rfl (hb hby own_d8_39) rfl k) ?_
    show own_Ends p.tables e below _ (Tj39.setTop (mkF m 40 #[.val (.long q0), .second, .val (.ref b1), .val (.int (Int32.ofNat s0)), .val (.long rr), .second, .unset] [(.int (Int32.ofNat s0))]))
    refine own_step (fun _ k => XS.istore Xj39.here hx rfl (hb hby own_d8_40) rfl (l' := #[.val (.long q0), .second, .val (.ref b1), .val (.int (Int32.ofNat s0)), .val (.long rr), .second, .val (.int (Int32.ofNat s0))]) rfl k) ?_
    show own_Ends p.tables e below _ (Tj39.setTop (mkF m 42 #[.val (.long q0), .second, .val (.ref b1), .val (.int (Int32.ofNat s0)), .val (.long rr), .second, .val (.int (Int32.ofNat s0))] []))
    have jn42 : ∀ (kj : Nat) (Tj42 : State) (loj42 : List Loc) (hj42 : Heap) (i : Nat) (w1 : List Value) (Xj42 : Stand p l e ({ frames := 1, cells := 2, slots := 20, locals := 18 } : Room) s m #[(.long q0)] below meth c Tj42 loj42 1 10) (ej42 : Tj42.heap = hj42) (Nj42 : Fr n0 loj42) (Kj42 : Keep h0 hj42 []) (Zj42 : n0 ≤ hj42.size) (V_b1_j39_j42 : Arv Z hj42 b1 k1 .byte (10 : Int32) w1 (Value.int (0 : Int32))) (hi : i + kj = 9) (hw1 : w1.length = 10), own_Ends p.tables e below (own_Q s (own_QEnc Z q0 h0 n0) ({ frames := 1, cells := 2, slots := 20, locals := 18 } : Room).cells ({ frames := 1, cells := 2, slots := 20, locals := 18 } : Room).slots) (Tj42.setTop (mkF m 42 #[.val (.long q0), .second, .val (.ref b1), .val (.int (Int32.ofNat s0)), .val (.long rr), .second, .val (.int (Int32.ofNat i))] [])) := by
      intro kj
      induction kj with
      | zero =>
        intro Tj42 loj42 hj42 i w1 Xj42 ej42 Nj42 Kj42 Zj42 V_b1_j39_j42 hi hw1
        refine own_step (fun _ k => XS.iload Xj42.here hx rfl (hb hby own_d8_42) rfl k) ?_
        show own_Ends p.tables e below _ (Tj42.setTop (mkF m 44 #[.val (.long q0), .second, .val (.ref b1), .val (.int (Int32.ofNat s0)), .val (.long rr), .second, .val (.int (Int32.ofNat i))] [(.int (Int32.ofNat i))]))
        refine own_step (fun _ k => XS.bipush Xj42.here hx rfl (hb hby own_d8_44) k) ?_
        show own_Ends p.tables e below _ (Tj42.setTop (mkF m 46 #[.val (.long q0), .second, .val (.ref b1), .val (.int (Int32.ofNat s0)), .val (.long rr), .second, .val (.int (Int32.ofNat i))] [(.int (9 : Int32)), (.int (Int32.ofNat i))]))
        refine own_step (fun _ k => XS.icmpYes Xj42.here hx rfl (pc0 := 46) (pc' := 65) rfl (hb hby own_d8_46) rfl (flt (fun q => by have := (own_nlt (b := 9) (by omega) (by omega)).mp q; omega)).2.1 (by decide) (by decide) k) ?_
        show own_Ends p.tables e below _ (Tj42.setTop (mkF m 65 #[.val (.long q0), .second, .val (.ref b1), .val (.int (Int32.ofNat s0)), .val (.long rr), .second, .val (.int (Int32.ofNat i))] []))
        refine own_step (fun _ k => XS.bipush Xj42.here hx rfl (hb hby own_d8_65) k) ?_
        show own_Ends p.tables e below _ (Tj42.setTop (mkF m 67 #[.val (.long q0), .second, .val (.ref b1), .val (.int (Int32.ofNat s0)), .val (.long rr), .second, .val (.int (Int32.ofNat i))] [(.int (10 : Int32))]))
        refine own_step (fun _ k => XS.iloadN Xj42.here hx rfl (hb hby own_d8_67) rfl k) ?_
        show own_Ends p.tables e below _ (Tj42.setTop (mkF m 68 #[.val (.long q0), .second, .val (.ref b1), .val (.int (Int32.ofNat s0)), .val (.long rr), .second, .val (.int (Int32.ofNat i))] [(.int (Int32.ofNat s0)), (.int (10 : Int32))]))
        refine own_step (fun _ k => XS.isub Xj42.here hx rfl (hb hby own_d8_68) rfl k) ?_
        show own_Ends p.tables e below _ (Tj42.setTop (mkF m 69 #[.val (.long q0), .second, .val (.ref b1), .val (.int (Int32.ofNat s0)), .val (.long rr), .second, .val (.int (Int32.ofNat i))] [(.int ((10 : Int32) - (Int32.ofNat s0)))]))
        rw [show ((10 : Int32) - (Int32.ofNat s0)) = Int32.ofNat (10 - s0) from own_sub (a := 10) (by omega)]
        show own_Ends p.tables e below _ (Tj42.setTop (mkF m 69 #[.val (.long q0), .second, .val (.ref b1), .val (.int (Int32.ofNat s0)), .val (.long rr), .second, .val (.int (Int32.ofNat i))] [(.int (Int32.ofNat (10 - s0)))]))
        obtain ⟨T2, h2, k2, X2, e2, E2, A2, st2⟩ := newP Xj42 hx hZ (hw _ (List.mem_of_getElem? (i := 1) rfl)) ej42 (g := (mkF m 69 #[.val (.long q0), .second, .val (.ref b1), .val (.int (Int32.ofNat s0)), .val (.long rr), .second, .val (.int (Int32.ofNat i))] [(.int (Int32.ofNat (10 - s0)))])) rfl (hb hby own_d8_69) rfl (own_nn (by omega)) (cap := 10) (by rw [own_clamp (by omega)]; omega) (by decide) (by decide) (by decide)
        obtain ⟨b2, g2⟩ : ∃ z, z = hj42.size := ⟨_, rfl⟩
        rw [← g2] at A2 st2
        refine own_step st2 ?_
        have ne_b1_b2 : b1 ≠ b2 := Nat.ne_of_lt (Nat.lt_of_lt_of_le V_b1_j39_j42.lt (Nat.le_of_eq g2.symm))
        have g_b2 : n0 ≤ b2 := Nat.le_trans Zj42 (Nat.le_of_eq g2.symm)
        have sz_b2 : h0.size ≤ b2 := Nat.le_trans Kj42.1 (Nat.le_of_eq g2.symm)
        have V_b1_j39_j42_2 := V_b1_j39_j42.ext E2
        have K_2 : Keep h0 h2 [] := Kj42.ext E2
        have Z_2 : n0 ≤ h2.size := Nat.le_trans Zj42 E2.1
        have V_b2 : Arv Z h2 b2 k2 .byte (Int32.ofNat (10 - s0)) (List.replicate 10 (.int (0 : Int32))) (.int (0 : Int32)) := (Arv.new A2 (own_nn (by omega))).pad (pad_rep [] (.int (0 : Int32)) 10)
        show own_Ends p.tables e below _ (T2.setTop (mkF m 71 #[.val (.long q0), .second, .val (.ref b1), .val (.int (Int32.ofNat s0)), .val (.long rr), .second, .val (.int (Int32.ofNat i))] [(.ref b2)]))
        refine own_step (fun _ k => XS.astore X2.here hx rfl (hb hby own_d8_71) rfl rfl (l' := #[.val (.long q0), .second, .val (.ref b1), .val (.int (Int32.ofNat s0)), .val (.long rr), .second, .val (.ref b2)]) rfl k) ?_
        show own_Ends p.tables e below _ (T2.setTop (mkF m 73 #[.val (.long q0), .second, .val (.ref b1), .val (.int (Int32.ofNat s0)), .val (.long rr), .second, .val (.ref b2)] []))
        refine own_step (fun _ k => XS.aloadN X2.here hx rfl (hb hby own_d8_73) rfl rfl k) ?_
        show own_Ends p.tables e below _ (T2.setTop (mkF m 74 #[.val (.long q0), .second, .val (.ref b1), .val (.int (Int32.ofNat s0)), .val (.long rr), .second, .val (.ref b2)] [(.ref b1)]))
        refine own_step (fun _ k => XS.iloadN X2.here hx rfl (hb hby own_d8_74) rfl k) ?_
        show own_Ends p.tables e below _ (T2.setTop (mkF m 75 #[.val (.long q0), .second, .val (.ref b1), .val (.int (Int32.ofNat s0)), .val (.long rr), .second, .val (.ref b2)] [(.int (Int32.ofNat s0)), (.ref b1)]))
        refine own_step (fun _ k => XS.aload X2.here hx rfl (hb hby own_d8_75) rfl rfl k) ?_
        show own_Ends p.tables e below _ (T2.setTop (mkF m 77 #[.val (.long q0), .second, .val (.ref b1), .val (.int (Int32.ofNat s0)), .val (.long rr), .second, .val (.ref b2)] [(.ref b2), (.int (Int32.ofNat s0)), (.ref b1)]))
        refine own_step (fun _ k => XS.iconst X2.here hx rfl (hb hby own_d8_77) k) ?_
        show own_Ends p.tables e below _ (T2.setTop (mkF m 78 #[.val (.long q0), .second, .val (.ref b1), .val (.int (Int32.ofNat s0)), .val (.long rr), .second, .val (.ref b2)] [(.int (0 : Int32)), (.ref b2), (.int (Int32.ofNat s0)), (.ref b1)]))
        refine own_step (fun _ k => XS.aload X2.here hx rfl (hb hby own_d8_78) rfl rfl k) ?_
        show own_Ends p.tables e below _ (T2.setTop (mkF m 80 #[.val (.long q0), .second, .val (.ref b1), .val (.int (Int32.ofNat s0)), .val (.long rr), .second, .val (.ref b2)] [(.ref b2), (.int (0 : Int32)), (.ref b2), (.int (Int32.ofNat s0)), (.ref b1)]))
        obtain ⟨cl3, Ar3, q3, S3, Nn3, H3, G3⟩ := id V_b2
        refine own_step (fun _ k => X2.arraylength hx (by rw [e2]; exact Ar3.1) (State.isArrayOf_alike hZ.alike Ar3.2.1) (g := (mkF m 80 #[.val (.long q0), .second, .val (.ref b1), .val (.int (Int32.ofNat s0)), .val (.long rr), .second, .val (.ref b2)] [(.ref b2), (.int (0 : Int32)), (.ref b2), (.int (Int32.ofNat s0)), (.ref b1)])) rfl rfl (hb hby own_d8_80) _ k) ?_
        rw [len_of S3 Nn3]
        show own_Ends p.tables e below _ (T2.setTop (mkF m 81 #[.val (.long q0), .second, .val (.ref b1), .val (.int (Int32.ofNat s0)), .val (.long rr), .second, .val (.ref b2)] [(.int (Int32.ofNat (10 - s0))), (.int (0 : Int32)), (.ref b2), (.int (Int32.ofNat s0)), (.ref b1)]))
        obtain ⟨T4, h4, L4, X4, e4, N_4, k4, V_b2_4, st4⟩ := cpA X2 hx hZ hown (hw _ (List.mem_of_getElem? (i := 62) rfl)) (hw _ (List.mem_of_getElem? (i := 34) rfl)) (hw _ (List.mem_of_getElem? (i := 32) rfl)) (hw _ (List.mem_of_getElem? (i := 33) rfl)) e2 V_b1_j39_j42_2 V_b2 (Or.inl ⟨rfl, rfl⟩) (us := _) (own_nn (by omega)) (by decide) (own_nn (by omega)) (by rw [own_clamp (by omega), own_clamp (by omega)]; show s0 + (10 - s0) ≤ 10; omega) (by rw [own_clamp (by omega)]; show 0 + (10 - s0) ≤ 10 - s0; omega) rfl (by rw [own_clamp (by omega)]; simp only [List.length_replicate]; show 0 + (10 - s0) ≤ 10; omega) Nj42 g_b2 (g := (mkF m 81 #[.val (.long q0), .second, .val (.ref b1), .val (.int (Int32.ofNat s0)), .val (.long rr), .second, .val (.ref b2)] [(.int (Int32.ofNat (10 - s0))), (.int (0 : Int32)), (.ref b2), (.int (Int32.ofNat s0)), (.ref b1)])) rfl (by rw [hml]; rfl) rfl (hb hby own_d8_81) (by decide) (W := 0) (by show 2 * 0 + _ ≤ _; exact Nat.le_of_eq rfl) (by decide)
        refine own_step st4 ?_
        have V_b1_j39_j42_4 := V_b1_j39_j42_2.keep k4 (ninS ne_b1_b2 nin0)
        have K_4 : Keep h0 h4 [] := K_2.trans k4 (allS (Or.inr sz_b2) all0)
        have Z_4 : n0 ≤ h4.size := Nat.le_trans Z_2 k4.1
        show own_Ends p.tables e below _ (T4.setTop (mkF m 84 #[.val (.long q0), .second, .val (.ref b1), .val (.int (Int32.ofNat s0)), .val (.long rr), .second, .val (.ref b2)] []))
        refine own_step (fun _ k => XS.aload X4.here hx rfl (hb hby own_d8_84) rfl rfl k) ?_
        show own_Ends p.tables e below _ (T4.setTop (mkF m 86 #[.val (.long q0), .second, .val (.ref b1), .val (.int (Int32.ofNat s0)), .val (.long rr), .second, .val (.ref b2)] [(.ref b2)]))
        exact own_retA X4 hx hlk (by decide) (by decide) Bd.returns rfl rfl (hb hby own_d8_86) (by rw [e4]; exact ⟨_, _, (10 - s0), _, rfl, N_4, K_4, g_b2, sz_b2, by omega, by omega, V_b2_4, fun u => absurd u hq⟩)
      | succ kj ih =>
        intro Tj42 loj42 hj42 i w1 Xj42 ej42 Nj42 Kj42 Zj42 V_b1_j39_j42 hi hw1
        refine own_step (fun _ k => XS.iload Xj42.here hx rfl (hb hby own_d8_42) rfl k) ?_
        show own_Ends p.tables e below _ (Tj42.setTop (mkF m 44 #[.val (.long q0), .second, .val (.ref b1), .val (.int (Int32.ofNat s0)), .val (.long rr), .second, .val (.int (Int32.ofNat i))] [(.int (Int32.ofNat i))]))
        refine own_step (fun _ k => XS.bipush Xj42.here hx rfl (hb hby own_d8_44) k) ?_
        show own_Ends p.tables e below _ (Tj42.setTop (mkF m 46 #[.val (.long q0), .second, .val (.ref b1), .val (.int (Int32.ofNat s0)), .val (.long rr), .second, .val (.int (Int32.ofNat i))] [(.int (9 : Int32)), (.int (Int32.ofNat i))]))
        refine own_step (fun _ k => XS.icmpNo Xj42.here hx rfl (hb hby own_d8_46) rfl (tlt ((own_nlt (b := 9) (by omega) (by omega)).mpr (by omega))).2.1 k) ?_
        show own_Ends p.tables e below _ (Tj42.setTop (mkF m 49 #[.val (.long q0), .second, .val (.ref b1), .val (.int (Int32.ofNat s0)), .val (.long rr), .second, .val (.int (Int32.ofNat i))] []))
        refine own_step (fun _ k => XS.aloadN Xj42.here hx rfl (hb hby own_d8_49) rfl rfl k) ?_
        show own_Ends p.tables e below _ (Tj42.setTop (mkF m 50 #[.val (.long q0), .second, .val (.ref b1), .val (.int (Int32.ofNat s0)), .val (.long rr), .second, .val (.int (Int32.ofNat i))] [(.ref b1)]))
        refine own_step (fun _ k => XS.iload Xj42.here hx rfl (hb hby own_d8_50) rfl k) ?_
        show own_Ends p.tables e below _ (Tj42.setTop (mkF m 52 #[.val (.long q0), .second, .val (.ref b1), .val (.int (Int32.ofNat s0)), .val (.long rr), .second, .val (.int (Int32.ofNat i))] [(.int (Int32.ofNat i)), (.ref b1)]))
        refine own_step (fun _ k => XT.dup2 Xj42.here hx rfl (hb hby own_d8_52) rfl rfl rfl k) ?_
        show own_Ends p.tables e below _ (Tj42.setTop (mkF m 53 #[.val (.long q0), .second, .val (.ref b1), .val (.int (Int32.ofNat s0)), .val (.long rr), .second, .val (.int (Int32.ofNat i))] [(.int (Int32.ofNat i)), (.ref b1), (.int (Int32.ofNat i)), (.ref b1)]))
        obtain ⟨xb, hxb⟩ := own_byte_at V_b1_j39_j42 i (by show i < 10; omega)
        obtain ⟨cl5, Ar5, q5, S5, Nn5, H5, G5⟩ := id V_b1_j39_j42
        have hin5 : ¬ ((Int32.ofNat i) < 0 ∨ cl5.slots.size ≤ ((Int32.ofNat i)).toNatClampNeg) := inb_of S5 ⟨(own_nn (by omega)), ((own_nlt (b := 10) (by omega) (by omega)).mpr (by omega))⟩
        have hat5 : cl5.slots[((Int32.ofNat i)).toNatClampNeg]? = some (.int xb) := H5.at hin5 (by rw [own_clamp (by omega)]; exact hxb)
        refine own_step (fun _ k => Xj42.baloadBytes hx (j := (Int32.ofNat i)) (v := (.int xb)) (by rw [ej42]; exact Ar5.1) (State.isArrayOf_alike hZ.alike Ar5.2.1) Ar5.2.2 hin5 hat5 (g := (mkF m 53 #[.val (.long q0), .second, .val (.ref b1), .val (.int (Int32.ofNat s0)), .val (.long rr), .second, .val (.int (Int32.ofNat i))] [(.int (Int32.ofNat i)), (.ref b1), (.int (Int32.ofNat i)), (.ref b1)])) rfl rfl (hb hby own_d8_53) _ k) ?_
        show own_Ends p.tables e below _ (Tj42.setTop (mkF m 54 #[.val (.long q0), .second, .val (.ref b1), .val (.int (Int32.ofNat s0)), .val (.long rr), .second, .val (.int (Int32.ofNat i))] [(.int xb), (.int (Int32.ofNat i)), (.ref b1)]))
        refine own_step (fun _ k => XS.bipush Xj42.here hx rfl (hb hby own_d8_54) k) ?_
        show own_Ends p.tables e below _ (Tj42.setTop (mkF m 56 #[.val (.long q0), .second, .val (.ref b1), .val (.int (Int32.ofNat s0)), .val (.long rr), .second, .val (.int (Int32.ofNat i))] [(.int (-128 : Int32)), (.int xb), (.int (Int32.ofNat i)), (.ref b1)]))
        refine own_step (fun _ k => XS.ior Xj42.here hx rfl (hb hby own_d8_56) rfl k) ?_
        show own_Ends p.tables e below _ (Tj42.setTop (mkF m 57 #[.val (.long q0), .second, .val (.ref b1), .val (.int (Int32.ofNat s0)), .val (.long rr), .second, .val (.int (Int32.ofNat i))] [(.int (xb ||| (-128 : Int32))), (.int (Int32.ofNat i)), (.ref b1)]))
        refine own_step (fun _ k => XS.i2b Xj42.here hx rfl (hb hby own_d8_57) rfl k) ?_
        show own_Ends p.tables e below _ (Tj42.setTop (mkF m 58 #[.val (.long q0), .second, .val (.ref b1), .val (.int (Int32.ofNat s0)), .val (.long rr), .second, .val (.int (Int32.ofNat i))] [(.int ((xb ||| (-128 : Int32)).toInt8.toInt32)), (.int (Int32.ofNat i)), (.ref b1)]))
        obtain ⟨cl6, Ar6, q6, S6, Nn6, H6, G6⟩ := id V_b1_j39_j42
        have hin6 : ¬ ((Int32.ofNat i) < 0 ∨ cl6.slots.size ≤ ((Int32.ofNat i)).toNatClampNeg) := inb_of S6 ⟨(own_nn (by omega)), ((own_nlt (b := 10) (by omega) (by omega)).mpr (by omega))⟩
        obtain ⟨T6, h6, X6, e6, W6, st6⟩ := stB Xj42 hx hZ ej42 Ar6 (j := (Int32.ofNat i)) hin6 (g := (mkF m 58 #[.val (.long q0), .second, .val (.ref b1), .val (.int (Int32.ofNat s0)), .val (.long rr), .second, .val (.int (Int32.ofNat i))] [(.int ((xb ||| (-128 : Int32)).toInt8.toInt32)), (.int (Int32.ofNat i)), (.ref b1)])) rfl rfl (hb hby own_d8_58)
        refine own_step st6 ?_
        have K_6 : Keep h0 h6 [] := Kj42.wr W6 (Or.inr sz_b1)
        have Z_6 : n0 ≤ h6.size := Nat.le_trans Zj42 (Keep.of_wr W6).1
        have N_6 := Fr.snoc X6 Nj42 g_b1
        have V_b1_6 : Arv Z h6 b1 k1 .byte (10 : Int32) (w1.set i (.int (nar .byte ((xb ||| (-128 : Int32)).toInt8.toInt32)))) (Value.int (0 : Int32)) := Arv.set Ar6 q6 S6 Nn6 H6 G6 (fits_nar_byte _) W6 i (own_clamp (by omega)) (by omega)
        show own_Ends p.tables e below _ (T6.setTop (mkF m 59 #[.val (.long q0), .second, .val (.ref b1), .val (.int (Int32.ofNat s0)), .val (.long rr), .second, .val (.int (Int32.ofNat i))] []))
        refine own_step (fun _ k => XS.iinc X6.here hx rfl (hb hby own_d8_59) rfl (l' := #[.val (.long q0), .second, .val (.ref b1), .val (.int (Int32.ofNat s0)), .val (.long rr), .second, .val (.int ((Int32.ofNat i) + (1 : Int32)))]) rfl k) ?_
        show own_Ends p.tables e below _ (T6.setTop (mkF m 62 #[.val (.long q0), .second, .val (.ref b1), .val (.int (Int32.ofNat s0)), .val (.long rr), .second, .val (.int ((Int32.ofNat i) + (1 : Int32)))] []))
        rw [show (Int32.ofNat i) + (1 : Int32) = Int32.ofNat (i + 1) from own_inc i]
        show own_Ends p.tables e below _ (T6.setTop (mkF m 62 #[.val (.long q0), .second, .val (.ref b1), .val (.int (Int32.ofNat s0)), .val (.long rr), .second, .val (.int (Int32.ofNat (i + 1)))] []))
        refine own_step (fun _ k => XS.goto X6.here hx rfl (pc0 := 62) (pc' := 42) rfl (hb hby own_d8_62) (by decide) (by decide) k) ?_
        show own_Ends p.tables e below _ (T6.setTop (mkF m 42 #[.val (.long q0), .second, .val (.ref b1), .val (.int (Int32.ofNat s0)), .val (.long rr), .second, .val (.int (Int32.ofNat (i + 1)))] []))
        exact ih _ _ _ (i + 1) (w1.set i (.int (nar .byte ((xb ||| (-128 : Int32)).toInt8.toInt32)))) X6 e6 N_6 K_6 Z_6 V_b1_6 (by omega) (by rw [List.length_set]; exact hw1)
    show own_Ends p.tables e below _ (Tj39.setTop (mkF m 42 #[.val (.long q0), .second, .val (.ref b1), .val (.int (Int32.ofNat s0)), .val (.long rr), .second, .val (.int (Int32.ofNat s0))] []))
    exact jn42 (9 - s0) _ _ _ s0 w0 Xj39 ej39 Nj39 Kj39 Zj39 V_b1_j39 (by omega) hw0
  show own_Ends p.tables e below _ (T1.setTop (mkF m 11 #[.val (.long q0), .second, .val (.ref b1), .val (.int (10 : Int32)), .val (.long q0), .second, .unset] []))
  have jn11 : ∀ (kk : Nat) (Tj11 : State) (loj11 : List Loc) (hj11 : Heap) (rr : Int64) (vv : List Value) (Xj11 : Stand p l e ({ frames := 1, cells := 2, slots := 20, locals := 18 } : Room) s m #[(.long q0)] below meth c Tj11 loj11 1 10) (ej11 : Tj11.heap = hj11) (Nj11 : Fr n0 loj11) (Kj11 : Keep h0 hj11 []) (Zj11 : n0 ≤ hj11.size) (V_b1_j11 : Arv Z hj11 b1 k1 .byte (10 : Int32) vv (Value.int (0 : Int32))) (hkk : kk < 10) (hrr : rr.toUInt64.toNat < 128 ^ (kk + 1)) (hvv : vv.length = 10), own_Ends p.tables e below (own_Q s (own_QEnc Z q0 h0 n0) ({ frames := 1, cells := 2, slots := 20, locals := 18 } : Room).cells ({ frames := 1, cells := 2, slots := 20, locals := 18 } : Room).slots) (Tj11.setTop (mkF m 11 #[.val (.long q0), .second, .val (.ref b1), .val (.int (Int32.ofNat (kk + 1))), .val (.long rr), .second, .unset] [])) := by
    intro kk
    induction kk with
    | zero =>
      intro Tj11 loj11 hj11 rr vv Xj11 ej11 Nj11 Kj11 Zj11 V_b1_j11 hkk hrr hvv
      refine own_step (fun _ k => XS.iinc Xj11.here hx rfl (hb hby own_d8_11) rfl (l' := #[.val (.long q0), .second, .val (.ref b1), .val (.int ((Int32.ofNat (0 + 1)) + (-1 : Int32))), .val (.long rr), .second, .unset]) rfl k) ?_
      show own_Ends p.tables e below _ (Tj11.setTop (mkF m 14 #[.val (.long q0), .second, .val (.ref b1), .val (.int ((Int32.ofNat (0 + 1)) + (-1 : Int32))), .val (.long rr), .second, .unset] []))
      rw [show ((Int32.ofNat (0 + 1)) + (-1 : Int32)) = Int32.ofNat 0 from own_dec 0]
      show own_Ends p.tables e below _ (Tj11.setTop (mkF m 14 #[.val (.long q0), .second, .val (.ref b1), .val (.int (Int32.ofNat 0)), .val (.long rr), .second, .unset] []))
      refine own_step (fun _ k => XS.aloadN Xj11.here hx rfl (hb hby own_d8_14) rfl rfl k) ?_
      show own_Ends p.tables e below _ (Tj11.setTop (mkF m 15 #[.val (.long q0), .second, .val (.ref b1), .val (.int (Int32.ofNat 0)), .val (.long rr), .second, .unset] [(.ref b1)]))
      refine own_step (fun _ k => XS.iloadN Xj11.here hx rfl (hb hby own_d8_15) rfl k) ?_
      show own_Ends p.tables e below _ (Tj11.setTop (mkF m 16 #[.val (.long q0), .second, .val (.ref b1), .val (.int (Int32.ofNat 0)), .val (.long rr), .second, .unset] [(.int (Int32.ofNat 0)), (.ref b1)]))
      refine own_step (fun _ k => XS.lload Xj11.here hx rfl (hb hby own_d8_16) rfl k) ?_
      show own_Ends p.tables e below _ (Tj11.setTop (mkF m 18 #[.val (.long q0), .second, .val (.ref b1), .val (.int (Int32.ofNat 0)), .val (.long rr), .second, .unset] [(.long rr), (.int (Int32.ofNat 0)), (.ref b1)]))
      refine own_step (fun _ k => Xj11.ldc2Long hx hown (mvT hZ (hw _ (List.mem_of_getElem? (i := 61) rfl))) (g := (mkF m 18 #[.val (.long q0), .second, .val (.ref b1), .val (.int (Int32.ofNat 0)), .val (.long rr), .second, .unset] [(.long rr), (.int (Int32.ofNat 0)), (.ref b1)])) rfl (hb hby own_d8_18) _ k) ?_
      show own_Ends p.tables e below _ (Tj11.setTop (mkF m 21 #[.val (.long q0), .second, .val (.ref b1), .val (.int (Int32.ofNat 0)), .val (.long rr), .second, .unset] [(.long (127 : Int64)), (.long rr), (.int (Int32.ofNat 0)), (.ref b1)]))
      refine own_step (fun _ k => XS.land Xj11.here hx rfl (hb hby own_d8_21) rfl k) ?_
      show own_Ends p.tables e below _ (Tj11.setTop (mkF m 22 #[.val (.long q0), .second, .val (.ref b1), .val (.int (Int32.ofNat 0)), .val (.long rr), .second, .unset] [(.long (rr &&& (127 : Int64))), (.int (Int32.ofNat 0)), (.ref b1)]))
      refine own_step (fun _ k => XS.l2i Xj11.here hx rfl (hb hby own_d8_22) rfl k) ?_
      show own_Ends p.tables e below _ (Tj11.setTop (mkF m 23 #[.val (.long q0), .second, .val (.ref b1), .val (.int (Int32.ofNat 0)), .val (.long rr), .second, .unset] [(.int ((rr &&& (127 : Int64)).toInt32)), (.int (Int32.ofNat 0)), (.ref b1)]))
      refine own_step (fun _ k => XS.i2b Xj11.here hx rfl (hb hby own_d8_23) rfl k) ?_
      show own_Ends p.tables e below _ (Tj11.setTop (mkF m 24 #[.val (.long q0), .second, .val (.ref b1), .val (.int (Int32.ofNat 0)), .val (.long rr), .second, .unset] [(.int (((rr &&& (127 : Int64)).toInt32).toInt8.toInt32)), (.int (Int32.ofNat 0)), (.ref b1)]))
      obtain ⟨cl7, Ar7, q7, S7, Nn7, H7, G7⟩ := id V_b1_j11
      have hin7 : ¬ ((Int32.ofNat 0) < 0 ∨ cl7.slots.size ≤ ((Int32.ofNat 0)).toNatClampNeg) := inb_of S7 ⟨(own_nn (by omega)), ((own_nlt (b := 10) (by omega) (by omega)).mpr (by omega))⟩
      obtain ⟨T7, h7, X7, e7, W7, st7⟩ := stB Xj11 hx hZ ej11 Ar7 (j := (Int32.ofNat 0)) hin7 (g := (mkF m 24 #[.val (.long q0), .second, .val (.ref b1), .val (.int (Int32.ofNat 0)), .val (.long rr), .second, .unset] [(.int (((rr &&& (127 : Int64)).toInt32).toInt8.toInt32)), (.int (Int32.ofNat 0)), (.ref b1)])) rfl rfl (hb hby own_d8_24)
      refine own_step st7 ?_
      have K_7 : Keep h0 h7 [] := Kj11.wr W7 (Or.inr sz_b1)
      have Z_7 : n0 ≤ h7.size := Nat.le_trans Zj11 (Keep.of_wr W7).1
      have N_7 := Fr.snoc X7 Nj11 g_b1
      have V_b1_7 : Arv Z h7 b1 k1 .byte (10 : Int32) (vv.set 0 (.int (nar .byte (((rr &&& (127 : Int64)).toInt32).toInt8.toInt32)))) (Value.int (0 : Int32)) := Arv.set Ar7 q7 S7 Nn7 H7 G7 (fits_nar_byte _) W7 0 (own_clamp (by omega)) (by omega)
      show own_Ends p.tables e below _ (T7.setTop (mkF m 25 #[.val (.long q0), .second, .val (.ref b1), .val (.int (Int32.ofNat 0)), .val (.long rr), .second, .unset] []))
      refine own_step (fun _ k => XS.lload X7.here hx rfl (hb hby own_d8_25) rfl k) ?_
      show own_Ends p.tables e below _ (T7.setTop (mkF m 27 #[.val (.long q0), .second, .val (.ref b1), .val (.int (Int32.ofNat 0)), .val (.long rr), .second, .unset] [(.long rr)]))
      refine own_step (fun _ k => XS.bipush X7.here hx rfl (hb hby own_d8_27) k) ?_
      show own_Ends p.tables e below _ (T7.setTop (mkF m 29 #[.val (.long q0), .second, .val (.ref b1), .val (.int (Int32.ofNat 0)), .val (.long rr), .second, .unset] [(.int (7 : Int32)), (.long rr)]))
      refine own_step (fun _ k => XS.lushr X7.here hx rfl (hb hby own_d8_29) rfl k) ?_
      show own_Ends p.tables e below _ (T7.setTop (mkF m 30 #[.val (.long q0), .second, .val (.ref b1), .val (.int (Int32.ofNat 0)), .val (.long rr), .second, .unset] [(.long ((rr.toUInt64 >>> ((7 : Int32) &&& 0x3f).toInt64.toUInt64).toInt64))]))
      refine own_step (fun _ k => XS.lstore X7.here hx rfl (hb hby own_d8_30) rfl (l' := #[.val (.long q0), .second, .val (.ref b1), .val (.int (Int32.ofNat 0)), .val (.long ((rr.toUInt64 >>> ((7 : Int32) &&& 0x3f).toInt64.toUInt64).toInt64)), .second, .unset]) rfl k) ?_
      show own_Ends p.tables e below _ (T7.setTop (mkF m 32 #[.val (.long q0), .second, .val (.ref b1), .val (.int (Int32.ofNat 0)), .val (.long ((rr.toUInt64 >>> ((7 : Int32) &&& 0x3f).toInt64.toUInt64).toInt64)), .second, .unset] []))
      refine own_step (fun _ k => XS.lload X7.here hx rfl (hb hby own_d8_32) rfl k) ?_
      show own_Ends p.tables e below _ (T7.setTop (mkF m 34 #[.val (.long q0), .second, .val (.ref b1), .val (.int (Int32.ofNat 0)), .val (.long ((rr.toUInt64 >>> ((7 : Int32) &&& 0x3f).toInt64.toUInt64).toInt64)), .second, .unset] [(.long ((rr.toUInt64 >>> ((7 : Int32) &&& 0x3f).toInt64.toUInt64).toInt64))]))
      refine own_step (fun _ k => XS.lconst X7.here hx rfl (hb hby own_d8_34) k) ?_
      show own_Ends p.tables e below _ (T7.setTop (mkF m 35 #[.val (.long q0), .second, .val (.ref b1), .val (.int (Int32.ofNat 0)), .val (.long ((rr.toUInt64 >>> ((7 : Int32) &&& 0x3f).toInt64.toUInt64).toInt64)), .second, .unset] [(.long (0 : Int64)), (.long ((rr.toUInt64 >>> ((7 : Int32) &&& 0x3f).toInt64.toUInt64).toInt64))]))
      refine own_step (fun _ k => XS.lcmp X7.here hx rfl (hb hby own_d8_35) rfl k) ?_
      show own_Ends p.tables e below _ (T7.setTop (mkF m 36 #[.val (.long q0), .second, .val (.ref b1), .val (.int (Int32.ofNat 0)), .val (.long ((rr.toUInt64 >>> ((7 : Int32) &&& 0x3f).toInt64.toUInt64).toInt64)), .second, .unset] [(.int (lcmpW ((rr.toUInt64 >>> ((7 : Int32) &&& 0x3f).toInt64.toUInt64).toInt64) (0 : Int64)))]))
      refine own_step (fun _ k => XS.ifNo X7.here hx rfl (hb hby own_d8_36) rfl ((if0 _ _).trans (teq ((own_lc_eq _ _).mpr (own_sr7_0 rr (by simpa using hrr)))).2) k) ?_
      show own_Ends p.tables e below _ (T7.setTop (mkF m 39 #[.val (.long q0), .second, .val (.ref b1), .val (.int (Int32.ofNat 0)), .val (.long ((rr.toUInt64 >>> ((7 : Int32) &&& 0x3f).toInt64.toUInt64).toInt64)), .second, .unset] []))
      exact jn39 _ _ _ 0 ((rr.toUInt64 >>> ((7 : Int32) &&& 0x3f).toInt64.toUInt64).toInt64) (vv.set 0 (.int (nar .byte (((rr &&& (127 : Int64)).toInt32).toInt8.toInt32)))) X7 e7 N_7 K_7 Z_7 V_b1_7 (by omega) (by rw [List.length_set]; exact hvv)
    | succ kk ih =>
      intro Tj11 loj11 hj11 rr vv Xj11 ej11 Nj11 Kj11 Zj11 V_b1_j11 hkk hrr hvv
      refine own_step (fun _ k => XS.iinc Xj11.here hx rfl (hb hby own_d8_11) rfl (l' := #[.val (.long q0), .second, .val (.ref b1), .val (.int ((Int32.ofNat ((kk + 1) + 1)) + (-1 : Int32))), .val (.long rr), .second, .unset]) rfl k) ?_
      show own_Ends p.tables e below _ (Tj11.setTop (mkF m 14 #[.val (.long q0), .second, .val (.ref b1), .val (.int ((Int32.ofNat ((kk + 1) + 1)) + (-1 : Int32))), .val (.long rr), .second, .unset] []))
      rw [show ((Int32.ofNat ((kk + 1) + 1)) + (-1 : Int32)) = Int32.ofNat (kk + 1) from own_dec (kk + 1)]
      show own_Ends p.tables e below _ (Tj11.setTop (mkF m 14 #[.val (.long q0), .second, .val (.ref b1), .val (.int (Int32.ofNat (kk + 1))), .val (.long rr), .second, .unset] []))
      refine own_step (fun _ k => XS.aloadN Xj11.here hx rfl (hb hby own_d8_14) rfl rfl k) ?_
      show own_Ends p.tables e below _ (Tj11.setTop (mkF m 15 #[.val (.long q0), .second, .val (.ref b1), .val (.int (Int32.ofNat (kk + 1))), .val (.long rr), .second, .unset] [(.ref b1)]))
      refine own_step (fun _ k => XS.iloadN Xj11.here hx rfl (hb hby own_d8_15) rfl k) ?_
      show own_Ends p.tables e below _ (Tj11.setTop (mkF m 16 #[.val (.long q0), .second, .val (.ref b1), .val (.int (Int32.ofNat (kk + 1))), .val (.long rr), .second, .unset] [(.int (Int32.ofNat (kk + 1))), (.ref b1)]))
      refine own_step (fun _ k => XS.lload Xj11.here hx rfl (hb hby own_d8_16) rfl k) ?_
      show own_Ends p.tables e below _ (Tj11.setTop (mkF m 18 #[.val (.long q0), .second, .val (.ref b1), .val (.int (Int32.ofNat (kk + 1))), .val (.long rr), .second, .unset] [(.long rr), (.int (Int32.ofNat (kk + 1))), (.ref b1)]))
      refine own_step (fun _ k => Xj11.ldc2Long hx hown (mvT hZ (hw _ (List.mem_of_getElem? (i := 61) rfl))) (g := (mkF m 18 #[.val (.long q0), .second, .val (.ref b1), .val (.int (Int32.ofNat (kk + 1))), .val (.long rr), .second, .unset] [(.long rr), (.int (Int32.ofNat (kk + 1))), (.ref b1)])) rfl (hb hby own_d8_18) _ k) ?_
      show own_Ends p.tables e below _ (Tj11.setTop (mkF m 21 #[.val (.long q0), .second, .val (.ref b1), .val (.int (Int32.ofNat (kk + 1))), .val (.long rr), .second, .unset] [(.long (127 : Int64)), (.long rr), (.int (Int32.ofNat (kk + 1))), (.ref b1)]))
      refine own_step (fun _ k => XS.land Xj11.here hx rfl (hb hby own_d8_21) rfl k) ?_
      show own_Ends p.tables e below _ (Tj11.setTop (mkF m 22 #[.val (.long q0), .second, .val (.ref b1), .val (.int (Int32.ofNat (kk + 1))), .val (.long rr), .second, .unset] [(.long (rr &&& (127 : Int64))), (.int (Int32.ofNat (kk + 1))), (.ref b1)]))
      refine own_step (fun _ k => XS.l2i Xj11.here hx rfl (hb hby own_d8_22) rfl k) ?_
      show own_Ends p.tables e below _ (Tj11.setTop (mkF m 23 #[.val (.long q0), .second, .val (.ref b1), .val (.int (Int32.ofNat (kk + 1))), .val (.long rr), .second, .unset] [(.int ((rr &&& (127 : Int64)).toInt32)), (.int (Int32.ofNat (kk + 1))), (.ref b1)]))
      refine own_step (fun _ k => XS.i2b Xj11.here hx rfl (hb hby own_d8_23) rfl k) ?_
      show own_Ends p.tables e below _ (Tj11.setTop (mkF m 24 #[.val (.long q0), .second, .val (.ref b1), .val (.int (Int32.ofNat (kk + 1))), .val (.long rr), .second, .unset] [(.int (((rr &&& (127 : Int64)).toInt32).toInt8.toInt32)), (.int (Int32.ofNat (kk + 1))), (.ref b1)]))
      obtain ⟨cl8, Ar8, q8, S8, Nn8, H8, G8⟩ := id V_b1_j11
      have hin8 : ¬ ((Int32.ofNat (kk + 1)) < 0 ∨ cl8.slots.size ≤ ((Int32.ofNat (kk + 1))).toNatClampNeg) := inb_of S8 ⟨(own_nn (by omega)), ((own_nlt (b := 10) (by omega) (by omega)).mpr (by omega))⟩
      obtain ⟨T8, h8, X8, e8, W8, st8⟩ := stB Xj11 hx hZ ej11 Ar8 (j := (Int32.ofNat (kk + 1))) hin8 (g := (mkF m 24 #[.val (.long q0), .second, .val (.ref b1), .val (.int (Int32.ofNat (kk + 1))), .val (.long rr), .second, .unset] [(.int (((rr &&& (127 : Int64)).toInt32).toInt8.toInt32)), (.int (Int32.ofNat (kk + 1))), (.ref b1)])) rfl rfl (hb hby own_d8_24)
      refine own_step st8 ?_
      have K_8 : Keep h0 h8 [] := Kj11.wr W8 (Or.inr sz_b1)
      have Z_8 : n0 ≤ h8.size := Nat.le_trans Zj11 (Keep.of_wr W8).1
      have N_8 := Fr.snoc X8 Nj11 g_b1
      have V_b1_8 : Arv Z h8 b1 k1 .byte (10 : Int32) (vv.set (kk + 1) (.int (nar .byte (((rr &&& (127 : Int64)).toInt32).toInt8.toInt32)))) (Value.int (0 : Int32)) := Arv.set Ar8 q8 S8 Nn8 H8 G8 (fits_nar_byte _) W8 (kk + 1) (own_clamp (by omega)) (by omega)
      show own_Ends p.tables e below _ (T8.setTop (mkF m 25 #[.val (.long q0), .second, .val (.ref b1), .val (.int (Int32.ofNat (kk + 1))), .val (.long rr), .second, .unset] []))
      refine own_step (fun _ k => XS.lload X8.here hx rfl (hb hby own_d8_25) rfl k) ?_
      show own_Ends p.tables e below _ (T8.setTop (mkF m 27 #[.val (.long q0), .second, .val (.ref b1), .val (.int (Int32.ofNat (kk + 1))), .val (.long rr), .second, .unset] [(.long rr)]))
      refine own_step (fun _ k => XS.bipush X8.here hx rfl (hb hby own_d8_27) k) ?_
      show own_Ends p.tables e below _ (T8.setTop (mkF m 29 #[.val (.long q0), .second, .val (.ref b1), .val (.int (Int32.ofNat (kk + 1))), .val (.long rr), .second, .unset] [(.int (7 : Int32)), (.long rr)]))
      refine own_step (fun _ k => XS.lushr X8.here hx rfl (hb hby own_d8_29) rfl k) ?_
      show own_Ends p.tables e below _ (T8.setTop (mkF m 30 #[.val (.long q0), .second, .val (.ref b1), .val (.int (Int32.ofNat (kk + 1))), .val (.long rr), .second, .unset] [(.long ((rr.toUInt64 >>> ((7 : Int32) &&& 0x3f).toInt64.toUInt64).toInt64))]))
      refine own_step (fun _ k => XS.lstore X8.here hx rfl (hb hby own_d8_30) rfl (l' := #[.val (.long q0), .second, .val (.ref b1), .val (.int (Int32.ofNat (kk + 1))), .val (.long ((rr.toUInt64 >>> ((7 : Int32) &&& 0x3f).toInt64.toUInt64).toInt64)), .second, .unset]) rfl k) ?_
      show own_Ends p.tables e below _ (T8.setTop (mkF m 32 #[.val (.long q0), .second, .val (.ref b1), .val (.int (Int32.ofNat (kk + 1))), .val (.long ((rr.toUInt64 >>> ((7 : Int32) &&& 0x3f).toInt64.toUInt64).toInt64)), .second, .unset] []))
      refine own_step (fun _ k => XS.lload X8.here hx rfl (hb hby own_d8_32) rfl k) ?_
      show own_Ends p.tables e below _ (T8.setTop (mkF m 34 #[.val (.long q0), .second, .val (.ref b1), .val (.int (Int32.ofNat (kk + 1))), .val (.long ((rr.toUInt64 >>> ((7 : Int32) &&& 0x3f).toInt64.toUInt64).toInt64)), .second, .unset] [(.long ((rr.toUInt64 >>> ((7 : Int32) &&& 0x3f).toInt64.toUInt64).toInt64))]))
      refine own_step (fun _ k => XS.lconst X8.here hx rfl (hb hby own_d8_34) k) ?_
      show own_Ends p.tables e below _ (T8.setTop (mkF m 35 #[.val (.long q0), .second, .val (.ref b1), .val (.int (Int32.ofNat (kk + 1))), .val (.long ((rr.toUInt64 >>> ((7 : Int32) &&& 0x3f).toInt64.toUInt64).toInt64)), .second, .unset] [(.long (0 : Int64)), (.long ((rr.toUInt64 >>> ((7 : Int32) &&& 0x3f).toInt64.toUInt64).toInt64))]))
      refine own_step (fun _ k => XS.lcmp X8.here hx rfl (hb hby own_d8_35) rfl k) ?_
      show own_Ends p.tables e below _ (T8.setTop (mkF m 36 #[.val (.long q0), .second, .val (.ref b1), .val (.int (Int32.ofNat (kk + 1))), .val (.long ((rr.toUInt64 >>> ((7 : Int32) &&& 0x3f).toInt64.toUInt64).toInt64)), .second, .unset] [(.int (lcmpW ((rr.toUInt64 >>> ((7 : Int32) &&& 0x3f).toInt64.toUInt64).toInt64) (0 : Int64)))]))
      by_cases hc36 : ((rr.toUInt64 >>> ((7 : Int32) &&& 0x3f).toInt64.toUInt64).toInt64) = (0 : Int64)
      · refine own_step (fun _ k => XS.ifNo X8.here hx rfl (hb hby own_d8_36) rfl ((if0 _ _).trans (teq ((own_lc_eq _ _).mpr hc36)).2) k) ?_
        show own_Ends p.tables e below _ (T8.setTop (mkF m 39 #[.val (.long q0), .second, .val (.ref b1), .val (.int (Int32.ofNat (kk + 1))), .val (.long ((rr.toUInt64 >>> ((7 : Int32) &&& 0x3f).toInt64.toUInt64).toInt64)), .second, .unset] []))
        exact jn39 _ _ _ (kk + 1) ((rr.toUInt64 >>> ((7 : Int32) &&& 0x3f).toInt64.toUInt64).toInt64) (vv.set (kk + 1) (.int (nar .byte (((rr &&& (127 : Int64)).toInt32).toInt8.toInt32)))) X8 e8 N_8 K_8 Z_8 V_b1_8 (by omega) (by rw [List.length_set]; exact hvv)
      · refine own_step (fun _ k => XS.ifYes X8.here hx rfl (pc0 := 36) (pc' := 11) rfl (hb hby own_d8_36) rfl ((if0 _ _).trans (feq (fun q => hc36 ((own_lc_eq _ _).mp q))).2) (by decide) (by decide) k) ?_
        show own_Ends p.tables e below _ (T8.setTop (mkF m 11 #[.val (.long q0), .second, .val (.ref b1), .val (.int (Int32.ofNat (kk + 1))), .val (.long ((rr.toUInt64 >>> ((7 : Int32) &&& 0x3f).toInt64.toUInt64).toInt64)), .second, .unset] []))
        exact ih _ _ _ ((rr.toUInt64 >>> ((7 : Int32) &&& 0x3f).toInt64.toUInt64).toInt64) (vv.set (kk + 1) (.int (nar .byte (((rr &&& (127 : Int64)).toInt32).toInt8.toInt32)))) X8 e8 N_8 K_8 Z_8 V_b1_8 (by omega) (by rw [own_sr7]; exact own_pow hrr) (by rw [List.length_set]; exact hvv)
  show own_Ends p.tables e below _ (T1.setTop (mkF m 11 #[.val (.long q0), .second, .val (.ref b1), .val (.int (10 : Int32)), .val (.long q0), .second, .unset] []))
  exact jn11 9 _ _ _ q0 (List.replicate 10 (.int (0 : Int32))) X1 e1 N0 K_1 Z_1 V_b1 (by omega) (Nat.lt_trans (UInt64.toNat_lt _) (by decide)) (by simp)
theorem own_rm_encode (l : Launch) (Z : State) (a0' : Array Value) (hw : ∀ d ∈ tables_1, d.before a0' Z = true) (ws : List Jvm.Cond) (q0 : Int64) (h0 : Heap) (n0 : Nat) (Z0 : n0 ≤ h0.size) :
    MetFree l (⟨"com/example/ketchup/ketchup/negentropy/Varint", "encode", "(J)[B"⟩ : MethodName) (head1 (Jvm.Cond.code (⟨"com/example/ketchup/ketchup/negentropy/Varint", "encode", "(J)[B"⟩ : MethodName) prog_32_method_2_code 7 (some (.array .byte)) :: ws) ({ frames := 1, cells := 2, slots := 20, locals := 18 } : Room)) (fun a U => a = #[(.long q0)] ∧ Z.Warmed39 U.vm ∧ U.heap = h0) (fun _ _ _ _ _ => True) (fun _ U o U' => ∃ v L, o = .returned v ∧ own_QEnc Z q0 h0 n0 v U'.heap L ∧ FrameEnd U o U' L ({ frames := 1, cells := 2, slots := 20, locals := 18 } : Room).cells ({ frames := 1, cells := 2, slots := 20, locals := 18 } : Room).slots) := by
  by_cases hq : q0.toUInt64.toNat < 128
  · exact own_rm_encode1 l Z a0' hw ws q0 h0 n0 Z0 hq
  · exact own_rm_encoden l Z a0' hw ws q0 h0 n0 Z0 hq
theorem own_pd2 : parseMethodDescriptor "()V" = some ⟨[], none⟩ := by decide +kernel
theorem own_pd3 : parseMethodDescriptor "([B)V" = some ⟨[(.array .byte)], none⟩ := by decide +kernel
theorem own_d3_0 : decode prog_18_method_1_code 0 = .ok (.aload_n 0, 1) := by decide +kernel
theorem own_d3_1 : decode prog_18_method_1_code 1 = .ok (.invokespecial 1, 3) := by decide +kernel
theorem own_d3_4 : decode prog_18_method_1_code 4 = .ok (.aload_n 0, 1) := by decide +kernel
theorem own_d3_5 : decode prog_18_method_1_code 5 = .ok (.sipush 256, 3) := by decide +kernel
theorem own_d3_8 : decode prog_18_method_1_code 8 = .ok (.newarray .byte, 2) := by decide +kernel
theorem own_d3_10 : decode prog_18_method_1_code 10 = .ok (.putfield 7, 3) := by decide +kernel
theorem own_d3_13 : decode prog_18_method_1_code 13 = .ok (.aload_n 0, 1) := by decide +kernel
theorem own_d3_14 : decode prog_18_method_1_code 14 = .ok (.iconst 1, 1) := by decide +kernel
theorem own_d3_15 : decode prog_18_method_1_code 15 = .ok (.newarray .byte, 2) := by decide +kernel
theorem own_d3_17 : decode prog_18_method_1_code 17 = .ok (.dup, 1) := by decide +kernel
theorem own_d3_18 : decode prog_18_method_1_code 18 = .ok (.iconst 0, 1) := by decide +kernel
theorem own_d3_19 : decode prog_18_method_1_code 19 = .ok (.bipush 97, 2) := by decide +kernel
theorem own_d3_21 : decode prog_18_method_1_code 21 = .ok (.bastore, 1) := by decide +kernel
theorem own_d3_22 : decode prog_18_method_1_code 22 = .ok (.invokevirtual 13, 3) := by decide +kernel
theorem own_d3_25 : decode prog_18_method_1_code 25 = .ok (.aload_n 0, 1) := by decide +kernel
theorem own_d3_26 : decode prog_18_method_1_code 26 = .ok (.invokevirtual 17, 3) := by decide +kernel
theorem own_d3_29 : decode prog_18_method_1_code 29 = .ok (.return_, 1) := by decide +kernel
theorem own_ef_3 (m : MethodId) (x0 : Addr) : entryFrame m #[(.ref x0)] 1 = mkF m 0 #[.val (.ref x0)] [] := by first | (simp [entryFrame, mkF, argsToLocals, Value.category]; done) | rfl
def own_Q_winit (Z : State) (a0 : Addr) (h0 : Heap) (n0 : Nat) (v : Option Value) (h : Heap) (L : List Loc) : Prop := v = none ∧ Fr n0 L ∧ Keep h0 h [a0] ∧ ∃ (bf : Addr) (kb : ClassId) (vs : List Value), n0 ≤ bf ∧ h0.size ≤ bf ∧ a0 ≠ bf ∧ Fld Z h a0 "com/example/ketchup/ketchup/negentropy/MessageWriter" "buffer" "[B" (.ref bf) ∧ Fld Z h a0 "com/example/ketchup/ketchup/negentropy/MessageWriter" "size" "I" (.int (Int32.ofNat 1)) ∧ Fld Z h a0 "com/example/ketchup/ketchup/negentropy/MessageWriter" "previousTimestamp" "J" (.long (0 : Int64)) ∧ Fld Z h a0 "com/example/ketchup/ketchup/negentropy/MessageWriter" "markedSize" "I" (.int (Int32.ofNat 1)) ∧ Fld Z h a0 "com/example/ketchup/ketchup/negentropy/MessageWriter" "markedPreviousTimestamp" "J" (.long (0 : Int64)) ∧ Arv Z h bf kb .byte (256 : Int32) vs (Value.int (0 : Int32)) ∧ vs.length = 256 ∧ vs.getD 0 (Value.int (0 : Int32)) = .int (97 : Int32)
set_option maxRecDepth 65536 in
set_option maxHeartbeats 40000000 in
theorem own_rm_winit (l : Launch) (Z : State) (aw : Array Value) (hw : ∀ d ∈ tables_1, d.before aw Z = true) (ws : List Jvm.Cond) (a0 : Addr) (h0 : Heap) (n0 : Nat) (Z0 : n0 ≤ h0.size) (E_a0 : Exa Z h0 a0 "com/example/ketchup/ketchup/negentropy/MessageWriter") (F_buffer : Fld Z h0 a0 "com/example/ketchup/ketchup/negentropy/MessageWriter" "buffer" "[B" .null) (F_size : Fld Z h0 a0 "com/example/ketchup/ketchup/negentropy/MessageWriter" "size" "I" (.int (0 : Int32))) (F_previousTimestamp : Fld Z h0 a0 "com/example/ketchup/ketchup/negentropy/MessageWriter" "previousTimestamp" "J" (.long (0 : Int64))) (F_markedSize : Fld Z h0 a0 "com/example/ketchup/ketchup/negentropy/MessageWriter" "markedSize" "I" (.int (0 : Int32))) (F_markedPreviousTimestamp : Fld Z h0 a0 "com/example/ketchup/ketchup/negentropy/MessageWriter" "markedPreviousTimestamp" "J" (.long (0 : Int64))) (g_a0 : n0 ≤ a0) :
    MetFree l (⟨"com/example/ketchup/ketchup/negentropy/MessageWriter", "<init>", "()V"⟩ : MethodName) (head1 (Jvm.Cond.code (⟨"com/example/ketchup/ketchup/negentropy/MessageWriter", "<init>", "()V"⟩ : MethodName) prog_18_method_1_code 1 none :: ws) ({ frames := 2, cells := 2, slots := 257, locals := 32 } : Room)) (fun a U => a = #[(.ref a0)] ∧ Z.Warmed39 U.vm ∧ U.heap = h0) (fun _ _ _ _ _ => True) (fun _ U o U' => ∃ v L, o = .returned v ∧ own_Q_winit Z a0 h0 n0 v U'.heap L ∧ FrameEnd U o U' L ({ frames := 2, cells := 2, slots := 257, locals := 32 } : Room).cells ({ frames := 2, cells := 2, slots := 257, locals := 32 } : Room).slots) := by
  refine MetFree.of_bodySF (plainFor_of_name own_pn0) hisR ?_
  intro p e s m args below meth c s₁ Bd hml0 hP hK
  obtain ⟨rfl, hZ, hh⟩ := hP
  have hx := Bd.exec
  have hby := Bd.bytes
  have hlk : meth.locks = false := BodyLoose.notSynchronized Bd
  have hml : c.maxLocals = 1 := hml0
  have hown : s.vm.findClass "com/example/ketchup/ketchup/negentropy/MessageWriter" = some m.cls := findClass_of_methodNamed Bd.named
  have hnm := (name_of_methodNamed Bd.named Bd.method).1
  have X0 : Stand p l e ({ frames := 2, cells := 2, slots := 257, locals := 32 } : Room) s m #[(.ref a0)] below meth c s₁ [] 0 0 := Stand.of_body Bd
  have e0 : s₁.heap = h0 := by rw [← hh, Bd.state]; rfl
  have N0 := Fr.nil n0
  have K0 : Keep h0 h0 [a0] := Keep.refl _ _
  have pre0 : ∀ t, Steps p.tables e below (s₁.setTop (mkF m 0 #[.val (.ref a0)] [])) t → Steps p.tables e below (s₁.setTop (entryFrame m #[(.ref a0)] 1)) t := fun t k => castTop (own_ef_3 m a0) k
  show own_Ends p.tables e below (own_Q s (own_Q_winit Z a0 h0 n0) ({ frames := 2, cells := 2, slots := 257, locals := 32 } : Room).cells ({ frames := 2, cells := 2, slots := 257, locals := 32 } : Room).slots) (s₁.setTop (entryFrame m #[(.ref a0)] 1))
  refine own_step pre0 ?_
  show own_Ends p.tables e below _ (s₁.setTop (mkF m 0 #[.val (.ref a0)] []))
  refine own_step (fun _ k => XS.aloadN X0.here hx rfl (hb hby own_d3_0) rfl rfl k) ?_
  show own_Ends p.tables e below _ (s₁.setTop (mkF m 1 #[.val (.ref a0)] [(.ref a0)]))
  obtain ⟨T1, X1, e1, st1⟩ := initO X0 hx hZ hown (hw _ (List.mem_of_getElem? (i := 22) rfl)) (hw _ (List.mem_of_getElem? (i := 9) rfl)) (hw _ (List.mem_of_getElem? (i := 10) rfl)) e0 (g := (mkF m 1 #[.val (.ref a0)] [(.ref a0)])) rfl (by rw [hml]; rfl) rfl (hb hby own_d3_1) (by decide) (W := 0) (by show 2 * 0 + _ ≤ _; exact Nat.le_of_eq rfl) (by decide)
  refine own_step st1 ?_
  show own_Ends p.tables e below _ (T1.setTop (mkF m 4 #[.val (.ref a0)] []))
  refine own_step (fun _ k => XS.aloadN X1.here hx rfl (hb hby own_d3_4) rfl rfl k) ?_
  show own_Ends p.tables e below _ (T1.setTop (mkF m 5 #[.val (.ref a0)] [(.ref a0)]))
  refine own_step (fun _ k => XS.sipush X1.here hx rfl (hb hby own_d3_5) k) ?_
  show own_Ends p.tables e below _ (T1.setTop (mkF m 8 #[.val (.ref a0)] [(.int (256 : Int32)), (.ref a0)]))
  obtain ⟨T2, h2, k2, X2, e2, E2, A2, st2⟩ := newP X1 hx hZ (hw _ (List.mem_of_getElem? (i := 1) rfl)) e1 (g := (mkF m 8 #[.val (.ref a0)] [(.int (256 : Int32)), (.ref a0)])) rfl (hb hby own_d3_8) rfl (by decide) (cap := 256) (by decide) (by decide) (by decide) (by decide)
  obtain ⟨b2, g2⟩ : ∃ z, z = h0.size := ⟨_, rfl⟩
  rw [← g2] at A2 st2
  refine own_step st2 ?_
  have ne_a0_b2 : a0 ≠ b2 := Nat.ne_of_lt (Nat.lt_of_lt_of_le F_buffer.lt (Nat.le_of_eq g2.symm))
  have g_b2 : n0 ≤ b2 := Nat.le_trans Z0 (Nat.le_of_eq g2.symm)
  have sz_b2 : h0.size ≤ b2 := Nat.le_trans K0.1 (Nat.le_of_eq g2.symm)
  have F_buffer_2 := F_buffer.ext E2
  have F_size_2 := F_size.ext E2
  have F_previousTimestamp_2 := F_previousTimestamp.ext E2
  have F_markedSize_2 := F_markedSize.ext E2
  have F_markedPreviousTimestamp_2 := F_markedPreviousTimestamp.ext E2
  have E_a0_2 := E_a0.ext E2
  have K_2 : Keep h0 h2 [a0] := K0.ext E2
  have Z_2 : n0 ≤ h2.size := Nat.le_trans Z0 E2.1
  have V_b2 : Arv Z h2 b2 k2 .byte (256 : Int32) (List.replicate 256 (.int (0 : Int32))) (.int (0 : Int32)) := (Arv.new A2 (by decide)).pad (pad_rep [] (.int (0 : Int32)) 256)
  show own_Ends p.tables e below _ (T2.setTop (mkF m 10 #[.val (.ref a0)] [(.ref b2), (.ref a0)]))
  obtain ⟨T3, h3, X3, e3, W3, st3⟩ := putF X2 hx hZ hown (host := "") (Or.inl (hw _ (List.mem_of_getElem? (i := 23) rfl))) Via.refl e2 F_buffer_2 E_a0_2 (Or.inl (hw _ (List.mem_of_getElem? (i := 24) rfl))) (hw _ (List.mem_of_getElem? (i := 17) rfl)) (ty := (.array .byte)) (by decide) rfl rfl (g := (mkF m 10 #[.val (.ref a0)] [(.ref b2), (.ref a0)])) rfl rfl (hb hby own_d3_10)
  refine own_step st3 ?_
  have F_buffer_3 := F_buffer_2.same W3
  have F_size_3 := F_size_2.other W3 (Or.inr (slot_ne (Or.inl (hw _ (List.mem_of_getElem? (i := 30) rfl))) (Or.inl (hw _ (List.mem_of_getElem? (i := 24) rfl))) (by decide) (t := .int) (t' := (.array .byte)) (by decide) (by decide)))
  have F_previousTimestamp_3 := F_previousTimestamp_2.other W3 (Or.inr (slot_ne (Or.inl (hw _ (List.mem_of_getElem? (i := 43) rfl))) (Or.inl (hw _ (List.mem_of_getElem? (i := 24) rfl))) (by decide) (t := .long) (t' := (.array .byte)) (by decide) (by decide)))
  have F_markedSize_3 := F_markedSize_2.other W3 (Or.inr (slot_ne (Or.inl (hw _ (List.mem_of_getElem? (i := 41) rfl))) (Or.inl (hw _ (List.mem_of_getElem? (i := 24) rfl))) (by decide) (t := .int) (t' := (.array .byte)) (by decide) (by decide)))
  have F_markedPreviousTimestamp_3 := F_markedPreviousTimestamp_2.other W3 (Or.inr (slot_ne (Or.inl (hw _ (List.mem_of_getElem? (i := 45) rfl))) (Or.inl (hw _ (List.mem_of_getElem? (i := 24) rfl))) (by decide) (t := .long) (t' := (.array .byte)) (by decide) (by decide)))
  have E_a0_3 := E_a0_2.wr W3
  have V_b2_3 := V_b2.other W3 (Ne.symm ne_a0_b2)
  have K_3 : Keep h0 h3 [a0] := K_2.wr W3 (Or.inl (List.mem_of_getElem? (i := 0) rfl))
  have Z_3 : n0 ≤ h3.size := Nat.le_trans Z_2 (Keep.of_wr W3).1
  have N_3 := Fr.snoc X3 N0 g_a0
  show own_Ends p.tables e below _ (T3.setTop (mkF m 13 #[.val (.ref a0)] []))
  refine own_step (fun _ k => XS.aloadN X3.here hx rfl (hb hby own_d3_13) rfl rfl k) ?_
  show own_Ends p.tables e below _ (T3.setTop (mkF m 14 #[.val (.ref a0)] [(.ref a0)]))
  refine own_step (fun _ k => XS.iconst X3.here hx rfl (hb hby own_d3_14) k) ?_
  show own_Ends p.tables e below _ (T3.setTop (mkF m 15 #[.val (.ref a0)] [(.int (1 : Int32)), (.ref a0)]))
  obtain ⟨T4, h4, k4, X4, e4, E4, A4, st4⟩ := newP X3 hx hZ (hw _ (List.mem_of_getElem? (i := 1) rfl)) e3 (g := (mkF m 15 #[.val (.ref a0)] [(.int (1 : Int32)), (.ref a0)])) rfl (hb hby own_d3_15) rfl (by decide) (cap := 1) (by decide) (by decide) (by decide) (by decide)
  obtain ⟨b4, g4⟩ : ∃ z, z = h3.size := ⟨_, rfl⟩
  rw [← g4] at A4 st4
  refine own_step st4 ?_
  have ne_a0_b4 : a0 ≠ b4 := Nat.ne_of_lt (Nat.lt_of_lt_of_le F_buffer_3.lt (Nat.le_of_eq g4.symm))
  have ne_b2_b4 : b2 ≠ b4 := Nat.ne_of_lt (Nat.lt_of_lt_of_le V_b2_3.lt (Nat.le_of_eq g4.symm))
  have g_b4 : n0 ≤ b4 := Nat.le_trans Z_3 (Nat.le_of_eq g4.symm)
  have sz_b4 : h0.size ≤ b4 := Nat.le_trans K_3.1 (Nat.le_of_eq g4.symm)
  have F_buffer_4 := F_buffer_3.ext E4
  have F_size_4 := F_size_3.ext E4
  have F_previousTimestamp_4 := F_previousTimestamp_3.ext E4
  have F_markedSize_4 := F_markedSize_3.ext E4
  have F_markedPreviousTimestamp_4 := F_markedPreviousTimestamp_3.ext E4
  have E_a0_4 := E_a0_3.ext E4
  have V_b2_4 := V_b2_3.ext E4
  have K_4 : Keep h0 h4 [a0] := K_3.ext E4
  have Z_4 : n0 ≤ h4.size := Nat.le_trans Z_3 E4.1
  have V_b4 : Arv Z h4 b4 k4 .byte (1 : Int32) (List.replicate 1 (.int (0 : Int32))) (.int (0 : Int32)) := (Arv.new A4 (by decide)).pad (pad_rep [] (.int (0 : Int32)) 1)
  show own_Ends p.tables e below _ (T4.setTop (mkF m 17 #[.val (.ref a0)] [(.ref b4), (.ref a0)]))
  refine own_step (fun _ k => XS.dup X4.here hx rfl (hb hby own_d3_17) rfl rfl k) ?_
  show own_Ends p.tables e below _ (T4.setTop (mkF m 18 #[.val (.ref a0)] [(.ref b4), (.ref b4), (.ref a0)]))
  refine own_step (fun _ k => XS.iconst X4.here hx rfl (hb hby own_d3_18) k) ?_
  show own_Ends p.tables e below _ (T4.setTop (mkF m 19 #[.val (.ref a0)] [(.int (0 : Int32)), (.ref b4), (.ref b4), (.ref a0)]))
  refine own_step (fun _ k => XS.bipush X4.here hx rfl (hb hby own_d3_19) k) ?_
  show own_Ends p.tables e below _ (T4.setTop (mkF m 21 #[.val (.ref a0)] [(.int (97 : Int32)), (.int (0 : Int32)), (.ref b4), (.ref b4), (.ref a0)]))
  obtain ⟨cl5, Ar5, q5, S5, Nn5, H5, G5⟩ := id V_b4
  have hin5 : ¬ ((0 : Int32) < 0 ∨ cl5.slots.size ≤ ((0 : Int32)).toNatClampNeg) := inb_of S5 ⟨(by decide), (by decide)⟩
  obtain ⟨T5, h5, X5, e5, W5, st5⟩ := stB X4 hx hZ e4 Ar5 (j := (0 : Int32)) hin5 (g := (mkF m 21 #[.val (.ref a0)] [(.int (97 : Int32)), (.int (0 : Int32)), (.ref b4), (.ref b4), (.ref a0)])) rfl rfl (hb hby own_d3_21)
  refine own_step st5 ?_
  have F_buffer_5 := F_buffer_4.other W5 (Or.inl ne_a0_b4)
  have F_size_5 := F_size_4.other W5 (Or.inl ne_a0_b4)
  have F_previousTimestamp_5 := F_previousTimestamp_4.other W5 (Or.inl ne_a0_b4)
  have F_markedSize_5 := F_markedSize_4.other W5 (Or.inl ne_a0_b4)
  have F_markedPreviousTimestamp_5 := F_markedPreviousTimestamp_4.other W5 (Or.inl ne_a0_b4)
  have E_a0_5 := E_a0_4.wr W5
  have V_b2_5 := V_b2_4.other W5 ne_b2_b4
  have K_5 : Keep h0 h5 [a0] := K_4.wr W5 (Or.inr sz_b4)
  have Z_5 : n0 ≤ h5.size := Nat.le_trans Z_4 (Keep.of_wr W5).1
  have N_5 := Fr.snoc X5 N_3 g_b4
  have V_b4_5 : Arv Z h5 b4 k4 .byte (1 : Int32) ((List.replicate 1 (.int (0 : Int32))).set 0 (.int (nar .byte (97 : Int32)))) (.int (0 : Int32)) := Arv.set Ar5 q5 S5 Nn5 H5 G5 (fits_nar_byte _) W5 0 rfl (by simp)
  show own_Ends p.tables e below _ (T5.setTop (mkF m 22 #[.val (.ref a0)] [(.ref b4), (.ref a0)]))
  have hv0 : (List.replicate 256 (Value.int (0 : Int32))).length = 256 := by simp
  obtain ⟨cq6, qz6, qz6'⟩ := E_a0_5.cell
  obtain ⟨_, _, ⟨T6, L6, k6, n6⟩, -, X6, ⟨Lc6, hQ6, l6, y6, z6⟩, st6⟩ := X5.privateBack hx (y := (⟨"com/example/ketchup/ketchup/negentropy/MessageWriter", "write", "([B)V"⟩ : MethodName)) hown (mvT hZ (hw _ (List.mem_of_getElem? (i := 25) rfl))) (mvT hZ (hw _ (List.mem_of_getElem? (i := 26) rfl))) (own_sel_priv (by decide) (mvT hZ (hw _ (List.mem_of_getElem? (i := 17) rfl))) (mvP hZ (hw _ (List.mem_of_getElem? (i := 27) rfl))) (mvT hZ (hw _ (List.mem_of_getElem? (i := 26) rfl)))) (Cond.privateMethod_at (mvP hZ (hw _ (List.mem_of_getElem? (i := 27) rfl)) (args := #[]))) (mvT hZ (hw _ (List.mem_of_getElem? (i := 28) rfl))) (by decide) (backOf (W := 0) (own_rm_write l Z aw hw [] a0 b4 b2 k2 (List.replicate 256 (.int (0 : Int32))) 0 (0 : Int64) (0 : Int32) (0 : Int64) k4 1 ((List.replicate 1 (.int (0 : Int32))).set 0 (.int (nar .byte (97 : Int32)))) h5 n0 Z_5 E_a0_5 F_buffer_5 F_size_5 F_previousTimestamp_5 F_markedSize_5 F_markedPreviousTimestamp_5 V_b2_5 hv0 ne_a0_b2 g_a0 g_b2 V_b4_5 ne_b2_b4 ne_a0_b4 (by omega)) hZ (hw _ (List.mem_of_getElem? (i := 28) rfl)) (hw _ (List.mem_of_getElem? (i := 18) rfl)) (by decide) (by decide)) (g := (mkF m 22 #[.val (.ref a0)] [(.ref b4), (.ref a0)])) rfl (by rw [hml]; rfl) (Steps.refl _) (a := a0) (by rw [e5]; exact qz6) qz6' (argsL := [(.ref b4)]) (rest := []) (lenOf own_pd3 rfl) rfl (by show 2 * 0 + _ ≤ _; exact Nat.le_of_eq rfl) (hb hby own_d3_22) (fun _ _ => ⟨rfl, e5, (by decide : 2 + 0 ≤ _), (by decide : 257 + 0 ≤ _)⟩)
  dsimp only [Pt.U, Pt.locs, Pt.cells, Pt.slots] at X6 l6 y6 z6 st6 hQ6
  subst l6 y6 z6
  obtain ⟨rfl, N6q, k6, Fb6, Fz6, Fp6, Fm6, Fq6, Vb6⟩ := hQ6
  have N_6 := Fr.app N_5 N6q
  have E_a0_6 := E_a0_5.keep k6
  have V_b4_6 := V_b4_5.keep k6 (ninS (Ne.symm ne_a0_b4) (ninS (Ne.symm ne_b2_b4) nin0))
  have K_6 : Keep h0 T6.heap [a0] := K_5.trans k6 (allS (Or.inl (List.mem_of_getElem? (i := 0) rfl)) (allS (Or.inr sz_b2) all0))
  have Z_6 : n0 ≤ T6.heap.size := Nat.le_trans Z_5 k6.1
  have hvs6 : (own_put (List.replicate 256 (.int (0 : Int32))) 0 1 ((List.replicate 1 (.int (0 : Int32))).set 0 (.int (nar .byte (97 : Int32))))).length = 256 := by rw [own_put_len (by rw [hv0]; omega)]; exact hv0
  refine own_step (fun _ k => st6.trans k) ?_
  show own_Ends p.tables e below _ (T6.setTop (mkF m 25 #[.val (.ref a0)] []))
  refine own_step (fun _ k => XS.aloadN X6.here hx rfl (hb hby own_d3_25) rfl rfl k) ?_
  show own_Ends p.tables e below _ (T6.setTop (mkF m 26 #[.val (.ref a0)] [(.ref a0)]))
  obtain ⟨cq7, kq7, q7a, q7b, q7c⟩ := isOf hZ rfl E_a0_6
  obtain ⟨_, _, ⟨T7, L7, k7, n7⟩, -, X7, ⟨Lc7, hQ7, l7, y7, z7⟩, st7⟩ := X6.virtualBack hx (y := (⟨"com/example/ketchup/ketchup/negentropy/MessageWriter", "mark", "()V"⟩ : MethodName)) (z := (⟨"com/example/ketchup/ketchup/negentropy/MessageWriter", "mark", "()V"⟩ : MethodName)) hown (mvT hZ (hw _ (List.mem_of_getElem? (i := 35) rfl))) (mvT hZ (hw _ (List.mem_of_getElem? (i := 36) rfl))) (notFace_of_selects (args := #[]) (mvT hZ (hw _ (List.mem_of_getElem? (i := 38) rfl)))) (mvT hZ (hw _ (List.mem_of_getElem? (i := 38) rfl))) (mvT hZ (hw _ (List.mem_of_getElem? (i := 37) rfl))) (by decide) (backOf (W := 0) (own_rm_mark l Z aw hw [] a0 b2 k2 (own_put (List.replicate 256 (.int (0 : Int32))) 0 1 ((List.replicate 1 (.int (0 : Int32))).set 0 (.int (nar .byte (97 : Int32))))) (0 + 1) (0 : Int64) (0 : Int32) (0 : Int64) T6.heap n0 Z_6 E_a0_6 Fb6 Fz6 Fp6 Fm6 Fq6 Vb6 hvs6 ne_a0_b2 g_a0 g_b2) hZ (hw _ (List.mem_of_getElem? (i := 39) rfl)) (hw _ (List.mem_of_getElem? (i := 18) rfl)) (by decide) (by decide)) q7a q7c (g := (mkF m 26 #[.val (.ref a0)] [(.ref a0)])) rfl (by rw [hml]; rfl) (Steps.refl _) (argsL := []) (rest := []) (lenOf own_pd2 rfl) rfl (by show 2 * 0 + _ ≤ _; exact Nat.le_of_eq rfl) (hb hby own_d3_26) (fun _ _ => ⟨rfl, rfl, (by decide : 2 + 0 ≤ _), (by decide : 257 + 0 ≤ _)⟩)
  dsimp only [Pt.U, Pt.locs, Pt.cells, Pt.slots] at X7 l7 y7 z7 st7 hQ7
  subst l7 y7 z7
  obtain ⟨rfl, N7q, k7, Fb7, Fz7, Fp7, Fm7, Fq7⟩ := hQ7
  have N_7 := Fr.app N_6 N7q
  have E_a0_7 := E_a0_6.keep k7
  have V_b4_7 := V_b4_6.keep k7 (ninS (Ne.symm ne_a0_b4) nin0)
  have Vb6_7 := Vb6.keep k7 (ninS (Ne.symm ne_a0_b2) nin0)
  have K_7 : Keep h0 T7.heap [a0] := K_6.trans k7 (allS (Or.inl (List.mem_of_getElem? (i := 0) rfl)) all0)
  have Z_7 : n0 ≤ T7.heap.size := Nat.le_trans Z_6 k7.1
  refine own_step (fun _ k => st7.trans k) ?_
  show own_Ends p.tables e below _ (T7.setTop (mkF m 29 #[.val (.ref a0)] []))
  have hz97 : (own_put (List.replicate 256 (.int (0 : Int32))) 0 1 ((List.replicate 1 (.int (0 : Int32))).set 0 (.int (nar .byte (97 : Int32))))).getD 0 (Value.int (0 : Int32)) = Value.int (97 : Int32) := own_put_at (i := 0) (Value.int (0 : Int32)) (by rw [hv0]; decide) (by decide)
  exact own_ret0 X7 hx hlk (by decide) (by decide) Bd.returns (hb hby own_d3_29) (⟨rfl, N_7, K_7, b2, _, _, g_b2, sz_b2, ne_a0_b2, Fb7, Fz7, Fp7, Fm7, Fq7, Vb6_7, hvs6, hz97⟩)
theorem own_d1_0 : decode prog_11_method_1_code 0 = .ok (.aload_n 0, 1) := by decide +kernel
theorem own_d1_1 : decode prog_11_method_1_code 1 = .ok (.invokespecial 1, 3) := by decide +kernel
theorem own_d1_4 : decode prog_11_method_1_code 4 = .ok (.aload_n 3, 1) := by decide +kernel
theorem own_d1_5 : decode prog_11_method_1_code 5 = .ok (.arraylength, 1) := by decide +kernel
theorem own_d1_6 : decode prog_11_method_1_code 6 = .ok (.bipush 32, 2) := by decide +kernel
theorem own_d1_8 : decode prog_11_method_1_code 8 = .ok (.if_icmp .le 18, 3) := by decide +kernel
theorem own_d1_26 : decode prog_11_method_1_code 26 = .ok (.aload_n 0, 1) := by decide +kernel
theorem own_d1_27 : decode prog_11_method_1_code 27 = .ok (.lload_n 1, 1) := by decide +kernel
theorem own_d1_28 : decode prog_11_method_1_code 28 = .ok (.putfield 18, 3) := by decide +kernel
theorem own_d1_31 : decode prog_11_method_1_code 31 = .ok (.aload_n 0, 1) := by decide +kernel
theorem own_d1_32 : decode prog_11_method_1_code 32 = .ok (.aload_n 3, 1) := by decide +kernel
theorem own_d1_33 : decode prog_11_method_1_code 33 = .ok (.putfield 24, 3) := by decide +kernel
theorem own_d1_36 : decode prog_11_method_1_code 36 = .ok (.return_, 1) := by decide +kernel
theorem own_ef_1 (m : MethodId) (x0 : Addr) (x1 : Int64) (x2 : Addr) : entryFrame m #[(.ref x0), (.long x1), (.ref x2)] 4 = mkF m 0 #[.val (.ref x0), .val (.long x1), .second, .val (.ref x2)] [] := by first | (simp [entryFrame, mkF, argsToLocals, Value.category]; done) | rfl
def own_Q_binit (Z : State) (a0 : Addr) (q1 : Int64) (a3 : Addr) (k3 : ClassId) (n : Nat) (us : List Value) (h0 : Heap) (n0 : Nat) (v : Option Value) (h : Heap) (L : List Loc) : Prop := v = none ∧ Fr n0 L ∧ Keep h0 h [a0] ∧ Fld Z h a0 "com/example/ketchup/ketchup/negentropy/Bound" "timestamp" "J" (.long q1) ∧ Fld Z h a0 "com/example/ketchup/ketchup/negentropy/Bound" "prefix" "[B" (.ref a3)
set_option maxRecDepth 65536 in
set_option maxHeartbeats 40000000 in
theorem own_rm_binit (l : Launch) (Z : State) (aw : Array Value) (hw : ∀ d ∈ tables_1, d.before aw Z = true) (ws : List Jvm.Cond) (a0 : Addr) (q1 : Int64) (a3 : Addr) (k3 : ClassId) (n : Nat) (us : List Value) (h0 : Heap) (n0 : Nat) (Z0 : n0 ≤ h0.size) (E_a0 : Exa Z h0 a0 "com/example/ketchup/ketchup/negentropy/Bound") (F_t : Fld Z h0 a0 "com/example/ketchup/ketchup/negentropy/Bound" "timestamp" "J" (.long (0 : Int64))) (F_p : Fld Z h0 a0 "com/example/ketchup/ketchup/negentropy/Bound" "prefix" "[B" .null) (g_a0 : n0 ≤ a0) (V_a3 : Arv Z h0 a3 k3 .byte (Int32.ofNat n) us (Value.int (0 : Int32))) (ne_03 : a0 ≠ a3) (hn : n ≤ 32) :
    MetFree l (⟨"com/example/ketchup/ketchup/negentropy/Bound", "<init>", "(J[B)V"⟩ : MethodName) (head1 (Jvm.Cond.code (⟨"com/example/ketchup/ketchup/negentropy/Bound", "<init>", "(J[B)V"⟩ : MethodName) prog_11_method_1_code 4 none :: ws) ({ frames := 1, cells := 0, slots := 0, locals := 12 } : Room)) (fun a U => a = #[(.ref a0), (.long q1), (.ref a3)] ∧ Z.Warmed39 U.vm ∧ U.heap = h0) (fun _ _ _ _ _ => True) (fun _ U o U' => ∃ v L, o = .returned v ∧ own_Q_binit Z a0 q1 a3 k3 n us h0 n0 v U'.heap L ∧ FrameEnd U o U' L ({ frames := 1, cells := 0, slots := 0, locals := 12 } : Room).cells ({ frames := 1, cells := 0, slots := 0, locals := 12 } : Room).slots) := by
  refine MetFree.of_bodySF (plainFor_of_name own_pn1) hisR ?_
  intro p e s m args below meth c s₁ Bd hml0 hP hK
  obtain ⟨rfl, hZ, hh⟩ := hP
  have hx := Bd.exec
  have hby := Bd.bytes
  have hlk : meth.locks = false := BodyLoose.notSynchronized Bd
  have hml : c.maxLocals = 4 := hml0
  have hown : s.vm.findClass "com/example/ketchup/ketchup/negentropy/Bound" = some m.cls := findClass_of_methodNamed Bd.named
  have hnm := (name_of_methodNamed Bd.named Bd.method).1
  have X0 : Stand p l e ({ frames := 1, cells := 0, slots := 0, locals := 12 } : Room) s m #[(.ref a0), (.long q1), (.ref a3)] below meth c s₁ [] 0 0 := Stand.of_body Bd
  have e0 : s₁.heap = h0 := by rw [← hh, Bd.state]; rfl
  have N0 := Fr.nil n0
  have K0 : Keep h0 h0 [a0] := Keep.refl _ _
  have pre0 : ∀ t, Steps p.tables e below (s₁.setTop (mkF m 0 #[.val (.ref a0), .val (.long q1), .second, .val (.ref a3)] [])) t → Steps p.tables e below (s₁.setTop (entryFrame m #[(.ref a0), (.long q1), (.ref a3)] 4)) t := fun t k => castTop (own_ef_1 m a0 q1 a3) k
  show own_Ends p.tables e below (own_Q s (own_Q_binit Z a0 q1 a3 k3 n us h0 n0) ({ frames := 1, cells := 0, slots := 0, locals := 12 } : Room).cells ({ frames := 1, cells := 0, slots := 0, locals := 12 } : Room).slots) (s₁.setTop (entryFrame m #[(.ref a0), (.long q1), (.ref a3)] 4))
  refine own_step pre0 ?_
  show own_Ends p.tables e below _ (s₁.setTop (mkF m 0 #[.val (.ref a0), .val (.long q1), .second, .val (.ref a3)] []))
  refine own_step (fun _ k => XS.aloadN X0.here hx rfl (hb hby own_d1_0) rfl rfl k) ?_
  show own_Ends p.tables e below _ (s₁.setTop (mkF m 1 #[.val (.ref a0), .val (.long q1), .second, .val (.ref a3)] [(.ref a0)]))
  obtain ⟨T1, X1, e1, st1⟩ := initO X0 hx hZ hown (hw _ (List.mem_of_getElem? (i := 8) rfl)) (hw _ (List.mem_of_getElem? (i := 9) rfl)) (hw _ (List.mem_of_getElem? (i := 10) rfl)) e0 (g := (mkF m 1 #[.val (.ref a0), .val (.long q1), .second, .val (.ref a3)] [(.ref a0)])) rfl (by rw [hml]; rfl) rfl (hb hby own_d1_1) (by decide) (W := 0) (by show 2 * 0 + _ ≤ _; exact Nat.le_of_eq rfl) (by decide)
  refine own_step st1 ?_
  show own_Ends p.tables e below _ (T1.setTop (mkF m 4 #[.val (.ref a0), .val (.long q1), .second, .val (.ref a3)] []))
  refine own_step (fun _ k => XS.aloadN X1.here hx rfl (hb hby own_d1_4) rfl rfl k) ?_
  show own_Ends p.tables e below _ (T1.setTop (mkF m 5 #[.val (.ref a0), .val (.long q1), .second, .val (.ref a3)] [(.ref a3)]))
  obtain ⟨cl2, Ar2, q2, S2, Nn2, H2, G2⟩ := id V_a3
  refine own_step (fun _ k => X1.arraylength hx (by rw [e1]; exact Ar2.1) (State.isArrayOf_alike hZ.alike Ar2.2.1) (g := (mkF m 5 #[.val (.ref a0), .val (.long q1), .second, .val (.ref a3)] [(.ref a3)])) rfl rfl (hb hby own_d1_5) _ k) ?_
  rw [len_of S2 Nn2]
  show own_Ends p.tables e below _ (T1.setTop (mkF m 6 #[.val (.ref a0), .val (.long q1), .second, .val (.ref a3)] [(.int (Int32.ofNat n))]))
  refine own_step (fun _ k => XS.bipush X1.here hx rfl (hb hby own_d1_6) k) ?_
  show own_Ends p.tables e below _ (T1.setTop (mkF m 8 #[.val (.ref a0), .val (.long q1), .second, .val (.ref a3)] [(.int (32 : Int32)), (.int (Int32.ofNat n))]))
  refine own_step (fun _ k => XS.icmpYes X1.here hx rfl (pc0 := 8) (pc' := 26) rfl (hb hby own_d1_8) rfl (flt (fun q => by have := (own_nlt (a := 32) (by omega) (by omega)).mp q; omega)).2.2.2 (by decide) (by decide) k) ?_
  show own_Ends p.tables e below _ (T1.setTop (mkF m 26 #[.val (.ref a0), .val (.long q1), .second, .val (.ref a3)] []))
  refine own_step (fun _ k => XS.aloadN X1.here hx rfl (hb hby own_d1_26) rfl rfl k) ?_
  show own_Ends p.tables e below _ (T1.setTop (mkF m 27 #[.val (.ref a0), .val (.long q1), .second, .val (.ref a3)] [(.ref a0)]))
  refine own_step (fun _ k => XS.lloadN X1.here hx rfl (hb hby own_d1_27) rfl k) ?_
  show own_Ends p.tables e below _ (T1.setTop (mkF m 28 #[.val (.ref a0), .val (.long q1), .second, .val (.ref a3)] [(.long q1), (.ref a0)]))
  obtain ⟨T3, h3, X3, e3, W3, st3⟩ := putF X1 hx hZ hown (host := "") (Or.inl (hw _ (List.mem_of_getElem? (i := 11) rfl))) Via.refl e1 F_t E_a0 (Or.inr ⟨(hw _ (List.mem_of_getElem? (i := 12) rfl)), rfl, hnm⟩) (hw _ (List.mem_of_getElem? (i := 3) rfl)) (ty := .long) (by decide) rfl rfl (g := (mkF m 28 #[.val (.ref a0), .val (.long q1), .second, .val (.ref a3)] [(.long q1), (.ref a0)])) rfl rfl (hb hby own_d1_28)
  refine own_step st3 ?_
  have E_a0_3 := E_a0.wr W3
  have F_t_3 := F_t.same W3
  have F_p_3 := F_p.other W3 (Or.inr (slot_ne (Or.inr (hw _ (List.mem_of_getElem? (i := 14) rfl))) (Or.inr (hw _ (List.mem_of_getElem? (i := 12) rfl))) (by decide) (t := (.array .byte)) (t' := .long) (by decide) (by decide)))
  have V_a3_3 := V_a3.other W3 (Ne.symm ne_03)
  have K_3 : Keep h0 h3 [a0] := K0.wr W3 (Or.inl (List.mem_of_getElem? (i := 0) rfl))
  have Z_3 : n0 ≤ h3.size := Nat.le_trans Z0 (Keep.of_wr W3).1
  have N_3 := Fr.snoc X3 N0 g_a0
  show own_Ends p.tables e below _ (T3.setTop (mkF m 31 #[.val (.ref a0), .val (.long q1), .second, .val (.ref a3)] []))
  refine own_step (fun _ k => XS.aloadN X3.here hx rfl (hb hby own_d1_31) rfl rfl k) ?_
  show own_Ends p.tables e below _ (T3.setTop (mkF m 32 #[.val (.ref a0), .val (.long q1), .second, .val (.ref a3)] [(.ref a0)]))
  refine own_step (fun _ k => XS.aloadN X3.here hx rfl (hb hby own_d1_32) rfl rfl k) ?_
  show own_Ends p.tables e below _ (T3.setTop (mkF m 33 #[.val (.ref a0), .val (.long q1), .second, .val (.ref a3)] [(.ref a3), (.ref a0)]))
  obtain ⟨T4, h4, X4, e4, W4, st4⟩ := putF X3 hx hZ hown (host := "") (Or.inl (hw _ (List.mem_of_getElem? (i := 13) rfl))) Via.refl e3 F_p_3 E_a0_3 (Or.inr ⟨(hw _ (List.mem_of_getElem? (i := 14) rfl)), rfl, hnm⟩) (hw _ (List.mem_of_getElem? (i := 3) rfl)) (ty := (.array .byte)) (by decide) rfl rfl (g := (mkF m 33 #[.val (.ref a0), .val (.long q1), .second, .val (.ref a3)] [(.ref a3), (.ref a0)])) rfl rfl (hb hby own_d1_33)
  refine own_step st4 ?_
  have E_a0_4 := E_a0_3.wr W4
  have F_t_4 := F_t_3.other W4 (Or.inr (slot_ne (Or.inr (hw _ (List.mem_of_getElem? (i := 12) rfl))) (Or.inr (hw _ (List.mem_of_getElem? (i := 14) rfl))) (by decide) (t := .long) (t' := (.array .byte)) (by decide) (by decide)))
  have F_p_4 := F_p_3.same W4
  have V_a3_4 := V_a3_3.other W4 (Ne.symm ne_03)
  have K_4 : Keep h0 h4 [a0] := K_3.wr W4 (Or.inl (List.mem_of_getElem? (i := 0) rfl))
  have Z_4 : n0 ≤ h4.size := Nat.le_trans Z_3 (Keep.of_wr W4).1
  have N_4 := Fr.snoc X4 N_3 g_a0
  show own_Ends p.tables e below _ (T4.setTop (mkF m 36 #[.val (.ref a0), .val (.long q1), .second, .val (.ref a3)] []))
  exact own_ret0 X4 hx hlk (by decide) (by decide) Bd.returns (hb hby own_d1_36) (by rw [e4]; exact ⟨rfl, N_4, K_4, F_t_4, F_p_4⟩)
theorem own_pd4 : parseMethodDescriptor "()J" = some ⟨[], some .long⟩ := by decide +kernel
theorem own_pd5 : parseMethodDescriptor "(J)[B" = some ⟨[.long], some (.array .byte)⟩ := by decide +kernel
theorem own_pd6 : parseMethodDescriptor "()[B" = some ⟨[], some (.array .byte)⟩ := by decide +kernel
theorem own_d6_0 : decode prog_18_method_5_code 0 = .ok (.aload_n 1, 1) := by decide +kernel
theorem own_d6_1 : decode prog_18_method_5_code 1 = .ok (.invokevirtual 34, 3) := by decide +kernel
theorem own_d6_4 : decode prog_18_method_5_code 4 = .ok (.lstore_n 2, 1) := by decide +kernel
theorem own_d6_5 : decode prog_18_method_5_code 5 = .ok (.lload_n 2, 1) := by decide +kernel
theorem own_d6_6 : decode prog_18_method_5_code 6 = .ok (.ldc2_w 40, 3) := by decide +kernel
theorem own_d6_9 : decode prog_18_method_5_code 9 = .ok (.lcmp, 1) := by decide +kernel
theorem own_d6_10 : decode prog_18_method_5_code 10 = .ok (.ifCond .ne 14, 3) := by decide +kernel
theorem own_d6_13 : decode prog_18_method_5_code 13 = .ok (.aload_n 0, 1) := by decide +kernel
theorem own_d6_14 : decode prog_18_method_5_code 14 = .ok (.lconst 0, 1) := by decide +kernel
theorem own_d6_15 : decode prog_18_method_5_code 15 = .ok (.invokestatic 42, 3) := by decide +kernel
theorem own_d6_18 : decode prog_18_method_5_code 18 = .ok (.invokevirtual 13, 3) := by decide +kernel
theorem own_d6_21 : decode prog_18_method_5_code 21 = .ok (.goto 18, 3) := by decide +kernel
theorem own_d6_24 : decode prog_18_method_5_code 24 = .ok (.aload_n 0, 1) := by decide +kernel
theorem own_d6_25 : decode prog_18_method_5_code 25 = .ok (.lload_n 2, 1) := by decide +kernel
theorem own_d6_26 : decode prog_18_method_5_code 26 = .ok (.aload_n 0, 1) := by decide +kernel
theorem own_d6_27 : decode prog_18_method_5_code 27 = .ok (.getfield 27, 3) := by decide +kernel
theorem own_d6_30 : decode prog_18_method_5_code 30 = .ok (.lsub, 1) := by decide +kernel
theorem own_d6_31 : decode prog_18_method_5_code 31 = .ok (.lconst 1, 1) := by decide +kernel
theorem own_d6_32 : decode prog_18_method_5_code 32 = .ok (.ladd, 1) := by decide +kernel
theorem own_d6_33 : decode prog_18_method_5_code 33 = .ok (.invokestatic 42, 3) := by decide +kernel
theorem own_d6_36 : decode prog_18_method_5_code 36 = .ok (.invokevirtual 13, 3) := by decide +kernel
theorem own_d6_39 : decode prog_18_method_5_code 39 = .ok (.aload_n 0, 1) := by decide +kernel
theorem own_d6_40 : decode prog_18_method_5_code 40 = .ok (.lload_n 2, 1) := by decide +kernel
theorem own_d6_41 : decode prog_18_method_5_code 41 = .ok (.putfield 27, 3) := by decide +kernel
theorem own_d6_44 : decode prog_18_method_5_code 44 = .ok (.aload_n 1, 1) := by decide +kernel
theorem own_d6_45 : decode prog_18_method_5_code 45 = .ok (.invokevirtual 48, 3) := by decide +kernel
theorem own_d6_48 : decode prog_18_method_5_code 48 = .ok (.astore 4, 2) := by decide +kernel
theorem own_d6_50 : decode prog_18_method_5_code 50 = .ok (.aload_n 0, 1) := by decide +kernel
theorem own_d6_51 : decode prog_18_method_5_code 51 = .ok (.aload 4, 2) := by decide +kernel
theorem own_d6_53 : decode prog_18_method_5_code 53 = .ok (.arraylength, 1) := by decide +kernel
theorem own_d6_54 : decode prog_18_method_5_code 54 = .ok (.i2l, 1) := by decide +kernel
theorem own_d6_55 : decode prog_18_method_5_code 55 = .ok (.invokestatic 42, 3) := by decide +kernel
theorem own_d6_58 : decode prog_18_method_5_code 58 = .ok (.invokevirtual 13, 3) := by decide +kernel
theorem own_d6_61 : decode prog_18_method_5_code 61 = .ok (.aload_n 0, 1) := by decide +kernel
theorem own_d6_62 : decode prog_18_method_5_code 62 = .ok (.aload 4, 2) := by decide +kernel
theorem own_d6_64 : decode prog_18_method_5_code 64 = .ok (.invokevirtual 13, 3) := by decide +kernel
theorem own_d6_67 : decode prog_18_method_5_code 67 = .ok (.return_, 1) := by decide +kernel
theorem own_ef_6 (m : MethodId) (x0 : Addr) (x1 : Addr) : entryFrame m #[(.ref x0), (.ref x1)] 5 = mkF m 0 #[.val (.ref x0), .val (.ref x1), .unset, .unset, .unset] [] := by first | (simp [entryFrame, mkF, argsToLocals, Value.category]; done) | rfl
def own_Q_writeBound (Z : State) (a0 : Addr) (a1 : Addr) (bf : Addr) (kb : ClassId) (vs : List Value) (sz : Nat) (pt : Int64) (ms : Int32) (mp : Int64) (t : Int64) (pf : Addr) (kp : ClassId) (np : Nat) (up : List Value) (h0 : Heap) (n0 : Nat) (v : Option Value) (h : Heap) (L : List Loc) : Prop := v = none ∧ Fr n0 L ∧ Keep h0 h [a0, bf] ∧ ∃ (n1 : Nat) (vs' : List Value), 1 ≤ n1 ∧ n1 ≤ 10 ∧ Fld Z h a0 "com/example/ketchup/ketchup/negentropy/MessageWriter" "buffer" "[B" (.ref bf) ∧ Fld Z h a0 "com/example/ketchup/ketchup/negentropy/MessageWriter" "size" "I" (.int (Int32.ofNat (sz + n1 + 1 + np))) ∧ Fld Z h a0 "com/example/ketchup/ketchup/negentropy/MessageWriter" "previousTimestamp" "J" (.long t) ∧ Fld Z h a0 "com/example/ketchup/ketchup/negentropy/MessageWriter" "markedSize" "I" (.int ms) ∧ Fld Z h a0 "com/example/ketchup/ketchup/negentropy/MessageWriter" "markedPreviousTimestamp" "J" (.long mp) ∧ Arv Z h bf kb .byte (256 : Int32) vs' (Value.int (0 : Int32)) ∧ vs'.length = 256 ∧ (∀ i, i < sz → vs'.getD i (Value.int (0 : Int32)) = vs.getD i (Value.int (0 : Int32))) ∧ ((own_enc t pt).toUInt64.toNat < 128 → n1 = 1 ∧ vs'.getD sz (Value.int (0 : Int32)) = .int (own_enc t pt).toInt32 ∧ vs'.getD (sz + 1) (Value.int (0 : Int32)) = .int (Int32.ofNat np))
set_option maxRecDepth 65536 in
set_option maxHeartbeats 40000000 in
theorem own_rm_writeBound (l : Launch) (Z : State) (aw : Array Value) (hw : ∀ d ∈ tables_1, d.before aw Z = true) (ws : List Jvm.Cond) (a0 : Addr) (a1 : Addr) (bf : Addr) (kb : ClassId) (vs : List Value) (sz : Nat) (pt : Int64) (ms : Int32) (mp : Int64) (t : Int64) (pf : Addr) (kp : ClassId) (np : Nat) (up : List Value) (h0 : Heap) (n0 : Nat) (Z0 : n0 ≤ h0.size) (E_a0 : Exa Z h0 a0 "com/example/ketchup/ketchup/negentropy/MessageWriter") (F_buffer : Fld Z h0 a0 "com/example/ketchup/ketchup/negentropy/MessageWriter" "buffer" "[B" (.ref bf)) (F_size : Fld Z h0 a0 "com/example/ketchup/ketchup/negentropy/MessageWriter" "size" "I" (.int (Int32.ofNat sz))) (F_previousTimestamp : Fld Z h0 a0 "com/example/ketchup/ketchup/negentropy/MessageWriter" "previousTimestamp" "J" (.long pt)) (F_markedSize : Fld Z h0 a0 "com/example/ketchup/ketchup/negentropy/MessageWriter" "markedSize" "I" (.int ms)) (F_markedPreviousTimestamp : Fld Z h0 a0 "com/example/ketchup/ketchup/negentropy/MessageWriter" "markedPreviousTimestamp" "J" (.long mp)) (V_bf : Arv Z h0 bf kb .byte (256 : Int32) vs (Value.int (0 : Int32))) (hvs : vs.length = 256) (ne_ab : a0 ≠ bf) (g_a0 : n0 ≤ a0) (g_bf : n0 ≤ bf) (E_a1 : Exa Z h0 a1 "com/example/ketchup/ketchup/negentropy/Bound") (F_t : Fld Z h0 a1 "com/example/ketchup/ketchup/negentropy/Bound" "timestamp" "J" (.long t)) (F_p : Fld Z h0 a1 "com/example/ketchup/ketchup/negentropy/Bound" "prefix" "[B" (.ref pf)) (V_pf : Arv Z h0 pf kp .byte (Int32.ofNat np) up (Value.int (0 : Int32))) (ne_a1 : a0 ≠ a1) (ne_b1 : bf ≠ a1) (ne_ap : a0 ≠ pf) (ne_bp : bf ≠ pf) (ne_1p : a1 ≠ pf) (hnp : np ≤ 32) (hfit : sz + 52 ≤ 256) :
    MetFree l (⟨"com/example/ketchup/ketchup/negentropy/MessageWriter", "writeBound", "(Lcom/example/ketchup/ketchup/negentropy/Bound;)V"⟩ : MethodName) (head1 (Jvm.Cond.code (⟨"com/example/ketchup/ketchup/negentropy/MessageWriter", "writeBound", "(Lcom/example/ketchup/ketchup/negentropy/Bound;)V"⟩ : MethodName) prog_18_method_5_code 5 none :: ws) ({ frames := 2, cells := 4, slots := 40, locals := 37 } : Room)) (fun a U => a = #[(.ref a0), (.ref a1)] ∧ Z.Warmed39 U.vm ∧ U.heap = h0) (fun _ _ _ _ _ => True) (fun _ U o U' => ∃ v L, o = .returned v ∧ own_Q_writeBound Z a0 a1 bf kb vs sz pt ms mp t pf kp np up h0 n0 v U'.heap L ∧ FrameEnd U o U' L ({ frames := 2, cells := 4, slots := 40, locals := 37 } : Room).cells ({ frames := 2, cells := 4, slots := 40, locals := 37 } : Room).slots) := by
  refine MetFree.of_bodySF (plainFor_of_name own_pn0) hisR ?_
  intro p e s m args below meth c s₁ Bd hml0 hP hK
  obtain ⟨rfl, hZ, hh⟩ := hP
  have hx := Bd.exec
  have hby := Bd.bytes
  have hlk : meth.locks = false := BodyLoose.notSynchronized Bd
  have hml : c.maxLocals = 5 := hml0
  have hown : s.vm.findClass "com/example/ketchup/ketchup/negentropy/MessageWriter" = some m.cls := findClass_of_methodNamed Bd.named
  have hnm := (name_of_methodNamed Bd.named Bd.method).1
  have X0 : Stand p l e ({ frames := 2, cells := 4, slots := 40, locals := 37 } : Room) s m #[(.ref a0), (.ref a1)] below meth c s₁ [] 0 0 := Stand.of_body Bd
  have e0 : s₁.heap = h0 := by rw [← hh, Bd.state]; rfl
  have N0 := Fr.nil n0
  have K0 : Keep h0 h0 [a0, bf] := Keep.refl _ _
  have pre0 : ∀ t, Steps p.tables e below (s₁.setTop (mkF m 0 #[.val (.ref a0), .val (.ref a1), .unset, .unset, .unset] [])) t → Steps p.tables e below (s₁.setTop (entryFrame m #[(.ref a0), (.ref a1)] 5)) t := fun t k => castTop (own_ef_6 m a0 a1) k
  show own_Ends p.tables e below (own_Q s (own_Q_writeBound Z a0 a1 bf kb vs sz pt ms mp t pf kp np up h0 n0) ({ frames := 2, cells := 4, slots := 40, locals := 37 } : Room).cells ({ frames := 2, cells := 4, slots := 40, locals := 37 } : Room).slots) (s₁.setTop (entryFrame m #[(.ref a0), (.ref a1)] 5))
  refine own_step pre0 ?_
  show own_Ends p.tables e below _ (s₁.setTop (mkF m 0 #[.val (.ref a0), .val (.ref a1), .unset, .unset, .unset] []))
  refine own_step (fun _ k => XS.aloadN X0.here hx rfl (hb hby own_d6_0) rfl rfl k) ?_
  show own_Ends p.tables e below _ (s₁.setTop (mkF m 1 #[.val (.ref a0), .val (.ref a1), .unset, .unset, .unset] [(.ref a1)]))
  obtain ⟨cq1, kq1, q1a, q1b, q1c⟩ := isOf hZ e0 E_a1
  obtain ⟨_, _, ⟨T1, L1, k1, n1⟩, -, X1, ⟨Lc1, hQ1, l1, y1, z1⟩, st1⟩ := X0.virtualBack hx (y := (⟨"com/example/ketchup/ketchup/negentropy/Bound", "timestamp", "()J"⟩ : MethodName)) (z := (⟨"com/example/ketchup/ketchup/negentropy/Bound", "timestamp", "()J"⟩ : MethodName)) hown (mvT hZ (hw _ (List.mem_of_getElem? (i := 51) rfl))) (mvT hZ (hw _ (List.mem_of_getElem? (i := 52) rfl))) (notFace_of_selects (args := #[]) (mvT hZ (hw _ (List.mem_of_getElem? (i := 54) rfl)))) (mvT hZ (hw _ (List.mem_of_getElem? (i := 54) rfl))) (mvT hZ (hw _ (List.mem_of_getElem? (i := 53) rfl))) (by decide) (backOf (W := 0) (own_rm_timestamp l Z aw hw [] a1 t h0 n0 Z0 F_t) hZ (hw _ (List.mem_of_getElem? (i := 55) rfl)) (hw _ (List.mem_of_getElem? (i := 4) rfl)) (by decide) (by decide)) q1a q1c (g := (mkF m 1 #[.val (.ref a0), .val (.ref a1), .unset, .unset, .unset] [(.ref a1)])) rfl (by rw [hml]; rfl) (Steps.refl _) (argsL := []) (rest := []) (lenOf own_pd4 rfl) rfl (by show 2 * 0 + _ ≤ _; exact Nat.le_of_eq rfl) (hb hby own_d6_1) (fun _ _ => ⟨rfl, e0, (by decide : 0 + 0 ≤ _), (by decide : 0 + 0 ≤ _)⟩)
  dsimp only [Pt.U, Pt.locs, Pt.cells, Pt.slots] at X1 l1 y1 z1 st1 hQ1
  subst l1 y1 z1
  obtain ⟨rfl, N1q, e1⟩ := hQ1
  have N_1 := Fr.app N0 N1q
  refine own_step (fun _ k => st1.trans k) ?_
  show own_Ends p.tables e below _ (T1.setTop (mkF m 4 #[.val (.ref a0), .val (.ref a1), .unset, .unset, .unset] [(.long t)]))
  refine own_step (fun _ k => XS.lstoreN X1.here hx rfl (hb hby own_d6_4) rfl (l' := #[.val (.ref a0), .val (.ref a1), .val (.long t), .second, .unset]) rfl k) ?_
  show own_Ends p.tables e below _ (T1.setTop (mkF m 5 #[.val (.ref a0), .val (.ref a1), .val (.long t), .second, .unset] []))
  refine own_step (fun _ k => XS.lloadN X1.here hx rfl (hb hby own_d6_5) rfl k) ?_
  show own_Ends p.tables e below _ (T1.setTop (mkF m 6 #[.val (.ref a0), .val (.ref a1), .val (.long t), .second, .unset] [(.long t)]))
  refine own_step (fun _ k => X1.ldc2Long hx hown (mvT hZ (hw _ (List.mem_of_getElem? (i := 56) rfl))) (g := (mkF m 6 #[.val (.ref a0), .val (.ref a1), .val (.long t), .second, .unset] [(.long t)])) rfl (hb hby own_d6_6) _ k) ?_
  show own_Ends p.tables e below _ (T1.setTop (mkF m 9 #[.val (.ref a0), .val (.ref a1), .val (.long t), .second, .unset] [(.long (-1 : Int64)), (.long t)]))
  refine own_step (fun _ k => XS.lcmp X1.here hx rfl (hb hby own_d6_9) rfl k) ?_
  show own_Ends p.tables e below _ (T1.setTop (mkF m 10 #[.val (.ref a0), .val (.ref a1), .val (.long t), .second, .unset] [(.int (lcmpW t (-1 : Int64)))]))
  by_cases hc10 : t = (-1 : Int64)
  · refine own_step (fun _ k => XS.ifNo X1.here hx rfl (hb hby own_d6_10) rfl ((if0 _ _).trans (teq ((own_lc_eq _ _).mpr hc10)).2) k) ?_
    show own_Ends p.tables e below _ (T1.setTop (mkF m 13 #[.val (.ref a0), .val (.ref a1), .val (.long t), .second, .unset] []))
    refine own_step (fun _ k => XS.aloadN X1.here hx rfl (hb hby own_d6_13) rfl rfl k) ?_
    show own_Ends p.tables e below _ (T1.setTop (mkF m 14 #[.val (.ref a0), .val (.ref a1), .val (.long t), .second, .unset] [(.ref a0)]))
    refine own_step (fun _ k => XS.lconst X1.here hx rfl (hb hby own_d6_14) k) ?_
    show own_Ends p.tables e below _ (T1.setTop (mkF m 15 #[.val (.ref a0), .val (.ref a1), .val (.long t), .second, .unset] [(.long (0 : Int64)), (.ref a0)]))
    obtain ⟨_, _, ⟨T2, L2, k2, n2⟩, -, X2, ⟨Lc2, hQ2, l2, y2, z2⟩, st2⟩ := Jvm.LawKit.callS X1 hx (y := (⟨"com/example/ketchup/ketchup/negentropy/Varint", "encode", "(J)[B"⟩ : MethodName)) hown (mvT hZ (hw _ (List.mem_of_getElem? (i := 57) rfl))) (mvT hZ (hw _ (List.mem_of_getElem? (i := 58) rfl))) (mvT hZ (hw _ (List.mem_of_getElem? (i := 59) rfl))) (mvT hZ (hw _ (List.mem_of_getElem? (i := 60) rfl))) (by decide) (backOf (W := 1) (own_rm_encode l Z aw hw [] (0 : Int64) h0 n0 Z0 ) hZ (hw _ (List.mem_of_getElem? (i := 60) rfl)) (hw _ (List.mem_of_getElem? (i := 59) rfl)) (by decide) (by decide)) (g := (mkF m 15 #[.val (.ref a0), .val (.ref a1), .val (.long t), .second, .unset] [(.long (0 : Int64)), (.ref a0)])) rfl (by rw [hml]; rfl) (argsL := [(.long (0 : Int64))]) (rest := [(.ref a0)]) (lenOf own_pd5 rfl) rfl (by show 2 * 0 + _ ≤ _; exact Nat.le_of_eq rfl) (hb hby own_d6_15) (fun _ _ => ⟨rfl, e1, (by decide : 0 + 2 ≤ _), (by decide : 0 + 20 ≤ _)⟩)
    dsimp only [Pt.U, Pt.locs, Pt.cells, Pt.slots] at X2 l2 y2 z2 st2 hQ2
    subst l2 y2 z2
    obtain ⟨be2, ke2, ne2, ue2, rfl, N2q, k2, ge2, hs2, el2, eu2, Ve2, hd2⟩ := hQ2
    have N_2 := Fr.app N_1 N2q
    have ne_a0_be2 : a0 ≠ be2 := Nat.ne_of_lt (Nat.lt_of_lt_of_le F_buffer.lt hs2)
    have ne_a1_be2 : a1 ≠ be2 := Nat.ne_of_lt (Nat.lt_of_lt_of_le E_a1.lt hs2)
    have ne_bf_be2 : bf ≠ be2 := Nat.ne_of_lt (Nat.lt_of_lt_of_le V_bf.lt hs2)
    have ne_pf_be2 : pf ≠ be2 := Nat.ne_of_lt (Nat.lt_of_lt_of_le V_pf.lt hs2)
    have sz_be2 : h0.size ≤ be2 := Nat.le_trans K0.1 hs2
    have F_buffer_2 := F_buffer.keep k2 nin0
    have F_size_2 := F_size.keep k2 nin0
    have F_previousTimestamp_2 := F_previousTimestamp.keep k2 nin0
    have F_markedSize_2 := F_markedSize.keep k2 nin0
    have F_markedPreviousTimestamp_2 := F_markedPreviousTimestamp.keep k2 nin0
    have E_a0_2 := E_a0.keep k2
    have V_bf_2 := V_bf.keep k2 nin0
    have E_a1_2 := E_a1.keep k2
    have F_t_2 := F_t.keep k2 nin0
    have F_p_2 := F_p.keep k2 nin0
    have V_pf_2 := V_pf.keep k2 nin0
    have K_2 : Keep h0 T2.heap [a0, bf] := K0.trans k2 all0
    have Z_2 : n0 ≤ T2.heap.size := Nat.le_trans Z0 k2.1
    refine own_step st2 ?_
    show own_Ends p.tables e below _ (T2.setTop (mkF m 18 #[.val (.ref a0), .val (.ref a1), .val (.long t), .second, .unset] [(.ref be2), (.ref a0)]))
    obtain ⟨cq3, qz3, qz3'⟩ := E_a0_2.cell
    obtain ⟨_, _, ⟨T3, L3, k3, n3⟩, -, X3, ⟨Lc3, hQ3, l3, y3, z3⟩, st3⟩ := X2.privateBack hx (y := (⟨"com/example/ketchup/ketchup/negentropy/MessageWriter", "write", "([B)V"⟩ : MethodName)) hown (mvT hZ (hw _ (List.mem_of_getElem? (i := 25) rfl))) (mvT hZ (hw _ (List.mem_of_getElem? (i := 26) rfl))) (own_sel_priv (by decide) (mvT hZ (hw _ (List.mem_of_getElem? (i := 17) rfl))) (mvP hZ (hw _ (List.mem_of_getElem? (i := 27) rfl))) (mvT hZ (hw _ (List.mem_of_getElem? (i := 26) rfl)))) (Cond.privateMethod_at (mvP hZ (hw _ (List.mem_of_getElem? (i := 27) rfl)) (args := #[]))) (mvT hZ (hw _ (List.mem_of_getElem? (i := 28) rfl))) (by decide) (backOf (W := 0) (own_rm_write l Z aw hw [] a0 be2 bf kb vs sz pt ms mp ke2 ne2 ue2 T2.heap n0 Z_2 E_a0_2 F_buffer_2 F_size_2 F_previousTimestamp_2 F_markedSize_2 F_markedPreviousTimestamp_2 V_bf_2 hvs ne_ab g_a0 g_bf Ve2 ne_bf_be2 ne_a0_be2 (by omega)) hZ (hw _ (List.mem_of_getElem? (i := 28) rfl)) (hw _ (List.mem_of_getElem? (i := 18) rfl)) (by decide) (by decide)) (g := (mkF m 18 #[.val (.ref a0), .val (.ref a1), .val (.long t), .second, .unset] [(.ref be2), (.ref a0)])) rfl (by rw [hml]; rfl) (Steps.refl _) (a := a0) qz3 qz3' (argsL := [(.ref be2)]) (rest := []) (lenOf own_pd3 rfl) rfl (by show 2 * 0 + _ ≤ _; exact Nat.le_of_eq rfl) (hb hby own_d6_18) (fun _ _ => ⟨rfl, rfl, (by decide : 2 + 0 ≤ _), (by decide : 20 + 0 ≤ _)⟩)
    dsimp only [Pt.U, Pt.locs, Pt.cells, Pt.slots] at X3 l3 y3 z3 st3 hQ3
    subst l3 y3 z3
    obtain ⟨rfl, N3q, k3, Fb3, Fz3, Fp3, Fm3, Fq3, Vb3⟩ := hQ3
    have N_3 := Fr.app N_2 N3q
    have E_a0_3 := E_a0_2.keep k3
    have E_a1_3 := E_a1_2.keep k3
    have F_t_3 := F_t_2.keep k3 (ninS (Ne.symm ne_a1) (ninS (Ne.symm ne_b1) nin0))
    have F_p_3 := F_p_2.keep k3 (ninS (Ne.symm ne_a1) (ninS (Ne.symm ne_b1) nin0))
    have V_pf_3 := V_pf_2.keep k3 (ninS (Ne.symm ne_ap) (ninS (Ne.symm ne_bp) nin0))
    have Ve2_3 := Ve2.keep k3 (ninS (Ne.symm ne_a0_be2) (ninS (Ne.symm ne_bf_be2) nin0))
    have K_3 : Keep h0 T3.heap [a0, bf] := K_2.trans k3 (allS (Or.inl (List.mem_of_getElem? (i := 0) rfl)) (allS (Or.inl (List.mem_of_getElem? (i := 1) rfl)) all0))
    have Z_3 : n0 ≤ T3.heap.size := Nat.le_trans Z_2 k3.1
    have hvs3 : (own_put vs sz ne2 ue2).length = 256 := by rw [own_put_len (by rw [hvs]; omega)]; exact hvs
    refine own_step (fun _ k => st3.trans k) ?_
    show own_Ends p.tables e below _ (T3.setTop (mkF m 21 #[.val (.ref a0), .val (.ref a1), .val (.long t), .second, .unset] []))
    refine own_step (fun _ k => XS.goto X3.here hx rfl (pc0 := 21) (pc' := 39) rfl (hb hby own_d6_21) (by decide) (by decide) k) ?_
    show own_Ends p.tables e below _ (T3.setTop (mkF m 39 #[.val (.ref a0), .val (.ref a1), .val (.long t), .second, .unset] []))
    refine own_step (fun _ k => XS.aloadN X3.here hx rfl (hb hby own_d6_39) rfl rfl k) ?_
    show own_Ends p.tables e below _ (T3.setTop (mkF m 40 #[.val (.ref a0), .val (.ref a1), .val (.long t), .second, .unset] [(.ref a0)]))
    refine own_step (fun _ k => XS.lloadN X3.here hx rfl (hb hby own_d6_40) rfl k) ?_
    show own_Ends p.tables e below _ (T3.setTop (mkF m 41 #[.val (.ref a0), .val (.ref a1), .val (.long t), .second, .unset] [(.long t), (.ref a0)]))
    obtain ⟨T4, h4, X4, e4, W4, st4⟩ := putF X3 hx hZ hown (host := "") (Or.inl (hw _ (List.mem_of_getElem? (i := 42) rfl))) Via.refl rfl Fp3 E_a0_3 (Or.inl (hw _ (List.mem_of_getElem? (i := 43) rfl))) (hw _ (List.mem_of_getElem? (i := 17) rfl)) (ty := .long) (by decide) rfl rfl (g := (mkF m 41 #[.val (.ref a0), .val (.ref a1), .val (.long t), .second, .unset] [(.long t), (.ref a0)])) rfl rfl (hb hby own_d6_41)
    refine own_step st4 ?_
    have E_a0_4 := E_a0_3.wr W4
    have E_a1_4 := E_a1_3.wr W4
    have F_t_4 := F_t_3.other W4 (Or.inl (Ne.symm ne_a1))
    have F_p_4 := F_p_3.other W4 (Or.inl (Ne.symm ne_a1))
    have V_pf_4 := V_pf_3.other W4 (Ne.symm ne_ap)
    have Ve2_4 := Ve2_3.other W4 (Ne.symm ne_a0_be2)
    have Fb3_4 := Fb3.other W4 (Or.inr (slot_ne (Or.inl (hw _ (List.mem_of_getElem? (i := 24) rfl))) (Or.inl (hw _ (List.mem_of_getElem? (i := 43) rfl))) (by decide) (t := (.array .byte)) (t' := .long) (by decide) (by decide)))
    have Fz3_4 := Fz3.other W4 (Or.inr (slot_ne (Or.inl (hw _ (List.mem_of_getElem? (i := 30) rfl))) (Or.inl (hw _ (List.mem_of_getElem? (i := 43) rfl))) (by decide) (t := .int) (t' := .long) (by decide) (by decide)))
    have Fp3_4 := Fp3.same W4
    have Fm3_4 := Fm3.other W4 (Or.inr (slot_ne (Or.inl (hw _ (List.mem_of_getElem? (i := 41) rfl))) (Or.inl (hw _ (List.mem_of_getElem? (i := 43) rfl))) (by decide) (t := .int) (t' := .long) (by decide) (by decide)))
    have Fq3_4 := Fq3.other W4 (Or.inr (slot_ne (Or.inl (hw _ (List.mem_of_getElem? (i := 45) rfl))) (Or.inl (hw _ (List.mem_of_getElem? (i := 43) rfl))) (by decide) (t := .long) (t' := .long) (by decide) (by decide)))
    have Vb3_4 := Vb3.other W4 (Ne.symm ne_ab)
    have K_4 : Keep h0 h4 [a0, bf] := K_3.wr W4 (Or.inl (List.mem_of_getElem? (i := 0) rfl))
    have Z_4 : n0 ≤ h4.size := Nat.le_trans Z_3 (Keep.of_wr W4).1
    have N_4 := Fr.snoc X4 N_3 g_a0
    show own_Ends p.tables e below _ (T4.setTop (mkF m 44 #[.val (.ref a0), .val (.ref a1), .val (.long t), .second, .unset] []))
    refine own_step (fun _ k => XS.aloadN X4.here hx rfl (hb hby own_d6_44) rfl rfl k) ?_
    show own_Ends p.tables e below _ (T4.setTop (mkF m 45 #[.val (.ref a0), .val (.ref a1), .val (.long t), .second, .unset] [(.ref a1)]))
    obtain ⟨cq5, kq5, q5a, q5b, q5c⟩ := isOf hZ e4 E_a1_4
    obtain ⟨_, _, ⟨T5, L5, k5, n5⟩, -, X5, ⟨Lc5, hQ5, l5, y5, z5⟩, st5⟩ := X4.virtualBack hx (y := (⟨"com/example/ketchup/ketchup/negentropy/Bound", "prefix", "()[B"⟩ : MethodName)) (z := (⟨"com/example/ketchup/ketchup/negentropy/Bound", "prefix", "()[B"⟩ : MethodName)) hown (mvT hZ (hw _ (List.mem_of_getElem? (i := 63) rfl))) (mvT hZ (hw _ (List.mem_of_getElem? (i := 64) rfl))) (notFace_of_selects (args := #[]) (mvT hZ (hw _ (List.mem_of_getElem? (i := 66) rfl)))) (mvT hZ (hw _ (List.mem_of_getElem? (i := 66) rfl))) (mvT hZ (hw _ (List.mem_of_getElem? (i := 65) rfl))) (by decide) (backOf (W := 0) (own_rm_prefix l Z aw hw [] a1 pf h4 n0 Z_4 F_p_4) hZ (hw _ (List.mem_of_getElem? (i := 67) rfl)) (hw _ (List.mem_of_getElem? (i := 4) rfl)) (by decide) (by decide)) q5a q5c (g := (mkF m 45 #[.val (.ref a0), .val (.ref a1), .val (.long t), .second, .unset] [(.ref a1)])) rfl (by rw [hml]; rfl) (Steps.refl _) (argsL := []) (rest := []) (lenOf own_pd6 rfl) rfl (by show 2 * 0 + _ ≤ _; exact Nat.le_of_eq rfl) (hb hby own_d6_45) (fun _ _ => ⟨rfl, e4, (by decide : 2 + 0 ≤ _), (by decide : 20 + 0 ≤ _)⟩)
    dsimp only [Pt.U, Pt.locs, Pt.cells, Pt.slots] at X5 l5 y5 z5 st5 hQ5
    subst l5 y5 z5
    obtain ⟨rfl, N5q, e5⟩ := hQ5
    have N_5 := Fr.app N_4 N5q
    refine own_step (fun _ k => st5.trans k) ?_
    show own_Ends p.tables e below _ (T5.setTop (mkF m 48 #[.val (.ref a0), .val (.ref a1), .val (.long t), .second, .unset] [(.ref pf)]))
    refine own_step (fun _ k => XS.astore X5.here hx rfl (hb hby own_d6_48) rfl rfl (l' := #[.val (.ref a0), .val (.ref a1), .val (.long t), .second, .val (.ref pf)]) rfl k) ?_
    show own_Ends p.tables e below _ (T5.setTop (mkF m 50 #[.val (.ref a0), .val (.ref a1), .val (.long t), .second, .val (.ref pf)] []))
    refine own_step (fun _ k => XS.aloadN X5.here hx rfl (hb hby own_d6_50) rfl rfl k) ?_
    show own_Ends p.tables e below _ (T5.setTop (mkF m 51 #[.val (.ref a0), .val (.ref a1), .val (.long t), .second, .val (.ref pf)] [(.ref a0)]))
    refine own_step (fun _ k => XS.aload X5.here hx rfl (hb hby own_d6_51) rfl rfl k) ?_
    show own_Ends p.tables e below _ (T5.setTop (mkF m 53 #[.val (.ref a0), .val (.ref a1), .val (.long t), .second, .val (.ref pf)] [(.ref pf), (.ref a0)]))
    obtain ⟨cl6, Ar6, q6, S6, Nn6, H6, G6⟩ := id V_pf_4
    refine own_step (fun _ k => X5.arraylength hx (by rw [e5]; exact Ar6.1) (State.isArrayOf_alike hZ.alike Ar6.2.1) (g := (mkF m 53 #[.val (.ref a0), .val (.ref a1), .val (.long t), .second, .val (.ref pf)] [(.ref pf), (.ref a0)])) rfl rfl (hb hby own_d6_53) _ k) ?_
    rw [len_of S6 Nn6]
    show own_Ends p.tables e below _ (T5.setTop (mkF m 54 #[.val (.ref a0), .val (.ref a1), .val (.long t), .second, .val (.ref pf)] [(.int (Int32.ofNat np)), (.ref a0)]))
    refine own_step (fun _ k => XS.i2l X5.here hx rfl (hb hby own_d6_54) rfl k) ?_
    show own_Ends p.tables e below _ (T5.setTop (mkF m 55 #[.val (.ref a0), .val (.ref a1), .val (.long t), .second, .val (.ref pf)] [(.long ((Int32.ofNat np).toInt64)), (.ref a0)]))
    obtain ⟨_, _, ⟨T7, L7, k7, n7⟩, -, X7, ⟨Lc7, hQ7, l7, y7, z7⟩, st7⟩ := Jvm.LawKit.callS X5 hx (y := (⟨"com/example/ketchup/ketchup/negentropy/Varint", "encode", "(J)[B"⟩ : MethodName)) hown (mvT hZ (hw _ (List.mem_of_getElem? (i := 57) rfl))) (mvT hZ (hw _ (List.mem_of_getElem? (i := 58) rfl))) (mvT hZ (hw _ (List.mem_of_getElem? (i := 59) rfl))) (mvT hZ (hw _ (List.mem_of_getElem? (i := 60) rfl))) (by decide) (backOf (W := 1) (own_rm_encode l Z aw hw [] ((Int32.ofNat np).toInt64) h4 n0 Z_4 ) hZ (hw _ (List.mem_of_getElem? (i := 60) rfl)) (hw _ (List.mem_of_getElem? (i := 59) rfl)) (by decide) (by decide)) (g := (mkF m 55 #[.val (.ref a0), .val (.ref a1), .val (.long t), .second, .val (.ref pf)] [(.long ((Int32.ofNat np).toInt64)), (.ref a0)])) rfl (by rw [hml]; rfl) (argsL := [(.long ((Int32.ofNat np).toInt64))]) (rest := [(.ref a0)]) (lenOf own_pd5 rfl) rfl (by show 2 * 0 + _ ≤ _; exact Nat.le_of_eq rfl) (hb hby own_d6_55) (fun _ _ => ⟨rfl, e5, (by decide : 2 + 2 ≤ _), (by decide : 20 + 20 ≤ _)⟩)
    dsimp only [Pt.U, Pt.locs, Pt.cells, Pt.slots] at X7 l7 y7 z7 st7 hQ7
    subst l7 y7 z7
    obtain ⟨be7, ke7, ne7, ue7, rfl, N7q, k7, ge7, hs7, el7, eu7, Ve7, hd7⟩ := hQ7
    have N_7 := Fr.app N_5 N7q
    have ne_a0_be7 : a0 ≠ be7 := Nat.ne_of_lt (Nat.lt_of_lt_of_le E_a0_4.lt hs7)
    have ne_a1_be7 : a1 ≠ be7 := Nat.ne_of_lt (Nat.lt_of_lt_of_le E_a1_4.lt hs7)
    have ne_bf_be7 : bf ≠ be7 := Nat.ne_of_lt (Nat.lt_of_lt_of_le Vb3_4.lt hs7)
    have ne_pf_be7 : pf ≠ be7 := Nat.ne_of_lt (Nat.lt_of_lt_of_le V_pf_4.lt hs7)
    have ne_be2_be7 : be2 ≠ be7 := Nat.ne_of_lt (Nat.lt_of_lt_of_le Ve2_4.lt hs7)
    have sz_be7 : h0.size ≤ be7 := Nat.le_trans K_4.1 hs7
    have E_a0_7 := E_a0_4.keep k7
    have E_a1_7 := E_a1_4.keep k7
    have F_t_7 := F_t_4.keep k7 nin0
    have F_p_7 := F_p_4.keep k7 nin0
    have V_pf_7 := V_pf_4.keep k7 nin0
    have Ve2_7 := Ve2_4.keep k7 nin0
    have Fb3_7 := Fb3_4.keep k7 nin0
    have Fz3_7 := Fz3_4.keep k7 nin0
    have Fp3_7 := Fp3_4.keep k7 nin0
    have Fm3_7 := Fm3_4.keep k7 nin0
    have Fq3_7 := Fq3_4.keep k7 nin0
    have Vb3_7 := Vb3_4.keep k7 nin0
    have K_7 : Keep h0 T7.heap [a0, bf] := K_4.trans k7 all0
    have Z_7 : n0 ≤ T7.heap.size := Nat.le_trans Z_4 k7.1
    refine own_step st7 ?_
    show own_Ends p.tables e below _ (T7.setTop (mkF m 58 #[.val (.ref a0), .val (.ref a1), .val (.long t), .second, .val (.ref pf)] [(.ref be7), (.ref a0)]))
    obtain ⟨cq8, qz8, qz8'⟩ := E_a0_7.cell
    obtain ⟨_, _, ⟨T8, L8, k8, n8⟩, -, X8, ⟨Lc8, hQ8, l8, y8, z8⟩, st8⟩ := X7.privateBack hx (y := (⟨"com/example/ketchup/ketchup/negentropy/MessageWriter", "write", "([B)V"⟩ : MethodName)) hown (mvT hZ (hw _ (List.mem_of_getElem? (i := 25) rfl))) (mvT hZ (hw _ (List.mem_of_getElem? (i := 26) rfl))) (own_sel_priv (by decide) (mvT hZ (hw _ (List.mem_of_getElem? (i := 17) rfl))) (mvP hZ (hw _ (List.mem_of_getElem? (i := 27) rfl))) (mvT hZ (hw _ (List.mem_of_getElem? (i := 26) rfl)))) (Cond.privateMethod_at (mvP hZ (hw _ (List.mem_of_getElem? (i := 27) rfl)) (args := #[]))) (mvT hZ (hw _ (List.mem_of_getElem? (i := 28) rfl))) (by decide) (backOf (W := 0) (own_rm_write l Z aw hw [] a0 be7 bf kb (own_put vs sz ne2 ue2) (sz + ne2) t ms mp ke7 ne7 ue7 T7.heap n0 Z_7 E_a0_7 Fb3_7 Fz3_7 Fp3_7 Fm3_7 Fq3_7 Vb3_7 hvs3 ne_ab g_a0 g_bf Ve7 ne_bf_be7 ne_a0_be7 (by omega)) hZ (hw _ (List.mem_of_getElem? (i := 28) rfl)) (hw _ (List.mem_of_getElem? (i := 18) rfl)) (by decide) (by decide)) (g := (mkF m 58 #[.val (.ref a0), .val (.ref a1), .val (.long t), .second, .val (.ref pf)] [(.ref be7), (.ref a0)])) rfl (by rw [hml]; rfl) (Steps.refl _) (a := a0) qz8 qz8' (argsL := [(.ref be7)]) (rest := []) (lenOf own_pd3 rfl) rfl (by show 2 * 0 + _ ≤ _; exact Nat.le_of_eq rfl) (hb hby own_d6_58) (fun _ _ => ⟨rfl, rfl, (by decide : 4 + 0 ≤ _), (by decide : 40 + 0 ≤ _)⟩)
    dsimp only [Pt.U, Pt.locs, Pt.cells, Pt.slots] at X8 l8 y8 z8 st8 hQ8
    subst l8 y8 z8
    obtain ⟨rfl, N8q, k8, Fb8, Fz8, Fp8, Fm8, Fq8, Vb8⟩ := hQ8
    have N_8 := Fr.app N_7 N8q
    have E_a0_8 := E_a0_7.keep k8
    have E_a1_8 := E_a1_7.keep k8
    have F_t_8 := F_t_7.keep k8 (ninS (Ne.symm ne_a1) (ninS (Ne.symm ne_b1) nin0))
    have F_p_8 := F_p_7.keep k8 (ninS (Ne.symm ne_a1) (ninS (Ne.symm ne_b1) nin0))
    have V_pf_8 := V_pf_7.keep k8 (ninS (Ne.symm ne_ap) (ninS (Ne.symm ne_bp) nin0))
    have Ve2_8 := Ve2_7.keep k8 (ninS (Ne.symm ne_a0_be2) (ninS (Ne.symm ne_bf_be2) nin0))
    have Ve7_8 := Ve7.keep k8 (ninS (Ne.symm ne_a0_be7) (ninS (Ne.symm ne_bf_be7) nin0))
    have K_8 : Keep h0 T8.heap [a0, bf] := K_7.trans k8 (allS (Or.inl (List.mem_of_getElem? (i := 0) rfl)) (allS (Or.inl (List.mem_of_getElem? (i := 1) rfl)) all0))
    have Z_8 : n0 ≤ T8.heap.size := Nat.le_trans Z_7 k8.1
    have hvs8 : (own_put (own_put vs sz ne2 ue2) (sz + ne2) ne7 ue7).length = 256 := by rw [own_put_len (by rw [hvs3]; omega)]; exact hvs3
    refine own_step (fun _ k => st8.trans k) ?_
    show own_Ends p.tables e below _ (T8.setTop (mkF m 61 #[.val (.ref a0), .val (.ref a1), .val (.long t), .second, .val (.ref pf)] []))
    refine own_step (fun _ k => XS.aloadN X8.here hx rfl (hb hby own_d6_61) rfl rfl k) ?_
    show own_Ends p.tables e below _ (T8.setTop (mkF m 62 #[.val (.ref a0), .val (.ref a1), .val (.long t), .second, .val (.ref pf)] [(.ref a0)]))
    refine own_step (fun _ k => XS.aload X8.here hx rfl (hb hby own_d6_62) rfl rfl k) ?_
    show own_Ends p.tables e below _ (T8.setTop (mkF m 64 #[.val (.ref a0), .val (.ref a1), .val (.long t), .second, .val (.ref pf)] [(.ref pf), (.ref a0)]))
    obtain ⟨cq9, qz9, qz9'⟩ := E_a0_8.cell
    obtain ⟨_, _, ⟨T9, L9, k9, n9⟩, -, X9, ⟨Lc9, hQ9, l9, y9, z9⟩, st9⟩ := X8.privateBack hx (y := (⟨"com/example/ketchup/ketchup/negentropy/MessageWriter", "write", "([B)V"⟩ : MethodName)) hown (mvT hZ (hw _ (List.mem_of_getElem? (i := 25) rfl))) (mvT hZ (hw _ (List.mem_of_getElem? (i := 26) rfl))) (own_sel_priv (by decide) (mvT hZ (hw _ (List.mem_of_getElem? (i := 17) rfl))) (mvP hZ (hw _ (List.mem_of_getElem? (i := 27) rfl))) (mvT hZ (hw _ (List.mem_of_getElem? (i := 26) rfl)))) (Cond.privateMethod_at (mvP hZ (hw _ (List.mem_of_getElem? (i := 27) rfl)) (args := #[]))) (mvT hZ (hw _ (List.mem_of_getElem? (i := 28) rfl))) (by decide) (backOf (W := 0) (own_rm_write l Z aw hw [] a0 pf bf kb (own_put (own_put vs sz ne2 ue2) (sz + ne2) ne7 ue7) (sz + ne2 + ne7) t ms mp kp np up T8.heap n0 Z_8 E_a0_8 Fb8 Fz8 Fp8 Fm8 Fq8 Vb8 hvs8 ne_ab g_a0 g_bf V_pf_8 ne_bp ne_ap (by omega)) hZ (hw _ (List.mem_of_getElem? (i := 28) rfl)) (hw _ (List.mem_of_getElem? (i := 18) rfl)) (by decide) (by decide)) (g := (mkF m 64 #[.val (.ref a0), .val (.ref a1), .val (.long t), .second, .val (.ref pf)] [(.ref pf), (.ref a0)])) rfl (by rw [hml]; rfl) (Steps.refl _) (a := a0) qz9 qz9' (argsL := [(.ref pf)]) (rest := []) (lenOf own_pd3 rfl) rfl (by show 2 * 0 + _ ≤ _; exact Nat.le_of_eq rfl) (hb hby own_d6_64) (fun _ _ => ⟨rfl, rfl, (by decide : 4 + 0 ≤ _), (by decide : 40 + 0 ≤ _)⟩)
    dsimp only [Pt.U, Pt.locs, Pt.cells, Pt.slots] at X9 l9 y9 z9 st9 hQ9
    subst l9 y9 z9
    obtain ⟨rfl, N9q, k9, Fb9, Fz9, Fp9, Fm9, Fq9, Vb9⟩ := hQ9
    have N_9 := Fr.app N_8 N9q
    have E_a0_9 := E_a0_8.keep k9
    have E_a1_9 := E_a1_8.keep k9
    have F_t_9 := F_t_8.keep k9 (ninS (Ne.symm ne_a1) (ninS (Ne.symm ne_b1) nin0))
    have F_p_9 := F_p_8.keep k9 (ninS (Ne.symm ne_a1) (ninS (Ne.symm ne_b1) nin0))
    have V_pf_9 := V_pf_8.keep k9 (ninS (Ne.symm ne_ap) (ninS (Ne.symm ne_bp) nin0))
    have Ve2_9 := Ve2_8.keep k9 (ninS (Ne.symm ne_a0_be2) (ninS (Ne.symm ne_bf_be2) nin0))
    have Ve7_9 := Ve7_8.keep k9 (ninS (Ne.symm ne_a0_be7) (ninS (Ne.symm ne_bf_be7) nin0))
    have K_9 : Keep h0 T9.heap [a0, bf] := K_8.trans k9 (allS (Or.inl (List.mem_of_getElem? (i := 0) rfl)) (allS (Or.inl (List.mem_of_getElem? (i := 1) rfl)) all0))
    have Z_9 : n0 ≤ T9.heap.size := Nat.le_trans Z_8 k9.1
    have hvs9 : (own_put (own_put (own_put vs sz ne2 ue2) (sz + ne2) ne7 ue7) (sz + ne2 + ne7) np up).length = 256 := by rw [own_put_len (by rw [hvs8]; omega)]; exact hvs8
    refine own_step (fun _ k => st9.trans k) ?_
    show own_Ends p.tables e below _ (T9.setTop (mkF m 67 #[.val (.ref a0), .val (.ref a1), .val (.long t), .second, .val (.ref pf)] []))
    have he1 : own_enc t pt = (0 : Int64) := if_pos hc10
    obtain ⟨hn2, hu2⟩ := hd7 (by rw [(own_np np (by omega)).1]; omega)
    rw [(own_np np (by omega)).2] at hu2
    have hlen1 : (own_put vs sz ne2 ue2).length = 256 := by rw [own_put_len (by rw [hvs]; omega)]; exact hvs
    have hlen2 : (own_put (own_put vs sz ne2 ue2) (sz + ne2) ne7 ue7).length = 256 := by rw [own_put_len (by rw [hlen1]; omega)]; exact hlen1
    have hlow : ∀ i, i < sz → (own_put (own_put (own_put vs sz ne2 ue2) (sz + ne2) ne7 ue7) (sz + ne2 + ne7) np up).getD i (Value.int (0 : Int32)) = vs.getD i (Value.int (0 : Int32)) := fun i hi => by rw [own_put_lo _ (by rw [hlen2]; omega) (by omega), own_put_lo _ (by rw [hlen1]; omega) (by omega), own_put_lo _ (by rw [hvs]; omega) (by omega)]
    have hsma : (own_enc t pt).toUInt64.toNat < 128 → ne2 = 1 ∧ (own_put (own_put (own_put vs sz ne2 ue2) (sz + ne2) ne7 ue7) (sz + ne2 + ne7) np up).getD sz (Value.int (0 : Int32)) = Value.int (own_enc t pt).toInt32 ∧ (own_put (own_put (own_put vs sz ne2 ue2) (sz + ne2) ne7 ue7) (sz + ne2 + ne7) np up).getD (sz + 1) (Value.int (0 : Int32)) = Value.int (Int32.ofNat np) := by
      intro hsmall
      rw [he1] at hsmall ⊢
      obtain ⟨hn1, hu1⟩ := hd2 hsmall
      have q1 := own_put_at (i := 0) (us := ue2) (sz := sz) (n := ne2) (Value.int (0 : Int32)) (vs := vs) (by rw [hvs]; omega) (by omega)
      have q2 := own_put_at (i := 0) (us := ue7) (sz := sz + ne2) (n := ne7) (Value.int (0 : Int32)) (vs := own_put vs sz ne2 ue2) (by rw [hlen1]; omega) (by omega)
      refine ⟨hn1, ?_, ?_⟩
      · rw [own_put_lo _ (by rw [hlen2]; omega) (by omega), own_put_lo _ (by rw [hlen1]; omega) (by omega)]; exact q1.trans hu1
      · rw [show sz + 1 = sz + ne2 by omega, own_put_lo _ (by rw [hlen2]; omega) (by omega)]; exact q2.trans hu2
    exact own_ret0 X9 hx hlk (by decide) (by decide) Bd.returns (hb hby own_d6_67) (⟨rfl, N_9, K_9, ne2, _, el2, eu2, Fb9, (by have q := Fz9; rw [show sz + ne2 + ne7 + np = sz + ne2 + 1 + np by omega] at q; exact q), Fp9, Fm9, Fq9, Vb9, hvs9, hlow, hsma⟩)
  · refine own_step (fun _ k => XS.ifYes X1.here hx rfl (pc0 := 10) (pc' := 24) rfl (hb hby own_d6_10) rfl ((if0 _ _).trans (feq (fun q => hc10 ((own_lc_eq _ _).mp q))).2) (by decide) (by decide) k) ?_
    show own_Ends p.tables e below _ (T1.setTop (mkF m 24 #[.val (.ref a0), .val (.ref a1), .val (.long t), .second, .unset] []))
    refine own_step (fun _ k => XS.aloadN X1.here hx rfl (hb hby own_d6_24) rfl rfl k) ?_
    show own_Ends p.tables e below _ (T1.setTop (mkF m 25 #[.val (.ref a0), .val (.ref a1), .val (.long t), .second, .unset] [(.ref a0)]))
    refine own_step (fun _ k => XS.lloadN X1.here hx rfl (hb hby own_d6_25) rfl k) ?_
    show own_Ends p.tables e below _ (T1.setTop (mkF m 26 #[.val (.ref a0), .val (.ref a1), .val (.long t), .second, .unset] [(.long t), (.ref a0)]))
    refine own_step (fun _ k => XS.aloadN X1.here hx rfl (hb hby own_d6_26) rfl rfl k) ?_
    show own_Ends p.tables e below _ (T1.setTop (mkF m 27 #[.val (.ref a0), .val (.ref a1), .val (.long t), .second, .unset] [(.ref a0), (.long t), (.ref a0)]))
    obtain ⟨T10, X10, e10, st10⟩ := getF X1 hx hZ hown (host := "") (Or.inl (hw _ (List.mem_of_getElem? (i := 42) rfl))) Via.refl e1 F_previousTimestamp (g := (mkF m 27 #[.val (.ref a0), .val (.ref a1), .val (.long t), .second, .unset] [(.ref a0), (.long t), (.ref a0)])) rfl rfl (hb hby own_d6_27)
    refine own_step st10 ?_
    show own_Ends p.tables e below _ (T10.setTop (mkF m 30 #[.val (.ref a0), .val (.ref a1), .val (.long t), .second, .unset] [(.long pt), (.long t), (.ref a0)]))
    refine own_step (fun _ k => XS.lsub X10.here hx rfl (hb hby own_d6_30) rfl k) ?_
    show own_Ends p.tables e below _ (T10.setTop (mkF m 31 #[.val (.ref a0), .val (.ref a1), .val (.long t), .second, .unset] [(.long (t - pt)), (.ref a0)]))
    refine own_step (fun _ k => XS.lconst X10.here hx rfl (hb hby own_d6_31) k) ?_
    show own_Ends p.tables e below _ (T10.setTop (mkF m 32 #[.val (.ref a0), .val (.ref a1), .val (.long t), .second, .unset] [(.long (1 : Int64)), (.long (t - pt)), (.ref a0)]))
    refine own_step (fun _ k => XS.ladd X10.here hx rfl (hb hby own_d6_32) rfl k) ?_
    show own_Ends p.tables e below _ (T10.setTop (mkF m 33 #[.val (.ref a0), .val (.ref a1), .val (.long t), .second, .unset] [(.long ((t - pt) + (1 : Int64))), (.ref a0)]))
    obtain ⟨_, _, ⟨T11, L11, k11, n11⟩, -, X11, ⟨Lc11, hQ11, l11, y11, z11⟩, st11⟩ := Jvm.LawKit.callS X10 hx (y := (⟨"com/example/ketchup/ketchup/negentropy/Varint", "encode", "(J)[B"⟩ : MethodName)) hown (mvT hZ (hw _ (List.mem_of_getElem? (i := 57) rfl))) (mvT hZ (hw _ (List.mem_of_getElem? (i := 58) rfl))) (mvT hZ (hw _ (List.mem_of_getElem? (i := 59) rfl))) (mvT hZ (hw _ (List.mem_of_getElem? (i := 60) rfl))) (by decide) (backOf (W := 1) (own_rm_encode l Z aw hw [] ((t - pt) + (1 : Int64)) h0 n0 Z0 ) hZ (hw _ (List.mem_of_getElem? (i := 60) rfl)) (hw _ (List.mem_of_getElem? (i := 59) rfl)) (by decide) (by decide)) (g := (mkF m 33 #[.val (.ref a0), .val (.ref a1), .val (.long t), .second, .unset] [(.long ((t - pt) + (1 : Int64))), (.ref a0)])) rfl (by rw [hml]; rfl) (argsL := [(.long ((t - pt) + (1 : Int64)))]) (rest := [(.ref a0)]) (lenOf own_pd5 rfl) rfl (by show 2 * 0 + _ ≤ _; exact Nat.le_of_eq rfl) (hb hby own_d6_33) (fun _ _ => ⟨rfl, e10, (by decide : 0 + 2 ≤ _), (by decide : 0 + 20 ≤ _)⟩)
    dsimp only [Pt.U, Pt.locs, Pt.cells, Pt.slots] at X11 l11 y11 z11 st11 hQ11
    subst l11 y11 z11
    obtain ⟨be11, ke11, ne11, ue11, rfl, N11q, k11, ge11, hs11, el11, eu11, Ve11, hd11⟩ := hQ11
    have N_11 := Fr.app N_1 N11q
    have ne_a0_be11 : a0 ≠ be11 := Nat.ne_of_lt (Nat.lt_of_lt_of_le F_buffer.lt hs11)
    have ne_a1_be11 : a1 ≠ be11 := Nat.ne_of_lt (Nat.lt_of_lt_of_le E_a1.lt hs11)
    have ne_bf_be11 : bf ≠ be11 := Nat.ne_of_lt (Nat.lt_of_lt_of_le V_bf.lt hs11)
    have ne_pf_be11 : pf ≠ be11 := Nat.ne_of_lt (Nat.lt_of_lt_of_le V_pf.lt hs11)
    have sz_be11 : h0.size ≤ be11 := Nat.le_trans K0.1 hs11
    have F_buffer_11 := F_buffer.keep k11 nin0
    have F_size_11 := F_size.keep k11 nin0
    have F_previousTimestamp_11 := F_previousTimestamp.keep k11 nin0
    have F_markedSize_11 := F_markedSize.keep k11 nin0
    have F_markedPreviousTimestamp_11 := F_markedPreviousTimestamp.keep k11 nin0
    have E_a0_11 := E_a0.keep k11
    have V_bf_11 := V_bf.keep k11 nin0
    have E_a1_11 := E_a1.keep k11
    have F_t_11 := F_t.keep k11 nin0
    have F_p_11 := F_p.keep k11 nin0
    have V_pf_11 := V_pf.keep k11 nin0
    have K_11 : Keep h0 T11.heap [a0, bf] := K0.trans k11 all0
    have Z_11 : n0 ≤ T11.heap.size := Nat.le_trans Z0 k11.1
    refine own_step st11 ?_
    show own_Ends p.tables e below _ (T11.setTop (mkF m 36 #[.val (.ref a0), .val (.ref a1), .val (.long t), .second, .unset] [(.ref be11), (.ref a0)]))
    obtain ⟨cq12, qz12, qz12'⟩ := E_a0_11.cell
    obtain ⟨_, _, ⟨T12, L12, k12, n12⟩, -, X12, ⟨Lc12, hQ12, l12, y12, z12⟩, st12⟩ := X11.privateBack hx (y := (⟨"com/example/ketchup/ketchup/negentropy/MessageWriter", "write", "([B)V"⟩ : MethodName)) hown (mvT hZ (hw _ (List.mem_of_getElem? (i := 25) rfl))) (mvT hZ (hw _ (List.mem_of_getElem? (i := 26) rfl))) (own_sel_priv (by decide) (mvT hZ (hw _ (List.mem_of_getElem? (i := 17) rfl))) (mvP hZ (hw _ (List.mem_of_getElem? (i := 27) rfl))) (mvT hZ (hw _ (List.mem_of_getElem? (i := 26) rfl)))) (Cond.privateMethod_at (mvP hZ (hw _ (List.mem_of_getElem? (i := 27) rfl)) (args := #[]))) (mvT hZ (hw _ (List.mem_of_getElem? (i := 28) rfl))) (by decide) (backOf (W := 0) (own_rm_write l Z aw hw [] a0 be11 bf kb vs sz pt ms mp ke11 ne11 ue11 T11.heap n0 Z_11 E_a0_11 F_buffer_11 F_size_11 F_previousTimestamp_11 F_markedSize_11 F_markedPreviousTimestamp_11 V_bf_11 hvs ne_ab g_a0 g_bf Ve11 ne_bf_be11 ne_a0_be11 (by omega)) hZ (hw _ (List.mem_of_getElem? (i := 28) rfl)) (hw _ (List.mem_of_getElem? (i := 18) rfl)) (by decide) (by decide)) (g := (mkF m 36 #[.val (.ref a0), .val (.ref a1), .val (.long t), .second, .unset] [(.ref be11), (.ref a0)])) rfl (by rw [hml]; rfl) (Steps.refl _) (a := a0) qz12 qz12' (argsL := [(.ref be11)]) (rest := []) (lenOf own_pd3 rfl) rfl (by show 2 * 0 + _ ≤ _; exact Nat.le_of_eq rfl) (hb hby own_d6_36) (fun _ _ => ⟨rfl, rfl, (by decide : 2 + 0 ≤ _), (by decide : 20 + 0 ≤ _)⟩)
    dsimp only [Pt.U, Pt.locs, Pt.cells, Pt.slots] at X12 l12 y12 z12 st12 hQ12
    subst l12 y12 z12
    obtain ⟨rfl, N12q, k12, Fb12, Fz12, Fp12, Fm12, Fq12, Vb12⟩ := hQ12
    have N_12 := Fr.app N_11 N12q
    have E_a0_12 := E_a0_11.keep k12
    have E_a1_12 := E_a1_11.keep k12
    have F_t_12 := F_t_11.keep k12 (ninS (Ne.symm ne_a1) (ninS (Ne.symm ne_b1) nin0))
    have F_p_12 := F_p_11.keep k12 (ninS (Ne.symm ne_a1) (ninS (Ne.symm ne_b1) nin0))
    have V_pf_12 := V_pf_11.keep k12 (ninS (Ne.symm ne_ap) (ninS (Ne.symm ne_bp) nin0))
    have Ve11_12 := Ve11.keep k12 (ninS (Ne.symm ne_a0_be11) (ninS (Ne.symm ne_bf_be11) nin0))
    have K_12 : Keep h0 T12.heap [a0, bf] := K_11.trans k12 (allS (Or.inl (List.mem_of_getElem? (i := 0) rfl)) (allS (Or.inl (List.mem_of_getElem? (i := 1) rfl)) all0))
    have Z_12 : n0 ≤ T12.heap.size := Nat.le_trans Z_11 k12.1
    have hvs12 : (own_put vs sz ne11 ue11).length = 256 := by rw [own_put_len (by rw [hvs]; omega)]; exact hvs
    refine own_step (fun _ k => st12.trans k) ?_
    show own_Ends p.tables e below _ (T12.setTop (mkF m 39 #[.val (.ref a0), .val (.ref a1), .val (.long t), .second, .unset] []))
    refine own_step (fun _ k => XS.aloadN X12.here hx rfl (hb hby own_d6_39) rfl rfl k) ?_
    show own_Ends p.tables e below _ (T12.setTop (mkF m 40 #[.val (.ref a0), .val (.ref a1), .val (.long t), .second, .unset] [(.ref a0)]))
    refine own_step (fun _ k => XS.lloadN X12.here hx rfl (hb hby own_d6_40) rfl k) ?_
    show own_Ends p.tables e below _ (T12.setTop (mkF m 41 #[.val (.ref a0), .val (.ref a1), .val (.long t), .second, .unset] [(.long t), (.ref a0)]))
    obtain ⟨T13, h13, X13, e13, W13, st13⟩ := putF X12 hx hZ hown (host := "") (Or.inl (hw _ (List.mem_of_getElem? (i := 42) rfl))) Via.refl rfl Fp12 E_a0_12 (Or.inl (hw _ (List.mem_of_getElem? (i := 43) rfl))) (hw _ (List.mem_of_getElem? (i := 17) rfl)) (ty := .long) (by decide) rfl rfl (g := (mkF m 41 #[.val (.ref a0), .val (.ref a1), .val (.long t), .second, .unset] [(.long t), (.ref a0)])) rfl rfl (hb hby own_d6_41)
    refine own_step st13 ?_
    have E_a0_13 := E_a0_12.wr W13
    have E_a1_13 := E_a1_12.wr W13
    have F_t_13 := F_t_12.other W13 (Or.inl (Ne.symm ne_a1))
    have F_p_13 := F_p_12.other W13 (Or.inl (Ne.symm ne_a1))
    have V_pf_13 := V_pf_12.other W13 (Ne.symm ne_ap)
    have Ve11_13 := Ve11_12.other W13 (Ne.symm ne_a0_be11)
    have Fb12_13 := Fb12.other W13 (Or.inr (slot_ne (Or.inl (hw _ (List.mem_of_getElem? (i := 24) rfl))) (Or.inl (hw _ (List.mem_of_getElem? (i := 43) rfl))) (by decide) (t := (.array .byte)) (t' := .long) (by decide) (by decide)))
    have Fz12_13 := Fz12.other W13 (Or.inr (slot_ne (Or.inl (hw _ (List.mem_of_getElem? (i := 30) rfl))) (Or.inl (hw _ (List.mem_of_getElem? (i := 43) rfl))) (by decide) (t := .int) (t' := .long) (by decide) (by decide)))
    have Fp12_13 := Fp12.same W13
    have Fm12_13 := Fm12.other W13 (Or.inr (slot_ne (Or.inl (hw _ (List.mem_of_getElem? (i := 41) rfl))) (Or.inl (hw _ (List.mem_of_getElem? (i := 43) rfl))) (by decide) (t := .int) (t' := .long) (by decide) (by decide)))
    have Fq12_13 := Fq12.other W13 (Or.inr (slot_ne (Or.inl (hw _ (List.mem_of_getElem? (i := 45) rfl))) (Or.inl (hw _ (List.mem_of_getElem? (i := 43) rfl))) (by decide) (t := .long) (t' := .long) (by decide) (by decide)))
    have Vb12_13 := Vb12.other W13 (Ne.symm ne_ab)
    have K_13 : Keep h0 h13 [a0, bf] := K_12.wr W13 (Or.inl (List.mem_of_getElem? (i := 0) rfl))
    have Z_13 : n0 ≤ h13.size := Nat.le_trans Z_12 (Keep.of_wr W13).1
    have N_13 := Fr.snoc X13 N_12 g_a0
    show own_Ends p.tables e below _ (T13.setTop (mkF m 44 #[.val (.ref a0), .val (.ref a1), .val (.long t), .second, .unset] []))
    refine own_step (fun _ k => XS.aloadN X13.here hx rfl (hb hby own_d6_44) rfl rfl k) ?_
    show own_Ends p.tables e below _ (T13.setTop (mkF m 45 #[.val (.ref a0), .val (.ref a1), .val (.long t), .second, .unset] [(.ref a1)]))
    obtain ⟨cq14, kq14, q14a, q14b, q14c⟩ := isOf hZ e13 E_a1_13
    obtain ⟨_, _, ⟨T14, L14, k14, n14⟩, -, X14, ⟨Lc14, hQ14, l14, y14, z14⟩, st14⟩ := X13.virtualBack hx (y := (⟨"com/example/ketchup/ketchup/negentropy/Bound", "prefix", "()[B"⟩ : MethodName)) (z := (⟨"com/example/ketchup/ketchup/negentropy/Bound", "prefix", "()[B"⟩ : MethodName)) hown (mvT hZ (hw _ (List.mem_of_getElem? (i := 63) rfl))) (mvT hZ (hw _ (List.mem_of_getElem? (i := 64) rfl))) (notFace_of_selects (args := #[]) (mvT hZ (hw _ (List.mem_of_getElem? (i := 66) rfl)))) (mvT hZ (hw _ (List.mem_of_getElem? (i := 66) rfl))) (mvT hZ (hw _ (List.mem_of_getElem? (i := 65) rfl))) (by decide) (backOf (W := 0) (own_rm_prefix l Z aw hw [] a1 pf h13 n0 Z_13 F_p_13) hZ (hw _ (List.mem_of_getElem? (i := 67) rfl)) (hw _ (List.mem_of_getElem? (i := 4) rfl)) (by decide) (by decide)) q14a q14c (g := (mkF m 45 #[.val (.ref a0), .val (.ref a1), .val (.long t), .second, .unset] [(.ref a1)])) rfl (by rw [hml]; rfl) (Steps.refl _) (argsL := []) (rest := []) (lenOf own_pd6 rfl) rfl (by show 2 * 0 + _ ≤ _; exact Nat.le_of_eq rfl) (hb hby own_d6_45) (fun _ _ => ⟨rfl, e13, (by decide : 2 + 0 ≤ _), (by decide : 20 + 0 ≤ _)⟩)
    dsimp only [Pt.U, Pt.locs, Pt.cells, Pt.slots] at X14 l14 y14 z14 st14 hQ14
    subst l14 y14 z14
    obtain ⟨rfl, N14q, e14⟩ := hQ14
    have N_14 := Fr.app N_13 N14q
    refine own_step (fun _ k => st14.trans k) ?_
    show own_Ends p.tables e below _ (T14.setTop (mkF m 48 #[.val (.ref a0), .val (.ref a1), .val (.long t), .second, .unset] [(.ref pf)]))
    refine own_step (fun _ k => XS.astore X14.here hx rfl (hb hby own_d6_48) rfl rfl (l' := #[.val (.ref a0), .val (.ref a1), .val (.long t), .second, .val (.ref pf)]) rfl k) ?_
    show own_Ends p.tables e below _ (T14.setTop (mkF m 50 #[.val (.ref a0), .val (.ref a1), .val (.long t), .second, .val (.ref pf)] []))
    refine own_step (fun _ k => XS.aloadN X14.here hx rfl (hb hby own_d6_50) rfl rfl k) ?_
    show own_Ends p.tables e below _ (T14.setTop (mkF m 51 #[.val (.ref a0), .val (.ref a1), .val (.long t), .second, .val (.ref pf)] [(.ref a0)]))
    refine own_step (fun _ k => XS.aload X14.here hx rfl (hb hby own_d6_51) rfl rfl k) ?_
    show own_Ends p.tables e below _ (T14.setTop (mkF m 53 #[.val (.ref a0), .val (.ref a1), .val (.long t), .second, .val (.ref pf)] [(.ref pf), (.ref a0)]))
    obtain ⟨cl15, Ar15, q15, S15, Nn15, H15, G15⟩ := id V_pf_13
    refine own_step (fun _ k => X14.arraylength hx (by rw [e14]; exact Ar15.1) (State.isArrayOf_alike hZ.alike Ar15.2.1) (g := (mkF m 53 #[.val (.ref a0), .val (.ref a1), .val (.long t), .second, .val (.ref pf)] [(.ref pf), (.ref a0)])) rfl rfl (hb hby own_d6_53) _ k) ?_
    rw [len_of S15 Nn15]
    show own_Ends p.tables e below _ (T14.setTop (mkF m 54 #[.val (.ref a0), .val (.ref a1), .val (.long t), .second, .val (.ref pf)] [(.int (Int32.ofNat np)), (.ref a0)]))
    refine own_step (fun _ k => XS.i2l X14.here hx rfl (hb hby own_d6_54) rfl k) ?_
    show own_Ends p.tables e below _ (T14.setTop (mkF m 55 #[.val (.ref a0), .val (.ref a1), .val (.long t), .second, .val (.ref pf)] [(.long ((Int32.ofNat np).toInt64)), (.ref a0)]))
    obtain ⟨_, _, ⟨T16, L16, k16, n16⟩, -, X16, ⟨Lc16, hQ16, l16, y16, z16⟩, st16⟩ := Jvm.LawKit.callS X14 hx (y := (⟨"com/example/ketchup/ketchup/negentropy/Varint", "encode", "(J)[B"⟩ : MethodName)) hown (mvT hZ (hw _ (List.mem_of_getElem? (i := 57) rfl))) (mvT hZ (hw _ (List.mem_of_getElem? (i := 58) rfl))) (mvT hZ (hw _ (List.mem_of_getElem? (i := 59) rfl))) (mvT hZ (hw _ (List.mem_of_getElem? (i := 60) rfl))) (by decide) (backOf (W := 1) (own_rm_encode l Z aw hw [] ((Int32.ofNat np).toInt64) h13 n0 Z_13 ) hZ (hw _ (List.mem_of_getElem? (i := 60) rfl)) (hw _ (List.mem_of_getElem? (i := 59) rfl)) (by decide) (by decide)) (g := (mkF m 55 #[.val (.ref a0), .val (.ref a1), .val (.long t), .second, .val (.ref pf)] [(.long ((Int32.ofNat np).toInt64)), (.ref a0)])) rfl (by rw [hml]; rfl) (argsL := [(.long ((Int32.ofNat np).toInt64))]) (rest := [(.ref a0)]) (lenOf own_pd5 rfl) rfl (by show 2 * 0 + _ ≤ _; exact Nat.le_of_eq rfl) (hb hby own_d6_55) (fun _ _ => ⟨rfl, e14, (by decide : 2 + 2 ≤ _), (by decide : 20 + 20 ≤ _)⟩)
    dsimp only [Pt.U, Pt.locs, Pt.cells, Pt.slots] at X16 l16 y16 z16 st16 hQ16
    subst l16 y16 z16
    obtain ⟨be16, ke16, ne16, ue16, rfl, N16q, k16, ge16, hs16, el16, eu16, Ve16, hd16⟩ := hQ16
    have N_16 := Fr.app N_14 N16q
    have ne_a0_be16 : a0 ≠ be16 := Nat.ne_of_lt (Nat.lt_of_lt_of_le E_a0_13.lt hs16)
    have ne_a1_be16 : a1 ≠ be16 := Nat.ne_of_lt (Nat.lt_of_lt_of_le E_a1_13.lt hs16)
    have ne_bf_be16 : bf ≠ be16 := Nat.ne_of_lt (Nat.lt_of_lt_of_le Vb12_13.lt hs16)
    have ne_pf_be16 : pf ≠ be16 := Nat.ne_of_lt (Nat.lt_of_lt_of_le V_pf_13.lt hs16)
    have ne_be11_be16 : be11 ≠ be16 := Nat.ne_of_lt (Nat.lt_of_lt_of_le Ve11_13.lt hs16)
    have sz_be16 : h0.size ≤ be16 := Nat.le_trans K_13.1 hs16
    have E_a0_16 := E_a0_13.keep k16
    have E_a1_16 := E_a1_13.keep k16
    have F_t_16 := F_t_13.keep k16 nin0
    have F_p_16 := F_p_13.keep k16 nin0
    have V_pf_16 := V_pf_13.keep k16 nin0
    have Ve11_16 := Ve11_13.keep k16 nin0
    have Fb12_16 := Fb12_13.keep k16 nin0
    have Fz12_16 := Fz12_13.keep k16 nin0
    have Fp12_16 := Fp12_13.keep k16 nin0
    have Fm12_16 := Fm12_13.keep k16 nin0
    have Fq12_16 := Fq12_13.keep k16 nin0
    have Vb12_16 := Vb12_13.keep k16 nin0
    have K_16 : Keep h0 T16.heap [a0, bf] := K_13.trans k16 all0
    have Z_16 : n0 ≤ T16.heap.size := Nat.le_trans Z_13 k16.1
    refine own_step st16 ?_
    show own_Ends p.tables e below _ (T16.setTop (mkF m 58 #[.val (.ref a0), .val (.ref a1), .val (.long t), .second, .val (.ref pf)] [(.ref be16), (.ref a0)]))
    obtain ⟨cq17, qz17, qz17'⟩ := E_a0_16.cell
    obtain ⟨_, _, ⟨T17, L17, k17, n17⟩, -, X17, ⟨Lc17, hQ17, l17, y17, z17⟩, st17⟩ := X16.privateBack hx (y := (⟨"com/example/ketchup/ketchup/negentropy/MessageWriter", "write", "([B)V"⟩ : MethodName)) hown (mvT hZ (hw _ (List.mem_of_getElem? (i := 25) rfl))) (mvT hZ (hw _ (List.mem_of_getElem? (i := 26) rfl))) (own_sel_priv (by decide) (mvT hZ (hw _ (List.mem_of_getElem? (i := 17) rfl))) (mvP hZ (hw _ (List.mem_of_getElem? (i := 27) rfl))) (mvT hZ (hw _ (List.mem_of_getElem? (i := 26) rfl)))) (Cond.privateMethod_at (mvP hZ (hw _ (List.mem_of_getElem? (i := 27) rfl)) (args := #[]))) (mvT hZ (hw _ (List.mem_of_getElem? (i := 28) rfl))) (by decide) (backOf (W := 0) (own_rm_write l Z aw hw [] a0 be16 bf kb (own_put vs sz ne11 ue11) (sz + ne11) t ms mp ke16 ne16 ue16 T16.heap n0 Z_16 E_a0_16 Fb12_16 Fz12_16 Fp12_16 Fm12_16 Fq12_16 Vb12_16 hvs12 ne_ab g_a0 g_bf Ve16 ne_bf_be16 ne_a0_be16 (by omega)) hZ (hw _ (List.mem_of_getElem? (i := 28) rfl)) (hw _ (List.mem_of_getElem? (i := 18) rfl)) (by decide) (by decide)) (g := (mkF m 58 #[.val (.ref a0), .val (.ref a1), .val (.long t), .second, .val (.ref pf)] [(.ref be16), (.ref a0)])) rfl (by rw [hml]; rfl) (Steps.refl _) (a := a0) qz17 qz17' (argsL := [(.ref be16)]) (rest := []) (lenOf own_pd3 rfl) rfl (by show 2 * 0 + _ ≤ _; exact Nat.le_of_eq rfl) (hb hby own_d6_58) (fun _ _ => ⟨rfl, rfl, (by decide : 4 + 0 ≤ _), (by decide : 40 + 0 ≤ _)⟩)
    dsimp only [Pt.U, Pt.locs, Pt.cells, Pt.slots] at X17 l17 y17 z17 st17 hQ17
    subst l17 y17 z17
    obtain ⟨rfl, N17q, k17, Fb17, Fz17, Fp17, Fm17, Fq17, Vb17⟩ := hQ17
    have N_17 := Fr.app N_16 N17q
    have E_a0_17 := E_a0_16.keep k17
    have E_a1_17 := E_a1_16.keep k17
    have F_t_17 := F_t_16.keep k17 (ninS (Ne.symm ne_a1) (ninS (Ne.symm ne_b1) nin0))
    have F_p_17 := F_p_16.keep k17 (ninS (Ne.symm ne_a1) (ninS (Ne.symm ne_b1) nin0))
    have V_pf_17 := V_pf_16.keep k17 (ninS (Ne.symm ne_ap) (ninS (Ne.symm ne_bp) nin0))
    have Ve11_17 := Ve11_16.keep k17 (ninS (Ne.symm ne_a0_be11) (ninS (Ne.symm ne_bf_be11) nin0))
    have Ve16_17 := Ve16.keep k17 (ninS (Ne.symm ne_a0_be16) (ninS (Ne.symm ne_bf_be16) nin0))
    have K_17 : Keep h0 T17.heap [a0, bf] := K_16.trans k17 (allS (Or.inl (List.mem_of_getElem? (i := 0) rfl)) (allS (Or.inl (List.mem_of_getElem? (i := 1) rfl)) all0))
    have Z_17 : n0 ≤ T17.heap.size := Nat.le_trans Z_16 k17.1
    have hvs17 : (own_put (own_put vs sz ne11 ue11) (sz + ne11) ne16 ue16).length = 256 := by rw [own_put_len (by rw [hvs12]; omega)]; exact hvs12
    refine own_step (fun _ k => st17.trans k) ?_
    show own_Ends p.tables e below _ (T17.setTop (mkF m 61 #[.val (.ref a0), .val (.ref a1), .val (.long t), .second, .val (.ref pf)] []))
    refine own_step (fun _ k => XS.aloadN X17.here hx rfl (hb hby own_d6_61) rfl rfl k) ?_
    show own_Ends p.tables e below _ (T17.setTop (mkF m 62 #[.val (.ref a0), .val (.ref a1), .val (.long t), .second, .val (.ref pf)] [(.ref a0)]))
    refine own_step (fun _ k => XS.aload X17.here hx rfl (hb hby own_d6_62) rfl rfl k) ?_
    show own_Ends p.tables e below _ (T17.setTop (mkF m 64 #[.val (.ref a0), .val (.ref a1), .val (.long t), .second, .val (.ref pf)] [(.ref pf), (.ref a0)]))
    obtain ⟨cq18, qz18, qz18'⟩ := E_a0_17.cell
    obtain ⟨_, _, ⟨T18, L18, k18, n18⟩, -, X18, ⟨Lc18, hQ18, l18, y18, z18⟩, st18⟩ := X17.privateBack hx (y := (⟨"com/example/ketchup/ketchup/negentropy/MessageWriter", "write", "([B)V"⟩ : MethodName)) hown (mvT hZ (hw _ (List.mem_of_getElem? (i := 25) rfl))) (mvT hZ (hw _ (List.mem_of_getElem? (i := 26) rfl))) (own_sel_priv (by decide) (mvT hZ (hw _ (List.mem_of_getElem? (i := 17) rfl))) (mvP hZ (hw _ (List.mem_of_getElem? (i := 27) rfl))) (mvT hZ (hw _ (List.mem_of_getElem? (i := 26) rfl)))) (Cond.privateMethod_at (mvP hZ (hw _ (List.mem_of_getElem? (i := 27) rfl)) (args := #[]))) (mvT hZ (hw _ (List.mem_of_getElem? (i := 28) rfl))) (by decide) (backOf (W := 0) (own_rm_write l Z aw hw [] a0 pf bf kb (own_put (own_put vs sz ne11 ue11) (sz + ne11) ne16 ue16) (sz + ne11 + ne16) t ms mp kp np up T17.heap n0 Z_17 E_a0_17 Fb17 Fz17 Fp17 Fm17 Fq17 Vb17 hvs17 ne_ab g_a0 g_bf V_pf_17 ne_bp ne_ap (by omega)) hZ (hw _ (List.mem_of_getElem? (i := 28) rfl)) (hw _ (List.mem_of_getElem? (i := 18) rfl)) (by decide) (by decide)) (g := (mkF m 64 #[.val (.ref a0), .val (.ref a1), .val (.long t), .second, .val (.ref pf)] [(.ref pf), (.ref a0)])) rfl (by rw [hml]; rfl) (Steps.refl _) (a := a0) qz18 qz18' (argsL := [(.ref pf)]) (rest := []) (lenOf own_pd3 rfl) rfl (by show 2 * 0 + _ ≤ _; exact Nat.le_of_eq rfl) (hb hby own_d6_64) (fun _ _ => ⟨rfl, rfl, (by decide : 4 + 0 ≤ _), (by decide : 40 + 0 ≤ _)⟩)
    dsimp only [Pt.U, Pt.locs, Pt.cells, Pt.slots] at X18 l18 y18 z18 st18 hQ18
    subst l18 y18 z18
    obtain ⟨rfl, N18q, k18, Fb18, Fz18, Fp18, Fm18, Fq18, Vb18⟩ := hQ18
    have N_18 := Fr.app N_17 N18q
    have E_a0_18 := E_a0_17.keep k18
    have E_a1_18 := E_a1_17.keep k18
    have F_t_18 := F_t_17.keep k18 (ninS (Ne.symm ne_a1) (ninS (Ne.symm ne_b1) nin0))
    have F_p_18 := F_p_17.keep k18 (ninS (Ne.symm ne_a1) (ninS (Ne.symm ne_b1) nin0))
    have V_pf_18 := V_pf_17.keep k18 (ninS (Ne.symm ne_ap) (ninS (Ne.symm ne_bp) nin0))
    have Ve11_18 := Ve11_17.keep k18 (ninS (Ne.symm ne_a0_be11) (ninS (Ne.symm ne_bf_be11) nin0))
    have Ve16_18 := Ve16_17.keep k18 (ninS (Ne.symm ne_a0_be16) (ninS (Ne.symm ne_bf_be16) nin0))
    have K_18 : Keep h0 T18.heap [a0, bf] := K_17.trans k18 (allS (Or.inl (List.mem_of_getElem? (i := 0) rfl)) (allS (Or.inl (List.mem_of_getElem? (i := 1) rfl)) all0))
    have Z_18 : n0 ≤ T18.heap.size := Nat.le_trans Z_17 k18.1
    have hvs18 : (own_put (own_put (own_put vs sz ne11 ue11) (sz + ne11) ne16 ue16) (sz + ne11 + ne16) np up).length = 256 := by rw [own_put_len (by rw [hvs17]; omega)]; exact hvs17
    refine own_step (fun _ k => st18.trans k) ?_
    show own_Ends p.tables e below _ (T18.setTop (mkF m 67 #[.val (.ref a0), .val (.ref a1), .val (.long t), .second, .val (.ref pf)] []))
    have he1 : own_enc t pt = (t - pt + (1 : Int64)) := if_neg hc10
    obtain ⟨hn2, hu2⟩ := hd16 (by rw [(own_np np (by omega)).1]; omega)
    rw [(own_np np (by omega)).2] at hu2
    have hlen1 : (own_put vs sz ne11 ue11).length = 256 := by rw [own_put_len (by rw [hvs]; omega)]; exact hvs
    have hlen2 : (own_put (own_put vs sz ne11 ue11) (sz + ne11) ne16 ue16).length = 256 := by rw [own_put_len (by rw [hlen1]; omega)]; exact hlen1
    have hlow : ∀ i, i < sz → (own_put (own_put (own_put vs sz ne11 ue11) (sz + ne11) ne16 ue16) (sz + ne11 + ne16) np up).getD i (Value.int (0 : Int32)) = vs.getD i (Value.int (0 : Int32)) := fun i hi => by rw [own_put_lo _ (by rw [hlen2]; omega) (by omega), own_put_lo _ (by rw [hlen1]; omega) (by omega), own_put_lo _ (by rw [hvs]; omega) (by omega)]
    have hsma : (own_enc t pt).toUInt64.toNat < 128 → ne11 = 1 ∧ (own_put (own_put (own_put vs sz ne11 ue11) (sz + ne11) ne16 ue16) (sz + ne11 + ne16) np up).getD sz (Value.int (0 : Int32)) = Value.int (own_enc t pt).toInt32 ∧ (own_put (own_put (own_put vs sz ne11 ue11) (sz + ne11) ne16 ue16) (sz + ne11 + ne16) np up).getD (sz + 1) (Value.int (0 : Int32)) = Value.int (Int32.ofNat np) := by
      intro hsmall
      rw [he1] at hsmall ⊢
      obtain ⟨hn1, hu1⟩ := hd11 hsmall
      have q1 := own_put_at (i := 0) (us := ue11) (sz := sz) (n := ne11) (Value.int (0 : Int32)) (vs := vs) (by rw [hvs]; omega) (by omega)
      have q2 := own_put_at (i := 0) (us := ue16) (sz := sz + ne11) (n := ne16) (Value.int (0 : Int32)) (vs := own_put vs sz ne11 ue11) (by rw [hlen1]; omega) (by omega)
      refine ⟨hn1, ?_, ?_⟩
      · rw [own_put_lo _ (by rw [hlen2]; omega) (by omega), own_put_lo _ (by rw [hlen1]; omega) (by omega)]; exact q1.trans hu1
      · rw [show sz + 1 = sz + ne11 by omega, own_put_lo _ (by rw [hlen2]; omega) (by omega)]; exact q2.trans hu2
    exact own_ret0 X18 hx hlk (by decide) (by decide) Bd.returns (hb hby own_d6_67) (⟨rfl, N_18, K_18, ne11, _, el11, eu11, Fb18, (by have q := Fz18; rw [show sz + ne11 + ne16 + np = sz + ne11 + 1 + np by omega] at q; exact q), Fp18, Fm18, Fq18, Vb18, hvs18, hlow, hsma⟩)
theorem own_d10_0 : decode prog_18_method_8_code 0 = .ok (.aload_n 0, 1) := by decide +kernel
theorem own_d10_1 : decode prog_18_method_8_code 1 = .ok (.iload_n 1, 1) := by decide +kernel
theorem own_d10_2 : decode prog_18_method_8_code 2 = .ok (.i2l, 1) := by decide +kernel
theorem own_d10_3 : decode prog_18_method_8_code 3 = .ok (.invokestatic 42, 3) := by decide +kernel
theorem own_d10_6 : decode prog_18_method_8_code 6 = .ok (.invokevirtual 13, 3) := by decide +kernel
theorem own_d10_9 : decode prog_18_method_8_code 9 = .ok (.return_, 1) := by decide +kernel
theorem own_ef_10 (m : MethodId) (x0 : Addr) (x1 : Int32) : entryFrame m #[(.ref x0), (.int x1)] 2 = mkF m 0 #[.val (.ref x0), .val (.int x1)] [] := by first | (simp [entryFrame, mkF, argsToLocals, Value.category]; done) | rfl
def own_Q_writeCount (Z : State) (a0 : Addr) (p1 : Int32) (bf : Addr) (kb : ClassId) (vs : List Value) (sz : Nat) (pt : Int64) (ms : Int32) (mp : Int64) (h0 : Heap) (n0 : Nat) (v : Option Value) (h : Heap) (L : List Loc) : Prop := v = none ∧ Fr n0 L ∧ Keep h0 h [a0, bf] ∧ ∃ (n1 : Nat) (vs' : List Value), 1 ≤ n1 ∧ n1 ≤ 10 ∧ Fld Z h a0 "com/example/ketchup/ketchup/negentropy/MessageWriter" "buffer" "[B" (.ref bf) ∧ Fld Z h a0 "com/example/ketchup/ketchup/negentropy/MessageWriter" "size" "I" (.int (Int32.ofNat (sz + n1))) ∧ Fld Z h a0 "com/example/ketchup/ketchup/negentropy/MessageWriter" "previousTimestamp" "J" (.long pt) ∧ Fld Z h a0 "com/example/ketchup/ketchup/negentropy/MessageWriter" "markedSize" "I" (.int ms) ∧ Fld Z h a0 "com/example/ketchup/ketchup/negentropy/MessageWriter" "markedPreviousTimestamp" "J" (.long mp) ∧ Arv Z h bf kb .byte (256 : Int32) vs' (Value.int (0 : Int32)) ∧ vs'.length = 256
set_option maxRecDepth 65536 in
set_option maxHeartbeats 40000000 in
theorem own_rm_writeCount (l : Launch) (Z : State) (aw : Array Value) (hw : ∀ d ∈ tables_1, d.before aw Z = true) (ws : List Jvm.Cond) (a0 : Addr) (p1 : Int32) (bf : Addr) (kb : ClassId) (vs : List Value) (sz : Nat) (pt : Int64) (ms : Int32) (mp : Int64) (h0 : Heap) (n0 : Nat) (Z0 : n0 ≤ h0.size) (E_a0 : Exa Z h0 a0 "com/example/ketchup/ketchup/negentropy/MessageWriter") (F_buffer : Fld Z h0 a0 "com/example/ketchup/ketchup/negentropy/MessageWriter" "buffer" "[B" (.ref bf)) (F_size : Fld Z h0 a0 "com/example/ketchup/ketchup/negentropy/MessageWriter" "size" "I" (.int (Int32.ofNat sz))) (F_previousTimestamp : Fld Z h0 a0 "com/example/ketchup/ketchup/negentropy/MessageWriter" "previousTimestamp" "J" (.long pt)) (F_markedSize : Fld Z h0 a0 "com/example/ketchup/ketchup/negentropy/MessageWriter" "markedSize" "I" (.int ms)) (F_markedPreviousTimestamp : Fld Z h0 a0 "com/example/ketchup/ketchup/negentropy/MessageWriter" "markedPreviousTimestamp" "J" (.long mp)) (V_bf : Arv Z h0 bf kb .byte (256 : Int32) vs (Value.int (0 : Int32))) (hvs : vs.length = 256) (ne_ab : a0 ≠ bf) (g_a0 : n0 ≤ a0) (g_bf : n0 ≤ bf) (hfit : sz + 20 ≤ 256) :
    MetFree l (⟨"com/example/ketchup/ketchup/negentropy/MessageWriter", "writeCount", "(I)V"⟩ : MethodName) (head1 (Jvm.Cond.code (⟨"com/example/ketchup/ketchup/negentropy/MessageWriter", "writeCount", "(I)V"⟩ : MethodName) prog_18_method_8_code 2 none :: ws) ({ frames := 2, cells := 2, slots := 20, locals := 37 } : Room)) (fun a U => a = #[(.ref a0), (.int p1)] ∧ Z.Warmed39 U.vm ∧ U.heap = h0) (fun _ _ _ _ _ => True) (fun _ U o U' => ∃ v L, o = .returned v ∧ own_Q_writeCount Z a0 p1 bf kb vs sz pt ms mp h0 n0 v U'.heap L ∧ FrameEnd U o U' L ({ frames := 2, cells := 2, slots := 20, locals := 37 } : Room).cells ({ frames := 2, cells := 2, slots := 20, locals := 37 } : Room).slots) := by
  refine MetFree.of_bodySF (plainFor_of_name own_pn0) hisR ?_
  intro p e s m args below meth c s₁ Bd hml0 hP hK
  obtain ⟨rfl, hZ, hh⟩ := hP
  have hx := Bd.exec
  have hby := Bd.bytes
  have hlk : meth.locks = false := BodyLoose.notSynchronized Bd
  have hml : c.maxLocals = 2 := hml0
  have hown : s.vm.findClass "com/example/ketchup/ketchup/negentropy/MessageWriter" = some m.cls := findClass_of_methodNamed Bd.named
  have hnm := (name_of_methodNamed Bd.named Bd.method).1
  have X0 : Stand p l e ({ frames := 2, cells := 2, slots := 20, locals := 37 } : Room) s m #[(.ref a0), (.int p1)] below meth c s₁ [] 0 0 := Stand.of_body Bd
  have e0 : s₁.heap = h0 := by rw [← hh, Bd.state]; rfl
  have N0 := Fr.nil n0
  have K0 : Keep h0 h0 [a0, bf] := Keep.refl _ _
  have pre0 : ∀ t, Steps p.tables e below (s₁.setTop (mkF m 0 #[.val (.ref a0), .val (.int p1)] [])) t → Steps p.tables e below (s₁.setTop (entryFrame m #[(.ref a0), (.int p1)] 2)) t := fun t k => castTop (own_ef_10 m a0 p1) k
  show own_Ends p.tables e below (own_Q s (own_Q_writeCount Z a0 p1 bf kb vs sz pt ms mp h0 n0) ({ frames := 2, cells := 2, slots := 20, locals := 37 } : Room).cells ({ frames := 2, cells := 2, slots := 20, locals := 37 } : Room).slots) (s₁.setTop (entryFrame m #[(.ref a0), (.int p1)] 2))
  refine own_step pre0 ?_
  show own_Ends p.tables e below _ (s₁.setTop (mkF m 0 #[.val (.ref a0), .val (.int p1)] []))
  refine own_step (fun _ k => XS.aloadN X0.here hx rfl (hb hby own_d10_0) rfl rfl k) ?_
  show own_Ends p.tables e below _ (s₁.setTop (mkF m 1 #[.val (.ref a0), .val (.int p1)] [(.ref a0)]))
  refine own_step (fun _ k => XS.iloadN X0.here hx rfl (hb hby own_d10_1) rfl k) ?_
  show own_Ends p.tables e below _ (s₁.setTop (mkF m 2 #[.val (.ref a0), .val (.int p1)] [(.int p1), (.ref a0)]))
  refine own_step (fun _ k => XS.i2l X0.here hx rfl (hb hby own_d10_2) rfl k) ?_
  show own_Ends p.tables e below _ (s₁.setTop (mkF m 3 #[.val (.ref a0), .val (.int p1)] [(.long (p1.toInt64)), (.ref a0)]))
  obtain ⟨_, _, ⟨T1, L1, k1, n1⟩, -, X1, ⟨Lc1, hQ1, l1, y1, z1⟩, st1⟩ := Jvm.LawKit.callS X0 hx (y := (⟨"com/example/ketchup/ketchup/negentropy/Varint", "encode", "(J)[B"⟩ : MethodName)) hown (mvT hZ (hw _ (List.mem_of_getElem? (i := 57) rfl))) (mvT hZ (hw _ (List.mem_of_getElem? (i := 58) rfl))) (mvT hZ (hw _ (List.mem_of_getElem? (i := 59) rfl))) (mvT hZ (hw _ (List.mem_of_getElem? (i := 60) rfl))) (by decide) (backOf (W := 1) (own_rm_encode l Z aw hw [] (p1.toInt64) h0 n0 Z0 ) hZ (hw _ (List.mem_of_getElem? (i := 60) rfl)) (hw _ (List.mem_of_getElem? (i := 59) rfl)) (by decide) (by decide)) (g := (mkF m 3 #[.val (.ref a0), .val (.int p1)] [(.long (p1.toInt64)), (.ref a0)])) rfl (by rw [hml]; rfl) (argsL := [(.long (p1.toInt64))]) (rest := [(.ref a0)]) (lenOf own_pd5 rfl) rfl (by show 2 * 0 + _ ≤ _; exact Nat.le_of_eq rfl) (hb hby own_d10_3) (fun _ _ => ⟨rfl, e0, (by decide : 0 + 2 ≤ _), (by decide : 0 + 20 ≤ _)⟩)
  dsimp only [Pt.U, Pt.locs, Pt.cells, Pt.slots] at X1 l1 y1 z1 st1 hQ1
  subst l1 y1 z1
  obtain ⟨be1, ke1, ne1, ue1, rfl, N1q, k1, ge1, hs1, el1, eu1, Ve1, hd1⟩ := hQ1
  have N_1 := Fr.app N0 N1q
  have ne_a0_be1 : a0 ≠ be1 := Nat.ne_of_lt (Nat.lt_of_lt_of_le F_buffer.lt hs1)
  have ne_bf_be1 : bf ≠ be1 := Nat.ne_of_lt (Nat.lt_of_lt_of_le V_bf.lt hs1)
  have sz_be1 : h0.size ≤ be1 := Nat.le_trans K0.1 hs1
  have F_buffer_1 := F_buffer.keep k1 nin0
  have F_size_1 := F_size.keep k1 nin0
  have F_previousTimestamp_1 := F_previousTimestamp.keep k1 nin0
  have F_markedSize_1 := F_markedSize.keep k1 nin0
  have F_markedPreviousTimestamp_1 := F_markedPreviousTimestamp.keep k1 nin0
  have E_a0_1 := E_a0.keep k1
  have V_bf_1 := V_bf.keep k1 nin0
  have K_1 : Keep h0 T1.heap [a0, bf] := K0.trans k1 all0
  have Z_1 : n0 ≤ T1.heap.size := Nat.le_trans Z0 k1.1
  refine own_step st1 ?_
  show own_Ends p.tables e below _ (T1.setTop (mkF m 6 #[.val (.ref a0), .val (.int p1)] [(.ref be1), (.ref a0)]))
  obtain ⟨cq2, qz2, qz2'⟩ := E_a0_1.cell
  obtain ⟨_, _, ⟨T2, L2, k2, n2⟩, -, X2, ⟨Lc2, hQ2, l2, y2, z2⟩, st2⟩ := X1.privateBack hx (y := (⟨"com/example/ketchup/ketchup/negentropy/MessageWriter", "write", "([B)V"⟩ : MethodName)) hown (mvT hZ (hw _ (List.mem_of_getElem? (i := 25) rfl))) (mvT hZ (hw _ (List.mem_of_getElem? (i := 26) rfl))) (own_sel_priv (by decide) (mvT hZ (hw _ (List.mem_of_getElem? (i := 17) rfl))) (mvP hZ (hw _ (List.mem_of_getElem? (i := 27) rfl))) (mvT hZ (hw _ (List.mem_of_getElem? (i := 26) rfl)))) (Cond.privateMethod_at (mvP hZ (hw _ (List.mem_of_getElem? (i := 27) rfl)) (args := #[]))) (mvT hZ (hw _ (List.mem_of_getElem? (i := 28) rfl))) (by decide) (backOf (W := 0) (own_rm_write l Z aw hw [] a0 be1 bf kb vs sz pt ms mp ke1 ne1 ue1 T1.heap n0 Z_1 E_a0_1 F_buffer_1 F_size_1 F_previousTimestamp_1 F_markedSize_1 F_markedPreviousTimestamp_1 V_bf_1 hvs ne_ab g_a0 g_bf Ve1 ne_bf_be1 ne_a0_be1 (by omega)) hZ (hw _ (List.mem_of_getElem? (i := 28) rfl)) (hw _ (List.mem_of_getElem? (i := 18) rfl)) (by decide) (by decide)) (g := (mkF m 6 #[.val (.ref a0), .val (.int p1)] [(.ref be1), (.ref a0)])) rfl (by rw [hml]; rfl) (Steps.refl _) (a := a0) qz2 qz2' (argsL := [(.ref be1)]) (rest := []) (lenOf own_pd3 rfl) rfl (by show 2 * 0 + _ ≤ _; exact Nat.le_of_eq rfl) (hb hby own_d10_6) (fun _ _ => ⟨rfl, rfl, (by decide : 2 + 0 ≤ _), (by decide : 20 + 0 ≤ _)⟩)
  dsimp only [Pt.U, Pt.locs, Pt.cells, Pt.slots] at X2 l2 y2 z2 st2 hQ2
  subst l2 y2 z2
  obtain ⟨rfl, N2q, k2, Fb2, Fz2, Fp2, Fm2, Fq2, Vb2⟩ := hQ2
  have N_2 := Fr.app N_1 N2q
  have E_a0_2 := E_a0_1.keep k2
  have Ve1_2 := Ve1.keep k2 (ninS (Ne.symm ne_a0_be1) (ninS (Ne.symm ne_bf_be1) nin0))
  have K_2 : Keep h0 T2.heap [a0, bf] := K_1.trans k2 (allS (Or.inl (List.mem_of_getElem? (i := 0) rfl)) (allS (Or.inl (List.mem_of_getElem? (i := 1) rfl)) all0))
  have Z_2 : n0 ≤ T2.heap.size := Nat.le_trans Z_1 k2.1
  have hvs2 : (own_put vs sz ne1 ue1).length = 256 := by rw [own_put_len (by rw [hvs]; omega)]; exact hvs
  refine own_step (fun _ k => st2.trans k) ?_
  show own_Ends p.tables e below _ (T2.setTop (mkF m 9 #[.val (.ref a0), .val (.int p1)] []))
  exact own_ret0 X2 hx hlk (by decide) (by decide) Bd.returns (hb hby own_d10_9) (⟨rfl, N_2, K_2, ne1, _, el1, eu1, Fb2, Fz2, Fp2, Fm2, Fq2, Vb2, hvs2⟩)
def own_QCp (Z : State) (n : Nat) (vs : List Value) (h0 : Heap) (n0 : Nat) (v : Option Value) (h : Heap) (L : List Loc) : Prop := ∃ (b : Addr) (k : ClassId) (us : List Value), v = some (.ref b) ∧ Fr n0 L ∧ Keep h0 h [] ∧ n0 ≤ b ∧ h0.size ≤ b ∧ Arv Z h b k .byte (Int32.ofNat n) us (Value.int (0 : Int32)) ∧ ∀ i, i < n → us.getD i (Value.int (0 : Int32)) = vs.getD i (Value.int (0 : Int32))
theorem own_min256 (n : Nat) (h : n ≤ 64) : own_minI (256 : Int32) (Int32.ofNat n) = Int32.ofNat n := if_pos ((own_nlt (b := 256) (by omega) (by omega)).mpr (by omega))
theorem own_cp_get (vs : List Value) (n i : Nat) (hn : n ≤ 64) (hi : i < n) : ((List.replicate 64 (Value.int (0 : Int32))).take (0 : Int32).toNatClampNeg ++ ((List.range (Int32.ofNat n).toNatClampNeg).map fun i => vs.getD ((0 : Int32).toNatClampNeg + i) (Value.int (0 : Int32))) ++ (List.replicate 64 (Value.int (0 : Int32))).drop ((0 : Int32).toNatClampNeg + (Int32.ofNat n).toNatClampNeg)).getD i (Value.int (0 : Int32)) = vs.getD i (Value.int (0 : Int32)) := by
  rw [own_clamp (by omega)]
  have z : (0 : Int32).toNatClampNeg = 0 := rfl
  rw [z]; simp only [Nat.zero_add]
  have := own_put_at (vs := List.replicate 64 (Value.int (0 : Int32))) (us := vs) (sz := 0) (n := n) (i := i) (Value.int (0 : Int32)) (by simp; omega) hi
  unfold own_put at this; simpa using this
theorem own_pd7 : parseMethodDescriptor "(II)I" = some ⟨[.int, .int], some .int⟩ := by decide +kernel
theorem own_d14_0 : decode jdk_65_method_121_code 0 = .ok (.iload_n 1, 1) := by decide +kernel
theorem own_d14_1 : decode jdk_65_method_121_code 1 = .ok (.aload_n 0, 1) := by decide +kernel
theorem own_d14_2 : decode jdk_65_method_121_code 2 = .ok (.arraylength, 1) := by decide +kernel
theorem own_d14_3 : decode jdk_65_method_121_code 3 = .ok (.if_icmp .ne 11, 3) := by decide +kernel
theorem own_d14_14 : decode jdk_65_method_121_code 14 = .ok (.iload_n 1, 1) := by decide +kernel
theorem own_d14_15 : decode jdk_65_method_121_code 15 = .ok (.newarray .byte, 2) := by decide +kernel
theorem own_d14_17 : decode jdk_65_method_121_code 17 = .ok (.astore_n 2, 1) := by decide +kernel
theorem own_d14_18 : decode jdk_65_method_121_code 18 = .ok (.aload_n 0, 1) := by decide +kernel
theorem own_d14_19 : decode jdk_65_method_121_code 19 = .ok (.iconst 0, 1) := by decide +kernel
theorem own_d14_20 : decode jdk_65_method_121_code 20 = .ok (.aload_n 2, 1) := by decide +kernel
theorem own_d14_21 : decode jdk_65_method_121_code 21 = .ok (.iconst 0, 1) := by decide +kernel
theorem own_d14_22 : decode jdk_65_method_121_code 22 = .ok (.aload_n 0, 1) := by decide +kernel
theorem own_d14_23 : decode jdk_65_method_121_code 23 = .ok (.arraylength, 1) := by decide +kernel
theorem own_d14_24 : decode jdk_65_method_121_code 24 = .ok (.iload_n 1, 1) := by decide +kernel
theorem own_d14_25 : decode jdk_65_method_121_code 25 = .ok (.invokestatic 304, 3) := by decide +kernel
theorem own_d14_28 : decode jdk_65_method_121_code 28 = .ok (.invokestatic 150, 3) := by decide +kernel
theorem own_d14_31 : decode jdk_65_method_121_code 31 = .ok (.aload_n 2, 1) := by decide +kernel
theorem own_d14_32 : decode jdk_65_method_121_code 32 = .ok (.areturn, 1) := by decide +kernel
theorem own_pn3 : plainName "java/util/Arrays" = true := by first | (simp [plainName, overriddenIn]; done) | decide +kernel
theorem own_ef_14 (m : MethodId) (x0 : Addr) (x1 : Int32) : entryFrame m #[(.ref x0), (.int x1)] 3 = mkF m 0 #[.val (.ref x0), .val (.int x1), .unset] [] := by first | (simp [entryFrame, mkF, argsToLocals, Value.category]; done) | rfl
set_option maxRecDepth 65536 in
set_option maxHeartbeats 40000000 in
theorem own_rm_copyOf (l : Launch) (Z : State) (aw : Array Value) (hw : ∀ d ∈ tables_1, d.before aw Z = true) (ws : List Jvm.Cond) (a0 : Addr) (k : ClassId) (vs : List Value) (n : Nat) (h0 : Heap) (n0 : Nat) (Z0 : n0 ≤ h0.size) (V_a0 : Arv Z h0 a0 k .byte (256 : Int32) vs (Value.int (0 : Int32))) (hvs : vs.length = 256) (hn : n ≤ 64) :
    MetFree l (⟨"java/util/Arrays", "copyOf", "([BI)[B"⟩ : MethodName) (head1 (Jvm.Cond.code (⟨"java/util/Arrays", "copyOf", "([BI)[B"⟩ : MethodName) jdk_65_method_121_code 3 (some (.array .byte)) :: ws) ({ frames := 1, cells := 1, slots := 64, locals := 18 } : Room)) (fun a U => a = #[(.ref a0), (.int (Int32.ofNat n))] ∧ Z.Warmed39 U.vm ∧ U.heap = h0) (fun _ _ _ _ _ => True) (fun _ U o U' => ∃ v L, o = .returned v ∧ own_QCp Z n vs h0 n0 v U'.heap L ∧ FrameEnd U o U' L ({ frames := 1, cells := 1, slots := 64, locals := 18 } : Room).cells ({ frames := 1, cells := 1, slots := 64, locals := 18 } : Room).slots) := by
  refine MetFree.of_bodySF (plainFor_of_name own_pn3) hisR ?_
  intro p e s m args below meth c s₁ Bd hml0 hP hK
  obtain ⟨rfl, hZ, hh⟩ := hP
  have hx := Bd.exec
  have hby := Bd.bytes
  have hlk : meth.locks = false := BodyLoose.notSynchronized Bd
  have hml : c.maxLocals = 3 := hml0
  have hown : s.vm.findClass "java/util/Arrays" = some m.cls := findClass_of_methodNamed Bd.named
  have hnm := (name_of_methodNamed Bd.named Bd.method).1
  have X0 : Stand p l e ({ frames := 1, cells := 1, slots := 64, locals := 18 } : Room) s m #[(.ref a0), (.int (Int32.ofNat n))] below meth c s₁ [] 0 0 := Stand.of_body Bd
  have e0 : s₁.heap = h0 := by rw [← hh, Bd.state]; rfl
  have N0 := Fr.nil n0
  have K0 : Keep h0 h0 [] := Keep.refl _ _
  have pre0 : ∀ t, Steps p.tables e below (s₁.setTop (mkF m 0 #[.val (.ref a0), .val (.int (Int32.ofNat n)), .unset] [])) t → Steps p.tables e below (s₁.setTop (entryFrame m #[(.ref a0), (.int (Int32.ofNat n))] 3)) t := fun t k => castTop (own_ef_14 m a0 (Int32.ofNat n)) k
  show own_Ends p.tables e below (own_Q s (own_QCp Z n vs h0 n0) ({ frames := 1, cells := 1, slots := 64, locals := 18 } : Room).cells ({ frames := 1, cells := 1, slots := 64, locals := 18 } : Room).slots) (s₁.setTop (entryFrame m #[(.ref a0), (.int (Int32.ofNat n))] 3))
  refine own_step pre0 ?_
  show own_Ends p.tables e below _ (s₁.setTop (mkF m 0 #[.val (.ref a0), .val (.int (Int32.ofNat n)), .unset] []))
  refine own_step (fun _ k => XS.iloadN X0.here hx rfl (hb hby own_d14_0) rfl k) ?_
  show own_Ends p.tables e below _ (s₁.setTop (mkF m 1 #[.val (.ref a0), .val (.int (Int32.ofNat n)), .unset] [(.int (Int32.ofNat n))]))
  refine own_step (fun _ k => XS.aloadN X0.here hx rfl (hb hby own_d14_1) rfl rfl k) ?_
  show own_Ends p.tables e below _ (s₁.setTop (mkF m 2 #[.val (.ref a0), .val (.int (Int32.ofNat n)), .unset] [(.ref a0), (.int (Int32.ofNat n))]))
  obtain ⟨cl1, Ar1, q1, S1, Nn1, H1, G1⟩ := id V_a0
  refine own_step (fun _ k => X0.arraylength hx (by rw [e0]; exact Ar1.1) (State.isArrayOf_alike hZ.alike Ar1.2.1) (g := (mkF m 2 #[.val (.ref a0), .val (.int (Int32.ofNat n)), .unset] [(.ref a0), (.int (Int32.ofNat n))])) rfl rfl (hb hby own_d14_2) _ k) ?_
  rw [len_of S1 Nn1]
  show own_Ends p.tables e below _ (s₁.setTop (mkF m 3 #[.val (.ref a0), .val (.int (Int32.ofNat n)), .unset] [(.int (256 : Int32)), (.int (Int32.ofNat n))]))
  refine own_step (fun _ k => XS.icmpYes X0.here hx rfl (pc0 := 3) (pc' := 14) rfl (hb hby own_d14_3) rfl (feq (fun q => by have := (own_neq (b := 256) (by omega) (by omega)).mp q; omega)).2 (by decide) (by decide) k) ?_
  show own_Ends p.tables e below _ (s₁.setTop (mkF m 14 #[.val (.ref a0), .val (.int (Int32.ofNat n)), .unset] []))
  refine own_step (fun _ k => XS.iloadN X0.here hx rfl (hb hby own_d14_14) rfl k) ?_
  show own_Ends p.tables e below _ (s₁.setTop (mkF m 15 #[.val (.ref a0), .val (.int (Int32.ofNat n)), .unset] [(.int (Int32.ofNat n))]))
  obtain ⟨T2, h2, k2, X2, e2, E2, A2, st2⟩ := newP X0 hx hZ (hw _ (List.mem_of_getElem? (i := 1) rfl)) e0 (g := (mkF m 15 #[.val (.ref a0), .val (.int (Int32.ofNat n)), .unset] [(.int (Int32.ofNat n))])) rfl (hb hby own_d14_15) rfl (own_nn (by omega)) (cap := 64) (by rw [own_clamp (by omega)]; omega) (by decide) (by decide) (by decide)
  obtain ⟨b2, g2⟩ : ∃ z, z = h0.size := ⟨_, rfl⟩
  rw [← g2] at A2 st2
  refine own_step st2 ?_
  have ne_a0_b2 : a0 ≠ b2 := Nat.ne_of_lt (Nat.lt_of_lt_of_le V_a0.lt (Nat.le_of_eq g2.symm))
  have g_b2 : n0 ≤ b2 := Nat.le_trans Z0 (Nat.le_of_eq g2.symm)
  have sz_b2 : h0.size ≤ b2 := Nat.le_trans K0.1 (Nat.le_of_eq g2.symm)
  have V_a0_2 := V_a0.ext E2
  have K_2 : Keep h0 h2 [] := K0.ext E2
  have Z_2 : n0 ≤ h2.size := Nat.le_trans Z0 E2.1
  have V_b2 : Arv Z h2 b2 k2 .byte (Int32.ofNat n) (List.replicate 64 (.int (0 : Int32))) (.int (0 : Int32)) := (Arv.new A2 (own_nn (by omega))).pad (pad_rep [] (.int (0 : Int32)) 64)
  show own_Ends p.tables e below _ (T2.setTop (mkF m 17 #[.val (.ref a0), .val (.int (Int32.ofNat n)), .unset] [(.ref b2)]))
  refine own_step (fun _ k => XS.astoreN X2.here hx rfl (hb hby own_d14_17) rfl rfl (l' := #[.val (.ref a0), .val (.int (Int32.ofNat n)), .val (.ref b2)]) rfl k) ?_
  show own_Ends p.tables e below _ (T2.setTop (mkF m 18 #[.val (.ref a0), .val (.int (Int32.ofNat n)), .val (.ref b2)] []))
  refine own_step (fun _ k => XS.aloadN X2.here hx rfl (hb hby own_d14_18) rfl rfl k) ?_
  show own_Ends p.tables e below _ (T2.setTop (mkF m 19 #[.val (.ref a0), .val (.int (Int32.ofNat n)), .val (.ref b2)] [(.ref a0)]))
  refine own_step (fun _ k => XS.iconst X2.here hx rfl (hb hby own_d14_19) k) ?_
  show own_Ends p.tables e below _ (T2.setTop (mkF m 20 #[.val (.ref a0), .val (.int (Int32.ofNat n)), .val (.ref b2)] [(.int (0 : Int32)), (.ref a0)]))
  refine own_step (fun _ k => XS.aloadN X2.here hx rfl (hb hby own_d14_20) rfl rfl k) ?_
  show own_Ends p.tables e below _ (T2.setTop (mkF m 21 #[.val (.ref a0), .val (.int (Int32.ofNat n)), .val (.ref b2)] [(.ref b2), (.int (0 : Int32)), (.ref a0)]))
  refine own_step (fun _ k => XS.iconst X2.here hx rfl (hb hby own_d14_21) k) ?_
  show own_Ends p.tables e below _ (T2.setTop (mkF m 22 #[.val (.ref a0), .val (.int (Int32.ofNat n)), .val (.ref b2)] [(.int (0 : Int32)), (.ref b2), (.int (0 : Int32)), (.ref a0)]))
  refine own_step (fun _ k => XS.aloadN X2.here hx rfl (hb hby own_d14_22) rfl rfl k) ?_
  show own_Ends p.tables e below _ (T2.setTop (mkF m 23 #[.val (.ref a0), .val (.int (Int32.ofNat n)), .val (.ref b2)] [(.ref a0), (.int (0 : Int32)), (.ref b2), (.int (0 : Int32)), (.ref a0)]))
  obtain ⟨cl3, Ar3, q3, S3, Nn3, H3, G3⟩ := id V_a0_2
  refine own_step (fun _ k => X2.arraylength hx (by rw [e2]; exact Ar3.1) (State.isArrayOf_alike hZ.alike Ar3.2.1) (g := (mkF m 23 #[.val (.ref a0), .val (.int (Int32.ofNat n)), .val (.ref b2)] [(.ref a0), (.int (0 : Int32)), (.ref b2), (.int (0 : Int32)), (.ref a0)])) rfl rfl (hb hby own_d14_23) _ k) ?_
  rw [len_of S3 Nn3]
  show own_Ends p.tables e below _ (T2.setTop (mkF m 24 #[.val (.ref a0), .val (.int (Int32.ofNat n)), .val (.ref b2)] [(.int (256 : Int32)), (.int (0 : Int32)), (.ref b2), (.int (0 : Int32)), (.ref a0)]))
  refine own_step (fun _ k => XS.iloadN X2.here hx rfl (hb hby own_d14_24) rfl k) ?_
  show own_Ends p.tables e below _ (T2.setTop (mkF m 25 #[.val (.ref a0), .val (.int (Int32.ofNat n)), .val (.ref b2)] [(.int (Int32.ofNat n)), (.int (256 : Int32)), (.int (0 : Int32)), (.ref b2), (.int (0 : Int32)), (.ref a0)]))
  obtain ⟨_, _, ⟨T4, L4, k4, n4⟩, -, X4, ⟨Lc4, hQ4, l4, y4, z4⟩, st4⟩ := Jvm.LawKit.callS X2 hx (y := (⟨"java/lang/Math", "min", "(II)I"⟩ : MethodName)) hown (mvT hZ (hw _ (List.mem_of_getElem? (i := 93) rfl))) (mvT hZ (hw _ (List.mem_of_getElem? (i := 94) rfl))) (mvT hZ (hw _ (List.mem_of_getElem? (i := 95) rfl))) (mvT hZ (hw _ (List.mem_of_getElem? (i := 96) rfl))) (by decide) (backOf (W := 4) (own_rm_minI l Z aw hw [] (256 : Int32) (Int32.ofNat n) h2 n0 Z_2 ) hZ (hw _ (List.mem_of_getElem? (i := 96) rfl)) (hw _ (List.mem_of_getElem? (i := 95) rfl)) (by decide) (by decide)) (g := (mkF m 25 #[.val (.ref a0), .val (.int (Int32.ofNat n)), .val (.ref b2)] [(.int (Int32.ofNat n)), (.int (256 : Int32)), (.int (0 : Int32)), (.ref b2), (.int (0 : Int32)), (.ref a0)])) rfl (by rw [hml]; rfl) (argsL := [(.int (256 : Int32)), (.int (Int32.ofNat n))]) (rest := [(.int (0 : Int32)), (.ref b2), (.int (0 : Int32)), (.ref a0)]) (lenOf own_pd7 rfl) rfl (by show 2 * 0 + _ ≤ _; exact Nat.le_of_eq rfl) (hb hby own_d14_25) (fun _ _ => ⟨rfl, e2, (by decide : 1 + 0 ≤ _), (by decide : 64 + 0 ≤ _)⟩)
  dsimp only [Pt.U, Pt.locs, Pt.cells, Pt.slots] at X4 l4 y4 z4 st4 hQ4
  subst l4 y4 z4
  obtain ⟨rfl, N4q, e4⟩ := hQ4
  have N_4 := Fr.app N0 N4q
  refine own_step st4 ?_
  show own_Ends p.tables e below _ (T4.setTop (mkF m 28 #[.val (.ref a0), .val (.int (Int32.ofNat n)), .val (.ref b2)] [(.int (own_minI (256 : Int32) (Int32.ofNat n))), (.int (0 : Int32)), (.ref b2), (.int (0 : Int32)), (.ref a0)]))
  rw [own_min256 n hn]
  show own_Ends p.tables e below _ (T4.setTop (mkF m 28 #[.val (.ref a0), .val (.int (Int32.ofNat n)), .val (.ref b2)] [(.int (Int32.ofNat n)), (.int (0 : Int32)), (.ref b2), (.int (0 : Int32)), (.ref a0)]))
  obtain ⟨T5, h5, L5, X5, e5, N_5, k5, V_b2_5, st5⟩ := cpA X4 hx hZ hown (hw _ (List.mem_of_getElem? (i := 97) rfl)) (hw _ (List.mem_of_getElem? (i := 34) rfl)) (hw _ (List.mem_of_getElem? (i := 32) rfl)) (hw _ (List.mem_of_getElem? (i := 33) rfl)) e4 V_a0_2 V_b2 (Or.inl ⟨rfl, rfl⟩) (us := _) (by decide) (by decide) (own_nn (by omega)) (by rw [own_clamp (by omega)]; show 0 + n ≤ 256; omega) (by rw [own_clamp (by omega)]; show 0 + n ≤ n; omega) rfl (by rw [own_clamp (by omega)]; simp only [List.length_replicate]; show 0 + n ≤ 64; omega) N_4 g_b2 (g := (mkF m 28 #[.val (.ref a0), .val (.int (Int32.ofNat n)), .val (.ref b2)] [(.int (Int32.ofNat n)), (.int (0 : Int32)), (.ref b2), (.int (0 : Int32)), (.ref a0)])) rfl (by rw [hml]; rfl) rfl (hb hby own_d14_28) (by decide) (W := 0) (by show 2 * 0 + _ ≤ _; exact Nat.le_of_eq rfl) (by decide)
  refine own_step st5 ?_
  have V_a0_5 := V_a0_2.keep k5 (ninS ne_a0_b2 nin0)
  have K_5 : Keep h0 h5 [] := K_2.trans k5 (allS (Or.inr sz_b2) all0)
  have Z_5 : n0 ≤ h5.size := Nat.le_trans Z_2 k5.1
  show own_Ends p.tables e below _ (T5.setTop (mkF m 31 #[.val (.ref a0), .val (.int (Int32.ofNat n)), .val (.ref b2)] []))
  refine own_step (fun _ k => XS.aloadN X5.here hx rfl (hb hby own_d14_31) rfl rfl k) ?_
  show own_Ends p.tables e below _ (T5.setTop (mkF m 32 #[.val (.ref a0), .val (.int (Int32.ofNat n)), .val (.ref b2)] [(.ref b2)]))
  exact own_retA X5 hx hlk (by decide) (by decide) Bd.returns rfl rfl (hb hby own_d14_32) (by rw [e5]; exact ⟨_, _, _, rfl, N_5, K_5, g_b2, sz_b2, V_b2_5, fun i hi => own_cp_get vs n i hn hi⟩)
theorem own_d13_0 : decode prog_18_method_10_code 0 = .ok (.aload_n 0, 1) := by decide +kernel
theorem own_d13_1 : decode prog_18_method_10_code 1 = .ok (.getfield 7, 3) := by decide +kernel
theorem own_d13_4 : decode prog_18_method_10_code 4 = .ok (.aload_n 0, 1) := by decide +kernel
theorem own_d13_5 : decode prog_18_method_10_code 5 = .ok (.getfield 20, 3) := by decide +kernel
theorem own_d13_8 : decode prog_18_method_10_code 8 = .ok (.invokestatic 63, 3) := by decide +kernel
theorem own_d13_11 : decode prog_18_method_10_code 11 = .ok (.areturn, 1) := by decide +kernel
theorem own_ef_13 (m : MethodId) (x0 : Addr) : entryFrame m #[(.ref x0)] 1 = mkF m 0 #[.val (.ref x0)] [] := by first | (simp [entryFrame, mkF, argsToLocals, Value.category]; done) | rfl
set_option maxRecDepth 65536 in
set_option maxHeartbeats 40000000 in
theorem own_rm_toByteArray (l : Launch) (Z : State) (aw : Array Value) (hw : ∀ d ∈ tables_1, d.before aw Z = true) (ws : List Jvm.Cond) (a0 : Addr) (bf : Addr) (kb : ClassId) (vs : List Value) (sz : Nat) (h0 : Heap) (n0 : Nat) (Z0 : n0 ≤ h0.size) (F_buffer : Fld Z h0 a0 "com/example/ketchup/ketchup/negentropy/MessageWriter" "buffer" "[B" (.ref bf)) (F_size : Fld Z h0 a0 "com/example/ketchup/ketchup/negentropy/MessageWriter" "size" "I" (.int (Int32.ofNat sz))) (V_bf : Arv Z h0 bf kb .byte (256 : Int32) vs (Value.int (0 : Int32))) (hvs : vs.length = 256) (g_bf : n0 ≤ bf) (hn : sz ≤ 64) :
    MetFree l (⟨"com/example/ketchup/ketchup/negentropy/MessageWriter", "toByteArray", "()[B"⟩ : MethodName) (head1 (Jvm.Cond.code (⟨"com/example/ketchup/ketchup/negentropy/MessageWriter", "toByteArray", "()[B"⟩ : MethodName) prog_18_method_10_code 1 (some (.array .byte)) :: ws) ({ frames := 2, cells := 1, slots := 64, locals := 32 } : Room)) (fun a U => a = #[(.ref a0)] ∧ Z.Warmed39 U.vm ∧ U.heap = h0) (fun _ _ _ _ _ => True) (fun _ U o U' => ∃ v L, o = .returned v ∧ own_QCp Z sz vs h0 n0 v U'.heap L ∧ FrameEnd U o U' L ({ frames := 2, cells := 1, slots := 64, locals := 32 } : Room).cells ({ frames := 2, cells := 1, slots := 64, locals := 32 } : Room).slots) := by
  refine MetFree.of_bodySF (plainFor_of_name own_pn0) hisR ?_
  intro p e s m args below meth c s₁ Bd hml0 hP hK
  obtain ⟨rfl, hZ, hh⟩ := hP
  have hx := Bd.exec
  have hby := Bd.bytes
  have hlk : meth.locks = false := BodyLoose.notSynchronized Bd
  have hml : c.maxLocals = 1 := hml0
  have hown : s.vm.findClass "com/example/ketchup/ketchup/negentropy/MessageWriter" = some m.cls := findClass_of_methodNamed Bd.named
  have hnm := (name_of_methodNamed Bd.named Bd.method).1
  have X0 : Stand p l e ({ frames := 2, cells := 1, slots := 64, locals := 32 } : Room) s m #[(.ref a0)] below meth c s₁ [] 0 0 := Stand.of_body Bd
  have e0 : s₁.heap = h0 := by rw [← hh, Bd.state]; rfl
  have N0 := Fr.nil n0
  have K0 : Keep h0 h0 [] := Keep.refl _ _
  have pre0 : ∀ t, Steps p.tables e below (s₁.setTop (mkF m 0 #[.val (.ref a0)] [])) t → Steps p.tables e below (s₁.setTop (entryFrame m #[(.ref a0)] 1)) t := fun t k => castTop (own_ef_13 m a0) k
  show own_Ends p.tables e below (own_Q s (own_QCp Z sz vs h0 n0) ({ frames := 2, cells := 1, slots := 64, locals := 32 } : Room).cells ({ frames := 2, cells := 1, slots := 64, locals := 32 } : Room).slots) (s₁.setTop (entryFrame m #[(.ref a0)] 1))
  refine own_step pre0 ?_
  show own_Ends p.tables e below _ (s₁.setTop (mkF m 0 #[.val (.ref a0)] []))
  refine own_step (fun _ k => XS.aloadN X0.here hx rfl (hb hby own_d13_0) rfl rfl k) ?_
  show own_Ends p.tables e below _ (s₁.setTop (mkF m 1 #[.val (.ref a0)] [(.ref a0)]))
  obtain ⟨T1, X1, e1, st1⟩ := getF X0 hx hZ hown (host := "") (Or.inl (hw _ (List.mem_of_getElem? (i := 23) rfl))) Via.refl e0 F_buffer (g := (mkF m 1 #[.val (.ref a0)] [(.ref a0)])) rfl rfl (hb hby own_d13_1)
  refine own_step st1 ?_
  show own_Ends p.tables e below _ (T1.setTop (mkF m 4 #[.val (.ref a0)] [(.ref bf)]))
  refine own_step (fun _ k => XS.aloadN X1.here hx rfl (hb hby own_d13_4) rfl rfl k) ?_
  show own_Ends p.tables e below _ (T1.setTop (mkF m 5 #[.val (.ref a0)] [(.ref a0), (.ref bf)]))
  obtain ⟨T2, X2, e2, st2⟩ := getF X1 hx hZ hown (host := "") (Or.inl (hw _ (List.mem_of_getElem? (i := 29) rfl))) Via.refl e1 F_size (g := (mkF m 5 #[.val (.ref a0)] [(.ref a0), (.ref bf)])) rfl rfl (hb hby own_d13_5)
  refine own_step st2 ?_
  show own_Ends p.tables e below _ (T2.setTop (mkF m 8 #[.val (.ref a0)] [(.int (Int32.ofNat sz)), (.ref bf)]))
  obtain ⟨_, _, ⟨T3, L3, k3, n3⟩, -, X3, ⟨Lc3, hQ3, l3, y3, z3⟩, st3⟩ := Jvm.LawKit.callS X2 hx (y := (⟨"java/util/Arrays", "copyOf", "([BI)[B"⟩ : MethodName)) hown (mvT hZ (hw _ (List.mem_of_getElem? (i := 89) rfl))) (mvT hZ (hw _ (List.mem_of_getElem? (i := 90) rfl))) (mvT hZ (hw _ (List.mem_of_getElem? (i := 91) rfl))) (mvT hZ (hw _ (List.mem_of_getElem? (i := 92) rfl))) (by decide) (backOf (W := 0) (own_rm_copyOf l Z aw hw [] bf kb vs sz h0 n0 Z0 V_bf hvs hn) hZ (hw _ (List.mem_of_getElem? (i := 92) rfl)) (hw _ (List.mem_of_getElem? (i := 91) rfl)) (by decide) (by decide)) (g := (mkF m 8 #[.val (.ref a0)] [(.int (Int32.ofNat sz)), (.ref bf)])) rfl (by rw [hml]; rfl) (argsL := [(.ref bf), (.int (Int32.ofNat sz))]) (rest := []) (lenOf own_pd0 rfl) rfl (by show 2 * 0 + _ ≤ _; exact Nat.le_of_eq rfl) (hb hby own_d13_8) (fun _ _ => ⟨rfl, e2, (by decide : 0 + 1 ≤ _), (by decide : 0 + 64 ≤ _)⟩)
  dsimp only [Pt.U, Pt.locs, Pt.cells, Pt.slots] at X3 l3 y3 z3 st3 hQ3
  subst l3 y3 z3
  obtain ⟨bo3, ko3, uo3, rfl, N3q, k3, ge3, hs3, Vo3, ho3⟩ := hQ3
  have N_3 := Fr.app N0 N3q
  refine own_step st3 ?_
  show own_Ends p.tables e below _ (T3.setTop (mkF m 11 #[.val (.ref a0)] [(.ref bo3)]))
  exact own_retA X3 hx hlk (by decide) (by decide) Bd.returns rfl rfl (hb hby own_d13_11) (⟨_, _, _, rfl, N_3, k3, ge3, hs3, Vo3, ho3⟩)
theorem own_pd8 : parseMethodDescriptor "(J[B)V" = some ⟨[.long, (.array .byte)], none⟩ := by decide +kernel
theorem own_pd9 : parseMethodDescriptor "(Lcom/example/ketchup/ketchup/negentropy/Bound;)V" = some ⟨[(.object "com/example/ketchup/ketchup/negentropy/Bound")], none⟩ := by decide +kernel
theorem own_pd10 : parseMethodDescriptor "(I)V" = some ⟨[.int], none⟩ := by decide +kernel
theorem own_pd11 : parseMethodDescriptor "()I" = some ⟨[], some .int⟩ := by decide +kernel
theorem own_pn4 : plainName "com/example/ketchup/ketchup/negentropy/MessageWriterMarkPinLaw" = true := by first | (simp [plainName, overriddenIn]; done) | decide +kernel
theorem own_ef_0 (m : MethodId) (x0 : Int64) (x1 : Int32) (x2 : Int64) (x3 : Int32) : entryFrame m #[(.long x0), (.int x1), (.long x2), (.int x3)] maxLocals = mkF m 0 #[.val (.long x0), .second, .val (.int x1), .val (.long x2), .second, .val (.int x3), .unset, .unset, .unset, .unset, .unset, .unset, .unset, .unset, .unset, .unset] [] := by first | (simp [entryFrame, mkF, argsToLocals, Value.category, maxLocals]; done) | rfl
def own_Q_law (Z : State) (q0 : Int64) (p1 : Int32) (q2 : Int64) (p3 : Int32) (lw : Addr) (lp : Addr) (kl : ClassId) (ul : List Value) (h0 : Heap) (n0 : Nat) (v : Option Value) (h : Heap) (L : List Loc) : Prop := v = some (.int 1) ∧ Fr n0 L
set_option maxRecDepth 65536 in
set_option maxHeartbeats 40000000 in
theorem own_rm_law (l : Launch) (Z : State) (aw : Array Value) (hw : ∀ d ∈ tables_1, d.before aw Z = true) (ws : List Jvm.Cond) (q0 : Int64) (p1 : Int32) (q2 : Int64) (p3 : Int32) (lw : Addr) (lp : Addr) (kl : ClassId) (ul : List Value) (h0 : Heap) (n0 : Nat) (Z0 : n0 ≤ h0.size) (S_L : Sta Z h0 "com/example/ketchup/ketchup/negentropy/Bound" "LOWEST" "Lcom/example/ketchup/ketchup/negentropy/Bound;" (.ref lw)) (E_lw : Exa Z h0 lw "com/example/ketchup/ketchup/negentropy/Bound") (F_lt : Fld Z h0 lw "com/example/ketchup/ketchup/negentropy/Bound" "timestamp" "J" (.long (0 : Int64))) (F_lp : Fld Z h0 lw "com/example/ketchup/ketchup/negentropy/Bound" "prefix" "[B" (.ref lp)) (V_lp : Arv Z h0 lp kl .byte (Int32.ofNat 0) ul (Value.int (0 : Int32))) (ne_wp : lw ≠ lp) :
    MetFree l x (head1 (Jvm.Cond.code x code maxLocals ret :: ws) room_1) (fun a U => a = #[(.long q0), (.int p1), (.long q2), (.int p3)] ∧ Z.Warmed39 U.vm ∧ U.heap = h0) (fun _ _ _ _ _ => True) (fun _ U o U' => ∃ v L, o = .returned v ∧ own_Q_law Z q0 p1 q2 p3 lw lp kl ul h0 n0 v U'.heap L ∧ FrameEnd U o U' L room_1.cells room_1.slots) := by
  refine MetFree.of_bodySF (plainFor_of_name own_pn4) hisR ?_
  intro p e s m args below meth c s₁ Bd hml0 hP hK
  obtain ⟨rfl, hZ, hh⟩ := hP
  have hx := Bd.exec
  have hby := Bd.bytes
  have hlk : meth.locks = false := BodyLoose.notSynchronized Bd
  have hml : c.maxLocals = 16 := hml0
  have hown : s.vm.findClass "com/example/ketchup/ketchup/negentropy/MessageWriterMarkPinLaw" = some m.cls := findClass_of_methodNamed Bd.named
  have hnm := (name_of_methodNamed Bd.named Bd.method).1
  have X0 : Stand p l e room_1 s m #[(.long q0), (.int p1), (.long q2), (.int p3)] below meth c s₁ [] 0 0 := Stand.of_body Bd
  have e0 : s₁.heap = h0 := by rw [← hh, Bd.state]; rfl
  have N0 := Fr.nil n0
  have K0 : Keep h0 h0 [] := Keep.refl _ _
  have pre0 : ∀ t, Steps p.tables e below (s₁.setTop (mkF m 0 #[.val (.long q0), .second, .val (.int p1), .val (.long q2), .second, .val (.int p3), .unset, .unset, .unset, .unset, .unset, .unset, .unset, .unset, .unset, .unset] [])) t → Steps p.tables e below (s₁.setTop (entryFrame m #[(.long q0), (.int p1), (.long q2), (.int p3)] maxLocals)) t := fun t k => castTop (own_ef_0 m q0 p1 q2 p3) k
  show own_Ends p.tables e below (own_Q s (own_Q_law Z q0 p1 q2 p3 lw lp kl ul h0 n0) room_1.cells room_1.slots) (s₁.setTop (entryFrame m #[(.long q0), (.int p1), (.long q2), (.int p3)] maxLocals))
  refine own_step pre0 ?_
  show own_Ends p.tables e below _ (s₁.setTop (mkF m 0 #[.val (.long q0), .second, .val (.int p1), .val (.long q2), .second, .val (.int p3), .unset, .unset, .unset, .unset, .unset, .unset, .unset, .unset, .unset, .unset] []))
  refine own_step (fun _ k => XS.iload X0.here hx rfl (hb hby at_0) rfl k) ?_
  show own_Ends p.tables e below _ (s₁.setTop (mkF m 2 #[.val (.long q0), .second, .val (.int p1), .val (.long q2), .second, .val (.int p3), .unset, .unset, .unset, .unset, .unset, .unset, .unset, .unset, .unset, .unset] [(.int p3)]))
  refine own_step (fun _ k => X0.ldcInt hx hown (mvT hZ (hw _ (List.mem_of_getElem? (i := 0) rfl))) (g := (mkF m 2 #[.val (.long q0), .second, .val (.int p1), .val (.long q2), .second, .val (.int p3), .unset, .unset, .unset, .unset, .unset, .unset, .unset, .unset, .unset, .unset] [(.int p3)])) rfl (hb hby at_2) _ k) ?_
  show own_Ends p.tables e below _ (s₁.setTop (mkF m 4 #[.val (.long q0), .second, .val (.int p1), .val (.long q2), .second, .val (.int p3), .unset, .unset, .unset, .unset, .unset, .unset, .unset, .unset, .unset, .unset] [(.int (2147483647 : Int32)), (.int p3)]))
  refine own_step (fun _ k => XS.iand X0.here hx rfl (hb hby at_4) rfl k) ?_
  show own_Ends p.tables e below _ (s₁.setTop (mkF m 5 #[.val (.long q0), .second, .val (.int p1), .val (.long q2), .second, .val (.int p3), .unset, .unset, .unset, .unset, .unset, .unset, .unset, .unset, .unset, .unset] [(.int (p3 &&& (2147483647 : Int32)))]))
  refine own_step (fun _ k => XS.bipush X0.here hx rfl (hb hby at_5) k) ?_
  show own_Ends p.tables e below _ (s₁.setTop (mkF m 7 #[.val (.long q0), .second, .val (.int p1), .val (.long q2), .second, .val (.int p3), .unset, .unset, .unset, .unset, .unset, .unset, .unset, .unset, .unset, .unset] [(.int (33 : Int32)), (.int (p3 &&& (2147483647 : Int32)))]))
  refine own_step (fun _ k => iremM X0 hx rfl (hb hby at_7) rfl (by decide) k) ?_
  show own_Ends p.tables e below _ (s₁.setTop (mkF m 8 #[.val (.long q0), .second, .val (.int p1), .val (.long q2), .second, .val (.int p3), .unset, .unset, .unset, .unset, .unset, .unset, .unset, .unset, .unset, .unset] [(.int ((p3 &&& (2147483647 : Int32)) % (33 : Int32)))]))
  obtain ⟨np, hnp, ed⟩ := own_lrange p3
  rw [ed]
  show own_Ends p.tables e below _ (s₁.setTop (mkF m 8 #[.val (.long q0), .second, .val (.int p1), .val (.long q2), .second, .val (.int p3), .unset, .unset, .unset, .unset, .unset, .unset, .unset, .unset, .unset, .unset] [(.int (Int32.ofNat np))]))
  refine own_step (fun _ k => XS.istore X0.here hx rfl (hb hby at_8) rfl (l' := #[.val (.long q0), .second, .val (.int p1), .val (.long q2), .second, .val (.int p3), .val (.int (Int32.ofNat np)), .unset, .unset, .unset, .unset, .unset, .unset, .unset, .unset, .unset]) rfl k) ?_
  show own_Ends p.tables e below _ (s₁.setTop (mkF m 10 #[.val (.long q0), .second, .val (.int p1), .val (.long q2), .second, .val (.int p3), .val (.int (Int32.ofNat np)), .unset, .unset, .unset, .unset, .unset, .unset, .unset, .unset, .unset] []))
  refine own_step (fun _ k => XS.iload X0.here hx rfl (hb hby at_10) rfl k) ?_
  show own_Ends p.tables e below _ (s₁.setTop (mkF m 12 #[.val (.long q0), .second, .val (.int p1), .val (.long q2), .second, .val (.int p3), .val (.int (Int32.ofNat np)), .unset, .unset, .unset, .unset, .unset, .unset, .unset, .unset, .unset] [(.int (Int32.ofNat np))]))
  obtain ⟨T1, h1, k1, X1, e1, E1, A1, st1⟩ := newP X0 hx hZ (hw _ (List.mem_of_getElem? (i := 1) rfl)) e0 (g := (mkF m 12 #[.val (.long q0), .second, .val (.int p1), .val (.long q2), .second, .val (.int p3), .val (.int (Int32.ofNat np)), .unset, .unset, .unset, .unset, .unset, .unset, .unset, .unset, .unset] [(.int (Int32.ofNat np))])) rfl (hb hby at_12) rfl (own_nn (by omega)) (cap := 32) (by rw [own_clamp (by omega)]; omega) (by decide) (by decide) (by decide)
  obtain ⟨b1, g1⟩ : ∃ z, z = h0.size := ⟨_, rfl⟩
  rw [← g1] at A1 st1
  refine own_step st1 ?_
  have ne_lw_b1 : lw ≠ b1 := Nat.ne_of_lt (Nat.lt_of_lt_of_le E_lw.lt (Nat.le_of_eq g1.symm))
  have ne_lp_b1 : lp ≠ b1 := Nat.ne_of_lt (Nat.lt_of_lt_of_le V_lp.lt (Nat.le_of_eq g1.symm))
  have g_b1 : n0 ≤ b1 := Nat.le_trans Z0 (Nat.le_of_eq g1.symm)
  have sz_b1 : h0.size ≤ b1 := Nat.le_trans K0.1 (Nat.le_of_eq g1.symm)
  have S_L_1 := S_L.ext E1
  have E_lw_1 := E_lw.ext E1
  have F_lt_1 := F_lt.ext E1
  have F_lp_1 := F_lp.ext E1
  have V_lp_1 := V_lp.ext E1
  have K_1 : Keep h0 h1 [] := K0.ext E1
  have Z_1 : n0 ≤ h1.size := Nat.le_trans Z0 E1.1
  have V_b1 : Arv Z h1 b1 k1 .byte (Int32.ofNat np) (List.replicate 32 (.int (0 : Int32))) (.int (0 : Int32)) := (Arv.new A1 (own_nn (by omega))).pad (pad_rep [] (.int (0 : Int32)) 32)
  show own_Ends p.tables e below _ (T1.setTop (mkF m 14 #[.val (.long q0), .second, .val (.int p1), .val (.long q2), .second, .val (.int p3), .val (.int (Int32.ofNat np)), .unset, .unset, .unset, .unset, .unset, .unset, .unset, .unset, .unset] [(.ref b1)]))
  refine own_step (fun _ k => XS.astore X1.here hx rfl (hb hby at_14) rfl rfl (l' := #[.val (.long q0), .second, .val (.int p1), .val (.long q2), .second, .val (.int p3), .val (.int (Int32.ofNat np)), .val (.ref b1), .unset, .unset, .unset, .unset, .unset, .unset, .unset, .unset]) rfl k) ?_
  show own_Ends p.tables e below _ (T1.setTop (mkF m 16 #[.val (.long q0), .second, .val (.int p1), .val (.long q2), .second, .val (.int p3), .val (.int (Int32.ofNat np)), .val (.ref b1), .unset, .unset, .unset, .unset, .unset, .unset, .unset, .unset] []))
  obtain ⟨T2, h2, X2, e2, E2, A2, D2, -, st2⟩ := newO X1 hx hZ hown (hw _ (List.mem_of_getElem? (i := 2) rfl)) (hw _ (List.mem_of_getElem? (i := 3) rfl)) (hw _ (List.mem_of_getElem? (i := 4) rfl)) e1 (g := (mkF m 16 #[.val (.long q0), .second, .val (.int p1), .val (.long q2), .second, .val (.int p3), .val (.int (Int32.ofNat np)), .val (.ref b1), .unset, .unset, .unset, .unset, .unset, .unset, .unset, .unset] [])) rfl (hb hby at_16) (by decide) (by decide)
  obtain ⟨b2, g2⟩ : ∃ z, z = h1.size := ⟨_, rfl⟩
  rw [← g2] at A2 D2 st2
  refine own_step st2 ?_
  have ne_lw_b2 : lw ≠ b2 := Nat.ne_of_lt (Nat.lt_of_lt_of_le E_lw_1.lt (Nat.le_of_eq g2.symm))
  have ne_lp_b2 : lp ≠ b2 := Nat.ne_of_lt (Nat.lt_of_lt_of_le V_lp_1.lt (Nat.le_of_eq g2.symm))
  have ne_b1_b2 : b1 ≠ b2 := Nat.ne_of_lt (Nat.lt_of_lt_of_le V_b1.lt (Nat.le_of_eq g2.symm))
  have g_b2 : n0 ≤ b2 := Nat.le_trans Z_1 (Nat.le_of_eq g2.symm)
  have sz_b2 : h0.size ≤ b2 := Nat.le_trans K_1.1 (Nat.le_of_eq g2.symm)
  have S_L_2 := S_L_1.ext E2
  have E_lw_2 := E_lw_1.ext E2
  have F_lt_2 := F_lt_1.ext E2
  have F_lp_2 := F_lp_1.ext E2
  have V_lp_2 := V_lp_1.ext E2
  have V_b1_2 := V_b1.ext E2
  have K_2 : Keep h0 h2 [] := K_1.ext E2
  have Z_2 : n0 ≤ h2.size := Nat.le_trans Z_1 E2.1
  have F_timestamp_b2 : Fld Z h2 b2 "com/example/ketchup/ketchup/negentropy/Bound" "timestamp" "J" (.long (0 : Int64)) := D2 (Or.inr (hw _ (List.mem_of_getElem? (i := 12) rfl))) (ty := .long) (by decide)
  have F_prefix_b2 : Fld Z h2 b2 "com/example/ketchup/ketchup/negentropy/Bound" "prefix" "[B" .null := D2 (Or.inr (hw _ (List.mem_of_getElem? (i := 14) rfl))) (ty := (.array .byte)) (by decide)
  show own_Ends p.tables e below _ (T2.setTop (mkF m 19 #[.val (.long q0), .second, .val (.int p1), .val (.long q2), .second, .val (.int p3), .val (.int (Int32.ofNat np)), .val (.ref b1), .unset, .unset, .unset, .unset, .unset, .unset, .unset, .unset] [(.ref b2)]))
  refine own_step (fun _ k => XS.dup X2.here hx rfl (hb hby at_19) rfl rfl k) ?_
  show own_Ends p.tables e below _ (T2.setTop (mkF m 20 #[.val (.long q0), .second, .val (.int p1), .val (.long q2), .second, .val (.int p3), .val (.int (Int32.ofNat np)), .val (.ref b1), .unset, .unset, .unset, .unset, .unset, .unset, .unset, .unset] [(.ref b2), (.ref b2)]))
  refine own_step (fun _ k => XS.lloadN X2.here hx rfl (hb hby at_20) rfl k) ?_
  show own_Ends p.tables e below _ (T2.setTop (mkF m 21 #[.val (.long q0), .second, .val (.int p1), .val (.long q2), .second, .val (.int p3), .val (.int (Int32.ofNat np)), .val (.ref b1), .unset, .unset, .unset, .unset, .unset, .unset, .unset, .unset] [(.long q0), (.ref b2), (.ref b2)]))
  refine own_step (fun _ k => XS.iconst X2.here hx rfl (hb hby at_21) k) ?_
  show own_Ends p.tables e below _ (T2.setTop (mkF m 22 #[.val (.long q0), .second, .val (.int p1), .val (.long q2), .second, .val (.int p3), .val (.int (Int32.ofNat np)), .val (.ref b1), .unset, .unset, .unset, .unset, .unset, .unset, .unset, .unset] [(.int (0 : Int32)), (.long q0), (.ref b2), (.ref b2)]))
  obtain ⟨T3, h3, k3, X3, e3, E3, A3, st3⟩ := newP X2 hx hZ (hw _ (List.mem_of_getElem? (i := 1) rfl)) e2 (g := (mkF m 22 #[.val (.long q0), .second, .val (.int p1), .val (.long q2), .second, .val (.int p3), .val (.int (Int32.ofNat np)), .val (.ref b1), .unset, .unset, .unset, .unset, .unset, .unset, .unset, .unset] [(.int (0 : Int32)), (.long q0), (.ref b2), (.ref b2)])) rfl (hb hby at_22) rfl (by decide) (cap := 0) (by decide) (by decide) (by decide) (by decide)
  obtain ⟨b3, g3⟩ : ∃ z, z = h2.size := ⟨_, rfl⟩
  rw [← g3] at A3 st3
  refine own_step st3 ?_
  have ne_lw_b3 : lw ≠ b3 := Nat.ne_of_lt (Nat.lt_of_lt_of_le E_lw_2.lt (Nat.le_of_eq g3.symm))
  have ne_lp_b3 : lp ≠ b3 := Nat.ne_of_lt (Nat.lt_of_lt_of_le V_lp_2.lt (Nat.le_of_eq g3.symm))
  have ne_b1_b3 : b1 ≠ b3 := Nat.ne_of_lt (Nat.lt_of_lt_of_le V_b1_2.lt (Nat.le_of_eq g3.symm))
  have ne_b2_b3 : b2 ≠ b3 := Nat.ne_of_lt (Nat.lt_of_lt_of_le A2.lt (Nat.le_of_eq g3.symm))
  have g_b3 : n0 ≤ b3 := Nat.le_trans Z_2 (Nat.le_of_eq g3.symm)
  have sz_b3 : h0.size ≤ b3 := Nat.le_trans K_2.1 (Nat.le_of_eq g3.symm)
  have S_L_3 := S_L_2.ext E3
  have E_lw_3 := E_lw_2.ext E3
  have F_lt_3 := F_lt_2.ext E3
  have F_lp_3 := F_lp_2.ext E3
  have V_lp_3 := V_lp_2.ext E3
  have V_b1_3 := V_b1_2.ext E3
  have A2_3 := A2.ext E3
  have F_timestamp_b2_3 := F_timestamp_b2.ext E3
  have F_prefix_b2_3 := F_prefix_b2.ext E3
  have K_3 : Keep h0 h3 [] := K_2.ext E3
  have Z_3 : n0 ≤ h3.size := Nat.le_trans Z_2 E3.1
  have V_b3 : Arv Z h3 b3 k3 .byte (0 : Int32) (List.replicate 0 (.int (0 : Int32))) (.int (0 : Int32)) := (Arv.new A3 (by decide)).pad (pad_rep [] (.int (0 : Int32)) 0)
  show own_Ends p.tables e below _ (T3.setTop (mkF m 24 #[.val (.long q0), .second, .val (.int p1), .val (.long q2), .second, .val (.int p3), .val (.int (Int32.ofNat np)), .val (.ref b1), .unset, .unset, .unset, .unset, .unset, .unset, .unset, .unset] [(.ref b3), (.long q0), (.ref b2), (.ref b2)]))
  obtain ⟨_, _, ⟨T4, L4, k4, n4⟩, -, X4, ⟨Lc4, hQ4, l4, y4, z4⟩, st4⟩ := X3.specialBack hx (y := (⟨"com/example/ketchup/ketchup/negentropy/Bound", "<init>", "(J[B)V"⟩ : MethodName)) rfl hown (mvT hZ (hw _ (List.mem_of_getElem? (i := 5) rfl))) (mvT hZ (hw _ (List.mem_of_getElem? (i := 6) rfl))) (mvT hZ (hw _ (List.mem_of_getElem? (i := 7) rfl))) (by decide) (backOf (W := 1) (own_rm_binit l Z aw hw [] b2 q0 b3 k3 0 (List.replicate 0 (.int (0 : Int32))) h3 n0 Z_3 A2_3 F_timestamp_b2_3 F_prefix_b2_3 g_b2 V_b3 ne_b2_b3 (by omega)) hZ (hw _ (List.mem_of_getElem? (i := 7) rfl)) (hw _ (List.mem_of_getElem? (i := 4) rfl)) (by decide) (by decide)) (g := (mkF m 24 #[.val (.long q0), .second, .val (.int p1), .val (.long q2), .second, .val (.int p3), .val (.int (Int32.ofNat np)), .val (.ref b1), .unset, .unset, .unset, .unset, .unset, .unset, .unset, .unset] [(.ref b3), (.long q0), (.ref b2), (.ref b2)])) rfl (by rw [hml]; rfl) (Steps.refl _) (a := b2) (argsL := [(.long q0), (.ref b3)]) (rest := [(.ref b2)]) (lenOf own_pd8 rfl) rfl (by show 2 * 0 + _ ≤ _; exact Nat.le_of_eq rfl) (hb hby at_24) (fun _ _ => ⟨rfl, e3, (by decide : 3 + 0 ≤ _), (by decide : 34 + 0 ≤ _)⟩)
  dsimp only [Pt.U, Pt.locs, Pt.cells, Pt.slots] at X4 l4 y4 z4 st4 hQ4
  subst l4 y4 z4
  obtain ⟨rfl, N4q, k4, Ft4, Fx4⟩ := hQ4
  have N_4 := Fr.app N0 N4q
  have S_L_4 := own_Sta_keep S_L_3 k4 (allS (own_ns_exa A2_3) all0)
  have E_lw_4 := E_lw_3.keep k4
  have F_lt_4 := F_lt_3.keep k4 (ninS ne_lw_b2 nin0)
  have F_lp_4 := F_lp_3.keep k4 (ninS ne_lw_b2 nin0)
  have V_lp_4 := V_lp_3.keep k4 (ninS ne_lp_b2 nin0)
  have V_b1_4 := V_b1_3.keep k4 (ninS ne_b1_b2 nin0)
  have A2_4 := A2_3.keep k4
  have V_b3_4 := V_b3.keep k4 (ninS (Ne.symm ne_b2_b3) nin0)
  have K_4 : Keep h0 T4.heap [] := K_3.trans k4 (allS (Or.inr sz_b2) all0)
  have Z_4 : n0 ≤ T4.heap.size := Nat.le_trans Z_3 k4.1
  refine own_step (fun _ k => st4.trans k) ?_
  show own_Ends p.tables e below _ (T4.setTop (mkF m 27 #[.val (.long q0), .second, .val (.int p1), .val (.long q2), .second, .val (.int p3), .val (.int (Int32.ofNat np)), .val (.ref b1), .unset, .unset, .unset, .unset, .unset, .unset, .unset, .unset] [(.ref b2)]))
  refine own_step (fun _ k => XS.astore X4.here hx rfl (hb hby at_27) rfl rfl (l' := #[.val (.long q0), .second, .val (.int p1), .val (.long q2), .second, .val (.int p3), .val (.int (Int32.ofNat np)), .val (.ref b1), .val (.ref b2), .unset, .unset, .unset, .unset, .unset, .unset, .unset]) rfl k) ?_
  show own_Ends p.tables e below _ (T4.setTop (mkF m 29 #[.val (.long q0), .second, .val (.int p1), .val (.long q2), .second, .val (.int p3), .val (.int (Int32.ofNat np)), .val (.ref b1), .val (.ref b2), .unset, .unset, .unset, .unset, .unset, .unset, .unset] []))
  obtain ⟨T5, h5, X5, e5, E5, A5, D5, -, st5⟩ := newO X4 hx hZ hown (hw _ (List.mem_of_getElem? (i := 2) rfl)) (hw _ (List.mem_of_getElem? (i := 3) rfl)) (hw _ (List.mem_of_getElem? (i := 4) rfl)) rfl (g := (mkF m 29 #[.val (.long q0), .second, .val (.int p1), .val (.long q2), .second, .val (.int p3), .val (.int (Int32.ofNat np)), .val (.ref b1), .val (.ref b2), .unset, .unset, .unset, .unset, .unset, .unset, .unset] [])) rfl (hb hby at_29) (by decide) (by decide)
  obtain ⟨b5, g5⟩ : ∃ z, z = T4.heap.size := ⟨_, rfl⟩
  rw [← g5] at A5 D5 st5
  refine own_step st5 ?_
  have ne_lw_b5 : lw ≠ b5 := Nat.ne_of_lt (Nat.lt_of_lt_of_le E_lw_4.lt (Nat.le_of_eq g5.symm))
  have ne_lp_b5 : lp ≠ b5 := Nat.ne_of_lt (Nat.lt_of_lt_of_le V_lp_4.lt (Nat.le_of_eq g5.symm))
  have ne_b1_b5 : b1 ≠ b5 := Nat.ne_of_lt (Nat.lt_of_lt_of_le V_b1_4.lt (Nat.le_of_eq g5.symm))
  have ne_b2_b5 : b2 ≠ b5 := Nat.ne_of_lt (Nat.lt_of_lt_of_le A2_4.lt (Nat.le_of_eq g5.symm))
  have ne_b3_b5 : b3 ≠ b5 := Nat.ne_of_lt (Nat.lt_of_lt_of_le V_b3_4.lt (Nat.le_of_eq g5.symm))
  have g_b5 : n0 ≤ b5 := Nat.le_trans Z_4 (Nat.le_of_eq g5.symm)
  have sz_b5 : h0.size ≤ b5 := Nat.le_trans K_4.1 (Nat.le_of_eq g5.symm)
  have S_L_5 := S_L_4.ext E5
  have E_lw_5 := E_lw_4.ext E5
  have F_lt_5 := F_lt_4.ext E5
  have F_lp_5 := F_lp_4.ext E5
  have V_lp_5 := V_lp_4.ext E5
  have V_b1_5 := V_b1_4.ext E5
  have A2_5 := A2_4.ext E5
  have V_b3_5 := V_b3_4.ext E5
  have Ft4_5 := Ft4.ext E5
  have Fx4_5 := Fx4.ext E5
  have K_5 : Keep h0 h5 [] := K_4.ext E5
  have Z_5 : n0 ≤ h5.size := Nat.le_trans Z_4 E5.1
  have F_timestamp_b5 : Fld Z h5 b5 "com/example/ketchup/ketchup/negentropy/Bound" "timestamp" "J" (.long (0 : Int64)) := D5 (Or.inr (hw _ (List.mem_of_getElem? (i := 12) rfl))) (ty := .long) (by decide)
  have F_prefix_b5 : Fld Z h5 b5 "com/example/ketchup/ketchup/negentropy/Bound" "prefix" "[B" .null := D5 (Or.inr (hw _ (List.mem_of_getElem? (i := 14) rfl))) (ty := (.array .byte)) (by decide)
  show own_Ends p.tables e below _ (T5.setTop (mkF m 32 #[.val (.long q0), .second, .val (.int p1), .val (.long q2), .second, .val (.int p3), .val (.int (Int32.ofNat np)), .val (.ref b1), .val (.ref b2), .unset, .unset, .unset, .unset, .unset, .unset, .unset] [(.ref b5)]))
  refine own_step (fun _ k => XS.dup X5.here hx rfl (hb hby at_32) rfl rfl k) ?_
  show own_Ends p.tables e below _ (T5.setTop (mkF m 33 #[.val (.long q0), .second, .val (.int p1), .val (.long q2), .second, .val (.int p3), .val (.int (Int32.ofNat np)), .val (.ref b1), .val (.ref b2), .unset, .unset, .unset, .unset, .unset, .unset, .unset] [(.ref b5), (.ref b5)]))
  refine own_step (fun _ k => XS.lloadN X5.here hx rfl (hb hby at_33) rfl k) ?_
  show own_Ends p.tables e below _ (T5.setTop (mkF m 34 #[.val (.long q0), .second, .val (.int p1), .val (.long q2), .second, .val (.int p3), .val (.int (Int32.ofNat np)), .val (.ref b1), .val (.ref b2), .unset, .unset, .unset, .unset, .unset, .unset, .unset] [(.long q2), (.ref b5), (.ref b5)]))
  refine own_step (fun _ k => XS.aload X5.here hx rfl (hb hby at_34) rfl rfl k) ?_
  show own_Ends p.tables e below _ (T5.setTop (mkF m 36 #[.val (.long q0), .second, .val (.int p1), .val (.long q2), .second, .val (.int p3), .val (.int (Int32.ofNat np)), .val (.ref b1), .val (.ref b2), .unset, .unset, .unset, .unset, .unset, .unset, .unset] [(.ref b1), (.long q2), (.ref b5), (.ref b5)]))
  obtain ⟨_, _, ⟨T6, L6, k6, n6⟩, -, X6, ⟨Lc6, hQ6, l6, y6, z6⟩, st6⟩ := X5.specialBack hx (y := (⟨"com/example/ketchup/ketchup/negentropy/Bound", "<init>", "(J[B)V"⟩ : MethodName)) rfl hown (mvT hZ (hw _ (List.mem_of_getElem? (i := 5) rfl))) (mvT hZ (hw _ (List.mem_of_getElem? (i := 6) rfl))) (mvT hZ (hw _ (List.mem_of_getElem? (i := 7) rfl))) (by decide) (backOf (W := 1) (own_rm_binit l Z aw hw [] b5 q2 b1 k1 np (List.replicate 32 (.int (0 : Int32))) h5 n0 Z_5 A5 F_timestamp_b5 F_prefix_b5 g_b5 V_b1_5 (Ne.symm ne_b1_b5) (by omega)) hZ (hw _ (List.mem_of_getElem? (i := 7) rfl)) (hw _ (List.mem_of_getElem? (i := 4) rfl)) (by decide) (by decide)) (g := (mkF m 36 #[.val (.long q0), .second, .val (.int p1), .val (.long q2), .second, .val (.int p3), .val (.int (Int32.ofNat np)), .val (.ref b1), .val (.ref b2), .unset, .unset, .unset, .unset, .unset, .unset, .unset] [(.ref b1), (.long q2), (.ref b5), (.ref b5)])) rfl (by rw [hml]; rfl) (Steps.refl _) (a := b5) (argsL := [(.long q2), (.ref b1)]) (rest := [(.ref b5)]) (lenOf own_pd8 rfl) rfl (by show 2 * 0 + _ ≤ _; exact Nat.le_of_eq rfl) (hb hby at_36) (fun _ _ => ⟨rfl, e5, (by decide : 4 + 0 ≤ _), (by decide : 36 + 0 ≤ _)⟩)
  dsimp only [Pt.U, Pt.locs, Pt.cells, Pt.slots] at X6 l6 y6 z6 st6 hQ6
  subst l6 y6 z6
  obtain ⟨rfl, N6q, k6, Ft6, Fx6⟩ := hQ6
  have N_6 := Fr.app N_4 N6q
  have S_L_6 := own_Sta_keep S_L_5 k6 (allS (own_ns_exa A5) all0)
  have E_lw_6 := E_lw_5.keep k6
  have F_lt_6 := F_lt_5.keep k6 (ninS ne_lw_b5 nin0)
  have F_lp_6 := F_lp_5.keep k6 (ninS ne_lw_b5 nin0)
  have V_lp_6 := V_lp_5.keep k6 (ninS ne_lp_b5 nin0)
  have V_b1_6 := V_b1_5.keep k6 (ninS ne_b1_b5 nin0)
  have A2_6 := A2_5.keep k6
  have V_b3_6 := V_b3_5.keep k6 (ninS ne_b3_b5 nin0)
  have Ft4_6 := Ft4_5.keep k6 (ninS ne_b2_b5 nin0)
  have Fx4_6 := Fx4_5.keep k6 (ninS ne_b2_b5 nin0)
  have A5_6 := A5.keep k6
  have K_6 : Keep h0 T6.heap [] := K_5.trans k6 (allS (Or.inr sz_b5) all0)
  have Z_6 : n0 ≤ T6.heap.size := Nat.le_trans Z_5 k6.1
  refine own_step (fun _ k => st6.trans k) ?_
  show own_Ends p.tables e below _ (T6.setTop (mkF m 39 #[.val (.long q0), .second, .val (.int p1), .val (.long q2), .second, .val (.int p3), .val (.int (Int32.ofNat np)), .val (.ref b1), .val (.ref b2), .unset, .unset, .unset, .unset, .unset, .unset, .unset] [(.ref b5)]))
  refine own_step (fun _ k => XS.astore X6.here hx rfl (hb hby at_39) rfl rfl (l' := #[.val (.long q0), .second, .val (.int p1), .val (.long q2), .second, .val (.int p3), .val (.int (Int32.ofNat np)), .val (.ref b1), .val (.ref b2), .val (.ref b5), .unset, .unset, .unset, .unset, .unset, .unset]) rfl k) ?_
  show own_Ends p.tables e below _ (T6.setTop (mkF m 41 #[.val (.long q0), .second, .val (.int p1), .val (.long q2), .second, .val (.int p3), .val (.int (Int32.ofNat np)), .val (.ref b1), .val (.ref b2), .val (.ref b5), .unset, .unset, .unset, .unset, .unset, .unset] []))
  refine own_step (fun _ k => XS.lloadN X6.here hx rfl (hb hby at_41) rfl k) ?_
  show own_Ends p.tables e below _ (T6.setTop (mkF m 42 #[.val (.long q0), .second, .val (.int p1), .val (.long q2), .second, .val (.int p3), .val (.int (Int32.ofNat np)), .val (.ref b1), .val (.ref b2), .val (.ref b5), .unset, .unset, .unset, .unset, .unset, .unset] [(.long q0)]))
  refine own_step (fun _ k => X6.ldc2Long hx hown (mvT hZ (hw _ (List.mem_of_getElem? (i := 15) rfl))) (g := (mkF m 42 #[.val (.long q0), .second, .val (.int p1), .val (.long q2), .second, .val (.int p3), .val (.int (Int32.ofNat np)), .val (.ref b1), .val (.ref b2), .val (.ref b5), .unset, .unset, .unset, .unset, .unset, .unset] [(.long q0)])) rfl (hb hby at_42) _ k) ?_
  show own_Ends p.tables e below _ (T6.setTop (mkF m 45 #[.val (.long q0), .second, .val (.int p1), .val (.long q2), .second, .val (.int p3), .val (.int (Int32.ofNat np)), .val (.ref b1), .val (.ref b2), .val (.ref b5), .unset, .unset, .unset, .unset, .unset, .unset] [(.long (-1 : Int64)), (.long q0)]))
  refine own_step (fun _ k => XS.lcmp X6.here hx rfl (hb hby at_45) rfl k) ?_
  show own_Ends p.tables e below _ (T6.setTop (mkF m 46 #[.val (.long q0), .second, .val (.int p1), .val (.long q2), .second, .val (.int p3), .val (.int (Int32.ofNat np)), .val (.ref b1), .val (.ref b2), .val (.ref b5), .unset, .unset, .unset, .unset, .unset, .unset] [(.int (lcmpW q0 (-1 : Int64)))]))
  by_cases hc46 : q0 = (-1 : Int64)
  · refine own_step (fun _ k => XS.ifNo X6.here hx rfl (hb hby at_46) rfl ((if0 _ _).trans (teq ((own_lc_eq _ _).mpr hc46)).2) k) ?_
    show own_Ends p.tables e below _ (T6.setTop (mkF m 49 #[.val (.long q0), .second, .val (.int p1), .val (.long q2), .second, .val (.int p3), .val (.int (Int32.ofNat np)), .val (.ref b1), .val (.ref b2), .val (.ref b5), .unset, .unset, .unset, .unset, .unset, .unset] []))
    refine own_step (fun _ k => XS.iconst X6.here hx rfl (hb hby at_49) k) ?_
    show own_Ends p.tables e below _ (T6.setTop (mkF m 50 #[.val (.long q0), .second, .val (.int p1), .val (.long q2), .second, .val (.int p3), .val (.int (Int32.ofNat np)), .val (.ref b1), .val (.ref b2), .val (.ref b5), .unset, .unset, .unset, .unset, .unset, .unset] [(.int (1 : Int32))]))
    refine own_step (fun _ k => XS.goto X6.here hx rfl (pc0 := 50) (pc' := 54) rfl (hb hby at_50) (by decide) (by decide) k) ?_
    show own_Ends p.tables e below _ (T6.setTop (mkF m 54 #[.val (.long q0), .second, .val (.int p1), .val (.long q2), .second, .val (.int p3), .val (.int (Int32.ofNat np)), .val (.ref b1), .val (.ref b2), .val (.ref b5), .unset, .unset, .unset, .unset, .unset, .unset] [(.int (1 : Int32))]))
    refine own_step (fun _ k => XS.istore X6.here hx rfl (hb hby at_54) rfl (l' := #[.val (.long q0), .second, .val (.int p1), .val (.long q2), .second, .val (.int p3), .val (.int (Int32.ofNat np)), .val (.ref b1), .val (.ref b2), .val (.ref b5), .val (.int (1 : Int32)), .unset, .unset, .unset, .unset, .unset]) rfl k) ?_
    show own_Ends p.tables e below _ (T6.setTop (mkF m 56 #[.val (.long q0), .second, .val (.int p1), .val (.long q2), .second, .val (.int p3), .val (.int (Int32.ofNat np)), .val (.ref b1), .val (.ref b2), .val (.ref b5), .val (.int (1 : Int32)), .unset, .unset, .unset, .unset, .unset] []))
    refine own_step (fun _ k => XS.iload X6.here hx rfl (hb hby at_56) rfl k) ?_
    show own_Ends p.tables e below _ (T6.setTop (mkF m 58 #[.val (.long q0), .second, .val (.int p1), .val (.long q2), .second, .val (.int p3), .val (.int (Int32.ofNat np)), .val (.ref b1), .val (.ref b2), .val (.ref b5), .val (.int (1 : Int32)), .unset, .unset, .unset, .unset, .unset] [(.int (1 : Int32))]))
    refine own_step (fun _ k => XS.ifNo X6.here hx rfl (hb hby at_58) rfl ((if0 _ _).trans (feq (by decide)).1) k) ?_
    show own_Ends p.tables e below _ (T6.setTop (mkF m 61 #[.val (.long q0), .second, .val (.int p1), .val (.long q2), .second, .val (.int p3), .val (.int (Int32.ofNat np)), .val (.ref b1), .val (.ref b2), .val (.ref b5), .val (.int (1 : Int32)), .unset, .unset, .unset, .unset, .unset] []))
    obtain ⟨T7, X7, e7, st7⟩ := getS2 X6 hx hZ hown (host := "") (Or.inl (hw _ (List.mem_of_getElem? (i := 98) rfl))) Via.refl rfl S_L_6 (g := (mkF m 61 #[.val (.long q0), .second, .val (.int p1), .val (.long q2), .second, .val (.int p3), .val (.int (Int32.ofNat np)), .val (.ref b1), .val (.ref b2), .val (.ref b5), .val (.int (1 : Int32)), .unset, .unset, .unset, .unset, .unset] [])) rfl (hb hby at_61)
    refine own_step st7 ?_
    show own_Ends p.tables e below _ (T7.setTop (mkF m 64 #[.val (.long q0), .second, .val (.int p1), .val (.long q2), .second, .val (.int p3), .val (.int (Int32.ofNat np)), .val (.ref b1), .val (.ref b2), .val (.ref b5), .val (.int (1 : Int32)), .unset, .unset, .unset, .unset, .unset] [(.ref lw)]))
    refine own_step (fun _ k => XS.goto X7.here hx rfl (pc0 := 64) (pc' := 69) rfl (hb hby at_64) (by decide) (by decide) k) ?_
    show own_Ends p.tables e below _ (T7.setTop (mkF m 69 #[.val (.long q0), .second, .val (.int p1), .val (.long q2), .second, .val (.int p3), .val (.int (Int32.ofNat np)), .val (.ref b1), .val (.ref b2), .val (.ref b5), .val (.int (1 : Int32)), .unset, .unset, .unset, .unset, .unset] [(.ref lw)]))
    refine own_step (fun _ k => XS.astore X7.here hx rfl (hb hby at_69) rfl rfl (l' := #[.val (.long q0), .second, .val (.int p1), .val (.long q2), .second, .val (.int p3), .val (.int (Int32.ofNat np)), .val (.ref b1), .val (.ref b2), .val (.ref b5), .val (.int (1 : Int32)), .val (.ref lw), .unset, .unset, .unset, .unset]) rfl k) ?_
    show own_Ends p.tables e below _ (T7.setTop (mkF m 71 #[.val (.long q0), .second, .val (.int p1), .val (.long q2), .second, .val (.int p3), .val (.int (Int32.ofNat np)), .val (.ref b1), .val (.ref b2), .val (.ref b5), .val (.int (1 : Int32)), .val (.ref lw), .unset, .unset, .unset, .unset] []))
    obtain ⟨T8, h8, X8, e8, E8, A8, D8, -, st8⟩ := newO X7 hx hZ hown (hw _ (List.mem_of_getElem? (i := 16) rfl)) (hw _ (List.mem_of_getElem? (i := 17) rfl)) (hw _ (List.mem_of_getElem? (i := 18) rfl)) e7 (g := (mkF m 71 #[.val (.long q0), .second, .val (.int p1), .val (.long q2), .second, .val (.int p3), .val (.int (Int32.ofNat np)), .val (.ref b1), .val (.ref b2), .val (.ref b5), .val (.int (1 : Int32)), .val (.ref lw), .unset, .unset, .unset, .unset] [])) rfl (hb hby at_71) (by decide) (by decide)
    obtain ⟨b8, g8⟩ : ∃ z, z = T6.heap.size := ⟨_, rfl⟩
    rw [← g8] at A8 D8 st8
    refine own_step st8 ?_
    have ne_lw_b8 : lw ≠ b8 := Nat.ne_of_lt (Nat.lt_of_lt_of_le E_lw_6.lt (Nat.le_of_eq g8.symm))
    have ne_lp_b8 : lp ≠ b8 := Nat.ne_of_lt (Nat.lt_of_lt_of_le V_lp_6.lt (Nat.le_of_eq g8.symm))
    have ne_b1_b8 : b1 ≠ b8 := Nat.ne_of_lt (Nat.lt_of_lt_of_le V_b1_6.lt (Nat.le_of_eq g8.symm))
    have ne_b2_b8 : b2 ≠ b8 := Nat.ne_of_lt (Nat.lt_of_lt_of_le A2_6.lt (Nat.le_of_eq g8.symm))
    have ne_b3_b8 : b3 ≠ b8 := Nat.ne_of_lt (Nat.lt_of_lt_of_le V_b3_6.lt (Nat.le_of_eq g8.symm))
    have ne_b5_b8 : b5 ≠ b8 := Nat.ne_of_lt (Nat.lt_of_lt_of_le A5_6.lt (Nat.le_of_eq g8.symm))
    have g_b8 : n0 ≤ b8 := Nat.le_trans Z_6 (Nat.le_of_eq g8.symm)
    have sz_b8 : h0.size ≤ b8 := Nat.le_trans K_6.1 (Nat.le_of_eq g8.symm)
    have S_L_8 := S_L_6.ext E8
    have E_lw_8 := E_lw_6.ext E8
    have F_lt_8 := F_lt_6.ext E8
    have F_lp_8 := F_lp_6.ext E8
    have V_lp_8 := V_lp_6.ext E8
    have V_b1_8 := V_b1_6.ext E8
    have A2_8 := A2_6.ext E8
    have V_b3_8 := V_b3_6.ext E8
    have Ft4_8 := Ft4_6.ext E8
    have Fx4_8 := Fx4_6.ext E8
    have A5_8 := A5_6.ext E8
    have Ft6_8 := Ft6.ext E8
    have Fx6_8 := Fx6.ext E8
    have K_8 : Keep h0 h8 [] := K_6.ext E8
    have Z_8 : n0 ≤ h8.size := Nat.le_trans Z_6 E8.1
    have F_buffer_b8 : Fld Z h8 b8 "com/example/ketchup/ketchup/negentropy/MessageWriter" "buffer" "[B" .null := D8 (Or.inl (hw _ (List.mem_of_getElem? (i := 24) rfl))) (ty := (.array .byte)) (by decide)
    have F_size_b8 : Fld Z h8 b8 "com/example/ketchup/ketchup/negentropy/MessageWriter" "size" "I" (.int (0 : Int32)) := D8 (Or.inl (hw _ (List.mem_of_getElem? (i := 30) rfl))) (ty := .int) (by decide)
    have F_markedSize_b8 : Fld Z h8 b8 "com/example/ketchup/ketchup/negentropy/MessageWriter" "markedSize" "I" (.int (0 : Int32)) := D8 (Or.inl (hw _ (List.mem_of_getElem? (i := 41) rfl))) (ty := .int) (by decide)
    have F_previousTimestamp_b8 : Fld Z h8 b8 "com/example/ketchup/ketchup/negentropy/MessageWriter" "previousTimestamp" "J" (.long (0 : Int64)) := D8 (Or.inl (hw _ (List.mem_of_getElem? (i := 43) rfl))) (ty := .long) (by decide)
    have F_markedPreviousTimestamp_b8 : Fld Z h8 b8 "com/example/ketchup/ketchup/negentropy/MessageWriter" "markedPreviousTimestamp" "J" (.long (0 : Int64)) := D8 (Or.inl (hw _ (List.mem_of_getElem? (i := 45) rfl))) (ty := .long) (by decide)
    show own_Ends p.tables e below _ (T8.setTop (mkF m 74 #[.val (.long q0), .second, .val (.int p1), .val (.long q2), .second, .val (.int p3), .val (.int (Int32.ofNat np)), .val (.ref b1), .val (.ref b2), .val (.ref b5), .val (.int (1 : Int32)), .val (.ref lw), .unset, .unset, .unset, .unset] [(.ref b8)]))
    refine own_step (fun _ k => XS.dup X8.here hx rfl (hb hby at_74) rfl rfl k) ?_
    show own_Ends p.tables e below _ (T8.setTop (mkF m 75 #[.val (.long q0), .second, .val (.int p1), .val (.long q2), .second, .val (.int p3), .val (.int (Int32.ofNat np)), .val (.ref b1), .val (.ref b2), .val (.ref b5), .val (.int (1 : Int32)), .val (.ref lw), .unset, .unset, .unset, .unset] [(.ref b8), (.ref b8)]))
    obtain ⟨_, _, ⟨T9, L9, k9, n9⟩, -, X9, ⟨Lc9, hQ9, l9, y9, z9⟩, st9⟩ := X8.specialBack hx (y := (⟨"com/example/ketchup/ketchup/negentropy/MessageWriter", "<init>", "()V"⟩ : MethodName)) rfl hown (mvT hZ (hw _ (List.mem_of_getElem? (i := 19) rfl))) (mvT hZ (hw _ (List.mem_of_getElem? (i := 20) rfl))) (mvT hZ (hw _ (List.mem_of_getElem? (i := 21) rfl))) (by decide) (backOf (W := 1) (own_rm_winit l Z aw hw [] b8 h8 n0 Z_8 A8 F_buffer_b8 F_size_b8 F_previousTimestamp_b8 F_markedSize_b8 F_markedPreviousTimestamp_b8 g_b8) hZ (hw _ (List.mem_of_getElem? (i := 21) rfl)) (hw _ (List.mem_of_getElem? (i := 18) rfl)) (by decide) (by decide)) (g := (mkF m 75 #[.val (.long q0), .second, .val (.int p1), .val (.long q2), .second, .val (.int p3), .val (.int (Int32.ofNat np)), .val (.ref b1), .val (.ref b2), .val (.ref b5), .val (.int (1 : Int32)), .val (.ref lw), .unset, .unset, .unset, .unset] [(.ref b8), (.ref b8)])) rfl (by rw [hml]; rfl) (Steps.refl _) (a := b8) (argsL := []) (rest := [(.ref b8)]) (lenOf own_pd2 rfl) rfl (by show 2 * 0 + _ ≤ _; exact Nat.le_of_eq rfl) (hb hby at_75) (fun _ _ => ⟨rfl, e8, (by decide : 5 + 2 ≤ _), (by decide : 41 + 257 ≤ _)⟩)
    dsimp only [Pt.U, Pt.locs, Pt.cells, Pt.slots] at X9 l9 y9 z9 st9 hQ9
    subst l9 y9 z9
    obtain ⟨rfl, N9q, k9, bf9, kb9, vs9, ge9, hs9, new9, Fb9, Fz9, Fp9, Fm9, Fq9, Vb9, hvs9, hz9⟩ := hQ9
    have N_9 := Fr.app N_6 N9q
    have ne_lw_bf9 : lw ≠ bf9 := Nat.ne_of_lt (Nat.lt_of_lt_of_le E_lw_8.lt hs9)
    have ne_lp_bf9 : lp ≠ bf9 := Nat.ne_of_lt (Nat.lt_of_lt_of_le V_lp_8.lt hs9)
    have ne_b1_bf9 : b1 ≠ bf9 := Nat.ne_of_lt (Nat.lt_of_lt_of_le V_b1_8.lt hs9)
    have ne_b2_bf9 : b2 ≠ bf9 := Nat.ne_of_lt (Nat.lt_of_lt_of_le A2_8.lt hs9)
    have ne_b3_bf9 : b3 ≠ bf9 := Nat.ne_of_lt (Nat.lt_of_lt_of_le V_b3_8.lt hs9)
    have ne_b5_bf9 : b5 ≠ bf9 := Nat.ne_of_lt (Nat.lt_of_lt_of_le A5_8.lt hs9)
    have ne_b8_bf9 : b8 ≠ bf9 := Nat.ne_of_lt (Nat.lt_of_lt_of_le A8.lt hs9)
    have sz_bf9 : h0.size ≤ bf9 := Nat.le_trans K_8.1 hs9
    have S_L_9 := own_Sta_keep S_L_8 k9 (allS (own_ns_exa A8) all0)
    have E_lw_9 := E_lw_8.keep k9
    have F_lt_9 := F_lt_8.keep k9 (ninS ne_lw_b8 nin0)
    have F_lp_9 := F_lp_8.keep k9 (ninS ne_lw_b8 nin0)
    have V_lp_9 := V_lp_8.keep k9 (ninS ne_lp_b8 nin0)
    have V_b1_9 := V_b1_8.keep k9 (ninS ne_b1_b8 nin0)
    have A2_9 := A2_8.keep k9
    have V_b3_9 := V_b3_8.keep k9 (ninS ne_b3_b8 nin0)
    have Ft4_9 := Ft4_8.keep k9 (ninS ne_b2_b8 nin0)
    have Fx4_9 := Fx4_8.keep k9 (ninS ne_b2_b8 nin0)
    have A5_9 := A5_8.keep k9
    have Ft6_9 := Ft6_8.keep k9 (ninS ne_b5_b8 nin0)
    have Fx6_9 := Fx6_8.keep k9 (ninS ne_b5_b8 nin0)
    have A8_9 := A8.keep k9
    have K_9 : Keep h0 T9.heap [] := K_8.trans k9 (allS (Or.inr sz_b8) all0)
    have Z_9 : n0 ≤ T9.heap.size := Nat.le_trans Z_8 k9.1
    refine own_step (fun _ k => st9.trans k) ?_
    show own_Ends p.tables e below _ (T9.setTop (mkF m 78 #[.val (.long q0), .second, .val (.int p1), .val (.long q2), .second, .val (.int p3), .val (.int (Int32.ofNat np)), .val (.ref b1), .val (.ref b2), .val (.ref b5), .val (.int (1 : Int32)), .val (.ref lw), .unset, .unset, .unset, .unset] [(.ref b8)]))
    refine own_step (fun _ k => XS.astore X9.here hx rfl (hb hby at_78) rfl rfl (l' := #[.val (.long q0), .second, .val (.int p1), .val (.long q2), .second, .val (.int p3), .val (.int (Int32.ofNat np)), .val (.ref b1), .val (.ref b2), .val (.ref b5), .val (.int (1 : Int32)), .val (.ref lw), .val (.ref b8), .unset, .unset, .unset]) rfl k) ?_
    show own_Ends p.tables e below _ (T9.setTop (mkF m 80 #[.val (.long q0), .second, .val (.int p1), .val (.long q2), .second, .val (.int p3), .val (.int (Int32.ofNat np)), .val (.ref b1), .val (.ref b2), .val (.ref b5), .val (.int (1 : Int32)), .val (.ref lw), .val (.ref b8), .unset, .unset, .unset] []))
    refine own_step (fun _ k => XS.aload X9.here hx rfl (hb hby at_80) rfl rfl k) ?_
    show own_Ends p.tables e below _ (T9.setTop (mkF m 82 #[.val (.long q0), .second, .val (.int p1), .val (.long q2), .second, .val (.int p3), .val (.int (Int32.ofNat np)), .val (.ref b1), .val (.ref b2), .val (.ref b5), .val (.int (1 : Int32)), .val (.ref lw), .val (.ref b8), .unset, .unset, .unset] [(.ref b8)]))
    refine own_step (fun _ k => XS.aload X9.here hx rfl (hb hby at_82) rfl rfl k) ?_
    show own_Ends p.tables e below _ (T9.setTop (mkF m 84 #[.val (.long q0), .second, .val (.int p1), .val (.long q2), .second, .val (.int p3), .val (.int (Int32.ofNat np)), .val (.ref b1), .val (.ref b2), .val (.ref b5), .val (.int (1 : Int32)), .val (.ref lw), .val (.ref b8), .unset, .unset, .unset] [(.ref b2), (.ref b8)]))
    obtain ⟨cq10, kq10, q10a, q10b, q10c⟩ := isOf hZ rfl A8_9
    obtain ⟨_, _, ⟨T10, L10, k10, n10⟩, -, X10, ⟨Lc10, hQ10, l10, y10, z10⟩, st10⟩ := X9.virtualBack hx (y := (⟨"com/example/ketchup/ketchup/negentropy/MessageWriter", "writeBound", "(Lcom/example/ketchup/ketchup/negentropy/Bound;)V"⟩ : MethodName)) (z := (⟨"com/example/ketchup/ketchup/negentropy/MessageWriter", "writeBound", "(Lcom/example/ketchup/ketchup/negentropy/Bound;)V"⟩ : MethodName)) hown (mvT hZ (hw _ (List.mem_of_getElem? (i := 46) rfl))) (mvT hZ (hw _ (List.mem_of_getElem? (i := 47) rfl))) (notFace_of_selects (args := #[]) (mvT hZ (hw _ (List.mem_of_getElem? (i := 49) rfl)))) (mvT hZ (hw _ (List.mem_of_getElem? (i := 49) rfl))) (mvT hZ (hw _ (List.mem_of_getElem? (i := 48) rfl))) (by decide) (backOf (W := 0) (own_rm_writeBound l Z aw hw [] b8 b2 bf9 kb9 vs9 1 (0 : Int64) (Int32.ofNat 1) (0 : Int64) q0 b3 k3 0 (List.replicate 0 (.int (0 : Int32))) T9.heap n0 Z_9 A8_9 Fb9 Fz9 Fp9 Fm9 Fq9 Vb9 hvs9 new9 g_b8 ge9 A2_9 Ft4_9 Fx4_9 V_b3_9 (Ne.symm ne_b2_b8) (Ne.symm ne_b2_bf9) (Ne.symm ne_b3_b8) (Ne.symm ne_b3_bf9) ne_b2_b3 (by omega) (by omega)) hZ (hw _ (List.mem_of_getElem? (i := 50) rfl)) (hw _ (List.mem_of_getElem? (i := 18) rfl)) (by decide) (by decide)) q10a q10c (g := (mkF m 84 #[.val (.long q0), .second, .val (.int p1), .val (.long q2), .second, .val (.int p3), .val (.int (Int32.ofNat np)), .val (.ref b1), .val (.ref b2), .val (.ref b5), .val (.int (1 : Int32)), .val (.ref lw), .val (.ref b8), .unset, .unset, .unset] [(.ref b2), (.ref b8)])) rfl (by rw [hml]; rfl) (Steps.refl _) (argsL := [(.ref b2)]) (rest := []) (lenOf own_pd9 rfl) rfl (by show 2 * 0 + _ ≤ _; exact Nat.le_of_eq rfl) (hb hby at_84) (fun _ _ => ⟨rfl, rfl, (by decide : 7 + 4 ≤ _), (by decide : 298 + 40 ≤ _)⟩)
    dsimp only [Pt.U, Pt.locs, Pt.cells, Pt.slots] at X10 l10 y10 z10 st10 hQ10
    subst l10 y10 z10
    obtain ⟨rfl, N10q, k10, n110, vs10, hl110, hu110, Fb10, Fz10, Fp10, Fm10, Fq10, Vb10, hvs10, hlo10, hsm10⟩ := hQ10
    have N_10 := Fr.app N_9 N10q
    have S_L_10 := own_Sta_keep S_L_9 k10 (allS (own_ns_exa A8_9) (allS (own_ns_arv Vb9) all0))
    have E_lw_10 := E_lw_9.keep k10
    have F_lt_10 := F_lt_9.keep k10 (ninS ne_lw_b8 (ninS ne_lw_bf9 nin0))
    have F_lp_10 := F_lp_9.keep k10 (ninS ne_lw_b8 (ninS ne_lw_bf9 nin0))
    have V_lp_10 := V_lp_9.keep k10 (ninS ne_lp_b8 (ninS ne_lp_bf9 nin0))
    have V_b1_10 := V_b1_9.keep k10 (ninS ne_b1_b8 (ninS ne_b1_bf9 nin0))
    have A2_10 := A2_9.keep k10
    have V_b3_10 := V_b3_9.keep k10 (ninS ne_b3_b8 (ninS ne_b3_bf9 nin0))
    have Ft4_10 := Ft4_9.keep k10 (ninS ne_b2_b8 (ninS ne_b2_bf9 nin0))
    have Fx4_10 := Fx4_9.keep k10 (ninS ne_b2_b8 (ninS ne_b2_bf9 nin0))
    have A5_10 := A5_9.keep k10
    have Ft6_10 := Ft6_9.keep k10 (ninS ne_b5_b8 (ninS ne_b5_bf9 nin0))
    have Fx6_10 := Fx6_9.keep k10 (ninS ne_b5_b8 (ninS ne_b5_bf9 nin0))
    have A8_10 := A8_9.keep k10
    have K_10 : Keep h0 T10.heap [] := K_9.trans k10 (allS (Or.inr sz_b8) (allS (Or.inr sz_bf9) all0))
    have Z_10 : n0 ≤ T10.heap.size := Nat.le_trans Z_9 k10.1
    refine own_step (fun _ k => st10.trans k) ?_
    show own_Ends p.tables e below _ (T10.setTop (mkF m 87 #[.val (.long q0), .second, .val (.int p1), .val (.long q2), .second, .val (.int p3), .val (.int (Int32.ofNat np)), .val (.ref b1), .val (.ref b2), .val (.ref b5), .val (.int (1 : Int32)), .val (.ref lw), .val (.ref b8), .unset, .unset, .unset] []))
    refine own_step (fun _ k => XS.aload X10.here hx rfl (hb hby at_87) rfl rfl k) ?_
    show own_Ends p.tables e below _ (T10.setTop (mkF m 89 #[.val (.long q0), .second, .val (.int p1), .val (.long q2), .second, .val (.int p3), .val (.int (Int32.ofNat np)), .val (.ref b1), .val (.ref b2), .val (.ref b5), .val (.int (1 : Int32)), .val (.ref lw), .val (.ref b8), .unset, .unset, .unset] [(.ref b8)]))
    refine own_step (fun _ k => XS.iloadN X10.here hx rfl (hb hby at_89) rfl k) ?_
    show own_Ends p.tables e below _ (T10.setTop (mkF m 90 #[.val (.long q0), .second, .val (.int p1), .val (.long q2), .second, .val (.int p3), .val (.int (Int32.ofNat np)), .val (.ref b1), .val (.ref b2), .val (.ref b5), .val (.int (1 : Int32)), .val (.ref lw), .val (.ref b8), .unset, .unset, .unset] [(.int p1), (.ref b8)]))
    obtain ⟨cq11, kq11, q11a, q11b, q11c⟩ := isOf hZ rfl A8_10
    obtain ⟨_, _, ⟨T11, L11, k11, n11⟩, -, X11, ⟨Lc11, hQ11, l11, y11, z11⟩, st11⟩ := X10.virtualBack hx (y := (⟨"com/example/ketchup/ketchup/negentropy/MessageWriter", "writeCount", "(I)V"⟩ : MethodName)) (z := (⟨"com/example/ketchup/ketchup/negentropy/MessageWriter", "writeCount", "(I)V"⟩ : MethodName)) hown (mvT hZ (hw _ (List.mem_of_getElem? (i := 68) rfl))) (mvT hZ (hw _ (List.mem_of_getElem? (i := 69) rfl))) (notFace_of_selects (args := #[]) (mvT hZ (hw _ (List.mem_of_getElem? (i := 71) rfl)))) (mvT hZ (hw _ (List.mem_of_getElem? (i := 71) rfl))) (mvT hZ (hw _ (List.mem_of_getElem? (i := 70) rfl))) (by decide) (backOf (W := 0) (own_rm_writeCount l Z aw hw [] b8 p1 bf9 kb9 vs10 (1 + n110 + 1 + 0) q0 (Int32.ofNat 1) (0 : Int64) T10.heap n0 Z_10 A8_10 Fb10 Fz10 Fp10 Fm10 Fq10 Vb10 hvs10 new9 g_b8 ge9 (by omega)) hZ (hw _ (List.mem_of_getElem? (i := 72) rfl)) (hw _ (List.mem_of_getElem? (i := 18) rfl)) (by decide) (by decide)) q11a q11c (g := (mkF m 90 #[.val (.long q0), .second, .val (.int p1), .val (.long q2), .second, .val (.int p3), .val (.int (Int32.ofNat np)), .val (.ref b1), .val (.ref b2), .val (.ref b5), .val (.int (1 : Int32)), .val (.ref lw), .val (.ref b8), .unset, .unset, .unset] [(.int p1), (.ref b8)])) rfl (by rw [hml]; rfl) (Steps.refl _) (argsL := [(.int p1)]) (rest := []) (lenOf own_pd10 rfl) rfl (by show 2 * 0 + _ ≤ _; exact Nat.le_of_eq rfl) (hb hby at_90) (fun _ _ => ⟨rfl, rfl, (by decide : 11 + 2 ≤ _), (by decide : 338 + 20 ≤ _)⟩)
    dsimp only [Pt.U, Pt.locs, Pt.cells, Pt.slots] at X11 l11 y11 z11 st11 hQ11
    subst l11 y11 z11
    obtain ⟨rfl, N11q, k11, n111, vs11, hl111, hu111, Fb11, Fz11, Fp11, Fm11, Fq11, Vb11, hvs11⟩ := hQ11
    have N_11 := Fr.app N_10 N11q
    have S_L_11 := own_Sta_keep S_L_10 k11 (allS (own_ns_exa A8_10) (allS (own_ns_arv Vb10) all0))
    have E_lw_11 := E_lw_10.keep k11
    have F_lt_11 := F_lt_10.keep k11 (ninS ne_lw_b8 (ninS ne_lw_bf9 nin0))
    have F_lp_11 := F_lp_10.keep k11 (ninS ne_lw_b8 (ninS ne_lw_bf9 nin0))
    have V_lp_11 := V_lp_10.keep k11 (ninS ne_lp_b8 (ninS ne_lp_bf9 nin0))
    have V_b1_11 := V_b1_10.keep k11 (ninS ne_b1_b8 (ninS ne_b1_bf9 nin0))
    have A2_11 := A2_10.keep k11
    have V_b3_11 := V_b3_10.keep k11 (ninS ne_b3_b8 (ninS ne_b3_bf9 nin0))
    have Ft4_11 := Ft4_10.keep k11 (ninS ne_b2_b8 (ninS ne_b2_bf9 nin0))
    have Fx4_11 := Fx4_10.keep k11 (ninS ne_b2_b8 (ninS ne_b2_bf9 nin0))
    have A5_11 := A5_10.keep k11
    have Ft6_11 := Ft6_10.keep k11 (ninS ne_b5_b8 (ninS ne_b5_bf9 nin0))
    have Fx6_11 := Fx6_10.keep k11 (ninS ne_b5_b8 (ninS ne_b5_bf9 nin0))
    have A8_11 := A8_10.keep k11
    have K_11 : Keep h0 T11.heap [] := K_10.trans k11 (allS (Or.inr sz_b8) (allS (Or.inr sz_bf9) all0))
    have Z_11 : n0 ≤ T11.heap.size := Nat.le_trans Z_10 k11.1
    obtain ⟨sz, hsz⟩ : ∃ z, z = (1 + n110 + 1 + 0) + n111 := ⟨_, rfl⟩
    rw [← hsz] at Fz11
    have hsz2 : sz ≤ 30 := by omega
    refine own_step (fun _ k => st11.trans k) ?_
    show own_Ends p.tables e below _ (T11.setTop (mkF m 93 #[.val (.long q0), .second, .val (.int p1), .val (.long q2), .second, .val (.int p3), .val (.int (Int32.ofNat np)), .val (.ref b1), .val (.ref b2), .val (.ref b5), .val (.int (1 : Int32)), .val (.ref lw), .val (.ref b8), .unset, .unset, .unset] []))
    refine own_step (fun _ k => XS.aload X11.here hx rfl (hb hby at_93) rfl rfl k) ?_
    show own_Ends p.tables e below _ (T11.setTop (mkF m 95 #[.val (.long q0), .second, .val (.int p1), .val (.long q2), .second, .val (.int p3), .val (.int (Int32.ofNat np)), .val (.ref b1), .val (.ref b2), .val (.ref b5), .val (.int (1 : Int32)), .val (.ref lw), .val (.ref b8), .unset, .unset, .unset] [(.ref b8)]))
    obtain ⟨cq12, kq12, q12a, q12b, q12c⟩ := isOf hZ rfl A8_11
    obtain ⟨_, _, ⟨T12, L12, k12, n12⟩, -, X12, ⟨Lc12, hQ12, l12, y12, z12⟩, st12⟩ := X11.virtualBack hx (y := (⟨"com/example/ketchup/ketchup/negentropy/MessageWriter", "mark", "()V"⟩ : MethodName)) (z := (⟨"com/example/ketchup/ketchup/negentropy/MessageWriter", "mark", "()V"⟩ : MethodName)) hown (mvT hZ (hw _ (List.mem_of_getElem? (i := 73) rfl))) (mvT hZ (hw _ (List.mem_of_getElem? (i := 36) rfl))) (notFace_of_selects (args := #[]) (mvT hZ (hw _ (List.mem_of_getElem? (i := 38) rfl)))) (mvT hZ (hw _ (List.mem_of_getElem? (i := 38) rfl))) (mvT hZ (hw _ (List.mem_of_getElem? (i := 37) rfl))) (by decide) (backOf (W := 0) (own_rm_mark l Z aw hw [] b8 bf9 kb9 vs11 sz q0 (Int32.ofNat 1) (0 : Int64) T11.heap n0 Z_11 A8_11 Fb11 Fz11 Fp11 Fm11 Fq11 Vb11 hvs11 new9 g_b8 ge9) hZ (hw _ (List.mem_of_getElem? (i := 39) rfl)) (hw _ (List.mem_of_getElem? (i := 18) rfl)) (by decide) (by decide)) q12a q12c (g := (mkF m 95 #[.val (.long q0), .second, .val (.int p1), .val (.long q2), .second, .val (.int p3), .val (.int (Int32.ofNat np)), .val (.ref b1), .val (.ref b2), .val (.ref b5), .val (.int (1 : Int32)), .val (.ref lw), .val (.ref b8), .unset, .unset, .unset] [(.ref b8)])) rfl (by rw [hml]; rfl) (Steps.refl _) (argsL := []) (rest := []) (lenOf own_pd2 rfl) rfl (by show 2 * 0 + _ ≤ _; exact Nat.le_of_eq rfl) (hb hby at_95) (fun _ _ => ⟨rfl, rfl, (by decide : 13 + 0 ≤ _), (by decide : 358 + 0 ≤ _)⟩)
    dsimp only [Pt.U, Pt.locs, Pt.cells, Pt.slots] at X12 l12 y12 z12 st12 hQ12
    subst l12 y12 z12
    obtain ⟨rfl, N12q, k12, Fb12, Fz12, Fp12, Fm12, Fq12⟩ := hQ12
    have N_12 := Fr.app N_11 N12q
    have S_L_12 := own_Sta_keep S_L_11 k12 (allS (own_ns_exa A8_11) all0)
    have E_lw_12 := E_lw_11.keep k12
    have F_lt_12 := F_lt_11.keep k12 (ninS ne_lw_b8 nin0)
    have F_lp_12 := F_lp_11.keep k12 (ninS ne_lw_b8 nin0)
    have V_lp_12 := V_lp_11.keep k12 (ninS ne_lp_b8 nin0)
    have V_b1_12 := V_b1_11.keep k12 (ninS ne_b1_b8 nin0)
    have A2_12 := A2_11.keep k12
    have V_b3_12 := V_b3_11.keep k12 (ninS ne_b3_b8 nin0)
    have Ft4_12 := Ft4_11.keep k12 (ninS ne_b2_b8 nin0)
    have Fx4_12 := Fx4_11.keep k12 (ninS ne_b2_b8 nin0)
    have A5_12 := A5_11.keep k12
    have Ft6_12 := Ft6_11.keep k12 (ninS ne_b5_b8 nin0)
    have Fx6_12 := Fx6_11.keep k12 (ninS ne_b5_b8 nin0)
    have A8_12 := A8_11.keep k12
    have Vb11_12 := Vb11.keep k12 (ninS (Ne.symm new9) nin0)
    have K_12 : Keep h0 T12.heap [] := K_11.trans k12 (allS (Or.inr sz_b8) all0)
    have Z_12 : n0 ≤ T12.heap.size := Nat.le_trans Z_11 k12.1
    refine own_step (fun _ k => st12.trans k) ?_
    show own_Ends p.tables e below _ (T12.setTop (mkF m 98 #[.val (.long q0), .second, .val (.int p1), .val (.long q2), .second, .val (.int p3), .val (.int (Int32.ofNat np)), .val (.ref b1), .val (.ref b2), .val (.ref b5), .val (.int (1 : Int32)), .val (.ref lw), .val (.ref b8), .unset, .unset, .unset] []))
    refine own_step (fun _ k => XS.aload X12.here hx rfl (hb hby at_98) rfl rfl k) ?_
    show own_Ends p.tables e below _ (T12.setTop (mkF m 100 #[.val (.long q0), .second, .val (.int p1), .val (.long q2), .second, .val (.int p3), .val (.int (Int32.ofNat np)), .val (.ref b1), .val (.ref b2), .val (.ref b5), .val (.int (1 : Int32)), .val (.ref lw), .val (.ref b8), .unset, .unset, .unset] [(.ref b8)]))
    obtain ⟨cq13, kq13, q13a, q13b, q13c⟩ := isOf hZ rfl A8_12
    obtain ⟨_, _, ⟨T13, L13, k13, n13⟩, -, X13, ⟨Lc13, hQ13, l13, y13, z13⟩, st13⟩ := X12.virtualBack hx (y := (⟨"com/example/ketchup/ketchup/negentropy/MessageWriter", "size", "()I"⟩ : MethodName)) (z := (⟨"com/example/ketchup/ketchup/negentropy/MessageWriter", "size", "()I"⟩ : MethodName)) hown (mvT hZ (hw _ (List.mem_of_getElem? (i := 74) rfl))) (mvT hZ (hw _ (List.mem_of_getElem? (i := 75) rfl))) (notFace_of_selects (args := #[]) (mvT hZ (hw _ (List.mem_of_getElem? (i := 77) rfl)))) (mvT hZ (hw _ (List.mem_of_getElem? (i := 77) rfl))) (mvT hZ (hw _ (List.mem_of_getElem? (i := 76) rfl))) (by decide) (backOf (W := 0) (own_rm_size l Z aw hw [] b8 (Int32.ofNat sz) T12.heap n0 Z_12 Fz12) hZ (hw _ (List.mem_of_getElem? (i := 78) rfl)) (hw _ (List.mem_of_getElem? (i := 18) rfl)) (by decide) (by decide)) q13a q13c (g := (mkF m 100 #[.val (.long q0), .second, .val (.int p1), .val (.long q2), .second, .val (.int p3), .val (.int (Int32.ofNat np)), .val (.ref b1), .val (.ref b2), .val (.ref b5), .val (.int (1 : Int32)), .val (.ref lw), .val (.ref b8), .unset, .unset, .unset] [(.ref b8)])) rfl (by rw [hml]; rfl) (Steps.refl _) (argsL := []) (rest := []) (lenOf own_pd11 rfl) rfl (by show 2 * 0 + _ ≤ _; exact Nat.le_of_eq rfl) (hb hby at_100) (fun _ _ => ⟨rfl, rfl, (by decide : 13 + 0 ≤ _), (by decide : 358 + 0 ≤ _)⟩)
    dsimp only [Pt.U, Pt.locs, Pt.cells, Pt.slots] at X13 l13 y13 z13 st13 hQ13
    subst l13 y13 z13
    obtain ⟨rfl, N13q, e13⟩ := hQ13
    have N_13 := Fr.app N_12 N13q
    refine own_step (fun _ k => st13.trans k) ?_
    show own_Ends p.tables e below _ (T13.setTop (mkF m 103 #[.val (.long q0), .second, .val (.int p1), .val (.long q2), .second, .val (.int p3), .val (.int (Int32.ofNat np)), .val (.ref b1), .val (.ref b2), .val (.ref b5), .val (.int (1 : Int32)), .val (.ref lw), .val (.ref b8), .unset, .unset, .unset] [(.int (Int32.ofNat sz))]))
    refine own_step (fun _ k => XS.istore X13.here hx rfl (hb hby at_103) rfl (l' := #[.val (.long q0), .second, .val (.int p1), .val (.long q2), .second, .val (.int p3), .val (.int (Int32.ofNat np)), .val (.ref b1), .val (.ref b2), .val (.ref b5), .val (.int (1 : Int32)), .val (.ref lw), .val (.ref b8), .val (.int (Int32.ofNat sz)), .unset, .unset]) rfl k) ?_
    show own_Ends p.tables e below _ (T13.setTop (mkF m 105 #[.val (.long q0), .second, .val (.int p1), .val (.long q2), .second, .val (.int p3), .val (.int (Int32.ofNat np)), .val (.ref b1), .val (.ref b2), .val (.ref b5), .val (.int (1 : Int32)), .val (.ref lw), .val (.ref b8), .val (.int (Int32.ofNat sz)), .unset, .unset] []))
    refine own_step (fun _ k => XS.aload X13.here hx rfl (hb hby at_105) rfl rfl k) ?_
    show own_Ends p.tables e below _ (T13.setTop (mkF m 107 #[.val (.long q0), .second, .val (.int p1), .val (.long q2), .second, .val (.int p3), .val (.int (Int32.ofNat np)), .val (.ref b1), .val (.ref b2), .val (.ref b5), .val (.int (1 : Int32)), .val (.ref lw), .val (.ref b8), .val (.int (Int32.ofNat sz)), .unset, .unset] [(.ref b8)]))
    refine own_step (fun _ k => XS.aload X13.here hx rfl (hb hby at_107) rfl rfl k) ?_
    show own_Ends p.tables e below _ (T13.setTop (mkF m 109 #[.val (.long q0), .second, .val (.int p1), .val (.long q2), .second, .val (.int p3), .val (.int (Int32.ofNat np)), .val (.ref b1), .val (.ref b2), .val (.ref b5), .val (.int (1 : Int32)), .val (.ref lw), .val (.ref b8), .val (.int (Int32.ofNat sz)), .unset, .unset] [(.ref b5), (.ref b8)]))
    obtain ⟨cq14, kq14, q14a, q14b, q14c⟩ := isOf hZ e13 A8_12
    obtain ⟨_, _, ⟨T14, L14, k14, n14⟩, -, X14, ⟨Lc14, hQ14, l14, y14, z14⟩, st14⟩ := X13.virtualBack hx (y := (⟨"com/example/ketchup/ketchup/negentropy/MessageWriter", "writeBound", "(Lcom/example/ketchup/ketchup/negentropy/Bound;)V"⟩ : MethodName)) (z := (⟨"com/example/ketchup/ketchup/negentropy/MessageWriter", "writeBound", "(Lcom/example/ketchup/ketchup/negentropy/Bound;)V"⟩ : MethodName)) hown (mvT hZ (hw _ (List.mem_of_getElem? (i := 46) rfl))) (mvT hZ (hw _ (List.mem_of_getElem? (i := 47) rfl))) (notFace_of_selects (args := #[]) (mvT hZ (hw _ (List.mem_of_getElem? (i := 49) rfl)))) (mvT hZ (hw _ (List.mem_of_getElem? (i := 49) rfl))) (mvT hZ (hw _ (List.mem_of_getElem? (i := 48) rfl))) (by decide) (backOf (W := 0) (own_rm_writeBound l Z aw hw [] b8 b5 bf9 kb9 vs11 sz q0 (Int32.ofNat sz) q0 q2 b1 k1 np (List.replicate 32 (.int (0 : Int32))) T12.heap n0 Z_12 A8_12 Fb12 Fz12 Fp12 Fm12 Fq12 Vb11_12 hvs11 new9 g_b8 ge9 A5_12 Ft6_12 Fx6_12 V_b1_12 (Ne.symm ne_b5_b8) (Ne.symm ne_b5_bf9) (Ne.symm ne_b1_b8) (Ne.symm ne_b1_bf9) (Ne.symm ne_b1_b5) (by omega) (by omega)) hZ (hw _ (List.mem_of_getElem? (i := 50) rfl)) (hw _ (List.mem_of_getElem? (i := 18) rfl)) (by decide) (by decide)) q14a q14c (g := (mkF m 109 #[.val (.long q0), .second, .val (.int p1), .val (.long q2), .second, .val (.int p3), .val (.int (Int32.ofNat np)), .val (.ref b1), .val (.ref b2), .val (.ref b5), .val (.int (1 : Int32)), .val (.ref lw), .val (.ref b8), .val (.int (Int32.ofNat sz)), .unset, .unset] [(.ref b5), (.ref b8)])) rfl (by rw [hml]; rfl) (Steps.refl _) (argsL := [(.ref b5)]) (rest := []) (lenOf own_pd9 rfl) rfl (by show 2 * 0 + _ ≤ _; exact Nat.le_of_eq rfl) (hb hby at_109) (fun _ _ => ⟨rfl, e13, (by decide : 13 + 4 ≤ _), (by decide : 358 + 40 ≤ _)⟩)
    dsimp only [Pt.U, Pt.locs, Pt.cells, Pt.slots] at X14 l14 y14 z14 st14 hQ14
    subst l14 y14 z14
    obtain ⟨rfl, N14q, k14, n114, vs14, hl114, hu114, Fb14, Fz14, Fp14, Fm14, Fq14, Vb14, hvs14, hlo14, hsm14⟩ := hQ14
    have N_14 := Fr.app N_13 N14q
    have S_L_14 := own_Sta_keep S_L_12 k14 (allS (own_ns_exa A8_12) (allS (own_ns_arv Vb11_12) all0))
    have E_lw_14 := E_lw_12.keep k14
    have F_lt_14 := F_lt_12.keep k14 (ninS ne_lw_b8 (ninS ne_lw_bf9 nin0))
    have F_lp_14 := F_lp_12.keep k14 (ninS ne_lw_b8 (ninS ne_lw_bf9 nin0))
    have V_lp_14 := V_lp_12.keep k14 (ninS ne_lp_b8 (ninS ne_lp_bf9 nin0))
    have V_b1_14 := V_b1_12.keep k14 (ninS ne_b1_b8 (ninS ne_b1_bf9 nin0))
    have A2_14 := A2_12.keep k14
    have V_b3_14 := V_b3_12.keep k14 (ninS ne_b3_b8 (ninS ne_b3_bf9 nin0))
    have Ft4_14 := Ft4_12.keep k14 (ninS ne_b2_b8 (ninS ne_b2_bf9 nin0))
    have Fx4_14 := Fx4_12.keep k14 (ninS ne_b2_b8 (ninS ne_b2_bf9 nin0))
    have A5_14 := A5_12.keep k14
    have Ft6_14 := Ft6_12.keep k14 (ninS ne_b5_b8 (ninS ne_b5_bf9 nin0))
    have Fx6_14 := Fx6_12.keep k14 (ninS ne_b5_b8 (ninS ne_b5_bf9 nin0))
    have A8_14 := A8_12.keep k14
    have K_14 : Keep h0 T14.heap [] := K_12.trans k14 (allS (Or.inr sz_b8) (allS (Or.inr sz_bf9) all0))
    have Z_14 : n0 ≤ T14.heap.size := Nat.le_trans Z_12 k14.1
    refine own_step (fun _ k => st14.trans k) ?_
    show own_Ends p.tables e below _ (T14.setTop (mkF m 112 #[.val (.long q0), .second, .val (.int p1), .val (.long q2), .second, .val (.int p3), .val (.int (Int32.ofNat np)), .val (.ref b1), .val (.ref b2), .val (.ref b5), .val (.int (1 : Int32)), .val (.ref lw), .val (.ref b8), .val (.int (Int32.ofNat sz)), .unset, .unset] []))
    refine own_step (fun _ k => XS.aload X14.here hx rfl (hb hby at_112) rfl rfl k) ?_
    show own_Ends p.tables e below _ (T14.setTop (mkF m 114 #[.val (.long q0), .second, .val (.int p1), .val (.long q2), .second, .val (.int p3), .val (.int (Int32.ofNat np)), .val (.ref b1), .val (.ref b2), .val (.ref b5), .val (.int (1 : Int32)), .val (.ref lw), .val (.ref b8), .val (.int (Int32.ofNat sz)), .unset, .unset] [(.ref b8)]))
    obtain ⟨cq15, kq15, q15a, q15b, q15c⟩ := isOf hZ rfl A8_14
    obtain ⟨_, _, ⟨T15, L15, k15, n15⟩, -, X15, ⟨Lc15, hQ15, l15, y15, z15⟩, st15⟩ := X14.virtualBack hx (y := (⟨"com/example/ketchup/ketchup/negentropy/MessageWriter", "reset", "()V"⟩ : MethodName)) (z := (⟨"com/example/ketchup/ketchup/negentropy/MessageWriter", "reset", "()V"⟩ : MethodName)) hown (mvT hZ (hw _ (List.mem_of_getElem? (i := 79) rfl))) (mvT hZ (hw _ (List.mem_of_getElem? (i := 80) rfl))) (notFace_of_selects (args := #[]) (mvT hZ (hw _ (List.mem_of_getElem? (i := 82) rfl)))) (mvT hZ (hw _ (List.mem_of_getElem? (i := 82) rfl))) (mvT hZ (hw _ (List.mem_of_getElem? (i := 81) rfl))) (by decide) (backOf (W := 0) (own_rm_reset l Z aw hw [] b8 bf9 kb9 vs14 (sz + n114 + 1 + np) q2 (Int32.ofNat sz) q0 T14.heap n0 Z_14 A8_14 Fb14 Fz14 Fp14 Fm14 Fq14 Vb14 hvs14 new9 g_b8 ge9) hZ (hw _ (List.mem_of_getElem? (i := 83) rfl)) (hw _ (List.mem_of_getElem? (i := 18) rfl)) (by decide) (by decide)) q15a q15c (g := (mkF m 114 #[.val (.long q0), .second, .val (.int p1), .val (.long q2), .second, .val (.int p3), .val (.int (Int32.ofNat np)), .val (.ref b1), .val (.ref b2), .val (.ref b5), .val (.int (1 : Int32)), .val (.ref lw), .val (.ref b8), .val (.int (Int32.ofNat sz)), .unset, .unset] [(.ref b8)])) rfl (by rw [hml]; rfl) (Steps.refl _) (argsL := []) (rest := []) (lenOf own_pd2 rfl) rfl (by show 2 * 0 + _ ≤ _; exact Nat.le_of_eq rfl) (hb hby at_114) (fun _ _ => ⟨rfl, rfl, (by decide : 17 + 0 ≤ _), (by decide : 398 + 0 ≤ _)⟩)
    dsimp only [Pt.U, Pt.locs, Pt.cells, Pt.slots] at X15 l15 y15 z15 st15 hQ15
    subst l15 y15 z15
    obtain ⟨rfl, N15q, k15, Fb15, Fz15, Fp15, Fm15, Fq15⟩ := hQ15
    have N_15 := Fr.app N_14 N15q
    have S_L_15 := own_Sta_keep S_L_14 k15 (allS (own_ns_exa A8_14) all0)
    have E_lw_15 := E_lw_14.keep k15
    have F_lt_15 := F_lt_14.keep k15 (ninS ne_lw_b8 nin0)
    have F_lp_15 := F_lp_14.keep k15 (ninS ne_lw_b8 nin0)
    have V_lp_15 := V_lp_14.keep k15 (ninS ne_lp_b8 nin0)
    have V_b1_15 := V_b1_14.keep k15 (ninS ne_b1_b8 nin0)
    have A2_15 := A2_14.keep k15
    have V_b3_15 := V_b3_14.keep k15 (ninS ne_b3_b8 nin0)
    have Ft4_15 := Ft4_14.keep k15 (ninS ne_b2_b8 nin0)
    have Fx4_15 := Fx4_14.keep k15 (ninS ne_b2_b8 nin0)
    have A5_15 := A5_14.keep k15
    have Ft6_15 := Ft6_14.keep k15 (ninS ne_b5_b8 nin0)
    have Fx6_15 := Fx6_14.keep k15 (ninS ne_b5_b8 nin0)
    have A8_15 := A8_14.keep k15
    have Vb14_15 := Vb14.keep k15 (ninS (Ne.symm new9) nin0)
    have K_15 : Keep h0 T15.heap [] := K_14.trans k15 (allS (Or.inr sz_b8) all0)
    have Z_15 : n0 ≤ T15.heap.size := Nat.le_trans Z_14 k15.1
    refine own_step (fun _ k => st15.trans k) ?_
    show own_Ends p.tables e below _ (T15.setTop (mkF m 117 #[.val (.long q0), .second, .val (.int p1), .val (.long q2), .second, .val (.int p3), .val (.int (Int32.ofNat np)), .val (.ref b1), .val (.ref b2), .val (.ref b5), .val (.int (1 : Int32)), .val (.ref lw), .val (.ref b8), .val (.int (Int32.ofNat sz)), .unset, .unset] []))
    refine own_step (fun _ k => XS.aload X15.here hx rfl (hb hby at_117) rfl rfl k) ?_
    show own_Ends p.tables e below _ (T15.setTop (mkF m 119 #[.val (.long q0), .second, .val (.int p1), .val (.long q2), .second, .val (.int p3), .val (.int (Int32.ofNat np)), .val (.ref b1), .val (.ref b2), .val (.ref b5), .val (.int (1 : Int32)), .val (.ref lw), .val (.ref b8), .val (.int (Int32.ofNat sz)), .unset, .unset] [(.ref b8)]))
    refine own_step (fun _ k => XS.aload X15.here hx rfl (hb hby at_119) rfl rfl k) ?_
    show own_Ends p.tables e below _ (T15.setTop (mkF m 121 #[.val (.long q0), .second, .val (.int p1), .val (.long q2), .second, .val (.int p3), .val (.int (Int32.ofNat np)), .val (.ref b1), .val (.ref b2), .val (.ref b5), .val (.int (1 : Int32)), .val (.ref lw), .val (.ref b8), .val (.int (Int32.ofNat sz)), .unset, .unset] [(.ref lw), (.ref b8)]))
    obtain ⟨cq16, kq16, q16a, q16b, q16c⟩ := isOf hZ rfl A8_15
    obtain ⟨_, _, ⟨T16, L16, k16, n16⟩, -, X16, ⟨Lc16, hQ16, l16, y16, z16⟩, st16⟩ := X15.virtualBack hx (y := (⟨"com/example/ketchup/ketchup/negentropy/MessageWriter", "writeBound", "(Lcom/example/ketchup/ketchup/negentropy/Bound;)V"⟩ : MethodName)) (z := (⟨"com/example/ketchup/ketchup/negentropy/MessageWriter", "writeBound", "(Lcom/example/ketchup/ketchup/negentropy/Bound;)V"⟩ : MethodName)) hown (mvT hZ (hw _ (List.mem_of_getElem? (i := 46) rfl))) (mvT hZ (hw _ (List.mem_of_getElem? (i := 47) rfl))) (notFace_of_selects (args := #[]) (mvT hZ (hw _ (List.mem_of_getElem? (i := 49) rfl)))) (mvT hZ (hw _ (List.mem_of_getElem? (i := 49) rfl))) (mvT hZ (hw _ (List.mem_of_getElem? (i := 48) rfl))) (by decide) (backOf (W := 0) (own_rm_writeBound l Z aw hw [] b8 lw bf9 kb9 vs14 sz q0 (Int32.ofNat sz) q0 (0 : Int64) lp kl 0 ul T15.heap n0 Z_15 A8_15 Fb15 Fz15 Fp15 Fm15 Fq15 Vb14_15 hvs14 new9 g_b8 ge9 E_lw_15 F_lt_15 F_lp_15 V_lp_15 (Ne.symm ne_lw_b8) (Ne.symm ne_lw_bf9) (Ne.symm ne_lp_b8) (Ne.symm ne_lp_bf9) ne_wp (by omega) (by omega)) hZ (hw _ (List.mem_of_getElem? (i := 50) rfl)) (hw _ (List.mem_of_getElem? (i := 18) rfl)) (by decide) (by decide)) q16a q16c (g := (mkF m 121 #[.val (.long q0), .second, .val (.int p1), .val (.long q2), .second, .val (.int p3), .val (.int (Int32.ofNat np)), .val (.ref b1), .val (.ref b2), .val (.ref b5), .val (.int (1 : Int32)), .val (.ref lw), .val (.ref b8), .val (.int (Int32.ofNat sz)), .unset, .unset] [(.ref lw), (.ref b8)])) rfl (by rw [hml]; rfl) (Steps.refl _) (argsL := [(.ref lw)]) (rest := []) (lenOf own_pd9 rfl) rfl (by show 2 * 0 + _ ≤ _; exact Nat.le_of_eq rfl) (hb hby at_121) (fun _ _ => ⟨rfl, rfl, (by decide : 17 + 4 ≤ _), (by decide : 398 + 40 ≤ _)⟩)
    dsimp only [Pt.U, Pt.locs, Pt.cells, Pt.slots] at X16 l16 y16 z16 st16 hQ16
    subst l16 y16 z16
    obtain ⟨rfl, N16q, k16, n116, vs16, hl116, hu116, Fb16, Fz16, Fp16, Fm16, Fq16, Vb16, hvs16, hlo16, hsm16⟩ := hQ16
    have N_16 := Fr.app N_15 N16q
    have S_L_16 := own_Sta_keep S_L_15 k16 (allS (own_ns_exa A8_15) (allS (own_ns_arv Vb14_15) all0))
    have E_lw_16 := E_lw_15.keep k16
    have F_lt_16 := F_lt_15.keep k16 (ninS ne_lw_b8 (ninS ne_lw_bf9 nin0))
    have F_lp_16 := F_lp_15.keep k16 (ninS ne_lw_b8 (ninS ne_lw_bf9 nin0))
    have V_lp_16 := V_lp_15.keep k16 (ninS ne_lp_b8 (ninS ne_lp_bf9 nin0))
    have V_b1_16 := V_b1_15.keep k16 (ninS ne_b1_b8 (ninS ne_b1_bf9 nin0))
    have A2_16 := A2_15.keep k16
    have V_b3_16 := V_b3_15.keep k16 (ninS ne_b3_b8 (ninS ne_b3_bf9 nin0))
    have Ft4_16 := Ft4_15.keep k16 (ninS ne_b2_b8 (ninS ne_b2_bf9 nin0))
    have Fx4_16 := Fx4_15.keep k16 (ninS ne_b2_b8 (ninS ne_b2_bf9 nin0))
    have A5_16 := A5_15.keep k16
    have Ft6_16 := Ft6_15.keep k16 (ninS ne_b5_b8 (ninS ne_b5_bf9 nin0))
    have Fx6_16 := Fx6_15.keep k16 (ninS ne_b5_b8 (ninS ne_b5_bf9 nin0))
    have A8_16 := A8_15.keep k16
    have K_16 : Keep h0 T16.heap [] := K_15.trans k16 (allS (Or.inr sz_b8) (allS (Or.inr sz_bf9) all0))
    have Z_16 : n0 ≤ T16.heap.size := Nat.le_trans Z_15 k16.1
    refine own_step (fun _ k => st16.trans k) ?_
    show own_Ends p.tables e below _ (T16.setTop (mkF m 124 #[.val (.long q0), .second, .val (.int p1), .val (.long q2), .second, .val (.int p3), .val (.int (Int32.ofNat np)), .val (.ref b1), .val (.ref b2), .val (.ref b5), .val (.int (1 : Int32)), .val (.ref lw), .val (.ref b8), .val (.int (Int32.ofNat sz)), .unset, .unset] []))
    have henc : own_enc (0 : Int64) q0 = 2 := own_encA q0 hc46
    obtain ⟨hq1, hq2, hq3⟩ := hsm16 (by rw [henc]; decide)
    rw [henc] at hq2
    subst hq1
    refine own_step (fun _ k => XS.aload X16.here hx rfl (hb hby at_124) rfl rfl k) ?_
    show own_Ends p.tables e below _ (T16.setTop (mkF m 126 #[.val (.long q0), .second, .val (.int p1), .val (.long q2), .second, .val (.int p3), .val (.int (Int32.ofNat np)), .val (.ref b1), .val (.ref b2), .val (.ref b5), .val (.int (1 : Int32)), .val (.ref lw), .val (.ref b8), .val (.int (Int32.ofNat sz)), .unset, .unset] [(.ref b8)]))
    obtain ⟨cq17, kq17, q17a, q17b, q17c⟩ := isOf hZ rfl A8_16
    obtain ⟨_, _, ⟨T17, L17, k17, n17⟩, -, X17, ⟨Lc17, hQ17, l17, y17, z17⟩, st17⟩ := X16.virtualBack hx (y := (⟨"com/example/ketchup/ketchup/negentropy/MessageWriter", "toByteArray", "()[B"⟩ : MethodName)) (z := (⟨"com/example/ketchup/ketchup/negentropy/MessageWriter", "toByteArray", "()[B"⟩ : MethodName)) hown (mvT hZ (hw _ (List.mem_of_getElem? (i := 84) rfl))) (mvT hZ (hw _ (List.mem_of_getElem? (i := 85) rfl))) (notFace_of_selects (args := #[]) (mvT hZ (hw _ (List.mem_of_getElem? (i := 87) rfl)))) (mvT hZ (hw _ (List.mem_of_getElem? (i := 87) rfl))) (mvT hZ (hw _ (List.mem_of_getElem? (i := 86) rfl))) (by decide) (backOf (W := 0) (own_rm_toByteArray l Z aw hw [] b8 bf9 kb9 vs16 (sz + 1 + 1 + 0) T16.heap n0 Z_16 Fb16 Fz16 Vb16 hvs16 ge9 (by omega)) hZ (hw _ (List.mem_of_getElem? (i := 88) rfl)) (hw _ (List.mem_of_getElem? (i := 18) rfl)) (by decide) (by decide)) q17a q17c (g := (mkF m 126 #[.val (.long q0), .second, .val (.int p1), .val (.long q2), .second, .val (.int p3), .val (.int (Int32.ofNat np)), .val (.ref b1), .val (.ref b2), .val (.ref b5), .val (.int (1 : Int32)), .val (.ref lw), .val (.ref b8), .val (.int (Int32.ofNat sz)), .unset, .unset] [(.ref b8)])) rfl (by rw [hml]; rfl) (Steps.refl _) (argsL := []) (rest := []) (lenOf own_pd6 rfl) rfl (by show 2 * 0 + _ ≤ _; exact Nat.le_of_eq rfl) (hb hby at_126) (fun _ _ => ⟨rfl, rfl, (by decide : 21 + 1 ≤ _), (by decide : 438 + 64 ≤ _)⟩)
    dsimp only [Pt.U, Pt.locs, Pt.cells, Pt.slots] at X17 l17 y17 z17 st17 hQ17
    subst l17 y17 z17
    obtain ⟨bo17, ko17, uo17, rfl, N17q, k17, ge17, hs17, Vo17, ho17⟩ := hQ17
    have N_17 := Fr.app N_16 N17q
    have ne_lw_bo17 : lw ≠ bo17 := Nat.ne_of_lt (Nat.lt_of_lt_of_le E_lw_16.lt hs17)
    have ne_lp_bo17 : lp ≠ bo17 := Nat.ne_of_lt (Nat.lt_of_lt_of_le V_lp_16.lt hs17)
    have ne_b1_bo17 : b1 ≠ bo17 := Nat.ne_of_lt (Nat.lt_of_lt_of_le V_b1_16.lt hs17)
    have ne_b2_bo17 : b2 ≠ bo17 := Nat.ne_of_lt (Nat.lt_of_lt_of_le A2_16.lt hs17)
    have ne_b3_bo17 : b3 ≠ bo17 := Nat.ne_of_lt (Nat.lt_of_lt_of_le V_b3_16.lt hs17)
    have ne_b5_bo17 : b5 ≠ bo17 := Nat.ne_of_lt (Nat.lt_of_lt_of_le A5_16.lt hs17)
    have ne_b8_bo17 : b8 ≠ bo17 := Nat.ne_of_lt (Nat.lt_of_lt_of_le A8_16.lt hs17)
    have ne_bf9_bo17 : bf9 ≠ bo17 := Nat.ne_of_lt (Nat.lt_of_lt_of_le Vb16.lt hs17)
    have sz_bo17 : h0.size ≤ bo17 := Nat.le_trans K_16.1 hs17
    have S_L_17 := own_Sta_keep S_L_16 k17 all0
    have E_lw_17 := E_lw_16.keep k17
    have F_lt_17 := F_lt_16.keep k17 nin0
    have F_lp_17 := F_lp_16.keep k17 nin0
    have V_lp_17 := V_lp_16.keep k17 nin0
    have V_b1_17 := V_b1_16.keep k17 nin0
    have A2_17 := A2_16.keep k17
    have V_b3_17 := V_b3_16.keep k17 nin0
    have Ft4_17 := Ft4_16.keep k17 nin0
    have Fx4_17 := Fx4_16.keep k17 nin0
    have A5_17 := A5_16.keep k17
    have Ft6_17 := Ft6_16.keep k17 nin0
    have Fx6_17 := Fx6_16.keep k17 nin0
    have A8_17 := A8_16.keep k17
    have Fb16_17 := Fb16.keep k17 nin0
    have Fz16_17 := Fz16.keep k17 nin0
    have Fp16_17 := Fp16.keep k17 nin0
    have Fm16_17 := Fm16.keep k17 nin0
    have Fq16_17 := Fq16.keep k17 nin0
    have Vb16_17 := Vb16.keep k17 nin0
    have K_17 : Keep h0 T17.heap [] := K_16.trans k17 all0
    have Z_17 : n0 ≤ T17.heap.size := Nat.le_trans Z_16 k17.1
    refine own_step (fun _ k => st17.trans k) ?_
    show own_Ends p.tables e below _ (T17.setTop (mkF m 129 #[.val (.long q0), .second, .val (.int p1), .val (.long q2), .second, .val (.int p3), .val (.int (Int32.ofNat np)), .val (.ref b1), .val (.ref b2), .val (.ref b5), .val (.int (1 : Int32)), .val (.ref lw), .val (.ref b8), .val (.int (Int32.ofNat sz)), .unset, .unset] [(.ref bo17)]))
    refine own_step (fun _ k => XS.astore X17.here hx rfl (hb hby at_129) rfl rfl (l' := #[.val (.long q0), .second, .val (.int p1), .val (.long q2), .second, .val (.int p3), .val (.int (Int32.ofNat np)), .val (.ref b1), .val (.ref b2), .val (.ref b5), .val (.int (1 : Int32)), .val (.ref lw), .val (.ref b8), .val (.int (Int32.ofNat sz)), .val (.ref bo17), .unset]) rfl k) ?_
    show own_Ends p.tables e below _ (T17.setTop (mkF m 131 #[.val (.long q0), .second, .val (.int p1), .val (.long q2), .second, .val (.int p3), .val (.int (Int32.ofNat np)), .val (.ref b1), .val (.ref b2), .val (.ref b5), .val (.int (1 : Int32)), .val (.ref lw), .val (.ref b8), .val (.int (Int32.ofNat sz)), .val (.ref bo17), .unset] []))
    refine own_step (fun _ k => XS.iload X17.here hx rfl (hb hby at_131) rfl k) ?_
    show own_Ends p.tables e below _ (T17.setTop (mkF m 133 #[.val (.long q0), .second, .val (.int p1), .val (.long q2), .second, .val (.int p3), .val (.int (Int32.ofNat np)), .val (.ref b1), .val (.ref b2), .val (.ref b5), .val (.int (1 : Int32)), .val (.ref lw), .val (.ref b8), .val (.int (Int32.ofNat sz)), .val (.ref bo17), .unset] [(.int (1 : Int32))]))
    refine own_step (fun _ k => XS.ifNo X17.here hx rfl (hb hby at_133) rfl ((if0 _ _).trans (feq (by decide)).1) k) ?_
    show own_Ends p.tables e below _ (T17.setTop (mkF m 136 #[.val (.long q0), .second, .val (.int p1), .val (.long q2), .second, .val (.int p3), .val (.int (Int32.ofNat np)), .val (.ref b1), .val (.ref b2), .val (.ref b5), .val (.int (1 : Int32)), .val (.ref lw), .val (.ref b8), .val (.int (Int32.ofNat sz)), .val (.ref bo17), .unset] []))
    refine own_step (fun _ k => XS.iconst X17.here hx rfl (hb hby at_136) k) ?_
    show own_Ends p.tables e below _ (T17.setTop (mkF m 137 #[.val (.long q0), .second, .val (.int p1), .val (.long q2), .second, .val (.int p3), .val (.int (Int32.ofNat np)), .val (.ref b1), .val (.ref b2), .val (.ref b5), .val (.int (1 : Int32)), .val (.ref lw), .val (.ref b8), .val (.int (Int32.ofNat sz)), .val (.ref bo17), .unset] [(.int (2 : Int32))]))
    refine own_step (fun _ k => XS.goto X17.here hx rfl (pc0 := 137) (pc' := 141) rfl (hb hby at_137) (by decide) (by decide) k) ?_
    show own_Ends p.tables e below _ (T17.setTop (mkF m 141 #[.val (.long q0), .second, .val (.int p1), .val (.long q2), .second, .val (.int p3), .val (.int (Int32.ofNat np)), .val (.ref b1), .val (.ref b2), .val (.ref b5), .val (.int (1 : Int32)), .val (.ref lw), .val (.ref b8), .val (.int (Int32.ofNat sz)), .val (.ref bo17), .unset] [(.int (2 : Int32))]))
    refine own_step (fun _ k => XS.istore X17.here hx rfl (hb hby at_141) rfl (l' := #[.val (.long q0), .second, .val (.int p1), .val (.long q2), .second, .val (.int p3), .val (.int (Int32.ofNat np)), .val (.ref b1), .val (.ref b2), .val (.ref b5), .val (.int (1 : Int32)), .val (.ref lw), .val (.ref b8), .val (.int (Int32.ofNat sz)), .val (.ref bo17), .val (.int (2 : Int32))]) rfl k) ?_
    show own_Ends p.tables e below _ (T17.setTop (mkF m 143 #[.val (.long q0), .second, .val (.int p1), .val (.long q2), .second, .val (.int p3), .val (.int (Int32.ofNat np)), .val (.ref b1), .val (.ref b2), .val (.ref b5), .val (.int (1 : Int32)), .val (.ref lw), .val (.ref b8), .val (.int (Int32.ofNat sz)), .val (.ref bo17), .val (.int (2 : Int32))] []))
    refine own_step (fun _ k => XS.aload X17.here hx rfl (hb hby at_143) rfl rfl k) ?_
    show own_Ends p.tables e below _ (T17.setTop (mkF m 145 #[.val (.long q0), .second, .val (.int p1), .val (.long q2), .second, .val (.int p3), .val (.int (Int32.ofNat np)), .val (.ref b1), .val (.ref b2), .val (.ref b5), .val (.int (1 : Int32)), .val (.ref lw), .val (.ref b8), .val (.int (Int32.ofNat sz)), .val (.ref bo17), .val (.int (2 : Int32))] [(.ref bo17)]))
    obtain ⟨cl18, Ar18, q18, S18, Nn18, H18, G18⟩ := id Vo17
    refine own_step (fun _ k => X17.arraylength hx Ar18.1 (State.isArrayOf_alike hZ.alike Ar18.2.1) (g := (mkF m 145 #[.val (.long q0), .second, .val (.int p1), .val (.long q2), .second, .val (.int p3), .val (.int (Int32.ofNat np)), .val (.ref b1), .val (.ref b2), .val (.ref b5), .val (.int (1 : Int32)), .val (.ref lw), .val (.ref b8), .val (.int (Int32.ofNat sz)), .val (.ref bo17), .val (.int (2 : Int32))] [(.ref bo17)])) rfl rfl (hb hby at_145) _ k) ?_
    rw [len_of S18 Nn18]
    show own_Ends p.tables e below _ (T17.setTop (mkF m 146 #[.val (.long q0), .second, .val (.int p1), .val (.long q2), .second, .val (.int p3), .val (.int (Int32.ofNat np)), .val (.ref b1), .val (.ref b2), .val (.ref b5), .val (.int (1 : Int32)), .val (.ref lw), .val (.ref b8), .val (.int (Int32.ofNat sz)), .val (.ref bo17), .val (.int (2 : Int32))] [(.int (Int32.ofNat (sz + 1 + 1 + 0)))]))
    refine own_step (fun _ k => XS.iload X17.here hx rfl (hb hby at_146) rfl k) ?_
    show own_Ends p.tables e below _ (T17.setTop (mkF m 148 #[.val (.long q0), .second, .val (.int p1), .val (.long q2), .second, .val (.int p3), .val (.int (Int32.ofNat np)), .val (.ref b1), .val (.ref b2), .val (.ref b5), .val (.int (1 : Int32)), .val (.ref lw), .val (.ref b8), .val (.int (Int32.ofNat sz)), .val (.ref bo17), .val (.int (2 : Int32))] [(.int (Int32.ofNat sz)), (.int (Int32.ofNat (sz + 1 + 1 + 0)))]))
    refine own_step (fun _ k => XS.iconst X17.here hx rfl (hb hby at_148) k) ?_
    show own_Ends p.tables e below _ (T17.setTop (mkF m 149 #[.val (.long q0), .second, .val (.int p1), .val (.long q2), .second, .val (.int p3), .val (.int (Int32.ofNat np)), .val (.ref b1), .val (.ref b2), .val (.ref b5), .val (.int (1 : Int32)), .val (.ref lw), .val (.ref b8), .val (.int (Int32.ofNat sz)), .val (.ref bo17), .val (.int (2 : Int32))] [(.int (2 : Int32)), (.int (Int32.ofNat sz)), (.int (Int32.ofNat (sz + 1 + 1 + 0)))]))
    refine own_step (fun _ k => XS.iadd X17.here hx rfl (hb hby at_149) rfl k) ?_
    show own_Ends p.tables e below _ (T17.setTop (mkF m 150 #[.val (.long q0), .second, .val (.int p1), .val (.long q2), .second, .val (.int p3), .val (.int (Int32.ofNat np)), .val (.ref b1), .val (.ref b2), .val (.ref b5), .val (.int (1 : Int32)), .val (.ref lw), .val (.ref b8), .val (.int (Int32.ofNat sz)), .val (.ref bo17), .val (.int (2 : Int32))] [(.int ((Int32.ofNat sz) + (2 : Int32))), (.int (Int32.ofNat (sz + 1 + 1 + 0)))]))
    rw [show ((Int32.ofNat sz) + (2 : Int32)) = (Int32.ofNat (sz + 1 + 1 + 0)) from own_add2 sz]
    show own_Ends p.tables e below _ (T17.setTop (mkF m 150 #[.val (.long q0), .second, .val (.int p1), .val (.long q2), .second, .val (.int p3), .val (.int (Int32.ofNat np)), .val (.ref b1), .val (.ref b2), .val (.ref b5), .val (.int (1 : Int32)), .val (.ref lw), .val (.ref b8), .val (.int (Int32.ofNat sz)), .val (.ref bo17), .val (.int (2 : Int32))] [(.int (Int32.ofNat (sz + 1 + 1 + 0))), (.int (Int32.ofNat (sz + 1 + 1 + 0)))]))
    refine own_step (fun _ k => XS.icmpNo X17.here hx rfl (hb hby at_150) rfl (teq rfl).2 k) ?_
    show own_Ends p.tables e below _ (T17.setTop (mkF m 153 #[.val (.long q0), .second, .val (.int p1), .val (.long q2), .second, .val (.int p3), .val (.int (Int32.ofNat np)), .val (.ref b1), .val (.ref b2), .val (.ref b5), .val (.int (1 : Int32)), .val (.ref lw), .val (.ref b8), .val (.int (Int32.ofNat sz)), .val (.ref bo17), .val (.int (2 : Int32))] []))
    refine own_step (fun _ k => XS.aload X17.here hx rfl (hb hby at_153) rfl rfl k) ?_
    show own_Ends p.tables e below _ (T17.setTop (mkF m 155 #[.val (.long q0), .second, .val (.int p1), .val (.long q2), .second, .val (.int p3), .val (.int (Int32.ofNat np)), .val (.ref b1), .val (.ref b2), .val (.ref b5), .val (.int (1 : Int32)), .val (.ref lw), .val (.ref b8), .val (.int (Int32.ofNat sz)), .val (.ref bo17), .val (.int (2 : Int32))] [(.ref bo17)]))
    refine own_step (fun _ k => XS.iload X17.here hx rfl (hb hby at_155) rfl k) ?_
    show own_Ends p.tables e below _ (T17.setTop (mkF m 157 #[.val (.long q0), .second, .val (.int p1), .val (.long q2), .second, .val (.int p3), .val (.int (Int32.ofNat np)), .val (.ref b1), .val (.ref b2), .val (.ref b5), .val (.int (1 : Int32)), .val (.ref lw), .val (.ref b8), .val (.int (Int32.ofNat sz)), .val (.ref bo17), .val (.int (2 : Int32))] [(.int (Int32.ofNat sz)), (.ref bo17)]))
    obtain ⟨cl19, Ar19, q19, S19, Nn19, H19, G19⟩ := id Vo17
    have hin19 : ¬ ((Int32.ofNat sz) < 0 ∨ cl19.slots.size ≤ ((Int32.ofNat sz)).toNatClampNeg) := inb_of S19 ⟨(own_nn (by omega)), ((own_nlt (by omega) (by omega)).mpr (by omega))⟩
    have hat19 : cl19.slots[((Int32.ofNat sz)).toNatClampNeg]? = some (.int (2 : Int32)) := H19.at hin19 (by rw [own_clamp (by omega), (ho17 sz (by omega))]; exact hq2)
    refine own_step (fun _ k => X17.baloadBytes hx (j := (Int32.ofNat sz)) (v := (.int (2 : Int32))) Ar19.1 (State.isArrayOf_alike hZ.alike Ar19.2.1) Ar19.2.2 hin19 hat19 (g := (mkF m 157 #[.val (.long q0), .second, .val (.int p1), .val (.long q2), .second, .val (.int p3), .val (.int (Int32.ofNat np)), .val (.ref b1), .val (.ref b2), .val (.ref b5), .val (.int (1 : Int32)), .val (.ref lw), .val (.ref b8), .val (.int (Int32.ofNat sz)), .val (.ref bo17), .val (.int (2 : Int32))] [(.int (Int32.ofNat sz)), (.ref bo17)])) rfl rfl (hb hby at_157) _ k) ?_
    show own_Ends p.tables e below _ (T17.setTop (mkF m 158 #[.val (.long q0), .second, .val (.int p1), .val (.long q2), .second, .val (.int p3), .val (.int (Int32.ofNat np)), .val (.ref b1), .val (.ref b2), .val (.ref b5), .val (.int (1 : Int32)), .val (.ref lw), .val (.ref b8), .val (.int (Int32.ofNat sz)), .val (.ref bo17), .val (.int (2 : Int32))] [(.int (2 : Int32))]))
    refine own_step (fun _ k => XS.iload X17.here hx rfl (hb hby at_158) rfl k) ?_
    show own_Ends p.tables e below _ (T17.setTop (mkF m 160 #[.val (.long q0), .second, .val (.int p1), .val (.long q2), .second, .val (.int p3), .val (.int (Int32.ofNat np)), .val (.ref b1), .val (.ref b2), .val (.ref b5), .val (.int (1 : Int32)), .val (.ref lw), .val (.ref b8), .val (.int (Int32.ofNat sz)), .val (.ref bo17), .val (.int (2 : Int32))] [(.int (2 : Int32)), (.int (2 : Int32))]))
    refine own_step (fun _ k => XS.icmpNo X17.here hx rfl (hb hby at_160) rfl (teq rfl).2 k) ?_
    show own_Ends p.tables e below _ (T17.setTop (mkF m 163 #[.val (.long q0), .second, .val (.int p1), .val (.long q2), .second, .val (.int p3), .val (.int (Int32.ofNat np)), .val (.ref b1), .val (.ref b2), .val (.ref b5), .val (.int (1 : Int32)), .val (.ref lw), .val (.ref b8), .val (.int (Int32.ofNat sz)), .val (.ref bo17), .val (.int (2 : Int32))] []))
    refine own_step (fun _ k => XS.aload X17.here hx rfl (hb hby at_163) rfl rfl k) ?_
    show own_Ends p.tables e below _ (T17.setTop (mkF m 165 #[.val (.long q0), .second, .val (.int p1), .val (.long q2), .second, .val (.int p3), .val (.int (Int32.ofNat np)), .val (.ref b1), .val (.ref b2), .val (.ref b5), .val (.int (1 : Int32)), .val (.ref lw), .val (.ref b8), .val (.int (Int32.ofNat sz)), .val (.ref bo17), .val (.int (2 : Int32))] [(.ref bo17)]))
    refine own_step (fun _ k => XS.iload X17.here hx rfl (hb hby at_165) rfl k) ?_
    show own_Ends p.tables e below _ (T17.setTop (mkF m 167 #[.val (.long q0), .second, .val (.int p1), .val (.long q2), .second, .val (.int p3), .val (.int (Int32.ofNat np)), .val (.ref b1), .val (.ref b2), .val (.ref b5), .val (.int (1 : Int32)), .val (.ref lw), .val (.ref b8), .val (.int (Int32.ofNat sz)), .val (.ref bo17), .val (.int (2 : Int32))] [(.int (Int32.ofNat sz)), (.ref bo17)]))
    refine own_step (fun _ k => XS.iconst X17.here hx rfl (hb hby at_167) k) ?_
    show own_Ends p.tables e below _ (T17.setTop (mkF m 168 #[.val (.long q0), .second, .val (.int p1), .val (.long q2), .second, .val (.int p3), .val (.int (Int32.ofNat np)), .val (.ref b1), .val (.ref b2), .val (.ref b5), .val (.int (1 : Int32)), .val (.ref lw), .val (.ref b8), .val (.int (Int32.ofNat sz)), .val (.ref bo17), .val (.int (2 : Int32))] [(.int (1 : Int32)), (.int (Int32.ofNat sz)), (.ref bo17)]))
    refine own_step (fun _ k => XS.iadd X17.here hx rfl (hb hby at_168) rfl k) ?_
    show own_Ends p.tables e below _ (T17.setTop (mkF m 169 #[.val (.long q0), .second, .val (.int p1), .val (.long q2), .second, .val (.int p3), .val (.int (Int32.ofNat np)), .val (.ref b1), .val (.ref b2), .val (.ref b5), .val (.int (1 : Int32)), .val (.ref lw), .val (.ref b8), .val (.int (Int32.ofNat sz)), .val (.ref bo17), .val (.int (2 : Int32))] [(.int ((Int32.ofNat sz) + (1 : Int32))), (.ref bo17)]))
    rw [show ((Int32.ofNat sz) + (1 : Int32)) = (Int32.ofNat (sz + 1)) from own_inc sz]
    show own_Ends p.tables e below _ (T17.setTop (mkF m 169 #[.val (.long q0), .second, .val (.int p1), .val (.long q2), .second, .val (.int p3), .val (.int (Int32.ofNat np)), .val (.ref b1), .val (.ref b2), .val (.ref b5), .val (.int (1 : Int32)), .val (.ref lw), .val (.ref b8), .val (.int (Int32.ofNat sz)), .val (.ref bo17), .val (.int (2 : Int32))] [(.int (Int32.ofNat (sz + 1))), (.ref bo17)]))
    obtain ⟨cl20, Ar20, q20, S20, Nn20, H20, G20⟩ := id Vo17
    have hin20 : ¬ ((Int32.ofNat (sz + 1)) < 0 ∨ cl20.slots.size ≤ ((Int32.ofNat (sz + 1))).toNatClampNeg) := inb_of S20 ⟨(own_nn (by omega)), ((own_nlt (by omega) (by omega)).mpr (by omega))⟩
    have hat20 : cl20.slots[((Int32.ofNat (sz + 1))).toNatClampNeg]? = some (.int (0 : Int32)) := H20.at hin20 (by rw [own_clamp (by omega), (ho17 (sz + 1) (by omega))]; exact hq3)
    refine own_step (fun _ k => X17.baloadBytes hx (j := (Int32.ofNat (sz + 1))) (v := (.int (0 : Int32))) Ar20.1 (State.isArrayOf_alike hZ.alike Ar20.2.1) Ar20.2.2 hin20 hat20 (g := (mkF m 169 #[.val (.long q0), .second, .val (.int p1), .val (.long q2), .second, .val (.int p3), .val (.int (Int32.ofNat np)), .val (.ref b1), .val (.ref b2), .val (.ref b5), .val (.int (1 : Int32)), .val (.ref lw), .val (.ref b8), .val (.int (Int32.ofNat sz)), .val (.ref bo17), .val (.int (2 : Int32))] [(.int (Int32.ofNat (sz + 1))), (.ref bo17)])) rfl rfl (hb hby at_169) _ k) ?_
    show own_Ends p.tables e below _ (T17.setTop (mkF m 170 #[.val (.long q0), .second, .val (.int p1), .val (.long q2), .second, .val (.int p3), .val (.int (Int32.ofNat np)), .val (.ref b1), .val (.ref b2), .val (.ref b5), .val (.int (1 : Int32)), .val (.ref lw), .val (.ref b8), .val (.int (Int32.ofNat sz)), .val (.ref bo17), .val (.int (2 : Int32))] [(.int (0 : Int32))]))
    refine own_step (fun _ k => XS.ifNo X17.here hx rfl (hb hby at_170) rfl ((if0 _ _).trans (teq (by decide)).2) k) ?_
    show own_Ends p.tables e below _ (T17.setTop (mkF m 173 #[.val (.long q0), .second, .val (.int p1), .val (.long q2), .second, .val (.int p3), .val (.int (Int32.ofNat np)), .val (.ref b1), .val (.ref b2), .val (.ref b5), .val (.int (1 : Int32)), .val (.ref lw), .val (.ref b8), .val (.int (Int32.ofNat sz)), .val (.ref bo17), .val (.int (2 : Int32))] []))
    refine own_step (fun _ k => XS.iconst X17.here hx rfl (hb hby at_173) k) ?_
    show own_Ends p.tables e below _ (T17.setTop (mkF m 174 #[.val (.long q0), .second, .val (.int p1), .val (.long q2), .second, .val (.int p3), .val (.int (Int32.ofNat np)), .val (.ref b1), .val (.ref b2), .val (.ref b5), .val (.int (1 : Int32)), .val (.ref lw), .val (.ref b8), .val (.int (Int32.ofNat sz)), .val (.ref bo17), .val (.int (2 : Int32))] [(.int (1 : Int32))]))
    refine own_step (fun _ k => XS.goto X17.here hx rfl (pc0 := 174) (pc' := 178) rfl (hb hby at_174) (by decide) (by decide) k) ?_
    show own_Ends p.tables e below _ (T17.setTop (mkF m 178 #[.val (.long q0), .second, .val (.int p1), .val (.long q2), .second, .val (.int p3), .val (.int (Int32.ofNat np)), .val (.ref b1), .val (.ref b2), .val (.ref b5), .val (.int (1 : Int32)), .val (.ref lw), .val (.ref b8), .val (.int (Int32.ofNat sz)), .val (.ref bo17), .val (.int (2 : Int32))] [(.int (1 : Int32))]))
    exact own_retN X17 hx hlk (by decide) (by decide) (t := .boolean) Bd.returns (by simp) (hb hby at_178) (⟨rfl, N_17⟩)
  · refine own_step (fun _ k => XS.ifYes X6.here hx rfl (pc0 := 46) (pc' := 53) rfl (hb hby at_46) rfl ((if0 _ _).trans (feq (fun q => hc46 ((own_lc_eq _ _).mp q))).2) (by decide) (by decide) k) ?_
    show own_Ends p.tables e below _ (T6.setTop (mkF m 53 #[.val (.long q0), .second, .val (.int p1), .val (.long q2), .second, .val (.int p3), .val (.int (Int32.ofNat np)), .val (.ref b1), .val (.ref b2), .val (.ref b5), .unset, .unset, .unset, .unset, .unset, .unset] []))
    refine own_step (fun _ k => XS.iconst X6.here hx rfl (hb hby at_53) k) ?_
    show own_Ends p.tables e below _ (T6.setTop (mkF m 54 #[.val (.long q0), .second, .val (.int p1), .val (.long q2), .second, .val (.int p3), .val (.int (Int32.ofNat np)), .val (.ref b1), .val (.ref b2), .val (.ref b5), .unset, .unset, .unset, .unset, .unset, .unset] [(.int (0 : Int32))]))
    refine own_step (fun _ k => XS.istore X6.here hx rfl (hb hby at_54) rfl (l' := #[.val (.long q0), .second, .val (.int p1), .val (.long q2), .second, .val (.int p3), .val (.int (Int32.ofNat np)), .val (.ref b1), .val (.ref b2), .val (.ref b5), .val (.int (0 : Int32)), .unset, .unset, .unset, .unset, .unset]) rfl k) ?_
    show own_Ends p.tables e below _ (T6.setTop (mkF m 56 #[.val (.long q0), .second, .val (.int p1), .val (.long q2), .second, .val (.int p3), .val (.int (Int32.ofNat np)), .val (.ref b1), .val (.ref b2), .val (.ref b5), .val (.int (0 : Int32)), .unset, .unset, .unset, .unset, .unset] []))
    refine own_step (fun _ k => XS.iload X6.here hx rfl (hb hby at_56) rfl k) ?_
    show own_Ends p.tables e below _ (T6.setTop (mkF m 58 #[.val (.long q0), .second, .val (.int p1), .val (.long q2), .second, .val (.int p3), .val (.int (Int32.ofNat np)), .val (.ref b1), .val (.ref b2), .val (.ref b5), .val (.int (0 : Int32)), .unset, .unset, .unset, .unset, .unset] [(.int (0 : Int32))]))
    refine own_step (fun _ k => XS.ifYes X6.here hx rfl (pc0 := 58) (pc' := 67) rfl (hb hby at_58) rfl ((if0 _ _).trans (teq (by decide)).1) (by decide) (by decide) k) ?_
    show own_Ends p.tables e below _ (T6.setTop (mkF m 67 #[.val (.long q0), .second, .val (.int p1), .val (.long q2), .second, .val (.int p3), .val (.int (Int32.ofNat np)), .val (.ref b1), .val (.ref b2), .val (.ref b5), .val (.int (0 : Int32)), .unset, .unset, .unset, .unset, .unset] []))
    refine own_step (fun _ k => XS.aload X6.here hx rfl (hb hby at_67) rfl rfl k) ?_
    show own_Ends p.tables e below _ (T6.setTop (mkF m 69 #[.val (.long q0), .second, .val (.int p1), .val (.long q2), .second, .val (.int p3), .val (.int (Int32.ofNat np)), .val (.ref b1), .val (.ref b2), .val (.ref b5), .val (.int (0 : Int32)), .unset, .unset, .unset, .unset, .unset] [(.ref b2)]))
    refine own_step (fun _ k => XS.astore X6.here hx rfl (hb hby at_69) rfl rfl (l' := #[.val (.long q0), .second, .val (.int p1), .val (.long q2), .second, .val (.int p3), .val (.int (Int32.ofNat np)), .val (.ref b1), .val (.ref b2), .val (.ref b5), .val (.int (0 : Int32)), .val (.ref b2), .unset, .unset, .unset, .unset]) rfl k) ?_
    show own_Ends p.tables e below _ (T6.setTop (mkF m 71 #[.val (.long q0), .second, .val (.int p1), .val (.long q2), .second, .val (.int p3), .val (.int (Int32.ofNat np)), .val (.ref b1), .val (.ref b2), .val (.ref b5), .val (.int (0 : Int32)), .val (.ref b2), .unset, .unset, .unset, .unset] []))
    obtain ⟨T21, h21, X21, e21, E21, A21, D21, -, st21⟩ := newO X6 hx hZ hown (hw _ (List.mem_of_getElem? (i := 16) rfl)) (hw _ (List.mem_of_getElem? (i := 17) rfl)) (hw _ (List.mem_of_getElem? (i := 18) rfl)) rfl (g := (mkF m 71 #[.val (.long q0), .second, .val (.int p1), .val (.long q2), .second, .val (.int p3), .val (.int (Int32.ofNat np)), .val (.ref b1), .val (.ref b2), .val (.ref b5), .val (.int (0 : Int32)), .val (.ref b2), .unset, .unset, .unset, .unset] [])) rfl (hb hby at_71) (by decide) (by decide)
    obtain ⟨b21, g21⟩ : ∃ z, z = T6.heap.size := ⟨_, rfl⟩
    rw [← g21] at A21 D21 st21
    refine own_step st21 ?_
    have ne_lw_b21 : lw ≠ b21 := Nat.ne_of_lt (Nat.lt_of_lt_of_le E_lw_6.lt (Nat.le_of_eq g21.symm))
    have ne_lp_b21 : lp ≠ b21 := Nat.ne_of_lt (Nat.lt_of_lt_of_le V_lp_6.lt (Nat.le_of_eq g21.symm))
    have ne_b1_b21 : b1 ≠ b21 := Nat.ne_of_lt (Nat.lt_of_lt_of_le V_b1_6.lt (Nat.le_of_eq g21.symm))
    have ne_b2_b21 : b2 ≠ b21 := Nat.ne_of_lt (Nat.lt_of_lt_of_le A2_6.lt (Nat.le_of_eq g21.symm))
    have ne_b3_b21 : b3 ≠ b21 := Nat.ne_of_lt (Nat.lt_of_lt_of_le V_b3_6.lt (Nat.le_of_eq g21.symm))
    have ne_b5_b21 : b5 ≠ b21 := Nat.ne_of_lt (Nat.lt_of_lt_of_le A5_6.lt (Nat.le_of_eq g21.symm))
    have g_b21 : n0 ≤ b21 := Nat.le_trans Z_6 (Nat.le_of_eq g21.symm)
    have sz_b21 : h0.size ≤ b21 := Nat.le_trans K_6.1 (Nat.le_of_eq g21.symm)
    have S_L_21 := S_L_6.ext E21
    have E_lw_21 := E_lw_6.ext E21
    have F_lt_21 := F_lt_6.ext E21
    have F_lp_21 := F_lp_6.ext E21
    have V_lp_21 := V_lp_6.ext E21
    have V_b1_21 := V_b1_6.ext E21
    have A2_21 := A2_6.ext E21
    have V_b3_21 := V_b3_6.ext E21
    have Ft4_21 := Ft4_6.ext E21
    have Fx4_21 := Fx4_6.ext E21
    have A5_21 := A5_6.ext E21
    have Ft6_21 := Ft6.ext E21
    have Fx6_21 := Fx6.ext E21
    have K_21 : Keep h0 h21 [] := K_6.ext E21
    have Z_21 : n0 ≤ h21.size := Nat.le_trans Z_6 E21.1
    have F_buffer_b21 : Fld Z h21 b21 "com/example/ketchup/ketchup/negentropy/MessageWriter" "buffer" "[B" .null := D21 (Or.inl (hw _ (List.mem_of_getElem? (i := 24) rfl))) (ty := (.array .byte)) (by decide)
    have F_size_b21 : Fld Z h21 b21 "com/example/ketchup/ketchup/negentropy/MessageWriter" "size" "I" (.int (0 : Int32)) := D21 (Or.inl (hw _ (List.mem_of_getElem? (i := 30) rfl))) (ty := .int) (by decide)
    have F_markedSize_b21 : Fld Z h21 b21 "com/example/ketchup/ketchup/negentropy/MessageWriter" "markedSize" "I" (.int (0 : Int32)) := D21 (Or.inl (hw _ (List.mem_of_getElem? (i := 41) rfl))) (ty := .int) (by decide)
    have F_previousTimestamp_b21 : Fld Z h21 b21 "com/example/ketchup/ketchup/negentropy/MessageWriter" "previousTimestamp" "J" (.long (0 : Int64)) := D21 (Or.inl (hw _ (List.mem_of_getElem? (i := 43) rfl))) (ty := .long) (by decide)
    have F_markedPreviousTimestamp_b21 : Fld Z h21 b21 "com/example/ketchup/ketchup/negentropy/MessageWriter" "markedPreviousTimestamp" "J" (.long (0 : Int64)) := D21 (Or.inl (hw _ (List.mem_of_getElem? (i := 45) rfl))) (ty := .long) (by decide)
    show own_Ends p.tables e below _ (T21.setTop (mkF m 74 #[.val (.long q0), .second, .val (.int p1), .val (.long q2), .second, .val (.int p3), .val (.int (Int32.ofNat np)), .val (.ref b1), .val (.ref b2), .val (.ref b5), .val (.int (0 : Int32)), .val (.ref b2), .unset, .unset, .unset, .unset] [(.ref b21)]))
    refine own_step (fun _ k => XS.dup X21.here hx rfl (hb hby at_74) rfl rfl k) ?_
    show own_Ends p.tables e below _ (T21.setTop (mkF m 75 #[.val (.long q0), .second, .val (.int p1), .val (.long q2), .second, .val (.int p3), .val (.int (Int32.ofNat np)), .val (.ref b1), .val (.ref b2), .val (.ref b5), .val (.int (0 : Int32)), .val (.ref b2), .unset, .unset, .unset, .unset] [(.ref b21), (.ref b21)]))
    obtain ⟨_, _, ⟨T22, L22, k22, n22⟩, -, X22, ⟨Lc22, hQ22, l22, y22, z22⟩, st22⟩ := X21.specialBack hx (y := (⟨"com/example/ketchup/ketchup/negentropy/MessageWriter", "<init>", "()V"⟩ : MethodName)) rfl hown (mvT hZ (hw _ (List.mem_of_getElem? (i := 19) rfl))) (mvT hZ (hw _ (List.mem_of_getElem? (i := 20) rfl))) (mvT hZ (hw _ (List.mem_of_getElem? (i := 21) rfl))) (by decide) (backOf (W := 1) (own_rm_winit l Z aw hw [] b21 h21 n0 Z_21 A21 F_buffer_b21 F_size_b21 F_previousTimestamp_b21 F_markedSize_b21 F_markedPreviousTimestamp_b21 g_b21) hZ (hw _ (List.mem_of_getElem? (i := 21) rfl)) (hw _ (List.mem_of_getElem? (i := 18) rfl)) (by decide) (by decide)) (g := (mkF m 75 #[.val (.long q0), .second, .val (.int p1), .val (.long q2), .second, .val (.int p3), .val (.int (Int32.ofNat np)), .val (.ref b1), .val (.ref b2), .val (.ref b5), .val (.int (0 : Int32)), .val (.ref b2), .unset, .unset, .unset, .unset] [(.ref b21), (.ref b21)])) rfl (by rw [hml]; rfl) (Steps.refl _) (a := b21) (argsL := []) (rest := [(.ref b21)]) (lenOf own_pd2 rfl) rfl (by show 2 * 0 + _ ≤ _; exact Nat.le_of_eq rfl) (hb hby at_75) (fun _ _ => ⟨rfl, e21, (by decide : 5 + 2 ≤ _), (by decide : 41 + 257 ≤ _)⟩)
    dsimp only [Pt.U, Pt.locs, Pt.cells, Pt.slots] at X22 l22 y22 z22 st22 hQ22
    subst l22 y22 z22
    obtain ⟨rfl, N22q, k22, bf22, kb22, vs22, ge22, hs22, new22, Fb22, Fz22, Fp22, Fm22, Fq22, Vb22, hvs22, hz22⟩ := hQ22
    have N_22 := Fr.app N_6 N22q
    have ne_lw_bf22 : lw ≠ bf22 := Nat.ne_of_lt (Nat.lt_of_lt_of_le E_lw_21.lt hs22)
    have ne_lp_bf22 : lp ≠ bf22 := Nat.ne_of_lt (Nat.lt_of_lt_of_le V_lp_21.lt hs22)
    have ne_b1_bf22 : b1 ≠ bf22 := Nat.ne_of_lt (Nat.lt_of_lt_of_le V_b1_21.lt hs22)
    have ne_b2_bf22 : b2 ≠ bf22 := Nat.ne_of_lt (Nat.lt_of_lt_of_le A2_21.lt hs22)
    have ne_b3_bf22 : b3 ≠ bf22 := Nat.ne_of_lt (Nat.lt_of_lt_of_le V_b3_21.lt hs22)
    have ne_b5_bf22 : b5 ≠ bf22 := Nat.ne_of_lt (Nat.lt_of_lt_of_le A5_21.lt hs22)
    have ne_b21_bf22 : b21 ≠ bf22 := Nat.ne_of_lt (Nat.lt_of_lt_of_le A21.lt hs22)
    have sz_bf22 : h0.size ≤ bf22 := Nat.le_trans K_21.1 hs22
    have S_L_22 := own_Sta_keep S_L_21 k22 (allS (own_ns_exa A21) all0)
    have E_lw_22 := E_lw_21.keep k22
    have F_lt_22 := F_lt_21.keep k22 (ninS ne_lw_b21 nin0)
    have F_lp_22 := F_lp_21.keep k22 (ninS ne_lw_b21 nin0)
    have V_lp_22 := V_lp_21.keep k22 (ninS ne_lp_b21 nin0)
    have V_b1_22 := V_b1_21.keep k22 (ninS ne_b1_b21 nin0)
    have A2_22 := A2_21.keep k22
    have V_b3_22 := V_b3_21.keep k22 (ninS ne_b3_b21 nin0)
    have Ft4_22 := Ft4_21.keep k22 (ninS ne_b2_b21 nin0)
    have Fx4_22 := Fx4_21.keep k22 (ninS ne_b2_b21 nin0)
    have A5_22 := A5_21.keep k22
    have Ft6_22 := Ft6_21.keep k22 (ninS ne_b5_b21 nin0)
    have Fx6_22 := Fx6_21.keep k22 (ninS ne_b5_b21 nin0)
    have A21_22 := A21.keep k22
    have K_22 : Keep h0 T22.heap [] := K_21.trans k22 (allS (Or.inr sz_b21) all0)
    have Z_22 : n0 ≤ T22.heap.size := Nat.le_trans Z_21 k22.1
    refine own_step (fun _ k => st22.trans k) ?_
    show own_Ends p.tables e below _ (T22.setTop (mkF m 78 #[.val (.long q0), .second, .val (.int p1), .val (.long q2), .second, .val (.int p3), .val (.int (Int32.ofNat np)), .val (.ref b1), .val (.ref b2), .val (.ref b5), .val (.int (0 : Int32)), .val (.ref b2), .unset, .unset, .unset, .unset] [(.ref b21)]))
    refine own_step (fun _ k => XS.astore X22.here hx rfl (hb hby at_78) rfl rfl (l' := #[.val (.long q0), .second, .val (.int p1), .val (.long q2), .second, .val (.int p3), .val (.int (Int32.ofNat np)), .val (.ref b1), .val (.ref b2), .val (.ref b5), .val (.int (0 : Int32)), .val (.ref b2), .val (.ref b21), .unset, .unset, .unset]) rfl k) ?_
    show own_Ends p.tables e below _ (T22.setTop (mkF m 80 #[.val (.long q0), .second, .val (.int p1), .val (.long q2), .second, .val (.int p3), .val (.int (Int32.ofNat np)), .val (.ref b1), .val (.ref b2), .val (.ref b5), .val (.int (0 : Int32)), .val (.ref b2), .val (.ref b21), .unset, .unset, .unset] []))
    refine own_step (fun _ k => XS.aload X22.here hx rfl (hb hby at_80) rfl rfl k) ?_
    show own_Ends p.tables e below _ (T22.setTop (mkF m 82 #[.val (.long q0), .second, .val (.int p1), .val (.long q2), .second, .val (.int p3), .val (.int (Int32.ofNat np)), .val (.ref b1), .val (.ref b2), .val (.ref b5), .val (.int (0 : Int32)), .val (.ref b2), .val (.ref b21), .unset, .unset, .unset] [(.ref b21)]))
    refine own_step (fun _ k => XS.aload X22.here hx rfl (hb hby at_82) rfl rfl k) ?_
    show own_Ends p.tables e below _ (T22.setTop (mkF m 84 #[.val (.long q0), .second, .val (.int p1), .val (.long q2), .second, .val (.int p3), .val (.int (Int32.ofNat np)), .val (.ref b1), .val (.ref b2), .val (.ref b5), .val (.int (0 : Int32)), .val (.ref b2), .val (.ref b21), .unset, .unset, .unset] [(.ref b2), (.ref b21)]))
    obtain ⟨cq23, kq23, q23a, q23b, q23c⟩ := isOf hZ rfl A21_22
    obtain ⟨_, _, ⟨T23, L23, k23, n23⟩, -, X23, ⟨Lc23, hQ23, l23, y23, z23⟩, st23⟩ := X22.virtualBack hx (y := (⟨"com/example/ketchup/ketchup/negentropy/MessageWriter", "writeBound", "(Lcom/example/ketchup/ketchup/negentropy/Bound;)V"⟩ : MethodName)) (z := (⟨"com/example/ketchup/ketchup/negentropy/MessageWriter", "writeBound", "(Lcom/example/ketchup/ketchup/negentropy/Bound;)V"⟩ : MethodName)) hown (mvT hZ (hw _ (List.mem_of_getElem? (i := 46) rfl))) (mvT hZ (hw _ (List.mem_of_getElem? (i := 47) rfl))) (notFace_of_selects (args := #[]) (mvT hZ (hw _ (List.mem_of_getElem? (i := 49) rfl)))) (mvT hZ (hw _ (List.mem_of_getElem? (i := 49) rfl))) (mvT hZ (hw _ (List.mem_of_getElem? (i := 48) rfl))) (by decide) (backOf (W := 0) (own_rm_writeBound l Z aw hw [] b21 b2 bf22 kb22 vs22 1 (0 : Int64) (Int32.ofNat 1) (0 : Int64) q0 b3 k3 0 (List.replicate 0 (.int (0 : Int32))) T22.heap n0 Z_22 A21_22 Fb22 Fz22 Fp22 Fm22 Fq22 Vb22 hvs22 new22 g_b21 ge22 A2_22 Ft4_22 Fx4_22 V_b3_22 (Ne.symm ne_b2_b21) (Ne.symm ne_b2_bf22) (Ne.symm ne_b3_b21) (Ne.symm ne_b3_bf22) ne_b2_b3 (by omega) (by omega)) hZ (hw _ (List.mem_of_getElem? (i := 50) rfl)) (hw _ (List.mem_of_getElem? (i := 18) rfl)) (by decide) (by decide)) q23a q23c (g := (mkF m 84 #[.val (.long q0), .second, .val (.int p1), .val (.long q2), .second, .val (.int p3), .val (.int (Int32.ofNat np)), .val (.ref b1), .val (.ref b2), .val (.ref b5), .val (.int (0 : Int32)), .val (.ref b2), .val (.ref b21), .unset, .unset, .unset] [(.ref b2), (.ref b21)])) rfl (by rw [hml]; rfl) (Steps.refl _) (argsL := [(.ref b2)]) (rest := []) (lenOf own_pd9 rfl) rfl (by show 2 * 0 + _ ≤ _; exact Nat.le_of_eq rfl) (hb hby at_84) (fun _ _ => ⟨rfl, rfl, (by decide : 7 + 4 ≤ _), (by decide : 298 + 40 ≤ _)⟩)
    dsimp only [Pt.U, Pt.locs, Pt.cells, Pt.slots] at X23 l23 y23 z23 st23 hQ23
    subst l23 y23 z23
    obtain ⟨rfl, N23q, k23, n123, vs23, hl123, hu123, Fb23, Fz23, Fp23, Fm23, Fq23, Vb23, hvs23, hlo23, hsm23⟩ := hQ23
    have N_23 := Fr.app N_22 N23q
    have S_L_23 := own_Sta_keep S_L_22 k23 (allS (own_ns_exa A21_22) (allS (own_ns_arv Vb22) all0))
    have E_lw_23 := E_lw_22.keep k23
    have F_lt_23 := F_lt_22.keep k23 (ninS ne_lw_b21 (ninS ne_lw_bf22 nin0))
    have F_lp_23 := F_lp_22.keep k23 (ninS ne_lw_b21 (ninS ne_lw_bf22 nin0))
    have V_lp_23 := V_lp_22.keep k23 (ninS ne_lp_b21 (ninS ne_lp_bf22 nin0))
    have V_b1_23 := V_b1_22.keep k23 (ninS ne_b1_b21 (ninS ne_b1_bf22 nin0))
    have A2_23 := A2_22.keep k23
    have V_b3_23 := V_b3_22.keep k23 (ninS ne_b3_b21 (ninS ne_b3_bf22 nin0))
    have Ft4_23 := Ft4_22.keep k23 (ninS ne_b2_b21 (ninS ne_b2_bf22 nin0))
    have Fx4_23 := Fx4_22.keep k23 (ninS ne_b2_b21 (ninS ne_b2_bf22 nin0))
    have A5_23 := A5_22.keep k23
    have Ft6_23 := Ft6_22.keep k23 (ninS ne_b5_b21 (ninS ne_b5_bf22 nin0))
    have Fx6_23 := Fx6_22.keep k23 (ninS ne_b5_b21 (ninS ne_b5_bf22 nin0))
    have A21_23 := A21_22.keep k23
    have K_23 : Keep h0 T23.heap [] := K_22.trans k23 (allS (Or.inr sz_b21) (allS (Or.inr sz_bf22) all0))
    have Z_23 : n0 ≤ T23.heap.size := Nat.le_trans Z_22 k23.1
    refine own_step (fun _ k => st23.trans k) ?_
    show own_Ends p.tables e below _ (T23.setTop (mkF m 87 #[.val (.long q0), .second, .val (.int p1), .val (.long q2), .second, .val (.int p3), .val (.int (Int32.ofNat np)), .val (.ref b1), .val (.ref b2), .val (.ref b5), .val (.int (0 : Int32)), .val (.ref b2), .val (.ref b21), .unset, .unset, .unset] []))
    refine own_step (fun _ k => XS.aload X23.here hx rfl (hb hby at_87) rfl rfl k) ?_
    show own_Ends p.tables e below _ (T23.setTop (mkF m 89 #[.val (.long q0), .second, .val (.int p1), .val (.long q2), .second, .val (.int p3), .val (.int (Int32.ofNat np)), .val (.ref b1), .val (.ref b2), .val (.ref b5), .val (.int (0 : Int32)), .val (.ref b2), .val (.ref b21), .unset, .unset, .unset] [(.ref b21)]))
    refine own_step (fun _ k => XS.iloadN X23.here hx rfl (hb hby at_89) rfl k) ?_
    show own_Ends p.tables e below _ (T23.setTop (mkF m 90 #[.val (.long q0), .second, .val (.int p1), .val (.long q2), .second, .val (.int p3), .val (.int (Int32.ofNat np)), .val (.ref b1), .val (.ref b2), .val (.ref b5), .val (.int (0 : Int32)), .val (.ref b2), .val (.ref b21), .unset, .unset, .unset] [(.int p1), (.ref b21)]))
    obtain ⟨cq24, kq24, q24a, q24b, q24c⟩ := isOf hZ rfl A21_23
    obtain ⟨_, _, ⟨T24, L24, k24, n24⟩, -, X24, ⟨Lc24, hQ24, l24, y24, z24⟩, st24⟩ := X23.virtualBack hx (y := (⟨"com/example/ketchup/ketchup/negentropy/MessageWriter", "writeCount", "(I)V"⟩ : MethodName)) (z := (⟨"com/example/ketchup/ketchup/negentropy/MessageWriter", "writeCount", "(I)V"⟩ : MethodName)) hown (mvT hZ (hw _ (List.mem_of_getElem? (i := 68) rfl))) (mvT hZ (hw _ (List.mem_of_getElem? (i := 69) rfl))) (notFace_of_selects (args := #[]) (mvT hZ (hw _ (List.mem_of_getElem? (i := 71) rfl)))) (mvT hZ (hw _ (List.mem_of_getElem? (i := 71) rfl))) (mvT hZ (hw _ (List.mem_of_getElem? (i := 70) rfl))) (by decide) (backOf (W := 0) (own_rm_writeCount l Z aw hw [] b21 p1 bf22 kb22 vs23 (1 + n123 + 1 + 0) q0 (Int32.ofNat 1) (0 : Int64) T23.heap n0 Z_23 A21_23 Fb23 Fz23 Fp23 Fm23 Fq23 Vb23 hvs23 new22 g_b21 ge22 (by omega)) hZ (hw _ (List.mem_of_getElem? (i := 72) rfl)) (hw _ (List.mem_of_getElem? (i := 18) rfl)) (by decide) (by decide)) q24a q24c (g := (mkF m 90 #[.val (.long q0), .second, .val (.int p1), .val (.long q2), .second, .val (.int p3), .val (.int (Int32.ofNat np)), .val (.ref b1), .val (.ref b2), .val (.ref b5), .val (.int (0 : Int32)), .val (.ref b2), .val (.ref b21), .unset, .unset, .unset] [(.int p1), (.ref b21)])) rfl (by rw [hml]; rfl) (Steps.refl _) (argsL := [(.int p1)]) (rest := []) (lenOf own_pd10 rfl) rfl (by show 2 * 0 + _ ≤ _; exact Nat.le_of_eq rfl) (hb hby at_90) (fun _ _ => ⟨rfl, rfl, (by decide : 11 + 2 ≤ _), (by decide : 338 + 20 ≤ _)⟩)
    dsimp only [Pt.U, Pt.locs, Pt.cells, Pt.slots] at X24 l24 y24 z24 st24 hQ24
    subst l24 y24 z24
    obtain ⟨rfl, N24q, k24, n124, vs24, hl124, hu124, Fb24, Fz24, Fp24, Fm24, Fq24, Vb24, hvs24⟩ := hQ24
    have N_24 := Fr.app N_23 N24q
    have S_L_24 := own_Sta_keep S_L_23 k24 (allS (own_ns_exa A21_23) (allS (own_ns_arv Vb23) all0))
    have E_lw_24 := E_lw_23.keep k24
    have F_lt_24 := F_lt_23.keep k24 (ninS ne_lw_b21 (ninS ne_lw_bf22 nin0))
    have F_lp_24 := F_lp_23.keep k24 (ninS ne_lw_b21 (ninS ne_lw_bf22 nin0))
    have V_lp_24 := V_lp_23.keep k24 (ninS ne_lp_b21 (ninS ne_lp_bf22 nin0))
    have V_b1_24 := V_b1_23.keep k24 (ninS ne_b1_b21 (ninS ne_b1_bf22 nin0))
    have A2_24 := A2_23.keep k24
    have V_b3_24 := V_b3_23.keep k24 (ninS ne_b3_b21 (ninS ne_b3_bf22 nin0))
    have Ft4_24 := Ft4_23.keep k24 (ninS ne_b2_b21 (ninS ne_b2_bf22 nin0))
    have Fx4_24 := Fx4_23.keep k24 (ninS ne_b2_b21 (ninS ne_b2_bf22 nin0))
    have A5_24 := A5_23.keep k24
    have Ft6_24 := Ft6_23.keep k24 (ninS ne_b5_b21 (ninS ne_b5_bf22 nin0))
    have Fx6_24 := Fx6_23.keep k24 (ninS ne_b5_b21 (ninS ne_b5_bf22 nin0))
    have A21_24 := A21_23.keep k24
    have K_24 : Keep h0 T24.heap [] := K_23.trans k24 (allS (Or.inr sz_b21) (allS (Or.inr sz_bf22) all0))
    have Z_24 : n0 ≤ T24.heap.size := Nat.le_trans Z_23 k24.1
    obtain ⟨sz, hsz⟩ : ∃ z, z = (1 + n123 + 1 + 0) + n124 := ⟨_, rfl⟩
    rw [← hsz] at Fz24
    have hsz2 : sz ≤ 30 := by omega
    refine own_step (fun _ k => st24.trans k) ?_
    show own_Ends p.tables e below _ (T24.setTop (mkF m 93 #[.val (.long q0), .second, .val (.int p1), .val (.long q2), .second, .val (.int p3), .val (.int (Int32.ofNat np)), .val (.ref b1), .val (.ref b2), .val (.ref b5), .val (.int (0 : Int32)), .val (.ref b2), .val (.ref b21), .unset, .unset, .unset] []))
    refine own_step (fun _ k => XS.aload X24.here hx rfl (hb hby at_93) rfl rfl k) ?_
    show own_Ends p.tables e below _ (T24.setTop (mkF m 95 #[.val (.long q0), .second, .val (.int p1), .val (.long q2), .second, .val (.int p3), .val (.int (Int32.ofNat np)), .val (.ref b1), .val (.ref b2), .val (.ref b5), .val (.int (0 : Int32)), .val (.ref b2), .val (.ref b21), .unset, .unset, .unset] [(.ref b21)]))
    obtain ⟨cq25, kq25, q25a, q25b, q25c⟩ := isOf hZ rfl A21_24
    obtain ⟨_, _, ⟨T25, L25, k25, n25⟩, -, X25, ⟨Lc25, hQ25, l25, y25, z25⟩, st25⟩ := X24.virtualBack hx (y := (⟨"com/example/ketchup/ketchup/negentropy/MessageWriter", "mark", "()V"⟩ : MethodName)) (z := (⟨"com/example/ketchup/ketchup/negentropy/MessageWriter", "mark", "()V"⟩ : MethodName)) hown (mvT hZ (hw _ (List.mem_of_getElem? (i := 73) rfl))) (mvT hZ (hw _ (List.mem_of_getElem? (i := 36) rfl))) (notFace_of_selects (args := #[]) (mvT hZ (hw _ (List.mem_of_getElem? (i := 38) rfl)))) (mvT hZ (hw _ (List.mem_of_getElem? (i := 38) rfl))) (mvT hZ (hw _ (List.mem_of_getElem? (i := 37) rfl))) (by decide) (backOf (W := 0) (own_rm_mark l Z aw hw [] b21 bf22 kb22 vs24 sz q0 (Int32.ofNat 1) (0 : Int64) T24.heap n0 Z_24 A21_24 Fb24 Fz24 Fp24 Fm24 Fq24 Vb24 hvs24 new22 g_b21 ge22) hZ (hw _ (List.mem_of_getElem? (i := 39) rfl)) (hw _ (List.mem_of_getElem? (i := 18) rfl)) (by decide) (by decide)) q25a q25c (g := (mkF m 95 #[.val (.long q0), .second, .val (.int p1), .val (.long q2), .second, .val (.int p3), .val (.int (Int32.ofNat np)), .val (.ref b1), .val (.ref b2), .val (.ref b5), .val (.int (0 : Int32)), .val (.ref b2), .val (.ref b21), .unset, .unset, .unset] [(.ref b21)])) rfl (by rw [hml]; rfl) (Steps.refl _) (argsL := []) (rest := []) (lenOf own_pd2 rfl) rfl (by show 2 * 0 + _ ≤ _; exact Nat.le_of_eq rfl) (hb hby at_95) (fun _ _ => ⟨rfl, rfl, (by decide : 13 + 0 ≤ _), (by decide : 358 + 0 ≤ _)⟩)
    dsimp only [Pt.U, Pt.locs, Pt.cells, Pt.slots] at X25 l25 y25 z25 st25 hQ25
    subst l25 y25 z25
    obtain ⟨rfl, N25q, k25, Fb25, Fz25, Fp25, Fm25, Fq25⟩ := hQ25
    have N_25 := Fr.app N_24 N25q
    have S_L_25 := own_Sta_keep S_L_24 k25 (allS (own_ns_exa A21_24) all0)
    have E_lw_25 := E_lw_24.keep k25
    have F_lt_25 := F_lt_24.keep k25 (ninS ne_lw_b21 nin0)
    have F_lp_25 := F_lp_24.keep k25 (ninS ne_lw_b21 nin0)
    have V_lp_25 := V_lp_24.keep k25 (ninS ne_lp_b21 nin0)
    have V_b1_25 := V_b1_24.keep k25 (ninS ne_b1_b21 nin0)
    have A2_25 := A2_24.keep k25
    have V_b3_25 := V_b3_24.keep k25 (ninS ne_b3_b21 nin0)
    have Ft4_25 := Ft4_24.keep k25 (ninS ne_b2_b21 nin0)
    have Fx4_25 := Fx4_24.keep k25 (ninS ne_b2_b21 nin0)
    have A5_25 := A5_24.keep k25
    have Ft6_25 := Ft6_24.keep k25 (ninS ne_b5_b21 nin0)
    have Fx6_25 := Fx6_24.keep k25 (ninS ne_b5_b21 nin0)
    have A21_25 := A21_24.keep k25
    have Vb24_25 := Vb24.keep k25 (ninS (Ne.symm new22) nin0)
    have K_25 : Keep h0 T25.heap [] := K_24.trans k25 (allS (Or.inr sz_b21) all0)
    have Z_25 : n0 ≤ T25.heap.size := Nat.le_trans Z_24 k25.1
    refine own_step (fun _ k => st25.trans k) ?_
    show own_Ends p.tables e below _ (T25.setTop (mkF m 98 #[.val (.long q0), .second, .val (.int p1), .val (.long q2), .second, .val (.int p3), .val (.int (Int32.ofNat np)), .val (.ref b1), .val (.ref b2), .val (.ref b5), .val (.int (0 : Int32)), .val (.ref b2), .val (.ref b21), .unset, .unset, .unset] []))
    refine own_step (fun _ k => XS.aload X25.here hx rfl (hb hby at_98) rfl rfl k) ?_
    show own_Ends p.tables e below _ (T25.setTop (mkF m 100 #[.val (.long q0), .second, .val (.int p1), .val (.long q2), .second, .val (.int p3), .val (.int (Int32.ofNat np)), .val (.ref b1), .val (.ref b2), .val (.ref b5), .val (.int (0 : Int32)), .val (.ref b2), .val (.ref b21), .unset, .unset, .unset] [(.ref b21)]))
    obtain ⟨cq26, kq26, q26a, q26b, q26c⟩ := isOf hZ rfl A21_25
    obtain ⟨_, _, ⟨T26, L26, k26, n26⟩, -, X26, ⟨Lc26, hQ26, l26, y26, z26⟩, st26⟩ := X25.virtualBack hx (y := (⟨"com/example/ketchup/ketchup/negentropy/MessageWriter", "size", "()I"⟩ : MethodName)) (z := (⟨"com/example/ketchup/ketchup/negentropy/MessageWriter", "size", "()I"⟩ : MethodName)) hown (mvT hZ (hw _ (List.mem_of_getElem? (i := 74) rfl))) (mvT hZ (hw _ (List.mem_of_getElem? (i := 75) rfl))) (notFace_of_selects (args := #[]) (mvT hZ (hw _ (List.mem_of_getElem? (i := 77) rfl)))) (mvT hZ (hw _ (List.mem_of_getElem? (i := 77) rfl))) (mvT hZ (hw _ (List.mem_of_getElem? (i := 76) rfl))) (by decide) (backOf (W := 0) (own_rm_size l Z aw hw [] b21 (Int32.ofNat sz) T25.heap n0 Z_25 Fz25) hZ (hw _ (List.mem_of_getElem? (i := 78) rfl)) (hw _ (List.mem_of_getElem? (i := 18) rfl)) (by decide) (by decide)) q26a q26c (g := (mkF m 100 #[.val (.long q0), .second, .val (.int p1), .val (.long q2), .second, .val (.int p3), .val (.int (Int32.ofNat np)), .val (.ref b1), .val (.ref b2), .val (.ref b5), .val (.int (0 : Int32)), .val (.ref b2), .val (.ref b21), .unset, .unset, .unset] [(.ref b21)])) rfl (by rw [hml]; rfl) (Steps.refl _) (argsL := []) (rest := []) (lenOf own_pd11 rfl) rfl (by show 2 * 0 + _ ≤ _; exact Nat.le_of_eq rfl) (hb hby at_100) (fun _ _ => ⟨rfl, rfl, (by decide : 13 + 0 ≤ _), (by decide : 358 + 0 ≤ _)⟩)
    dsimp only [Pt.U, Pt.locs, Pt.cells, Pt.slots] at X26 l26 y26 z26 st26 hQ26
    subst l26 y26 z26
    obtain ⟨rfl, N26q, e26⟩ := hQ26
    have N_26 := Fr.app N_25 N26q
    refine own_step (fun _ k => st26.trans k) ?_
    show own_Ends p.tables e below _ (T26.setTop (mkF m 103 #[.val (.long q0), .second, .val (.int p1), .val (.long q2), .second, .val (.int p3), .val (.int (Int32.ofNat np)), .val (.ref b1), .val (.ref b2), .val (.ref b5), .val (.int (0 : Int32)), .val (.ref b2), .val (.ref b21), .unset, .unset, .unset] [(.int (Int32.ofNat sz))]))
    refine own_step (fun _ k => XS.istore X26.here hx rfl (hb hby at_103) rfl (l' := #[.val (.long q0), .second, .val (.int p1), .val (.long q2), .second, .val (.int p3), .val (.int (Int32.ofNat np)), .val (.ref b1), .val (.ref b2), .val (.ref b5), .val (.int (0 : Int32)), .val (.ref b2), .val (.ref b21), .val (.int (Int32.ofNat sz)), .unset, .unset]) rfl k) ?_
    show own_Ends p.tables e below _ (T26.setTop (mkF m 105 #[.val (.long q0), .second, .val (.int p1), .val (.long q2), .second, .val (.int p3), .val (.int (Int32.ofNat np)), .val (.ref b1), .val (.ref b2), .val (.ref b5), .val (.int (0 : Int32)), .val (.ref b2), .val (.ref b21), .val (.int (Int32.ofNat sz)), .unset, .unset] []))
    refine own_step (fun _ k => XS.aload X26.here hx rfl (hb hby at_105) rfl rfl k) ?_
    show own_Ends p.tables e below _ (T26.setTop (mkF m 107 #[.val (.long q0), .second, .val (.int p1), .val (.long q2), .second, .val (.int p3), .val (.int (Int32.ofNat np)), .val (.ref b1), .val (.ref b2), .val (.ref b5), .val (.int (0 : Int32)), .val (.ref b2), .val (.ref b21), .val (.int (Int32.ofNat sz)), .unset, .unset] [(.ref b21)]))
    refine own_step (fun _ k => XS.aload X26.here hx rfl (hb hby at_107) rfl rfl k) ?_
    show own_Ends p.tables e below _ (T26.setTop (mkF m 109 #[.val (.long q0), .second, .val (.int p1), .val (.long q2), .second, .val (.int p3), .val (.int (Int32.ofNat np)), .val (.ref b1), .val (.ref b2), .val (.ref b5), .val (.int (0 : Int32)), .val (.ref b2), .val (.ref b21), .val (.int (Int32.ofNat sz)), .unset, .unset] [(.ref b5), (.ref b21)]))
    obtain ⟨cq27, kq27, q27a, q27b, q27c⟩ := isOf hZ e26 A21_25
    obtain ⟨_, _, ⟨T27, L27, k27, n27⟩, -, X27, ⟨Lc27, hQ27, l27, y27, z27⟩, st27⟩ := X26.virtualBack hx (y := (⟨"com/example/ketchup/ketchup/negentropy/MessageWriter", "writeBound", "(Lcom/example/ketchup/ketchup/negentropy/Bound;)V"⟩ : MethodName)) (z := (⟨"com/example/ketchup/ketchup/negentropy/MessageWriter", "writeBound", "(Lcom/example/ketchup/ketchup/negentropy/Bound;)V"⟩ : MethodName)) hown (mvT hZ (hw _ (List.mem_of_getElem? (i := 46) rfl))) (mvT hZ (hw _ (List.mem_of_getElem? (i := 47) rfl))) (notFace_of_selects (args := #[]) (mvT hZ (hw _ (List.mem_of_getElem? (i := 49) rfl)))) (mvT hZ (hw _ (List.mem_of_getElem? (i := 49) rfl))) (mvT hZ (hw _ (List.mem_of_getElem? (i := 48) rfl))) (by decide) (backOf (W := 0) (own_rm_writeBound l Z aw hw [] b21 b5 bf22 kb22 vs24 sz q0 (Int32.ofNat sz) q0 q2 b1 k1 np (List.replicate 32 (.int (0 : Int32))) T25.heap n0 Z_25 A21_25 Fb25 Fz25 Fp25 Fm25 Fq25 Vb24_25 hvs24 new22 g_b21 ge22 A5_25 Ft6_25 Fx6_25 V_b1_25 (Ne.symm ne_b5_b21) (Ne.symm ne_b5_bf22) (Ne.symm ne_b1_b21) (Ne.symm ne_b1_bf22) (Ne.symm ne_b1_b5) (by omega) (by omega)) hZ (hw _ (List.mem_of_getElem? (i := 50) rfl)) (hw _ (List.mem_of_getElem? (i := 18) rfl)) (by decide) (by decide)) q27a q27c (g := (mkF m 109 #[.val (.long q0), .second, .val (.int p1), .val (.long q2), .second, .val (.int p3), .val (.int (Int32.ofNat np)), .val (.ref b1), .val (.ref b2), .val (.ref b5), .val (.int (0 : Int32)), .val (.ref b2), .val (.ref b21), .val (.int (Int32.ofNat sz)), .unset, .unset] [(.ref b5), (.ref b21)])) rfl (by rw [hml]; rfl) (Steps.refl _) (argsL := [(.ref b5)]) (rest := []) (lenOf own_pd9 rfl) rfl (by show 2 * 0 + _ ≤ _; exact Nat.le_of_eq rfl) (hb hby at_109) (fun _ _ => ⟨rfl, e26, (by decide : 13 + 4 ≤ _), (by decide : 358 + 40 ≤ _)⟩)
    dsimp only [Pt.U, Pt.locs, Pt.cells, Pt.slots] at X27 l27 y27 z27 st27 hQ27
    subst l27 y27 z27
    obtain ⟨rfl, N27q, k27, n127, vs27, hl127, hu127, Fb27, Fz27, Fp27, Fm27, Fq27, Vb27, hvs27, hlo27, hsm27⟩ := hQ27
    have N_27 := Fr.app N_26 N27q
    have S_L_27 := own_Sta_keep S_L_25 k27 (allS (own_ns_exa A21_25) (allS (own_ns_arv Vb24_25) all0))
    have E_lw_27 := E_lw_25.keep k27
    have F_lt_27 := F_lt_25.keep k27 (ninS ne_lw_b21 (ninS ne_lw_bf22 nin0))
    have F_lp_27 := F_lp_25.keep k27 (ninS ne_lw_b21 (ninS ne_lw_bf22 nin0))
    have V_lp_27 := V_lp_25.keep k27 (ninS ne_lp_b21 (ninS ne_lp_bf22 nin0))
    have V_b1_27 := V_b1_25.keep k27 (ninS ne_b1_b21 (ninS ne_b1_bf22 nin0))
    have A2_27 := A2_25.keep k27
    have V_b3_27 := V_b3_25.keep k27 (ninS ne_b3_b21 (ninS ne_b3_bf22 nin0))
    have Ft4_27 := Ft4_25.keep k27 (ninS ne_b2_b21 (ninS ne_b2_bf22 nin0))
    have Fx4_27 := Fx4_25.keep k27 (ninS ne_b2_b21 (ninS ne_b2_bf22 nin0))
    have A5_27 := A5_25.keep k27
    have Ft6_27 := Ft6_25.keep k27 (ninS ne_b5_b21 (ninS ne_b5_bf22 nin0))
    have Fx6_27 := Fx6_25.keep k27 (ninS ne_b5_b21 (ninS ne_b5_bf22 nin0))
    have A21_27 := A21_25.keep k27
    have K_27 : Keep h0 T27.heap [] := K_25.trans k27 (allS (Or.inr sz_b21) (allS (Or.inr sz_bf22) all0))
    have Z_27 : n0 ≤ T27.heap.size := Nat.le_trans Z_25 k27.1
    refine own_step (fun _ k => st27.trans k) ?_
    show own_Ends p.tables e below _ (T27.setTop (mkF m 112 #[.val (.long q0), .second, .val (.int p1), .val (.long q2), .second, .val (.int p3), .val (.int (Int32.ofNat np)), .val (.ref b1), .val (.ref b2), .val (.ref b5), .val (.int (0 : Int32)), .val (.ref b2), .val (.ref b21), .val (.int (Int32.ofNat sz)), .unset, .unset] []))
    refine own_step (fun _ k => XS.aload X27.here hx rfl (hb hby at_112) rfl rfl k) ?_
    show own_Ends p.tables e below _ (T27.setTop (mkF m 114 #[.val (.long q0), .second, .val (.int p1), .val (.long q2), .second, .val (.int p3), .val (.int (Int32.ofNat np)), .val (.ref b1), .val (.ref b2), .val (.ref b5), .val (.int (0 : Int32)), .val (.ref b2), .val (.ref b21), .val (.int (Int32.ofNat sz)), .unset, .unset] [(.ref b21)]))
    obtain ⟨cq28, kq28, q28a, q28b, q28c⟩ := isOf hZ rfl A21_27
    obtain ⟨_, _, ⟨T28, L28, k28, n28⟩, -, X28, ⟨Lc28, hQ28, l28, y28, z28⟩, st28⟩ := X27.virtualBack hx (y := (⟨"com/example/ketchup/ketchup/negentropy/MessageWriter", "reset", "()V"⟩ : MethodName)) (z := (⟨"com/example/ketchup/ketchup/negentropy/MessageWriter", "reset", "()V"⟩ : MethodName)) hown (mvT hZ (hw _ (List.mem_of_getElem? (i := 79) rfl))) (mvT hZ (hw _ (List.mem_of_getElem? (i := 80) rfl))) (notFace_of_selects (args := #[]) (mvT hZ (hw _ (List.mem_of_getElem? (i := 82) rfl)))) (mvT hZ (hw _ (List.mem_of_getElem? (i := 82) rfl))) (mvT hZ (hw _ (List.mem_of_getElem? (i := 81) rfl))) (by decide) (backOf (W := 0) (own_rm_reset l Z aw hw [] b21 bf22 kb22 vs27 (sz + n127 + 1 + np) q2 (Int32.ofNat sz) q0 T27.heap n0 Z_27 A21_27 Fb27 Fz27 Fp27 Fm27 Fq27 Vb27 hvs27 new22 g_b21 ge22) hZ (hw _ (List.mem_of_getElem? (i := 83) rfl)) (hw _ (List.mem_of_getElem? (i := 18) rfl)) (by decide) (by decide)) q28a q28c (g := (mkF m 114 #[.val (.long q0), .second, .val (.int p1), .val (.long q2), .second, .val (.int p3), .val (.int (Int32.ofNat np)), .val (.ref b1), .val (.ref b2), .val (.ref b5), .val (.int (0 : Int32)), .val (.ref b2), .val (.ref b21), .val (.int (Int32.ofNat sz)), .unset, .unset] [(.ref b21)])) rfl (by rw [hml]; rfl) (Steps.refl _) (argsL := []) (rest := []) (lenOf own_pd2 rfl) rfl (by show 2 * 0 + _ ≤ _; exact Nat.le_of_eq rfl) (hb hby at_114) (fun _ _ => ⟨rfl, rfl, (by decide : 17 + 0 ≤ _), (by decide : 398 + 0 ≤ _)⟩)
    dsimp only [Pt.U, Pt.locs, Pt.cells, Pt.slots] at X28 l28 y28 z28 st28 hQ28
    subst l28 y28 z28
    obtain ⟨rfl, N28q, k28, Fb28, Fz28, Fp28, Fm28, Fq28⟩ := hQ28
    have N_28 := Fr.app N_27 N28q
    have S_L_28 := own_Sta_keep S_L_27 k28 (allS (own_ns_exa A21_27) all0)
    have E_lw_28 := E_lw_27.keep k28
    have F_lt_28 := F_lt_27.keep k28 (ninS ne_lw_b21 nin0)
    have F_lp_28 := F_lp_27.keep k28 (ninS ne_lw_b21 nin0)
    have V_lp_28 := V_lp_27.keep k28 (ninS ne_lp_b21 nin0)
    have V_b1_28 := V_b1_27.keep k28 (ninS ne_b1_b21 nin0)
    have A2_28 := A2_27.keep k28
    have V_b3_28 := V_b3_27.keep k28 (ninS ne_b3_b21 nin0)
    have Ft4_28 := Ft4_27.keep k28 (ninS ne_b2_b21 nin0)
    have Fx4_28 := Fx4_27.keep k28 (ninS ne_b2_b21 nin0)
    have A5_28 := A5_27.keep k28
    have Ft6_28 := Ft6_27.keep k28 (ninS ne_b5_b21 nin0)
    have Fx6_28 := Fx6_27.keep k28 (ninS ne_b5_b21 nin0)
    have A21_28 := A21_27.keep k28
    have Vb27_28 := Vb27.keep k28 (ninS (Ne.symm new22) nin0)
    have K_28 : Keep h0 T28.heap [] := K_27.trans k28 (allS (Or.inr sz_b21) all0)
    have Z_28 : n0 ≤ T28.heap.size := Nat.le_trans Z_27 k28.1
    refine own_step (fun _ k => st28.trans k) ?_
    show own_Ends p.tables e below _ (T28.setTop (mkF m 117 #[.val (.long q0), .second, .val (.int p1), .val (.long q2), .second, .val (.int p3), .val (.int (Int32.ofNat np)), .val (.ref b1), .val (.ref b2), .val (.ref b5), .val (.int (0 : Int32)), .val (.ref b2), .val (.ref b21), .val (.int (Int32.ofNat sz)), .unset, .unset] []))
    refine own_step (fun _ k => XS.aload X28.here hx rfl (hb hby at_117) rfl rfl k) ?_
    show own_Ends p.tables e below _ (T28.setTop (mkF m 119 #[.val (.long q0), .second, .val (.int p1), .val (.long q2), .second, .val (.int p3), .val (.int (Int32.ofNat np)), .val (.ref b1), .val (.ref b2), .val (.ref b5), .val (.int (0 : Int32)), .val (.ref b2), .val (.ref b21), .val (.int (Int32.ofNat sz)), .unset, .unset] [(.ref b21)]))
    refine own_step (fun _ k => XS.aload X28.here hx rfl (hb hby at_119) rfl rfl k) ?_
    show own_Ends p.tables e below _ (T28.setTop (mkF m 121 #[.val (.long q0), .second, .val (.int p1), .val (.long q2), .second, .val (.int p3), .val (.int (Int32.ofNat np)), .val (.ref b1), .val (.ref b2), .val (.ref b5), .val (.int (0 : Int32)), .val (.ref b2), .val (.ref b21), .val (.int (Int32.ofNat sz)), .unset, .unset] [(.ref b2), (.ref b21)]))
    obtain ⟨cq29, kq29, q29a, q29b, q29c⟩ := isOf hZ rfl A21_28
    obtain ⟨_, _, ⟨T29, L29, k29, n29⟩, -, X29, ⟨Lc29, hQ29, l29, y29, z29⟩, st29⟩ := X28.virtualBack hx (y := (⟨"com/example/ketchup/ketchup/negentropy/MessageWriter", "writeBound", "(Lcom/example/ketchup/ketchup/negentropy/Bound;)V"⟩ : MethodName)) (z := (⟨"com/example/ketchup/ketchup/negentropy/MessageWriter", "writeBound", "(Lcom/example/ketchup/ketchup/negentropy/Bound;)V"⟩ : MethodName)) hown (mvT hZ (hw _ (List.mem_of_getElem? (i := 46) rfl))) (mvT hZ (hw _ (List.mem_of_getElem? (i := 47) rfl))) (notFace_of_selects (args := #[]) (mvT hZ (hw _ (List.mem_of_getElem? (i := 49) rfl)))) (mvT hZ (hw _ (List.mem_of_getElem? (i := 49) rfl))) (mvT hZ (hw _ (List.mem_of_getElem? (i := 48) rfl))) (by decide) (backOf (W := 0) (own_rm_writeBound l Z aw hw [] b21 b2 bf22 kb22 vs27 sz q0 (Int32.ofNat sz) q0 q0 b3 k3 0 (List.replicate 0 (.int (0 : Int32))) T28.heap n0 Z_28 A21_28 Fb28 Fz28 Fp28 Fm28 Fq28 Vb27_28 hvs27 new22 g_b21 ge22 A2_28 Ft4_28 Fx4_28 V_b3_28 (Ne.symm ne_b2_b21) (Ne.symm ne_b2_bf22) (Ne.symm ne_b3_b21) (Ne.symm ne_b3_bf22) ne_b2_b3 (by omega) (by omega)) hZ (hw _ (List.mem_of_getElem? (i := 50) rfl)) (hw _ (List.mem_of_getElem? (i := 18) rfl)) (by decide) (by decide)) q29a q29c (g := (mkF m 121 #[.val (.long q0), .second, .val (.int p1), .val (.long q2), .second, .val (.int p3), .val (.int (Int32.ofNat np)), .val (.ref b1), .val (.ref b2), .val (.ref b5), .val (.int (0 : Int32)), .val (.ref b2), .val (.ref b21), .val (.int (Int32.ofNat sz)), .unset, .unset] [(.ref b2), (.ref b21)])) rfl (by rw [hml]; rfl) (Steps.refl _) (argsL := [(.ref b2)]) (rest := []) (lenOf own_pd9 rfl) rfl (by show 2 * 0 + _ ≤ _; exact Nat.le_of_eq rfl) (hb hby at_121) (fun _ _ => ⟨rfl, rfl, (by decide : 17 + 4 ≤ _), (by decide : 398 + 40 ≤ _)⟩)
    dsimp only [Pt.U, Pt.locs, Pt.cells, Pt.slots] at X29 l29 y29 z29 st29 hQ29
    subst l29 y29 z29
    obtain ⟨rfl, N29q, k29, n129, vs29, hl129, hu129, Fb29, Fz29, Fp29, Fm29, Fq29, Vb29, hvs29, hlo29, hsm29⟩ := hQ29
    have N_29 := Fr.app N_28 N29q
    have S_L_29 := own_Sta_keep S_L_28 k29 (allS (own_ns_exa A21_28) (allS (own_ns_arv Vb27_28) all0))
    have E_lw_29 := E_lw_28.keep k29
    have F_lt_29 := F_lt_28.keep k29 (ninS ne_lw_b21 (ninS ne_lw_bf22 nin0))
    have F_lp_29 := F_lp_28.keep k29 (ninS ne_lw_b21 (ninS ne_lw_bf22 nin0))
    have V_lp_29 := V_lp_28.keep k29 (ninS ne_lp_b21 (ninS ne_lp_bf22 nin0))
    have V_b1_29 := V_b1_28.keep k29 (ninS ne_b1_b21 (ninS ne_b1_bf22 nin0))
    have A2_29 := A2_28.keep k29
    have V_b3_29 := V_b3_28.keep k29 (ninS ne_b3_b21 (ninS ne_b3_bf22 nin0))
    have Ft4_29 := Ft4_28.keep k29 (ninS ne_b2_b21 (ninS ne_b2_bf22 nin0))
    have Fx4_29 := Fx4_28.keep k29 (ninS ne_b2_b21 (ninS ne_b2_bf22 nin0))
    have A5_29 := A5_28.keep k29
    have Ft6_29 := Ft6_28.keep k29 (ninS ne_b5_b21 (ninS ne_b5_bf22 nin0))
    have Fx6_29 := Fx6_28.keep k29 (ninS ne_b5_b21 (ninS ne_b5_bf22 nin0))
    have A21_29 := A21_28.keep k29
    have K_29 : Keep h0 T29.heap [] := K_28.trans k29 (allS (Or.inr sz_b21) (allS (Or.inr sz_bf22) all0))
    have Z_29 : n0 ≤ T29.heap.size := Nat.le_trans Z_28 k29.1
    refine own_step (fun _ k => st29.trans k) ?_
    show own_Ends p.tables e below _ (T29.setTop (mkF m 124 #[.val (.long q0), .second, .val (.int p1), .val (.long q2), .second, .val (.int p3), .val (.int (Int32.ofNat np)), .val (.ref b1), .val (.ref b2), .val (.ref b5), .val (.int (0 : Int32)), .val (.ref b2), .val (.ref b21), .val (.int (Int32.ofNat sz)), .unset, .unset] []))
    have henc : own_enc q0 q0 = 1 := own_encB q0 hc46
    obtain ⟨hq1, hq2, hq3⟩ := hsm29 (by rw [henc]; decide)
    rw [henc] at hq2
    subst hq1
    refine own_step (fun _ k => XS.aload X29.here hx rfl (hb hby at_124) rfl rfl k) ?_
    show own_Ends p.tables e below _ (T29.setTop (mkF m 126 #[.val (.long q0), .second, .val (.int p1), .val (.long q2), .second, .val (.int p3), .val (.int (Int32.ofNat np)), .val (.ref b1), .val (.ref b2), .val (.ref b5), .val (.int (0 : Int32)), .val (.ref b2), .val (.ref b21), .val (.int (Int32.ofNat sz)), .unset, .unset] [(.ref b21)]))
    obtain ⟨cq30, kq30, q30a, q30b, q30c⟩ := isOf hZ rfl A21_29
    obtain ⟨_, _, ⟨T30, L30, k30, n30⟩, -, X30, ⟨Lc30, hQ30, l30, y30, z30⟩, st30⟩ := X29.virtualBack hx (y := (⟨"com/example/ketchup/ketchup/negentropy/MessageWriter", "toByteArray", "()[B"⟩ : MethodName)) (z := (⟨"com/example/ketchup/ketchup/negentropy/MessageWriter", "toByteArray", "()[B"⟩ : MethodName)) hown (mvT hZ (hw _ (List.mem_of_getElem? (i := 84) rfl))) (mvT hZ (hw _ (List.mem_of_getElem? (i := 85) rfl))) (notFace_of_selects (args := #[]) (mvT hZ (hw _ (List.mem_of_getElem? (i := 87) rfl)))) (mvT hZ (hw _ (List.mem_of_getElem? (i := 87) rfl))) (mvT hZ (hw _ (List.mem_of_getElem? (i := 86) rfl))) (by decide) (backOf (W := 0) (own_rm_toByteArray l Z aw hw [] b21 bf22 kb22 vs29 (sz + 1 + 1 + 0) T29.heap n0 Z_29 Fb29 Fz29 Vb29 hvs29 ge22 (by omega)) hZ (hw _ (List.mem_of_getElem? (i := 88) rfl)) (hw _ (List.mem_of_getElem? (i := 18) rfl)) (by decide) (by decide)) q30a q30c (g := (mkF m 126 #[.val (.long q0), .second, .val (.int p1), .val (.long q2), .second, .val (.int p3), .val (.int (Int32.ofNat np)), .val (.ref b1), .val (.ref b2), .val (.ref b5), .val (.int (0 : Int32)), .val (.ref b2), .val (.ref b21), .val (.int (Int32.ofNat sz)), .unset, .unset] [(.ref b21)])) rfl (by rw [hml]; rfl) (Steps.refl _) (argsL := []) (rest := []) (lenOf own_pd6 rfl) rfl (by show 2 * 0 + _ ≤ _; exact Nat.le_of_eq rfl) (hb hby at_126) (fun _ _ => ⟨rfl, rfl, (by decide : 21 + 1 ≤ _), (by decide : 438 + 64 ≤ _)⟩)
    dsimp only [Pt.U, Pt.locs, Pt.cells, Pt.slots] at X30 l30 y30 z30 st30 hQ30
    subst l30 y30 z30
    obtain ⟨bo30, ko30, uo30, rfl, N30q, k30, ge30, hs30, Vo30, ho30⟩ := hQ30
    have N_30 := Fr.app N_29 N30q
    have ne_lw_bo30 : lw ≠ bo30 := Nat.ne_of_lt (Nat.lt_of_lt_of_le E_lw_29.lt hs30)
    have ne_lp_bo30 : lp ≠ bo30 := Nat.ne_of_lt (Nat.lt_of_lt_of_le V_lp_29.lt hs30)
    have ne_b1_bo30 : b1 ≠ bo30 := Nat.ne_of_lt (Nat.lt_of_lt_of_le V_b1_29.lt hs30)
    have ne_b2_bo30 : b2 ≠ bo30 := Nat.ne_of_lt (Nat.lt_of_lt_of_le A2_29.lt hs30)
    have ne_b3_bo30 : b3 ≠ bo30 := Nat.ne_of_lt (Nat.lt_of_lt_of_le V_b3_29.lt hs30)
    have ne_b5_bo30 : b5 ≠ bo30 := Nat.ne_of_lt (Nat.lt_of_lt_of_le A5_29.lt hs30)
    have ne_b21_bo30 : b21 ≠ bo30 := Nat.ne_of_lt (Nat.lt_of_lt_of_le A21_29.lt hs30)
    have ne_bf22_bo30 : bf22 ≠ bo30 := Nat.ne_of_lt (Nat.lt_of_lt_of_le Vb29.lt hs30)
    have sz_bo30 : h0.size ≤ bo30 := Nat.le_trans K_29.1 hs30
    have S_L_30 := own_Sta_keep S_L_29 k30 all0
    have E_lw_30 := E_lw_29.keep k30
    have F_lt_30 := F_lt_29.keep k30 nin0
    have F_lp_30 := F_lp_29.keep k30 nin0
    have V_lp_30 := V_lp_29.keep k30 nin0
    have V_b1_30 := V_b1_29.keep k30 nin0
    have A2_30 := A2_29.keep k30
    have V_b3_30 := V_b3_29.keep k30 nin0
    have Ft4_30 := Ft4_29.keep k30 nin0
    have Fx4_30 := Fx4_29.keep k30 nin0
    have A5_30 := A5_29.keep k30
    have Ft6_30 := Ft6_29.keep k30 nin0
    have Fx6_30 := Fx6_29.keep k30 nin0
    have A21_30 := A21_29.keep k30
    have Fb29_30 := Fb29.keep k30 nin0
    have Fz29_30 := Fz29.keep k30 nin0
    have Fp29_30 := Fp29.keep k30 nin0
    have Fm29_30 := Fm29.keep k30 nin0
    have Fq29_30 := Fq29.keep k30 nin0
    have Vb29_30 := Vb29.keep k30 nin0
    have K_30 : Keep h0 T30.heap [] := K_29.trans k30 all0
    have Z_30 : n0 ≤ T30.heap.size := Nat.le_trans Z_29 k30.1
    refine own_step (fun _ k => st30.trans k) ?_
    show own_Ends p.tables e below _ (T30.setTop (mkF m 129 #[.val (.long q0), .second, .val (.int p1), .val (.long q2), .second, .val (.int p3), .val (.int (Int32.ofNat np)), .val (.ref b1), .val (.ref b2), .val (.ref b5), .val (.int (0 : Int32)), .val (.ref b2), .val (.ref b21), .val (.int (Int32.ofNat sz)), .unset, .unset] [(.ref bo30)]))
    refine own_step (fun _ k => XS.astore X30.here hx rfl (hb hby at_129) rfl rfl (l' := #[.val (.long q0), .second, .val (.int p1), .val (.long q2), .second, .val (.int p3), .val (.int (Int32.ofNat np)), .val (.ref b1), .val (.ref b2), .val (.ref b5), .val (.int (0 : Int32)), .val (.ref b2), .val (.ref b21), .val (.int (Int32.ofNat sz)), .val (.ref bo30), .unset]) rfl k) ?_
    show own_Ends p.tables e below _ (T30.setTop (mkF m 131 #[.val (.long q0), .second, .val (.int p1), .val (.long q2), .second, .val (.int p3), .val (.int (Int32.ofNat np)), .val (.ref b1), .val (.ref b2), .val (.ref b5), .val (.int (0 : Int32)), .val (.ref b2), .val (.ref b21), .val (.int (Int32.ofNat sz)), .val (.ref bo30), .unset] []))
    refine own_step (fun _ k => XS.iload X30.here hx rfl (hb hby at_131) rfl k) ?_
    show own_Ends p.tables e below _ (T30.setTop (mkF m 133 #[.val (.long q0), .second, .val (.int p1), .val (.long q2), .second, .val (.int p3), .val (.int (Int32.ofNat np)), .val (.ref b1), .val (.ref b2), .val (.ref b5), .val (.int (0 : Int32)), .val (.ref b2), .val (.ref b21), .val (.int (Int32.ofNat sz)), .val (.ref bo30), .unset] [(.int (0 : Int32))]))
    refine own_step (fun _ k => XS.ifYes X30.here hx rfl (pc0 := 133) (pc' := 140) rfl (hb hby at_133) rfl ((if0 _ _).trans (teq (by decide)).1) (by decide) (by decide) k) ?_
    show own_Ends p.tables e below _ (T30.setTop (mkF m 140 #[.val (.long q0), .second, .val (.int p1), .val (.long q2), .second, .val (.int p3), .val (.int (Int32.ofNat np)), .val (.ref b1), .val (.ref b2), .val (.ref b5), .val (.int (0 : Int32)), .val (.ref b2), .val (.ref b21), .val (.int (Int32.ofNat sz)), .val (.ref bo30), .unset] []))
    refine own_step (fun _ k => XS.iconst X30.here hx rfl (hb hby at_140) k) ?_
    show own_Ends p.tables e below _ (T30.setTop (mkF m 141 #[.val (.long q0), .second, .val (.int p1), .val (.long q2), .second, .val (.int p3), .val (.int (Int32.ofNat np)), .val (.ref b1), .val (.ref b2), .val (.ref b5), .val (.int (0 : Int32)), .val (.ref b2), .val (.ref b21), .val (.int (Int32.ofNat sz)), .val (.ref bo30), .unset] [(.int (1 : Int32))]))
    refine own_step (fun _ k => XS.istore X30.here hx rfl (hb hby at_141) rfl (l' := #[.val (.long q0), .second, .val (.int p1), .val (.long q2), .second, .val (.int p3), .val (.int (Int32.ofNat np)), .val (.ref b1), .val (.ref b2), .val (.ref b5), .val (.int (0 : Int32)), .val (.ref b2), .val (.ref b21), .val (.int (Int32.ofNat sz)), .val (.ref bo30), .val (.int (1 : Int32))]) rfl k) ?_
    show own_Ends p.tables e below _ (T30.setTop (mkF m 143 #[.val (.long q0), .second, .val (.int p1), .val (.long q2), .second, .val (.int p3), .val (.int (Int32.ofNat np)), .val (.ref b1), .val (.ref b2), .val (.ref b5), .val (.int (0 : Int32)), .val (.ref b2), .val (.ref b21), .val (.int (Int32.ofNat sz)), .val (.ref bo30), .val (.int (1 : Int32))] []))
    refine own_step (fun _ k => XS.aload X30.here hx rfl (hb hby at_143) rfl rfl k) ?_
    show own_Ends p.tables e below _ (T30.setTop (mkF m 145 #[.val (.long q0), .second, .val (.int p1), .val (.long q2), .second, .val (.int p3), .val (.int (Int32.ofNat np)), .val (.ref b1), .val (.ref b2), .val (.ref b5), .val (.int (0 : Int32)), .val (.ref b2), .val (.ref b21), .val (.int (Int32.ofNat sz)), .val (.ref bo30), .val (.int (1 : Int32))] [(.ref bo30)]))
    obtain ⟨cl31, Ar31, q31, S31, Nn31, H31, G31⟩ := id Vo30
    refine own_step (fun _ k => X30.arraylength hx Ar31.1 (State.isArrayOf_alike hZ.alike Ar31.2.1) (g := (mkF m 145 #[.val (.long q0), .second, .val (.int p1), .val (.long q2), .second, .val (.int p3), .val (.int (Int32.ofNat np)), .val (.ref b1), .val (.ref b2), .val (.ref b5), .val (.int (0 : Int32)), .val (.ref b2), .val (.ref b21), .val (.int (Int32.ofNat sz)), .val (.ref bo30), .val (.int (1 : Int32))] [(.ref bo30)])) rfl rfl (hb hby at_145) _ k) ?_
    rw [len_of S31 Nn31]
    show own_Ends p.tables e below _ (T30.setTop (mkF m 146 #[.val (.long q0), .second, .val (.int p1), .val (.long q2), .second, .val (.int p3), .val (.int (Int32.ofNat np)), .val (.ref b1), .val (.ref b2), .val (.ref b5), .val (.int (0 : Int32)), .val (.ref b2), .val (.ref b21), .val (.int (Int32.ofNat sz)), .val (.ref bo30), .val (.int (1 : Int32))] [(.int (Int32.ofNat (sz + 1 + 1 + 0)))]))
    refine own_step (fun _ k => XS.iload X30.here hx rfl (hb hby at_146) rfl k) ?_
    show own_Ends p.tables e below _ (T30.setTop (mkF m 148 #[.val (.long q0), .second, .val (.int p1), .val (.long q2), .second, .val (.int p3), .val (.int (Int32.ofNat np)), .val (.ref b1), .val (.ref b2), .val (.ref b5), .val (.int (0 : Int32)), .val (.ref b2), .val (.ref b21), .val (.int (Int32.ofNat sz)), .val (.ref bo30), .val (.int (1 : Int32))] [(.int (Int32.ofNat sz)), (.int (Int32.ofNat (sz + 1 + 1 + 0)))]))
    refine own_step (fun _ k => XS.iconst X30.here hx rfl (hb hby at_148) k) ?_
    show own_Ends p.tables e below _ (T30.setTop (mkF m 149 #[.val (.long q0), .second, .val (.int p1), .val (.long q2), .second, .val (.int p3), .val (.int (Int32.ofNat np)), .val (.ref b1), .val (.ref b2), .val (.ref b5), .val (.int (0 : Int32)), .val (.ref b2), .val (.ref b21), .val (.int (Int32.ofNat sz)), .val (.ref bo30), .val (.int (1 : Int32))] [(.int (2 : Int32)), (.int (Int32.ofNat sz)), (.int (Int32.ofNat (sz + 1 + 1 + 0)))]))
    refine own_step (fun _ k => XS.iadd X30.here hx rfl (hb hby at_149) rfl k) ?_
    show own_Ends p.tables e below _ (T30.setTop (mkF m 150 #[.val (.long q0), .second, .val (.int p1), .val (.long q2), .second, .val (.int p3), .val (.int (Int32.ofNat np)), .val (.ref b1), .val (.ref b2), .val (.ref b5), .val (.int (0 : Int32)), .val (.ref b2), .val (.ref b21), .val (.int (Int32.ofNat sz)), .val (.ref bo30), .val (.int (1 : Int32))] [(.int ((Int32.ofNat sz) + (2 : Int32))), (.int (Int32.ofNat (sz + 1 + 1 + 0)))]))
    rw [show ((Int32.ofNat sz) + (2 : Int32)) = (Int32.ofNat (sz + 1 + 1 + 0)) from own_add2 sz]
    show own_Ends p.tables e below _ (T30.setTop (mkF m 150 #[.val (.long q0), .second, .val (.int p1), .val (.long q2), .second, .val (.int p3), .val (.int (Int32.ofNat np)), .val (.ref b1), .val (.ref b2), .val (.ref b5), .val (.int (0 : Int32)), .val (.ref b2), .val (.ref b21), .val (.int (Int32.ofNat sz)), .val (.ref bo30), .val (.int (1 : Int32))] [(.int (Int32.ofNat (sz + 1 + 1 + 0))), (.int (Int32.ofNat (sz + 1 + 1 + 0)))]))
    refine own_step (fun _ k => XS.icmpNo X30.here hx rfl (hb hby at_150) rfl (teq rfl).2 k) ?_
    show own_Ends p.tables e below _ (T30.setTop (mkF m 153 #[.val (.long q0), .second, .val (.int p1), .val (.long q2), .second, .val (.int p3), .val (.int (Int32.ofNat np)), .val (.ref b1), .val (.ref b2), .val (.ref b5), .val (.int (0 : Int32)), .val (.ref b2), .val (.ref b21), .val (.int (Int32.ofNat sz)), .val (.ref bo30), .val (.int (1 : Int32))] []))
    refine own_step (fun _ k => XS.aload X30.here hx rfl (hb hby at_153) rfl rfl k) ?_
    show own_Ends p.tables e below _ (T30.setTop (mkF m 155 #[.val (.long q0), .second, .val (.int p1), .val (.long q2), .second, .val (.int p3), .val (.int (Int32.ofNat np)), .val (.ref b1), .val (.ref b2), .val (.ref b5), .val (.int (0 : Int32)), .val (.ref b2), .val (.ref b21), .val (.int (Int32.ofNat sz)), .val (.ref bo30), .val (.int (1 : Int32))] [(.ref bo30)]))
    refine own_step (fun _ k => XS.iload X30.here hx rfl (hb hby at_155) rfl k) ?_
    show own_Ends p.tables e below _ (T30.setTop (mkF m 157 #[.val (.long q0), .second, .val (.int p1), .val (.long q2), .second, .val (.int p3), .val (.int (Int32.ofNat np)), .val (.ref b1), .val (.ref b2), .val (.ref b5), .val (.int (0 : Int32)), .val (.ref b2), .val (.ref b21), .val (.int (Int32.ofNat sz)), .val (.ref bo30), .val (.int (1 : Int32))] [(.int (Int32.ofNat sz)), (.ref bo30)]))
    obtain ⟨cl32, Ar32, q32, S32, Nn32, H32, G32⟩ := id Vo30
    have hin32 : ¬ ((Int32.ofNat sz) < 0 ∨ cl32.slots.size ≤ ((Int32.ofNat sz)).toNatClampNeg) := inb_of S32 ⟨(own_nn (by omega)), ((own_nlt (by omega) (by omega)).mpr (by omega))⟩
    have hat32 : cl32.slots[((Int32.ofNat sz)).toNatClampNeg]? = some (.int (1 : Int32)) := H32.at hin32 (by rw [own_clamp (by omega), (ho30 sz (by omega))]; exact hq2)
    refine own_step (fun _ k => X30.baloadBytes hx (j := (Int32.ofNat sz)) (v := (.int (1 : Int32))) Ar32.1 (State.isArrayOf_alike hZ.alike Ar32.2.1) Ar32.2.2 hin32 hat32 (g := (mkF m 157 #[.val (.long q0), .second, .val (.int p1), .val (.long q2), .second, .val (.int p3), .val (.int (Int32.ofNat np)), .val (.ref b1), .val (.ref b2), .val (.ref b5), .val (.int (0 : Int32)), .val (.ref b2), .val (.ref b21), .val (.int (Int32.ofNat sz)), .val (.ref bo30), .val (.int (1 : Int32))] [(.int (Int32.ofNat sz)), (.ref bo30)])) rfl rfl (hb hby at_157) _ k) ?_
    show own_Ends p.tables e below _ (T30.setTop (mkF m 158 #[.val (.long q0), .second, .val (.int p1), .val (.long q2), .second, .val (.int p3), .val (.int (Int32.ofNat np)), .val (.ref b1), .val (.ref b2), .val (.ref b5), .val (.int (0 : Int32)), .val (.ref b2), .val (.ref b21), .val (.int (Int32.ofNat sz)), .val (.ref bo30), .val (.int (1 : Int32))] [(.int (1 : Int32))]))
    refine own_step (fun _ k => XS.iload X30.here hx rfl (hb hby at_158) rfl k) ?_
    show own_Ends p.tables e below _ (T30.setTop (mkF m 160 #[.val (.long q0), .second, .val (.int p1), .val (.long q2), .second, .val (.int p3), .val (.int (Int32.ofNat np)), .val (.ref b1), .val (.ref b2), .val (.ref b5), .val (.int (0 : Int32)), .val (.ref b2), .val (.ref b21), .val (.int (Int32.ofNat sz)), .val (.ref bo30), .val (.int (1 : Int32))] [(.int (1 : Int32)), (.int (1 : Int32))]))
    refine own_step (fun _ k => XS.icmpNo X30.here hx rfl (hb hby at_160) rfl (teq rfl).2 k) ?_
    show own_Ends p.tables e below _ (T30.setTop (mkF m 163 #[.val (.long q0), .second, .val (.int p1), .val (.long q2), .second, .val (.int p3), .val (.int (Int32.ofNat np)), .val (.ref b1), .val (.ref b2), .val (.ref b5), .val (.int (0 : Int32)), .val (.ref b2), .val (.ref b21), .val (.int (Int32.ofNat sz)), .val (.ref bo30), .val (.int (1 : Int32))] []))
    refine own_step (fun _ k => XS.aload X30.here hx rfl (hb hby at_163) rfl rfl k) ?_
    show own_Ends p.tables e below _ (T30.setTop (mkF m 165 #[.val (.long q0), .second, .val (.int p1), .val (.long q2), .second, .val (.int p3), .val (.int (Int32.ofNat np)), .val (.ref b1), .val (.ref b2), .val (.ref b5), .val (.int (0 : Int32)), .val (.ref b2), .val (.ref b21), .val (.int (Int32.ofNat sz)), .val (.ref bo30), .val (.int (1 : Int32))] [(.ref bo30)]))
    refine own_step (fun _ k => XS.iload X30.here hx rfl (hb hby at_165) rfl k) ?_
    show own_Ends p.tables e below _ (T30.setTop (mkF m 167 #[.val (.long q0), .second, .val (.int p1), .val (.long q2), .second, .val (.int p3), .val (.int (Int32.ofNat np)), .val (.ref b1), .val (.ref b2), .val (.ref b5), .val (.int (0 : Int32)), .val (.ref b2), .val (.ref b21), .val (.int (Int32.ofNat sz)), .val (.ref bo30), .val (.int (1 : Int32))] [(.int (Int32.ofNat sz)), (.ref bo30)]))
    refine own_step (fun _ k => XS.iconst X30.here hx rfl (hb hby at_167) k) ?_
    show own_Ends p.tables e below _ (T30.setTop (mkF m 168 #[.val (.long q0), .second, .val (.int p1), .val (.long q2), .second, .val (.int p3), .val (.int (Int32.ofNat np)), .val (.ref b1), .val (.ref b2), .val (.ref b5), .val (.int (0 : Int32)), .val (.ref b2), .val (.ref b21), .val (.int (Int32.ofNat sz)), .val (.ref bo30), .val (.int (1 : Int32))] [(.int (1 : Int32)), (.int (Int32.ofNat sz)), (.ref bo30)]))
    refine own_step (fun _ k => XS.iadd X30.here hx rfl (hb hby at_168) rfl k) ?_
    show own_Ends p.tables e below _ (T30.setTop (mkF m 169 #[.val (.long q0), .second, .val (.int p1), .val (.long q2), .second, .val (.int p3), .val (.int (Int32.ofNat np)), .val (.ref b1), .val (.ref b2), .val (.ref b5), .val (.int (0 : Int32)), .val (.ref b2), .val (.ref b21), .val (.int (Int32.ofNat sz)), .val (.ref bo30), .val (.int (1 : Int32))] [(.int ((Int32.ofNat sz) + (1 : Int32))), (.ref bo30)]))
    rw [show ((Int32.ofNat sz) + (1 : Int32)) = (Int32.ofNat (sz + 1)) from own_inc sz]
    show own_Ends p.tables e below _ (T30.setTop (mkF m 169 #[.val (.long q0), .second, .val (.int p1), .val (.long q2), .second, .val (.int p3), .val (.int (Int32.ofNat np)), .val (.ref b1), .val (.ref b2), .val (.ref b5), .val (.int (0 : Int32)), .val (.ref b2), .val (.ref b21), .val (.int (Int32.ofNat sz)), .val (.ref bo30), .val (.int (1 : Int32))] [(.int (Int32.ofNat (sz + 1))), (.ref bo30)]))
    obtain ⟨cl33, Ar33, q33, S33, Nn33, H33, G33⟩ := id Vo30
    have hin33 : ¬ ((Int32.ofNat (sz + 1)) < 0 ∨ cl33.slots.size ≤ ((Int32.ofNat (sz + 1))).toNatClampNeg) := inb_of S33 ⟨(own_nn (by omega)), ((own_nlt (by omega) (by omega)).mpr (by omega))⟩
    have hat33 : cl33.slots[((Int32.ofNat (sz + 1))).toNatClampNeg]? = some (.int (0 : Int32)) := H33.at hin33 (by rw [own_clamp (by omega), (ho30 (sz + 1) (by omega))]; exact hq3)
    refine own_step (fun _ k => X30.baloadBytes hx (j := (Int32.ofNat (sz + 1))) (v := (.int (0 : Int32))) Ar33.1 (State.isArrayOf_alike hZ.alike Ar33.2.1) Ar33.2.2 hin33 hat33 (g := (mkF m 169 #[.val (.long q0), .second, .val (.int p1), .val (.long q2), .second, .val (.int p3), .val (.int (Int32.ofNat np)), .val (.ref b1), .val (.ref b2), .val (.ref b5), .val (.int (0 : Int32)), .val (.ref b2), .val (.ref b21), .val (.int (Int32.ofNat sz)), .val (.ref bo30), .val (.int (1 : Int32))] [(.int (Int32.ofNat (sz + 1))), (.ref bo30)])) rfl rfl (hb hby at_169) _ k) ?_
    show own_Ends p.tables e below _ (T30.setTop (mkF m 170 #[.val (.long q0), .second, .val (.int p1), .val (.long q2), .second, .val (.int p3), .val (.int (Int32.ofNat np)), .val (.ref b1), .val (.ref b2), .val (.ref b5), .val (.int (0 : Int32)), .val (.ref b2), .val (.ref b21), .val (.int (Int32.ofNat sz)), .val (.ref bo30), .val (.int (1 : Int32))] [(.int (0 : Int32))]))
    refine own_step (fun _ k => XS.ifNo X30.here hx rfl (hb hby at_170) rfl ((if0 _ _).trans (teq (by decide)).2) k) ?_
    show own_Ends p.tables e below _ (T30.setTop (mkF m 173 #[.val (.long q0), .second, .val (.int p1), .val (.long q2), .second, .val (.int p3), .val (.int (Int32.ofNat np)), .val (.ref b1), .val (.ref b2), .val (.ref b5), .val (.int (0 : Int32)), .val (.ref b2), .val (.ref b21), .val (.int (Int32.ofNat sz)), .val (.ref bo30), .val (.int (1 : Int32))] []))
    refine own_step (fun _ k => XS.iconst X30.here hx rfl (hb hby at_173) k) ?_
    show own_Ends p.tables e below _ (T30.setTop (mkF m 174 #[.val (.long q0), .second, .val (.int p1), .val (.long q2), .second, .val (.int p3), .val (.int (Int32.ofNat np)), .val (.ref b1), .val (.ref b2), .val (.ref b5), .val (.int (0 : Int32)), .val (.ref b2), .val (.ref b21), .val (.int (Int32.ofNat sz)), .val (.ref bo30), .val (.int (1 : Int32))] [(.int (1 : Int32))]))
    refine own_step (fun _ k => XS.goto X30.here hx rfl (pc0 := 174) (pc' := 178) rfl (hb hby at_174) (by decide) (by decide) k) ?_
    show own_Ends p.tables e below _ (T30.setTop (mkF m 178 #[.val (.long q0), .second, .val (.int p1), .val (.long q2), .second, .val (.int p3), .val (.int (Int32.ofNat np)), .val (.ref b1), .val (.ref b2), .val (.ref b5), .val (.int (0 : Int32)), .val (.ref b2), .val (.ref b21), .val (.int (Int32.ofNat sz)), .val (.ref bo30), .val (.int (1 : Int32))] [(.int (1 : Int32))]))
    exact own_retN X30 hx hlk (by decide) (by decide) (t := .boolean) Bd.returns (by simp) (hb hby at_178) (⟨rfl, N_30⟩)
theorem own_len0 {args : Array Value} {s : State} {t : Term} {a : Addr} {c : Cell} {ty : FieldType} {k : Int32} (ev : t.eval args s none [] s = some (.ref a)) (A : Arr s s.heap a c ty) (h : (Term.length t).eval args s none [] s = some (.int k)) : c.slots.size < 2 ^ 31 ∧ c.slots.size.toInt32 = k := by
  have ha : s.arrayAt? a = some c := A.fin (State.Warmed39.refl s).alike
  simp only [Term.eval, Option.bind_eq_bind] at h
  simp [ev] at h
  obtain ⟨cell, hcell, h⟩ := Option.bind_eq_some_iff.mp h
  rw [ha] at hcell; cases hcell
  by_cases q : c.slots.size < 2147483648
  · rw [if_pos q] at h; cases h; exact ⟨q, rfl⟩
  · rw [if_neg q] at h; cases h
set_option maxRecDepth 65536 in
set_option maxHeartbeats 40000000 in
theorem own_comes_1 {Post : Tables → Env → Array Value → State → Outcome → State → Prop} (hpost : ∀ tb e args s v u, (limb_1_1.after args s (.returned v) u = true ∧ limb_1_2.after args s (.returned v) u = true ∧ True) → FrameEnd s (.returned v) u (Jvm.fieldLocs frame_1_writes args s ++ Jvm.arrayLocs frame_1_arrays args s ++ Jvm.staticLocs frame_1_statics s) 56 960 → Post tb e args s (.returned v) u) :
    ArmFor flags0 classFile x code maxLocals ret World_1 tables_1 room_1 Calls_1 rest_1 Pre_1 Post := by
  intro l hfl _ _ p e ha hc hk s m args below hf hA hF happ hP
  obtain ⟨hcalls, hrest, hpre⟩ := hP
  obtain ⟨-, -, -, hnamed, -, -, -, hat⟩ := (Spec.applies_iff hf).mp happ
  obtain ⟨hg, hn⟩ := and_e (Cond.before_iff.mp (show (Jvm.Cond.and given_1 narrow_1).before args s = true from hpre))
  obtain ⟨g0, r0⟩ := and_e hg
  obtain ⟨g1, r1⟩ := and_e r0
  obtain ⟨g2, r2⟩ := and_e r1
  obtain ⟨g3, r3⟩ := and_e r2
  obtain ⟨w0, w1, w2, w3, rfl⟩ : ∃ w0 w1 w2 w3 : Value, args = #[w0, w1, w2, w3] := by
    have hs : args.size = 4 := by simpa [Cond.value, given_1] using g0
    obtain ⟨L⟩ := args
    match L, hs with
    | [w0, w1, w2, w3], _ => exact ⟨w0, w1, w2, w3, rfl⟩
  have hw := fun d (hd : d ∈ tables_1) => atoms_spec (ws := Jvm.Cond.code x code maxLocals ret :: tables_1) hat d (List.mem_cons_of_mem _ hd)
  have hfit : Fit s := fun {y c} hc i hi => by
    obtain ⟨ha, rfl⟩ := Array.getElem?_eq_some_iff.mp hc
    have q := List.all_eq_true.mp ((Array.all_eq_true_iff_forall_mem.mp hF) _ (Array.getElem_mem ha)) i (List.mem_range.mpr hi)
    simpa [Array.getElem?_eq_getElem hi] using q
  obtain ⟨i0, ei0⟩ := isL_v g1
  obtain rfl : w0 = (.long i0) := Option.some.inj ei0
  obtain ⟨i1, ei1⟩ := is_v g2
  obtain rfl : w1 = (.int i1) := Option.some.inj ei1
  obtain ⟨i2, ei2⟩ := isL_v g3
  obtain rfl : w2 = (.long i2) := Option.some.inj ei2
  obtain ⟨i3, ei3⟩ := is_v r3
  obtain rfl : w3 = (.int i3) := Option.some.inj ei3
  obtain ⟨c0, d0⟩ := and_e hn
  obtain ⟨c1, d1⟩ := and_e d0
  obtain ⟨c2, d2⟩ := and_e d1
  obtain ⟨c3, d3⟩ := and_e d2
  obtain ⟨lw, ew⟩ := exa_v c0
  have S_L := Sta.start ew (Or.inr ⟨hw _ (List.mem_of_getElem? (i := 4) rfl), hw _ (List.mem_of_getElem? (i := 99) rfl)⟩)
  have E_lw := Exa.start ew c0
  have F_lt := Fld.start ((fld_at ew).symm.trans (own_eq_long c1))
  obtain ⟨lp, ep⟩ := arr_v c2
  have F_lp := Fld.start ((fld_at ew).symm.trans ep)
  obtain ⟨cl, A⟩ := Arr.start ep c2
  obtain ⟨q1, q2⟩ := own_len0 ep A (own_eq_int d3)
  have V_lp : Arv s s.heap lp cl.cls .byte (Int32.ofNat 0) [] (Value.int (0 : Int32)) := Arv.start hfit A q1 q2 (by decide) rfl trivial
  have ne_wp : lw ≠ lp := ne_arr E_lw (hw _ (List.mem_of_getElem? (i := 3) rfl)) A
  obtain ⟨n, o, h1, h2, h3, _, L, rfl, ⟨rfl, N⟩, hq⟩ := own_rm_law l s _ hw tables_1 i0 i1 i2 i3 lw lp cl.cls [] s.heap s.heap.size (Nat.le_refl _) S_L E_lw F_lt F_lp V_lp ne_wp p e ha hc hk s m _ below hf ((Spec.applies_iff_loose hf).mp happ).1 ⟨rfl, State.Warmed39.refl s, rfl⟩ trivial
  refine ⟨n, _, h1, h2, h3, hpost _ _ _ _ _ _ ⟨Cond.after_iff.mpr rfl, Cond.after_iff.mpr (eq_i res_at (Term.int_eval (1)) rfl), trivial⟩ ⟨hq.1, hq.2.1, (hq.2.2.sift fun y hy => Or.inr (N y hy)).mono (by decide) (by decide)⟩⟩
theorem main_1_1 : Claimed_1_1 := own_comes_1 fun _ _ _ _ _ _ h hF => ⟨h.1, hF⟩
theorem main_1_2 : Claimed_1_2 := own_comes_1 fun _ _ _ _ _ _ h hF => ⟨h.2.1, hF⟩
end Jvm.Pilot.@@N@@
namespace Jvm.Pilot.@@N@@
open Jvm Jvm.ClassFile Sem Op Lib Jvm.Free Jvm.Stand Jvm.Pilot.@@N@@.Jvm.D
/-! MADE BY PROGRAM (witnessworld.py) out of the Statement's table words and the real class files: 14 classes; the members and pool entries that the words name. The judged class is class 1, her method 1. -/
namespace start1
open Jvm.ClassFile
def u (s : String) : CpInfo := .utf8 (stringToUtf16 s)
/-- a pool by its gaps: so many unusable entries, then the entry; so many at the end -/
def gap : Nat → List CpInfo → List CpInfo
  | 0, r => r
  | n + 1, r => .unusable :: gap n r
def poolList (es : List (Nat × CpInfo)) (last : Nat) : List CpInfo := es.foldr (fun e r => gap e.1 (e.2 :: r)) (gap last [])
def pool (es : List (Nat × CpInfo)) (last : Nat) : Array CpInfo := ⟨poolList es last⟩
def fileOf (pool : Array CpInfo) (this : Nat) (attrs : Array Attribute := #[]) (ms : Array MethodInfo := #[]) (fl : Nat := 33) (sup : Nat := 0) (ifs : Array Nat := #[]) (fds : Array FieldInfo := #[]) : ClassFile where
  minorVersion := 0
  majorVersion := 65
  constantPool := pool
  accessFlags := fl
  thisClass := this
  superClass := sup
  interfaces := ifs
  fields := fds
  methods := ms
  attributes := attrs
def plain (name : String) (sup : Option ClassId) : Class where
  name := name
  kind := .ordinary
  loader := none
  accessFlags := 33
  super := sup
  interfaces := #[]
  cf := none
  fields := #[]
  methods := #[]
  instanceTypes := #[]
  staticTypes := #[]
  resolved := #[]
  callSites := []
  init := .initialized
  statics := none
  mirror := none

def pool0 : Array CpInfo := pool [(5, u "<init>"), (0, u "()V"), (1, .class_ 10), (1, u "java/lang/Object")] 113

def k0c0 : Code := { maxStack := 0, maxLocals := 1, code := object_method_1_code, exceptionTable := #[], attributes := #[] }
def k0m0 : Method := { name := "<init>", desc := "()V", sig := { parameters := [], returnType := none }, accessFlags := 1, code := some k0c0 }
/-- java/lang/Object -/
def k0 : Class := { plain "java/lang/Object" none with
  accessFlags := 33
  interfaces := #[]
  cf := some (fileOf pool0 8 #[] #[{ accessFlags := 1, nameIndex := 5, descriptorIndex := 6, attributes := #[] }] 33 0 #[] #[])
  fields := #[]
  methods := #[k0m0]
  instanceTypes := #[]
  staticTypes := #[]
  resolved := Array.replicate 124 none
  statics := none }

def pool1 : Array CpInfo := pool [(2, .class_ 4), (0, .nameAndType 5 6), (0, u "java/lang/Object"), (0, u "<init>"), (0, u "()V"), (0, .integer 2147483647), (0, .class_ 9), (0, u "com/example/ketchup/ketchup/negentropy/Bound"), (0, .methodref 8 11), (0, .nameAndType 5 12), (0, u "(J[B)V"), (0, .long 18446744073709551615), (1, .fieldref 8 16), (0, .nameAndType 17 18), (0, u "LOWEST"), (0, u "Lcom/example/ketchup/ketchup/negentropy/Bound;"), (0, .class_ 20), (0, u "com/example/ketchup/ketchup/negentropy/MessageWriter"), (0, .methodref 19 3), (0, .methodref 19 23), (0, .nameAndType 24 25), (0, u "writeBound"), (0, u "(Lcom/example/ketchup/ketchup/negentropy/Bound;)V"), (0, .methodref 19 27), (0, .nameAndType 28 29), (0, u "writeCount"), (0, u "(I)V"), (0, .methodref 19 31), (0, .nameAndType 32 6), (0, u "mark"), (0, .methodref 19 34), (0, .nameAndType 35 36), (0, u "size"), (0, u "()I"), (0, .methodref 19 38), (0, .nameAndType 39 6), (0, u "reset"), (0, .methodref 19 41), (0, .nameAndType 42 43), (0, u "toByteArray"), (0, u "()[B"), (0, .class_ 45), (0, u "com/example/ketchup/ketchup/negentropy/MessageWriterMarkPinLaw"), (2, u "law"), (0, u "(JIJI)Z")] 5

def k1m0 : Method := { name := "<init>", desc := "()V", sig := { parameters := [], returnType := none }, accessFlags := 1, code := none }
def k1c1 : Code := { maxStack := 5, maxLocals := 16, code := code, exceptionTable := #[], attributes := #[] }
def k1m1 : Method := { name := "law", desc := "(JIJI)Z", sig := { parameters := [.long, .int, .long, .int], returnType := some .boolean }, accessFlags := 9, code := some k1c1 }
/-- com/example/ketchup/ketchup/negentropy/MessageWriterMarkPinLaw -/
def k1 : Class := { plain "com/example/ketchup/ketchup/negentropy/MessageWriterMarkPinLaw" (some 0) with
  accessFlags := 49
  interfaces := #[]
  cf := some (fileOf pool1 44 #[] #[{ accessFlags := 1, nameIndex := 5, descriptorIndex := 6, attributes := #[] }, { accessFlags := 9, nameIndex := 48, descriptorIndex := 49, attributes := #[] }] 49 2 #[] #[])
  fields := #[]
  methods := #[k1m0, k1m1]
  instanceTypes := #[]
  staticTypes := #[]
  resolved := Array.replicate 55 none
  statics := none }

def pool2 : Array CpInfo := pool [(1, .methodref 2 3), (0, .class_ 4), (0, .nameAndType 5 6), (0, u "java/lang/Object"), (0, u "<init>"), (0, u "()V"), (11, .fieldref 19 20), (0, .class_ 21), (0, .nameAndType 22 23), (0, u "com/example/ketchup/ketchup/negentropy/Bound"), (0, u "timestamp"), (0, u "J"), (0, .fieldref 19 25), (0, .nameAndType 26 27), (0, u "prefix"), (0, u "[B"), (23, u "(J[B)V"), (2, u "LOWEST"), (0, u "Lcom/example/ketchup/ketchup/negentropy/Bound;"), (4, u "HIGHEST"), (0, u "INFINITY"), (5, u "()J"), (0, u "()[B")] 20

def k2c0 : Code := { maxStack := 3, maxLocals := 4, code := prog_11_method_1_code, exceptionTable := #[], attributes := #[] }
def k2m0 : Method := { name := "<init>", desc := "(J[B)V", sig := { parameters := [.long, (.array .byte)], returnType := none }, accessFlags := 0, code := some k2c0 }
def k2c1 : Code := { maxStack := 2, maxLocals := 1, code := prog_11_method_2_code, exceptionTable := #[], attributes := #[] }
def k2m1 : Method := { name := "timestamp", desc := "()J", sig := { parameters := [], returnType := some .long }, accessFlags := 0, code := some k2c1 }
def k2c2 : Code := { maxStack := 1, maxLocals := 1, code := prog_11_method_3_code, exceptionTable := #[], attributes := #[] }
def k2m2 : Method := { name := "prefix", desc := "()[B", sig := { parameters := [], returnType := some (.array .byte) }, accessFlags := 0, code := some k2c2 }
/-- com/example/ketchup/ketchup/negentropy/Bound -/
def k2 : Class := { plain "com/example/ketchup/ketchup/negentropy/Bound" (some 0) with
  accessFlags := 48
  interfaces := #[]
  cf := some (fileOf pool2 19 #[] #[{ accessFlags := 0, nameIndex := 5, descriptorIndex := 51, attributes := #[] }, { accessFlags := 0, nameIndex := 22, descriptorIndex := 67, attributes := #[] }, { accessFlags := 0, nameIndex := 26, descriptorIndex := 68, attributes := #[] }] 48 2 #[] #[{ accessFlags := 24, nameIndex := 61, descriptorIndex := 23, attributes := #[] }, { accessFlags := 24, nameIndex := 54, descriptorIndex := 55, attributes := #[] }, { accessFlags := 24, nameIndex := 60, descriptorIndex := 55, attributes := #[] }, { accessFlags := 18, nameIndex := 22, descriptorIndex := 23, attributes := #[] }, { accessFlags := 18, nameIndex := 26, descriptorIndex := 27, attributes := #[] }])
  fields := #[{ name := "INFINITY", type := .long, accessFlags := 24, slot := 0, constantValue := 0 }, { name := "LOWEST", type := (.object "com/example/ketchup/ketchup/negentropy/Bound"), accessFlags := 24, slot := 1, constantValue := 0 }, { name := "HIGHEST", type := (.object "com/example/ketchup/ketchup/negentropy/Bound"), accessFlags := 24, slot := 2, constantValue := 0 }, { name := "timestamp", type := .long, accessFlags := 18, slot := 0, constantValue := 0 }, { name := "prefix", type := (.array .byte), accessFlags := 18, slot := 1, constantValue := 0 }]
  methods := #[k2m0, k2m1, k2m2]
  instanceTypes := #[.long, (.array .byte)]
  staticTypes := #[.long, (.object "com/example/ketchup/ketchup/negentropy/Bound"), (.object "com/example/ketchup/ketchup/negentropy/Bound")]
  resolved := Array.replicate 89 none
  statics := some 0 }

def pool3 : Array CpInfo := pool [(1, .methodref 2 3), (0, .class_ 4), (0, .nameAndType 5 6), (0, u "java/lang/Object"), (0, u "<init>"), (0, u "()V"), (0, .fieldref 8 9), (0, .class_ 10), (0, .nameAndType 11 12), (0, u "com/example/ketchup/ketchup/negentropy/MessageWriter"), (0, u "buffer"), (0, u "[B"), (0, .methodref 8 14), (0, .nameAndType 15 16), (0, u "write"), (0, u "([B)V"), (0, .methodref 8 18), (0, .nameAndType 19 6), (0, u "mark"), (0, .fieldref 8 21), (0, .nameAndType 22 23), (0, u "size"), (0, u "I"), (0, .fieldref 8 25), (0, .nameAndType 26 23), (0, u "markedSize"), (0, .fieldref 8 28), (0, .nameAndType 29 30), (0, u "previousTimestamp"), (0, u "J"), (0, .fieldref 8 32), (0, .nameAndType 33 30), (0, u "markedPreviousTimestamp"), (0, .methodref 35 36), (0, .class_ 37), (0, .nameAndType 38 39), (0, u "com/example/ketchup/ketchup/negentropy/Bound"), (0, u "timestamp"), (0, u "()J"), (0, .long 18446744073709551615), (1, .methodref 43 44), (0, .class_ 45), (0, .nameAndType 46 47), (0, u "com/example/ketchup/ketchup/negentropy/Varint"), (0, u "encode"), (0, u "(J)[B"), (0, .methodref 35 49), (0, .nameAndType 50 51), (0, u "prefix"), (0, u "()[B"), (5, u "()I"), (5, .methodref 64 65), (0, .class_ 66), (0, .nameAndType 67 68), (0, u "java/util/Arrays"), (0, u "copyOf"), (0, u "([BI)[B"), (6, .methodref 76 77), (0, .class_ 78), (0, .nameAndType 79 80), (0, u "java/lang/System"), (0, u "arraycopy"), (0, u "(Ljava/lang/Object;ILjava/lang/Object;II)V"), (0, u "VERSION"), (0, u "B"), (4, u "reset"), (0, u "writeBound"), (0, u "(Lcom/example/ketchup/ketchup/negentropy/Bound;)V"), (5, u "writeCount"), (0, u "(I)V"), (1, u "toByteArray")] 2

def k3c0 : Code := { maxStack := 5, maxLocals := 1, code := prog_18_method_1_code, exceptionTable := #[], attributes := #[] }
def k3m0 : Method := { name := "<init>", desc := "()V", sig := { parameters := [], returnType := none }, accessFlags := 0, code := some k3c0 }
def k3c1 : Code := { maxStack := 1, maxLocals := 1, code := prog_18_method_2_code, exceptionTable := #[], attributes := #[] }
def k3m1 : Method := { name := "size", desc := "()I", sig := { parameters := [], returnType := some .int }, accessFlags := 0, code := some k3c1 }
def k3c2 : Code := { maxStack := 3, maxLocals := 1, code := prog_18_method_3_code, exceptionTable := #[], attributes := #[] }
def k3m2 : Method := { name := "mark", desc := "()V", sig := { parameters := [], returnType := none }, accessFlags := 0, code := some k3c2 }
def k3c3 : Code := { maxStack := 3, maxLocals := 1, code := prog_18_method_4_code, exceptionTable := #[], attributes := #[] }
def k3m3 : Method := { name := "reset", desc := "()V", sig := { parameters := [], returnType := none }, accessFlags := 0, code := some k3c3 }
def k3c4 : Code := { maxStack := 5, maxLocals := 5, code := prog_18_method_5_code, exceptionTable := #[], attributes := #[] }
def k3m4 : Method := { name := "writeBound", desc := "(Lcom/example/ketchup/ketchup/negentropy/Bound;)V", sig := { parameters := [(.object "com/example/ketchup/ketchup/negentropy/Bound")], returnType := none }, accessFlags := 0, code := some k3c4 }
def k3c5 : Code := { maxStack := 3, maxLocals := 2, code := prog_18_method_8_code, exceptionTable := #[], attributes := #[] }
def k3m5 : Method := { name := "writeCount", desc := "(I)V", sig := { parameters := [.int], returnType := none }, accessFlags := 0, code := some k3c5 }
def k3c6 : Code := { maxStack := 2, maxLocals := 1, code := prog_18_method_10_code, exceptionTable := #[], attributes := #[] }
def k3m6 : Method := { name := "toByteArray", desc := "()[B", sig := { parameters := [], returnType := some (.array .byte) }, accessFlags := 0, code := some k3c6 }
def k3c7 : Code := { maxStack := 5, maxLocals := 2, code := prog_18_method_11_code, exceptionTable := #[], attributes := #[] }
def k3m7 : Method := { name := "write", desc := "([B)V", sig := { parameters := [(.array .byte)], returnType := none }, accessFlags := 2, code := some k3c7 }
/-- com/example/ketchup/ketchup/negentropy/MessageWriter -/
def k3 : Class := { plain "com/example/ketchup/ketchup/negentropy/MessageWriter" (some 0) with
  accessFlags := 48
  interfaces := #[]
  cf := some (fileOf pool3 8 #[] #[{ accessFlags := 0, nameIndex := 5, descriptorIndex := 6, attributes := #[] }, { accessFlags := 0, nameIndex := 22, descriptorIndex := 57, attributes := #[] }, { accessFlags := 0, nameIndex := 19, descriptorIndex := 6, attributes := #[] }, { accessFlags := 0, nameIndex := 87, descriptorIndex := 6, attributes := #[] }, { accessFlags := 0, nameIndex := 88, descriptorIndex := 89, attributes := #[] }, { accessFlags := 0, nameIndex := 95, descriptorIndex := 96, attributes := #[] }, { accessFlags := 0, nameIndex := 98, descriptorIndex := 51, attributes := #[] }, { accessFlags := 2, nameIndex := 15, descriptorIndex := 16, attributes := #[] }] 48 2 #[] #[{ accessFlags := 24, nameIndex := 81, descriptorIndex := 82, attributes := #[] }, { accessFlags := 2, nameIndex := 11, descriptorIndex := 12, attributes := #[] }, { accessFlags := 2, nameIndex := 22, descriptorIndex := 23, attributes := #[] }, { accessFlags := 2, nameIndex := 29, descriptorIndex := 30, attributes := #[] }, { accessFlags := 2, nameIndex := 26, descriptorIndex := 23, attributes := #[] }, { accessFlags := 2, nameIndex := 33, descriptorIndex := 30, attributes := #[] }])
  fields := #[{ name := "VERSION", type := .byte, accessFlags := 24, slot := 0, constantValue := 0 }, { name := "buffer", type := (.array .byte), accessFlags := 2, slot := 0, constantValue := 0 }, { name := "size", type := .int, accessFlags := 2, slot := 1, constantValue := 0 }, { name := "previousTimestamp", type := .long, accessFlags := 2, slot := 2, constantValue := 0 }, { name := "markedSize", type := .int, accessFlags := 2, slot := 3, constantValue := 0 }, { name := "markedPreviousTimestamp", type := .long, accessFlags := 2, slot := 4, constantValue := 0 }]
  methods := #[k3m0, k3m1, k3m2, k3m3, k3m4, k3m5, k3m6, k3m7]
  instanceTypes := #[(.array .byte), .int, .long, .int, .long]
  staticTypes := #[.byte]
  resolved := Array.replicate 101 none
  statics := none }

def pool4 : Array CpInfo := pool [(2, .class_ 4), (1, u "java/lang/Object"), (0, u "<init>"), (0, u "()V"), (1, .class_ 10), (1, u "java/lang/System"), (0, u "allowSecurityManager"), (0, u "I"), (16, u "cons"), (0, u "Ljava/io/Console;"), (77, .class_ 110), (1, u "java/lang/System$CallersHolder"), (43, u "initialErrStream"), (0, u "Ljava/io/PrintStream;"), (19, u "security"), (0, u "Ljava/lang/SecurityManager;"), (31, .class_ 209), (0, u "java/lang/System$1"), (7, u "props"), (0, u "Ljava/util/Properties;"), (2, u "lineSeparator"), (0, u "Ljava/lang/String;"), (96, .class_ 321), (1, u "java/lang/System$LoggerFinder"), (5, .class_ 328), (0, u "java/lang/System$Logger"), (67, u "err"), (2, u "out"), (91, u "notSupportedJnuEncoding"), (15, u "in"), (17, u "initialIn"), (0, u "Ljava/io/InputStream;"), (35, u "bootLayer"), (0, u "Ljava/lang/ModuleLayer;"), (99, .class_ 664), (0, u "java/lang/System$2"), (9, u "NEVER"), (2, u "MAYBE"), (49, u "arraycopy"), (0, u "(Ljava/lang/Object;ILjava/lang/Object;II)V"), (72, .class_ 802), (0, u "java/lang/System$Logger$Level")] 31

def k4m0 : Method := { name := "<init>", desc := "()V", sig := { parameters := [], returnType := none }, accessFlags := 2, code := none }
def k4m1 : Method := { name := "arraycopy", desc := "(Ljava/lang/Object;ILjava/lang/Object;II)V", sig := { parameters := [(.object "java/lang/Object"), .int, (.object "java/lang/Object"), .int, .int], returnType := none }, accessFlags := 265, code := none }
/-- java/lang/System -/
def k4 : Class := { plain "java/lang/System" (some 0) with
  accessFlags := 49
  interfaces := #[]
  cf := some (fileOf pool4 8 #[.nestMembers #[319, 327, 801, 108, 663, 208]] #[{ accessFlags := 2, nameIndex := 5, descriptorIndex := 6, attributes := #[] }, { accessFlags := 265, nameIndex := 727, descriptorIndex := 728, attributes := #[] }] 49 2 #[] #[{ accessFlags := 25, nameIndex := 507, descriptorIndex := 526, attributes := #[] }, { accessFlags := 25, nameIndex := 399, descriptorIndex := 155, attributes := #[] }, { accessFlags := 25, nameIndex := 396, descriptorIndex := 155, attributes := #[] }, { accessFlags := 10, nameIndex := 525, descriptorIndex := 526, attributes := #[] }, { accessFlags := 26, nameIndex := 674, descriptorIndex := 12, attributes := #[] }, { accessFlags := 26, nameIndex := 677, descriptorIndex := 12, attributes := #[] }, { accessFlags := 10, nameIndex := 11, descriptorIndex := 12, attributes := #[] }, { accessFlags := 74, nameIndex := 175, descriptorIndex := 176, attributes := #[] }, { accessFlags := 10, nameIndex := 491, descriptorIndex := 222, attributes := #[] }, { accessFlags := 74, nameIndex := 29, descriptorIndex := 30, attributes := #[] }, { accessFlags := 74, nameIndex := 154, descriptorIndex := 155, attributes := #[] }, { accessFlags := 10, nameIndex := 217, descriptorIndex := 218, attributes := #[] }, { accessFlags := 10, nameIndex := 221, descriptorIndex := 222, attributes := #[] }, { accessFlags := 8, nameIndex := 562, descriptorIndex := 563, attributes := #[] }])
  fields := #[{ name := "in", type := (.object "java/io/InputStream"), accessFlags := 25, slot := 0, constantValue := 0 }, { name := "out", type := (.object "java/io/PrintStream"), accessFlags := 25, slot := 1, constantValue := 0 }, { name := "err", type := (.object "java/io/PrintStream"), accessFlags := 25, slot := 2, constantValue := 0 }, { name := "initialIn", type := (.object "java/io/InputStream"), accessFlags := 10, slot := 3, constantValue := 0 }, { name := "NEVER", type := .int, accessFlags := 26, slot := 4, constantValue := 0 }, { name := "MAYBE", type := .int, accessFlags := 26, slot := 5, constantValue := 0 }, { name := "allowSecurityManager", type := .int, accessFlags := 10, slot := 6, constantValue := 0 }, { name := "security", type := (.object "java/lang/SecurityManager"), accessFlags := 74, slot := 7, constantValue := 0 }, { name := "notSupportedJnuEncoding", type := (.object "java/lang/String"), accessFlags := 10, slot := 8, constantValue := 0 }, { name := "cons", type := (.object "java/io/Console"), accessFlags := 74, slot := 9, constantValue := 0 }, { name := "initialErrStream", type := (.object "java/io/PrintStream"), accessFlags := 74, slot := 10, constantValue := 0 }, { name := "props", type := (.object "java/util/Properties"), accessFlags := 10, slot := 11, constantValue := 0 }, { name := "lineSeparator", type := (.object "java/lang/String"), accessFlags := 10, slot := 12, constantValue := 0 }, { name := "bootLayer", type := (.object "java/lang/ModuleLayer"), accessFlags := 8, slot := 13, constantValue := 0 }]
  methods := #[k4m0, k4m1]
  instanceTypes := #[]
  staticTypes := #[(.object "java/io/InputStream"), (.object "java/io/PrintStream"), (.object "java/io/PrintStream"), (.object "java/io/InputStream"), .int, .int, .int, (.object "java/lang/SecurityManager"), (.object "java/lang/String"), (.object "java/io/Console"), (.object "java/io/PrintStream"), (.object "java/util/Properties"), (.object "java/lang/String"), (.object "java/lang/ModuleLayer")]
  resolved := Array.replicate 834 none
  statics := none }

def pool5 : Array CpInfo := pool [(2, .class_ 4), (1, u "java/lang/Object"), (0, u "<init>"), (0, u "()V"), (0, .class_ 8), (0, u "com/example/ketchup/ketchup/negentropy/Varint"), (0, .long 127), (1, .methodref 12 13), (0, .class_ 14), (0, .nameAndType 15 16), (0, u "java/lang/System"), (0, u "arraycopy"), (0, u "(Ljava/lang/Object;ILjava/lang/Object;II)V"), (22, u "MAX_LENGTH"), (0, u "I"), (4, u "encode"), (0, u "(J)[B")] 8

def k5m0 : Method := { name := "<init>", desc := "()V", sig := { parameters := [], returnType := none }, accessFlags := 2, code := none }
def k5c1 : Code := { maxStack := 6, maxLocals := 7, code := prog_32_method_2_code, exceptionTable := #[], attributes := #[] }
def k5m1 : Method := { name := "encode", desc := "(J)[B", sig := { parameters := [.long], returnType := some (.array .byte) }, accessFlags := 8, code := some k5c1 }
/-- com/example/ketchup/ketchup/negentropy/Varint -/
def k5 : Class := { plain "com/example/ketchup/ketchup/negentropy/Varint" (some 0) with
  accessFlags := 48
  interfaces := #[]
  cf := some (fileOf pool5 7 #[] #[{ accessFlags := 2, nameIndex := 5, descriptorIndex := 6, attributes := #[] }, { accessFlags := 8, nameIndex := 45, descriptorIndex := 46, attributes := #[] }] 48 2 #[] #[{ accessFlags := 24, nameIndex := 39, descriptorIndex := 40, attributes := #[] }])
  fields := #[{ name := "MAX_LENGTH", type := .int, accessFlags := 24, slot := 0, constantValue := 0 }]
  methods := #[k5m0, k5m1]
  instanceTypes := #[]
  staticTypes := #[.int]
  resolved := Array.replicate 55 none
  statics := none }

def pool6 : Array CpInfo := pool [(2, .class_ 4), (1, u "java/lang/Object"), (0, u "<init>"), (0, u "()V"), (7, .class_ 16), (1, u "java/util/Arrays"), (57, .class_ 76), (1, u "java/util/Arrays$NaturalOrder"), (36, .class_ 115), (1, u "java/util/Arrays$LegacyMergeSort"), (1, u "Z"), (32, .methodref 151 152), (0, .class_ 153), (0, .nameAndType 154 155), (0, u "java/lang/System"), (0, u "arraycopy"), (0, u "(Ljava/lang/Object;ILjava/lang/Object;II)V"), (146, u "copyOf"), (1, .methodref 305 306), (0, .class_ 307), (0, .nameAndType 308 309), (0, u "java/lang/Math"), (0, u "min"), (0, u "(II)I"), (65, .class_ 376), (0, u "java/util/Arrays$ArrayList"), (68, u "$assertionsDisabled"), (269, u "MIN_ARRAY_SORT_GRAN"), (0, u "I"), (2, u "INSERTIONSORT_THRESHOLD"), (149, u "([BI)[B"), (105, .class_ 976), (0, u "java/util/Arrays$ArrayItr")] 52

def k6m0 : Method := { name := "<init>", desc := "()V", sig := { parameters := [], returnType := none }, accessFlags := 2, code := none }
def k6c1 : Code := { maxStack := 6, maxLocals := 3, code := jdk_65_method_121_code, exceptionTable := #[], attributes := #[] }
def k6m1 : Method := { name := "copyOf", desc := "([BI)[B", sig := { parameters := [(.array .byte), .int], returnType := some (.array .byte) }, accessFlags := 9, code := some k6c1 }
/-- java/util/Arrays -/
def k6 : Class := { plain "java/util/Arrays" (some 0) with
  accessFlags := 49
  interfaces := #[]
  cf := some (fileOf pool6 14 #[.nestMembers #[975, 375, 113, 74]] #[{ accessFlags := 2, nameIndex := 5, descriptorIndex := 6, attributes := #[] }, { accessFlags := 9, nameIndex := 302, descriptorIndex := 869, attributes := #[] }] 49 2 #[] #[{ accessFlags := 26, nameIndex := 715, descriptorIndex := 716, attributes := #[] }, { accessFlags := 26, nameIndex := 719, descriptorIndex := 716, attributes := #[] }, { accessFlags := 4120, nameIndex := 445, descriptorIndex := 117, attributes := #[] }])
  fields := #[{ name := "MIN_ARRAY_SORT_GRAN", type := .int, accessFlags := 26, slot := 0, constantValue := 0 }, { name := "INSERTIONSORT_THRESHOLD", type := .int, accessFlags := 26, slot := 1, constantValue := 0 }, { name := "$assertionsDisabled", type := .boolean, accessFlags := 4120, slot := 2, constantValue := 0 }]
  methods := #[k6m0, k6m1]
  instanceTypes := #[]
  staticTypes := #[.int, .int, .boolean]
  resolved := Array.replicate 1029 none
  statics := none }

def pool7 : Array CpInfo := pool [(1, .class_ 2), (0, u "java/lang/Math"), (1, .class_ 6), (1, u "java/lang/Object"), (0, u "<init>"), (0, u "()V"), (89, .class_ 100), (1, u "java/lang/Math$RandomNumberGeneratorHolder"), (71, u "negativeZeroFloatBits"), (0, u "J"), (2, u "negativeZeroDoubleBits"), (24, u "min"), (43, u "$assertionsDisabled"), (0, u "Z"), (88, u "(II)I"), (2, u "twoToTheDoubleScaleDown"), (0, u "D"), (4, u "twoToTheDoubleScaleUp"), (9, u "E"), (3, u "PI"), (2, u "TAU"), (2, u "DEGREES_TO_RADIANS"), (0, u "RADIANS_TO_DEGREES")] 94

def k7m0 : Method := { name := "<init>", desc := "()V", sig := { parameters := [], returnType := none }, accessFlags := 2, code := none }
def k7c1 : Code := { maxStack := 2, maxLocals := 2, code := jdk_29_method_69_code, exceptionTable := #[], attributes := #[] }
def k7m1 : Method := { name := "min", desc := "(II)I", sig := { parameters := [.int, .int], returnType := some .int }, accessFlags := 9, code := some k7c1 }
/-- java/lang/Math -/
def k7 : Class := { plain "java/lang/Math" (some 0) with
  accessFlags := 49
  interfaces := #[]
  cf := some (fileOf pool7 1 #[.nestMembers #[98]] #[{ accessFlags := 2, nameIndex := 7, descriptorIndex := 8, attributes := #[] }, { accessFlags := 9, nameIndex := 201, descriptorIndex := 335, attributes := #[] }] 49 4 #[] #[{ accessFlags := 25, nameIndex := 354, descriptorIndex := 339, attributes := #[] }, { accessFlags := 25, nameIndex := 358, descriptorIndex := 339, attributes := #[] }, { accessFlags := 25, nameIndex := 361, descriptorIndex := 339, attributes := #[] }, { accessFlags := 26, nameIndex := 364, descriptorIndex := 339, attributes := #[] }, { accessFlags := 26, nameIndex := 365, descriptorIndex := 339, attributes := #[] }, { accessFlags := 26, nameIndex := 172, descriptorIndex := 173, attributes := #[] }, { accessFlags := 26, nameIndex := 176, descriptorIndex := 173, attributes := #[] }, { accessFlags := 8, nameIndex := 344, descriptorIndex := 339, attributes := #[] }, { accessFlags := 8, nameIndex := 338, descriptorIndex := 339, attributes := #[] }, { accessFlags := 4120, nameIndex := 245, descriptorIndex := 246, attributes := #[] }])
  fields := #[{ name := "E", type := .double, accessFlags := 25, slot := 0, constantValue := 0 }, { name := "PI", type := .double, accessFlags := 25, slot := 1, constantValue := 0 }, { name := "TAU", type := .double, accessFlags := 25, slot := 2, constantValue := 0 }, { name := "DEGREES_TO_RADIANS", type := .double, accessFlags := 26, slot := 3, constantValue := 0 }, { name := "RADIANS_TO_DEGREES", type := .double, accessFlags := 26, slot := 4, constantValue := 0 }, { name := "negativeZeroFloatBits", type := .long, accessFlags := 26, slot := 5, constantValue := 0 }, { name := "negativeZeroDoubleBits", type := .long, accessFlags := 26, slot := 6, constantValue := 0 }, { name := "twoToTheDoubleScaleUp", type := .double, accessFlags := 8, slot := 7, constantValue := 0 }, { name := "twoToTheDoubleScaleDown", type := .double, accessFlags := 8, slot := 8, constantValue := 0 }, { name := "$assertionsDisabled", type := .boolean, accessFlags := 4120, slot := 9, constantValue := 0 }]
  methods := #[k7m0, k7m1]
  instanceTypes := #[]
  staticTypes := #[.double, .double, .double, .double, .double, .long, .long, .double, .double, .boolean]
  resolved := Array.replicate 460 none
  statics := none }

def pool8 : Array CpInfo := pool [(1, u "java/lang/Cloneable"), (0, .class_ 1), (0, u "java/lang/Object"), (0, .class_ 3)] 3

/-- java/lang/Cloneable -/
def k8 : Class := { plain "java/lang/Cloneable" (some 0) with
  accessFlags := 1537
  interfaces := #[]
  cf := some (fileOf pool8 2 #[] #[] 1537 4 #[] #[])
  fields := #[]
  methods := #[]
  instanceTypes := #[]
  staticTypes := #[]
  resolved := Array.replicate 8 none
  statics := none }

def pool9 : Array CpInfo := pool [(1, u "java/io/Serializable"), (0, .class_ 1), (0, u "java/lang/Object"), (0, .class_ 3)] 3

/-- java/io/Serializable -/
def k9 : Class := { plain "java/io/Serializable" (some 0) with
  accessFlags := 1537
  interfaces := #[]
  cf := some (fileOf pool9 2 #[] #[] 1537 4 #[] #[])
  fields := #[]
  methods := #[]
  instanceTypes := #[]
  staticTypes := #[]
  resolved := Array.replicate 8 none
  statics := none }

/-- the primitive byte -/
def k10 : Class := { plain "byte" none with kind := .primitive 'B', accessFlags := 0x411 }
/-- [B -/
def k11 : Class := { plain "[B" (some 0) with kind := .array 10 .byte, interfaces := #[8, 9], accessFlags := 1041 }

/-- the primitive int -/
def k12 : Class := { plain "int" none with kind := .primitive 'I', accessFlags := 0x411 }
/-- [I -/
def k13 : Class := { plain "[I" (some 0) with kind := .array 12 .int, interfaces := #[8, 9], accessFlags := 1041 }

def heap : Heap := #[{ cls := 2, slots := #[.long 0, .ref 2, .null], vm := .statics 2 },
  { cls := 11, slots := #[], vm := .none },
  { cls := 2, slots := #[.long 0, .ref 1], vm := .none }]
def classes : Array Class := #[k0, k1, k2, k3, k4, k5, k6, k7, k8, k9, k10, k11, k12, k13]
def interned : List (Array UInt16 × Addr) := []
def slotsUsed : Nat := 5
def theMethod : MethodId := ⟨1, 1⟩
def args0 : Array Value := #[.long 5, .int 3, .long 7, .int 3]
def aboutOver (below : List Frame) : State where
  vm := { classes := classes, interned := interned.toArray }
  heap := heap
  slotsUsed := slotsUsed
  threads := #[{ frames := .invoking theMethod args0 :: below }]
def below0 : List Frame := [.native { method := ⟨0, 0⟩, args := #[] }]
def about1 : State := aboutOver below0
def p0 : Program := .bare "" "" ""
def e0 : Env := launch0.env 0 0 0
theorem w_frames : about1.frames = Frame.invoking theMethod args0 :: below0 := rfl
set_option maxRecDepth 65536 in
theorem w_args : argsFit about1.vm theMethod args0 = true := by decide +kernel
set_option maxRecDepth 65536 in
theorem w_heap : heapFits about1 = true := by decide +kernel
set_option maxRecDepth 65536 in
theorem w_runnable : about1.curStatus? = some .runnable := by decide +kernel
set_option maxRecDepth 65536 in
theorem w_alone : about1.alone = true := by decide +kernel
set_option maxRecDepth 65536 in
theorem w_named : about1.methodNamed? x = some theMethod := by decide +kernel
set_option maxRecDepth 65536 in
theorem w_hears : about1.hears theMethod below0 = true := by decide +kernel
set_option maxRecDepth 65536 in
theorem w_ripe : about1.ripe theMethod args0 below0 = true := by decide +kernel
theorem w_running : about1.status = .running := rfl
set_option maxRecDepth 65536 in
theorem w_room : about1.hasRoom e0.platform room_1 = true :=
  launch0.hasRoom_least _ room_1 (by decide +kernel) (by decide +kernel) (by decide +kernel) (by decide +kernel) (by decide +kernel) (by decide +kernel)
theorem allAtoms_all (ts : List Jvm.Cond) (a : Array Jvm.Value) (st : Jvm.State) : (allAtoms ts).before a st = ts.all (fun c => c.before a st) := by
  induction ts with
  | nil => rfl
  | cons c t ih =>
    show (Jvm.Cond.and c (allAtoms t)).before a st = _
    rw [Jvm.Cond.before_and, ih, List.all_cons]
def words1 : List Jvm.Cond := Jvm.Cond.code x code maxLocals ret :: tables_1
/-- a 'code' word, met by the world's own term for the bytes: nothing is compared byte by byte -/
theorem code_word {y : MethodName} {bytes : ByteArray} {mx : Nat} {rt : Option FieldType} {a : Array Value} {s : State} {m : MethodId} {meth : Method} {c : Code} (h1 : s.methodNamed? y = some m) (h2 : s.vm.method? m = some meth) (h3 : meth.code = some c) (h4 : c.code = bytes)
    (h5 : (c.maxLocals == mx && c.exceptionTable.isEmpty && decide (c.maxStack ≤ mostOperands) && decide (meth.sig.returnType = rt) && !meth.locks && decide (parseMethodDescriptor y.desc = some meth.sig)) = true) : (Jvm.Cond.code y bytes mx rt).before a s = true := by
  simp only [Bool.and_eq_true, beq_iff_eq, Bool.not_eq_true', decide_eq_true_eq] at h5
  obtain ⟨⟨⟨⟨⟨g1, g2⟩, g3⟩, g4⟩, g5⟩, g6⟩ := h5
  simp [Cond.before, Cond.holds, Cond.value, h1, h2, h3, h4, g1, g2, g3, g4, g5, g6]
def isCode : Jvm.Cond → Bool
  | .code _ _ _ _ => true
  | _ => false
theorem all_split {L : List Jvm.Cond} {P : Jvm.Cond → Bool} (h1 : L.all (fun c => isCode c || P c) = true) (h2 : ∀ c ∈ L.filter isCode, P c = true) : L.all P = true := by
  refine List.all_eq_true.mpr fun c hc => ?_
  have h := List.all_eq_true.mp h1 c hc
  rcases Bool.eq_false_or_eq_true (isCode c) with hi | hi
  · exact h2 c (List.mem_filter.mpr ⟨hc, hi⟩)
  · simpa [hi] using h
set_option maxRecDepth 65536 in
theorem w_c0 : (Jvm.Cond.code x code maxLocals ret).before args0 about1 = true := code_word (m := ⟨1, 1⟩) (meth := k1m1) (c := k1c1) (by decide +kernel) rfl rfl rfl (by decide +kernel)
set_option maxRecDepth 65536 in
theorem w_c1 : (Jvm.Cond.code ({ cls := "com/example/ketchup/ketchup/negentropy/Bound", name := "<init>", desc := "(J[B)V" } : Jvm.MethodName) prog_11_method_1_code (4 : Nat) (Option.none : Option Jvm.ClassFile.FieldType)).before args0 about1 = true := code_word (m := ⟨2, 0⟩) (meth := k2m0) (c := k2c0) (by decide +kernel) rfl rfl rfl (by decide +kernel)
set_option maxRecDepth 65536 in
theorem w_c2 : (Jvm.Cond.code ({ cls := "java/lang/Object", name := "<init>", desc := "()V" } : Jvm.MethodName) object_method_1_code (1 : Nat) (Option.none : Option Jvm.ClassFile.FieldType)).before args0 about1 = true := code_word (m := ⟨0, 0⟩) (meth := k0m0) (c := k0c0) (by decide +kernel) rfl rfl rfl (by decide +kernel)
set_option maxRecDepth 65536 in
theorem w_c3 : (Jvm.Cond.code ({ cls := "com/example/ketchup/ketchup/negentropy/MessageWriter", name := "<init>", desc := "()V" } : Jvm.MethodName) prog_18_method_1_code (1 : Nat) (Option.none : Option Jvm.ClassFile.FieldType)).before args0 about1 = true := code_word (m := ⟨3, 0⟩) (meth := k3m0) (c := k3c0) (by decide +kernel) rfl rfl rfl (by decide +kernel)
set_option maxRecDepth 65536 in
theorem w_c4 : (Jvm.Cond.code ({ cls := "com/example/ketchup/ketchup/negentropy/MessageWriter", name := "write", desc := "([B)V" } : Jvm.MethodName) prog_18_method_11_code (2 : Nat) (Option.none : Option Jvm.ClassFile.FieldType)).before args0 about1 = true := code_word (m := ⟨3, 7⟩) (meth := k3m7) (c := k3c7) (by decide +kernel) rfl rfl rfl (by decide +kernel)
set_option maxRecDepth 65536 in
theorem w_c5 : (Jvm.Cond.code ({ cls := "com/example/ketchup/ketchup/negentropy/MessageWriter", name := "mark", desc := "()V" } : Jvm.MethodName) prog_18_method_3_code (1 : Nat) (Option.none : Option Jvm.ClassFile.FieldType)).before args0 about1 = true := code_word (m := ⟨3, 2⟩) (meth := k3m2) (c := k3c2) (by decide +kernel) rfl rfl rfl (by decide +kernel)
set_option maxRecDepth 65536 in
theorem w_c6 : (Jvm.Cond.code ({ cls := "com/example/ketchup/ketchup/negentropy/MessageWriter", name := "writeBound", desc := "(Lcom/example/ketchup/ketchup/negentropy/Bound;)V" } : Jvm.MethodName) prog_18_method_5_code (5 : Nat) (Option.none : Option Jvm.ClassFile.FieldType)).before args0 about1 = true := code_word (m := ⟨3, 4⟩) (meth := k3m4) (c := k3c4) (by decide +kernel) rfl rfl rfl (by decide +kernel)
set_option maxRecDepth 65536 in
theorem w_c7 : (Jvm.Cond.code ({ cls := "com/example/ketchup/ketchup/negentropy/Bound", name := "timestamp", desc := "()J" } : Jvm.MethodName) prog_11_method_2_code (1 : Nat) (Option.some Jvm.ClassFile.FieldType.long)).before args0 about1 = true := code_word (m := ⟨2, 1⟩) (meth := k2m1) (c := k2c1) (by decide +kernel) rfl rfl rfl (by decide +kernel)
set_option maxRecDepth 65536 in
theorem w_c8 : (Jvm.Cond.code ({ cls := "com/example/ketchup/ketchup/negentropy/Varint", name := "encode", desc := "(J)[B" } : Jvm.MethodName) prog_32_method_2_code (7 : Nat) (Option.some (Jvm.ClassFile.FieldType.array Jvm.ClassFile.FieldType.byte))).before args0 about1 = true := code_word (m := ⟨5, 1⟩) (meth := k5m1) (c := k5c1) (by decide +kernel) rfl rfl rfl (by decide +kernel)
set_option maxRecDepth 65536 in
theorem w_c9 : (Jvm.Cond.code ({ cls := "com/example/ketchup/ketchup/negentropy/Bound", name := "prefix", desc := "()[B" } : Jvm.MethodName) prog_11_method_3_code (1 : Nat) (Option.some (Jvm.ClassFile.FieldType.array Jvm.ClassFile.FieldType.byte))).before args0 about1 = true := code_word (m := ⟨2, 2⟩) (meth := k2m2) (c := k2c2) (by decide +kernel) rfl rfl rfl (by decide +kernel)
set_option maxRecDepth 65536 in
theorem w_c10 : (Jvm.Cond.code ({ cls := "com/example/ketchup/ketchup/negentropy/MessageWriter", name := "writeCount", desc := "(I)V" } : Jvm.MethodName) prog_18_method_8_code (2 : Nat) (Option.none : Option Jvm.ClassFile.FieldType)).before args0 about1 = true := code_word (m := ⟨3, 5⟩) (meth := k3m5) (c := k3c5) (by decide +kernel) rfl rfl rfl (by decide +kernel)
set_option maxRecDepth 65536 in
theorem w_c11 : (Jvm.Cond.code ({ cls := "com/example/ketchup/ketchup/negentropy/MessageWriter", name := "size", desc := "()I" } : Jvm.MethodName) prog_18_method_2_code (1 : Nat) (Option.some Jvm.ClassFile.FieldType.int)).before args0 about1 = true := code_word (m := ⟨3, 1⟩) (meth := k3m1) (c := k3c1) (by decide +kernel) rfl rfl rfl (by decide +kernel)
set_option maxRecDepth 65536 in
theorem w_c12 : (Jvm.Cond.code ({ cls := "com/example/ketchup/ketchup/negentropy/MessageWriter", name := "reset", desc := "()V" } : Jvm.MethodName) prog_18_method_4_code (1 : Nat) (Option.none : Option Jvm.ClassFile.FieldType)).before args0 about1 = true := code_word (m := ⟨3, 3⟩) (meth := k3m3) (c := k3c3) (by decide +kernel) rfl rfl rfl (by decide +kernel)
set_option maxRecDepth 65536 in
theorem w_c13 : (Jvm.Cond.code ({ cls := "com/example/ketchup/ketchup/negentropy/MessageWriter", name := "toByteArray", desc := "()[B" } : Jvm.MethodName) prog_18_method_10_code (1 : Nat) (Option.some (Jvm.ClassFile.FieldType.array Jvm.ClassFile.FieldType.byte))).before args0 about1 = true := code_word (m := ⟨3, 6⟩) (meth := k3m6) (c := k3c6) (by decide +kernel) rfl rfl rfl (by decide +kernel)
set_option maxRecDepth 65536 in
theorem w_c14 : (Jvm.Cond.code ({ cls := "java/util/Arrays", name := "copyOf", desc := "([BI)[B" } : Jvm.MethodName) jdk_65_method_121_code (3 : Nat) (Option.some (Jvm.ClassFile.FieldType.array Jvm.ClassFile.FieldType.byte))).before args0 about1 = true := code_word (m := ⟨6, 1⟩) (meth := k6m1) (c := k6c1) (by decide +kernel) rfl rfl rfl (by decide +kernel)
set_option maxRecDepth 65536 in
theorem w_c15 : (Jvm.Cond.code ({ cls := "java/lang/Math", name := "min", desc := "(II)I" } : Jvm.MethodName) jdk_29_method_69_code (2 : Nat) (Option.some Jvm.ClassFile.FieldType.int)).before args0 about1 = true := code_word (m := ⟨7, 1⟩) (meth := k7m1) (c := k7c1) (by decide +kernel) rfl rfl rfl (by decide +kernel)
def codes1 : List Jvm.Cond := [Jvm.Cond.code x code maxLocals ret, Jvm.Cond.code ({ cls := "com/example/ketchup/ketchup/negentropy/Bound", name := "<init>", desc := "(J[B)V" } : Jvm.MethodName) prog_11_method_1_code (4 : Nat) (Option.none : Option Jvm.ClassFile.FieldType), Jvm.Cond.code ({ cls := "java/lang/Object", name := "<init>", desc := "()V" } : Jvm.MethodName) object_method_1_code (1 : Nat) (Option.none : Option Jvm.ClassFile.FieldType), Jvm.Cond.code ({ cls := "com/example/ketchup/ketchup/negentropy/MessageWriter", name := "<init>", desc := "()V" } : Jvm.MethodName) prog_18_method_1_code (1 : Nat) (Option.none : Option Jvm.ClassFile.FieldType), Jvm.Cond.code ({ cls := "com/example/ketchup/ketchup/negentropy/MessageWriter", name := "write", desc := "([B)V" } : Jvm.MethodName) prog_18_method_11_code (2 : Nat) (Option.none : Option Jvm.ClassFile.FieldType), Jvm.Cond.code ({ cls := "com/example/ketchup/ketchup/negentropy/MessageWriter", name := "mark", desc := "()V" } : Jvm.MethodName) prog_18_method_3_code (1 : Nat) (Option.none : Option Jvm.ClassFile.FieldType), Jvm.Cond.code ({ cls := "com/example/ketchup/ketchup/negentropy/MessageWriter", name := "writeBound", desc := "(Lcom/example/ketchup/ketchup/negentropy/Bound;)V" } : Jvm.MethodName) prog_18_method_5_code (5 : Nat) (Option.none : Option Jvm.ClassFile.FieldType), Jvm.Cond.code ({ cls := "com/example/ketchup/ketchup/negentropy/Bound", name := "timestamp", desc := "()J" } : Jvm.MethodName) prog_11_method_2_code (1 : Nat) (Option.some Jvm.ClassFile.FieldType.long), Jvm.Cond.code ({ cls := "com/example/ketchup/ketchup/negentropy/Varint", name := "encode", desc := "(J)[B" } : Jvm.MethodName) prog_32_method_2_code (7 : Nat) (Option.some (Jvm.ClassFile.FieldType.array Jvm.ClassFile.FieldType.byte)), Jvm.Cond.code ({ cls := "com/example/ketchup/ketchup/negentropy/Bound", name := "prefix", desc := "()[B" } : Jvm.MethodName) prog_11_method_3_code (1 : Nat) (Option.some (Jvm.ClassFile.FieldType.array Jvm.ClassFile.FieldType.byte)), Jvm.Cond.code ({ cls := "com/example/ketchup/ketchup/negentropy/MessageWriter", name := "writeCount", desc := "(I)V" } : Jvm.MethodName) prog_18_method_8_code (2 : Nat) (Option.none : Option Jvm.ClassFile.FieldType), Jvm.Cond.code ({ cls := "com/example/ketchup/ketchup/negentropy/MessageWriter", name := "size", desc := "()I" } : Jvm.MethodName) prog_18_method_2_code (1 : Nat) (Option.some Jvm.ClassFile.FieldType.int), Jvm.Cond.code ({ cls := "com/example/ketchup/ketchup/negentropy/MessageWriter", name := "reset", desc := "()V" } : Jvm.MethodName) prog_18_method_4_code (1 : Nat) (Option.none : Option Jvm.ClassFile.FieldType), Jvm.Cond.code ({ cls := "com/example/ketchup/ketchup/negentropy/MessageWriter", name := "toByteArray", desc := "()[B" } : Jvm.MethodName) prog_18_method_10_code (1 : Nat) (Option.some (Jvm.ClassFile.FieldType.array Jvm.ClassFile.FieldType.byte)), Jvm.Cond.code ({ cls := "java/util/Arrays", name := "copyOf", desc := "([BI)[B" } : Jvm.MethodName) jdk_65_method_121_code (3 : Nat) (Option.some (Jvm.ClassFile.FieldType.array Jvm.ClassFile.FieldType.byte)), Jvm.Cond.code ({ cls := "java/lang/Math", name := "min", desc := "(II)I" } : Jvm.MethodName) jdk_29_method_69_code (2 : Nat) (Option.some Jvm.ClassFile.FieldType.int)]
set_option maxRecDepth 65536 in
theorem codes_eq : words1.filter isCode = codes1 := rfl
theorem w_codes : ∀ c ∈ words1.filter isCode, c.before args0 about1 = true := by
  rw [codes_eq]
  intro c hc
  simp only [codes1, List.mem_cons, List.not_mem_nil, or_false] at hc
  rcases hc with rfl | rfl | rfl | rfl | rfl | rfl | rfl | rfl | rfl | rfl | rfl | rfl | rfl | rfl | rfl | rfl
  · exact w_c0
  · exact w_c1
  · exact w_c2
  · exact w_c3
  · exact w_c4
  · exact w_c5
  · exact w_c6
  · exact w_c7
  · exact w_c8
  · exact w_c9
  · exact w_c10
  · exact w_c11
  · exact w_c12
  · exact w_c13
  · exact w_c14
  · exact w_c15
set_option maxRecDepth 65536 in
theorem w_t1 : (words1.take 24).all (fun c => isCode c || c.before args0 about1) = true := by decide +kernel
set_option maxRecDepth 65536 in
theorem w_t2 : ((words1.drop 24).take 24).all (fun c => isCode c || c.before args0 about1) = true := by decide +kernel
set_option maxRecDepth 65536 in
theorem w_t3 : (((words1.drop 24).drop 24).take 24).all (fun c => isCode c || c.before args0 about1) = true := by decide +kernel
set_option maxRecDepth 65536 in
theorem w_t4 : ((((words1.drop 24).drop 24).drop 24).take 24).all (fun c => isCode c || c.before args0 about1) = true := by decide +kernel
set_option maxRecDepth 65536 in
theorem w_t5 : ((((words1.drop 24).drop 24).drop 24).drop 24).all (fun c => isCode c || c.before args0 about1) = true := by decide +kernel
theorem w_tables : (allAtoms (Jvm.Cond.code x code maxLocals ret :: tables_1)).before args0 about1 = true := by
  rw [allAtoms_all]
  show words1.all (fun c => c.before args0 about1) = true
  refine all_split ?_ w_codes
  rw [← List.take_append_drop 24 words1, List.all_append, w_t1, ← List.take_append_drop 24 (words1.drop 24), List.all_append, w_t2, ← List.take_append_drop 24 ((words1.drop 24).drop 24), List.all_append, w_t3, ← List.take_append_drop 24 (((words1.drop 24).drop 24).drop 24), List.all_append, w_t4, w_t5]
  rfl
set_option maxRecDepth 65536 in
theorem w_case : (Jvm.Cond.and given_1 narrow_1).before args0 about1 = true := by decide +kernel
theorem w_applies : (headSpec (Jvm.Cond.code x code maxLocals ret :: tables_1) room_1).applies x e0.platform about1 = true :=
  (Spec.applies_iff w_frames).mpr ⟨w_running, w_runnable, w_alone, w_named, w_hears, w_ripe, w_room, w_tables⟩
theorem atStart : AtStart classFile x code maxLocals ret World_1 tables_1 room_1 Calls_1 rest_1 Pre_1 launch0 p0 e0 about1 theMethod args0 below0 :=
  ⟨lists_1, trivial, launch0.admits_env _ _ _, launch0.least_env, fairChoices_fair.cas, fairChoices_fair.clock, w_frames, w_args, w_heap, w_applies, trivial, trivial, w_case⟩
end start1
theorem witness_1 : WitnessClaimed_1 := ⟨start1.p0, start1.e0, start1.about1, start1.theMethod, start1.args0, start1.below0, start1.atStart⟩
end Jvm.Pilot.@@N@@
