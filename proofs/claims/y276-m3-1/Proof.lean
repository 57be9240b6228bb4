import JvmDerived
import JvmDerived.Pilot.@@N@@Statement
import JvmDerived.Pilot.@@N@@Code
set_option linter.unusedVariables false
set_option linter.unusedSimpArgs false
namespace Jvm.RoadKit
open Sem ClassFile Op Lib Jvm.Stand Jvm.Free Jvm.LawKit
section Own
variable {p : Program} {l : Launch} {e : Env} {R : Room} {s : State} {m : MethodId} {args : Array Value} {below : List Frame} {meth : Method} {c : Code} {T : State} {locs : List Loc} {cells slots : Nat}
theorem retI (X : Stand p l e R s m args below meth c T locs cells slots) (hx : p.tables.exec = Jvm.exec) {pc : Nat} {Ls : Array Slot} {z : Int32} {rest : List Value} (hret : meth.sig.returnType = some .int) (hd : decode c.code pc = .ok (.ireturn, 1)) {fs : List Frame}
    (hl : ∀ (f : JFrame) (acts : List Action), f.method = m → f.locked = none → f.entered = [] → (doReturn e (T.setTop f) acts (some (.int z))).1 = T.setFrames fs) : Steps p.tables e below (T.setTop (mkF m pc Ls (.int z :: rest))) (T.setFrames fs) := by
  have hm' : T.vm.method? m = some meth := X.method'
  have hn : narrow .int (.int z) = .int z := rfl
  show Steps p.tables e below (T.setTop { method := m, pc := pc, locals := Ls, stack := _ :: rest, locked := none }) _
  jvm_step X.here [X.here.top, hx, hd, hm', hret, hn]
  first | (intro acts; rw [hl _ acts rfl rfl rfl]) | rw [hl _ _ rfl rfl rfl]
  exact Steps.refl _
/-- from U the run comes to an end of which Qo holds -/
def own_Ends (tb : Tables) (e : Env) (below : List Frame) (Qo : Outcome → State → Prop) (U : State) : Prop := ∃ s₂ o, Steps tb e below U s₂ ∧ s₂.status = .running ∧ Ended s₂ below o ∧ Qo o s₂
def own_Q (s : State) (Q : Option Value → Heap → List Loc → Prop) (A B : Nat) : Outcome → State → Prop := fun o U' => ∃ v L, o = .returned v ∧ Q v U'.heap L ∧ FrameEnd s o U' L A B
theorem own_step {tb : Tables} {e : Env} {below : List Frame} {Qo : Outcome → State → Prop} {U V : State} (k : ∀ t, Steps tb e below V t → Steps tb e below U t) (h : own_Ends tb e below Qo V) : own_Ends tb e below Qo U := by
  obtain ⟨s₂, o, h1, h2⟩ := h; exact ⟨s₂, o, k _ h1, h2⟩
variable {Q : Option Value → Heap → List Loc → Prop} {A B : Nat}
theorem own_leave (X : Stand p l e R s m args below meth c T locs cells slots) (hlk : meth.locks = false) {v : Option Value} (hv : meth.sig.returnType = none → v = none) (ha : cells ≤ A) (hb : slots ≤ B) (hQ : Q v T.heap locs) {g : JFrame}
    (k : ∀ fs, (∀ (f : JFrame) (acts : List Action), f.method = m → f.locked = none → f.entered = [] → (doReturn e (T.setTop f) acts v).1 = T.setFrames fs) → Steps p.tables e below (T.setTop g) (T.setFrames fs)) : own_Ends p.tables e below (own_Q s Q A B) (T.setTop g) := by
  obtain ⟨fs, hr, hrun, hended, hW, hsame⟩ := X.leave (v := v) hv hlk
  exact ⟨_, _, k fs hr, hrun, hended, _, _, rfl, (show Q v T.heap locs from hQ), ⟨_, rfl⟩, hW, hsame.mono ha hb⟩
theorem own_retN (X : Stand p l e R s m args below meth c T locs cells slots) (hx : p.tables.exec = Jvm.exec) (hlk : meth.locks = false) (ha : cells ≤ A) (hb : slots ≤ B) {pc : Nat} {Ls : Array Slot} {z : Int32} {t : FieldType} {rest : List Value} (hret : meth.sig.returnType = some t) (ht : t = .boolean ∨ t = .byte ∨ t = .char ∨ t = .short)
    (hd : decode c.code pc = .ok (.ireturn, 1)) (hQ : Q (some (.int (nar t z))) T.heap locs) : own_Ends p.tables e below (own_Q s Q A B) (T.setTop (mkF m pc Ls (.int z :: rest))) :=
  own_leave X hlk (fun h => by rw [hret] at h; cases h) ha hb hQ fun fs hr => retN X hx hret ht hd hr
theorem own_retI (X : Stand p l e R s m args below meth c T locs cells slots) (hx : p.tables.exec = Jvm.exec) (hlk : meth.locks = false) (ha : cells ≤ A) (hb : slots ≤ B) {pc : Nat} {Ls : Array Slot} {z : Int32} {rest : List Value} (hret : meth.sig.returnType = some .int)
    (hd : decode c.code pc = .ok (.ireturn, 1)) (hQ : Q (some (.int z)) T.heap locs) : own_Ends p.tables e below (own_Q s Q A B) (T.setTop (mkF m pc Ls (.int z :: rest))) :=
  own_leave X hlk (fun h => by rw [hret] at h; cases h) ha hb hQ fun fs hr => retI X hx hret hd hr
theorem own_retJ (X : Stand p l e R s m args below meth c T locs cells slots) (hx : p.tables.exec = Jvm.exec) (hlk : meth.locks = false) (ha : cells ≤ A) (hb : slots ≤ B) {pc : Nat} {Ls : Array Slot} {z : Int64} {rest : List Value} (hret : meth.sig.returnType = some .long)
    (hd : decode c.code pc = .ok (.lreturn, 1)) (hQ : Q (some (.long z)) T.heap locs) : own_Ends p.tables e below (own_Q s Q A B) (T.setTop (mkF m pc Ls (.long z :: rest))) :=
  own_leave X hlk (fun h => by rw [hret] at h; cases h) ha hb hQ fun fs hr => by
    have hm' : T.vm.method? m = some meth := X.method'
    show Steps p.tables e below (T.setTop { method := m, pc := pc, locals := Ls, stack := _ :: rest, locked := none }) _
    jvm_step X.here [X.here.top, hx, hd, hm', hret, narrow]
    first | (intro acts; rw [hr _ acts rfl rfl rfl]) | rw [hr _ _ rfl rfl rfl]
    exact Steps.refl _
theorem own_retA (X : Stand p l e R s m args below meth c T locs cells slots) (hx : p.tables.exec = Jvm.exec) (hlk : meth.locks = false) (ha : cells ≤ A) (hb : slots ≤ B) {pc : Nat} {Ls : Array Slot} {z : Value} {t : FieldType} {rest : List Value} (hret : meth.sig.returnType = some t) (ht : t.isReference = true) (hz : z.isRef = true)
    (hd : decode c.code pc = .ok (.areturn, 1)) (hQ : Q (some z) T.heap locs) : own_Ends p.tables e below (own_Q s Q A B) (T.setTop (mkF m pc Ls (z :: rest))) :=
  own_leave X hlk (fun h => by rw [hret] at h; cases h) ha hb hQ fun fs hr => by
    have hm' : T.vm.method? m = some meth := X.method'
    show Steps p.tables e below (T.setTop { method := m, pc := pc, locals := Ls, stack := _ :: rest, locked := none }) _
    jvm_step X.here [X.here.top, hx, hd, hm', hret, ht, hz]
    first | (intro acts; rw [hr _ acts rfl rfl rfl]) | rw [hr _ _ rfl rfl rfl]
    exact Steps.refl _
theorem own_ret0 (X : Stand p l e R s m args below meth c T locs cells slots) (hx : p.tables.exec = Jvm.exec) (hlk : meth.locks = false) (ha : cells ≤ A) (hb : slots ≤ B) {pc : Nat} {Ls : Array Slot} (hret : meth.sig.returnType = none)
    (hd : decode c.code pc = .ok (.return_, 1)) (hQ : Q none T.heap locs) : own_Ends p.tables e below (own_Q s Q A B) (T.setTop (mkF m pc Ls [])) :=
  own_leave X hlk (fun _ => rfl) ha hb hQ fun fs hr => X.returnOut hx hret hd hr
theorem own_sel_priv {s : State} {args : Array Value} {n : Nat} {y : MethodName} (hy : y.cls ≠ "java/lang/invoke/MethodHandle" ∧ y.cls ≠ "java/lang/invoke/VarHandle") (hins : (Cond.instantiable y.cls n).before args s = true) (hpriv : (Cond.privateMethod y).before args s = true) (hinst : (Cond.instanceMethod y).before args s = true) :
    (Cond.selects y.cls y y).before args s = true := by
  obtain ⟨c, k, hc, hk, -, hniab, -, -⟩ := Cond.instantiable_spec hins
  have hni : k.isInterface = false := (Bool.or_eq_false_iff.mp hniab).1
  obtain ⟨mk, methM, hnamed, hmethM, -, -⟩ := Cond.instanceMethod_spec hinst
  have hfound : s.methodFound? y.cls y.name y.desc = some mk := State.methodFound?_of_named hnamed hy
  have hcls : mk.cls = c := Option.some.inj ((findClass_of_methodNamed hnamed).symm.trans hc)
  have hsel : selectMethod {} s.vm c mk = .method mk := selectMethod_private hmethM (Cond.privateMethod_at hpriv mk methM hnamed hmethM)
  simp only [Cond.before, Cond.holds, Cond.value, hc, hfound, hnamed, hsel, hcls, hk]
  simp; exact hni
theorem own_pop2J (X : Stand p l e R s m args below meth c T locs cells slots) (hx : p.tables.exec = Jvm.exec) {pc : Nat} {Ls : Array Slot} {z : Int64} {rest : List Value} (hd : decode c.code pc = .ok (.pop2, 1)) {target : State}
    (hr : Steps p.tables e below (T.setTop (mkF m (pc + 1) Ls rest)) target) : Steps p.tables e below (T.setTop (mkF m pc Ls (.long z :: rest))) target := by
  show Steps p.tables e below (T.setTop { method := m, pc := pc, locals := Ls, stack := _ :: rest, locked := none }) _
  jvm_step X.here [X.here.top, hx, hd, Value.category]
  exact hr
def own_NS (h : Heap) (x : Addr) : Prop := ∃ c : Cell, h[x]? = some c ∧ c.vm.isStatics = false
theorem own_ns_exa {Z : State} {h : Heap} {a : Addr} {C : String} (F : Exa Z h a C) : own_NS h a := by obtain ⟨c, k, h1, h2, h3, h4, h5⟩ := F; exact ⟨c, h1, h4⟩
theorem own_ns_arv {Z : State} {h : Heap} {a : Addr} {k : ClassId} {ty : FieldType} {z : Int32} {vs : List Value} {d : Value} (F : Arv Z h a k ty z vs d) : own_NS h a := by obtain ⟨c, A, -⟩ := F; exact ⟨c, A.1, A.plain⟩
theorem own_Sta_keep {Z : State} {h h' : Heap} {ws : List Addr} {C n d : String} {v : Value} (F : Sta Z h C n d v) (K : Keep h h' ws) (q : ∀ x ∈ ws, own_NS h x) : Sta Z h' C n d v := by
  obtain ⟨cf, i, k, f, st, cell, h1, h2, h3, h4, h5, h6, h7⟩ := F
  refine ⟨cf, i, k, f, st, cell, h1, h2, h3, h4, K.2.1 st cell h5 fun m => ?_, h6, h7⟩
  obtain ⟨c, e1, e2⟩ := q st m
  rw [h5] at e1; cases e1; rw [h6] at e2; cases e2
theorem own_lc_lt (x y : Int64) : lcmpW x y < 0 ↔ x < y := by rw [lcW]; exact lc_lt x y
theorem own_lc_gt (x y : Int64) : 0 < lcmpW x y ↔ y < x := by rw [lcW]; exact lc_gt x y
theorem own_lc_eq (x y : Int64) : lcmpW x y = 0 ↔ x = y := by rw [lcW]; exact lc_eq x y
end Own
end Jvm.RoadKit
namespace Jvm.Pilot.@@N@@
open Jvm Jvm.ClassFile Sem Op Lib Jvm.Free Jvm.Stand Jvm.LawKit Jvm.RoadKit Bundle Jvm.Pilot.@@N@@.Jvm.D
theorem own_natL {x : Int64} (h : 0 ≤ x.toInt) : (x.toBitVec.toNat : Int) = x.toInt := by
  change 0 ≤ x.toBitVec.toInt at h; show _ = x.toBitVec.toInt
  rw [BitVec.toInt_eq_toNat_cond] at h ⊢; split at h <;> simp_all <;> omega
theorem own_orL {a b : Int64} {q k : Nat} (hk : k ≤ 62) (ha : a.toInt = 2 ^ k * q) (hb : 0 ≤ b.toInt) (hb2 : b.toInt < 2 ^ k) : (a ||| b).toInt = a.toInt + b.toInt := by
  have la := a.toInt_lt
  have a0 : 0 ≤ a.toInt := by rw [ha]; exact Int.mul_nonneg (Int.pow_nonneg (by decide)) (Int.natCast_nonneg _)
  have na := own_natL a0; have nb := own_natL hb
  have na' : a.toBitVec.toNat = 2 ^ k * q := by
    have : ((2 ^ k * q : Nat) : Int) = 2 ^ k * (q : Int) := by simp
    omega
  have nb' : b.toBitVec.toNat < 2 ^ k := by
    have : ((2 ^ k : Nat) : Int) = 2 ^ k := by simp
    omega
  have e : (a ||| b).toBitVec.toNat = a.toBitVec.toNat + b.toBitVec.toNat := by
    show (a.toBitVec ||| b.toBitVec).toNat = _
    rw [BitVec.toNat_or, na', Nat.two_pow_add_eq_or_of_lt nb']
  have hle : a.toBitVec.toNat + b.toBitVec.toNat < 2 ^ 63 := by
    have h1 : a.toBitVec.toNat < 2 ^ 63 := by omega
    rw [na'] at h1 ⊢
    have e2 : 2 ^ 63 = 2 ^ k * 2 ^ (63 - k) := by rw [← Nat.pow_add]; congr 1; omega
    rw [e2] at h1 ⊢
    have h3 : q < 2 ^ (63 - k) := Nat.lt_of_mul_lt_mul_left h1
    have h4 : 2 ^ k * (q + 1) ≤ 2 ^ k * 2 ^ (63 - k) := Nat.mul_le_mul_left _ h3
    rw [Nat.mul_add, Nat.mul_one] at h4
    omega
  show (a ||| b).toBitVec.toInt = _
  rw [BitVec.toInt_eq_toNat_cond, e, if_pos (by omega)]; omega
theorem own_shl (x : Int64) (k : Nat) (c : Int64) (hc : (1 : Int64) <<< c = Int64.ofNat (2 ^ k)) : x <<< c = x * Int64.ofNat (2 ^ k) := by
  rw [← hc]
  apply Int64.toBitVec_inj.mp
  rw [Int64.toBitVec_mul, Int64.toBitVec_shiftLeft, Int64.toBitVec_shiftLeft]
  simp only [BitVec.shiftLeft_eq', BitVec.shiftLeft_eq_mul_twoPow]
  congr 1
  simp [BitVec.twoPow]
theorem own_shl9 (y : Int32) (h0 : 0 ≤ y.toInt) (h1 : y.toInt ≤ 9999) : (y.toInt64 <<< ((9 : Int32) &&& 0x3f).toInt64).toInt = 512 * y.toInt := by
  rw [own_shl _ 9 _ (by decide), Int64.toInt_mul, Int32.toInt_toInt64]
  have e : (Int64.ofNat (2 ^ 9)).toInt = 512 := by decide
  rw [e]; rw [Int.bmod_eq_of_le (by omega) (by omega)]; omega
theorem own_shl5 (m : Int32) (h0 : 0 ≤ m.toInt) (h1 : m.toInt ≤ 12) : ((m <<< ((5 : Int32) &&& 31)).toInt64).toInt = 32 * m.toInt := by
  have hm : m = Int32.ofNat m.toInt.toNat := Int32.toInt_inj.mp (by rw [Int32.toInt_ofNat_of_lt (by omega)]; omega)
  have k : ∀ i : Fin 13, ((Int32.ofNat i.1 <<< ((5 : Int32) &&& 31)).toInt64).toInt = 32 * (i.1 : Int) := by decide +kernel
  have := k ⟨m.toInt.toNat, by omega⟩
  rw [← hm] at this; rw [this]; show 32 * (m.toInt.toNat : Int) = _; omega
def own_pack (y m d : Int32) : Int64 := ((y.toInt64 <<< ((9 : Int32) &&& 0x3f).toInt64) ||| (m <<< ((5 : Int32) &&& 31)).toInt64) ||| d.toInt64
theorem own_pack_val {y m d : Int32} (hy0 : 0 ≤ y.toInt) (hy1 : y.toInt ≤ 9999) (hm0 : 0 ≤ m.toInt) (hm1 : m.toInt ≤ 12) (hd0 : 0 ≤ d.toInt) (hd1 : d.toInt ≤ 31) : (own_pack y m d).toInt = 512 * y.toInt + 32 * m.toInt + d.toInt := by
  have e9 := own_shl9 y hy0 hy1; have e5 := own_shl5 m hm0 hm1
  have s1 := own_orL (a := y.toInt64 <<< ((9 : Int32) &&& 0x3f).toInt64) (b := (m <<< ((5 : Int32) &&& 31)).toInt64) (q := y.toInt.toNat) (k := 9) (by omega) (by rw [e9]; omega) (by omega) (by omega)
  have s2 := own_orL (a := (y.toInt64 <<< ((9 : Int32) &&& 0x3f).toInt64) ||| (m <<< ((5 : Int32) &&& 31)).toInt64) (b := d.toInt64) (q := (16 * y.toInt + m.toInt).toNat) (k := 5) (by omega) (by rw [s1, e9, e5]; omega) (by rw [Int32.toInt_toInt64]; omega) (by rw [Int32.toInt_toInt64]; omega)
  unfold own_pack; rw [s2, s1, e9, e5, Int32.toInt_toInt64]
def own_year (p : Int64) : Int32 := (p >>> ((9 : Int32) &&& 0x3f).toInt64).toInt32
def own_month (p : Int64) : Int32 := (p >>> ((5 : Int32) &&& 0x3f).toInt64).toInt32 &&& (15 : Int32)
def own_day (p : Int64) : Int32 := p.toInt32 &&& (31 : Int32)
theorem own_shr (x : Int64) (k : Nat) (c : Int64) (hc : c.toBitVec.smod 64 = BitVec.ofNat 64 k) (hk : k < 64) : (x >>> c).toInt = x.toInt / 2 ^ k := by
  show (x >>> c).toBitVec.toInt = x.toBitVec.toInt / 2 ^ k
  rw [Int64.toBitVec_shiftRight, hc]
  show (x.toBitVec.sshiftRight (BitVec.ofNat 64 k).toNat).toInt = _
  rw [BitVec.toInt_sshiftRight, Int.shiftRight_eq_div_pow, BitVec.toNat_ofNat, Nat.mod_eq_of_lt (by omega)]; simp
theorem own_maskI (x : Int32) (k : Nat) (hk : k ≤ 31) : (x &&& Int32.ofNat (2 ^ k - 1)).toInt = x.toInt % 2 ^ k := by
  have hm : (Int32.ofNat (2 ^ k - 1)).toBitVec.toNat = 2 ^ k - 1 := by
    show (BitVec.ofNat 32 (2 ^ k - 1)).toNat = _
    rw [BitVec.toNat_ofNat]; apply Nat.mod_eq_of_lt
    have : 2 ^ k ≤ 2 ^ 31 := Nat.pow_le_pow_right (by decide) hk
    omega
  have e : (x &&& Int32.ofNat (2 ^ k - 1)).toBitVec.toNat = x.toBitVec.toNat % 2 ^ k := by
    show (x.toBitVec &&& (Int32.ofNat (2 ^ k - 1)).toBitVec).toNat = _
    rw [BitVec.toNat_and, hm, Nat.and_two_pow_sub_one_eq_mod]
  have hp : 2 ^ k ≤ 2 ^ 31 := Nat.pow_le_pow_right (by decide) hk
  have hpos : 0 < 2 ^ k := Nat.pow_pos (by decide)
  have hlt := Nat.mod_lt x.toBitVec.toNat hpos
  have hx := x.toBitVec.isLt
  show (x &&& Int32.ofNat (2 ^ k - 1)).toBitVec.toInt = x.toBitVec.toInt % 2 ^ k
  rw [BitVec.toInt_eq_toNat_cond, e, if_pos (by omega), BitVec.toInt_eq_toNat_cond]
  have c2 : ((2 : Int) ^ k) = ((2 ^ k : Nat) : Int) := by simp
  rw [c2]
  split
  · exact Int.natCast_emod _ _
  · have e32 : ((2 ^ 32 : Nat) : Int) = ((2 ^ k : Nat) : Int) * ((2 ^ (32 - k) : Nat) : Int) := by rw [← Int.natCast_mul, ← Nat.pow_add]; congr 2; omega
    rw [e32, Int.sub_mul_emod_self_left]; exact Int.natCast_emod _ _
theorem own_l2i {x : Int64} (h0 : -2147483648 ≤ x.toInt) (h1 : x.toInt ≤ 2147483647) : x.toInt32.toInt = x.toInt := by
  rw [Int64.toInt_toInt32]; apply Int.bmod_eq_of_le <;> omega
theorem own_year_val {p : Int64} (h0 : 0 ≤ p.toInt) (h1 : p.toInt < 10000000) : (own_year p).toInt = p.toInt / 512 := by
  have e := own_shr p 9 ((9 : Int32) &&& 0x3f).toInt64 (by decide) (by decide)
  unfold own_year; rw [own_l2i (by rw [e]; omega) (by rw [e]; omega), e]; omega
theorem own_month_val {p : Int64} (h0 : 0 ≤ p.toInt) (h1 : p.toInt < 10000000) : (own_month p).toInt = p.toInt / 32 % 16 := by
  have e := own_shr p 5 ((5 : Int32) &&& 0x3f).toInt64 (by decide) (by decide)
  have := own_maskI (p >>> ((5 : Int32) &&& 0x3f).toInt64).toInt32 4 (by decide)
  unfold own_month
  rw [show (15 : Int32) = Int32.ofNat (2 ^ 4 - 1) from rfl, this, own_l2i (by rw [e]; omega) (by rw [e]; omega), e]; omega
theorem own_day_val {p : Int64} (h0 : 0 ≤ p.toInt) (h1 : p.toInt < 10000000) : (own_day p).toInt = p.toInt % 32 := by
  have := own_maskI p.toInt32 5 (by decide)
  unfold own_day
  rw [show (31 : Int32) = Int32.ofNat (2 ^ 5 - 1) from rfl, this, own_l2i (by omega) (by omega)]; omega
def own_minI (a b : Int32) : Int32 := if b < a then b else a
def own_len (y m : Int32) : Int32 := if m = 2 then (if y % 4 = 0 then (if y % 100 = 0 then (if y % 400 = 0 then 29 else 28) else 29) else 28) else if m = 4 then 30 else if m = 6 then 30 else if m = 9 then 30 else if m = 11 then 30 else 31
theorem own_len_ge (y m : Int32) : 28 ≤ (own_len y m).toInt := by
  unfold own_len
  repeat' split
  all_goals decide
def own_mc (p k : Int64) : Int64 := (((((12 : Int64) * (own_year p).toInt64) + (own_month p).toInt64) - (1 : Int64)) + k)
def own_pmy (p k : Int64) : Int32 := (own_mc p k / (12 : Int64)).toInt32
def own_pmm (p k : Int64) : Int32 := (own_mc p k - own_mc p k / (12 : Int64) * (12 : Int64)).toInt32 + (1 : Int32)
def own_pm (p k : Int64) : Int64 := own_pack (own_pmy p k) (own_pmm p k) (own_minI (own_day p) (own_len (own_pmy p k) (own_pmm p k)))
theorem own_addL {a b : Int64} (h0 : -9223372036854775808 ≤ a.toInt + b.toInt) (h1 : a.toInt + b.toInt ≤ 9223372036854775807) : (a + b).toInt = a.toInt + b.toInt := by
  rw [Int64.toInt_add]; apply Int.bmod_eq_of_le <;> omega
theorem own_subL {a b : Int64} (h0 : -9223372036854775808 ≤ a.toInt - b.toInt) (h1 : a.toInt - b.toInt ≤ 9223372036854775807) : (a - b).toInt = a.toInt - b.toInt := by
  rw [Int64.toInt_sub]; apply Int.bmod_eq_of_le <;> omega
theorem own_mulL {a b : Int64} (h0 : -9223372036854775808 ≤ a.toInt * b.toInt) (h1 : a.toInt * b.toInt ≤ 9223372036854775807) : (a * b).toInt = a.toInt * b.toInt := by
  rw [Int64.toInt_mul]; apply Int.bmod_eq_of_le <;> omega
theorem own_addI {a b : Int32} (h0 : -2147483648 ≤ a.toInt + b.toInt) (h1 : a.toInt + b.toInt ≤ 2147483647) : (a + b).toInt = a.toInt + b.toInt := by
  rw [Int32.toInt_add]; apply Int.bmod_eq_of_le <;> omega
theorem own_mulI {a b : Int32} (h0 : -2147483648 ≤ a.toInt * b.toInt) (h1 : a.toInt * b.toInt ≤ 2147483647) : (a * b).toInt = a.toInt * b.toInt := by
  rw [Int32.toInt_mul]; apply Int.bmod_eq_of_le <;> omega
theorem own_div12 (x : Int64) (hx : 0 ≤ x.toInt) : (x / (12 : Int64)).toInt = x.toInt / 12 := by
  rw [Int64.toInt_div, Int.tdiv_eq_ediv_of_nonneg hx]
  have h1 := x.toInt_lt
  have e : (12 : Int64).toInt = 12 := rfl
  rw [e]; apply Int.bmod_eq_of_le <;> omega
/-- a packed date: its year, month and day -/
def own_Dt (p : Int64) (Y M D : Int) : Prop := p.toInt = 512 * Y + 32 * M + D ∧ 1900 ≤ Y ∧ Y ≤ 2200 ∧ 1 ≤ M ∧ M ≤ 12 ∧ 1 ≤ D ∧ D ≤ 28
theorem own_Dt.pack {y m d : Int32} {Y M D : Int} (hy : y.toInt = Y) (hm : m.toInt = M) (hd : d.toInt = D) (h1 : 1900 ≤ Y) (h2 : Y ≤ 2200) (h3 : 1 ≤ M) (h4 : M ≤ 12) (h5 : 1 ≤ D) (h6 : D ≤ 28) : own_Dt (own_pack y m d) Y M D :=
  ⟨by rw [own_pack_val (by omega) (by omega) (by omega) (by omega) (by omega) (by omega)]; omega, h1, h2, h3, h4, h5, h6⟩
theorem own_mc_val {p k : Int64} {Y M D K : Int} (h : own_Dt p Y M D) (hk : k.toInt = K) (hK0 : -50 ≤ K) (hK1 : K ≤ 50) : (own_mc p k).toInt = 12 * Y + M - 1 + K := by
  obtain ⟨e, h1, h2, h3, h4, h5, h6⟩ := h
  have ey := own_year_val (p := p) (by omega) (by omega); have em := own_month_val (p := p) (by omega) (by omega)
  have c12 : (12 : Int64).toInt = 12 := rfl
  have c1 : (1 : Int64).toInt = 1 := rfl
  have a1 : ((12 : Int64) * (own_year p).toInt64).toInt = 12 * (own_year p).toInt := by rw [own_mulL] <;> rw [c12, Int32.toInt_toInt64] <;> omega
  have a2 : ((12 : Int64) * (own_year p).toInt64 + (own_month p).toInt64).toInt = 12 * (own_year p).toInt + (own_month p).toInt := by rw [own_addL] <;> rw [a1, Int32.toInt_toInt64] <;> omega
  have a3 : ((12 : Int64) * (own_year p).toInt64 + (own_month p).toInt64 - (1 : Int64)).toInt = 12 * (own_year p).toInt + (own_month p).toInt - 1 := by rw [own_subL] <;> rw [a2, c1] <;> omega
  unfold own_mc
  rw [own_addL] <;> rw [a3] <;> omega
theorem own_pm_val {p k : Int64} {Y M D K : Int} (h : own_Dt p Y M D) (hY0 : 1950 ≤ Y) (hY1 : Y ≤ 2150) (hk : k.toInt = K) (hK0 : -50 ≤ K) (hK1 : K ≤ 50) : own_Dt (own_pm p k) ((12 * Y + M - 1 + K) / 12) ((12 * Y + M - 1 + K) % 12 + 1) D := by
  have emc := own_mc_val h hk hK0 hK1
  obtain ⟨e, h1, h2, h3, h4, h5, h6⟩ := h
  have ed := own_day_val (p := p) (by omega) (by omega)
  have c12 : (12 : Int64).toInt = 12 := rfl
  have q1 := own_div12 (own_mc p k) (by omega)
  have ey : (own_pmy p k).toInt = (12 * Y + M - 1 + K) / 12 := by unfold own_pmy; rw [own_l2i (by omega) (by omega), q1, emc]
  have q2 : (own_mc p k / (12 : Int64) * (12 : Int64)).toInt = (own_mc p k).toInt / 12 * 12 := by rw [own_mulL] <;> rw [q1, c12] <;> omega
  have q3 : (own_mc p k - own_mc p k / (12 : Int64) * (12 : Int64)).toInt = (own_mc p k).toInt % 12 := by rw [own_subL] <;> rw [q2] <;> omega
  have q4 : (own_mc p k - own_mc p k / (12 : Int64) * (12 : Int64)).toInt32.toInt = (own_mc p k).toInt % 12 := by rw [own_l2i (by omega) (by omega), q3]
  have c1 : (1 : Int32).toInt = 1 := rfl
  have em : (own_pmm p k).toInt = (12 * Y + M - 1 + K) % 12 + 1 := by unfold own_pmm; rw [own_addI] <;> rw [q4, c1, emc]; all_goals omega
  have ll := own_len_ge (own_pmy p k) (own_pmm p k)
  have edd : (own_minI (own_day p) (own_len (own_pmy p k) (own_pmm p k))).toInt = D := by
    unfold own_minI; rw [if_neg (by rw [Int32.lt_iff_toInt_lt]; omega)]; omega
  exact own_Dt.pack ey em edd (by omega) (by omega) (by omega) (by omega) h5 h6
def own_wd (p : Int64) (d : Int32) : Int64 := (p &&& (-32 : Int64)) ||| d.toInt64
theorem own_wd_val {p : Int64} {d : Int32} {Y M D D' : Int} (h : own_Dt p Y M D) (hd : d.toInt = D') (h5 : 1 ≤ D') (h6 : D' ≤ 28) : own_Dt (own_wd p d) Y M D' := by
  obtain ⟨e, h1, h2, h3, h4, h7, h8⟩ := h
  have ep := own_natL (x := p) (by omega)
  have e1 : (p &&& (-32 : Int64)).toInt = p.toInt - p.toInt % 32 := by
    have k : (p &&& (-32 : Int64)).toBitVec.toNat = p.toBitVec.toNat / 32 * 32 := by
      show (p.toBitVec &&& (-32 : Int64).toBitVec).toNat = _
      rw [BitVec.toNat_and]
      have e32 : ((-32 : Int64).toBitVec).toNat = (2 ^ 59 - 1) * 2 ^ 5 := by decide
      rw [e32]
      apply Nat.eq_of_testBit_eq
      intro i
      rw [show p.toBitVec.toNat / 32 * 32 = p.toBitVec.toNat / 2 ^ 5 * 2 ^ 5 from rfl]
      simp only [Nat.testBit_and, Nat.testBit_mul_two_pow, Nat.testBit_two_pow_sub_one, Nat.testBit_div_two_pow]
      by_cases c : 5 ≤ i
      · have e3 : i - 5 + 5 = i := by omega
        simp only [c, decide_true, Bool.true_and, e3]
        by_cases c2 : i - 5 < 59
        · simp [c2]
        · have : p.toBitVec.toNat.testBit i = false := Nat.testBit_lt_two_pow (Nat.lt_of_lt_of_le p.toBitVec.isLt (Nat.pow_le_pow_right (by decide) (by omega)))
          simp [this]
      · simp [c]
    have hl : (p &&& (-32 : Int64)).toBitVec.toNat < 2 ^ 63 := by rw [k]; omega
    show (p &&& (-32 : Int64)).toBitVec.toInt = _
    rw [BitVec.toInt_eq_toNat_cond, if_pos (by omega), k]; omega
  refine ⟨?_, h1, h2, h3, h4, h5, h6⟩
  unfold own_wd
  rw [own_orL (q := (16 * Y + M).toNat) (k := 5) (by omega) (by rw [e1]; omega) (by rw [Int32.toInt_toInt64]; omega) (by rw [Int32.toInt_toInt64]; omega), e1, Int32.toInt_toInt64]; omega
def own_before (k mo de d dm : Int32) : Int32 := if k * mo < de then 1 else if k * mo = de then (if d < dm then 1 else 0) else 0
def own_hn (s : Int64) : Int32 := if s = (-9223372036854775808 : Int64) then 0 else 1
theorem own_Dt.ne {s : Int64} {Y M D : Int} (h : own_Dt s Y M D) : ¬ s = (-9223372036854775808 : Int64) := fun q => by
  have e : s.toInt = -9223372036854775808 := by rw [q]; rfl
  obtain ⟨e1, h1, h2, h3, h4, h5, h6⟩ := h; omega
theorem own_Dt.hn {s : Int64} {Y M D : Int} (h : own_Dt s Y M D) : own_hn s = 1 := if_neg h.ne
theorem own_cmp {s t : Int64} {A B D D' : Int} (hs : own_Dt s (A / 12) (A % 12 + 1) D) (ht : own_Dt t (B / 12) (B % 12 + 1) D') : s < t ↔ (A < B ∨ (A = B ∧ D < D')) := by
  obtain ⟨e1, h1, h2, h3, h4, h5, h6⟩ := hs; obtain ⟨f1, g1, g2, g3, g4, g5, g6⟩ := ht
  rw [Int64.lt_iff_toInt_lt]; omega
theorem own_bf {k mo de d dm : Int32} {s t : Int64} {X Kv Mo De D D' : Int} (hk : k.toInt = Kv) (hmo : mo.toInt = Mo) (hde : de.toInt = De) (hd : d.toInt = D) (hdm : dm.toInt = D') (hK0 : 0 ≤ Kv) (hK2 : Kv ≤ 2) (hm0 : 1 ≤ Mo) (hm1 : Mo ≤ 12) (hKM : ∃ P : Int, Kv * Mo = P ∧ 0 ≤ P ∧ P ≤ 24)
    (hs : own_Dt s ((X + Kv * Mo) / 12) ((X + Kv * Mo) % 12 + 1) D) (ht : own_Dt t ((X + De) / 12) ((X + De) % 12 + 1) D') : (s < t → own_before k mo de d dm = 1) ∧ (¬ s < t → own_before k mo de d dm = 0) := by
  obtain ⟨P, hP, p0, p1⟩ := hKM
  rw [hP] at hs
  have e : (k * mo).toInt = P := by rw [own_mulI] <;> rw [hk, hmo, hP]; all_goals omega
  have c := own_cmp hs ht
  unfold own_before
  simp only [Int32.lt_iff_toInt_lt, ← Int32.toInt_inj, e, hde, hd, hdm]
  rw [c]
  by_cases q1 : P < De
  · rw [if_pos q1]; exact ⟨fun _ => rfl, fun u => absurd (Or.inl (by omega)) u⟩
  · rw [if_neg q1]
    by_cases q2 : P = De
    · rw [if_pos q2]
      by_cases q3 : D < D'
      · rw [if_pos q3]; exact ⟨fun _ => rfl, fun u => absurd (Or.inr ⟨by omega, q3⟩) u⟩
      · rw [if_neg q3]; exact ⟨fun u => by omega, fun _ => rfl⟩
    · rw [if_neg q2]; exact ⟨fun u => by omega, fun _ => rfl⟩
theorem own_xor12 (x : Int64) (h : 0 ≤ x.toInt) : ¬ (x ^^^ (12 : Int64)) < (0 : Int64) := by
  rw [Int64.lt_iff_toInt_lt]; have := (c_xorSL x (12 : Int64)).2.2.2 h (by decide); have e : (0 : Int64).toInt = 0 := rfl; omega
theorem own_geL {x y : Int64} (h : y.toInt ≤ x.toInt) : ¬ x < y := by rw [Int64.lt_iff_toInt_lt]; omega
theorem own_mcr {x : Int64} (h0 : 0 ≤ x.toInt) (h1 : x.toInt ≤ 100000) : ¬ (x / (12 : Int64)) < (-999999999 : Int64) ∧ ¬ (999999999 : Int64) < (x / (12 : Int64)) := by
  have e := own_div12 x h0
  exact ⟨own_geL (by rw [e]; show (-999999999 : Int) ≤ _; omega), own_geL (by rw [e]; show _ ≤ (999999999 : Int); omega)⟩
theorem own_rng (x : Int32) (n : Int32) (N : Int) (hn : n.toInt = N) (h0 : 0 < N) : 0 ≤ ((x &&& (2147483647 : Int32)) % n).toInt ∧ ((x &&& (2147483647 : Int32)) % n).toInt < N := by
  have h := c_and x (2147483647 : Int32) (by decide)
  have e := (c_irem (x &&& (2147483647 : Int32)) n N hn).1 h.1
  rw [e]; exact ⟨Int.emod_nonneg _ (by omega), Int.emod_lt_of_pos _ h0⟩
theorem own_r63 (x : Int32) : 0 ≤ (x &&& (63 : Int32)).toInt ∧ (x &&& (63 : Int32)).toInt ≤ 63 := c_and x (63 : Int32) (by decide)
def own_nsc (fp : Int64) (mo : Int32) (sp mt sc : Int64) : Int64 := if sc < mt then own_pm fp ((sp + (1 : Int64)) * mo.toInt64) else (-9223372036854775808 : Int64)
def own_nsp (sp mt sc : Int64) : Int64 := if sc < mt then sp + (1 : Int64) else sp
def own_nv (mt sc : Int64) : Int64 := if sc < mt then sc else mt
theorem own_d25_0 : decode jdk_29_method_69_code 0 = .ok (.iload_n 0, 1) := by decide +kernel
theorem own_d25_1 : decode jdk_29_method_69_code 1 = .ok (.iload_n 1, 1) := by decide +kernel
theorem own_d25_2 : decode jdk_29_method_69_code 2 = .ok (.if_icmp .gt 7, 3) := by decide +kernel
theorem own_d25_5 : decode jdk_29_method_69_code 5 = .ok (.iload_n 0, 1) := by decide +kernel
theorem own_d25_6 : decode jdk_29_method_69_code 6 = .ok (.goto 4, 3) := by decide +kernel
theorem own_d25_9 : decode jdk_29_method_69_code 9 = .ok (.iload_n 1, 1) := by decide +kernel
theorem own_d25_10 : decode jdk_29_method_69_code 10 = .ok (.ireturn, 1) := by decide +kernel
theorem own_ef_25 (m : MethodId) (x0 : Int32) (x1 : Int32) : entryFrame m #[(.int x0), (.int x1)] 2 = mkF m 0 #[.val (.int x0), .val (.int x1)] [] := by first | (simp [entryFrame, mkF, argsToLocals, Value.category]; done) | rfl
def own_Q_minI (Z : State) (p0 : Int32) (p1 : Int32) (h0 : Heap) (n0 : Nat) (v : Option Value) (h : Heap) (L : List Loc) : Prop := v = some (.int (own_minI p0 p1)) ∧ Fr n0 L ∧ h = h0
set_option maxRecDepth 65536 in
set_option maxHeartbeats 40000000 in
theorem own_rm_minI (l : Launch) (Z : State) (aw : Array Value) (hw : ∀ d ∈ tables_1, d.before aw Z = true) (ws : List Jvm.Cond) (p0 : Int32) (p1 : Int32) (h0 : Heap) (n0 : Nat) (Z0 : n0 ≤ h0.size) :
    MetFree l (⟨"java/lang/Math", "min", "(II)I"⟩ : MethodName) (head1 (Jvm.Cond.code (⟨"java/lang/Math", "min", "(II)I"⟩ : MethodName) jdk_29_method_69_code 2 (some .int) :: ws) ({ frames := 0, cells := 0, slots := 0, locals := 0 } : Room)) (fun a U => a = #[(.int p0), (.int p1)] ∧ Z.Warmed39 U.vm ∧ U.heap = h0) (fun _ _ _ _ _ => True) (fun _ U o U' => ∃ v L, o = .returned v ∧ own_Q_minI Z p0 p1 h0 n0 v U'.heap L ∧ FrameEnd U o U' L ({ frames := 0, cells := 0, slots := 0, locals := 0 } : Room).cells ({ frames := 0, cells := 0, slots := 0, locals := 0 } : Room).slots) := by
  refine MetFree.of_bodySF (Jvm.Free.JP.mathPlain rfl (by decide +kernel)) hisR ?_
  intro p e s m args below meth c s₁ Bd hml0 hP hK
  obtain ⟨rfl, hZ, hh⟩ := hP
  have hx := Bd.exec
  have hby := Bd.bytes
  have hlk : meth.locks = false := BodyLoose.notSynchronized Bd
  have hml : c.maxLocals = 2 := hml0
  have hown : s.vm.findClass "java/lang/Math" = some m.cls := findClass_of_methodNamed Bd.named
  have hnm := (name_of_methodNamed Bd.named Bd.method).1
  have X0 : Stand p l e ({ frames := 0, cells := 0, slots := 0, locals := 0 } : Room) s m #[(.int p0), (.int p1)] below meth c s₁ [] 0 0 := Stand.of_body Bd
  have e0 : s₁.heap = h0 := by rw [← hh, Bd.state]; rfl
  have N0 := Fr.nil n0
  have K0 : Keep h0 h0 [] := Keep.refl _ _
  have pre0 : ∀ t, Steps p.tables e below (s₁.setTop (mkF m 0 #[.val (.int p0), .val (.int p1)] [])) t → Steps p.tables e below (s₁.setTop (entryFrame m #[(.int p0), (.int p1)] 2)) t := fun t k => castTop (own_ef_25 m p0 p1) k
  show own_Ends p.tables e below (own_Q s (own_Q_minI Z p0 p1 h0 n0) ({ frames := 0, cells := 0, slots := 0, locals := 0 } : Room).cells ({ frames := 0, cells := 0, slots := 0, locals := 0 } : Room).slots) (s₁.setTop (entryFrame m #[(.int p0), (.int p1)] 2))
  refine own_step pre0 ?_
  show own_Ends p.tables e below _ (s₁.setTop (mkF m 0 #[.val (.int p0), .val (.int p1)] []))
  refine own_step (fun _ k => XS.iloadN X0.here hx rfl (hb hby own_d25_0) rfl k) ?_
  show own_Ends p.tables e below _ (s₁.setTop (mkF m 1 #[.val (.int p0), .val (.int p1)] [(.int p0)]))
  refine own_step (fun _ k => XS.iloadN X0.here hx rfl (hb hby own_d25_1) rfl k) ?_
  show own_Ends p.tables e below _ (s₁.setTop (mkF m 2 #[.val (.int p0), .val (.int p1)] [(.int p1), (.int p0)]))
  by_cases hc2 : p1 < p0
  · refine own_step (fun _ k => XS.icmpYes X0.here hx rfl (pc0 := 2) (pc' := 9) rfl (hb hby own_d25_2) rfl (tlt hc2).2.2.1 (by decide) (by decide) k) ?_
    show own_Ends p.tables e below _ (s₁.setTop (mkF m 9 #[.val (.int p0), .val (.int p1)] []))
    refine own_step (fun _ k => XS.iloadN X0.here hx rfl (hb hby own_d25_9) rfl k) ?_
    show own_Ends p.tables e below _ (s₁.setTop (mkF m 10 #[.val (.int p0), .val (.int p1)] [(.int p1)]))
    exact own_retI X0 hx hlk (by decide) (by decide) Bd.returns (hb hby own_d25_10) (by rw [e0]; exact ⟨by rw [show own_minI p0 p1 = p1 by simp [own_minI, hc2]], N0, rfl⟩)
  · refine own_step (fun _ k => XS.icmpNo X0.here hx rfl (hb hby own_d25_2) rfl (flt hc2).2.2.1 k) ?_
    show own_Ends p.tables e below _ (s₁.setTop (mkF m 5 #[.val (.int p0), .val (.int p1)] []))
    refine own_step (fun _ k => XS.iloadN X0.here hx rfl (hb hby own_d25_5) rfl k) ?_
    show own_Ends p.tables e below _ (s₁.setTop (mkF m 6 #[.val (.int p0), .val (.int p1)] [(.int p0)]))
    refine own_step (fun _ k => XS.goto X0.here hx rfl (pc0 := 6) (pc' := 10) rfl (hb hby own_d25_6) (by decide) (by decide) k) ?_
    show own_Ends p.tables e below _ (s₁.setTop (mkF m 10 #[.val (.int p0), .val (.int p1)] [(.int p0)]))
    exact own_retI X0 hx hlk (by decide) (by decide) Bd.returns (hb hby own_d25_10) (by rw [e0]; exact ⟨by rw [show own_minI p0 p1 = p0 by simp [own_minI, hc2]], N0, rfl⟩)
theorem own_d12_0 : decode prog_102_method_12_code 0 = .ok (.iload_n 0, 1) := by decide +kernel
theorem own_d12_1 : decode prog_102_method_12_code 1 = .ok (.i2l, 1) := by decide +kernel
theorem own_d12_2 : decode prog_102_method_12_code 2 = .ok (.bipush 9, 2) := by decide +kernel
theorem own_d12_4 : decode prog_102_method_12_code 4 = .ok (.lshl, 1) := by decide +kernel
theorem own_d12_5 : decode prog_102_method_12_code 5 = .ok (.iload_n 1, 1) := by decide +kernel
theorem own_d12_6 : decode prog_102_method_12_code 6 = .ok (.iconst 5, 1) := by decide +kernel
theorem own_d12_7 : decode prog_102_method_12_code 7 = .ok (.ishl, 1) := by decide +kernel
theorem own_d12_8 : decode prog_102_method_12_code 8 = .ok (.i2l, 1) := by decide +kernel
theorem own_d12_9 : decode prog_102_method_12_code 9 = .ok (.lor, 1) := by decide +kernel
theorem own_d12_10 : decode prog_102_method_12_code 10 = .ok (.iload_n 2, 1) := by decide +kernel
theorem own_d12_11 : decode prog_102_method_12_code 11 = .ok (.i2l, 1) := by decide +kernel
theorem own_d12_12 : decode prog_102_method_12_code 12 = .ok (.lor, 1) := by decide +kernel
theorem own_d12_13 : decode prog_102_method_12_code 13 = .ok (.lreturn, 1) := by decide +kernel
theorem own_pn0 : plainName "com/example/covenantry/covenantry/model/PackedDates" = true := by first | (simp [plainName, overriddenIn]; done) | decide +kernel
theorem own_ef_12 (m : MethodId) (x0 : Int32) (x1 : Int32) (x2 : Int32) : entryFrame m #[(.int x0), (.int x1), (.int x2)] 3 = mkF m 0 #[.val (.int x0), .val (.int x1), .val (.int x2)] [] := by first | (simp [entryFrame, mkF, argsToLocals, Value.category]; done) | rfl
def own_Q_pack (Z : State) (p0 : Int32) (p1 : Int32) (p2 : Int32) (h0 : Heap) (n0 : Nat) (v : Option Value) (h : Heap) (L : List Loc) : Prop := v = some (.long (own_pack p0 p1 p2)) ∧ Fr n0 L ∧ h = h0
set_option maxRecDepth 65536 in
set_option maxHeartbeats 40000000 in
theorem own_rm_pack (l : Launch) (Z : State) (aw : Array Value) (hw : ∀ d ∈ tables_1, d.before aw Z = true) (ws : List Jvm.Cond) (p0 : Int32) (p1 : Int32) (p2 : Int32) (h0 : Heap) (n0 : Nat) (Z0 : n0 ≤ h0.size) :
    MetFree l (⟨"com/example/covenantry/covenantry/model/PackedDates", "pack", "(III)J"⟩ : MethodName) (head1 (Jvm.Cond.code (⟨"com/example/covenantry/covenantry/model/PackedDates", "pack", "(III)J"⟩ : MethodName) prog_102_method_12_code 3 (some .long) :: ws) ({ frames := 0, cells := 0, slots := 0, locals := 0 } : Room)) (fun a U => a = #[(.int p0), (.int p1), (.int p2)] ∧ Z.Warmed39 U.vm ∧ U.heap = h0) (fun _ _ _ _ _ => True) (fun _ U o U' => ∃ v L, o = .returned v ∧ own_Q_pack Z p0 p1 p2 h0 n0 v U'.heap L ∧ FrameEnd U o U' L ({ frames := 0, cells := 0, slots := 0, locals := 0 } : Room).cells ({ frames := 0, cells := 0, slots := 0, locals := 0 } : Room).slots) := by
  refine MetFree.of_bodySF (plainFor_of_name own_pn0) hisR ?_
  intro p e s m args below meth c s₁ Bd hml0 hP hK
  obtain ⟨rfl, hZ, hh⟩ := hP
  have hx := Bd.exec
  have hby := Bd.bytes
  have hlk : meth.locks = false := BodyLoose.notSynchronized Bd
  have hml : c.maxLocals = 3 := hml0
  have hown : s.vm.findClass "com/example/covenantry/covenantry/model/PackedDates" = some m.cls := findClass_of_methodNamed Bd.named
  have hnm := (name_of_methodNamed Bd.named Bd.method).1
  have X0 : Stand p l e ({ frames := 0, cells := 0, slots := 0, locals := 0 } : Room) s m #[(.int p0), (.int p1), (.int p2)] below meth c s₁ [] 0 0 := Stand.of_body Bd
  have e0 : s₁.heap = h0 := by rw [← hh, Bd.state]; rfl
  have N0 := Fr.nil n0
  have K0 : Keep h0 h0 [] := Keep.refl _ _
  have pre0 : ∀ t, Steps p.tables e below (s₁.setTop (mkF m 0 #[.val (.int p0), .val (.int p1), .val (.int p2)] [])) t → Steps p.tables e below (s₁.setTop (entryFrame m #[(.int p0), (.int p1), (.int p2)] 3)) t := fun t k => castTop (own_ef_12 m p0 p1 p2) k
  show own_Ends p.tables e below (own_Q s (own_Q_pack Z p0 p1 p2 h0 n0) ({ frames := 0, cells := 0, slots := 0, locals := 0 } : Room).cells ({ frames := 0, cells := 0, slots := 0, locals := 0 } : Room).slots) (s₁.setTop (entryFrame m #[(.int p0), (.int p1), (.int p2)] 3))
  refine own_step pre0 ?_
  show own_Ends p.tables e below _ (s₁.setTop (mkF m 0 #[.val (.int p0), .val (.int p1), .val (.int p2)] []))
  refine own_step (fun _ k => XS.iloadN X0.here hx rfl (hb hby own_d12_0) rfl k) ?_
  show own_Ends p.tables e below _ (s₁.setTop (mkF m 1 #[.val (.int p0), .val (.int p1), .val (.int p2)] [(.int p0)]))
  refine own_step (fun _ k => XS.i2l X0.here hx rfl (hb hby own_d12_1) rfl k) ?_
  show own_Ends p.tables e below _ (s₁.setTop (mkF m 2 #[.val (.int p0), .val (.int p1), .val (.int p2)] [(.long (p0.toInt64))]))
  refine own_step (fun _ k => XS.bipush X0.here hx rfl (hb hby own_d12_2) k) ?_
  show own_Ends p.tables e below _ (s₁.setTop (mkF m 4 #[.val (.int p0), .val (.int p1), .val (.int p2)] [(.int (9 : Int32)), (.long (p0.toInt64))]))
  refine own_step (fun _ k => XS.lshl X0.here hx rfl (hb hby own_d12_4) rfl k) ?_
  show own_Ends p.tables e below _ (s₁.setTop (mkF m 5 #[.val (.int p0), .val (.int p1), .val (.int p2)] [(.long ((p0.toInt64) <<< ((9 : Int32) &&& 0x3f).toInt64))]))
  refine own_step (fun _ k => XS.iloadN X0.here hx rfl (hb hby own_d12_5) rfl k) ?_
  show own_Ends p.tables e below _ (s₁.setTop (mkF m 6 #[.val (.int p0), .val (.int p1), .val (.int p2)] [(.int p1), (.long ((p0.toInt64) <<< ((9 : Int32) &&& 0x3f).toInt64))]))
  refine own_step (fun _ k => XS.iconst X0.here hx rfl (hb hby own_d12_6) k) ?_
  show own_Ends p.tables e below _ (s₁.setTop (mkF m 7 #[.val (.int p0), .val (.int p1), .val (.int p2)] [(.int (5 : Int32)), (.int p1), (.long ((p0.toInt64) <<< ((9 : Int32) &&& 0x3f).toInt64))]))
  refine own_step (fun _ k => XS.ishl X0.here hx rfl (hb hby own_d12_7) rfl k) ?_
  show own_Ends p.tables e below _ (s₁.setTop (mkF m 8 #[.val (.int p0), .val (.int p1), .val (.int p2)] [(.int (p1 <<< ((5 : Int32) &&& 31))), (.long ((p0.toInt64) <<< ((9 : Int32) &&& 0x3f).toInt64))]))
  refine own_step (fun _ k => XS.i2l X0.here hx rfl (hb hby own_d12_8) rfl k) ?_
  show own_Ends p.tables e below _ (s₁.setTop (mkF m 9 #[.val (.int p0), .val (.int p1), .val (.int p2)] [(.long ((p1 <<< ((5 : Int32) &&& 31)).toInt64)), (.long ((p0.toInt64) <<< ((9 : Int32) &&& 0x3f).toInt64))]))
  refine own_step (fun _ k => XS.lor X0.here hx rfl (hb hby own_d12_9) rfl k) ?_
  show own_Ends p.tables e below _ (s₁.setTop (mkF m 10 #[.val (.int p0), .val (.int p1), .val (.int p2)] [(.long (((p0.toInt64) <<< ((9 : Int32) &&& 0x3f).toInt64) ||| ((p1 <<< ((5 : Int32) &&& 31)).toInt64)))]))
  refine own_step (fun _ k => XS.iloadN X0.here hx rfl (hb hby own_d12_10) rfl k) ?_
  show own_Ends p.tables e below _ (s₁.setTop (mkF m 11 #[.val (.int p0), .val (.int p1), .val (.int p2)] [(.int p2), (.long (((p0.toInt64) <<< ((9 : Int32) &&& 0x3f).toInt64) ||| ((p1 <<< ((5 : Int32) &&& 31)).toInt64)))]))
  refine own_step (fun _ k => XS.i2l X0.here hx rfl (hb hby own_d12_11) rfl k) ?_
  show own_Ends p.tables e below _ (s₁.setTop (mkF m 12 #[.val (.int p0), .val (.int p1), .val (.int p2)] [(.long (p2.toInt64)), (.long (((p0.toInt64) <<< ((9 : Int32) &&& 0x3f).toInt64) ||| ((p1 <<< ((5 : Int32) &&& 31)).toInt64)))]))
  refine own_step (fun _ k => XS.lor X0.here hx rfl (hb hby own_d12_12) rfl k) ?_
  show own_Ends p.tables e below _ (s₁.setTop (mkF m 13 #[.val (.int p0), .val (.int p1), .val (.int p2)] [(.long ((((p0.toInt64) <<< ((9 : Int32) &&& 0x3f).toInt64) ||| ((p1 <<< ((5 : Int32) &&& 31)).toInt64)) ||| (p2.toInt64)))]))
  exact own_retJ X0 hx hlk (by decide) (by decide) Bd.returns (hb hby own_d12_13) (by rw [e0]; exact ⟨rfl, N0, rfl⟩)
theorem own_d14_0 : decode prog_102_method_5_code 0 = .ok (.lload_n 0, 1) := by decide +kernel
theorem own_d14_1 : decode prog_102_method_5_code 1 = .ok (.bipush 9, 2) := by decide +kernel
theorem own_d14_3 : decode prog_102_method_5_code 3 = .ok (.lshr, 1) := by decide +kernel
theorem own_d14_4 : decode prog_102_method_5_code 4 = .ok (.l2i, 1) := by decide +kernel
theorem own_d14_5 : decode prog_102_method_5_code 5 = .ok (.ireturn, 1) := by decide +kernel
theorem own_ef_14 (m : MethodId) (x0 : Int64) : entryFrame m #[(.long x0)] 2 = mkF m 0 #[.val (.long x0), .second] [] := by first | (simp [entryFrame, mkF, argsToLocals, Value.category]; done) | rfl
def own_Q_year (Z : State) (q0 : Int64) (h0 : Heap) (n0 : Nat) (v : Option Value) (h : Heap) (L : List Loc) : Prop := v = some (.int (own_year q0)) ∧ Fr n0 L ∧ h = h0
set_option maxRecDepth 65536 in
set_option maxHeartbeats 40000000 in
theorem own_rm_year (l : Launch) (Z : State) (aw : Array Value) (hw : ∀ d ∈ tables_1, d.before aw Z = true) (ws : List Jvm.Cond) (q0 : Int64) (h0 : Heap) (n0 : Nat) (Z0 : n0 ≤ h0.size) :
    MetFree l (⟨"com/example/covenantry/covenantry/model/PackedDates", "year", "(J)I"⟩ : MethodName) (head1 (Jvm.Cond.code (⟨"com/example/covenantry/covenantry/model/PackedDates", "year", "(J)I"⟩ : MethodName) prog_102_method_5_code 2 (some .int) :: ws) ({ frames := 0, cells := 0, slots := 0, locals := 0 } : Room)) (fun a U => a = #[(.long q0)] ∧ Z.Warmed39 U.vm ∧ U.heap = h0) (fun _ _ _ _ _ => True) (fun _ U o U' => ∃ v L, o = .returned v ∧ own_Q_year Z q0 h0 n0 v U'.heap L ∧ FrameEnd U o U' L ({ frames := 0, cells := 0, slots := 0, locals := 0 } : Room).cells ({ frames := 0, cells := 0, slots := 0, locals := 0 } : Room).slots) := by
  refine MetFree.of_bodySF (plainFor_of_name own_pn0) hisR ?_
  intro p e s m args below meth c s₁ Bd hml0 hP hK
  obtain ⟨rfl, hZ, hh⟩ := hP
  have hx := Bd.exec
  have hby := Bd.bytes
  have hlk : meth.locks = false := BodyLoose.notSynchronized Bd
  have hml : c.maxLocals = 2 := hml0
  have hown : s.vm.findClass "com/example/covenantry/covenantry/model/PackedDates" = some m.cls := findClass_of_methodNamed Bd.named
  have hnm := (name_of_methodNamed Bd.named Bd.method).1
  have X0 : Stand p l e ({ frames := 0, cells := 0, slots := 0, locals := 0 } : Room) s m #[(.long q0)] below meth c s₁ [] 0 0 := Stand.of_body Bd
  have e0 : s₁.heap = h0 := by rw [← hh, Bd.state]; rfl
  have N0 := Fr.nil n0
  have K0 : Keep h0 h0 [] := Keep.refl _ _
  have pre0 : ∀ t, Steps p.tables e below (s₁.setTop (mkF m 0 #[.val (.long q0), .second] [])) t → Steps p.tables e below (s₁.setTop (entryFrame m #[(.long q0)] 2)) t := fun t k => castTop (own_ef_14 m q0) k
  show own_Ends p.tables e below (own_Q s (own_Q_year Z q0 h0 n0) ({ frames := 0, cells := 0, slots := 0, locals := 0 } : Room).cells ({ frames := 0, cells := 0, slots := 0, locals := 0 } : Room).slots) (s₁.setTop (entryFrame m #[(.long q0)] 2))
  refine own_step pre0 ?_
  show own_Ends p.tables e below _ (s₁.setTop (mkF m 0 #[.val (.long q0), .second] []))
  refine own_step (fun _ k => XS.lloadN X0.here hx rfl (hb hby own_d14_0) rfl k) ?_
  show own_Ends p.tables e below _ (s₁.setTop (mkF m 1 #[.val (.long q0), .second] [(.long q0)]))
  refine own_step (fun _ k => XS.bipush X0.here hx rfl (hb hby own_d14_1) k) ?_
  show own_Ends p.tables e below _ (s₁.setTop (mkF m 3 #[.val (.long q0), .second] [(.int (9 : Int32)), (.long q0)]))
  refine own_step (fun _ k => XS.lshr X0.here hx rfl (hb hby own_d14_3) rfl k) ?_
  show own_Ends p.tables e below _ (s₁.setTop (mkF m 4 #[.val (.long q0), .second] [(.long (q0 >>> ((9 : Int32) &&& 0x3f).toInt64))]))
  refine own_step (fun _ k => XS.l2i X0.here hx rfl (hb hby own_d14_4) rfl k) ?_
  show own_Ends p.tables e below _ (s₁.setTop (mkF m 5 #[.val (.long q0), .second] [(.int ((q0 >>> ((9 : Int32) &&& 0x3f).toInt64).toInt32))]))
  exact own_retI X0 hx hlk (by decide) (by decide) Bd.returns (hb hby own_d14_5) (by rw [e0]; exact ⟨rfl, N0, rfl⟩)
theorem own_d15_0 : decode prog_102_method_6_code 0 = .ok (.lload_n 0, 1) := by decide +kernel
theorem own_d15_1 : decode prog_102_method_6_code 1 = .ok (.iconst 5, 1) := by decide +kernel
theorem own_d15_2 : decode prog_102_method_6_code 2 = .ok (.lshr, 1) := by decide +kernel
theorem own_d15_3 : decode prog_102_method_6_code 3 = .ok (.l2i, 1) := by decide +kernel
theorem own_d15_4 : decode prog_102_method_6_code 4 = .ok (.bipush 15, 2) := by decide +kernel
theorem own_d15_6 : decode prog_102_method_6_code 6 = .ok (.iand, 1) := by decide +kernel
theorem own_d15_7 : decode prog_102_method_6_code 7 = .ok (.ireturn, 1) := by decide +kernel
theorem own_ef_15 (m : MethodId) (x0 : Int64) : entryFrame m #[(.long x0)] 2 = mkF m 0 #[.val (.long x0), .second] [] := by first | (simp [entryFrame, mkF, argsToLocals, Value.category]; done) | rfl
def own_Q_month (Z : State) (q0 : Int64) (h0 : Heap) (n0 : Nat) (v : Option Value) (h : Heap) (L : List Loc) : Prop := v = some (.int (own_month q0)) ∧ Fr n0 L ∧ h = h0
set_option maxRecDepth 65536 in
set_option maxHeartbeats 40000000 in
theorem own_rm_month (l : Launch) (Z : State) (aw : Array Value) (hw : ∀ d ∈ tables_1, d.before aw Z = true) (ws : List Jvm.Cond) (q0 : Int64) (h0 : Heap) (n0 : Nat) (Z0 : n0 ≤ h0.size) :
    MetFree l (⟨"com/example/covenantry/covenantry/model/PackedDates", "month", "(J)I"⟩ : MethodName) (head1 (Jvm.Cond.code (⟨"com/example/covenantry/covenantry/model/PackedDates", "month", "(J)I"⟩ : MethodName) prog_102_method_6_code 2 (some .int) :: ws) ({ frames := 0, cells := 0, slots := 0, locals := 0 } : Room)) (fun a U => a = #[(.long q0)] ∧ Z.Warmed39 U.vm ∧ U.heap = h0) (fun _ _ _ _ _ => True) (fun _ U o U' => ∃ v L, o = .returned v ∧ own_Q_month Z q0 h0 n0 v U'.heap L ∧ FrameEnd U o U' L ({ frames := 0, cells := 0, slots := 0, locals := 0 } : Room).cells ({ frames := 0, cells := 0, slots := 0, locals := 0 } : Room).slots) := by
  refine MetFree.of_bodySF (plainFor_of_name own_pn0) hisR ?_
  intro p e s m args below meth c s₁ Bd hml0 hP hK
  obtain ⟨rfl, hZ, hh⟩ := hP
  have hx := Bd.exec
  have hby := Bd.bytes
  have hlk : meth.locks = false := BodyLoose.notSynchronized Bd
  have hml : c.maxLocals = 2 := hml0
  have hown : s.vm.findClass "com/example/covenantry/covenantry/model/PackedDates" = some m.cls := findClass_of_methodNamed Bd.named
  have hnm := (name_of_methodNamed Bd.named Bd.method).1
  have X0 : Stand p l e ({ frames := 0, cells := 0, slots := 0, locals := 0 } : Room) s m #[(.long q0)] below meth c s₁ [] 0 0 := Stand.of_body Bd
  have e0 : s₁.heap = h0 := by rw [← hh, Bd.state]; rfl
  have N0 := Fr.nil n0
  have K0 : Keep h0 h0 [] := Keep.refl _ _
  have pre0 : ∀ t, Steps p.tables e below (s₁.setTop (mkF m 0 #[.val (.long q0), .second] [])) t → Steps p.tables e below (s₁.setTop (entryFrame m #[(.long q0)] 2)) t := fun t k => castTop (own_ef_15 m q0) k
  show own_Ends p.tables e below (own_Q s (own_Q_month Z q0 h0 n0) ({ frames := 0, cells := 0, slots := 0, locals := 0 } : Room).cells ({ frames := 0, cells := 0, slots := 0, locals := 0 } : Room).slots) (s₁.setTop (entryFrame m #[(.long q0)] 2))
  refine own_step pre0 ?_
  show own_Ends p.tables e below _ (s₁.setTop (mkF m 0 #[.val (.long q0), .second] []))
  refine own_step (fun _ k => XS.lloadN X0.here hx rfl (hb hby own_d15_0) rfl k) ?_
  show own_Ends p.tables e below _ (s₁.setTop (mkF m 1 #[.val (.long q0), .second] [(.long q0)]))
  refine own_step (fun _ k => XS.iconst X0.here hx rfl (hb hby own_d15_1) k) ?_
  show own_Ends p.tables e below _ (s₁.setTop (mkF m 2 #[.val (.long q0), .second] [(.int (5 : Int32)), (.long q0)]))
  refine own_step (fun _ k => XS.lshr X0.here hx rfl (hb hby own_d15_2) rfl k) ?_
  show own_Ends p.tables e below _ (s₁.setTop (mkF m 3 #[.val (.long q0), .second] [(.long (q0 >>> ((5 : Int32) &&& 0x3f).toInt64))]))
  refine own_step (fun _ k => XS.l2i X0.here hx rfl (hb hby own_d15_3) rfl k) ?_
  show own_Ends p.tables e below _ (s₁.setTop (mkF m 4 #[.val (.long q0), .second] [(.int ((q0 >>> ((5 : Int32) &&& 0x3f).toInt64).toInt32))]))
  refine own_step (fun _ k => XS.bipush X0.here hx rfl (hb hby own_d15_4) k) ?_
  show own_Ends p.tables e below _ (s₁.setTop (mkF m 6 #[.val (.long q0), .second] [(.int (15 : Int32)), (.int ((q0 >>> ((5 : Int32) &&& 0x3f).toInt64).toInt32))]))
  refine own_step (fun _ k => XS.iand X0.here hx rfl (hb hby own_d15_6) rfl k) ?_
  show own_Ends p.tables e below _ (s₁.setTop (mkF m 7 #[.val (.long q0), .second] [(.int (((q0 >>> ((5 : Int32) &&& 0x3f).toInt64).toInt32) &&& (15 : Int32)))]))
  exact own_retI X0 hx hlk (by decide) (by decide) Bd.returns (hb hby own_d15_7) (by rw [e0]; exact ⟨rfl, N0, rfl⟩)
theorem own_d24_0 : decode prog_102_method_7_code 0 = .ok (.lload_n 0, 1) := by decide +kernel
theorem own_d24_1 : decode prog_102_method_7_code 1 = .ok (.l2i, 1) := by decide +kernel
theorem own_d24_2 : decode prog_102_method_7_code 2 = .ok (.bipush 31, 2) := by decide +kernel
theorem own_d24_4 : decode prog_102_method_7_code 4 = .ok (.iand, 1) := by decide +kernel
theorem own_d24_5 : decode prog_102_method_7_code 5 = .ok (.ireturn, 1) := by decide +kernel
theorem own_ef_24 (m : MethodId) (x0 : Int64) : entryFrame m #[(.long x0)] 2 = mkF m 0 #[.val (.long x0), .second] [] := by first | (simp [entryFrame, mkF, argsToLocals, Value.category]; done) | rfl
def own_Q_day (Z : State) (q0 : Int64) (h0 : Heap) (n0 : Nat) (v : Option Value) (h : Heap) (L : List Loc) : Prop := v = some (.int (own_day q0)) ∧ Fr n0 L ∧ h = h0
set_option maxRecDepth 65536 in
set_option maxHeartbeats 40000000 in
theorem own_rm_day (l : Launch) (Z : State) (aw : Array Value) (hw : ∀ d ∈ tables_1, d.before aw Z = true) (ws : List Jvm.Cond) (q0 : Int64) (h0 : Heap) (n0 : Nat) (Z0 : n0 ≤ h0.size) :
    MetFree l (⟨"com/example/covenantry/covenantry/model/PackedDates", "day", "(J)I"⟩ : MethodName) (head1 (Jvm.Cond.code (⟨"com/example/covenantry/covenantry/model/PackedDates", "day", "(J)I"⟩ : MethodName) prog_102_method_7_code 2 (some .int) :: ws) ({ frames := 0, cells := 0, slots := 0, locals := 0 } : Room)) (fun a U => a = #[(.long q0)] ∧ Z.Warmed39 U.vm ∧ U.heap = h0) (fun _ _ _ _ _ => True) (fun _ U o U' => ∃ v L, o = .returned v ∧ own_Q_day Z q0 h0 n0 v U'.heap L ∧ FrameEnd U o U' L ({ frames := 0, cells := 0, slots := 0, locals := 0 } : Room).cells ({ frames := 0, cells := 0, slots := 0, locals := 0 } : Room).slots) := by
  refine MetFree.of_bodySF (plainFor_of_name own_pn0) hisR ?_
  intro p e s m args below meth c s₁ Bd hml0 hP hK
  obtain ⟨rfl, hZ, hh⟩ := hP
  have hx := Bd.exec
  have hby := Bd.bytes
  have hlk : meth.locks = false := BodyLoose.notSynchronized Bd
  have hml : c.maxLocals = 2 := hml0
  have hown : s.vm.findClass "com/example/covenantry/covenantry/model/PackedDates" = some m.cls := findClass_of_methodNamed Bd.named
  have hnm := (name_of_methodNamed Bd.named Bd.method).1
  have X0 : Stand p l e ({ frames := 0, cells := 0, slots := 0, locals := 0 } : Room) s m #[(.long q0)] below meth c s₁ [] 0 0 := Stand.of_body Bd
  have e0 : s₁.heap = h0 := by rw [← hh, Bd.state]; rfl
  have N0 := Fr.nil n0
  have K0 : Keep h0 h0 [] := Keep.refl _ _
  have pre0 : ∀ t, Steps p.tables e below (s₁.setTop (mkF m 0 #[.val (.long q0), .second] [])) t → Steps p.tables e below (s₁.setTop (entryFrame m #[(.long q0)] 2)) t := fun t k => castTop (own_ef_24 m q0) k
  show own_Ends p.tables e below (own_Q s (own_Q_day Z q0 h0 n0) ({ frames := 0, cells := 0, slots := 0, locals := 0 } : Room).cells ({ frames := 0, cells := 0, slots := 0, locals := 0 } : Room).slots) (s₁.setTop (entryFrame m #[(.long q0)] 2))
  refine own_step pre0 ?_
  show own_Ends p.tables e below _ (s₁.setTop (mkF m 0 #[.val (.long q0), .second] []))
  refine own_step (fun _ k => XS.lloadN X0.here hx rfl (hb hby own_d24_0) rfl k) ?_
  show own_Ends p.tables e below _ (s₁.setTop (mkF m 1 #[.val (.long q0), .second] [(.long q0)]))
  refine own_step (fun _ k => XS.l2i X0.here hx rfl (hb hby own_d24_1) rfl k) ?_
  show own_Ends p.tables e below _ (s₁.setTop (mkF m 2 #[.val (.long q0), .second] [(.int (q0.toInt32))]))
  refine own_step (fun _ k => XS.bipush X0.here hx rfl (hb hby own_d24_2) k) ?_
  show own_Ends p.tables e below _ (s₁.setTop (mkF m 4 #[.val (.long q0), .second] [(.int (31 : Int32)), (.int (q0.toInt32))]))
  refine own_step (fun _ k => XS.iand X0.here hx rfl (hb hby own_d24_4) rfl k) ?_
  show own_Ends p.tables e below _ (s₁.setTop (mkF m 5 #[.val (.long q0), .second] [(.int ((q0.toInt32) &&& (31 : Int32)))]))
  exact own_retI X0 hx hlk (by decide) (by decide) Bd.returns (hb hby own_d24_5) (by rw [e0]; exact ⟨rfl, N0, rfl⟩)
theorem own_d26_0 : decode prog_102_method_11_code 0 = .ok (.lload_n 0, 1) := by decide +kernel
theorem own_d26_1 : decode prog_102_method_11_code 1 = .ok (.ldc2_w 94, 3) := by decide +kernel
theorem own_d26_4 : decode prog_102_method_11_code 4 = .ok (.land, 1) := by decide +kernel
theorem own_d26_5 : decode prog_102_method_11_code 5 = .ok (.iload_n 2, 1) := by decide +kernel
theorem own_d26_6 : decode prog_102_method_11_code 6 = .ok (.i2l, 1) := by decide +kernel
theorem own_d26_7 : decode prog_102_method_11_code 7 = .ok (.lor, 1) := by decide +kernel
theorem own_d26_8 : decode prog_102_method_11_code 8 = .ok (.lreturn, 1) := by decide +kernel
theorem own_ef_26 (m : MethodId) (x0 : Int64) (x1 : Int32) : entryFrame m #[(.long x0), (.int x1)] 3 = mkF m 0 #[.val (.long x0), .second, .val (.int x1)] [] := by first | (simp [entryFrame, mkF, argsToLocals, Value.category]; done) | rfl
def own_Q_withDay (Z : State) (q0 : Int64) (p1 : Int32) (h0 : Heap) (n0 : Nat) (v : Option Value) (h : Heap) (L : List Loc) : Prop := v = some (.long (own_wd q0 p1)) ∧ Fr n0 L ∧ h = h0
set_option maxRecDepth 65536 in
set_option maxHeartbeats 40000000 in
theorem own_rm_withDay (l : Launch) (Z : State) (aw : Array Value) (hw : ∀ d ∈ tables_1, d.before aw Z = true) (ws : List Jvm.Cond) (q0 : Int64) (p1 : Int32) (h0 : Heap) (n0 : Nat) (Z0 : n0 ≤ h0.size) :
    MetFree l (⟨"com/example/covenantry/covenantry/model/PackedDates", "withDay", "(JI)J"⟩ : MethodName) (head1 (Jvm.Cond.code (⟨"com/example/covenantry/covenantry/model/PackedDates", "withDay", "(JI)J"⟩ : MethodName) prog_102_method_11_code 3 (some .long) :: ws) ({ frames := 0, cells := 0, slots := 0, locals := 0 } : Room)) (fun a U => a = #[(.long q0), (.int p1)] ∧ Z.Warmed39 U.vm ∧ U.heap = h0) (fun _ _ _ _ _ => True) (fun _ U o U' => ∃ v L, o = .returned v ∧ own_Q_withDay Z q0 p1 h0 n0 v U'.heap L ∧ FrameEnd U o U' L ({ frames := 0, cells := 0, slots := 0, locals := 0 } : Room).cells ({ frames := 0, cells := 0, slots := 0, locals := 0 } : Room).slots) := by
  refine MetFree.of_bodySF (plainFor_of_name own_pn0) hisR ?_
  intro p e s m args below meth c s₁ Bd hml0 hP hK
  obtain ⟨rfl, hZ, hh⟩ := hP
  have hx := Bd.exec
  have hby := Bd.bytes
  have hlk : meth.locks = false := BodyLoose.notSynchronized Bd
  have hml : c.maxLocals = 3 := hml0
  have hown : s.vm.findClass "com/example/covenantry/covenantry/model/PackedDates" = some m.cls := findClass_of_methodNamed Bd.named
  have hnm := (name_of_methodNamed Bd.named Bd.method).1
  have X0 : Stand p l e ({ frames := 0, cells := 0, slots := 0, locals := 0 } : Room) s m #[(.long q0), (.int p1)] below meth c s₁ [] 0 0 := Stand.of_body Bd
  have e0 : s₁.heap = h0 := by rw [← hh, Bd.state]; rfl
  have N0 := Fr.nil n0
  have K0 : Keep h0 h0 [] := Keep.refl _ _
  have pre0 : ∀ t, Steps p.tables e below (s₁.setTop (mkF m 0 #[.val (.long q0), .second, .val (.int p1)] [])) t → Steps p.tables e below (s₁.setTop (entryFrame m #[(.long q0), (.int p1)] 3)) t := fun t k => castTop (own_ef_26 m q0 p1) k
  show own_Ends p.tables e below (own_Q s (own_Q_withDay Z q0 p1 h0 n0) ({ frames := 0, cells := 0, slots := 0, locals := 0 } : Room).cells ({ frames := 0, cells := 0, slots := 0, locals := 0 } : Room).slots) (s₁.setTop (entryFrame m #[(.long q0), (.int p1)] 3))
  refine own_step pre0 ?_
  show own_Ends p.tables e below _ (s₁.setTop (mkF m 0 #[.val (.long q0), .second, .val (.int p1)] []))
  refine own_step (fun _ k => XS.lloadN X0.here hx rfl (hb hby own_d26_0) rfl k) ?_
  show own_Ends p.tables e below _ (s₁.setTop (mkF m 1 #[.val (.long q0), .second, .val (.int p1)] [(.long q0)]))
  refine own_step (fun _ k => X0.ldc2Long hx hown (mvT hZ (hw _ (List.mem_of_getElem? (i := 122) rfl))) (g := (mkF m 1 #[.val (.long q0), .second, .val (.int p1)] [(.long q0)])) rfl (hb hby own_d26_1) _ k) ?_
  show own_Ends p.tables e below _ (s₁.setTop (mkF m 4 #[.val (.long q0), .second, .val (.int p1)] [(.long (-32 : Int64)), (.long q0)]))
  refine own_step (fun _ k => XS.land X0.here hx rfl (hb hby own_d26_4) rfl k) ?_
  show own_Ends p.tables e below _ (s₁.setTop (mkF m 5 #[.val (.long q0), .second, .val (.int p1)] [(.long (q0 &&& (-32 : Int64)))]))
  refine own_step (fun _ k => XS.iloadN X0.here hx rfl (hb hby own_d26_5) rfl k) ?_
  show own_Ends p.tables e below _ (s₁.setTop (mkF m 6 #[.val (.long q0), .second, .val (.int p1)] [(.int p1), (.long (q0 &&& (-32 : Int64)))]))
  refine own_step (fun _ k => XS.i2l X0.here hx rfl (hb hby own_d26_6) rfl k) ?_
  show own_Ends p.tables e below _ (s₁.setTop (mkF m 7 #[.val (.long q0), .second, .val (.int p1)] [(.long (p1.toInt64)), (.long (q0 &&& (-32 : Int64)))]))
  refine own_step (fun _ k => XS.lor X0.here hx rfl (hb hby own_d26_7) rfl k) ?_
  show own_Ends p.tables e below _ (s₁.setTop (mkF m 8 #[.val (.long q0), .second, .val (.int p1)] [(.long ((q0 &&& (-32 : Int64)) ||| (p1.toInt64)))]))
  exact own_retJ X0 hx hlk (by decide) (by decide) Bd.returns (hb hby own_d26_8) (by rw [e0]; exact ⟨rfl, N0, rfl⟩)
theorem own_d11_0 : decode prog_102_method_10_code 0 = .ok (.iload_n 1, 1) := by decide +kernel
theorem own_d11_1 : decode prog_102_method_10_code 1 = .ok (.iconst 2, 1) := by decide +kernel
theorem own_d11_2 : decode prog_102_method_10_code 2 = .ok (.if_icmp .ne 42, 3) := by decide +kernel
theorem own_d11_5 : decode prog_102_method_10_code 5 = .ok (.iload_n 0, 1) := by decide +kernel
theorem own_d11_6 : decode prog_102_method_10_code 6 = .ok (.iconst 4, 1) := by decide +kernel
theorem own_d11_7 : decode prog_102_method_10_code 7 = .ok (.irem, 1) := by decide +kernel
theorem own_d11_8 : decode prog_102_method_10_code 8 = .ok (.ifCond .ne 22, 3) := by decide +kernel
theorem own_d11_11 : decode prog_102_method_10_code 11 = .ok (.iload_n 0, 1) := by decide +kernel
theorem own_d11_12 : decode prog_102_method_10_code 12 = .ok (.bipush 100, 2) := by decide +kernel
theorem own_d11_14 : decode prog_102_method_10_code 14 = .ok (.irem, 1) := by decide +kernel
theorem own_d11_15 : decode prog_102_method_10_code 15 = .ok (.ifCond .ne 11, 3) := by decide +kernel
theorem own_d11_18 : decode prog_102_method_10_code 18 = .ok (.iload_n 0, 1) := by decide +kernel
theorem own_d11_19 : decode prog_102_method_10_code 19 = .ok (.sipush 400, 3) := by decide +kernel
theorem own_d11_22 : decode prog_102_method_10_code 22 = .ok (.irem, 1) := by decide +kernel
theorem own_d11_23 : decode prog_102_method_10_code 23 = .ok (.ifCond .ne 7, 3) := by decide +kernel
theorem own_d11_26 : decode prog_102_method_10_code 26 = .ok (.iconst 1, 1) := by decide +kernel
theorem own_d11_27 : decode prog_102_method_10_code 27 = .ok (.goto 4, 3) := by decide +kernel
theorem own_d11_30 : decode prog_102_method_10_code 30 = .ok (.iconst 0, 1) := by decide +kernel
theorem own_d11_31 : decode prog_102_method_10_code 31 = .ok (.istore_n 2, 1) := by decide +kernel
theorem own_d11_32 : decode prog_102_method_10_code 32 = .ok (.iload_n 2, 1) := by decide +kernel
theorem own_d11_33 : decode prog_102_method_10_code 33 = .ok (.ifCond .eq 8, 3) := by decide +kernel
theorem own_d11_36 : decode prog_102_method_10_code 36 = .ok (.bipush 29, 2) := by decide +kernel
theorem own_d11_38 : decode prog_102_method_10_code 38 = .ok (.goto 5, 3) := by decide +kernel
theorem own_d11_41 : decode prog_102_method_10_code 41 = .ok (.bipush 28, 2) := by decide +kernel
theorem own_d11_43 : decode prog_102_method_10_code 43 = .ok (.ireturn, 1) := by decide +kernel
theorem own_d11_44 : decode prog_102_method_10_code 44 = .ok (.iload_n 1, 1) := by decide +kernel
theorem own_d11_45 : decode prog_102_method_10_code 45 = .ok (.iconst 4, 1) := by decide +kernel
theorem own_d11_46 : decode prog_102_method_10_code 46 = .ok (.if_icmp .eq 21, 3) := by decide +kernel
theorem own_d11_49 : decode prog_102_method_10_code 49 = .ok (.iload_n 1, 1) := by decide +kernel
theorem own_d11_50 : decode prog_102_method_10_code 50 = .ok (.bipush 6, 2) := by decide +kernel
theorem own_d11_52 : decode prog_102_method_10_code 52 = .ok (.if_icmp .eq 15, 3) := by decide +kernel
theorem own_d11_55 : decode prog_102_method_10_code 55 = .ok (.iload_n 1, 1) := by decide +kernel
theorem own_d11_56 : decode prog_102_method_10_code 56 = .ok (.bipush 9, 2) := by decide +kernel
theorem own_d11_58 : decode prog_102_method_10_code 58 = .ok (.if_icmp .eq 9, 3) := by decide +kernel
theorem own_d11_61 : decode prog_102_method_10_code 61 = .ok (.iload_n 1, 1) := by decide +kernel
theorem own_d11_62 : decode prog_102_method_10_code 62 = .ok (.bipush 11, 2) := by decide +kernel
theorem own_d11_64 : decode prog_102_method_10_code 64 = .ok (.if_icmp .ne 8, 3) := by decide +kernel
theorem own_d11_67 : decode prog_102_method_10_code 67 = .ok (.bipush 30, 2) := by decide +kernel
theorem own_d11_69 : decode prog_102_method_10_code 69 = .ok (.goto 5, 3) := by decide +kernel
theorem own_d11_72 : decode prog_102_method_10_code 72 = .ok (.bipush 31, 2) := by decide +kernel
theorem own_d11_74 : decode prog_102_method_10_code 74 = .ok (.ireturn, 1) := by decide +kernel
theorem own_ef_11 (m : MethodId) (x0 : Int32) (x1 : Int32) : entryFrame m #[(.int x0), (.int x1)] 3 = mkF m 0 #[.val (.int x0), .val (.int x1), .unset] [] := by first | (simp [entryFrame, mkF, argsToLocals, Value.category]; done) | rfl
def own_Q_len (Z : State) (p0 : Int32) (p1 : Int32) (h0 : Heap) (n0 : Nat) (v : Option Value) (h : Heap) (L : List Loc) : Prop := v = some (.int (own_len p0 p1)) ∧ Fr n0 L ∧ h = h0
set_option maxRecDepth 65536 in
set_option maxHeartbeats 40000000 in
theorem own_rm_len (l : Launch) (Z : State) (aw : Array Value) (hw : ∀ d ∈ tables_1, d.before aw Z = true) (ws : List Jvm.Cond) (p0 : Int32) (p1 : Int32) (h0 : Heap) (n0 : Nat) (Z0 : n0 ≤ h0.size) :
    MetFree l (⟨"com/example/covenantry/covenantry/model/PackedDates", "lengthOfMonth", "(II)I"⟩ : MethodName) (head1 (Jvm.Cond.code (⟨"com/example/covenantry/covenantry/model/PackedDates", "lengthOfMonth", "(II)I"⟩ : MethodName) prog_102_method_10_code 3 (some .int) :: ws) ({ frames := 0, cells := 0, slots := 0, locals := 0 } : Room)) (fun a U => a = #[(.int p0), (.int p1)] ∧ Z.Warmed39 U.vm ∧ U.heap = h0) (fun _ _ _ _ _ => True) (fun _ U o U' => ∃ v L, o = .returned v ∧ own_Q_len Z p0 p1 h0 n0 v U'.heap L ∧ FrameEnd U o U' L ({ frames := 0, cells := 0, slots := 0, locals := 0 } : Room).cells ({ frames := 0, cells := 0, slots := 0, locals := 0 } : Room).slots) := by
  refine MetFree.of_bodySF (plainFor_of_name own_pn0) hisR ?_
  intro p e s m args below meth c s₁ Bd hml0 hP hK
  obtain ⟨rfl, hZ, hh⟩ := hP
  have hx := Bd.exec
  have hby := Bd.bytes
  have hlk : meth.locks = false := BodyLoose.notSynchronized Bd
  have hml : c.maxLocals = 3 := hml0
  have hown : s.vm.findClass "com/example/covenantry/covenantry/model/PackedDates" = some m.cls := findClass_of_methodNamed Bd.named
  have hnm := (name_of_methodNamed Bd.named Bd.method).1
  have X0 : Stand p l e ({ frames := 0, cells := 0, slots := 0, locals := 0 } : Room) s m #[(.int p0), (.int p1)] below meth c s₁ [] 0 0 := Stand.of_body Bd
  have e0 : s₁.heap = h0 := by rw [← hh, Bd.state]; rfl
  have N0 := Fr.nil n0
  have K0 : Keep h0 h0 [] := Keep.refl _ _
  have pre0 : ∀ t, Steps p.tables e below (s₁.setTop (mkF m 0 #[.val (.int p0), .val (.int p1), .unset] [])) t → Steps p.tables e below (s₁.setTop (entryFrame m #[(.int p0), (.int p1)] 3)) t := fun t k => castTop (own_ef_11 m p0 p1) k
  show own_Ends p.tables e below (own_Q s (own_Q_len Z p0 p1 h0 n0) ({ frames := 0, cells := 0, slots := 0, locals := 0 } : Room).cells ({ frames := 0, cells := 0, slots := 0, locals := 0 } : Room).slots) (s₁.setTop (entryFrame m #[(.int p0), (.int p1)] 3))
  refine own_step pre0 ?_
  show own_Ends p.tables e below _ (s₁.setTop (mkF m 0 #[.val (.int p0), .val (.int p1), .unset] []))
  refine own_step (fun _ k => XS.iloadN X0.here hx rfl (hb hby own_d11_0) rfl k) ?_
  show own_Ends p.tables e below _ (s₁.setTop (mkF m 1 #[.val (.int p0), .val (.int p1), .unset] [(.int p1)]))
  refine own_step (fun _ k => XS.iconst X0.here hx rfl (hb hby own_d11_1) k) ?_
  show own_Ends p.tables e below _ (s₁.setTop (mkF m 2 #[.val (.int p0), .val (.int p1), .unset] [(.int (2 : Int32)), (.int p1)]))
  by_cases hc2 : p1 = (2 : Int32)
  · refine own_step (fun _ k => XS.icmpNo X0.here hx rfl (hb hby own_d11_2) rfl (teq hc2).2 k) ?_
    show own_Ends p.tables e below _ (s₁.setTop (mkF m 5 #[.val (.int p0), .val (.int p1), .unset] []))
    refine own_step (fun _ k => XS.iloadN X0.here hx rfl (hb hby own_d11_5) rfl k) ?_
    show own_Ends p.tables e below _ (s₁.setTop (mkF m 6 #[.val (.int p0), .val (.int p1), .unset] [(.int p0)]))
    refine own_step (fun _ k => XS.iconst X0.here hx rfl (hb hby own_d11_6) k) ?_
    show own_Ends p.tables e below _ (s₁.setTop (mkF m 7 #[.val (.int p0), .val (.int p1), .unset] [(.int (4 : Int32)), (.int p0)]))
    refine own_step (fun _ k => iremM X0 hx rfl (hb hby own_d11_7) rfl (by decide) k) ?_
    show own_Ends p.tables e below _ (s₁.setTop (mkF m 8 #[.val (.int p0), .val (.int p1), .unset] [(.int (p0 % (4 : Int32)))]))
    by_cases hc8 : (p0 % (4 : Int32)) = (0 : Int32)
    · refine own_step (fun _ k => XS.ifNo X0.here hx rfl (hb hby own_d11_8) rfl ((if0 _ _).trans (teq hc8).2) k) ?_
      show own_Ends p.tables e below _ (s₁.setTop (mkF m 11 #[.val (.int p0), .val (.int p1), .unset] []))
      refine own_step (fun _ k => XS.iloadN X0.here hx rfl (hb hby own_d11_11) rfl k) ?_
      show own_Ends p.tables e below _ (s₁.setTop (mkF m 12 #[.val (.int p0), .val (.int p1), .unset] [(.int p0)]))
      refine own_step (fun _ k => XS.bipush X0.here hx rfl (hb hby own_d11_12) k) ?_
      show own_Ends p.tables e below _ (s₁.setTop (mkF m 14 #[.val (.int p0), .val (.int p1), .unset] [(.int (100 : Int32)), (.int p0)]))
      refine own_step (fun _ k => iremM X0 hx rfl (hb hby own_d11_14) rfl (by decide) k) ?_
      show own_Ends p.tables e below _ (s₁.setTop (mkF m 15 #[.val (.int p0), .val (.int p1), .unset] [(.int (p0 % (100 : Int32)))]))
      by_cases hc15 : (p0 % (100 : Int32)) = (0 : Int32)
      · refine own_step (fun _ k => XS.ifNo X0.here hx rfl (hb hby own_d11_15) rfl ((if0 _ _).trans (teq hc15).2) k) ?_
        show own_Ends p.tables e below _ (s₁.setTop (mkF m 18 #[.val (.int p0), .val (.int p1), .unset] []))
        refine own_step (fun _ k => XS.iloadN X0.here hx rfl (hb hby own_d11_18) rfl k) ?_
        show own_Ends p.tables e below _ (s₁.setTop (mkF m 19 #[.val (.int p0), .val (.int p1), .unset] [(.int p0)]))
        refine own_step (fun _ k => XS.sipush X0.here hx rfl (hb hby own_d11_19) k) ?_
        show own_Ends p.tables e below _ (s₁.setTop (mkF m 22 #[.val (.int p0), .val (.int p1), .unset] [(.int (400 : Int32)), (.int p0)]))
        refine own_step (fun _ k => iremM X0 hx rfl (hb hby own_d11_22) rfl (by decide) k) ?_
        show own_Ends p.tables e below _ (s₁.setTop (mkF m 23 #[.val (.int p0), .val (.int p1), .unset] [(.int (p0 % (400 : Int32)))]))
        by_cases hc23 : (p0 % (400 : Int32)) = (0 : Int32)
        · refine own_step (fun _ k => XS.ifNo X0.here hx rfl (hb hby own_d11_23) rfl ((if0 _ _).trans (teq hc23).2) k) ?_
          show own_Ends p.tables e below _ (s₁.setTop (mkF m 26 #[.val (.int p0), .val (.int p1), .unset] []))
          refine own_step (fun _ k => XS.iconst X0.here hx rfl (hb hby own_d11_26) k) ?_
          show own_Ends p.tables e below _ (s₁.setTop (mkF m 27 #[.val (.int p0), .val (.int p1), .unset] [(.int (1 : Int32))]))
          refine own_step (fun _ k => XS.goto X0.here hx rfl (pc0 := 27) (pc' := 31) rfl (hb hby own_d11_27) (by decide) (by decide) k) ?_
          show own_Ends p.tables e below _ (s₁.setTop (mkF m 31 #[.val (.int p0), .val (.int p1), .unset] [(.int (1 : Int32))]))
          refine own_step (fun _ k => XS.istoreN X0.here hx rfl (hb hby own_d11_31) rfl (l' := #[.val (.int p0), .val (.int p1), .val (.int (1 : Int32))]) rfl k) ?_
          show own_Ends p.tables e below _ (s₁.setTop (mkF m 32 #[.val (.int p0), .val (.int p1), .val (.int (1 : Int32))] []))
          refine own_step (fun _ k => XS.iloadN X0.here hx rfl (hb hby own_d11_32) rfl k) ?_
          show own_Ends p.tables e below _ (s₁.setTop (mkF m 33 #[.val (.int p0), .val (.int p1), .val (.int (1 : Int32))] [(.int (1 : Int32))]))
          refine own_step (fun _ k => XS.ifNo X0.here hx rfl (hb hby own_d11_33) rfl ((if0 _ _).trans (feq (by decide)).1) k) ?_
          show own_Ends p.tables e below _ (s₁.setTop (mkF m 36 #[.val (.int p0), .val (.int p1), .val (.int (1 : Int32))] []))
          refine own_step (fun _ k => XS.bipush X0.here hx rfl (hb hby own_d11_36) k) ?_
          show own_Ends p.tables e below _ (s₁.setTop (mkF m 38 #[.val (.int p0), .val (.int p1), .val (.int (1 : Int32))] [(.int (29 : Int32))]))
          refine own_step (fun _ k => XS.goto X0.here hx rfl (pc0 := 38) (pc' := 43) rfl (hb hby own_d11_38) (by decide) (by decide) k) ?_
          show own_Ends p.tables e below _ (s₁.setTop (mkF m 43 #[.val (.int p0), .val (.int p1), .val (.int (1 : Int32))] [(.int (29 : Int32))]))
          exact own_retI X0 hx hlk (by decide) (by decide) Bd.returns (hb hby own_d11_43) (by rw [e0]; exact ⟨by rw [show own_len p0 p1 = (29 : Int32) by simp [own_len, hc2, hc8, hc15, hc23]], N0, rfl⟩)
        · refine own_step (fun _ k => XS.ifYes X0.here hx rfl (pc0 := 23) (pc' := 30) rfl (hb hby own_d11_23) rfl ((if0 _ _).trans (feq hc23).2) (by decide) (by decide) k) ?_
          show own_Ends p.tables e below _ (s₁.setTop (mkF m 30 #[.val (.int p0), .val (.int p1), .unset] []))
          refine own_step (fun _ k => XS.iconst X0.here hx rfl (hb hby own_d11_30) k) ?_
          show own_Ends p.tables e below _ (s₁.setTop (mkF m 31 #[.val (.int p0), .val (.int p1), .unset] [(.int (0 : Int32))]))
          refine own_step (fun _ k => XS.istoreN X0.here hx rfl (hb hby own_d11_31) rfl (l' := #[.val (.int p0), .val (.int p1), .val (.int (0 : Int32))]) rfl k) ?_
          show own_Ends p.tables e below _ (s₁.setTop (mkF m 32 #[.val (.int p0), .val (.int p1), .val (.int (0 : Int32))] []))
          refine own_step (fun _ k => XS.iloadN X0.here hx rfl (hb hby own_d11_32) rfl k) ?_
          show own_Ends p.tables e below _ (s₁.setTop (mkF m 33 #[.val (.int p0), .val (.int p1), .val (.int (0 : Int32))] [(.int (0 : Int32))]))
          refine own_step (fun _ k => XS.ifYes X0.here hx rfl (pc0 := 33) (pc' := 41) rfl (hb hby own_d11_33) rfl ((if0 _ _).trans (teq (by decide)).1) (by decide) (by decide) k) ?_
          show own_Ends p.tables e below _ (s₁.setTop (mkF m 41 #[.val (.int p0), .val (.int p1), .val (.int (0 : Int32))] []))
          refine own_step (fun _ k => XS.bipush X0.here hx rfl (hb hby own_d11_41) k) ?_
          show own_Ends p.tables e below _ (s₁.setTop (mkF m 43 #[.val (.int p0), .val (.int p1), .val (.int (0 : Int32))] [(.int (28 : Int32))]))
          exact own_retI X0 hx hlk (by decide) (by decide) Bd.returns (hb hby own_d11_43) (by rw [e0]; exact ⟨by rw [show own_len p0 p1 = (28 : Int32) by simp [own_len, hc2, hc8, hc15, hc23]], N0, rfl⟩)
      · refine own_step (fun _ k => XS.ifYes X0.here hx rfl (pc0 := 15) (pc' := 26) rfl (hb hby own_d11_15) rfl ((if0 _ _).trans (feq hc15).2) (by decide) (by decide) k) ?_
        show own_Ends p.tables e below _ (s₁.setTop (mkF m 26 #[.val (.int p0), .val (.int p1), .unset] []))
        refine own_step (fun _ k => XS.iconst X0.here hx rfl (hb hby own_d11_26) k) ?_
        show own_Ends p.tables e below _ (s₁.setTop (mkF m 27 #[.val (.int p0), .val (.int p1), .unset] [(.int (1 : Int32))]))
        refine own_step (fun _ k => XS.goto X0.here hx rfl (pc0 := 27) (pc' := 31) rfl (hb hby own_d11_27) (by decide) (by decide) k) ?_
        show own_Ends p.tables e below _ (s₁.setTop (mkF m 31 #[.val (.int p0), .val (.int p1), .unset] [(.int (1 : Int32))]))
        refine own_step (fun _ k => XS.istoreN X0.here hx rfl (hb hby own_d11_31) rfl (l' := #[.val (.int p0), .val (.int p1), .val (.int (1 : Int32))]) rfl k) ?_
        show own_Ends p.tables e below _ (s₁.setTop (mkF m 32 #[.val (.int p0), .val (.int p1), .val (.int (1 : Int32))] []))
        refine own_step (fun _ k => XS.iloadN X0.here hx rfl (hb hby own_d11_32) rfl k) ?_
        show own_Ends p.tables e below _ (s₁.setTop (mkF m 33 #[.val (.int p0), .val (.int p1), .val (.int (1 : Int32))] [(.int (1 : Int32))]))
        refine own_step (fun _ k => XS.ifNo X0.here hx rfl (hb hby own_d11_33) rfl ((if0 _ _).trans (feq (by decide)).1) k) ?_
        show own_Ends p.tables e below _ (s₁.setTop (mkF m 36 #[.val (.int p0), .val (.int p1), .val (.int (1 : Int32))] []))
        refine own_step (fun _ k => XS.bipush X0.here hx rfl (hb hby own_d11_36) k) ?_
        show own_Ends p.tables e below _ (s₁.setTop (mkF m 38 #[.val (.int p0), .val (.int p1), .val (.int (1 : Int32))] [(.int (29 : Int32))]))
        refine own_step (fun _ k => XS.goto X0.here hx rfl (pc0 := 38) (pc' := 43) rfl (hb hby own_d11_38) (by decide) (by decide) k) ?_
        show own_Ends p.tables e below _ (s₁.setTop (mkF m 43 #[.val (.int p0), .val (.int p1), .val (.int (1 : Int32))] [(.int (29 : Int32))]))
        exact own_retI X0 hx hlk (by decide) (by decide) Bd.returns (hb hby own_d11_43) (by rw [e0]; exact ⟨by rw [show own_len p0 p1 = (29 : Int32) by simp [own_len, hc2, hc8, hc15]], N0, rfl⟩)
    · refine own_step (fun _ k => XS.ifYes X0.here hx rfl (pc0 := 8) (pc' := 30) rfl (hb hby own_d11_8) rfl ((if0 _ _).trans (feq hc8).2) (by decide) (by decide) k) ?_
      show own_Ends p.tables e below _ (s₁.setTop (mkF m 30 #[.val (.int p0), .val (.int p1), .unset] []))
      refine own_step (fun _ k => XS.iconst X0.here hx rfl (hb hby own_d11_30) k) ?_
      show own_Ends p.tables e below _ (s₁.setTop (mkF m 31 #[.val (.int p0), .val (.int p1), .unset] [(.int (0 : Int32))]))
      refine own_step (fun _ k => XS.istoreN X0.here hx rfl (hb hby own_d11_31) rfl (l' := #[.val (.int p0), .val (.int p1), .val (.int (0 : Int32))]) rfl k) ?_
      show own_Ends p.tables e below _ (s₁.setTop (mkF m 32 #[.val (.int p0), .val (.int p1), .val (.int (0 : Int32))] []))
      refine own_step (fun _ k => XS.iloadN X0.here hx rfl (hb hby own_d11_32) rfl k) ?_
      show own_Ends p.tables e below _ (s₁.setTop (mkF m 33 #[.val (.int p0), .val (.int p1), .val (.int (0 : Int32))] [(.int (0 : Int32))]))
      refine own_step (fun _ k => XS.ifYes X0.here hx rfl (pc0 := 33) (pc' := 41) rfl (hb hby own_d11_33) rfl ((if0 _ _).trans (teq (by decide)).1) (by decide) (by decide) k) ?_
      show own_Ends p.tables e below _ (s₁.setTop (mkF m 41 #[.val (.int p0), .val (.int p1), .val (.int (0 : Int32))] []))
      refine own_step (fun _ k => XS.bipush X0.here hx rfl (hb hby own_d11_41) k) ?_
      show own_Ends p.tables e below _ (s₁.setTop (mkF m 43 #[.val (.int p0), .val (.int p1), .val (.int (0 : Int32))] [(.int (28 : Int32))]))
      exact own_retI X0 hx hlk (by decide) (by decide) Bd.returns (hb hby own_d11_43) (by rw [e0]; exact ⟨by rw [show own_len p0 p1 = (28 : Int32) by simp [own_len, hc2, hc8]], N0, rfl⟩)
  · refine own_step (fun _ k => XS.icmpYes X0.here hx rfl (pc0 := 2) (pc' := 44) rfl (hb hby own_d11_2) rfl (feq hc2).2 (by decide) (by decide) k) ?_
    show own_Ends p.tables e below _ (s₁.setTop (mkF m 44 #[.val (.int p0), .val (.int p1), .unset] []))
    refine own_step (fun _ k => XS.iloadN X0.here hx rfl (hb hby own_d11_44) rfl k) ?_
    show own_Ends p.tables e below _ (s₁.setTop (mkF m 45 #[.val (.int p0), .val (.int p1), .unset] [(.int p1)]))
    refine own_step (fun _ k => XS.iconst X0.here hx rfl (hb hby own_d11_45) k) ?_
    show own_Ends p.tables e below _ (s₁.setTop (mkF m 46 #[.val (.int p0), .val (.int p1), .unset] [(.int (4 : Int32)), (.int p1)]))
    by_cases hc46 : p1 = (4 : Int32)
    · refine own_step (fun _ k => XS.icmpYes X0.here hx rfl (pc0 := 46) (pc' := 67) rfl (hb hby own_d11_46) rfl (teq hc46).1 (by decide) (by decide) k) ?_
      show own_Ends p.tables e below _ (s₁.setTop (mkF m 67 #[.val (.int p0), .val (.int p1), .unset] []))
      refine own_step (fun _ k => XS.bipush X0.here hx rfl (hb hby own_d11_67) k) ?_
      show own_Ends p.tables e below _ (s₁.setTop (mkF m 69 #[.val (.int p0), .val (.int p1), .unset] [(.int (30 : Int32))]))
      refine own_step (fun _ k => XS.goto X0.here hx rfl (pc0 := 69) (pc' := 74) rfl (hb hby own_d11_69) (by decide) (by decide) k) ?_
      show own_Ends p.tables e below _ (s₁.setTop (mkF m 74 #[.val (.int p0), .val (.int p1), .unset] [(.int (30 : Int32))]))
      exact own_retI X0 hx hlk (by decide) (by decide) Bd.returns (hb hby own_d11_74) (by rw [e0]; exact ⟨by rw [show own_len p0 p1 = (30 : Int32) by simp [own_len, hc2, hc46]], N0, rfl⟩)
    · refine own_step (fun _ k => XS.icmpNo X0.here hx rfl (hb hby own_d11_46) rfl (feq hc46).1 k) ?_
      show own_Ends p.tables e below _ (s₁.setTop (mkF m 49 #[.val (.int p0), .val (.int p1), .unset] []))
      refine own_step (fun _ k => XS.iloadN X0.here hx rfl (hb hby own_d11_49) rfl k) ?_
      show own_Ends p.tables e below _ (s₁.setTop (mkF m 50 #[.val (.int p0), .val (.int p1), .unset] [(.int p1)]))
      refine own_step (fun _ k => XS.bipush X0.here hx rfl (hb hby own_d11_50) k) ?_
      show own_Ends p.tables e below _ (s₁.setTop (mkF m 52 #[.val (.int p0), .val (.int p1), .unset] [(.int (6 : Int32)), (.int p1)]))
      by_cases hc52 : p1 = (6 : Int32)
      · refine own_step (fun _ k => XS.icmpYes X0.here hx rfl (pc0 := 52) (pc' := 67) rfl (hb hby own_d11_52) rfl (teq hc52).1 (by decide) (by decide) k) ?_
        show own_Ends p.tables e below _ (s₁.setTop (mkF m 67 #[.val (.int p0), .val (.int p1), .unset] []))
        refine own_step (fun _ k => XS.bipush X0.here hx rfl (hb hby own_d11_67) k) ?_
        show own_Ends p.tables e below _ (s₁.setTop (mkF m 69 #[.val (.int p0), .val (.int p1), .unset] [(.int (30 : Int32))]))
        refine own_step (fun _ k => XS.goto X0.here hx rfl (pc0 := 69) (pc' := 74) rfl (hb hby own_d11_69) (by decide) (by decide) k) ?_
        show own_Ends p.tables e below _ (s₁.setTop (mkF m 74 #[.val (.int p0), .val (.int p1), .unset] [(.int (30 : Int32))]))
        exact own_retI X0 hx hlk (by decide) (by decide) Bd.returns (hb hby own_d11_74) (by rw [e0]; exact ⟨by rw [show own_len p0 p1 = (30 : Int32) by simp [own_len, hc2, hc46, hc52]], N0, rfl⟩)
      · refine own_step (fun _ k => XS.icmpNo X0.here hx rfl (hb hby own_d11_52) rfl (feq hc52).1 k) ?_
        show own_Ends p.tables e below _ (s₁.setTop (mkF m 55 #[.val (.int p0), .val (.int p1), .unset] []))
        refine own_step (fun _ k => XS.iloadN X0.here hx rfl (hb hby own_d11_55) rfl k) ?_
        show own_Ends p.tables e below _ (s₁.setTop (mkF m 56 #[.val (.int p0), .val (.int p1), .unset] [(.int p1)]))
        refine own_step (fun _ k => XS.bipush X0.here hx rfl (hb hby own_d11_56) k) ?_
        show own_Ends p.tables e below _ (s₁.setTop (mkF m 58 #[.val (.int p0), .val (.int p1), .unset] [(.int (9 : Int32)), (.int p1)]))
        by_cases hc58 : p1 = (9 : Int32)
        · refine own_step (fun _ k => XS.icmpYes X0.here hx rfl (pc0 := 58) (pc' := 67) rfl (hb hby own_d11_58) rfl (teq hc58).1 (by decide) (by decide) k) ?_
          show own_Ends p.tables e below _ (s₁.setTop (mkF m 67 #[.val (.int p0), .val (.int p1), .unset] []))
          refine own_step (fun _ k => XS.bipush X0.here hx rfl (hb hby own_d11_67) k) ?_
          show own_Ends p.tables e below _ (s₁.setTop (mkF m 69 #[.val (.int p0), .val (.int p1), .unset] [(.int (30 : Int32))]))
          refine own_step (fun _ k => XS.goto X0.here hx rfl (pc0 := 69) (pc' := 74) rfl (hb hby own_d11_69) (by decide) (by decide) k) ?_
          show own_Ends p.tables e below _ (s₁.setTop (mkF m 74 #[.val (.int p0), .val (.int p1), .unset] [(.int (30 : Int32))]))
          exact own_retI X0 hx hlk (by decide) (by decide) Bd.returns (hb hby own_d11_74) (by rw [e0]; exact ⟨by rw [show own_len p0 p1 = (30 : Int32) by simp [own_len, hc2, hc46, hc52, hc58]], N0, rfl⟩)
        · refine own_step (fun _ k => XS.icmpNo X0.here hx rfl (hb hby own_d11_58) rfl (feq hc58).1 k) ?_
          show own_Ends p.tables e below _ (s₁.setTop (mkF m 61 #[.val (.int p0), .val (.int p1), .unset] []))
          refine own_step (fun _ k => XS.iloadN X0.here hx rfl (hb hby own_d11_61) rfl k) ?_
          show own_Ends p.tables e below _ (s₁.setTop (mkF m 62 #[.val (.int p0), .val (.int p1), .unset] [(.int p1)]))
          refine own_step (fun _ k => XS.bipush X0.here hx rfl (hb hby own_d11_62) k) ?_
          show own_Ends p.tables e below _ (s₁.setTop (mkF m 64 #[.val (.int p0), .val (.int p1), .unset] [(.int (11 : Int32)), (.int p1)]))
          by_cases hc64 : p1 = (11 : Int32)
          · refine own_step (fun _ k => XS.icmpNo X0.here hx rfl (hb hby own_d11_64) rfl (teq hc64).2 k) ?_
            show own_Ends p.tables e below _ (s₁.setTop (mkF m 67 #[.val (.int p0), .val (.int p1), .unset] []))
            refine own_step (fun _ k => XS.bipush X0.here hx rfl (hb hby own_d11_67) k) ?_
            show own_Ends p.tables e below _ (s₁.setTop (mkF m 69 #[.val (.int p0), .val (.int p1), .unset] [(.int (30 : Int32))]))
            refine own_step (fun _ k => XS.goto X0.here hx rfl (pc0 := 69) (pc' := 74) rfl (hb hby own_d11_69) (by decide) (by decide) k) ?_
            show own_Ends p.tables e below _ (s₁.setTop (mkF m 74 #[.val (.int p0), .val (.int p1), .unset] [(.int (30 : Int32))]))
            exact own_retI X0 hx hlk (by decide) (by decide) Bd.returns (hb hby own_d11_74) (by rw [e0]; exact ⟨by rw [show own_len p0 p1 = (30 : Int32) by simp [own_len, hc2, hc46, hc52, hc58, hc64]], N0, rfl⟩)
          · refine own_step (fun _ k => XS.icmpYes X0.here hx rfl (pc0 := 64) (pc' := 72) rfl (hb hby own_d11_64) rfl (feq hc64).2 (by decide) (by decide) k) ?_
            show own_Ends p.tables e below _ (s₁.setTop (mkF m 72 #[.val (.int p0), .val (.int p1), .unset] []))
            refine own_step (fun _ k => XS.bipush X0.here hx rfl (hb hby own_d11_72) k) ?_
            show own_Ends p.tables e below _ (s₁.setTop (mkF m 74 #[.val (.int p0), .val (.int p1), .unset] [(.int (31 : Int32))]))
            exact own_retI X0 hx hlk (by decide) (by decide) Bd.returns (hb hby own_d11_74) (by rw [e0]; exact ⟨by rw [show own_len p0 p1 = (31 : Int32) by simp [own_len, hc2, hc46, hc52, hc58, hc64]], N0, rfl⟩)
theorem own_d29_0 : decode method_2_code 0 = .ok (.iload_n 0, 1) := by decide +kernel
theorem own_d29_1 : decode method_2_code 1 = .ok (.iload_n 1, 1) := by decide +kernel
theorem own_d29_2 : decode method_2_code 2 = .ok (.imul, 1) := by decide +kernel
theorem own_d29_3 : decode method_2_code 3 = .ok (.istore 5, 2) := by decide +kernel
theorem own_d29_5 : decode method_2_code 5 = .ok (.iload 5, 2) := by decide +kernel
theorem own_d29_7 : decode method_2_code 7 = .ok (.iload_n 2, 1) := by decide +kernel
theorem own_d29_8 : decode method_2_code 8 = .ok (.if_icmp .lt 15, 3) := by decide +kernel
theorem own_d29_11 : decode method_2_code 11 = .ok (.iload 5, 2) := by decide +kernel
theorem own_d29_13 : decode method_2_code 13 = .ok (.iload_n 2, 1) := by decide +kernel
theorem own_d29_14 : decode method_2_code 14 = .ok (.if_icmp .ne 13, 3) := by decide +kernel
theorem own_d29_17 : decode method_2_code 17 = .ok (.iload_n 3, 1) := by decide +kernel
theorem own_d29_18 : decode method_2_code 18 = .ok (.iload 4, 2) := by decide +kernel
theorem own_d29_20 : decode method_2_code 20 = .ok (.if_icmp .ge 7, 3) := by decide +kernel
theorem own_d29_23 : decode method_2_code 23 = .ok (.iconst 1, 1) := by decide +kernel
theorem own_d29_24 : decode method_2_code 24 = .ok (.goto 4, 3) := by decide +kernel
theorem own_d29_27 : decode method_2_code 27 = .ok (.iconst 0, 1) := by decide +kernel
theorem own_d29_28 : decode method_2_code 28 = .ok (.ireturn, 1) := by decide +kernel
theorem own_pn1 : plainName "com/example/covenantry/covenantry/model/PeriodEndsHasNextPinLaw" = true := by first | (simp [plainName, overriddenIn]; done) | decide +kernel
theorem own_ef_29 (m : MethodId) (x0 : Int32) (x1 : Int32) (x2 : Int32) (x3 : Int32) (x4 : Int32) : entryFrame m #[(.int x0), (.int x1), (.int x2), (.int x3), (.int x4)] 6 = mkF m 0 #[.val (.int x0), .val (.int x1), .val (.int x2), .val (.int x3), .val (.int x4), .unset] [] := by first | (simp [entryFrame, mkF, argsToLocals, Value.category]; done) | rfl
def own_Q_before (Z : State) (p0 : Int32) (p1 : Int32) (p2 : Int32) (p3 : Int32) (p4 : Int32) (h0 : Heap) (n0 : Nat) (v : Option Value) (h : Heap) (L : List Loc) : Prop := v = some (.int (own_before p0 p1 p2 p3 p4)) ∧ Fr n0 L ∧ h = h0
set_option maxRecDepth 65536 in
set_option maxHeartbeats 40000000 in
theorem own_rm_before (l : Launch) (Z : State) (aw : Array Value) (hw : ∀ d ∈ tables_1, d.before aw Z = true) (ws : List Jvm.Cond) (p0 : Int32) (p1 : Int32) (p2 : Int32) (p3 : Int32) (p4 : Int32) (h0 : Heap) (n0 : Nat) (Z0 : n0 ≤ h0.size) :
    MetFree l (⟨"com/example/covenantry/covenantry/model/PeriodEndsHasNextPinLaw", "before", "(IIIII)Z"⟩ : MethodName) (head1 (Jvm.Cond.code (⟨"com/example/covenantry/covenantry/model/PeriodEndsHasNextPinLaw", "before", "(IIIII)Z"⟩ : MethodName) method_2_code 6 (some .boolean) :: ws) ({ frames := 0, cells := 0, slots := 0, locals := 0 } : Room)) (fun a U => a = #[(.int p0), (.int p1), (.int p2), (.int p3), (.int p4)] ∧ Z.Warmed39 U.vm ∧ U.heap = h0) (fun _ _ _ _ _ => True) (fun _ U o U' => ∃ v L, o = .returned v ∧ own_Q_before Z p0 p1 p2 p3 p4 h0 n0 v U'.heap L ∧ FrameEnd U o U' L ({ frames := 0, cells := 0, slots := 0, locals := 0 } : Room).cells ({ frames := 0, cells := 0, slots := 0, locals := 0 } : Room).slots) := by
  refine MetFree.of_bodySF (plainFor_of_name own_pn1) hisR ?_
  intro p e s m args below meth c s₁ Bd hml0 hP hK
  obtain ⟨rfl, hZ, hh⟩ := hP
  have hx := Bd.exec
  have hby := Bd.bytes
  have hlk : meth.locks = false := BodyLoose.notSynchronized Bd
  have hml : c.maxLocals = 6 := hml0
  have hown : s.vm.findClass "com/example/covenantry/covenantry/model/PeriodEndsHasNextPinLaw" = some m.cls := findClass_of_methodNamed Bd.named
  have hnm := (name_of_methodNamed Bd.named Bd.method).1
  have X0 : Stand p l e ({ frames := 0, cells := 0, slots := 0, locals := 0 } : Room) s m #[(.int p0), (.int p1), (.int p2), (.int p3), (.int p4)] below meth c s₁ [] 0 0 := Stand.of_body Bd
  have e0 : s₁.heap = h0 := by rw [← hh, Bd.state]; rfl
  have N0 := Fr.nil n0
  have K0 : Keep h0 h0 [] := Keep.refl _ _
  have pre0 : ∀ t, Steps p.tables e below (s₁.setTop (mkF m 0 #[.val (.int p0), .val (.int p1), .val (.int p2), .val (.int p3), .val (.int p4), .unset] [])) t → Steps p.tables e below (s₁.setTop (entryFrame m #[(.int p0), (.int p1), (.int p2), (.int p3), (.int p4)] 6)) t := fun t k => castTop (own_ef_29 m p0 p1 p2 p3 p4) k
  show own_Ends p.tables e below (own_Q s (own_Q_before Z p0 p1 p2 p3 p4 h0 n0) ({ frames := 0, cells := 0, slots := 0, locals := 0 } : Room).cells ({ frames := 0, cells := 0, slots := 0, locals := 0 } : Room).slots) (s₁.setTop (entryFrame m #[(.int p0), (.int p1), (.int p2), (.int p3), (.int p4)] 6))
  refine own_step pre0 ?_
  show own_Ends p.tables e below _ (s₁.setTop (mkF m 0 #[.val (.int p0), .val (.int p1), .val (.int p2), .val (.int p3), .val (.int p4), .unset] []))
  refine own_step (fun _ k => XS.iloadN X0.here hx rfl (hb hby own_d29_0) rfl k) ?_
  show own_Ends p.tables e below _ (s₁.setTop (mkF m 1 #[.val (.int p0), .val (.int p1), .val (.int p2), .val (.int p3), .val (.int p4), .unset] [(.int p0)]))
  refine own_step (fun _ k => XS.iloadN X0.here hx rfl (hb hby own_d29_1) rfl k) ?_
  show own_Ends p.tables e below _ (s₁.setTop (mkF m 2 #[.val (.int p0), .val (.int p1), .val (.int p2), .val (.int p3), .val (.int p4), .unset] [(.int p1), (.int p0)]))
  refine own_step (fun _ k => XS.imul X0.here hx rfl (hb hby own_d29_2) rfl k) ?_
  show own_Ends p.tables e below _ (s₁.setTop (mkF m 3 #[.val (.int p0), .val (.int p1), .val (.int p2), .val (.int p3), .val (.int p4), .unset] [(.int (p0 * p1))]))
  refine own_step (fun _ k => XS.istore X0.here hx rfl (hb hby own_d29_3) rfl (l' := #[.val (.int p0), .val (.int p1), .val (.int p2), .val (.int p3), .val (.int p4), .val (.int (p0 * p1))]) rfl k) ?_
  show own_Ends p.tables e below _ (s₁.setTop (mkF m 5 #[.val (.int p0), .val (.int p1), .val (.int p2), .val (.int p3), .val (.int p4), .val (.int (p0 * p1))] []))
  refine own_step (fun _ k => XS.iload X0.here hx rfl (hb hby own_d29_5) rfl k) ?_
  show own_Ends p.tables e below _ (s₁.setTop (mkF m 7 #[.val (.int p0), .val (.int p1), .val (.int p2), .val (.int p3), .val (.int p4), .val (.int (p0 * p1))] [(.int (p0 * p1))]))
  refine own_step (fun _ k => XS.iloadN X0.here hx rfl (hb hby own_d29_7) rfl k) ?_
  show own_Ends p.tables e below _ (s₁.setTop (mkF m 8 #[.val (.int p0), .val (.int p1), .val (.int p2), .val (.int p3), .val (.int p4), .val (.int (p0 * p1))] [(.int p2), (.int (p0 * p1))]))
  by_cases hc8 : (p0 * p1) < p2
  · refine own_step (fun _ k => XS.icmpYes X0.here hx rfl (pc0 := 8) (pc' := 23) rfl (hb hby own_d29_8) rfl (tlt hc8).1 (by decide) (by decide) k) ?_
    show own_Ends p.tables e below _ (s₁.setTop (mkF m 23 #[.val (.int p0), .val (.int p1), .val (.int p2), .val (.int p3), .val (.int p4), .val (.int (p0 * p1))] []))
    refine own_step (fun _ k => XS.iconst X0.here hx rfl (hb hby own_d29_23) k) ?_
    show own_Ends p.tables e below _ (s₁.setTop (mkF m 24 #[.val (.int p0), .val (.int p1), .val (.int p2), .val (.int p3), .val (.int p4), .val (.int (p0 * p1))] [(.int (1 : Int32))]))
    refine own_step (fun _ k => XS.goto X0.here hx rfl (pc0 := 24) (pc' := 28) rfl (hb hby own_d29_24) (by decide) (by decide) k) ?_
    show own_Ends p.tables e below _ (s₁.setTop (mkF m 28 #[.val (.int p0), .val (.int p1), .val (.int p2), .val (.int p3), .val (.int p4), .val (.int (p0 * p1))] [(.int (1 : Int32))]))
    exact own_retN X0 hx hlk (by decide) (by decide) (t := .boolean) Bd.returns (by simp) (hb hby own_d29_28) (by rw [e0]; exact ⟨by rw [show own_before p0 p1 p2 p3 p4 = (1 : Int32) by simp [own_before, hc8]]; rfl, N0, rfl⟩)
  · refine own_step (fun _ k => XS.icmpNo X0.here hx rfl (hb hby own_d29_8) rfl (flt hc8).1 k) ?_
    show own_Ends p.tables e below _ (s₁.setTop (mkF m 11 #[.val (.int p0), .val (.int p1), .val (.int p2), .val (.int p3), .val (.int p4), .val (.int (p0 * p1))] []))
    refine own_step (fun _ k => XS.iload X0.here hx rfl (hb hby own_d29_11) rfl k) ?_
    show own_Ends p.tables e below _ (s₁.setTop (mkF m 13 #[.val (.int p0), .val (.int p1), .val (.int p2), .val (.int p3), .val (.int p4), .val (.int (p0 * p1))] [(.int (p0 * p1))]))
    refine own_step (fun _ k => XS.iloadN X0.here hx rfl (hb hby own_d29_13) rfl k) ?_
    show own_Ends p.tables e below _ (s₁.setTop (mkF m 14 #[.val (.int p0), .val (.int p1), .val (.int p2), .val (.int p3), .val (.int p4), .val (.int (p0 * p1))] [(.int p2), (.int (p0 * p1))]))
    by_cases hc14 : (p0 * p1) = p2
    · refine own_step (fun _ k => XS.icmpNo X0.here hx rfl (hb hby own_d29_14) rfl (teq hc14).2 k) ?_
      show own_Ends p.tables e below _ (s₁.setTop (mkF m 17 #[.val (.int p0), .val (.int p1), .val (.int p2), .val (.int p3), .val (.int p4), .val (.int (p0 * p1))] []))
      refine own_step (fun _ k => XS.iloadN X0.here hx rfl (hb hby own_d29_17) rfl k) ?_
      show own_Ends p.tables e below _ (s₁.setTop (mkF m 18 #[.val (.int p0), .val (.int p1), .val (.int p2), .val (.int p3), .val (.int p4), .val (.int (p0 * p1))] [(.int p3)]))
      refine own_step (fun _ k => XS.iload X0.here hx rfl (hb hby own_d29_18) rfl k) ?_
      show own_Ends p.tables e below _ (s₁.setTop (mkF m 20 #[.val (.int p0), .val (.int p1), .val (.int p2), .val (.int p3), .val (.int p4), .val (.int (p0 * p1))] [(.int p4), (.int p3)]))
      by_cases hc20 : p3 < p4
      · refine own_step (fun _ k => XS.icmpNo X0.here hx rfl (hb hby own_d29_20) rfl (tlt hc20).2.1 k) ?_
        show own_Ends p.tables e below _ (s₁.setTop (mkF m 23 #[.val (.int p0), .val (.int p1), .val (.int p2), .val (.int p3), .val (.int p4), .val (.int (p0 * p1))] []))
        refine own_step (fun _ k => XS.iconst X0.here hx rfl (hb hby own_d29_23) k) ?_
        show own_Ends p.tables e below _ (s₁.setTop (mkF m 24 #[.val (.int p0), .val (.int p1), .val (.int p2), .val (.int p3), .val (.int p4), .val (.int (p0 * p1))] [(.int (1 : Int32))]))
        refine own_step (fun _ k => XS.goto X0.here hx rfl (pc0 := 24) (pc' := 28) rfl (hb hby own_d29_24) (by decide) (by decide) k) ?_
        show own_Ends p.tables e below _ (s₁.setTop (mkF m 28 #[.val (.int p0), .val (.int p1), .val (.int p2), .val (.int p3), .val (.int p4), .val (.int (p0 * p1))] [(.int (1 : Int32))]))
        exact own_retN X0 hx hlk (by decide) (by decide) (t := .boolean) Bd.returns (by simp) (hb hby own_d29_28) (by rw [e0]; exact ⟨by rw [show own_before p0 p1 p2 p3 p4 = (1 : Int32) by simp [own_before, hc8, hc14, hc20]]; rfl, N0, rfl⟩)
      · refine own_step (fun _ k => XS.icmpYes X0.here hx rfl (pc0 := 20) (pc' := 27) rfl (hb hby own_d29_20) rfl (flt hc20).2.1 (by decide) (by decide) k) ?_
        show own_Ends p.tables e below _ (s₁.setTop (mkF m 27 #[.val (.int p0), .val (.int p1), .val (.int p2), .val (.int p3), .val (.int p4), .val (.int (p0 * p1))] []))
        refine own_step (fun _ k => XS.iconst X0.here hx rfl (hb hby own_d29_27) k) ?_
        show own_Ends p.tables e below _ (s₁.setTop (mkF m 28 #[.val (.int p0), .val (.int p1), .val (.int p2), .val (.int p3), .val (.int p4), .val (.int (p0 * p1))] [(.int (0 : Int32))]))
        exact own_retN X0 hx hlk (by decide) (by decide) (t := .boolean) Bd.returns (by simp) (hb hby own_d29_28) (by rw [e0]; exact ⟨by rw [show own_before p0 p1 p2 p3 p4 = (0 : Int32) by simp [own_before, hc8, hc14, hc20]]; rfl, N0, rfl⟩)
    · refine own_step (fun _ k => XS.icmpYes X0.here hx rfl (pc0 := 14) (pc' := 27) rfl (hb hby own_d29_14) rfl (feq hc14).2 (by decide) (by decide) k) ?_
      show own_Ends p.tables e below _ (s₁.setTop (mkF m 27 #[.val (.int p0), .val (.int p1), .val (.int p2), .val (.int p3), .val (.int p4), .val (.int (p0 * p1))] []))
      refine own_step (fun _ k => XS.iconst X0.here hx rfl (hb hby own_d29_27) k) ?_
      show own_Ends p.tables e below _ (s₁.setTop (mkF m 28 #[.val (.int p0), .val (.int p1), .val (.int p2), .val (.int p3), .val (.int p4), .val (.int (p0 * p1))] [(.int (0 : Int32))]))
      exact own_retN X0 hx hlk (by decide) (by decide) (t := .boolean) Bd.returns (by simp) (hb hby own_d29_28) (by rw [e0]; exact ⟨by rw [show own_before p0 p1 p2 p3 p4 = (0 : Int32) by simp [own_before, hc8, hc14]]; rfl, N0, rfl⟩)
theorem own_d17_0 : decode jdk_29_method_49_code 0 = .ok (.lload_n 0, 1) := by decide +kernel
theorem own_d17_1 : decode jdk_29_method_49_code 1 = .ok (.lload_n 2, 1) := by decide +kernel
theorem own_d17_2 : decode jdk_29_method_49_code 2 = .ok (.ldiv, 1) := by decide +kernel
theorem own_d17_3 : decode jdk_29_method_49_code 3 = .ok (.lstore 4, 2) := by decide +kernel
theorem own_d17_5 : decode jdk_29_method_49_code 5 = .ok (.lload_n 0, 1) := by decide +kernel
theorem own_d17_6 : decode jdk_29_method_49_code 6 = .ok (.lload_n 2, 1) := by decide +kernel
theorem own_d17_7 : decode jdk_29_method_49_code 7 = .ok (.lxor, 1) := by decide +kernel
theorem own_d17_8 : decode jdk_29_method_49_code 8 = .ok (.lconst 0, 1) := by decide +kernel
theorem own_d17_9 : decode jdk_29_method_49_code 9 = .ok (.lcmp, 1) := by decide +kernel
theorem own_d17_10 : decode jdk_29_method_49_code 10 = .ok (.ifCond .ge 17, 3) := by decide +kernel
theorem own_d17_27 : decode jdk_29_method_49_code 27 = .ok (.lload 4, 2) := by decide +kernel
theorem own_d17_29 : decode jdk_29_method_49_code 29 = .ok (.lreturn, 1) := by decide +kernel
theorem own_ef_17 (m : MethodId) (x0 : Int64) (x1 : Int64) : entryFrame m #[(.long x0), (.long x1)] 6 = mkF m 0 #[.val (.long x0), .second, .val (.long x1), .second, .unset, .unset] [] := by first | (simp [entryFrame, mkF, argsToLocals, Value.category]; done) | rfl
def own_Q_fdJ (Z : State) (q0 : Int64) (q1 : Int64) (h0 : Heap) (n0 : Nat) (v : Option Value) (h : Heap) (L : List Loc) : Prop := v = some (.long (q0 / q1)) ∧ Fr n0 L ∧ h = h0
set_option maxRecDepth 65536 in
set_option maxHeartbeats 40000000 in
theorem own_rm_fdJ (l : Launch) (Z : State) (aw : Array Value) (hw : ∀ d ∈ tables_1, d.before aw Z = true) (ws : List Jvm.Cond) (q0 : Int64) (q1 : Int64) (h0 : Heap) (n0 : Nat) (Z0 : n0 ≤ h0.size) (hz : ¬ q1 = 0) (hxo : ¬ (q0 ^^^ q1) < (0 : Int64)) :
    MetFree l (⟨"java/lang/Math", "floorDiv", "(JJ)J"⟩ : MethodName) (head1 (Jvm.Cond.code (⟨"java/lang/Math", "floorDiv", "(JJ)J"⟩ : MethodName) jdk_29_method_49_code 6 (some .long) :: ws) ({ frames := 0, cells := 0, slots := 0, locals := 0 } : Room)) (fun a U => a = #[(.long q0), (.long q1)] ∧ Z.Warmed39 U.vm ∧ U.heap = h0) (fun _ _ _ _ _ => True) (fun _ U o U' => ∃ v L, o = .returned v ∧ own_Q_fdJ Z q0 q1 h0 n0 v U'.heap L ∧ FrameEnd U o U' L ({ frames := 0, cells := 0, slots := 0, locals := 0 } : Room).cells ({ frames := 0, cells := 0, slots := 0, locals := 0 } : Room).slots) := by
  refine MetFree.of_bodySF (Jvm.Free.JP.mathPlain rfl (by decide +kernel)) hisR ?_
  intro p e s m args below meth c s₁ Bd hml0 hP hK
  obtain ⟨rfl, hZ, hh⟩ := hP
  have hx := Bd.exec
  have hby := Bd.bytes
  have hlk : meth.locks = false := BodyLoose.notSynchronized Bd
  have hml : c.maxLocals = 6 := hml0
  have hown : s.vm.findClass "java/lang/Math" = some m.cls := findClass_of_methodNamed Bd.named
  have hnm := (name_of_methodNamed Bd.named Bd.method).1
  have X0 : Stand p l e ({ frames := 0, cells := 0, slots := 0, locals := 0 } : Room) s m #[(.long q0), (.long q1)] below meth c s₁ [] 0 0 := Stand.of_body Bd
  have e0 : s₁.heap = h0 := by rw [← hh, Bd.state]; rfl
  have N0 := Fr.nil n0
  have K0 : Keep h0 h0 [] := Keep.refl _ _
  have pre0 : ∀ t, Steps p.tables e below (s₁.setTop (mkF m 0 #[.val (.long q0), .second, .val (.long q1), .second, .unset, .unset] [])) t → Steps p.tables e below (s₁.setTop (entryFrame m #[(.long q0), (.long q1)] 6)) t := fun t k => castTop (own_ef_17 m q0 q1) k
  show own_Ends p.tables e below (own_Q s (own_Q_fdJ Z q0 q1 h0 n0) ({ frames := 0, cells := 0, slots := 0, locals := 0 } : Room).cells ({ frames := 0, cells := 0, slots := 0, locals := 0 } : Room).slots) (s₁.setTop (entryFrame m #[(.long q0), (.long q1)] 6))
  refine own_step pre0 ?_
  show own_Ends p.tables e below _ (s₁.setTop (mkF m 0 #[.val (.long q0), .second, .val (.long q1), .second, .unset, .unset] []))
  refine own_step (fun _ k => XS.lloadN X0.here hx rfl (hb hby own_d17_0) rfl k) ?_
  show own_Ends p.tables e below _ (s₁.setTop (mkF m 1 #[.val (.long q0), .second, .val (.long q1), .second, .unset, .unset] [(.long q0)]))
  refine own_step (fun _ k => XS.lloadN X0.here hx rfl (hb hby own_d17_1) rfl k) ?_
  show own_Ends p.tables e below _ (s₁.setTop (mkF m 2 #[.val (.long q0), .second, .val (.long q1), .second, .unset, .unset] [(.long q1), (.long q0)]))
  refine own_step (fun _ k => XS.ldiv X0.here hx rfl (hb hby own_d17_2) rfl hz k) ?_
  show own_Ends p.tables e below _ (s₁.setTop (mkF m 3 #[.val (.long q0), .second, .val (.long q1), .second, .unset, .unset] [(.long (q0 / q1))]))
  refine own_step (fun _ k => XS.lstore X0.here hx rfl (hb hby own_d17_3) rfl (l' := #[.val (.long q0), .second, .val (.long q1), .second, .val (.long (q0 / q1)), .second]) rfl k) ?_
  show own_Ends p.tables e below _ (s₁.setTop (mkF m 5 #[.val (.long q0), .second, .val (.long q1), .second, .val (.long (q0 / q1)), .second] []))
  refine own_step (fun _ k => XS.lloadN X0.here hx rfl (hb hby own_d17_5) rfl k) ?_
  show own_Ends p.tables e below _ (s₁.setTop (mkF m 6 #[.val (.long q0), .second, .val (.long q1), .second, .val (.long (q0 / q1)), .second] [(.long q0)]))
  refine own_step (fun _ k => XS.lloadN X0.here hx rfl (hb hby own_d17_6) rfl k) ?_
  show own_Ends p.tables e below _ (s₁.setTop (mkF m 7 #[.val (.long q0), .second, .val (.long q1), .second, .val (.long (q0 / q1)), .second] [(.long q1), (.long q0)]))
  refine own_step (fun _ k => XS.lxor X0.here hx rfl (hb hby own_d17_7) rfl k) ?_
  show own_Ends p.tables e below _ (s₁.setTop (mkF m 8 #[.val (.long q0), .second, .val (.long q1), .second, .val (.long (q0 / q1)), .second] [(.long (q0 ^^^ q1))]))
  refine own_step (fun _ k => XS.lconst X0.here hx rfl (hb hby own_d17_8) k) ?_
  show own_Ends p.tables e below _ (s₁.setTop (mkF m 9 #[.val (.long q0), .second, .val (.long q1), .second, .val (.long (q0 / q1)), .second] [(.long (0 : Int64)), (.long (q0 ^^^ q1))]))
  refine own_step (fun _ k => XS.lcmp X0.here hx rfl (hb hby own_d17_9) rfl k) ?_
  show own_Ends p.tables e below _ (s₁.setTop (mkF m 10 #[.val (.long q0), .second, .val (.long q1), .second, .val (.long (q0 / q1)), .second] [(.int (lcmpW (q0 ^^^ q1) (0 : Int64)))]))
  refine own_step (fun _ k => XS.ifYes X0.here hx rfl (pc0 := 10) (pc' := 27) rfl (hb hby own_d17_10) rfl ((if0 _ _).trans (flt (fun q => hxo ((own_lc_lt _ _).mp q))).2.1) (by decide) (by decide) k) ?_
  show own_Ends p.tables e below _ (s₁.setTop (mkF m 27 #[.val (.long q0), .second, .val (.long q1), .second, .val (.long (q0 / q1)), .second] []))
  refine own_step (fun _ k => XS.lload X0.here hx rfl (hb hby own_d17_27) rfl k) ?_
  show own_Ends p.tables e below _ (s₁.setTop (mkF m 29 #[.val (.long q0), .second, .val (.long q1), .second, .val (.long (q0 / q1)), .second] [(.long (q0 / q1))]))
  exact own_retJ X0 hx hlk (by decide) (by decide) Bd.returns (hb hby own_d17_29) (by rw [e0]; exact ⟨rfl, N0, rfl⟩)
theorem own_d23_0 : decode jdk_29_method_52_code 0 = .ok (.lload_n 0, 1) := by decide +kernel
theorem own_d23_1 : decode jdk_29_method_52_code 1 = .ok (.lload_n 2, 1) := by decide +kernel
theorem own_d23_2 : decode jdk_29_method_52_code 2 = .ok (.lrem, 1) := by decide +kernel
theorem own_d23_3 : decode jdk_29_method_52_code 3 = .ok (.lstore 4, 2) := by decide +kernel
theorem own_d23_5 : decode jdk_29_method_52_code 5 = .ok (.lload_n 0, 1) := by decide +kernel
theorem own_d23_6 : decode jdk_29_method_52_code 6 = .ok (.lload_n 2, 1) := by decide +kernel
theorem own_d23_7 : decode jdk_29_method_52_code 7 = .ok (.lxor, 1) := by decide +kernel
theorem own_d23_8 : decode jdk_29_method_52_code 8 = .ok (.lconst 0, 1) := by decide +kernel
theorem own_d23_9 : decode jdk_29_method_52_code 9 = .ok (.lcmp, 1) := by decide +kernel
theorem own_d23_10 : decode jdk_29_method_52_code 10 = .ok (.ifCond .ge 15, 3) := by decide +kernel
theorem own_d23_25 : decode jdk_29_method_52_code 25 = .ok (.lload 4, 2) := by decide +kernel
theorem own_d23_27 : decode jdk_29_method_52_code 27 = .ok (.lreturn, 1) := by decide +kernel
theorem own_ef_23 (m : MethodId) (x0 : Int64) (x1 : Int64) : entryFrame m #[(.long x0), (.long x1)] 6 = mkF m 0 #[.val (.long x0), .second, .val (.long x1), .second, .unset, .unset] [] := by first | (simp [entryFrame, mkF, argsToLocals, Value.category]; done) | rfl
def own_Q_fmJ (Z : State) (q0 : Int64) (q1 : Int64) (h0 : Heap) (n0 : Nat) (v : Option Value) (h : Heap) (L : List Loc) : Prop := v = some (.long (q0 - q0 / q1 * q1)) ∧ Fr n0 L ∧ h = h0
set_option maxRecDepth 65536 in
set_option maxHeartbeats 40000000 in
theorem own_rm_fmJ (l : Launch) (Z : State) (aw : Array Value) (hw : ∀ d ∈ tables_1, d.before aw Z = true) (ws : List Jvm.Cond) (q0 : Int64) (q1 : Int64) (h0 : Heap) (n0 : Nat) (Z0 : n0 ≤ h0.size) (hz : ¬ q1 = 0) (hxo : ¬ (q0 ^^^ q1) < (0 : Int64)) :
    MetFree l (⟨"java/lang/Math", "floorMod", "(JJ)J"⟩ : MethodName) (head1 (Jvm.Cond.code (⟨"java/lang/Math", "floorMod", "(JJ)J"⟩ : MethodName) jdk_29_method_52_code 6 (some .long) :: ws) ({ frames := 0, cells := 0, slots := 0, locals := 0 } : Room)) (fun a U => a = #[(.long q0), (.long q1)] ∧ Z.Warmed39 U.vm ∧ U.heap = h0) (fun _ _ _ _ _ => True) (fun _ U o U' => ∃ v L, o = .returned v ∧ own_Q_fmJ Z q0 q1 h0 n0 v U'.heap L ∧ FrameEnd U o U' L ({ frames := 0, cells := 0, slots := 0, locals := 0 } : Room).cells ({ frames := 0, cells := 0, slots := 0, locals := 0 } : Room).slots) := by
  refine MetFree.of_bodySF (Jvm.Free.JP.mathPlain rfl (by decide +kernel)) hisR ?_
  intro p e s m args below meth c s₁ Bd hml0 hP hK
  obtain ⟨rfl, hZ, hh⟩ := hP
  have hx := Bd.exec
  have hby := Bd.bytes
  have hlk : meth.locks = false := BodyLoose.notSynchronized Bd
  have hml : c.maxLocals = 6 := hml0
  have hown : s.vm.findClass "java/lang/Math" = some m.cls := findClass_of_methodNamed Bd.named
  have hnm := (name_of_methodNamed Bd.named Bd.method).1
  have X0 : Stand p l e ({ frames := 0, cells := 0, slots := 0, locals := 0 } : Room) s m #[(.long q0), (.long q1)] below meth c s₁ [] 0 0 := Stand.of_body Bd
  have e0 : s₁.heap = h0 := by rw [← hh, Bd.state]; rfl
  have N0 := Fr.nil n0
  have K0 : Keep h0 h0 [] := Keep.refl _ _
  have pre0 : ∀ t, Steps p.tables e below (s₁.setTop (mkF m 0 #[.val (.long q0), .second, .val (.long q1), .second, .unset, .unset] [])) t → Steps p.tables e below (s₁.setTop (entryFrame m #[(.long q0), (.long q1)] 6)) t := fun t k => castTop (own_ef_23 m q0 q1) k
  show own_Ends p.tables e below (own_Q s (own_Q_fmJ Z q0 q1 h0 n0) ({ frames := 0, cells := 0, slots := 0, locals := 0 } : Room).cells ({ frames := 0, cells := 0, slots := 0, locals := 0 } : Room).slots) (s₁.setTop (entryFrame m #[(.long q0), (.long q1)] 6))
  refine own_step pre0 ?_
  show own_Ends p.tables e below _ (s₁.setTop (mkF m 0 #[.val (.long q0), .second, .val (.long q1), .second, .unset, .unset] []))
  refine own_step (fun _ k => XS.lloadN X0.here hx rfl (hb hby own_d23_0) rfl k) ?_
  show own_Ends p.tables e below _ (s₁.setTop (mkF m 1 #[.val (.long q0), .second, .val (.long q1), .second, .unset, .unset] [(.long q0)]))
  refine own_step (fun _ k => XS.lloadN X0.here hx rfl (hb hby own_d23_1) rfl k) ?_
  show own_Ends p.tables e below _ (s₁.setTop (mkF m 2 #[.val (.long q0), .second, .val (.long q1), .second, .unset, .unset] [(.long q1), (.long q0)]))
  refine own_step (fun _ k => XS.lrem X0.here hx rfl (hb hby own_d23_2) rfl hz k) ?_
  show own_Ends p.tables e below _ (s₁.setTop (mkF m 3 #[.val (.long q0), .second, .val (.long q1), .second, .unset, .unset] [(.long (q0 - q0 / q1 * q1))]))
  refine own_step (fun _ k => XS.lstore X0.here hx rfl (hb hby own_d23_3) rfl (l' := #[.val (.long q0), .second, .val (.long q1), .second, .val (.long (q0 - q0 / q1 * q1)), .second]) rfl k) ?_
  show own_Ends p.tables e below _ (s₁.setTop (mkF m 5 #[.val (.long q0), .second, .val (.long q1), .second, .val (.long (q0 - q0 / q1 * q1)), .second] []))
  refine own_step (fun _ k => XS.lloadN X0.here hx rfl (hb hby own_d23_5) rfl k) ?_
  show own_Ends p.tables e below _ (s₁.setTop (mkF m 6 #[.val (.long q0), .second, .val (.long q1), .second, .val (.long (q0 - q0 / q1 * q1)), .second] [(.long q0)]))
  refine own_step (fun _ k => XS.lloadN X0.here hx rfl (hb hby own_d23_6) rfl k) ?_
  show own_Ends p.tables e below _ (s₁.setTop (mkF m 7 #[.val (.long q0), .second, .val (.long q1), .second, .val (.long (q0 - q0 / q1 * q1)), .second] [(.long q1), (.long q0)]))
  refine own_step (fun _ k => XS.lxor X0.here hx rfl (hb hby own_d23_7) rfl k) ?_
  show own_Ends p.tables e below _ (s₁.setTop (mkF m 8 #[.val (.long q0), .second, .val (.long q1), .second, .val (.long (q0 - q0 / q1 * q1)), .second] [(.long (q0 ^^^ q1))]))
  refine own_step (fun _ k => XS.lconst X0.here hx rfl (hb hby own_d23_8) k) ?_
  show own_Ends p.tables e below _ (s₁.setTop (mkF m 9 #[.val (.long q0), .second, .val (.long q1), .second, .val (.long (q0 - q0 / q1 * q1)), .second] [(.long (0 : Int64)), (.long (q0 ^^^ q1))]))
  refine own_step (fun _ k => XS.lcmp X0.here hx rfl (hb hby own_d23_9) rfl k) ?_
  show own_Ends p.tables e below _ (s₁.setTop (mkF m 10 #[.val (.long q0), .second, .val (.long q1), .second, .val (.long (q0 - q0 / q1 * q1)), .second] [(.int (lcmpW (q0 ^^^ q1) (0 : Int64)))]))
  refine own_step (fun _ k => XS.ifYes X0.here hx rfl (pc0 := 10) (pc' := 25) rfl (hb hby own_d23_10) rfl ((if0 _ _).trans (flt (fun q => hxo ((own_lc_lt _ _).mp q))).2.1) (by decide) (by decide) k) ?_
  show own_Ends p.tables e below _ (s₁.setTop (mkF m 25 #[.val (.long q0), .second, .val (.long q1), .second, .val (.long (q0 - q0 / q1 * q1)), .second] []))
  refine own_step (fun _ k => XS.lload X0.here hx rfl (hb hby own_d23_25) rfl k) ?_
  show own_Ends p.tables e below _ (s₁.setTop (mkF m 27 #[.val (.long q0), .second, .val (.long q1), .second, .val (.long (q0 - q0 / q1 * q1)), .second] [(.long (q0 - q0 / q1 * q1))]))
  exact own_retJ X0 hx hlk (by decide) (by decide) Bd.returns (hb hby own_d23_27) (by rw [e0]; exact ⟨rfl, N0, rfl⟩)
theorem own_pd0 : parseMethodDescriptor "(JJ)J" = some ⟨[.long, .long], some .long⟩ := by decide +kernel
theorem own_d16_0 : decode jdk_29_method_48_code 0 = .ok (.lload_n 0, 1) := by decide +kernel
theorem own_d16_1 : decode jdk_29_method_48_code 1 = .ok (.iload_n 2, 1) := by decide +kernel
theorem own_d16_2 : decode jdk_29_method_48_code 2 = .ok (.i2l, 1) := by decide +kernel
theorem own_d16_3 : decode jdk_29_method_48_code 3 = .ok (.invokestatic 143, 3) := by decide +kernel
theorem own_d16_6 : decode jdk_29_method_48_code 6 = .ok (.lreturn, 1) := by decide +kernel
theorem own_ef_16 (m : MethodId) (x0 : Int64) (x1 : Int32) : entryFrame m #[(.long x0), (.int x1)] 3 = mkF m 0 #[.val (.long x0), .second, .val (.int x1)] [] := by first | (simp [entryFrame, mkF, argsToLocals, Value.category]; done) | rfl
def own_Q_fd (Z : State) (q0 : Int64) (h0 : Heap) (n0 : Nat) (v : Option Value) (h : Heap) (L : List Loc) : Prop := v = some (.long (q0 / (12 : Int64))) ∧ Fr n0 L ∧ h = h0
set_option maxRecDepth 65536 in
set_option maxHeartbeats 40000000 in
theorem own_rm_fd (l : Launch) (Z : State) (aw : Array Value) (hw : ∀ d ∈ tables_1, d.before aw Z = true) (ws : List Jvm.Cond) (q0 : Int64) (h0 : Heap) (n0 : Nat) (Z0 : n0 ≤ h0.size) (h0q : 0 ≤ q0.toInt) :
    MetFree l (⟨"java/lang/Math", "floorDiv", "(JI)J"⟩ : MethodName) (head1 (Jvm.Cond.code (⟨"java/lang/Math", "floorDiv", "(JI)J"⟩ : MethodName) jdk_29_method_48_code 3 (some .long) :: ws) ({ frames := 1, cells := 0, slots := 0, locals := 17 } : Room)) (fun a U => a = #[(.long q0), (.int (12 : Int32))] ∧ Z.Warmed39 U.vm ∧ U.heap = h0) (fun _ _ _ _ _ => True) (fun _ U o U' => ∃ v L, o = .returned v ∧ own_Q_fd Z q0 h0 n0 v U'.heap L ∧ FrameEnd U o U' L ({ frames := 1, cells := 0, slots := 0, locals := 17 } : Room).cells ({ frames := 1, cells := 0, slots := 0, locals := 17 } : Room).slots) := by
  refine MetFree.of_bodySF (Jvm.Free.JP.mathPlain rfl (by decide +kernel)) hisR ?_
  intro p e s m args below meth c s₁ Bd hml0 hP hK
  obtain ⟨rfl, hZ, hh⟩ := hP
  have hx := Bd.exec
  have hby := Bd.bytes
  have hlk : meth.locks = false := BodyLoose.notSynchronized Bd
  have hml : c.maxLocals = 3 := hml0
  have hown : s.vm.findClass "java/lang/Math" = some m.cls := findClass_of_methodNamed Bd.named
  have hnm := (name_of_methodNamed Bd.named Bd.method).1
  have X0 : Stand p l e ({ frames := 1, cells := 0, slots := 0, locals := 17 } : Room) s m #[(.long q0), (.int (12 : Int32))] below meth c s₁ [] 0 0 := Stand.of_body Bd
  have e0 : s₁.heap = h0 := by rw [← hh, Bd.state]; rfl
  have N0 := Fr.nil n0
  have K0 : Keep h0 h0 [] := Keep.refl _ _
  have pre0 : ∀ t, Steps p.tables e below (s₁.setTop (mkF m 0 #[.val (.long q0), .second, .val (.int (12 : Int32))] [])) t → Steps p.tables e below (s₁.setTop (entryFrame m #[(.long q0), (.int (12 : Int32))] 3)) t := fun t k => castTop (own_ef_16 m q0 (12 : Int32)) k
  show own_Ends p.tables e below (own_Q s (own_Q_fd Z q0 h0 n0) ({ frames := 1, cells := 0, slots := 0, locals := 17 } : Room).cells ({ frames := 1, cells := 0, slots := 0, locals := 17 } : Room).slots) (s₁.setTop (entryFrame m #[(.long q0), (.int (12 : Int32))] 3))
  refine own_step pre0 ?_
  show own_Ends p.tables e below _ (s₁.setTop (mkF m 0 #[.val (.long q0), .second, .val (.int (12 : Int32))] []))
  refine own_step (fun _ k => XS.lloadN X0.here hx rfl (hb hby own_d16_0) rfl k) ?_
  show own_Ends p.tables e below _ (s₁.setTop (mkF m 1 #[.val (.long q0), .second, .val (.int (12 : Int32))] [(.long q0)]))
  refine own_step (fun _ k => XS.iloadN X0.here hx rfl (hb hby own_d16_1) rfl k) ?_
  show own_Ends p.tables e below _ (s₁.setTop (mkF m 2 #[.val (.long q0), .second, .val (.int (12 : Int32))] [(.int (12 : Int32)), (.long q0)]))
  refine own_step (fun _ k => XS.i2l X0.here hx rfl (hb hby own_d16_2) rfl k) ?_
  show own_Ends p.tables e below _ (s₁.setTop (mkF m 3 #[.val (.long q0), .second, .val (.int (12 : Int32))] [(.long ((12 : Int32).toInt64)), (.long q0)]))
  rw [show ((12 : Int32).toInt64) = (12 : Int64) from rfl]
  show own_Ends p.tables e below _ (s₁.setTop (mkF m 3 #[.val (.long q0), .second, .val (.int (12 : Int32))] [(.long (12 : Int64)), (.long q0)]))
  obtain ⟨_, _, ⟨T1, L1, k1, n1⟩, -, X1, ⟨Lc1, hQ1, l1, y1, z1⟩, st1⟩ := Jvm.LawKit.callS X0 hx (y := (⟨"java/lang/Math", "floorDiv", "(JJ)J"⟩ : MethodName)) hown (mvT hZ (hw _ (List.mem_of_getElem? (i := 82) rfl))) (mvT hZ (hw _ (List.mem_of_getElem? (i := 83) rfl))) (mvT hZ (hw _ (List.mem_of_getElem? (i := 80) rfl))) (mvT hZ (hw _ (List.mem_of_getElem? (i := 84) rfl))) (by decide) (backOf (W := 0) (own_rm_fdJ l Z aw hw [] q0 (12 : Int64) h0 n0 Z0 (by decide) (own_xor12 q0 h0q)) hZ (hw _ (List.mem_of_getElem? (i := 84) rfl)) (hw _ (List.mem_of_getElem? (i := 80) rfl)) (by decide) (by decide)) (g := (mkF m 3 #[.val (.long q0), .second, .val (.int (12 : Int32))] [(.long (12 : Int64)), (.long q0)])) rfl (by rw [hml]; rfl) (argsL := [(.long q0), (.long (12 : Int64))]) (rest := []) (lenOf own_pd0 rfl) rfl (by show 2 * 0 + _ ≤ _; exact Nat.le_of_eq rfl) (hb hby own_d16_3) (fun _ _ => ⟨rfl, e0, (by decide : 0 + 0 ≤ _), (by decide : 0 + 0 ≤ _)⟩)
  dsimp only [Pt.U, Pt.locs, Pt.cells, Pt.slots] at X1 l1 y1 z1 st1 hQ1
  subst l1 y1 z1
  obtain ⟨rfl, N1q, e1⟩ := hQ1
  have N_1 := Fr.app N0 N1q
  refine own_step st1 ?_
  show own_Ends p.tables e below _ (T1.setTop (mkF m 6 #[.val (.long q0), .second, .val (.int (12 : Int32))] [(.long (q0 / (12 : Int64)))]))
  exact own_retJ X1 hx hlk (by decide) (by decide) Bd.returns (hb hby own_d16_6) (by rw [e1]; exact ⟨rfl, N_1, rfl⟩)
theorem own_d22_0 : decode jdk_29_method_51_code 0 = .ok (.lload_n 0, 1) := by decide +kernel
theorem own_d22_1 : decode jdk_29_method_51_code 1 = .ok (.iload_n 2, 1) := by decide +kernel
theorem own_d22_2 : decode jdk_29_method_51_code 2 = .ok (.i2l, 1) := by decide +kernel
theorem own_d22_3 : decode jdk_29_method_51_code 3 = .ok (.invokestatic 146, 3) := by decide +kernel
theorem own_d22_6 : decode jdk_29_method_51_code 6 = .ok (.l2i, 1) := by decide +kernel
theorem own_d22_7 : decode jdk_29_method_51_code 7 = .ok (.ireturn, 1) := by decide +kernel
theorem own_ef_22 (m : MethodId) (x0 : Int64) (x1 : Int32) : entryFrame m #[(.long x0), (.int x1)] 3 = mkF m 0 #[.val (.long x0), .second, .val (.int x1)] [] := by first | (simp [entryFrame, mkF, argsToLocals, Value.category]; done) | rfl
def own_Q_fm (Z : State) (q0 : Int64) (h0 : Heap) (n0 : Nat) (v : Option Value) (h : Heap) (L : List Loc) : Prop := v = some (.int (q0 - q0 / (12 : Int64) * (12 : Int64)).toInt32) ∧ Fr n0 L ∧ h = h0
set_option maxRecDepth 65536 in
set_option maxHeartbeats 40000000 in
theorem own_rm_fm (l : Launch) (Z : State) (aw : Array Value) (hw : ∀ d ∈ tables_1, d.before aw Z = true) (ws : List Jvm.Cond) (q0 : Int64) (h0 : Heap) (n0 : Nat) (Z0 : n0 ≤ h0.size) (h0q : 0 ≤ q0.toInt) :
    MetFree l (⟨"java/lang/Math", "floorMod", "(JI)I"⟩ : MethodName) (head1 (Jvm.Cond.code (⟨"java/lang/Math", "floorMod", "(JI)I"⟩ : MethodName) jdk_29_method_51_code 3 (some .int) :: ws) ({ frames := 1, cells := 0, slots := 0, locals := 17 } : Room)) (fun a U => a = #[(.long q0), (.int (12 : Int32))] ∧ Z.Warmed39 U.vm ∧ U.heap = h0) (fun _ _ _ _ _ => True) (fun _ U o U' => ∃ v L, o = .returned v ∧ own_Q_fm Z q0 h0 n0 v U'.heap L ∧ FrameEnd U o U' L ({ frames := 1, cells := 0, slots := 0, locals := 17 } : Room).cells ({ frames := 1, cells := 0, slots := 0, locals := 17 } : Room).slots) := by
  refine MetFree.of_bodySF (Jvm.Free.JP.mathPlain rfl (by decide +kernel)) hisR ?_
  intro p e s m args below meth c s₁ Bd hml0 hP hK
  obtain ⟨rfl, hZ, hh⟩ := hP
  have hx := Bd.exec
  have hby := Bd.bytes
  have hlk : meth.locks = false := BodyLoose.notSynchronized Bd
  have hml : c.maxLocals = 3 := hml0
  have hown : s.vm.findClass "java/lang/Math" = some m.cls := findClass_of_methodNamed Bd.named
  have hnm := (name_of_methodNamed Bd.named Bd.method).1
  have X0 : Stand p l e ({ frames := 1, cells := 0, slots := 0, locals := 17 } : Room) s m #[(.long q0), (.int (12 : Int32))] below meth c s₁ [] 0 0 := Stand.of_body Bd
  have e0 : s₁.heap = h0 := by rw [← hh, Bd.state]; rfl
  have N0 := Fr.nil n0
  have K0 : Keep h0 h0 [] := Keep.refl _ _
  have pre0 : ∀ t, Steps p.tables e below (s₁.setTop (mkF m 0 #[.val (.long q0), .second, .val (.int (12 : Int32))] [])) t → Steps p.tables e below (s₁.setTop (entryFrame m #[(.long q0), (.int (12 : Int32))] 3)) t := fun t k => castTop (own_ef_22 m q0 (12 : Int32)) k
  show own_Ends p.tables e below (own_Q s (own_Q_fm Z q0 h0 n0) ({ frames := 1, cells := 0, slots := 0, locals := 17 } : Room).cells ({ frames := 1, cells := 0, slots := 0, locals := 17 } : Room).slots) (s₁.setTop (entryFrame m #[(.long q0), (.int (12 : Int32))] 3))
  refine own_step pre0 ?_
  show own_Ends p.tables e below _ (s₁.setTop (mkF m 0 #[.val (.long q0), .second, .val (.int (12 : Int32))] []))
  refine own_step (fun _ k => XS.lloadN X0.here hx rfl (hb hby own_d22_0) rfl k) ?_
  show own_Ends p.tables e below _ (s₁.setTop (mkF m 1 #[.val (.long q0), .second, .val (.int (12 : Int32))] [(.long q0)]))
  refine own_step (fun _ k => XS.iloadN X0.here hx rfl (hb hby own_d22_1) rfl k) ?_
  show own_Ends p.tables e below _ (s₁.setTop (mkF m 2 #[.val (.long q0), .second, .val (.int (12 : Int32))] [(.int (12 : Int32)), (.long q0)]))
  refine own_step (fun _ k => XS.i2l X0.here hx rfl (hb hby own_d22_2) rfl k) ?_
  show own_Ends p.tables e below _ (s₁.setTop (mkF m 3 #[.val (.long q0), .second, .val (.int (12 : Int32))] [(.long ((12 : Int32).toInt64)), (.long q0)]))
  rw [show ((12 : Int32).toInt64) = (12 : Int64) from rfl]
  show own_Ends p.tables e below _ (s₁.setTop (mkF m 3 #[.val (.long q0), .second, .val (.int (12 : Int32))] [(.long (12 : Int64)), (.long q0)]))
  obtain ⟨_, _, ⟨T1, L1, k1, n1⟩, -, X1, ⟨Lc1, hQ1, l1, y1, z1⟩, st1⟩ := Jvm.LawKit.callS X0 hx (y := (⟨"java/lang/Math", "floorMod", "(JJ)J"⟩ : MethodName)) hown (mvT hZ (hw _ (List.mem_of_getElem? (i := 110) rfl))) (mvT hZ (hw _ (List.mem_of_getElem? (i := 111) rfl))) (mvT hZ (hw _ (List.mem_of_getElem? (i := 80) rfl))) (mvT hZ (hw _ (List.mem_of_getElem? (i := 112) rfl))) (by decide) (backOf (W := 0) (own_rm_fmJ l Z aw hw [] q0 (12 : Int64) h0 n0 Z0 (by decide) (own_xor12 q0 h0q)) hZ (hw _ (List.mem_of_getElem? (i := 112) rfl)) (hw _ (List.mem_of_getElem? (i := 80) rfl)) (by decide) (by decide)) (g := (mkF m 3 #[.val (.long q0), .second, .val (.int (12 : Int32))] [(.long (12 : Int64)), (.long q0)])) rfl (by rw [hml]; rfl) (argsL := [(.long q0), (.long (12 : Int64))]) (rest := []) (lenOf own_pd0 rfl) rfl (by show 2 * 0 + _ ≤ _; exact Nat.le_of_eq rfl) (hb hby own_d22_3) (fun _ _ => ⟨rfl, e0, (by decide : 0 + 0 ≤ _), (by decide : 0 + 0 ≤ _)⟩)
  dsimp only [Pt.U, Pt.locs, Pt.cells, Pt.slots] at X1 l1 y1 z1 st1 hQ1
  subst l1 y1 z1
  obtain ⟨rfl, N1q, e1⟩ := hQ1
  have N_1 := Fr.app N0 N1q
  refine own_step st1 ?_
  show own_Ends p.tables e below _ (T1.setTop (mkF m 6 #[.val (.long q0), .second, .val (.int (12 : Int32))] [(.long (q0 - q0 / (12 : Int64) * (12 : Int64)))]))
  refine own_step (fun _ k => XS.l2i X1.here hx rfl (hb hby own_d22_6) rfl k) ?_
  show own_Ends p.tables e below _ (T1.setTop (mkF m 7 #[.val (.long q0), .second, .val (.int (12 : Int32))] [(.int ((q0 - q0 / (12 : Int64) * (12 : Int64)).toInt32))]))
  exact own_retI X1 hx hlk (by decide) (by decide) Bd.returns (hb hby own_d22_7) (by rw [e1]; exact ⟨rfl, N_1, rfl⟩)
theorem own_d9_0 : decode jdk_2423_method_6_code 0 = .ok (.aload_n 0, 1) := by decide +kernel
theorem own_d9_1 : decode jdk_2423_method_6_code 1 = .ok (.getfield 33, 3) := by decide +kernel
theorem own_d9_4 : decode jdk_2423_method_6_code 4 = .ok (.lreturn, 1) := by decide +kernel
theorem own_pn2 : plainName "java/time/temporal/ValueRange" = true := by first | (simp [plainName, overriddenIn]; done) | decide +kernel
theorem own_ef_9 (m : MethodId) (x0 : Addr) : entryFrame m #[(.ref x0)] 1 = mkF m 0 #[.val (.ref x0)] [] := by first | (simp [entryFrame, mkF, argsToLocals, Value.category]; done) | rfl
def own_Q_gmin (Z : State) (a0 : Addr) (mn : Int64) (h0 : Heap) (n0 : Nat) (v : Option Value) (h : Heap) (L : List Loc) : Prop := v = some (.long mn) ∧ Fr n0 L ∧ h = h0
set_option maxRecDepth 65536 in
set_option maxHeartbeats 40000000 in
theorem own_rm_gmin (l : Launch) (Z : State) (aw : Array Value) (hw : ∀ d ∈ tables_1, d.before aw Z = true) (ws : List Jvm.Cond) (a0 : Addr) (mn : Int64) (h0 : Heap) (n0 : Nat) (Z0 : n0 ≤ h0.size) (Fm : Fld Z h0 a0 "java/time/temporal/ValueRange" "minSmallest" "J" (.long mn)) :
    MetFree l (⟨"java/time/temporal/ValueRange", "getMinimum", "()J"⟩ : MethodName) (head1 (Jvm.Cond.code (⟨"java/time/temporal/ValueRange", "getMinimum", "()J"⟩ : MethodName) jdk_2423_method_6_code 1 (some .long) :: ws) ({ frames := 0, cells := 0, slots := 0, locals := 0 } : Room)) (fun a U => a = #[(.ref a0)] ∧ Z.Warmed39 U.vm ∧ U.heap = h0) (fun _ _ _ _ _ => True) (fun _ U o U' => ∃ v L, o = .returned v ∧ own_Q_gmin Z a0 mn h0 n0 v U'.heap L ∧ FrameEnd U o U' L ({ frames := 0, cells := 0, slots := 0, locals := 0 } : Room).cells ({ frames := 0, cells := 0, slots := 0, locals := 0 } : Room).slots) := by
  refine MetFree.of_bodySF (plainFor_of_name own_pn2) hisR ?_
  intro p e s m args below meth c s₁ Bd hml0 hP hK
  obtain ⟨rfl, hZ, hh⟩ := hP
  have hx := Bd.exec
  have hby := Bd.bytes
  have hlk : meth.locks = false := BodyLoose.notSynchronized Bd
  have hml : c.maxLocals = 1 := hml0
  have hown : s.vm.findClass "java/time/temporal/ValueRange" = some m.cls := findClass_of_methodNamed Bd.named
  have hnm := (name_of_methodNamed Bd.named Bd.method).1
  have X0 : Stand p l e ({ frames := 0, cells := 0, slots := 0, locals := 0 } : Room) s m #[(.ref a0)] below meth c s₁ [] 0 0 := Stand.of_body Bd
  have e0 : s₁.heap = h0 := by rw [← hh, Bd.state]; rfl
  have N0 := Fr.nil n0
  have K0 : Keep h0 h0 [] := Keep.refl _ _
  have pre0 : ∀ t, Steps p.tables e below (s₁.setTop (mkF m 0 #[.val (.ref a0)] [])) t → Steps p.tables e below (s₁.setTop (entryFrame m #[(.ref a0)] 1)) t := fun t k => castTop (own_ef_9 m a0) k
  show own_Ends p.tables e below (own_Q s (own_Q_gmin Z a0 mn h0 n0) ({ frames := 0, cells := 0, slots := 0, locals := 0 } : Room).cells ({ frames := 0, cells := 0, slots := 0, locals := 0 } : Room).slots) (s₁.setTop (entryFrame m #[(.ref a0)] 1))
  refine own_step pre0 ?_
  show own_Ends p.tables e below _ (s₁.setTop (mkF m 0 #[.val (.ref a0)] []))
  refine own_step (fun _ k => XS.aloadN X0.here hx rfl (hb hby own_d9_0) rfl rfl k) ?_
  show own_Ends p.tables e below _ (s₁.setTop (mkF m 1 #[.val (.ref a0)] [(.ref a0)]))
  obtain ⟨T1, X1, e1, st1⟩ := getF X0 hx hZ hown (host := "") (Or.inl (hw _ (List.mem_of_getElem? (i := 52) rfl))) Via.refl e0 Fm (g := (mkF m 1 #[.val (.ref a0)] [(.ref a0)])) rfl rfl (hb hby own_d9_1)
  refine own_step st1 ?_
  show own_Ends p.tables e below _ (T1.setTop (mkF m 4 #[.val (.ref a0)] [(.long mn)]))
  exact own_retJ X1 hx hlk (by decide) (by decide) Bd.returns (hb hby own_d9_4) (by rw [e1]; exact ⟨rfl, N0, rfl⟩)
theorem own_d10_0 : decode jdk_2423_method_9_code 0 = .ok (.aload_n 0, 1) := by decide +kernel
theorem own_d10_1 : decode jdk_2423_method_9_code 1 = .ok (.getfield 43, 3) := by decide +kernel
theorem own_d10_4 : decode jdk_2423_method_9_code 4 = .ok (.lreturn, 1) := by decide +kernel
theorem own_ef_10 (m : MethodId) (x0 : Addr) : entryFrame m #[(.ref x0)] 1 = mkF m 0 #[.val (.ref x0)] [] := by first | (simp [entryFrame, mkF, argsToLocals, Value.category]; done) | rfl
def own_Q_gmax (Z : State) (a0 : Addr) (mx : Int64) (h0 : Heap) (n0 : Nat) (v : Option Value) (h : Heap) (L : List Loc) : Prop := v = some (.long mx) ∧ Fr n0 L ∧ h = h0
set_option maxRecDepth 65536 in
set_option maxHeartbeats 40000000 in
theorem own_rm_gmax (l : Launch) (Z : State) (aw : Array Value) (hw : ∀ d ∈ tables_1, d.before aw Z = true) (ws : List Jvm.Cond) (a0 : Addr) (mx : Int64) (h0 : Heap) (n0 : Nat) (Z0 : n0 ≤ h0.size) (Fx : Fld Z h0 a0 "java/time/temporal/ValueRange" "maxLargest" "J" (.long mx)) :
    MetFree l (⟨"java/time/temporal/ValueRange", "getMaximum", "()J"⟩ : MethodName) (head1 (Jvm.Cond.code (⟨"java/time/temporal/ValueRange", "getMaximum", "()J"⟩ : MethodName) jdk_2423_method_9_code 1 (some .long) :: ws) ({ frames := 0, cells := 0, slots := 0, locals := 0 } : Room)) (fun a U => a = #[(.ref a0)] ∧ Z.Warmed39 U.vm ∧ U.heap = h0) (fun _ _ _ _ _ => True) (fun _ U o U' => ∃ v L, o = .returned v ∧ own_Q_gmax Z a0 mx h0 n0 v U'.heap L ∧ FrameEnd U o U' L ({ frames := 0, cells := 0, slots := 0, locals := 0 } : Room).cells ({ frames := 0, cells := 0, slots := 0, locals := 0 } : Room).slots) := by
  refine MetFree.of_bodySF (plainFor_of_name own_pn2) hisR ?_
  intro p e s m args below meth c s₁ Bd hml0 hP hK
  obtain ⟨rfl, hZ, hh⟩ := hP
  have hx := Bd.exec
  have hby := Bd.bytes
  have hlk : meth.locks = false := BodyLoose.notSynchronized Bd
  have hml : c.maxLocals = 1 := hml0
  have hown : s.vm.findClass "java/time/temporal/ValueRange" = some m.cls := findClass_of_methodNamed Bd.named
  have hnm := (name_of_methodNamed Bd.named Bd.method).1
  have X0 : Stand p l e ({ frames := 0, cells := 0, slots := 0, locals := 0 } : Room) s m #[(.ref a0)] below meth c s₁ [] 0 0 := Stand.of_body Bd
  have e0 : s₁.heap = h0 := by rw [← hh, Bd.state]; rfl
  have N0 := Fr.nil n0
  have K0 : Keep h0 h0 [] := Keep.refl _ _
  have pre0 : ∀ t, Steps p.tables e below (s₁.setTop (mkF m 0 #[.val (.ref a0)] [])) t → Steps p.tables e below (s₁.setTop (entryFrame m #[(.ref a0)] 1)) t := fun t k => castTop (own_ef_10 m a0) k
  show own_Ends p.tables e below (own_Q s (own_Q_gmax Z a0 mx h0 n0) ({ frames := 0, cells := 0, slots := 0, locals := 0 } : Room).cells ({ frames := 0, cells := 0, slots := 0, locals := 0 } : Room).slots) (s₁.setTop (entryFrame m #[(.ref a0)] 1))
  refine own_step pre0 ?_
  show own_Ends p.tables e below _ (s₁.setTop (mkF m 0 #[.val (.ref a0)] []))
  refine own_step (fun _ k => XS.aloadN X0.here hx rfl (hb hby own_d10_0) rfl rfl k) ?_
  show own_Ends p.tables e below _ (s₁.setTop (mkF m 1 #[.val (.ref a0)] [(.ref a0)]))
  obtain ⟨T1, X1, e1, st1⟩ := getF X0 hx hZ hown (host := "") (Or.inl (hw _ (List.mem_of_getElem? (i := 59) rfl))) Via.refl e0 Fx (g := (mkF m 1 #[.val (.ref a0)] [(.ref a0)])) rfl rfl (hb hby own_d10_1)
  refine own_step st1 ?_
  show own_Ends p.tables e below _ (T1.setTop (mkF m 4 #[.val (.ref a0)] [(.long mx)]))
  exact own_retJ X1 hx hlk (by decide) (by decide) Bd.returns (hb hby own_d10_4) (by rw [e1]; exact ⟨rfl, N0, rfl⟩)
theorem own_pd1 : parseMethodDescriptor "()J" = some ⟨[], some .long⟩ := by decide +kernel
theorem own_d8_0 : decode jdk_2423_method_11_code 0 = .ok (.lload_n 1, 1) := by decide +kernel
theorem own_d8_1 : decode jdk_2423_method_11_code 1 = .ok (.aload_n 0, 1) := by decide +kernel
theorem own_d8_2 : decode jdk_2423_method_11_code 2 = .ok (.invokevirtual 46, 3) := by decide +kernel
theorem own_d8_5 : decode jdk_2423_method_11_code 5 = .ok (.lcmp, 1) := by decide +kernel
theorem own_d8_6 : decode jdk_2423_method_11_code 6 = .ok (.ifCond .lt 16, 3) := by decide +kernel
theorem own_d8_9 : decode jdk_2423_method_11_code 9 = .ok (.lload_n 1, 1) := by decide +kernel
theorem own_d8_10 : decode jdk_2423_method_11_code 10 = .ok (.aload_n 0, 1) := by decide +kernel
theorem own_d8_11 : decode jdk_2423_method_11_code 11 = .ok (.invokevirtual 54, 3) := by decide +kernel
theorem own_d8_14 : decode jdk_2423_method_11_code 14 = .ok (.lcmp, 1) := by decide +kernel
theorem own_d8_15 : decode jdk_2423_method_11_code 15 = .ok (.ifCond .gt 7, 3) := by decide +kernel
theorem own_d8_18 : decode jdk_2423_method_11_code 18 = .ok (.iconst 1, 1) := by decide +kernel
theorem own_d8_19 : decode jdk_2423_method_11_code 19 = .ok (.goto 4, 3) := by decide +kernel
theorem own_d8_23 : decode jdk_2423_method_11_code 23 = .ok (.ireturn, 1) := by decide +kernel
theorem own_ef_8 (m : MethodId) (x0 : Addr) (x1 : Int64) : entryFrame m #[(.ref x0), (.long x1)] 3 = mkF m 0 #[.val (.ref x0), .val (.long x1), .second] [] := by first | (simp [entryFrame, mkF, argsToLocals, Value.category]; done) | rfl
def own_Q_isv (Z : State) (a0 : Addr) (q1 : Int64) (mn : Int64) (mx : Int64) (h0 : Heap) (n0 : Nat) (v : Option Value) (h : Heap) (L : List Loc) : Prop := v = some (.int 1) ∧ Fr n0 L ∧ h = h0
set_option maxRecDepth 65536 in
set_option maxHeartbeats 40000000 in
theorem own_rm_isv (l : Launch) (Z : State) (aw : Array Value) (hw : ∀ d ∈ tables_1, d.before aw Z = true) (ws : List Jvm.Cond) (a0 : Addr) (q1 : Int64) (mn : Int64) (mx : Int64) (h0 : Heap) (n0 : Nat) (Z0 : n0 ≤ h0.size) (Er : Exa Z h0 a0 "java/time/temporal/ValueRange") (Fm : Fld Z h0 a0 "java/time/temporal/ValueRange" "minSmallest" "J" (.long mn)) (Fx : Fld Z h0 a0 "java/time/temporal/ValueRange" "maxLargest" "J" (.long mx)) (o1 : ¬ q1 < mn) (o2 : ¬ mx < q1) :
    MetFree l (⟨"java/time/temporal/ValueRange", "isValidValue", "(J)Z"⟩ : MethodName) (head1 (Jvm.Cond.code (⟨"java/time/temporal/ValueRange", "isValidValue", "(J)Z"⟩ : MethodName) jdk_2423_method_11_code 3 (some .boolean) :: ws) ({ frames := 1, cells := 0, slots := 0, locals := 14 } : Room)) (fun a U => a = #[(.ref a0), (.long q1)] ∧ Z.Warmed39 U.vm ∧ U.heap = h0) (fun _ _ _ _ _ => True) (fun _ U o U' => ∃ v L, o = .returned v ∧ own_Q_isv Z a0 q1 mn mx h0 n0 v U'.heap L ∧ FrameEnd U o U' L ({ frames := 1, cells := 0, slots := 0, locals := 14 } : Room).cells ({ frames := 1, cells := 0, slots := 0, locals := 14 } : Room).slots) := by
  refine MetFree.of_bodySF (plainFor_of_name own_pn2) hisR ?_
  intro p e s m args below meth c s₁ Bd hml0 hP hK
  obtain ⟨rfl, hZ, hh⟩ := hP
  have hx := Bd.exec
  have hby := Bd.bytes
  have hlk : meth.locks = false := BodyLoose.notSynchronized Bd
  have hml : c.maxLocals = 3 := hml0
  have hown : s.vm.findClass "java/time/temporal/ValueRange" = some m.cls := findClass_of_methodNamed Bd.named
  have hnm := (name_of_methodNamed Bd.named Bd.method).1
  have X0 : Stand p l e ({ frames := 1, cells := 0, slots := 0, locals := 14 } : Room) s m #[(.ref a0), (.long q1)] below meth c s₁ [] 0 0 := Stand.of_body Bd
  have e0 : s₁.heap = h0 := by rw [← hh, Bd.state]; rfl
  have N0 := Fr.nil n0
  have K0 : Keep h0 h0 [] := Keep.refl _ _
  have pre0 : ∀ t, Steps p.tables e below (s₁.setTop (mkF m 0 #[.val (.ref a0), .val (.long q1), .second] [])) t → Steps p.tables e below (s₁.setTop (entryFrame m #[(.ref a0), (.long q1)] 3)) t := fun t k => castTop (own_ef_8 m a0 q1) k
  show own_Ends p.tables e below (own_Q s (own_Q_isv Z a0 q1 mn mx h0 n0) ({ frames := 1, cells := 0, slots := 0, locals := 14 } : Room).cells ({ frames := 1, cells := 0, slots := 0, locals := 14 } : Room).slots) (s₁.setTop (entryFrame m #[(.ref a0), (.long q1)] 3))
  refine own_step pre0 ?_
  show own_Ends p.tables e below _ (s₁.setTop (mkF m 0 #[.val (.ref a0), .val (.long q1), .second] []))
  refine own_step (fun _ k => XS.lloadN X0.here hx rfl (hb hby own_d8_0) rfl k) ?_
  show own_Ends p.tables e below _ (s₁.setTop (mkF m 1 #[.val (.ref a0), .val (.long q1), .second] [(.long q1)]))
  refine own_step (fun _ k => XS.aloadN X0.here hx rfl (hb hby own_d8_1) rfl rfl k) ?_
  show own_Ends p.tables e below _ (s₁.setTop (mkF m 2 #[.val (.ref a0), .val (.long q1), .second] [(.ref a0), (.long q1)]))
  obtain ⟨cq1, kq1, q1a, q1b, q1c⟩ := isOf hZ e0 Er
  obtain ⟨_, _, ⟨T1, L1, k1, n1⟩, -, X1, ⟨Lc1, hQ1, l1, y1, z1⟩, st1⟩ := X0.virtualBack hx (y := (⟨"java/time/temporal/ValueRange", "getMinimum", "()J"⟩ : MethodName)) (z := (⟨"java/time/temporal/ValueRange", "getMinimum", "()J"⟩ : MethodName)) hown (mvT hZ (hw _ (List.mem_of_getElem? (i := 47) rfl))) (mvT hZ (hw _ (List.mem_of_getElem? (i := 48) rfl))) (notFace_of_selects (args := #[]) (mvT hZ (hw _ (List.mem_of_getElem? (i := 50) rfl)))) (mvT hZ (hw _ (List.mem_of_getElem? (i := 50) rfl))) (mvT hZ (hw _ (List.mem_of_getElem? (i := 49) rfl))) (by decide) (backOf (W := 2) (own_rm_gmin l Z aw hw [] a0 mn h0 n0 Z0 Fm) hZ (hw _ (List.mem_of_getElem? (i := 51) rfl)) (hw _ (List.mem_of_getElem? (i := 40) rfl)) (by decide) (by decide)) q1a q1c (g := (mkF m 2 #[.val (.ref a0), .val (.long q1), .second] [(.ref a0), (.long q1)])) rfl (by rw [hml]; rfl) (Steps.refl _) (argsL := []) (rest := [(.long q1)]) (lenOf own_pd1 rfl) rfl (by show 2 * 0 + _ ≤ _; exact Nat.le_of_eq rfl) (hb hby own_d8_2) (fun _ _ => ⟨rfl, e0, (by decide : 0 + 0 ≤ _), (by decide : 0 + 0 ≤ _)⟩)
  dsimp only [Pt.U, Pt.locs, Pt.cells, Pt.slots] at X1 l1 y1 z1 st1 hQ1
  subst l1 y1 z1
  obtain ⟨rfl, N1q, e1⟩ := hQ1
  have N_1 := Fr.app N0 N1q
  refine own_step (fun _ k => st1.trans k) ?_
  show own_Ends p.tables e below _ (T1.setTop (mkF m 5 #[.val (.ref a0), .val (.long q1), .second] [(.long mn), (.long q1)]))
  refine own_step (fun _ k => XS.lcmp X1.here hx rfl (hb hby own_d8_5) rfl k) ?_
  show own_Ends p.tables e below _ (T1.setTop (mkF m 6 #[.val (.ref a0), .val (.long q1), .second] [(.int (lcmpW q1 mn))]))
  refine own_step (fun _ k => XS.ifNo X1.here hx rfl (hb hby own_d8_6) rfl ((if0 _ _).trans (flt (fun q => o1 ((own_lc_lt _ _).mp q))).1) k) ?_
  show own_Ends p.tables e below _ (T1.setTop (mkF m 9 #[.val (.ref a0), .val (.long q1), .second] []))
  refine own_step (fun _ k => XS.lloadN X1.here hx rfl (hb hby own_d8_9) rfl k) ?_
  show own_Ends p.tables e below _ (T1.setTop (mkF m 10 #[.val (.ref a0), .val (.long q1), .second] [(.long q1)]))
  refine own_step (fun _ k => XS.aloadN X1.here hx rfl (hb hby own_d8_10) rfl rfl k) ?_
  show own_Ends p.tables e below _ (T1.setTop (mkF m 11 #[.val (.ref a0), .val (.long q1), .second] [(.ref a0), (.long q1)]))
  obtain ⟨cq2, kq2, q2a, q2b, q2c⟩ := isOf hZ e1 Er
  obtain ⟨_, _, ⟨T2, L2, k2, n2⟩, -, X2, ⟨Lc2, hQ2, l2, y2, z2⟩, st2⟩ := X1.virtualBack hx (y := (⟨"java/time/temporal/ValueRange", "getMaximum", "()J"⟩ : MethodName)) (z := (⟨"java/time/temporal/ValueRange", "getMaximum", "()J"⟩ : MethodName)) hown (mvT hZ (hw _ (List.mem_of_getElem? (i := 54) rfl))) (mvT hZ (hw _ (List.mem_of_getElem? (i := 55) rfl))) (notFace_of_selects (args := #[]) (mvT hZ (hw _ (List.mem_of_getElem? (i := 57) rfl)))) (mvT hZ (hw _ (List.mem_of_getElem? (i := 57) rfl))) (mvT hZ (hw _ (List.mem_of_getElem? (i := 56) rfl))) (by decide) (backOf (W := 2) (own_rm_gmax l Z aw hw [] a0 mx h0 n0 Z0 Fx) hZ (hw _ (List.mem_of_getElem? (i := 58) rfl)) (hw _ (List.mem_of_getElem? (i := 40) rfl)) (by decide) (by decide)) q2a q2c (g := (mkF m 11 #[.val (.ref a0), .val (.long q1), .second] [(.ref a0), (.long q1)])) rfl (by rw [hml]; rfl) (Steps.refl _) (argsL := []) (rest := [(.long q1)]) (lenOf own_pd1 rfl) rfl (by show 2 * 0 + _ ≤ _; exact Nat.le_of_eq rfl) (hb hby own_d8_11) (fun _ _ => ⟨rfl, e1, (by decide : 0 + 0 ≤ _), (by decide : 0 + 0 ≤ _)⟩)
  dsimp only [Pt.U, Pt.locs, Pt.cells, Pt.slots] at X2 l2 y2 z2 st2 hQ2
  subst l2 y2 z2
  obtain ⟨rfl, N2q, e2⟩ := hQ2
  have N_2 := Fr.app N_1 N2q
  refine own_step (fun _ k => st2.trans k) ?_
  show own_Ends p.tables e below _ (T2.setTop (mkF m 14 #[.val (.ref a0), .val (.long q1), .second] [(.long mx), (.long q1)]))
  refine own_step (fun _ k => XS.lcmp X2.here hx rfl (hb hby own_d8_14) rfl k) ?_
  show own_Ends p.tables e below _ (T2.setTop (mkF m 15 #[.val (.ref a0), .val (.long q1), .second] [(.int (lcmpW q1 mx))]))
  refine own_step (fun _ k => XS.ifNo X2.here hx rfl (hb hby own_d8_15) rfl ((if0 _ _).trans (flt (fun q => o2 ((own_lc_gt _ _).mp q))).2.2.1) k) ?_
  show own_Ends p.tables e below _ (T2.setTop (mkF m 18 #[.val (.ref a0), .val (.long q1), .second] []))
  refine own_step (fun _ k => XS.iconst X2.here hx rfl (hb hby own_d8_18) k) ?_
  show own_Ends p.tables e below _ (T2.setTop (mkF m 19 #[.val (.ref a0), .val (.long q1), .second] [(.int (1 : Int32))]))
  refine own_step (fun _ k => XS.goto X2.here hx rfl (pc0 := 19) (pc' := 23) rfl (hb hby own_d8_19) (by decide) (by decide) k) ?_
  show own_Ends p.tables e below _ (T2.setTop (mkF m 23 #[.val (.ref a0), .val (.long q1), .second] [(.int (1 : Int32))]))
  exact own_retN X2 hx hlk (by decide) (by decide) (t := .boolean) Bd.returns (by simp) (hb hby own_d8_23) (by rw [e2]; exact ⟨rfl, N_2, rfl⟩)
theorem own_d21_0 : decode jdk_2423_method_10_code 0 = .ok (.aload_n 0, 1) := by decide +kernel
theorem own_d21_1 : decode jdk_2423_method_10_code 1 = .ok (.invokevirtual 46, 3) := by decide +kernel
theorem own_d21_4 : decode jdk_2423_method_10_code 4 = .ok (.ldc2_w 52, 3) := by decide +kernel
theorem own_d21_7 : decode jdk_2423_method_10_code 7 = .ok (.lcmp, 1) := by decide +kernel
theorem own_d21_8 : decode jdk_2423_method_10_code 8 = .ok (.ifCond .lt 18, 3) := by decide +kernel
theorem own_d21_11 : decode jdk_2423_method_10_code 11 = .ok (.aload_n 0, 1) := by decide +kernel
theorem own_d21_12 : decode jdk_2423_method_10_code 12 = .ok (.invokevirtual 54, 3) := by decide +kernel
theorem own_d21_15 : decode jdk_2423_method_10_code 15 = .ok (.ldc2_w 57, 3) := by decide +kernel
theorem own_d21_18 : decode jdk_2423_method_10_code 18 = .ok (.lcmp, 1) := by decide +kernel
theorem own_d21_19 : decode jdk_2423_method_10_code 19 = .ok (.ifCond .gt 7, 3) := by decide +kernel
theorem own_d21_22 : decode jdk_2423_method_10_code 22 = .ok (.iconst 1, 1) := by decide +kernel
theorem own_d21_23 : decode jdk_2423_method_10_code 23 = .ok (.goto 4, 3) := by decide +kernel
theorem own_d21_27 : decode jdk_2423_method_10_code 27 = .ok (.ireturn, 1) := by decide +kernel
theorem own_ef_21 (m : MethodId) (x0 : Addr) : entryFrame m #[(.ref x0)] 1 = mkF m 0 #[.val (.ref x0)] [] := by first | (simp [entryFrame, mkF, argsToLocals, Value.category]; done) | rfl
def own_Q_isi (Z : State) (a0 : Addr) (mn : Int64) (mx : Int64) (h0 : Heap) (n0 : Nat) (v : Option Value) (h : Heap) (L : List Loc) : Prop := v = some (.int 1) ∧ Fr n0 L ∧ h = h0
set_option maxRecDepth 65536 in
set_option maxHeartbeats 40000000 in
theorem own_rm_isi (l : Launch) (Z : State) (aw : Array Value) (hw : ∀ d ∈ tables_1, d.before aw Z = true) (ws : List Jvm.Cond) (a0 : Addr) (mn : Int64) (mx : Int64) (h0 : Heap) (n0 : Nat) (Z0 : n0 ≤ h0.size) (Er : Exa Z h0 a0 "java/time/temporal/ValueRange") (Fm : Fld Z h0 a0 "java/time/temporal/ValueRange" "minSmallest" "J" (.long mn)) (Fx : Fld Z h0 a0 "java/time/temporal/ValueRange" "maxLargest" "J" (.long mx)) (i1 : ¬ mn < (-2147483648 : Int64)) (i2 : ¬ (2147483647 : Int64) < mx) :
    MetFree l (⟨"java/time/temporal/ValueRange", "isIntValue", "()Z"⟩ : MethodName) (head1 (Jvm.Cond.code (⟨"java/time/temporal/ValueRange", "isIntValue", "()Z"⟩ : MethodName) jdk_2423_method_10_code 1 (some .boolean) :: ws) ({ frames := 1, cells := 0, slots := 0, locals := 12 } : Room)) (fun a U => a = #[(.ref a0)] ∧ Z.Warmed39 U.vm ∧ U.heap = h0) (fun _ _ _ _ _ => True) (fun _ U o U' => ∃ v L, o = .returned v ∧ own_Q_isi Z a0 mn mx h0 n0 v U'.heap L ∧ FrameEnd U o U' L ({ frames := 1, cells := 0, slots := 0, locals := 12 } : Room).cells ({ frames := 1, cells := 0, slots := 0, locals := 12 } : Room).slots) := by
  refine MetFree.of_bodySF (plainFor_of_name own_pn2) hisR ?_
  intro p e s m args below meth c s₁ Bd hml0 hP hK
  obtain ⟨rfl, hZ, hh⟩ := hP
  have hx := Bd.exec
  have hby := Bd.bytes
  have hlk : meth.locks = false := BodyLoose.notSynchronized Bd
  have hml : c.maxLocals = 1 := hml0
  have hown : s.vm.findClass "java/time/temporal/ValueRange" = some m.cls := findClass_of_methodNamed Bd.named
  have hnm := (name_of_methodNamed Bd.named Bd.method).1
  have X0 : Stand p l e ({ frames := 1, cells := 0, slots := 0, locals := 12 } : Room) s m #[(.ref a0)] below meth c s₁ [] 0 0 := Stand.of_body Bd
  have e0 : s₁.heap = h0 := by rw [← hh, Bd.state]; rfl
  have N0 := Fr.nil n0
  have K0 : Keep h0 h0 [] := Keep.refl _ _
  have pre0 : ∀ t, Steps p.tables e below (s₁.setTop (mkF m 0 #[.val (.ref a0)] [])) t → Steps p.tables e below (s₁.setTop (entryFrame m #[(.ref a0)] 1)) t := fun t k => castTop (own_ef_21 m a0) k
  show own_Ends p.tables e below (own_Q s (own_Q_isi Z a0 mn mx h0 n0) ({ frames := 1, cells := 0, slots := 0, locals := 12 } : Room).cells ({ frames := 1, cells := 0, slots := 0, locals := 12 } : Room).slots) (s₁.setTop (entryFrame m #[(.ref a0)] 1))
  refine own_step pre0 ?_
  show own_Ends p.tables e below _ (s₁.setTop (mkF m 0 #[.val (.ref a0)] []))
  refine own_step (fun _ k => XS.aloadN X0.here hx rfl (hb hby own_d21_0) rfl rfl k) ?_
  show own_Ends p.tables e below _ (s₁.setTop (mkF m 1 #[.val (.ref a0)] [(.ref a0)]))
  obtain ⟨cq1, kq1, q1a, q1b, q1c⟩ := isOf hZ e0 Er
  obtain ⟨_, _, ⟨T1, L1, k1, n1⟩, -, X1, ⟨Lc1, hQ1, l1, y1, z1⟩, st1⟩ := X0.virtualBack hx (y := (⟨"java/time/temporal/ValueRange", "getMinimum", "()J"⟩ : MethodName)) (z := (⟨"java/time/temporal/ValueRange", "getMinimum", "()J"⟩ : MethodName)) hown (mvT hZ (hw _ (List.mem_of_getElem? (i := 47) rfl))) (mvT hZ (hw _ (List.mem_of_getElem? (i := 48) rfl))) (notFace_of_selects (args := #[]) (mvT hZ (hw _ (List.mem_of_getElem? (i := 50) rfl)))) (mvT hZ (hw _ (List.mem_of_getElem? (i := 50) rfl))) (mvT hZ (hw _ (List.mem_of_getElem? (i := 49) rfl))) (by decide) (backOf (W := 0) (own_rm_gmin l Z aw hw [] a0 mn h0 n0 Z0 Fm) hZ (hw _ (List.mem_of_getElem? (i := 51) rfl)) (hw _ (List.mem_of_getElem? (i := 40) rfl)) (by decide) (by decide)) q1a q1c (g := (mkF m 1 #[.val (.ref a0)] [(.ref a0)])) rfl (by rw [hml]; rfl) (Steps.refl _) (argsL := []) (rest := []) (lenOf own_pd1 rfl) rfl (by show 2 * 0 + _ ≤ _; exact Nat.le_of_eq rfl) (hb hby own_d21_1) (fun _ _ => ⟨rfl, e0, (by decide : 0 + 0 ≤ _), (by decide : 0 + 0 ≤ _)⟩)
  dsimp only [Pt.U, Pt.locs, Pt.cells, Pt.slots] at X1 l1 y1 z1 st1 hQ1
  subst l1 y1 z1
  obtain ⟨rfl, N1q, e1⟩ := hQ1
  have N_1 := Fr.app N0 N1q
  refine own_step (fun _ k => st1.trans k) ?_
  show own_Ends p.tables e below _ (T1.setTop (mkF m 4 #[.val (.ref a0)] [(.long mn)]))
  refine own_step (fun _ k => X1.ldc2Long hx hown (mvT hZ (hw _ (List.mem_of_getElem? (i := 105) rfl))) (g := (mkF m 4 #[.val (.ref a0)] [(.long mn)])) rfl (hb hby own_d21_4) _ k) ?_
  show own_Ends p.tables e below _ (T1.setTop (mkF m 7 #[.val (.ref a0)] [(.long (-2147483648 : Int64)), (.long mn)]))
  refine own_step (fun _ k => XS.lcmp X1.here hx rfl (hb hby own_d21_7) rfl k) ?_
  show own_Ends p.tables e below _ (T1.setTop (mkF m 8 #[.val (.ref a0)] [(.int (lcmpW mn (-2147483648 : Int64)))]))
  refine own_step (fun _ k => XS.ifNo X1.here hx rfl (hb hby own_d21_8) rfl ((if0 _ _).trans (flt (fun q => i1 ((own_lc_lt _ _).mp q))).1) k) ?_
  show own_Ends p.tables e below _ (T1.setTop (mkF m 11 #[.val (.ref a0)] []))
  refine own_step (fun _ k => XS.aloadN X1.here hx rfl (hb hby own_d21_11) rfl rfl k) ?_
  show own_Ends p.tables e below _ (T1.setTop (mkF m 12 #[.val (.ref a0)] [(.ref a0)]))
  obtain ⟨cq2, kq2, q2a, q2b, q2c⟩ := isOf hZ e1 Er
  obtain ⟨_, _, ⟨T2, L2, k2, n2⟩, -, X2, ⟨Lc2, hQ2, l2, y2, z2⟩, st2⟩ := X1.virtualBack hx (y := (⟨"java/time/temporal/ValueRange", "getMaximum", "()J"⟩ : MethodName)) (z := (⟨"java/time/temporal/ValueRange", "getMaximum", "()J"⟩ : MethodName)) hown (mvT hZ (hw _ (List.mem_of_getElem? (i := 54) rfl))) (mvT hZ (hw _ (List.mem_of_getElem? (i := 55) rfl))) (notFace_of_selects (args := #[]) (mvT hZ (hw _ (List.mem_of_getElem? (i := 57) rfl)))) (mvT hZ (hw _ (List.mem_of_getElem? (i := 57) rfl))) (mvT hZ (hw _ (List.mem_of_getElem? (i := 56) rfl))) (by decide) (backOf (W := 0) (own_rm_gmax l Z aw hw [] a0 mx h0 n0 Z0 Fx) hZ (hw _ (List.mem_of_getElem? (i := 58) rfl)) (hw _ (List.mem_of_getElem? (i := 40) rfl)) (by decide) (by decide)) q2a q2c (g := (mkF m 12 #[.val (.ref a0)] [(.ref a0)])) rfl (by rw [hml]; rfl) (Steps.refl _) (argsL := []) (rest := []) (lenOf own_pd1 rfl) rfl (by show 2 * 0 + _ ≤ _; exact Nat.le_of_eq rfl) (hb hby own_d21_12) (fun _ _ => ⟨rfl, e1, (by decide : 0 + 0 ≤ _), (by decide : 0 + 0 ≤ _)⟩)
  dsimp only [Pt.U, Pt.locs, Pt.cells, Pt.slots] at X2 l2 y2 z2 st2 hQ2
  subst l2 y2 z2
  obtain ⟨rfl, N2q, e2⟩ := hQ2
  have N_2 := Fr.app N_1 N2q
  refine own_step (fun _ k => st2.trans k) ?_
  show own_Ends p.tables e below _ (T2.setTop (mkF m 15 #[.val (.ref a0)] [(.long mx)]))
  refine own_step (fun _ k => X2.ldc2Long hx hown (mvT hZ (hw _ (List.mem_of_getElem? (i := 106) rfl))) (g := (mkF m 15 #[.val (.ref a0)] [(.long mx)])) rfl (hb hby own_d21_15) _ k) ?_
  show own_Ends p.tables e below _ (T2.setTop (mkF m 18 #[.val (.ref a0)] [(.long (2147483647 : Int64)), (.long mx)]))
  refine own_step (fun _ k => XS.lcmp X2.here hx rfl (hb hby own_d21_18) rfl k) ?_
  show own_Ends p.tables e below _ (T2.setTop (mkF m 19 #[.val (.ref a0)] [(.int (lcmpW mx (2147483647 : Int64)))]))
  refine own_step (fun _ k => XS.ifNo X2.here hx rfl (hb hby own_d21_19) rfl ((if0 _ _).trans (flt (fun q => i2 ((own_lc_gt _ _).mp q))).2.2.1) k) ?_
  show own_Ends p.tables e below _ (T2.setTop (mkF m 22 #[.val (.ref a0)] []))
  refine own_step (fun _ k => XS.iconst X2.here hx rfl (hb hby own_d21_22) k) ?_
  show own_Ends p.tables e below _ (T2.setTop (mkF m 23 #[.val (.ref a0)] [(.int (1 : Int32))]))
  refine own_step (fun _ k => XS.goto X2.here hx rfl (pc0 := 23) (pc' := 27) rfl (hb hby own_d21_23) (by decide) (by decide) k) ?_
  show own_Ends p.tables e below _ (T2.setTop (mkF m 27 #[.val (.ref a0)] [(.int (1 : Int32))]))
  exact own_retN X2 hx hlk (by decide) (by decide) (t := .boolean) Bd.returns (by simp) (hb hby own_d21_27) (by rw [e2]; exact ⟨rfl, N_2, rfl⟩)
theorem own_pd2 : parseMethodDescriptor "()Z" = some ⟨[], some .boolean⟩ := by decide +kernel
theorem own_pd3 : parseMethodDescriptor "(J)Z" = some ⟨[.long], some .boolean⟩ := by decide +kernel
theorem own_d20_0 : decode jdk_2423_method_12_code 0 = .ok (.aload_n 0, 1) := by decide +kernel
theorem own_d20_1 : decode jdk_2423_method_12_code 1 = .ok (.invokevirtual 59, 3) := by decide +kernel
theorem own_d20_4 : decode jdk_2423_method_12_code 4 = .ok (.ifCond .eq 15, 3) := by decide +kernel
theorem own_d20_7 : decode jdk_2423_method_12_code 7 = .ok (.aload_n 0, 1) := by decide +kernel
theorem own_d20_8 : decode jdk_2423_method_12_code 8 = .ok (.lload_n 1, 1) := by decide +kernel
theorem own_d20_9 : decode jdk_2423_method_12_code 9 = .ok (.invokevirtual 63, 3) := by decide +kernel
theorem own_d20_12 : decode jdk_2423_method_12_code 12 = .ok (.ifCond .eq 7, 3) := by decide +kernel
theorem own_d20_15 : decode jdk_2423_method_12_code 15 = .ok (.iconst 1, 1) := by decide +kernel
theorem own_d20_16 : decode jdk_2423_method_12_code 16 = .ok (.goto 4, 3) := by decide +kernel
theorem own_d20_20 : decode jdk_2423_method_12_code 20 = .ok (.ireturn, 1) := by decide +kernel
theorem own_ef_20 (m : MethodId) (x0 : Addr) (x1 : Int64) : entryFrame m #[(.ref x0), (.long x1)] 3 = mkF m 0 #[.val (.ref x0), .val (.long x1), .second] [] := by first | (simp [entryFrame, mkF, argsToLocals, Value.category]; done) | rfl
def own_Q_isvi (Z : State) (a0 : Addr) (q1 : Int64) (mn : Int64) (mx : Int64) (h0 : Heap) (n0 : Nat) (v : Option Value) (h : Heap) (L : List Loc) : Prop := v = some (.int 1) ∧ Fr n0 L ∧ h = h0
set_option maxRecDepth 65536 in
set_option maxHeartbeats 40000000 in
theorem own_rm_isvi (l : Launch) (Z : State) (aw : Array Value) (hw : ∀ d ∈ tables_1, d.before aw Z = true) (ws : List Jvm.Cond) (a0 : Addr) (q1 : Int64) (mn : Int64) (mx : Int64) (h0 : Heap) (n0 : Nat) (Z0 : n0 ≤ h0.size) (Er : Exa Z h0 a0 "java/time/temporal/ValueRange") (Fm : Fld Z h0 a0 "java/time/temporal/ValueRange" "minSmallest" "J" (.long mn)) (Fx : Fld Z h0 a0 "java/time/temporal/ValueRange" "maxLargest" "J" (.long mx)) (o1 : ¬ q1 < mn) (o2 : ¬ mx < q1) (i1 : ¬ mn < (-2147483648 : Int64)) (i2 : ¬ (2147483647 : Int64) < mx) :
    MetFree l (⟨"java/time/temporal/ValueRange", "isValidIntValue", "(J)Z"⟩ : MethodName) (head1 (Jvm.Cond.code (⟨"java/time/temporal/ValueRange", "isValidIntValue", "(J)Z"⟩ : MethodName) jdk_2423_method_12_code 3 (some .boolean) :: ws) ({ frames := 2, cells := 0, slots := 0, locals := 28 } : Room)) (fun a U => a = #[(.ref a0), (.long q1)] ∧ Z.Warmed39 U.vm ∧ U.heap = h0) (fun _ _ _ _ _ => True) (fun _ U o U' => ∃ v L, o = .returned v ∧ own_Q_isvi Z a0 q1 mn mx h0 n0 v U'.heap L ∧ FrameEnd U o U' L ({ frames := 2, cells := 0, slots := 0, locals := 28 } : Room).cells ({ frames := 2, cells := 0, slots := 0, locals := 28 } : Room).slots) := by
  refine MetFree.of_bodySF (plainFor_of_name own_pn2) hisR ?_
  intro p e s m args below meth c s₁ Bd hml0 hP hK
  obtain ⟨rfl, hZ, hh⟩ := hP
  have hx := Bd.exec
  have hby := Bd.bytes
  have hlk : meth.locks = false := BodyLoose.notSynchronized Bd
  have hml : c.maxLocals = 3 := hml0
  have hown : s.vm.findClass "java/time/temporal/ValueRange" = some m.cls := findClass_of_methodNamed Bd.named
  have hnm := (name_of_methodNamed Bd.named Bd.method).1
  have X0 : Stand p l e ({ frames := 2, cells := 0, slots := 0, locals := 28 } : Room) s m #[(.ref a0), (.long q1)] below meth c s₁ [] 0 0 := Stand.of_body Bd
  have e0 : s₁.heap = h0 := by rw [← hh, Bd.state]; rfl
  have N0 := Fr.nil n0
  have K0 : Keep h0 h0 [] := Keep.refl _ _
  have pre0 : ∀ t, Steps p.tables e below (s₁.setTop (mkF m 0 #[.val (.ref a0), .val (.long q1), .second] [])) t → Steps p.tables e below (s₁.setTop (entryFrame m #[(.ref a0), (.long q1)] 3)) t := fun t k => castTop (own_ef_20 m a0 q1) k
  show own_Ends p.tables e below (own_Q s (own_Q_isvi Z a0 q1 mn mx h0 n0) ({ frames := 2, cells := 0, slots := 0, locals := 28 } : Room).cells ({ frames := 2, cells := 0, slots := 0, locals := 28 } : Room).slots) (s₁.setTop (entryFrame m #[(.ref a0), (.long q1)] 3))
  refine own_step pre0 ?_
  show own_Ends p.tables e below _ (s₁.setTop (mkF m 0 #[.val (.ref a0), .val (.long q1), .second] []))
  refine own_step (fun _ k => XS.aloadN X0.here hx rfl (hb hby own_d20_0) rfl rfl k) ?_
  show own_Ends p.tables e below _ (s₁.setTop (mkF m 1 #[.val (.ref a0), .val (.long q1), .second] [(.ref a0)]))
  obtain ⟨cq1, kq1, q1a, q1b, q1c⟩ := isOf hZ e0 Er
  obtain ⟨_, _, ⟨T1, L1, k1, n1⟩, -, X1, ⟨Lc1, hQ1, l1, y1, z1⟩, st1⟩ := X0.virtualBack hx (y := (⟨"java/time/temporal/ValueRange", "isIntValue", "()Z"⟩ : MethodName)) (z := (⟨"java/time/temporal/ValueRange", "isIntValue", "()Z"⟩ : MethodName)) hown (mvT hZ (hw _ (List.mem_of_getElem? (i := 100) rfl))) (mvT hZ (hw _ (List.mem_of_getElem? (i := 101) rfl))) (notFace_of_selects (args := #[]) (mvT hZ (hw _ (List.mem_of_getElem? (i := 103) rfl)))) (mvT hZ (hw _ (List.mem_of_getElem? (i := 103) rfl))) (mvT hZ (hw _ (List.mem_of_getElem? (i := 102) rfl))) (by decide) (backOf (W := 0) (own_rm_isi l Z aw hw [] a0 mn mx h0 n0 Z0 Er Fm Fx i1 i2) hZ (hw _ (List.mem_of_getElem? (i := 104) rfl)) (hw _ (List.mem_of_getElem? (i := 40) rfl)) (by decide) (by decide)) q1a q1c (g := (mkF m 1 #[.val (.ref a0), .val (.long q1), .second] [(.ref a0)])) rfl (by rw [hml]; rfl) (Steps.refl _) (argsL := []) (rest := []) (lenOf own_pd2 rfl) rfl (by show 2 * 0 + _ ≤ _; exact Nat.le_of_eq rfl) (hb hby own_d20_1) (fun _ _ => ⟨rfl, e0, (by decide : 0 + 0 ≤ _), (by decide : 0 + 0 ≤ _)⟩)
  dsimp only [Pt.U, Pt.locs, Pt.cells, Pt.slots] at X1 l1 y1 z1 st1 hQ1
  subst l1 y1 z1
  obtain ⟨rfl, N1q, e1⟩ := hQ1
  have N_1 := Fr.app N0 N1q
  refine own_step (fun _ k => st1.trans k) ?_
  show own_Ends p.tables e below _ (T1.setTop (mkF m 4 #[.val (.ref a0), .val (.long q1), .second] [(.int (1 : Int32))]))
  refine own_step (fun _ k => XS.ifNo X1.here hx rfl (hb hby own_d20_4) rfl ((if0 _ _).trans (feq (by decide)).1) k) ?_
  show own_Ends p.tables e below _ (T1.setTop (mkF m 7 #[.val (.ref a0), .val (.long q1), .second] []))
  refine own_step (fun _ k => XS.aloadN X1.here hx rfl (hb hby own_d20_7) rfl rfl k) ?_
  show own_Ends p.tables e below _ (T1.setTop (mkF m 8 #[.val (.ref a0), .val (.long q1), .second] [(.ref a0)]))
  refine own_step (fun _ k => XS.lloadN X1.here hx rfl (hb hby own_d20_8) rfl k) ?_
  show own_Ends p.tables e below _ (T1.setTop (mkF m 9 #[.val (.ref a0), .val (.long q1), .second] [(.long q1), (.ref a0)]))
  obtain ⟨cq2, kq2, q2a, q2b, q2c⟩ := isOf hZ e1 Er
  obtain ⟨_, _, ⟨T2, L2, k2, n2⟩, -, X2, ⟨Lc2, hQ2, l2, y2, z2⟩, st2⟩ := X1.virtualBack hx (y := (⟨"java/time/temporal/ValueRange", "isValidValue", "(J)Z"⟩ : MethodName)) (z := (⟨"java/time/temporal/ValueRange", "isValidValue", "(J)Z"⟩ : MethodName)) hown (mvT hZ (hw _ (List.mem_of_getElem? (i := 42) rfl))) (mvT hZ (hw _ (List.mem_of_getElem? (i := 43) rfl))) (notFace_of_selects (args := #[]) (mvT hZ (hw _ (List.mem_of_getElem? (i := 45) rfl)))) (mvT hZ (hw _ (List.mem_of_getElem? (i := 45) rfl))) (mvT hZ (hw _ (List.mem_of_getElem? (i := 44) rfl))) (by decide) (backOf (W := 0) (own_rm_isv l Z aw hw [] a0 q1 mn mx h0 n0 Z0 Er Fm Fx o1 o2) hZ (hw _ (List.mem_of_getElem? (i := 46) rfl)) (hw _ (List.mem_of_getElem? (i := 40) rfl)) (by decide) (by decide)) q2a q2c (g := (mkF m 9 #[.val (.ref a0), .val (.long q1), .second] [(.long q1), (.ref a0)])) rfl (by rw [hml]; rfl) (Steps.refl _) (argsL := [(.long q1)]) (rest := []) (lenOf own_pd3 rfl) rfl (by show 2 * 0 + _ ≤ _; exact Nat.le_of_eq rfl) (hb hby own_d20_9) (fun _ _ => ⟨rfl, e1, (by decide : 0 + 0 ≤ _), (by decide : 0 + 0 ≤ _)⟩)
  dsimp only [Pt.U, Pt.locs, Pt.cells, Pt.slots] at X2 l2 y2 z2 st2 hQ2
  subst l2 y2 z2
  obtain ⟨rfl, N2q, e2⟩ := hQ2
  have N_2 := Fr.app N_1 N2q
  refine own_step (fun _ k => st2.trans k) ?_
  show own_Ends p.tables e below _ (T2.setTop (mkF m 12 #[.val (.ref a0), .val (.long q1), .second] [(.int (1 : Int32))]))
  refine own_step (fun _ k => XS.ifNo X2.here hx rfl (hb hby own_d20_12) rfl ((if0 _ _).trans (feq (by decide)).1) k) ?_
  show own_Ends p.tables e below _ (T2.setTop (mkF m 15 #[.val (.ref a0), .val (.long q1), .second] []))
  refine own_step (fun _ k => XS.iconst X2.here hx rfl (hb hby own_d20_15) k) ?_
  show own_Ends p.tables e below _ (T2.setTop (mkF m 16 #[.val (.ref a0), .val (.long q1), .second] [(.int (1 : Int32))]))
  refine own_step (fun _ k => XS.goto X2.here hx rfl (pc0 := 16) (pc' := 20) rfl (hb hby own_d20_16) (by decide) (by decide) k) ?_
  show own_Ends p.tables e below _ (T2.setTop (mkF m 20 #[.val (.ref a0), .val (.long q1), .second] [(.int (1 : Int32))]))
  exact own_retN X2 hx hlk (by decide) (by decide) (t := .boolean) Bd.returns (by simp) (hb hby own_d20_20) (by rw [e2]; exact ⟨rfl, N_2, rfl⟩)
theorem own_d7_0 : decode jdk_2423_method_13_code 0 = .ok (.aload_n 0, 1) := by decide +kernel
theorem own_d7_1 : decode jdk_2423_method_13_code 1 = .ok (.lload_n 1, 1) := by decide +kernel
theorem own_d7_2 : decode jdk_2423_method_13_code 2 = .ok (.invokevirtual 63, 3) := by decide +kernel
theorem own_d7_5 : decode jdk_2423_method_13_code 5 = .ok (.ifCond .ne 17, 3) := by decide +kernel
theorem own_d7_22 : decode jdk_2423_method_13_code 22 = .ok (.lload_n 1, 1) := by decide +kernel
theorem own_d7_23 : decode jdk_2423_method_13_code 23 = .ok (.lreturn, 1) := by decide +kernel
theorem own_ef_7 (m : MethodId) (x0 : Addr) (x1 : Int64) (x2 : Addr) : entryFrame m #[(.ref x0), (.long x1), (.ref x2)] 4 = mkF m 0 #[.val (.ref x0), .val (.long x1), .second, .val (.ref x2)] [] := by first | (simp [entryFrame, mkF, argsToLocals, Value.category]; done) | rfl
def own_Q_vcv (Z : State) (a0 : Addr) (q1 : Int64) (a2 : Addr) (mn : Int64) (mx : Int64) (h0 : Heap) (n0 : Nat) (v : Option Value) (h : Heap) (L : List Loc) : Prop := v = some (.long q1) ∧ Fr n0 L ∧ h = h0
set_option maxRecDepth 65536 in
set_option maxHeartbeats 40000000 in
theorem own_rm_vcv (l : Launch) (Z : State) (aw : Array Value) (hw : ∀ d ∈ tables_1, d.before aw Z = true) (ws : List Jvm.Cond) (a0 : Addr) (q1 : Int64) (a2 : Addr) (mn : Int64) (mx : Int64) (h0 : Heap) (n0 : Nat) (Z0 : n0 ≤ h0.size) (Er : Exa Z h0 a0 "java/time/temporal/ValueRange") (Fm : Fld Z h0 a0 "java/time/temporal/ValueRange" "minSmallest" "J" (.long mn)) (Fx : Fld Z h0 a0 "java/time/temporal/ValueRange" "maxLargest" "J" (.long mx)) (o1 : ¬ q1 < mn) (o2 : ¬ mx < q1) :
    MetFree l (⟨"java/time/temporal/ValueRange", "checkValidValue", "(JLjava/time/temporal/TemporalField;)J"⟩ : MethodName) (head1 (Jvm.Cond.code (⟨"java/time/temporal/ValueRange", "checkValidValue", "(JLjava/time/temporal/TemporalField;)J"⟩ : MethodName) jdk_2423_method_13_code 4 (some .long) :: ws) ({ frames := 2, cells := 0, slots := 0, locals := 28 } : Room)) (fun a U => a = #[(.ref a0), (.long q1), (.ref a2)] ∧ Z.Warmed39 U.vm ∧ U.heap = h0) (fun _ _ _ _ _ => True) (fun _ U o U' => ∃ v L, o = .returned v ∧ own_Q_vcv Z a0 q1 a2 mn mx h0 n0 v U'.heap L ∧ FrameEnd U o U' L ({ frames := 2, cells := 0, slots := 0, locals := 28 } : Room).cells ({ frames := 2, cells := 0, slots := 0, locals := 28 } : Room).slots) := by
  refine MetFree.of_bodySF (plainFor_of_name own_pn2) hisR ?_
  intro p e s m args below meth c s₁ Bd hml0 hP hK
  obtain ⟨rfl, hZ, hh⟩ := hP
  have hx := Bd.exec
  have hby := Bd.bytes
  have hlk : meth.locks = false := BodyLoose.notSynchronized Bd
  have hml : c.maxLocals = 4 := hml0
  have hown : s.vm.findClass "java/time/temporal/ValueRange" = some m.cls := findClass_of_methodNamed Bd.named
  have hnm := (name_of_methodNamed Bd.named Bd.method).1
  have X0 : Stand p l e ({ frames := 2, cells := 0, slots := 0, locals := 28 } : Room) s m #[(.ref a0), (.long q1), (.ref a2)] below meth c s₁ [] 0 0 := Stand.of_body Bd
  have e0 : s₁.heap = h0 := by rw [← hh, Bd.state]; rfl
  have N0 := Fr.nil n0
  have K0 : Keep h0 h0 [] := Keep.refl _ _
  have pre0 : ∀ t, Steps p.tables e below (s₁.setTop (mkF m 0 #[.val (.ref a0), .val (.long q1), .second, .val (.ref a2)] [])) t → Steps p.tables e below (s₁.setTop (entryFrame m #[(.ref a0), (.long q1), (.ref a2)] 4)) t := fun t k => castTop (own_ef_7 m a0 q1 a2) k
  show own_Ends p.tables e below (own_Q s (own_Q_vcv Z a0 q1 a2 mn mx h0 n0) ({ frames := 2, cells := 0, slots := 0, locals := 28 } : Room).cells ({ frames := 2, cells := 0, slots := 0, locals := 28 } : Room).slots) (s₁.setTop (entryFrame m #[(.ref a0), (.long q1), (.ref a2)] 4))
  refine own_step pre0 ?_
  show own_Ends p.tables e below _ (s₁.setTop (mkF m 0 #[.val (.ref a0), .val (.long q1), .second, .val (.ref a2)] []))
  refine own_step (fun _ k => XS.aloadN X0.here hx rfl (hb hby own_d7_0) rfl rfl k) ?_
  show own_Ends p.tables e below _ (s₁.setTop (mkF m 1 #[.val (.ref a0), .val (.long q1), .second, .val (.ref a2)] [(.ref a0)]))
  refine own_step (fun _ k => XS.lloadN X0.here hx rfl (hb hby own_d7_1) rfl k) ?_
  show own_Ends p.tables e below _ (s₁.setTop (mkF m 2 #[.val (.ref a0), .val (.long q1), .second, .val (.ref a2)] [(.long q1), (.ref a0)]))
  obtain ⟨cq1, kq1, q1a, q1b, q1c⟩ := isOf hZ e0 Er
  obtain ⟨_, _, ⟨T1, L1, k1, n1⟩, -, X1, ⟨Lc1, hQ1, l1, y1, z1⟩, st1⟩ := X0.virtualBack hx (y := (⟨"java/time/temporal/ValueRange", "isValidValue", "(J)Z"⟩ : MethodName)) (z := (⟨"java/time/temporal/ValueRange", "isValidValue", "(J)Z"⟩ : MethodName)) hown (mvT hZ (hw _ (List.mem_of_getElem? (i := 42) rfl))) (mvT hZ (hw _ (List.mem_of_getElem? (i := 43) rfl))) (notFace_of_selects (args := #[]) (mvT hZ (hw _ (List.mem_of_getElem? (i := 45) rfl)))) (mvT hZ (hw _ (List.mem_of_getElem? (i := 45) rfl))) (mvT hZ (hw _ (List.mem_of_getElem? (i := 44) rfl))) (by decide) (backOf (W := 0) (own_rm_isv l Z aw hw [] a0 q1 mn mx h0 n0 Z0 Er Fm Fx o1 o2) hZ (hw _ (List.mem_of_getElem? (i := 46) rfl)) (hw _ (List.mem_of_getElem? (i := 40) rfl)) (by decide) (by decide)) q1a q1c (g := (mkF m 2 #[.val (.ref a0), .val (.long q1), .second, .val (.ref a2)] [(.long q1), (.ref a0)])) rfl (by rw [hml]; rfl) (Steps.refl _) (argsL := [(.long q1)]) (rest := []) (lenOf own_pd3 rfl) rfl (by show 2 * 0 + _ ≤ _; exact Nat.le_of_eq rfl) (hb hby own_d7_2) (fun _ _ => ⟨rfl, e0, (by decide : 0 + 0 ≤ _), (by decide : 0 + 0 ≤ _)⟩)
  dsimp only [Pt.U, Pt.locs, Pt.cells, Pt.slots] at X1 l1 y1 z1 st1 hQ1
  subst l1 y1 z1
  obtain ⟨rfl, N1q, e1⟩ := hQ1
  have N_1 := Fr.app N0 N1q
  refine own_step (fun _ k => st1.trans k) ?_
  show own_Ends p.tables e below _ (T1.setTop (mkF m 5 #[.val (.ref a0), .val (.long q1), .second, .val (.ref a2)] [(.int (1 : Int32))]))
  refine own_step (fun _ k => XS.ifYes X1.here hx rfl (pc0 := 5) (pc' := 22) rfl (hb hby own_d7_5) rfl ((if0 _ _).trans (feq (by decide)).2) (by decide) (by decide) k) ?_
  show own_Ends p.tables e below _ (T1.setTop (mkF m 22 #[.val (.ref a0), .val (.long q1), .second, .val (.ref a2)] []))
  refine own_step (fun _ k => XS.lloadN X1.here hx rfl (hb hby own_d7_22) rfl k) ?_
  show own_Ends p.tables e below _ (T1.setTop (mkF m 23 #[.val (.ref a0), .val (.long q1), .second, .val (.ref a2)] [(.long q1)]))
  exact own_retJ X1 hx hlk (by decide) (by decide) Bd.returns (hb hby own_d7_23) (by rw [e1]; exact ⟨rfl, N_1, rfl⟩)
theorem own_d19_0 : decode jdk_2423_method_14_code 0 = .ok (.aload_n 0, 1) := by decide +kernel
theorem own_d19_1 : decode jdk_2423_method_14_code 1 = .ok (.lload_n 1, 1) := by decide +kernel
theorem own_d19_2 : decode jdk_2423_method_14_code 2 = .ok (.invokevirtual 74, 3) := by decide +kernel
theorem own_d19_5 : decode jdk_2423_method_14_code 5 = .ok (.ifCond .ne 17, 3) := by decide +kernel
theorem own_d19_22 : decode jdk_2423_method_14_code 22 = .ok (.lload_n 1, 1) := by decide +kernel
theorem own_d19_23 : decode jdk_2423_method_14_code 23 = .ok (.l2i, 1) := by decide +kernel
theorem own_d19_24 : decode jdk_2423_method_14_code 24 = .ok (.ireturn, 1) := by decide +kernel
theorem own_ef_19 (m : MethodId) (x0 : Addr) (x1 : Int64) (x2 : Addr) : entryFrame m #[(.ref x0), (.long x1), (.ref x2)] 4 = mkF m 0 #[.val (.ref x0), .val (.long x1), .second, .val (.ref x2)] [] := by first | (simp [entryFrame, mkF, argsToLocals, Value.category]; done) | rfl
def own_Q_vcvi (Z : State) (a0 : Addr) (q1 : Int64) (a2 : Addr) (mn : Int64) (mx : Int64) (h0 : Heap) (n0 : Nat) (v : Option Value) (h : Heap) (L : List Loc) : Prop := v = some (.int q1.toInt32) ∧ Fr n0 L ∧ h = h0
set_option maxRecDepth 65536 in
set_option maxHeartbeats 40000000 in
theorem own_rm_vcvi (l : Launch) (Z : State) (aw : Array Value) (hw : ∀ d ∈ tables_1, d.before aw Z = true) (ws : List Jvm.Cond) (a0 : Addr) (q1 : Int64) (a2 : Addr) (mn : Int64) (mx : Int64) (h0 : Heap) (n0 : Nat) (Z0 : n0 ≤ h0.size) (Er : Exa Z h0 a0 "java/time/temporal/ValueRange") (Fm : Fld Z h0 a0 "java/time/temporal/ValueRange" "minSmallest" "J" (.long mn)) (Fx : Fld Z h0 a0 "java/time/temporal/ValueRange" "maxLargest" "J" (.long mx)) (o1 : ¬ q1 < mn) (o2 : ¬ mx < q1) (i1 : ¬ mn < (-2147483648 : Int64)) (i2 : ¬ (2147483647 : Int64) < mx) :
    MetFree l (⟨"java/time/temporal/ValueRange", "checkValidIntValue", "(JLjava/time/temporal/TemporalField;)I"⟩ : MethodName) (head1 (Jvm.Cond.code (⟨"java/time/temporal/ValueRange", "checkValidIntValue", "(JLjava/time/temporal/TemporalField;)I"⟩ : MethodName) jdk_2423_method_14_code 4 (some .int) :: ws) ({ frames := 3, cells := 0, slots := 0, locals := 42 } : Room)) (fun a U => a = #[(.ref a0), (.long q1), (.ref a2)] ∧ Z.Warmed39 U.vm ∧ U.heap = h0) (fun _ _ _ _ _ => True) (fun _ U o U' => ∃ v L, o = .returned v ∧ own_Q_vcvi Z a0 q1 a2 mn mx h0 n0 v U'.heap L ∧ FrameEnd U o U' L ({ frames := 3, cells := 0, slots := 0, locals := 42 } : Room).cells ({ frames := 3, cells := 0, slots := 0, locals := 42 } : Room).slots) := by
  refine MetFree.of_bodySF (plainFor_of_name own_pn2) hisR ?_
  intro p e s m args below meth c s₁ Bd hml0 hP hK
  obtain ⟨rfl, hZ, hh⟩ := hP
  have hx := Bd.exec
  have hby := Bd.bytes
  have hlk : meth.locks = false := BodyLoose.notSynchronized Bd
  have hml : c.maxLocals = 4 := hml0
  have hown : s.vm.findClass "java/time/temporal/ValueRange" = some m.cls := findClass_of_methodNamed Bd.named
  have hnm := (name_of_methodNamed Bd.named Bd.method).1
  have X0 : Stand p l e ({ frames := 3, cells := 0, slots := 0, locals := 42 } : Room) s m #[(.ref a0), (.long q1), (.ref a2)] below meth c s₁ [] 0 0 := Stand.of_body Bd
  have e0 : s₁.heap = h0 := by rw [← hh, Bd.state]; rfl
  have N0 := Fr.nil n0
  have K0 : Keep h0 h0 [] := Keep.refl _ _
  have pre0 : ∀ t, Steps p.tables e below (s₁.setTop (mkF m 0 #[.val (.ref a0), .val (.long q1), .second, .val (.ref a2)] [])) t → Steps p.tables e below (s₁.setTop (entryFrame m #[(.ref a0), (.long q1), (.ref a2)] 4)) t := fun t k => castTop (own_ef_19 m a0 q1 a2) k
  show own_Ends p.tables e below (own_Q s (own_Q_vcvi Z a0 q1 a2 mn mx h0 n0) ({ frames := 3, cells := 0, slots := 0, locals := 42 } : Room).cells ({ frames := 3, cells := 0, slots := 0, locals := 42 } : Room).slots) (s₁.setTop (entryFrame m #[(.ref a0), (.long q1), (.ref a2)] 4))
  refine own_step pre0 ?_
  show own_Ends p.tables e below _ (s₁.setTop (mkF m 0 #[.val (.ref a0), .val (.long q1), .second, .val (.ref a2)] []))
  refine own_step (fun _ k => XS.aloadN X0.here hx rfl (hb hby own_d19_0) rfl rfl k) ?_
  show own_Ends p.tables e below _ (s₁.setTop (mkF m 1 #[.val (.ref a0), .val (.long q1), .second, .val (.ref a2)] [(.ref a0)]))
  refine own_step (fun _ k => XS.lloadN X0.here hx rfl (hb hby own_d19_1) rfl k) ?_
  show own_Ends p.tables e below _ (s₁.setTop (mkF m 2 #[.val (.ref a0), .val (.long q1), .second, .val (.ref a2)] [(.long q1), (.ref a0)]))
  obtain ⟨cq1, kq1, q1a, q1b, q1c⟩ := isOf hZ e0 Er
  obtain ⟨_, _, ⟨T1, L1, k1, n1⟩, -, X1, ⟨Lc1, hQ1, l1, y1, z1⟩, st1⟩ := X0.virtualBack hx (y := (⟨"java/time/temporal/ValueRange", "isValidIntValue", "(J)Z"⟩ : MethodName)) (z := (⟨"java/time/temporal/ValueRange", "isValidIntValue", "(J)Z"⟩ : MethodName)) hown (mvT hZ (hw _ (List.mem_of_getElem? (i := 95) rfl))) (mvT hZ (hw _ (List.mem_of_getElem? (i := 96) rfl))) (notFace_of_selects (args := #[]) (mvT hZ (hw _ (List.mem_of_getElem? (i := 98) rfl)))) (mvT hZ (hw _ (List.mem_of_getElem? (i := 98) rfl))) (mvT hZ (hw _ (List.mem_of_getElem? (i := 97) rfl))) (by decide) (backOf (W := 0) (own_rm_isvi l Z aw hw [] a0 q1 mn mx h0 n0 Z0 Er Fm Fx o1 o2 i1 i2) hZ (hw _ (List.mem_of_getElem? (i := 99) rfl)) (hw _ (List.mem_of_getElem? (i := 40) rfl)) (by decide) (by decide)) q1a q1c (g := (mkF m 2 #[.val (.ref a0), .val (.long q1), .second, .val (.ref a2)] [(.long q1), (.ref a0)])) rfl (by rw [hml]; rfl) (Steps.refl _) (argsL := [(.long q1)]) (rest := []) (lenOf own_pd3 rfl) rfl (by show 2 * 0 + _ ≤ _; exact Nat.le_of_eq rfl) (hb hby own_d19_2) (fun _ _ => ⟨rfl, e0, (by decide : 0 + 0 ≤ _), (by decide : 0 + 0 ≤ _)⟩)
  dsimp only [Pt.U, Pt.locs, Pt.cells, Pt.slots] at X1 l1 y1 z1 st1 hQ1
  subst l1 y1 z1
  obtain ⟨rfl, N1q, e1⟩ := hQ1
  have N_1 := Fr.app N0 N1q
  refine own_step (fun _ k => st1.trans k) ?_
  show own_Ends p.tables e below _ (T1.setTop (mkF m 5 #[.val (.ref a0), .val (.long q1), .second, .val (.ref a2)] [(.int (1 : Int32))]))
  refine own_step (fun _ k => XS.ifYes X1.here hx rfl (pc0 := 5) (pc' := 22) rfl (hb hby own_d19_5) rfl ((if0 _ _).trans (feq (by decide)).2) (by decide) (by decide) k) ?_
  show own_Ends p.tables e below _ (T1.setTop (mkF m 22 #[.val (.ref a0), .val (.long q1), .second, .val (.ref a2)] []))
  refine own_step (fun _ k => XS.lloadN X1.here hx rfl (hb hby own_d19_22) rfl k) ?_
  show own_Ends p.tables e below _ (T1.setTop (mkF m 23 #[.val (.ref a0), .val (.long q1), .second, .val (.ref a2)] [(.long q1)]))
  refine own_step (fun _ k => XS.l2i X1.here hx rfl (hb hby own_d19_23) rfl k) ?_
  show own_Ends p.tables e below _ (T1.setTop (mkF m 24 #[.val (.ref a0), .val (.long q1), .second, .val (.ref a2)] [(.int (q1.toInt32))]))
  exact own_retI X1 hx hlk (by decide) (by decide) Bd.returns (hb hby own_d19_24) (by rw [e1]; exact ⟨rfl, N_1, rfl⟩)
theorem own_d6_0 : decode jdk_2395_method_8_code 0 = .ok (.aload_n 0, 1) := by decide +kernel
theorem own_d6_1 : decode jdk_2395_method_8_code 1 = .ok (.getfield 124, 3) := by decide +kernel
theorem own_d6_4 : decode jdk_2395_method_8_code 4 = .ok (.areturn, 1) := by decide +kernel
theorem own_pn3 : plainName "java/time/temporal/ChronoField" = true := by first | (simp [plainName, overriddenIn]; done) | decide +kernel
theorem own_ef_6 (m : MethodId) (x0 : Addr) : entryFrame m #[(.ref x0)] 1 = mkF m 0 #[.val (.ref x0)] [] := by first | (simp [entryFrame, mkF, argsToLocals, Value.category]; done) | rfl
def own_Q_crange (Z : State) (a0 : Addr) (r : Addr) (h0 : Heap) (n0 : Nat) (v : Option Value) (h : Heap) (L : List Loc) : Prop := v = some (.ref r) ∧ Fr n0 L ∧ h = h0
set_option maxRecDepth 65536 in
set_option maxHeartbeats 40000000 in
theorem own_rm_crange (l : Launch) (Z : State) (aw : Array Value) (hw : ∀ d ∈ tables_1, d.before aw Z = true) (ws : List Jvm.Cond) (a0 : Addr) (r : Addr) (h0 : Heap) (n0 : Nat) (Z0 : n0 ≤ h0.size) (Fr_ : Fld Z h0 a0 "java/time/temporal/ChronoField" "range" "Ljava/time/temporal/ValueRange;" (.ref r)) :
    MetFree l (⟨"java/time/temporal/ChronoField", "range", "()Ljava/time/temporal/ValueRange;"⟩ : MethodName) (head1 (Jvm.Cond.code (⟨"java/time/temporal/ChronoField", "range", "()Ljava/time/temporal/ValueRange;"⟩ : MethodName) jdk_2395_method_8_code 1 (some (.object "java/time/temporal/ValueRange")) :: ws) ({ frames := 0, cells := 0, slots := 0, locals := 0 } : Room)) (fun a U => a = #[(.ref a0)] ∧ Z.Warmed39 U.vm ∧ U.heap = h0) (fun _ _ _ _ _ => True) (fun _ U o U' => ∃ v L, o = .returned v ∧ own_Q_crange Z a0 r h0 n0 v U'.heap L ∧ FrameEnd U o U' L ({ frames := 0, cells := 0, slots := 0, locals := 0 } : Room).cells ({ frames := 0, cells := 0, slots := 0, locals := 0 } : Room).slots) := by
  refine MetFree.of_bodySF (plainFor_of_name own_pn3) hisR ?_
  intro p e s m args below meth c s₁ Bd hml0 hP hK
  obtain ⟨rfl, hZ, hh⟩ := hP
  have hx := Bd.exec
  have hby := Bd.bytes
  have hlk : meth.locks = false := BodyLoose.notSynchronized Bd
  have hml : c.maxLocals = 1 := hml0
  have hown : s.vm.findClass "java/time/temporal/ChronoField" = some m.cls := findClass_of_methodNamed Bd.named
  have hnm := (name_of_methodNamed Bd.named Bd.method).1
  have X0 : Stand p l e ({ frames := 0, cells := 0, slots := 0, locals := 0 } : Room) s m #[(.ref a0)] below meth c s₁ [] 0 0 := Stand.of_body Bd
  have e0 : s₁.heap = h0 := by rw [← hh, Bd.state]; rfl
  have N0 := Fr.nil n0
  have K0 : Keep h0 h0 [] := Keep.refl _ _
  have pre0 : ∀ t, Steps p.tables e below (s₁.setTop (mkF m 0 #[.val (.ref a0)] [])) t → Steps p.tables e below (s₁.setTop (entryFrame m #[(.ref a0)] 1)) t := fun t k => castTop (own_ef_6 m a0) k
  show own_Ends p.tables e below (own_Q s (own_Q_crange Z a0 r h0 n0) ({ frames := 0, cells := 0, slots := 0, locals := 0 } : Room).cells ({ frames := 0, cells := 0, slots := 0, locals := 0 } : Room).slots) (s₁.setTop (entryFrame m #[(.ref a0)] 1))
  refine own_step pre0 ?_
  show own_Ends p.tables e below _ (s₁.setTop (mkF m 0 #[.val (.ref a0)] []))
  refine own_step (fun _ k => XS.aloadN X0.here hx rfl (hb hby own_d6_0) rfl rfl k) ?_
  show own_Ends p.tables e below _ (s₁.setTop (mkF m 1 #[.val (.ref a0)] [(.ref a0)]))
  obtain ⟨T1, X1, e1, st1⟩ := getF X0 hx hZ hown (host := "") (Or.inl (hw _ (List.mem_of_getElem? (i := 34) rfl))) Via.refl e0 Fr_ (g := (mkF m 1 #[.val (.ref a0)] [(.ref a0)])) rfl rfl (hb hby own_d6_1)
  refine own_step st1 ?_
  show own_Ends p.tables e below _ (T1.setTop (mkF m 4 #[.val (.ref a0)] [(.ref r)]))
  exact own_retA X1 hx hlk (by decide) (by decide) Bd.returns rfl rfl (hb hby own_d6_4) (by rw [e1]; exact ⟨rfl, N0, rfl⟩)
theorem own_pd4 : parseMethodDescriptor "()Ljava/time/temporal/ValueRange;" = some ⟨[], some (.object "java/time/temporal/ValueRange")⟩ := by decide +kernel
theorem own_pd5 : parseMethodDescriptor "(JLjava/time/temporal/TemporalField;)J" = some ⟨[.long, (.object "java/time/temporal/TemporalField")], some .long⟩ := by decide +kernel
theorem own_d5_0 : decode jdk_2395_method_11_code 0 = .ok (.aload_n 0, 1) := by decide +kernel
theorem own_d5_1 : decode jdk_2395_method_11_code 1 = .ok (.invokevirtual 190, 3) := by decide +kernel
theorem own_d5_4 : decode jdk_2395_method_11_code 4 = .ok (.lload_n 1, 1) := by decide +kernel
theorem own_d5_5 : decode jdk_2395_method_11_code 5 = .ok (.aload_n 0, 1) := by decide +kernel
theorem own_d5_6 : decode jdk_2395_method_11_code 6 = .ok (.invokevirtual 193, 3) := by decide +kernel
theorem own_d5_9 : decode jdk_2395_method_11_code 9 = .ok (.lreturn, 1) := by decide +kernel
theorem own_ef_5 (m : MethodId) (x0 : Addr) (x1 : Int64) : entryFrame m #[(.ref x0), (.long x1)] 3 = mkF m 0 #[.val (.ref x0), .val (.long x1), .second] [] := by first | (simp [entryFrame, mkF, argsToLocals, Value.category]; done) | rfl
def own_Q_ccv (Z : State) (a0 : Addr) (q1 : Int64) (r : Addr) (mn : Int64) (mx : Int64) (h0 : Heap) (n0 : Nat) (v : Option Value) (h : Heap) (L : List Loc) : Prop := v = some (.long q1) ∧ Fr n0 L ∧ h = h0
set_option maxRecDepth 65536 in
set_option maxHeartbeats 40000000 in
theorem own_rm_ccv (l : Launch) (Z : State) (aw : Array Value) (hw : ∀ d ∈ tables_1, d.before aw Z = true) (ws : List Jvm.Cond) (a0 : Addr) (q1 : Int64) (r : Addr) (mn : Int64) (mx : Int64) (h0 : Heap) (n0 : Nat) (Z0 : n0 ≤ h0.size) (Ec : Exa Z h0 a0 "java/time/temporal/ChronoField") (Fr_ : Fld Z h0 a0 "java/time/temporal/ChronoField" "range" "Ljava/time/temporal/ValueRange;" (.ref r)) (Er : Exa Z h0 r "java/time/temporal/ValueRange") (Fm : Fld Z h0 r "java/time/temporal/ValueRange" "minSmallest" "J" (.long mn)) (Fx : Fld Z h0 r "java/time/temporal/ValueRange" "maxLargest" "J" (.long mx)) (o1 : ¬ q1 < mn) (o2 : ¬ mx < q1) :
    MetFree l (⟨"java/time/temporal/ChronoField", "checkValidValue", "(J)J"⟩ : MethodName) (head1 (Jvm.Cond.code (⟨"java/time/temporal/ChronoField", "checkValidValue", "(J)J"⟩ : MethodName) jdk_2395_method_11_code 3 (some .long) :: ws) ({ frames := 3, cells := 0, slots := 0, locals := 43 } : Room)) (fun a U => a = #[(.ref a0), (.long q1)] ∧ Z.Warmed39 U.vm ∧ U.heap = h0) (fun _ _ _ _ _ => True) (fun _ U o U' => ∃ v L, o = .returned v ∧ own_Q_ccv Z a0 q1 r mn mx h0 n0 v U'.heap L ∧ FrameEnd U o U' L ({ frames := 3, cells := 0, slots := 0, locals := 43 } : Room).cells ({ frames := 3, cells := 0, slots := 0, locals := 43 } : Room).slots) := by
  refine MetFree.of_bodySF (plainFor_of_name own_pn3) hisR ?_
  intro p e s m args below meth c s₁ Bd hml0 hP hK
  obtain ⟨rfl, hZ, hh⟩ := hP
  have hx := Bd.exec
  have hby := Bd.bytes
  have hlk : meth.locks = false := BodyLoose.notSynchronized Bd
  have hml : c.maxLocals = 3 := hml0
  have hown : s.vm.findClass "java/time/temporal/ChronoField" = some m.cls := findClass_of_methodNamed Bd.named
  have hnm := (name_of_methodNamed Bd.named Bd.method).1
  have X0 : Stand p l e ({ frames := 3, cells := 0, slots := 0, locals := 43 } : Room) s m #[(.ref a0), (.long q1)] below meth c s₁ [] 0 0 := Stand.of_body Bd
  have e0 : s₁.heap = h0 := by rw [← hh, Bd.state]; rfl
  have N0 := Fr.nil n0
  have K0 : Keep h0 h0 [] := Keep.refl _ _
  have pre0 : ∀ t, Steps p.tables e below (s₁.setTop (mkF m 0 #[.val (.ref a0), .val (.long q1), .second] [])) t → Steps p.tables e below (s₁.setTop (entryFrame m #[(.ref a0), (.long q1)] 3)) t := fun t k => castTop (own_ef_5 m a0 q1) k
  show own_Ends p.tables e below (own_Q s (own_Q_ccv Z a0 q1 r mn mx h0 n0) ({ frames := 3, cells := 0, slots := 0, locals := 43 } : Room).cells ({ frames := 3, cells := 0, slots := 0, locals := 43 } : Room).slots) (s₁.setTop (entryFrame m #[(.ref a0), (.long q1)] 3))
  refine own_step pre0 ?_
  show own_Ends p.tables e below _ (s₁.setTop (mkF m 0 #[.val (.ref a0), .val (.long q1), .second] []))
  refine own_step (fun _ k => XS.aloadN X0.here hx rfl (hb hby own_d5_0) rfl rfl k) ?_
  show own_Ends p.tables e below _ (s₁.setTop (mkF m 1 #[.val (.ref a0), .val (.long q1), .second] [(.ref a0)]))
  obtain ⟨cq1, kq1, q1a, q1b, q1c⟩ := isOf hZ e0 Ec
  obtain ⟨_, _, ⟨T1, L1, k1, n1⟩, -, X1, ⟨Lc1, hQ1, l1, y1, z1⟩, st1⟩ := X0.virtualBack hx (y := (⟨"java/time/temporal/ChronoField", "range", "()Ljava/time/temporal/ValueRange;"⟩ : MethodName)) (z := (⟨"java/time/temporal/ChronoField", "range", "()Ljava/time/temporal/ValueRange;"⟩ : MethodName)) hown (mvT hZ (hw _ (List.mem_of_getElem? (i := 29) rfl))) (mvT hZ (hw _ (List.mem_of_getElem? (i := 30) rfl))) (notFace_of_selects (args := #[]) (mvT hZ (hw _ (List.mem_of_getElem? (i := 32) rfl)))) (mvT hZ (hw _ (List.mem_of_getElem? (i := 32) rfl))) (mvT hZ (hw _ (List.mem_of_getElem? (i := 31) rfl))) (by decide) (backOf (W := 0) (own_rm_crange l Z aw hw [] a0 r h0 n0 Z0 Fr_) hZ (hw _ (List.mem_of_getElem? (i := 33) rfl)) (hw _ (List.mem_of_getElem? (i := 23) rfl)) (by decide) (by decide)) q1a q1c (g := (mkF m 1 #[.val (.ref a0), .val (.long q1), .second] [(.ref a0)])) rfl (by rw [hml]; rfl) (Steps.refl _) (argsL := []) (rest := []) (lenOf own_pd4 rfl) rfl (by show 2 * 0 + _ ≤ _; exact Nat.le_of_eq rfl) (hb hby own_d5_1) (fun _ _ => ⟨rfl, e0, (by decide : 0 + 0 ≤ _), (by decide : 0 + 0 ≤ _)⟩)
  dsimp only [Pt.U, Pt.locs, Pt.cells, Pt.slots] at X1 l1 y1 z1 st1 hQ1
  subst l1 y1 z1
  obtain ⟨rfl, N1q, e1⟩ := hQ1
  have N_1 := Fr.app N0 N1q
  refine own_step (fun _ k => st1.trans k) ?_
  show own_Ends p.tables e below _ (T1.setTop (mkF m 4 #[.val (.ref a0), .val (.long q1), .second] [(.ref r)]))
  refine own_step (fun _ k => XS.lloadN X1.here hx rfl (hb hby own_d5_4) rfl k) ?_
  show own_Ends p.tables e below _ (T1.setTop (mkF m 5 #[.val (.ref a0), .val (.long q1), .second] [(.long q1), (.ref r)]))
  refine own_step (fun _ k => XS.aloadN X1.here hx rfl (hb hby own_d5_5) rfl rfl k) ?_
  show own_Ends p.tables e below _ (T1.setTop (mkF m 6 #[.val (.ref a0), .val (.long q1), .second] [(.ref a0), (.long q1), (.ref r)]))
  obtain ⟨cq2, kq2, q2a, q2b, q2c⟩ := isOf hZ e1 Er
  obtain ⟨_, _, ⟨T2, L2, k2, n2⟩, -, X2, ⟨Lc2, hQ2, l2, y2, z2⟩, st2⟩ := X1.virtualBack hx (y := (⟨"java/time/temporal/ValueRange", "checkValidValue", "(JLjava/time/temporal/TemporalField;)J"⟩ : MethodName)) (z := (⟨"java/time/temporal/ValueRange", "checkValidValue", "(JLjava/time/temporal/TemporalField;)J"⟩ : MethodName)) hown (mvT hZ (hw _ (List.mem_of_getElem? (i := 36) rfl))) (mvT hZ (hw _ (List.mem_of_getElem? (i := 37) rfl))) (notFace_of_selects (args := #[]) (mvT hZ (hw _ (List.mem_of_getElem? (i := 39) rfl)))) (mvT hZ (hw _ (List.mem_of_getElem? (i := 39) rfl))) (mvT hZ (hw _ (List.mem_of_getElem? (i := 38) rfl))) (by decide) (backOf (W := 0) (own_rm_vcv l Z aw hw [] r q1 a0 mn mx h0 n0 Z0 Er Fm Fx o1 o2) hZ (hw _ (List.mem_of_getElem? (i := 41) rfl)) (hw _ (List.mem_of_getElem? (i := 40) rfl)) (by decide) (by decide)) q2a q2c (g := (mkF m 6 #[.val (.ref a0), .val (.long q1), .second] [(.ref a0), (.long q1), (.ref r)])) rfl (by rw [hml]; rfl) (Steps.refl _) (argsL := [(.long q1), (.ref a0)]) (rest := []) (lenOf own_pd5 rfl) rfl (by show 2 * 0 + _ ≤ _; exact Nat.le_of_eq rfl) (hb hby own_d5_6) (fun _ _ => ⟨rfl, e1, (by decide : 0 + 0 ≤ _), (by decide : 0 + 0 ≤ _)⟩)
  dsimp only [Pt.U, Pt.locs, Pt.cells, Pt.slots] at X2 l2 y2 z2 st2 hQ2
  subst l2 y2 z2
  obtain ⟨rfl, N2q, e2⟩ := hQ2
  have N_2 := Fr.app N_1 N2q
  refine own_step (fun _ k => st2.trans k) ?_
  show own_Ends p.tables e below _ (T2.setTop (mkF m 9 #[.val (.ref a0), .val (.long q1), .second] [(.long q1)]))
  exact own_retJ X2 hx hlk (by decide) (by decide) Bd.returns (hb hby own_d5_9) (by rw [e2]; exact ⟨rfl, N_2, rfl⟩)
theorem own_pd6 : parseMethodDescriptor "(JLjava/time/temporal/TemporalField;)I" = some ⟨[.long, (.object "java/time/temporal/TemporalField")], some .int⟩ := by decide +kernel
theorem own_d18_0 : decode jdk_2395_method_12_code 0 = .ok (.aload_n 0, 1) := by decide +kernel
theorem own_d18_1 : decode jdk_2395_method_12_code 1 = .ok (.invokevirtual 190, 3) := by decide +kernel
theorem own_d18_4 : decode jdk_2395_method_12_code 4 = .ok (.lload_n 1, 1) := by decide +kernel
theorem own_d18_5 : decode jdk_2395_method_12_code 5 = .ok (.aload_n 0, 1) := by decide +kernel
theorem own_d18_6 : decode jdk_2395_method_12_code 6 = .ok (.invokevirtual 199, 3) := by decide +kernel
theorem own_d18_9 : decode jdk_2395_method_12_code 9 = .ok (.ireturn, 1) := by decide +kernel
theorem own_ef_18 (m : MethodId) (x0 : Addr) (x1 : Int64) : entryFrame m #[(.ref x0), (.long x1)] 3 = mkF m 0 #[.val (.ref x0), .val (.long x1), .second] [] := by first | (simp [entryFrame, mkF, argsToLocals, Value.category]; done) | rfl
def own_Q_ccvi (Z : State) (a0 : Addr) (q1 : Int64) (r : Addr) (mn : Int64) (mx : Int64) (h0 : Heap) (n0 : Nat) (v : Option Value) (h : Heap) (L : List Loc) : Prop := v = some (.int q1.toInt32) ∧ Fr n0 L ∧ h = h0
set_option maxRecDepth 65536 in
set_option maxHeartbeats 40000000 in
theorem own_rm_ccvi (l : Launch) (Z : State) (aw : Array Value) (hw : ∀ d ∈ tables_1, d.before aw Z = true) (ws : List Jvm.Cond) (a0 : Addr) (q1 : Int64) (r : Addr) (mn : Int64) (mx : Int64) (h0 : Heap) (n0 : Nat) (Z0 : n0 ≤ h0.size) (Ec : Exa Z h0 a0 "java/time/temporal/ChronoField") (Fr_ : Fld Z h0 a0 "java/time/temporal/ChronoField" "range" "Ljava/time/temporal/ValueRange;" (.ref r)) (Er : Exa Z h0 r "java/time/temporal/ValueRange") (Fm : Fld Z h0 r "java/time/temporal/ValueRange" "minSmallest" "J" (.long mn)) (Fx : Fld Z h0 r "java/time/temporal/ValueRange" "maxLargest" "J" (.long mx)) (o1 : ¬ q1 < mn) (o2 : ¬ mx < q1) (i1 : ¬ mn < (-2147483648 : Int64)) (i2 : ¬ (2147483647 : Int64) < mx) :
    MetFree l (⟨"java/time/temporal/ChronoField", "checkValidIntValue", "(J)I"⟩ : MethodName) (head1 (Jvm.Cond.code (⟨"java/time/temporal/ChronoField", "checkValidIntValue", "(J)I"⟩ : MethodName) jdk_2395_method_12_code 3 (some .int) :: ws) ({ frames := 4, cells := 0, slots := 0, locals := 57 } : Room)) (fun a U => a = #[(.ref a0), (.long q1)] ∧ Z.Warmed39 U.vm ∧ U.heap = h0) (fun _ _ _ _ _ => True) (fun _ U o U' => ∃ v L, o = .returned v ∧ own_Q_ccvi Z a0 q1 r mn mx h0 n0 v U'.heap L ∧ FrameEnd U o U' L ({ frames := 4, cells := 0, slots := 0, locals := 57 } : Room).cells ({ frames := 4, cells := 0, slots := 0, locals := 57 } : Room).slots) := by
  refine MetFree.of_bodySF (plainFor_of_name own_pn3) hisR ?_
  intro p e s m args below meth c s₁ Bd hml0 hP hK
  obtain ⟨rfl, hZ, hh⟩ := hP
  have hx := Bd.exec
  have hby := Bd.bytes
  have hlk : meth.locks = false := BodyLoose.notSynchronized Bd
  have hml : c.maxLocals = 3 := hml0
  have hown : s.vm.findClass "java/time/temporal/ChronoField" = some m.cls := findClass_of_methodNamed Bd.named
  have hnm := (name_of_methodNamed Bd.named Bd.method).1
  have X0 : Stand p l e ({ frames := 4, cells := 0, slots := 0, locals := 57 } : Room) s m #[(.ref a0), (.long q1)] below meth c s₁ [] 0 0 := Stand.of_body Bd
  have e0 : s₁.heap = h0 := by rw [← hh, Bd.state]; rfl
  have N0 := Fr.nil n0
  have K0 : Keep h0 h0 [] := Keep.refl _ _
  have pre0 : ∀ t, Steps p.tables e below (s₁.setTop (mkF m 0 #[.val (.ref a0), .val (.long q1), .second] [])) t → Steps p.tables e below (s₁.setTop (entryFrame m #[(.ref a0), (.long q1)] 3)) t := fun t k => castTop (own_ef_18 m a0 q1) k
  show own_Ends p.tables e below (own_Q s (own_Q_ccvi Z a0 q1 r mn mx h0 n0) ({ frames := 4, cells := 0, slots := 0, locals := 57 } : Room).cells ({ frames := 4, cells := 0, slots := 0, locals := 57 } : Room).slots) (s₁.setTop (entryFrame m #[(.ref a0), (.long q1)] 3))
  refine own_step pre0 ?_
  show own_Ends p.tables e below _ (s₁.setTop (mkF m 0 #[.val (.ref a0), .val (.long q1), .second] []))
  refine own_step (fun _ k => XS.aloadN X0.here hx rfl (hb hby own_d18_0) rfl rfl k) ?_
  show own_Ends p.tables e below _ (s₁.setTop (mkF m 1 #[.val (.ref a0), .val (.long q1), .second] [(.ref a0)]))
  obtain ⟨cq1, kq1, q1a, q1b, q1c⟩ := isOf hZ e0 Ec
  obtain ⟨_, _, ⟨T1, L1, k1, n1⟩, -, X1, ⟨Lc1, hQ1, l1, y1, z1⟩, st1⟩ := X0.virtualBack hx (y := (⟨"java/time/temporal/ChronoField", "range", "()Ljava/time/temporal/ValueRange;"⟩ : MethodName)) (z := (⟨"java/time/temporal/ChronoField", "range", "()Ljava/time/temporal/ValueRange;"⟩ : MethodName)) hown (mvT hZ (hw _ (List.mem_of_getElem? (i := 29) rfl))) (mvT hZ (hw _ (List.mem_of_getElem? (i := 30) rfl))) (notFace_of_selects (args := #[]) (mvT hZ (hw _ (List.mem_of_getElem? (i := 32) rfl)))) (mvT hZ (hw _ (List.mem_of_getElem? (i := 32) rfl))) (mvT hZ (hw _ (List.mem_of_getElem? (i := 31) rfl))) (by decide) (backOf (W := 0) (own_rm_crange l Z aw hw [] a0 r h0 n0 Z0 Fr_) hZ (hw _ (List.mem_of_getElem? (i := 33) rfl)) (hw _ (List.mem_of_getElem? (i := 23) rfl)) (by decide) (by decide)) q1a q1c (g := (mkF m 1 #[.val (.ref a0), .val (.long q1), .second] [(.ref a0)])) rfl (by rw [hml]; rfl) (Steps.refl _) (argsL := []) (rest := []) (lenOf own_pd4 rfl) rfl (by show 2 * 0 + _ ≤ _; exact Nat.le_of_eq rfl) (hb hby own_d18_1) (fun _ _ => ⟨rfl, e0, (by decide : 0 + 0 ≤ _), (by decide : 0 + 0 ≤ _)⟩)
  dsimp only [Pt.U, Pt.locs, Pt.cells, Pt.slots] at X1 l1 y1 z1 st1 hQ1
  subst l1 y1 z1
  obtain ⟨rfl, N1q, e1⟩ := hQ1
  have N_1 := Fr.app N0 N1q
  refine own_step (fun _ k => st1.trans k) ?_
  show own_Ends p.tables e below _ (T1.setTop (mkF m 4 #[.val (.ref a0), .val (.long q1), .second] [(.ref r)]))
  refine own_step (fun _ k => XS.lloadN X1.here hx rfl (hb hby own_d18_4) rfl k) ?_
  show own_Ends p.tables e below _ (T1.setTop (mkF m 5 #[.val (.ref a0), .val (.long q1), .second] [(.long q1), (.ref r)]))
  refine own_step (fun _ k => XS.aloadN X1.here hx rfl (hb hby own_d18_5) rfl rfl k) ?_
  show own_Ends p.tables e below _ (T1.setTop (mkF m 6 #[.val (.ref a0), .val (.long q1), .second] [(.ref a0), (.long q1), (.ref r)]))
  obtain ⟨cq2, kq2, q2a, q2b, q2c⟩ := isOf hZ e1 Er
  obtain ⟨_, _, ⟨T2, L2, k2, n2⟩, -, X2, ⟨Lc2, hQ2, l2, y2, z2⟩, st2⟩ := X1.virtualBack hx (y := (⟨"java/time/temporal/ValueRange", "checkValidIntValue", "(JLjava/time/temporal/TemporalField;)I"⟩ : MethodName)) (z := (⟨"java/time/temporal/ValueRange", "checkValidIntValue", "(JLjava/time/temporal/TemporalField;)I"⟩ : MethodName)) hown (mvT hZ (hw _ (List.mem_of_getElem? (i := 90) rfl))) (mvT hZ (hw _ (List.mem_of_getElem? (i := 91) rfl))) (notFace_of_selects (args := #[]) (mvT hZ (hw _ (List.mem_of_getElem? (i := 93) rfl)))) (mvT hZ (hw _ (List.mem_of_getElem? (i := 93) rfl))) (mvT hZ (hw _ (List.mem_of_getElem? (i := 92) rfl))) (by decide) (backOf (W := 0) (own_rm_vcvi l Z aw hw [] r q1 a0 mn mx h0 n0 Z0 Er Fm Fx o1 o2 i1 i2) hZ (hw _ (List.mem_of_getElem? (i := 94) rfl)) (hw _ (List.mem_of_getElem? (i := 40) rfl)) (by decide) (by decide)) q2a q2c (g := (mkF m 6 #[.val (.ref a0), .val (.long q1), .second] [(.ref a0), (.long q1), (.ref r)])) rfl (by rw [hml]; rfl) (Steps.refl _) (argsL := [(.long q1), (.ref a0)]) (rest := []) (lenOf own_pd6 rfl) rfl (by show 2 * 0 + _ ≤ _; exact Nat.le_of_eq rfl) (hb hby own_d18_6) (fun _ _ => ⟨rfl, e1, (by decide : 0 + 0 ≤ _), (by decide : 0 + 0 ≤ _)⟩)
  dsimp only [Pt.U, Pt.locs, Pt.cells, Pt.slots] at X2 l2 y2 z2 st2 hQ2
  subst l2 y2 z2
  obtain ⟨rfl, N2q, e2⟩ := hQ2
  have N_2 := Fr.app N_1 N2q
  refine own_step (fun _ k => st2.trans k) ?_
  show own_Ends p.tables e below _ (T2.setTop (mkF m 9 #[.val (.ref a0), .val (.long q1), .second] [(.int (q1.toInt32))]))
  exact own_retI X2 hx hlk (by decide) (by decide) Bd.returns (hb hby own_d18_9) (by rw [e2]; exact ⟨rfl, N_2, rfl⟩)
theorem own_pd7 : parseMethodDescriptor "(J)J" = some ⟨[.long], some .long⟩ := by decide +kernel
theorem own_pd8 : parseMethodDescriptor "(II)I" = some ⟨[.int, .int], some .int⟩ := by decide +kernel
theorem own_pd9 : parseMethodDescriptor "(III)J" = some ⟨[.int, .int, .int], some .long⟩ := by decide +kernel
theorem own_d4_0 : decode prog_102_method_2_code 0 = .ok (.getstatic 7, 3) := by decide +kernel
theorem own_d4_3 : decode prog_102_method_2_code 3 = .ok (.iload_n 0, 1) := by decide +kernel
theorem own_d4_4 : decode prog_102_method_2_code 4 = .ok (.i2l, 1) := by decide +kernel
theorem own_d4_5 : decode prog_102_method_2_code 5 = .ok (.invokevirtual 13, 3) := by decide +kernel
theorem own_d4_8 : decode prog_102_method_2_code 8 = .ok (.pop2, 1) := by decide +kernel
theorem own_d4_9 : decode prog_102_method_2_code 9 = .ok (.getstatic 17, 3) := by decide +kernel
theorem own_d4_12 : decode prog_102_method_2_code 12 = .ok (.iload_n 1, 1) := by decide +kernel
theorem own_d4_13 : decode prog_102_method_2_code 13 = .ok (.i2l, 1) := by decide +kernel
theorem own_d4_14 : decode prog_102_method_2_code 14 = .ok (.invokevirtual 13, 3) := by decide +kernel
theorem own_d4_17 : decode prog_102_method_2_code 17 = .ok (.pop2, 1) := by decide +kernel
theorem own_d4_18 : decode prog_102_method_2_code 18 = .ok (.iload_n 2, 1) := by decide +kernel
theorem own_d4_19 : decode prog_102_method_2_code 19 = .ok (.iconst 1, 1) := by decide +kernel
theorem own_d4_20 : decode prog_102_method_2_code 20 = .ok (.if_icmp .lt 12, 3) := by decide +kernel
theorem own_d4_23 : decode prog_102_method_2_code 23 = .ok (.iload_n 2, 1) := by decide +kernel
theorem own_d4_24 : decode prog_102_method_2_code 24 = .ok (.iload_n 0, 1) := by decide +kernel
theorem own_d4_25 : decode prog_102_method_2_code 25 = .ok (.iload_n 1, 1) := by decide +kernel
theorem own_d4_26 : decode prog_102_method_2_code 26 = .ok (.invokestatic 20, 3) := by decide +kernel
theorem own_d4_29 : decode prog_102_method_2_code 29 = .ok (.if_icmp .le 25, 3) := by decide +kernel
theorem own_d4_54 : decode prog_102_method_2_code 54 = .ok (.iload_n 0, 1) := by decide +kernel
theorem own_d4_55 : decode prog_102_method_2_code 55 = .ok (.iload_n 1, 1) := by decide +kernel
theorem own_d4_56 : decode prog_102_method_2_code 56 = .ok (.iload_n 2, 1) := by decide +kernel
theorem own_d4_57 : decode prog_102_method_2_code 57 = .ok (.invokestatic 47, 3) := by decide +kernel
theorem own_d4_60 : decode prog_102_method_2_code 60 = .ok (.lreturn, 1) := by decide +kernel
theorem own_ef_4 (m : MethodId) (x0 : Int32) (x1 : Int32) (x2 : Int32) : entryFrame m #[(.int x0), (.int x1), (.int x2)] 3 = mkF m 0 #[.val (.int x0), .val (.int x1), .val (.int x2)] [] := by first | (simp [entryFrame, mkF, argsToLocals, Value.category]; done) | rfl
def own_Q_of (Z : State) (p0 : Int32) (p1 : Int32) (p2 : Int32) (wY : Addr) (rY : Addr) (wM : Addr) (rM : Addr) (h0 : Heap) (n0 : Nat) (v : Option Value) (h : Heap) (L : List Loc) : Prop := v = some (.long (own_pack p0 p1 p2)) ∧ Fr n0 L ∧ h = h0
set_option maxRecDepth 65536 in
set_option maxHeartbeats 40000000 in
theorem own_rm_of (l : Launch) (Z : State) (aw : Array Value) (hw : ∀ d ∈ tables_1, d.before aw Z = true) (ws : List Jvm.Cond) (p0 : Int32) (p1 : Int32) (p2 : Int32) (wY : Addr) (rY : Addr) (wM : Addr) (rM : Addr) (h0 : Heap) (n0 : Nat) (Z0 : n0 ≤ h0.size) (S_Y : Sta Z h0 "java/time/temporal/ChronoField" "YEAR" "Ljava/time/temporal/ChronoField;" (.ref wY)) (Ew_Y : Exa Z h0 wY "java/time/temporal/ChronoField") (Fr_Y : Fld Z h0 wY "java/time/temporal/ChronoField" "range" "Ljava/time/temporal/ValueRange;" (.ref rY)) (Er_Y : Exa Z h0 rY "java/time/temporal/ValueRange") (Fm_Y : Fld Z h0 rY "java/time/temporal/ValueRange" "minSmallest" "J" (.long (-999999999 : Int64))) (Fx_Y : Fld Z h0 rY "java/time/temporal/ValueRange" "maxLargest" "J" (.long (999999999 : Int64))) (S_M : Sta Z h0 "java/time/temporal/ChronoField" "MONTH_OF_YEAR" "Ljava/time/temporal/ChronoField;" (.ref wM)) (Ew_M : Exa Z h0 wM "java/time/temporal/ChronoField") (Fr_M : Fld Z h0 wM "java/time/temporal/ChronoField" "range" "Ljava/time/temporal/ValueRange;" (.ref rM)) (Er_M : Exa Z h0 rM "java/time/temporal/ValueRange") (Fm_M : Fld Z h0 rM "java/time/temporal/ValueRange" "minSmallest" "J" (.long (1 : Int64))) (Fx_M : Fld Z h0 rM "java/time/temporal/ValueRange" "maxLargest" "J" (.long (12 : Int64))) (y0 : 0 ≤ p0.toInt) (y1 : p0.toInt ≤ 9999) (m0 : 1 ≤ p1.toInt) (m1 : p1.toInt ≤ 12) (d0 : 1 ≤ p2.toInt) (d1 : p2.toInt ≤ 28) :
    MetFree l (⟨"com/example/covenantry/covenantry/model/PackedDates", "of", "(III)J"⟩ : MethodName) (head1 (Jvm.Cond.code (⟨"com/example/covenantry/covenantry/model/PackedDates", "of", "(III)J"⟩ : MethodName) prog_102_method_2_code 3 (some .long) :: ws) ({ frames := 4, cells := 0, slots := 0, locals := 57 } : Room)) (fun a U => a = #[(.int p0), (.int p1), (.int p2)] ∧ Z.Warmed39 U.vm ∧ U.heap = h0) (fun _ _ _ _ _ => True) (fun _ U o U' => ∃ v L, o = .returned v ∧ own_Q_of Z p0 p1 p2 wY rY wM rM h0 n0 v U'.heap L ∧ FrameEnd U o U' L ({ frames := 4, cells := 0, slots := 0, locals := 57 } : Room).cells ({ frames := 4, cells := 0, slots := 0, locals := 57 } : Room).slots) := by
  refine MetFree.of_bodySF (plainFor_of_name own_pn0) hisR ?_
  intro p e s m args below meth c s₁ Bd hml0 hP hK
  obtain ⟨rfl, hZ, hh⟩ := hP
  have hx := Bd.exec
  have hby := Bd.bytes
  have hlk : meth.locks = false := BodyLoose.notSynchronized Bd
  have hml : c.maxLocals = 3 := hml0
  have hown : s.vm.findClass "com/example/covenantry/covenantry/model/PackedDates" = some m.cls := findClass_of_methodNamed Bd.named
  have hnm := (name_of_methodNamed Bd.named Bd.method).1
  have X0 : Stand p l e ({ frames := 4, cells := 0, slots := 0, locals := 57 } : Room) s m #[(.int p0), (.int p1), (.int p2)] below meth c s₁ [] 0 0 := Stand.of_body Bd
  have e0 : s₁.heap = h0 := by rw [← hh, Bd.state]; rfl
  have N0 := Fr.nil n0
  have K0 : Keep h0 h0 [] := Keep.refl _ _
  have pre0 : ∀ t, Steps p.tables e below (s₁.setTop (mkF m 0 #[.val (.int p0), .val (.int p1), .val (.int p2)] [])) t → Steps p.tables e below (s₁.setTop (entryFrame m #[(.int p0), (.int p1), (.int p2)] 3)) t := fun t k => castTop (own_ef_4 m p0 p1 p2) k
  show own_Ends p.tables e below (own_Q s (own_Q_of Z p0 p1 p2 wY rY wM rM h0 n0) ({ frames := 4, cells := 0, slots := 0, locals := 57 } : Room).cells ({ frames := 4, cells := 0, slots := 0, locals := 57 } : Room).slots) (s₁.setTop (entryFrame m #[(.int p0), (.int p1), (.int p2)] 3))
  refine own_step pre0 ?_
  show own_Ends p.tables e below _ (s₁.setTop (mkF m 0 #[.val (.int p0), .val (.int p1), .val (.int p2)] []))
  obtain ⟨T1, X1, e1, st1⟩ := getS2 X0 hx hZ hown (host := "") (Or.inl (hw _ (List.mem_of_getElem? (i := 22) rfl))) Via.refl e0 S_Y (g := (mkF m 0 #[.val (.int p0), .val (.int p1), .val (.int p2)] [])) rfl (hb hby own_d4_0)
  refine own_step st1 ?_
  show own_Ends p.tables e below _ (T1.setTop (mkF m 3 #[.val (.int p0), .val (.int p1), .val (.int p2)] [(.ref wY)]))
  refine own_step (fun _ k => XS.iloadN X1.here hx rfl (hb hby own_d4_3) rfl k) ?_
  show own_Ends p.tables e below _ (T1.setTop (mkF m 4 #[.val (.int p0), .val (.int p1), .val (.int p2)] [(.int p0), (.ref wY)]))
  refine own_step (fun _ k => XS.i2l X1.here hx rfl (hb hby own_d4_4) rfl k) ?_
  show own_Ends p.tables e below _ (T1.setTop (mkF m 5 #[.val (.int p0), .val (.int p1), .val (.int p2)] [(.long (p0.toInt64)), (.ref wY)]))
  obtain ⟨cq2, kq2, q2a, q2b, q2c⟩ := isOf hZ e1 Ew_Y
  obtain ⟨_, _, ⟨T2, L2, k2, n2⟩, -, X2, ⟨Lc2, hQ2, l2, y2, z2⟩, st2⟩ := X1.virtualBack hx (y := (⟨"java/time/temporal/ChronoField", "checkValidValue", "(J)J"⟩ : MethodName)) (z := (⟨"java/time/temporal/ChronoField", "checkValidValue", "(J)J"⟩ : MethodName)) hown (mvT hZ (hw _ (List.mem_of_getElem? (i := 24) rfl))) (mvT hZ (hw _ (List.mem_of_getElem? (i := 25) rfl))) (notFace_of_selects (args := #[]) (mvT hZ (hw _ (List.mem_of_getElem? (i := 27) rfl)))) (mvT hZ (hw _ (List.mem_of_getElem? (i := 27) rfl))) (mvT hZ (hw _ (List.mem_of_getElem? (i := 26) rfl))) (by decide) (backOf (W := 0) (own_rm_ccv l Z aw hw [] wY (p0.toInt64) rY _ _ h0 n0 Z0 Ew_Y Fr_Y Er_Y Fm_Y Fx_Y (own_geL (by rw [Int32.toInt_toInt64]; show (-999999999 : Int) ≤ _; omega)) (own_geL (by rw [Int32.toInt_toInt64]; show _ ≤ (999999999 : Int); omega))) hZ (hw _ (List.mem_of_getElem? (i := 28) rfl)) (hw _ (List.mem_of_getElem? (i := 23) rfl)) (by decide) (by decide)) q2a q2c (g := (mkF m 5 #[.val (.int p0), .val (.int p1), .val (.int p2)] [(.long (p0.toInt64)), (.ref wY)])) rfl (by rw [hml]; rfl) (Steps.refl _) (argsL := [(.long (p0.toInt64))]) (rest := []) (lenOf own_pd7 rfl) rfl (by show 2 * 0 + _ ≤ _; exact Nat.le_of_eq rfl) (hb hby own_d4_5) (fun _ _ => ⟨rfl, e1, (by decide : 0 + 0 ≤ _), (by decide : 0 + 0 ≤ _)⟩)
  dsimp only [Pt.U, Pt.locs, Pt.cells, Pt.slots] at X2 l2 y2 z2 st2 hQ2
  subst l2 y2 z2
  obtain ⟨rfl, N2q, e2⟩ := hQ2
  have N_2 := Fr.app N0 N2q
  refine own_step (fun _ k => st2.trans k) ?_
  show own_Ends p.tables e below _ (T2.setTop (mkF m 8 #[.val (.int p0), .val (.int p1), .val (.int p2)] [(.long (p0.toInt64))]))
  refine own_step (fun _ k => own_pop2J X2 hx (hb hby own_d4_8) k) ?_
  show own_Ends p.tables e below _ (T2.setTop (mkF m 9 #[.val (.int p0), .val (.int p1), .val (.int p2)] []))
  obtain ⟨T3, X3, e3, st3⟩ := getS2 X2 hx hZ hown (host := "") (Or.inl (hw _ (List.mem_of_getElem? (i := 61) rfl))) Via.refl e2 S_M (g := (mkF m 9 #[.val (.int p0), .val (.int p1), .val (.int p2)] [])) rfl (hb hby own_d4_9)
  refine own_step st3 ?_
  show own_Ends p.tables e below _ (T3.setTop (mkF m 12 #[.val (.int p0), .val (.int p1), .val (.int p2)] [(.ref wM)]))
  refine own_step (fun _ k => XS.iloadN X3.here hx rfl (hb hby own_d4_12) rfl k) ?_
  show own_Ends p.tables e below _ (T3.setTop (mkF m 13 #[.val (.int p0), .val (.int p1), .val (.int p2)] [(.int p1), (.ref wM)]))
  refine own_step (fun _ k => XS.i2l X3.here hx rfl (hb hby own_d4_13) rfl k) ?_
  show own_Ends p.tables e below _ (T3.setTop (mkF m 14 #[.val (.int p0), .val (.int p1), .val (.int p2)] [(.long (p1.toInt64)), (.ref wM)]))
  obtain ⟨cq4, kq4, q4a, q4b, q4c⟩ := isOf hZ e3 Ew_M
  obtain ⟨_, _, ⟨T4, L4, k4, n4⟩, -, X4, ⟨Lc4, hQ4, l4, y4, z4⟩, st4⟩ := X3.virtualBack hx (y := (⟨"java/time/temporal/ChronoField", "checkValidValue", "(J)J"⟩ : MethodName)) (z := (⟨"java/time/temporal/ChronoField", "checkValidValue", "(J)J"⟩ : MethodName)) hown (mvT hZ (hw _ (List.mem_of_getElem? (i := 24) rfl))) (mvT hZ (hw _ (List.mem_of_getElem? (i := 25) rfl))) (notFace_of_selects (args := #[]) (mvT hZ (hw _ (List.mem_of_getElem? (i := 27) rfl)))) (mvT hZ (hw _ (List.mem_of_getElem? (i := 27) rfl))) (mvT hZ (hw _ (List.mem_of_getElem? (i := 26) rfl))) (by decide) (backOf (W := 0) (own_rm_ccv l Z aw hw [] wM (p1.toInt64) rM _ _ h0 n0 Z0 Ew_M Fr_M Er_M Fm_M Fx_M (own_geL (by rw [Int32.toInt_toInt64]; show (1 : Int) ≤ _; omega)) (own_geL (by rw [Int32.toInt_toInt64]; show _ ≤ (12 : Int); omega))) hZ (hw _ (List.mem_of_getElem? (i := 28) rfl)) (hw _ (List.mem_of_getElem? (i := 23) rfl)) (by decide) (by decide)) q4a q4c (g := (mkF m 14 #[.val (.int p0), .val (.int p1), .val (.int p2)] [(.long (p1.toInt64)), (.ref wM)])) rfl (by rw [hml]; rfl) (Steps.refl _) (argsL := [(.long (p1.toInt64))]) (rest := []) (lenOf own_pd7 rfl) rfl (by show 2 * 0 + _ ≤ _; exact Nat.le_of_eq rfl) (hb hby own_d4_14) (fun _ _ => ⟨rfl, e3, (by decide : 0 + 0 ≤ _), (by decide : 0 + 0 ≤ _)⟩)
  dsimp only [Pt.U, Pt.locs, Pt.cells, Pt.slots] at X4 l4 y4 z4 st4 hQ4
  subst l4 y4 z4
  obtain ⟨rfl, N4q, e4⟩ := hQ4
  have N_4 := Fr.app N_2 N4q
  refine own_step (fun _ k => st4.trans k) ?_
  show own_Ends p.tables e below _ (T4.setTop (mkF m 17 #[.val (.int p0), .val (.int p1), .val (.int p2)] [(.long (p1.toInt64))]))
  refine own_step (fun _ k => own_pop2J X4 hx (hb hby own_d4_17) k) ?_
  show own_Ends p.tables e below _ (T4.setTop (mkF m 18 #[.val (.int p0), .val (.int p1), .val (.int p2)] []))
  refine own_step (fun _ k => XS.iloadN X4.here hx rfl (hb hby own_d4_18) rfl k) ?_
  show own_Ends p.tables e below _ (T4.setTop (mkF m 19 #[.val (.int p0), .val (.int p1), .val (.int p2)] [(.int p2)]))
  refine own_step (fun _ k => XS.iconst X4.here hx rfl (hb hby own_d4_19) k) ?_
  show own_Ends p.tables e below _ (T4.setTop (mkF m 20 #[.val (.int p0), .val (.int p1), .val (.int p2)] [(.int (1 : Int32)), (.int p2)]))
  refine own_step (fun _ k => XS.icmpNo X4.here hx rfl (hb hby own_d4_20) rfl (flt (fun q => by rw [Int32.lt_iff_toInt_lt] at q; have e : (1 : Int32).toInt = 1 := rfl; omega)).1 k) ?_
  show own_Ends p.tables e below _ (T4.setTop (mkF m 23 #[.val (.int p0), .val (.int p1), .val (.int p2)] []))
  refine own_step (fun _ k => XS.iloadN X4.here hx rfl (hb hby own_d4_23) rfl k) ?_
  show own_Ends p.tables e below _ (T4.setTop (mkF m 24 #[.val (.int p0), .val (.int p1), .val (.int p2)] [(.int p2)]))
  refine own_step (fun _ k => XS.iloadN X4.here hx rfl (hb hby own_d4_24) rfl k) ?_
  show own_Ends p.tables e below _ (T4.setTop (mkF m 25 #[.val (.int p0), .val (.int p1), .val (.int p2)] [(.int p0), (.int p2)]))
  refine own_step (fun _ k => XS.iloadN X4.here hx rfl (hb hby own_d4_25) rfl k) ?_
  show own_Ends p.tables e below _ (T4.setTop (mkF m 26 #[.val (.int p0), .val (.int p1), .val (.int p2)] [(.int p1), (.int p0), (.int p2)]))
  obtain ⟨_, _, ⟨T5, L5, k5, n5⟩, -, X5, ⟨Lc5, hQ5, l5, y5, z5⟩, st5⟩ := Jvm.LawKit.callS X4 hx (y := (⟨"com/example/covenantry/covenantry/model/PackedDates", "lengthOfMonth", "(II)I"⟩ : MethodName)) hown (mvT hZ (hw _ (List.mem_of_getElem? (i := 62) rfl))) (mvT hZ (hw _ (List.mem_of_getElem? (i := 63) rfl))) (mvT hZ (hw _ (List.mem_of_getElem? (i := 20) rfl))) (mvT hZ (hw _ (List.mem_of_getElem? (i := 64) rfl))) (by decide) (backOf (W := 1) (own_rm_len l Z aw hw [] p0 p1 h0 n0 Z0 ) hZ (hw _ (List.mem_of_getElem? (i := 64) rfl)) (hw _ (List.mem_of_getElem? (i := 20) rfl)) (by decide) (by decide)) (g := (mkF m 26 #[.val (.int p0), .val (.int p1), .val (.int p2)] [(.int p1), (.int p0), (.int p2)])) rfl (by rw [hml]; rfl) (argsL := [(.int p0), (.int p1)]) (rest := [(.int p2)]) (lenOf own_pd8 rfl) rfl (by show 2 * 0 + _ ≤ _; exact Nat.le_of_eq rfl) (hb hby own_d4_26) (fun _ _ => ⟨rfl, e4, (by decide : 0 + 0 ≤ _), (by decide : 0 + 0 ≤ _)⟩)
  dsimp only [Pt.U, Pt.locs, Pt.cells, Pt.slots] at X5 l5 y5 z5 st5 hQ5
  subst l5 y5 z5
  obtain ⟨rfl, N5q, e5⟩ := hQ5
  have N_5 := Fr.app N_4 N5q
  refine own_step st5 ?_
  show own_Ends p.tables e below _ (T5.setTop (mkF m 29 #[.val (.int p0), .val (.int p1), .val (.int p2)] [(.int (own_len p0 p1)), (.int p2)]))
  refine own_step (fun _ k => XS.icmpYes X5.here hx rfl (pc0 := 29) (pc' := 54) rfl (hb hby own_d4_29) rfl (flt (fun q => by rw [Int32.lt_iff_toInt_lt] at q; have := own_len_ge p0 p1; omega)).2.2.2 (by decide) (by decide) k) ?_
  show own_Ends p.tables e below _ (T5.setTop (mkF m 54 #[.val (.int p0), .val (.int p1), .val (.int p2)] []))
  refine own_step (fun _ k => XS.iloadN X5.here hx rfl (hb hby own_d4_54) rfl k) ?_
  show own_Ends p.tables e below _ (T5.setTop (mkF m 55 #[.val (.int p0), .val (.int p1), .val (.int p2)] [(.int p0)]))
  refine own_step (fun _ k => XS.iloadN X5.here hx rfl (hb hby own_d4_55) rfl k) ?_
  show own_Ends p.tables e below _ (T5.setTop (mkF m 56 #[.val (.int p0), .val (.int p1), .val (.int p2)] [(.int p1), (.int p0)]))
  refine own_step (fun _ k => XS.iloadN X5.here hx rfl (hb hby own_d4_56) rfl k) ?_
  show own_Ends p.tables e below _ (T5.setTop (mkF m 57 #[.val (.int p0), .val (.int p1), .val (.int p2)] [(.int p2), (.int p1), (.int p0)]))
  obtain ⟨_, _, ⟨T6, L6, k6, n6⟩, -, X6, ⟨Lc6, hQ6, l6, y6, z6⟩, st6⟩ := Jvm.LawKit.callS X5 hx (y := (⟨"com/example/covenantry/covenantry/model/PackedDates", "pack", "(III)J"⟩ : MethodName)) hown (mvT hZ (hw _ (List.mem_of_getElem? (i := 65) rfl))) (mvT hZ (hw _ (List.mem_of_getElem? (i := 66) rfl))) (mvT hZ (hw _ (List.mem_of_getElem? (i := 20) rfl))) (mvT hZ (hw _ (List.mem_of_getElem? (i := 67) rfl))) (by decide) (backOf (W := 0) (own_rm_pack l Z aw hw [] p0 p1 p2 h0 n0 Z0 ) hZ (hw _ (List.mem_of_getElem? (i := 67) rfl)) (hw _ (List.mem_of_getElem? (i := 20) rfl)) (by decide) (by decide)) (g := (mkF m 57 #[.val (.int p0), .val (.int p1), .val (.int p2)] [(.int p2), (.int p1), (.int p0)])) rfl (by rw [hml]; rfl) (argsL := [(.int p0), (.int p1), (.int p2)]) (rest := []) (lenOf own_pd9 rfl) rfl (by show 2 * 0 + _ ≤ _; exact Nat.le_of_eq rfl) (hb hby own_d4_57) (fun _ _ => ⟨rfl, e5, (by decide : 0 + 0 ≤ _), (by decide : 0 + 0 ≤ _)⟩)
  dsimp only [Pt.U, Pt.locs, Pt.cells, Pt.slots] at X6 l6 y6 z6 st6 hQ6
  subst l6 y6 z6
  obtain ⟨rfl, N6q, e6⟩ := hQ6
  have N_6 := Fr.app N_5 N6q
  refine own_step st6 ?_
  show own_Ends p.tables e below _ (T6.setTop (mkF m 60 #[.val (.int p0), .val (.int p1), .val (.int p2)] [(.long (own_pack p0 p1 p2))]))
  exact own_retJ X6 hx hlk (by decide) (by decide) Bd.returns (hb hby own_d4_60) (by rw [e6]; exact ⟨rfl, N_6, rfl⟩)
theorem own_pd10 : parseMethodDescriptor "(J)I" = some ⟨[.long], some .int⟩ := by decide +kernel
theorem own_pd11 : parseMethodDescriptor "(JI)J" = some ⟨[.long, .int], some .long⟩ := by decide +kernel
theorem own_pd12 : parseMethodDescriptor "(JI)I" = some ⟨[.long, .int], some .int⟩ := by decide +kernel
theorem own_d13_0 : decode prog_102_method_9_code 0 = .ok (.ldc2_w 76, 3) := by decide +kernel
theorem own_d13_3 : decode prog_102_method_9_code 3 = .ok (.lload_n 0, 1) := by decide +kernel
theorem own_d13_4 : decode prog_102_method_9_code 4 = .ok (.invokestatic 63, 3) := by decide +kernel
theorem own_d13_7 : decode prog_102_method_9_code 7 = .ok (.i2l, 1) := by decide +kernel
theorem own_d13_8 : decode prog_102_method_9_code 8 = .ok (.lmul, 1) := by decide +kernel
theorem own_d13_9 : decode prog_102_method_9_code 9 = .ok (.lload_n 0, 1) := by decide +kernel
theorem own_d13_10 : decode prog_102_method_9_code 10 = .ok (.invokestatic 67, 3) := by decide +kernel
theorem own_d13_13 : decode prog_102_method_9_code 13 = .ok (.i2l, 1) := by decide +kernel
theorem own_d13_14 : decode prog_102_method_9_code 14 = .ok (.ladd, 1) := by decide +kernel
theorem own_d13_15 : decode prog_102_method_9_code 15 = .ok (.lconst 1, 1) := by decide +kernel
theorem own_d13_16 : decode prog_102_method_9_code 16 = .ok (.lsub, 1) := by decide +kernel
theorem own_d13_17 : decode prog_102_method_9_code 17 = .ok (.lload_n 2, 1) := by decide +kernel
theorem own_d13_18 : decode prog_102_method_9_code 18 = .ok (.ladd, 1) := by decide +kernel
theorem own_d13_19 : decode prog_102_method_9_code 19 = .ok (.lstore 4, 2) := by decide +kernel
theorem own_d13_21 : decode prog_102_method_9_code 21 = .ok (.getstatic 7, 3) := by decide +kernel
theorem own_d13_24 : decode prog_102_method_9_code 24 = .ok (.lload 4, 2) := by decide +kernel
theorem own_d13_26 : decode prog_102_method_9_code 26 = .ok (.bipush 12, 2) := by decide +kernel
theorem own_d13_28 : decode prog_102_method_9_code 28 = .ok (.invokestatic 78, 3) := by decide +kernel
theorem own_d13_31 : decode prog_102_method_9_code 31 = .ok (.invokevirtual 84, 3) := by decide +kernel
theorem own_d13_34 : decode prog_102_method_9_code 34 = .ok (.istore 6, 2) := by decide +kernel
theorem own_d13_36 : decode prog_102_method_9_code 36 = .ok (.lload 4, 2) := by decide +kernel
theorem own_d13_38 : decode prog_102_method_9_code 38 = .ok (.bipush 12, 2) := by decide +kernel
theorem own_d13_40 : decode prog_102_method_9_code 40 = .ok (.invokestatic 87, 3) := by decide +kernel
theorem own_d13_43 : decode prog_102_method_9_code 43 = .ok (.iconst 1, 1) := by decide +kernel
theorem own_d13_44 : decode prog_102_method_9_code 44 = .ok (.iadd, 1) := by decide +kernel
theorem own_d13_45 : decode prog_102_method_9_code 45 = .ok (.istore 7, 2) := by decide +kernel
theorem own_d13_47 : decode prog_102_method_9_code 47 = .ok (.lload_n 0, 1) := by decide +kernel
theorem own_d13_48 : decode prog_102_method_9_code 48 = .ok (.invokestatic 70, 3) := by decide +kernel
theorem own_d13_51 : decode prog_102_method_9_code 51 = .ok (.iload 6, 2) := by decide +kernel
theorem own_d13_53 : decode prog_102_method_9_code 53 = .ok (.iload 7, 2) := by decide +kernel
theorem own_d13_55 : decode prog_102_method_9_code 55 = .ok (.invokestatic 20, 3) := by decide +kernel
theorem own_d13_58 : decode prog_102_method_9_code 58 = .ok (.invokestatic 91, 3) := by decide +kernel
theorem own_d13_61 : decode prog_102_method_9_code 61 = .ok (.istore 8, 2) := by decide +kernel
theorem own_d13_63 : decode prog_102_method_9_code 63 = .ok (.iload 6, 2) := by decide +kernel
theorem own_d13_65 : decode prog_102_method_9_code 65 = .ok (.iload 7, 2) := by decide +kernel
theorem own_d13_67 : decode prog_102_method_9_code 67 = .ok (.iload 8, 2) := by decide +kernel
theorem own_d13_69 : decode prog_102_method_9_code 69 = .ok (.invokestatic 47, 3) := by decide +kernel
theorem own_d13_72 : decode prog_102_method_9_code 72 = .ok (.lreturn, 1) := by decide +kernel
theorem own_ef_13 (m : MethodId) (x0 : Int64) (x1 : Int64) : entryFrame m #[(.long x0), (.long x1)] 9 = mkF m 0 #[.val (.long x0), .second, .val (.long x1), .second, .unset, .unset, .unset, .unset, .unset] [] := by first | (simp [entryFrame, mkF, argsToLocals, Value.category]; done) | rfl
def own_Q_pm (Z : State) (q0 : Int64) (q1 : Int64) (wY : Addr) (rY : Addr) (h0 : Heap) (n0 : Nat) (v : Option Value) (h : Heap) (L : List Loc) : Prop := v = some (.long (own_pm q0 q1)) ∧ Fr n0 L ∧ h = h0
set_option maxRecDepth 65536 in
set_option maxHeartbeats 40000000 in
theorem own_rm_pm (l : Launch) (Z : State) (aw : Array Value) (hw : ∀ d ∈ tables_1, d.before aw Z = true) (ws : List Jvm.Cond) (q0 : Int64) (q1 : Int64) (wY : Addr) (rY : Addr) (h0 : Heap) (n0 : Nat) (Z0 : n0 ≤ h0.size) (S_Y : Sta Z h0 "java/time/temporal/ChronoField" "YEAR" "Ljava/time/temporal/ChronoField;" (.ref wY)) (Ew_Y : Exa Z h0 wY "java/time/temporal/ChronoField") (Fr_Y : Fld Z h0 wY "java/time/temporal/ChronoField" "range" "Ljava/time/temporal/ValueRange;" (.ref rY)) (Er_Y : Exa Z h0 rY "java/time/temporal/ValueRange") (Fm_Y : Fld Z h0 rY "java/time/temporal/ValueRange" "minSmallest" "J" (.long (-999999999 : Int64))) (Fx_Y : Fld Z h0 rY "java/time/temporal/ValueRange" "maxLargest" "J" (.long (999999999 : Int64))) (b0 : 0 ≤ (own_mc q0 q1).toInt) (b1 : (own_mc q0 q1).toInt ≤ 100000) :
    MetFree l (⟨"com/example/covenantry/covenantry/model/PackedDates", "plusMonths", "(JJ)J"⟩ : MethodName) (head1 (Jvm.Cond.code (⟨"com/example/covenantry/covenantry/model/PackedDates", "plusMonths", "(JJ)J"⟩ : MethodName) prog_102_method_9_code 9 (some .long) :: ws) ({ frames := 5, cells := 0, slots := 0, locals := 71 } : Room)) (fun a U => a = #[(.long q0), (.long q1)] ∧ Z.Warmed39 U.vm ∧ U.heap = h0) (fun _ _ _ _ _ => True) (fun _ U o U' => ∃ v L, o = .returned v ∧ own_Q_pm Z q0 q1 wY rY h0 n0 v U'.heap L ∧ FrameEnd U o U' L ({ frames := 5, cells := 0, slots := 0, locals := 71 } : Room).cells ({ frames := 5, cells := 0, slots := 0, locals := 71 } : Room).slots) := by
  refine MetFree.of_bodySF (plainFor_of_name own_pn0) hisR ?_
  intro p e s m args below meth c s₁ Bd hml0 hP hK
  obtain ⟨rfl, hZ, hh⟩ := hP
  have hx := Bd.exec
  have hby := Bd.bytes
  have hlk : meth.locks = false := BodyLoose.notSynchronized Bd
  have hml : c.maxLocals = 9 := hml0
  have hown : s.vm.findClass "com/example/covenantry/covenantry/model/PackedDates" = some m.cls := findClass_of_methodNamed Bd.named
  have hnm := (name_of_methodNamed Bd.named Bd.method).1
  have X0 : Stand p l e ({ frames := 5, cells := 0, slots := 0, locals := 71 } : Room) s m #[(.long q0), (.long q1)] below meth c s₁ [] 0 0 := Stand.of_body Bd
  have e0 : s₁.heap = h0 := by rw [← hh, Bd.state]; rfl
  have N0 := Fr.nil n0
  have K0 : Keep h0 h0 [] := Keep.refl _ _
  have pre0 : ∀ t, Steps p.tables e below (s₁.setTop (mkF m 0 #[.val (.long q0), .second, .val (.long q1), .second, .unset, .unset, .unset, .unset, .unset] [])) t → Steps p.tables e below (s₁.setTop (entryFrame m #[(.long q0), (.long q1)] 9)) t := fun t k => castTop (own_ef_13 m q0 q1) k
  show own_Ends p.tables e below (own_Q s (own_Q_pm Z q0 q1 wY rY h0 n0) ({ frames := 5, cells := 0, slots := 0, locals := 71 } : Room).cells ({ frames := 5, cells := 0, slots := 0, locals := 71 } : Room).slots) (s₁.setTop (entryFrame m #[(.long q0), (.long q1)] 9))
  refine own_step pre0 ?_
  show own_Ends p.tables e below _ (s₁.setTop (mkF m 0 #[.val (.long q0), .second, .val (.long q1), .second, .unset, .unset, .unset, .unset, .unset] []))
  refine own_step (fun _ k => X0.ldc2Long hx hown (mvT hZ (hw _ (List.mem_of_getElem? (i := 71) rfl))) (g := (mkF m 0 #[.val (.long q0), .second, .val (.long q1), .second, .unset, .unset, .unset, .unset, .unset] [])) rfl (hb hby own_d13_0) _ k) ?_
  show own_Ends p.tables e below _ (s₁.setTop (mkF m 3 #[.val (.long q0), .second, .val (.long q1), .second, .unset, .unset, .unset, .unset, .unset] [(.long (12 : Int64))]))
  refine own_step (fun _ k => XS.lloadN X0.here hx rfl (hb hby own_d13_3) rfl k) ?_
  show own_Ends p.tables e below _ (s₁.setTop (mkF m 4 #[.val (.long q0), .second, .val (.long q1), .second, .unset, .unset, .unset, .unset, .unset] [(.long q0), (.long (12 : Int64))]))
  obtain ⟨_, _, ⟨T1, L1, k1, n1⟩, -, X1, ⟨Lc1, hQ1, l1, y1, z1⟩, st1⟩ := Jvm.LawKit.callS X0 hx (y := (⟨"com/example/covenantry/covenantry/model/PackedDates", "year", "(J)I"⟩ : MethodName)) hown (mvT hZ (hw _ (List.mem_of_getElem? (i := 72) rfl))) (mvT hZ (hw _ (List.mem_of_getElem? (i := 73) rfl))) (mvT hZ (hw _ (List.mem_of_getElem? (i := 20) rfl))) (mvT hZ (hw _ (List.mem_of_getElem? (i := 74) rfl))) (by decide) (backOf (W := 2) (own_rm_year l Z aw hw [] q0 h0 n0 Z0 ) hZ (hw _ (List.mem_of_getElem? (i := 74) rfl)) (hw _ (List.mem_of_getElem? (i := 20) rfl)) (by decide) (by decide)) (g := (mkF m 4 #[.val (.long q0), .second, .val (.long q1), .second, .unset, .unset, .unset, .unset, .unset] [(.long q0), (.long (12 : Int64))])) rfl (by rw [hml]; rfl) (argsL := [(.long q0)]) (rest := [(.long (12 : Int64))]) (lenOf own_pd10 rfl) rfl (by show 2 * 0 + _ ≤ _; exact Nat.le_of_eq rfl) (hb hby own_d13_4) (fun _ _ => ⟨rfl, e0, (by decide : 0 + 0 ≤ _), (by decide : 0 + 0 ≤ _)⟩)
  dsimp only [Pt.U, Pt.locs, Pt.cells, Pt.slots] at X1 l1 y1 z1 st1 hQ1
  subst l1 y1 z1
  obtain ⟨rfl, N1q, e1⟩ := hQ1
  have N_1 := Fr.app N0 N1q
  refine own_step st1 ?_
  show own_Ends p.tables e below _ (T1.setTop (mkF m 7 #[.val (.long q0), .second, .val (.long q1), .second, .unset, .unset, .unset, .unset, .unset] [(.int (own_year q0)), (.long (12 : Int64))]))
  refine own_step (fun _ k => XS.i2l X1.here hx rfl (hb hby own_d13_7) rfl k) ?_
  show own_Ends p.tables e below _ (T1.setTop (mkF m 8 #[.val (.long q0), .second, .val (.long q1), .second, .unset, .unset, .unset, .unset, .unset] [(.long ((own_year q0).toInt64)), (.long (12 : Int64))]))
  refine own_step (fun _ k => XS.lmul X1.here hx rfl (hb hby own_d13_8) rfl k) ?_
  show own_Ends p.tables e below _ (T1.setTop (mkF m 9 #[.val (.long q0), .second, .val (.long q1), .second, .unset, .unset, .unset, .unset, .unset] [(.long ((12 : Int64) * ((own_year q0).toInt64)))]))
  refine own_step (fun _ k => XS.lloadN X1.here hx rfl (hb hby own_d13_9) rfl k) ?_
  show own_Ends p.tables e below _ (T1.setTop (mkF m 10 #[.val (.long q0), .second, .val (.long q1), .second, .unset, .unset, .unset, .unset, .unset] [(.long q0), (.long ((12 : Int64) * ((own_year q0).toInt64)))]))
  obtain ⟨_, _, ⟨T2, L2, k2, n2⟩, -, X2, ⟨Lc2, hQ2, l2, y2, z2⟩, st2⟩ := Jvm.LawKit.callS X1 hx (y := (⟨"com/example/covenantry/covenantry/model/PackedDates", "month", "(J)I"⟩ : MethodName)) hown (mvT hZ (hw _ (List.mem_of_getElem? (i := 75) rfl))) (mvT hZ (hw _ (List.mem_of_getElem? (i := 76) rfl))) (mvT hZ (hw _ (List.mem_of_getElem? (i := 20) rfl))) (mvT hZ (hw _ (List.mem_of_getElem? (i := 77) rfl))) (by decide) (backOf (W := 2) (own_rm_month l Z aw hw [] q0 h0 n0 Z0 ) hZ (hw _ (List.mem_of_getElem? (i := 77) rfl)) (hw _ (List.mem_of_getElem? (i := 20) rfl)) (by decide) (by decide)) (g := (mkF m 10 #[.val (.long q0), .second, .val (.long q1), .second, .unset, .unset, .unset, .unset, .unset] [(.long q0), (.long ((12 : Int64) * ((own_year q0).toInt64)))])) rfl (by rw [hml]; rfl) (argsL := [(.long q0)]) (rest := [(.long ((12 : Int64) * ((own_year q0).toInt64)))]) (lenOf own_pd10 rfl) rfl (by show 2 * 0 + _ ≤ _; exact Nat.le_of_eq rfl) (hb hby own_d13_10) (fun _ _ => ⟨rfl, e1, (by decide : 0 + 0 ≤ _), (by decide : 0 + 0 ≤ _)⟩)
  dsimp only [Pt.U, Pt.locs, Pt.cells, Pt.slots] at X2 l2 y2 z2 st2 hQ2
  subst l2 y2 z2
  obtain ⟨rfl, N2q, e2⟩ := hQ2
  have N_2 := Fr.app N_1 N2q
  refine own_step st2 ?_
  show own_Ends p.tables e below _ (T2.setTop (mkF m 13 #[.val (.long q0), .second, .val (.long q1), .second, .unset, .unset, .unset, .unset, .unset] [(.int (own_month q0)), (.long ((12 : Int64) * ((own_year q0).toInt64)))]))
  refine own_step (fun _ k => XS.i2l X2.here hx rfl (hb hby own_d13_13) rfl k) ?_
  show own_Ends p.tables e below _ (T2.setTop (mkF m 14 #[.val (.long q0), .second, .val (.long q1), .second, .unset, .unset, .unset, .unset, .unset] [(.long ((own_month q0).toInt64)), (.long ((12 : Int64) * ((own_year q0).toInt64)))]))
  refine own_step (fun _ k => XS.ladd X2.here hx rfl (hb hby own_d13_14) rfl k) ?_
  show own_Ends p.tables e below _ (T2.setTop (mkF m 15 #[.val (.long q0), .second, .val (.long q1), .second, .unset, .unset, .unset, .unset, .unset] [(.long (((12 : Int64) * ((own_year q0).toInt64)) + ((own_month q0).toInt64)))]))
  refine own_step (fun _ k => XS.lconst X2.here hx rfl (hb hby own_d13_15) k) ?_
  show own_Ends p.tables e below _ (T2.setTop (mkF m 16 #[.val (.long q0), .second, .val (.long q1), .second, .unset, .unset, .unset, .unset, .unset] [(.long (1 : Int64)), (.long (((12 : Int64) * ((own_year q0).toInt64)) + ((own_month q0).toInt64)))]))
  refine own_step (fun _ k => XS.lsub X2.here hx rfl (hb hby own_d13_16) rfl k) ?_
  show own_Ends p.tables e below _ (T2.setTop (mkF m 17 #[.val (.long q0), .second, .val (.long q1), .second, .unset, .unset, .unset, .unset, .unset] [(.long ((((12 : Int64) * ((own_year q0).toInt64)) + ((own_month q0).toInt64)) - (1 : Int64)))]))
  refine own_step (fun _ k => XS.lloadN X2.here hx rfl (hb hby own_d13_17) rfl k) ?_
  show own_Ends p.tables e below _ (T2.setTop (mkF m 18 #[.val (.long q0), .second, .val (.long q1), .second, .unset, .unset, .unset, .unset, .unset] [(.long q1), (.long ((((12 : Int64) * ((own_year q0).toInt64)) + ((own_month q0).toInt64)) - (1 : Int64)))]))
  refine own_step (fun _ k => XS.ladd X2.here hx rfl (hb hby own_d13_18) rfl k) ?_
  show own_Ends p.tables e below _ (T2.setTop (mkF m 19 #[.val (.long q0), .second, .val (.long q1), .second, .unset, .unset, .unset, .unset, .unset] [(.long (((((12 : Int64) * ((own_year q0).toInt64)) + ((own_month q0).toInt64)) - (1 : Int64)) + q1))]))
  obtain ⟨mc, hmc⟩ : ∃ z, z = (((((12 : Int64) * ((own_year q0).toInt64)) + ((own_month q0).toInt64)) - (1 : Int64)) + q1) := ⟨_, rfl⟩
  rw [← hmc]
  show own_Ends p.tables e below _ (T2.setTop (mkF m 19 #[.val (.long q0), .second, .val (.long q1), .second, .unset, .unset, .unset, .unset, .unset] [(.long mc)]))
  have hmc' : mc = own_mc q0 q1 := hmc
  refine own_step (fun _ k => XS.lstore X2.here hx rfl (hb hby own_d13_19) rfl (l' := #[.val (.long q0), .second, .val (.long q1), .second, .val (.long mc), .second, .unset, .unset, .unset]) rfl k) ?_
  show own_Ends p.tables e below _ (T2.setTop (mkF m 21 #[.val (.long q0), .second, .val (.long q1), .second, .val (.long mc), .second, .unset, .unset, .unset] []))
  obtain ⟨T3, X3, e3, st3⟩ := getS2 X2 hx hZ hown (host := "") (Or.inl (hw _ (List.mem_of_getElem? (i := 22) rfl))) Via.refl e2 S_Y (g := (mkF m 21 #[.val (.long q0), .second, .val (.long q1), .second, .val (.long mc), .second, .unset, .unset, .unset] [])) rfl (hb hby own_d13_21)
  refine own_step st3 ?_
  show own_Ends p.tables e below _ (T3.setTop (mkF m 24 #[.val (.long q0), .second, .val (.long q1), .second, .val (.long mc), .second, .unset, .unset, .unset] [(.ref wY)]))
  refine own_step (fun _ k => XS.lload X3.here hx rfl (hb hby own_d13_24) rfl k) ?_
  show own_Ends p.tables e below _ (T3.setTop (mkF m 26 #[.val (.long q0), .second, .val (.long q1), .second, .val (.long mc), .second, .unset, .unset, .unset] [(.long mc), (.ref wY)]))
  refine own_step (fun _ k => XS.bipush X3.here hx rfl (hb hby own_d13_26) k) ?_
  show own_Ends p.tables e below _ (T3.setTop (mkF m 28 #[.val (.long q0), .second, .val (.long q1), .second, .val (.long mc), .second, .unset, .unset, .unset] [(.int (12 : Int32)), (.long mc), (.ref wY)]))
  obtain ⟨_, _, ⟨T4, L4, k4, n4⟩, -, X4, ⟨Lc4, hQ4, l4, y4, z4⟩, st4⟩ := Jvm.LawKit.callS X3 hx (y := (⟨"java/lang/Math", "floorDiv", "(JI)J"⟩ : MethodName)) hown (mvT hZ (hw _ (List.mem_of_getElem? (i := 78) rfl))) (mvT hZ (hw _ (List.mem_of_getElem? (i := 79) rfl))) (mvT hZ (hw _ (List.mem_of_getElem? (i := 80) rfl))) (mvT hZ (hw _ (List.mem_of_getElem? (i := 81) rfl))) (by decide) (backOf (W := 1) (own_rm_fd l Z aw hw [] mc h0 n0 Z0 (by rw [hmc]; exact b0)) hZ (hw _ (List.mem_of_getElem? (i := 81) rfl)) (hw _ (List.mem_of_getElem? (i := 80) rfl)) (by decide) (by decide)) (g := (mkF m 28 #[.val (.long q0), .second, .val (.long q1), .second, .val (.long mc), .second, .unset, .unset, .unset] [(.int (12 : Int32)), (.long mc), (.ref wY)])) rfl (by rw [hml]; rfl) (argsL := [(.long mc), (.int (12 : Int32))]) (rest := [(.ref wY)]) (lenOf own_pd11 rfl) rfl (by show 2 * 0 + _ ≤ _; exact Nat.le_of_eq rfl) (hb hby own_d13_28) (fun _ _ => ⟨rfl, e3, (by decide : 0 + 0 ≤ _), (by decide : 0 + 0 ≤ _)⟩)
  dsimp only [Pt.U, Pt.locs, Pt.cells, Pt.slots] at X4 l4 y4 z4 st4 hQ4
  subst l4 y4 z4
  obtain ⟨rfl, N4q, e4⟩ := hQ4
  have N_4 := Fr.app N_2 N4q
  refine own_step st4 ?_
  show own_Ends p.tables e below _ (T4.setTop (mkF m 31 #[.val (.long q0), .second, .val (.long q1), .second, .val (.long mc), .second, .unset, .unset, .unset] [(.long (mc / (12 : Int64))), (.ref wY)]))
  obtain ⟨cq5, kq5, q5a, q5b, q5c⟩ := isOf hZ e4 Ew_Y
  obtain ⟨_, _, ⟨T5, L5, k5, n5⟩, -, X5, ⟨Lc5, hQ5, l5, y5, z5⟩, st5⟩ := X4.virtualBack hx (y := (⟨"java/time/temporal/ChronoField", "checkValidIntValue", "(J)I"⟩ : MethodName)) (z := (⟨"java/time/temporal/ChronoField", "checkValidIntValue", "(J)I"⟩ : MethodName)) hown (mvT hZ (hw _ (List.mem_of_getElem? (i := 85) rfl))) (mvT hZ (hw _ (List.mem_of_getElem? (i := 86) rfl))) (notFace_of_selects (args := #[]) (mvT hZ (hw _ (List.mem_of_getElem? (i := 88) rfl)))) (mvT hZ (hw _ (List.mem_of_getElem? (i := 88) rfl))) (mvT hZ (hw _ (List.mem_of_getElem? (i := 87) rfl))) (by decide) (backOf (W := 0) (own_rm_ccvi l Z aw hw [] wY (mc / (12 : Int64)) rY _ _ h0 n0 Z0 Ew_Y Fr_Y Er_Y Fm_Y Fx_Y (own_mcr (by rw [hmc]; exact b0) (by rw [hmc]; exact b1)).1 (own_mcr (by rw [hmc]; exact b0) (by rw [hmc]; exact b1)).2 (by decide) (by decide)) hZ (hw _ (List.mem_of_getElem? (i := 89) rfl)) (hw _ (List.mem_of_getElem? (i := 23) rfl)) (by decide) (by decide)) q5a q5c (g := (mkF m 31 #[.val (.long q0), .second, .val (.long q1), .second, .val (.long mc), .second, .unset, .unset, .unset] [(.long (mc / (12 : Int64))), (.ref wY)])) rfl (by rw [hml]; rfl) (Steps.refl _) (argsL := [(.long (mc / (12 : Int64)))]) (rest := []) (lenOf own_pd10 rfl) rfl (by show 2 * 0 + _ ≤ _; exact Nat.le_of_eq rfl) (hb hby own_d13_31) (fun _ _ => ⟨rfl, e4, (by decide : 0 + 0 ≤ _), (by decide : 0 + 0 ≤ _)⟩)
  dsimp only [Pt.U, Pt.locs, Pt.cells, Pt.slots] at X5 l5 y5 z5 st5 hQ5
  subst l5 y5 z5
  obtain ⟨rfl, N5q, e5⟩ := hQ5
  have N_5 := Fr.app N_4 N5q
  refine own_step (fun _ k => st5.trans k) ?_
  show own_Ends p.tables e below _ (T5.setTop (mkF m 34 #[.val (.long q0), .second, .val (.long q1), .second, .val (.long mc), .second, .unset, .unset, .unset] [(.int ((mc / (12 : Int64)).toInt32))]))
  refine own_step (fun _ k => XS.istore X5.here hx rfl (hb hby own_d13_34) rfl (l' := #[.val (.long q0), .second, .val (.long q1), .second, .val (.long mc), .second, .val (.int ((mc / (12 : Int64)).toInt32)), .unset, .unset]) rfl k) ?_
  show own_Ends p.tables e below _ (T5.setTop (mkF m 36 #[.val (.long q0), .second, .val (.long q1), .second, .val (.long mc), .second, .val (.int ((mc / (12 : Int64)).toInt32)), .unset, .unset] []))
  refine own_step (fun _ k => XS.lload X5.here hx rfl (hb hby own_d13_36) rfl k) ?_
  show own_Ends p.tables e below _ (T5.setTop (mkF m 38 #[.val (.long q0), .second, .val (.long q1), .second, .val (.long mc), .second, .val (.int ((mc / (12 : Int64)).toInt32)), .unset, .unset] [(.long mc)]))
  refine own_step (fun _ k => XS.bipush X5.here hx rfl (hb hby own_d13_38) k) ?_
  show own_Ends p.tables e below _ (T5.setTop (mkF m 40 #[.val (.long q0), .second, .val (.long q1), .second, .val (.long mc), .second, .val (.int ((mc / (12 : Int64)).toInt32)), .unset, .unset] [(.int (12 : Int32)), (.long mc)]))
  obtain ⟨_, _, ⟨T6, L6, k6, n6⟩, -, X6, ⟨Lc6, hQ6, l6, y6, z6⟩, st6⟩ := Jvm.LawKit.callS X5 hx (y := (⟨"java/lang/Math", "floorMod", "(JI)I"⟩ : MethodName)) hown (mvT hZ (hw _ (List.mem_of_getElem? (i := 107) rfl))) (mvT hZ (hw _ (List.mem_of_getElem? (i := 108) rfl))) (mvT hZ (hw _ (List.mem_of_getElem? (i := 80) rfl))) (mvT hZ (hw _ (List.mem_of_getElem? (i := 109) rfl))) (by decide) (backOf (W := 0) (own_rm_fm l Z aw hw [] mc h0 n0 Z0 (by rw [hmc]; exact b0)) hZ (hw _ (List.mem_of_getElem? (i := 109) rfl)) (hw _ (List.mem_of_getElem? (i := 80) rfl)) (by decide) (by decide)) (g := (mkF m 40 #[.val (.long q0), .second, .val (.long q1), .second, .val (.long mc), .second, .val (.int ((mc / (12 : Int64)).toInt32)), .unset, .unset] [(.int (12 : Int32)), (.long mc)])) rfl (by rw [hml]; rfl) (argsL := [(.long mc), (.int (12 : Int32))]) (rest := []) (lenOf own_pd12 rfl) rfl (by show 2 * 0 + _ ≤ _; exact Nat.le_of_eq rfl) (hb hby own_d13_40) (fun _ _ => ⟨rfl, e5, (by decide : 0 + 0 ≤ _), (by decide : 0 + 0 ≤ _)⟩)
  dsimp only [Pt.U, Pt.locs, Pt.cells, Pt.slots] at X6 l6 y6 z6 st6 hQ6
  subst l6 y6 z6
  obtain ⟨rfl, N6q, e6⟩ := hQ6
  have N_6 := Fr.app N_5 N6q
  refine own_step st6 ?_
  show own_Ends p.tables e below _ (T6.setTop (mkF m 43 #[.val (.long q0), .second, .val (.long q1), .second, .val (.long mc), .second, .val (.int ((mc / (12 : Int64)).toInt32)), .unset, .unset] [(.int ((mc - mc / (12 : Int64) * (12 : Int64)).toInt32))]))
  refine own_step (fun _ k => XS.iconst X6.here hx rfl (hb hby own_d13_43) k) ?_
  show own_Ends p.tables e below _ (T6.setTop (mkF m 44 #[.val (.long q0), .second, .val (.long q1), .second, .val (.long mc), .second, .val (.int ((mc / (12 : Int64)).toInt32)), .unset, .unset] [(.int (1 : Int32)), (.int ((mc - mc / (12 : Int64) * (12 : Int64)).toInt32))]))
  refine own_step (fun _ k => XS.iadd X6.here hx rfl (hb hby own_d13_44) rfl k) ?_
  show own_Ends p.tables e below _ (T6.setTop (mkF m 45 #[.val (.long q0), .second, .val (.long q1), .second, .val (.long mc), .second, .val (.int ((mc / (12 : Int64)).toInt32)), .unset, .unset] [(.int (((mc - mc / (12 : Int64) * (12 : Int64)).toInt32) + (1 : Int32)))]))
  refine own_step (fun _ k => XS.istore X6.here hx rfl (hb hby own_d13_45) rfl (l' := #[.val (.long q0), .second, .val (.long q1), .second, .val (.long mc), .second, .val (.int ((mc / (12 : Int64)).toInt32)), .val (.int (((mc - mc / (12 : Int64) * (12 : Int64)).toInt32) + (1 : Int32))), .unset]) rfl k) ?_
  show own_Ends p.tables e below _ (T6.setTop (mkF m 47 #[.val (.long q0), .second, .val (.long q1), .second, .val (.long mc), .second, .val (.int ((mc / (12 : Int64)).toInt32)), .val (.int (((mc - mc / (12 : Int64) * (12 : Int64)).toInt32) + (1 : Int32))), .unset] []))
  refine own_step (fun _ k => XS.lloadN X6.here hx rfl (hb hby own_d13_47) rfl k) ?_
  show own_Ends p.tables e below _ (T6.setTop (mkF m 48 #[.val (.long q0), .second, .val (.long q1), .second, .val (.long mc), .second, .val (.int ((mc / (12 : Int64)).toInt32)), .val (.int (((mc - mc / (12 : Int64) * (12 : Int64)).toInt32) + (1 : Int32))), .unset] [(.long q0)]))
  obtain ⟨_, _, ⟨T7, L7, k7, n7⟩, -, X7, ⟨Lc7, hQ7, l7, y7, z7⟩, st7⟩ := Jvm.LawKit.callS X6 hx (y := (⟨"com/example/covenantry/covenantry/model/PackedDates", "day", "(J)I"⟩ : MethodName)) hown (mvT hZ (hw _ (List.mem_of_getElem? (i := 113) rfl))) (mvT hZ (hw _ (List.mem_of_getElem? (i := 114) rfl))) (mvT hZ (hw _ (List.mem_of_getElem? (i := 20) rfl))) (mvT hZ (hw _ (List.mem_of_getElem? (i := 115) rfl))) (by decide) (backOf (W := 0) (own_rm_day l Z aw hw [] q0 h0 n0 Z0 ) hZ (hw _ (List.mem_of_getElem? (i := 115) rfl)) (hw _ (List.mem_of_getElem? (i := 20) rfl)) (by decide) (by decide)) (g := (mkF m 48 #[.val (.long q0), .second, .val (.long q1), .second, .val (.long mc), .second, .val (.int ((mc / (12 : Int64)).toInt32)), .val (.int (((mc - mc / (12 : Int64) * (12 : Int64)).toInt32) + (1 : Int32))), .unset] [(.long q0)])) rfl (by rw [hml]; rfl) (argsL := [(.long q0)]) (rest := []) (lenOf own_pd10 rfl) rfl (by show 2 * 0 + _ ≤ _; exact Nat.le_of_eq rfl) (hb hby own_d13_48) (fun _ _ => ⟨rfl, e6, (by decide : 0 + 0 ≤ _), (by decide : 0 + 0 ≤ _)⟩)
  dsimp only [Pt.U, Pt.locs, Pt.cells, Pt.slots] at X7 l7 y7 z7 st7 hQ7
  subst l7 y7 z7
  obtain ⟨rfl, N7q, e7⟩ := hQ7
  have N_7 := Fr.app N_6 N7q
  refine own_step st7 ?_
  show own_Ends p.tables e below _ (T7.setTop (mkF m 51 #[.val (.long q0), .second, .val (.long q1), .second, .val (.long mc), .second, .val (.int ((mc / (12 : Int64)).toInt32)), .val (.int (((mc - mc / (12 : Int64) * (12 : Int64)).toInt32) + (1 : Int32))), .unset] [(.int (own_day q0))]))
  refine own_step (fun _ k => XS.iload X7.here hx rfl (hb hby own_d13_51) rfl k) ?_
  show own_Ends p.tables e below _ (T7.setTop (mkF m 53 #[.val (.long q0), .second, .val (.long q1), .second, .val (.long mc), .second, .val (.int ((mc / (12 : Int64)).toInt32)), .val (.int (((mc - mc / (12 : Int64) * (12 : Int64)).toInt32) + (1 : Int32))), .unset] [(.int ((mc / (12 : Int64)).toInt32)), (.int (own_day q0))]))
  refine own_step (fun _ k => XS.iload X7.here hx rfl (hb hby own_d13_53) rfl k) ?_
  show own_Ends p.tables e below _ (T7.setTop (mkF m 55 #[.val (.long q0), .second, .val (.long q1), .second, .val (.long mc), .second, .val (.int ((mc / (12 : Int64)).toInt32)), .val (.int (((mc - mc / (12 : Int64) * (12 : Int64)).toInt32) + (1 : Int32))), .unset] [(.int (((mc - mc / (12 : Int64) * (12 : Int64)).toInt32) + (1 : Int32))), (.int ((mc / (12 : Int64)).toInt32)), (.int (own_day q0))]))
  obtain ⟨_, _, ⟨T8, L8, k8, n8⟩, -, X8, ⟨Lc8, hQ8, l8, y8, z8⟩, st8⟩ := Jvm.LawKit.callS X7 hx (y := (⟨"com/example/covenantry/covenantry/model/PackedDates", "lengthOfMonth", "(II)I"⟩ : MethodName)) hown (mvT hZ (hw _ (List.mem_of_getElem? (i := 62) rfl))) (mvT hZ (hw _ (List.mem_of_getElem? (i := 63) rfl))) (mvT hZ (hw _ (List.mem_of_getElem? (i := 20) rfl))) (mvT hZ (hw _ (List.mem_of_getElem? (i := 64) rfl))) (by decide) (backOf (W := 1) (own_rm_len l Z aw hw [] ((mc / (12 : Int64)).toInt32) (((mc - mc / (12 : Int64) * (12 : Int64)).toInt32) + (1 : Int32)) h0 n0 Z0 ) hZ (hw _ (List.mem_of_getElem? (i := 64) rfl)) (hw _ (List.mem_of_getElem? (i := 20) rfl)) (by decide) (by decide)) (g := (mkF m 55 #[.val (.long q0), .second, .val (.long q1), .second, .val (.long mc), .second, .val (.int ((mc / (12 : Int64)).toInt32)), .val (.int (((mc - mc / (12 : Int64) * (12 : Int64)).toInt32) + (1 : Int32))), .unset] [(.int (((mc - mc / (12 : Int64) * (12 : Int64)).toInt32) + (1 : Int32))), (.int ((mc / (12 : Int64)).toInt32)), (.int (own_day q0))])) rfl (by rw [hml]; rfl) (argsL := [(.int ((mc / (12 : Int64)).toInt32)), (.int (((mc - mc / (12 : Int64) * (12 : Int64)).toInt32) + (1 : Int32)))]) (rest := [(.int (own_day q0))]) (lenOf own_pd8 rfl) rfl (by show 2 * 0 + _ ≤ _; exact Nat.le_of_eq rfl) (hb hby own_d13_55) (fun _ _ => ⟨rfl, e7, (by decide : 0 + 0 ≤ _), (by decide : 0 + 0 ≤ _)⟩)
  dsimp only [Pt.U, Pt.locs, Pt.cells, Pt.slots] at X8 l8 y8 z8 st8 hQ8
  subst l8 y8 z8
  obtain ⟨rfl, N8q, e8⟩ := hQ8
  have N_8 := Fr.app N_7 N8q
  refine own_step st8 ?_
  show own_Ends p.tables e below _ (T8.setTop (mkF m 58 #[.val (.long q0), .second, .val (.long q1), .second, .val (.long mc), .second, .val (.int ((mc / (12 : Int64)).toInt32)), .val (.int (((mc - mc / (12 : Int64) * (12 : Int64)).toInt32) + (1 : Int32))), .unset] [(.int (own_len ((mc / (12 : Int64)).toInt32) (((mc - mc / (12 : Int64) * (12 : Int64)).toInt32) + (1 : Int32)))), (.int (own_day q0))]))
  obtain ⟨_, _, ⟨T9, L9, k9, n9⟩, -, X9, ⟨Lc9, hQ9, l9, y9, z9⟩, st9⟩ := Jvm.LawKit.callS X8 hx (y := (⟨"java/lang/Math", "min", "(II)I"⟩ : MethodName)) hown (mvT hZ (hw _ (List.mem_of_getElem? (i := 116) rfl))) (mvT hZ (hw _ (List.mem_of_getElem? (i := 117) rfl))) (mvT hZ (hw _ (List.mem_of_getElem? (i := 80) rfl))) (mvT hZ (hw _ (List.mem_of_getElem? (i := 118) rfl))) (by decide) (backOf (W := 0) (own_rm_minI l Z aw hw [] (own_day q0) (own_len ((mc / (12 : Int64)).toInt32) (((mc - mc / (12 : Int64) * (12 : Int64)).toInt32) + (1 : Int32))) h0 n0 Z0 ) hZ (hw _ (List.mem_of_getElem? (i := 118) rfl)) (hw _ (List.mem_of_getElem? (i := 80) rfl)) (by decide) (by decide)) (g := (mkF m 58 #[.val (.long q0), .second, .val (.long q1), .second, .val (.long mc), .second, .val (.int ((mc / (12 : Int64)).toInt32)), .val (.int (((mc - mc / (12 : Int64) * (12 : Int64)).toInt32) + (1 : Int32))), .unset] [(.int (own_len ((mc / (12 : Int64)).toInt32) (((mc - mc / (12 : Int64) * (12 : Int64)).toInt32) + (1 : Int32)))), (.int (own_day q0))])) rfl (by rw [hml]; rfl) (argsL := [(.int (own_day q0)), (.int (own_len ((mc / (12 : Int64)).toInt32) (((mc - mc / (12 : Int64) * (12 : Int64)).toInt32) + (1 : Int32))))]) (rest := []) (lenOf own_pd8 rfl) rfl (by show 2 * 0 + _ ≤ _; exact Nat.le_of_eq rfl) (hb hby own_d13_58) (fun _ _ => ⟨rfl, e8, (by decide : 0 + 0 ≤ _), (by decide : 0 + 0 ≤ _)⟩)
  dsimp only [Pt.U, Pt.locs, Pt.cells, Pt.slots] at X9 l9 y9 z9 st9 hQ9
  subst l9 y9 z9
  obtain ⟨rfl, N9q, e9⟩ := hQ9
  have N_9 := Fr.app N_8 N9q
  refine own_step st9 ?_
  show own_Ends p.tables e below _ (T9.setTop (mkF m 61 #[.val (.long q0), .second, .val (.long q1), .second, .val (.long mc), .second, .val (.int ((mc / (12 : Int64)).toInt32)), .val (.int (((mc - mc / (12 : Int64) * (12 : Int64)).toInt32) + (1 : Int32))), .unset] [(.int (own_minI (own_day q0) (own_len ((mc / (12 : Int64)).toInt32) (((mc - mc / (12 : Int64) * (12 : Int64)).toInt32) + (1 : Int32)))))]))
  refine own_step (fun _ k => XS.istore X9.here hx rfl (hb hby own_d13_61) rfl (l' := #[.val (.long q0), .second, .val (.long q1), .second, .val (.long mc), .second, .val (.int ((mc / (12 : Int64)).toInt32)), .val (.int (((mc - mc / (12 : Int64) * (12 : Int64)).toInt32) + (1 : Int32))), .val (.int (own_minI (own_day q0) (own_len ((mc / (12 : Int64)).toInt32) (((mc - mc / (12 : Int64) * (12 : Int64)).toInt32) + (1 : Int32)))))]) rfl k) ?_
  show own_Ends p.tables e below _ (T9.setTop (mkF m 63 #[.val (.long q0), .second, .val (.long q1), .second, .val (.long mc), .second, .val (.int ((mc / (12 : Int64)).toInt32)), .val (.int (((mc - mc / (12 : Int64) * (12 : Int64)).toInt32) + (1 : Int32))), .val (.int (own_minI (own_day q0) (own_len ((mc / (12 : Int64)).toInt32) (((mc - mc / (12 : Int64) * (12 : Int64)).toInt32) + (1 : Int32)))))] []))
  refine own_step (fun _ k => XS.iload X9.here hx rfl (hb hby own_d13_63) rfl k) ?_
  show own_Ends p.tables e below _ (T9.setTop (mkF m 65 #[.val (.long q0), .second, .val (.long q1), .second, .val (.long mc), .second, .val (.int ((mc / (12 : Int64)).toInt32)), .val (.int (((mc - mc / (12 : Int64) * (12 : Int64)).toInt32) + (1 : Int32))), .val (.int (own_minI (own_day q0) (own_len ((mc / (12 : Int64)).toInt32) (((mc - mc / (12 : Int64) * (12 : Int64)).toInt32) + (1 : Int32)))))] [(.int ((mc / (12 : Int64)).toInt32))]))
  refine own_step (fun _ k => XS.iload X9.here hx rfl (hb hby own_d13_65) rfl k) ?_
  show own_Ends p.tables e below _ (T9.setTop (mkF m 67 #[.val (.long q0), .second, .val (.long q1), .second, .val (.long mc), .second, .val (.int ((mc / (12 : Int64)).toInt32)), .val (.int (((mc - mc / (12 : Int64) * (12 : Int64)).toInt32) + (1 : Int32))), .val (.int (own_minI (own_day q0) (own_len ((mc / (12 : Int64)).toInt32) (((mc - mc / (12 : Int64) * (12 : Int64)).toInt32) + (1 : Int32)))))] [(.int (((mc - mc / (12 : Int64) * (12 : Int64)).toInt32) + (1 : Int32))), (.int ((mc / (12 : Int64)).toInt32))]))
  refine own_step (fun _ k => XS.iload X9.here hx rfl (hb hby own_d13_67) rfl k) ?_
  show own_Ends p.tables e below _ (T9.setTop (mkF m 69 #[.val (.long q0), .second, .val (.long q1), .second, .val (.long mc), .second, .val (.int ((mc / (12 : Int64)).toInt32)), .val (.int (((mc - mc / (12 : Int64) * (12 : Int64)).toInt32) + (1 : Int32))), .val (.int (own_minI (own_day q0) (own_len ((mc / (12 : Int64)).toInt32) (((mc - mc / (12 : Int64) * (12 : Int64)).toInt32) + (1 : Int32)))))] [(.int (own_minI (own_day q0) (own_len ((mc / (12 : Int64)).toInt32) (((mc - mc / (12 : Int64) * (12 : Int64)).toInt32) + (1 : Int32))))), (.int (((mc - mc / (12 : Int64) * (12 : Int64)).toInt32) + (1 : Int32))), (.int ((mc / (12 : Int64)).toInt32))]))
  obtain ⟨_, _, ⟨T10, L10, k10, n10⟩, -, X10, ⟨Lc10, hQ10, l10, y10, z10⟩, st10⟩ := Jvm.LawKit.callS X9 hx (y := (⟨"com/example/covenantry/covenantry/model/PackedDates", "pack", "(III)J"⟩ : MethodName)) hown (mvT hZ (hw _ (List.mem_of_getElem? (i := 65) rfl))) (mvT hZ (hw _ (List.mem_of_getElem? (i := 66) rfl))) (mvT hZ (hw _ (List.mem_of_getElem? (i := 20) rfl))) (mvT hZ (hw _ (List.mem_of_getElem? (i := 67) rfl))) (by decide) (backOf (W := 0) (own_rm_pack l Z aw hw [] ((mc / (12 : Int64)).toInt32) (((mc - mc / (12 : Int64) * (12 : Int64)).toInt32) + (1 : Int32)) (own_minI (own_day q0) (own_len ((mc / (12 : Int64)).toInt32) (((mc - mc / (12 : Int64) * (12 : Int64)).toInt32) + (1 : Int32)))) h0 n0 Z0 ) hZ (hw _ (List.mem_of_getElem? (i := 67) rfl)) (hw _ (List.mem_of_getElem? (i := 20) rfl)) (by decide) (by decide)) (g := (mkF m 69 #[.val (.long q0), .second, .val (.long q1), .second, .val (.long mc), .second, .val (.int ((mc / (12 : Int64)).toInt32)), .val (.int (((mc - mc / (12 : Int64) * (12 : Int64)).toInt32) + (1 : Int32))), .val (.int (own_minI (own_day q0) (own_len ((mc / (12 : Int64)).toInt32) (((mc - mc / (12 : Int64) * (12 : Int64)).toInt32) + (1 : Int32)))))] [(.int (own_minI (own_day q0) (own_len ((mc / (12 : Int64)).toInt32) (((mc - mc / (12 : Int64) * (12 : Int64)).toInt32) + (1 : Int32))))), (.int (((mc - mc / (12 : Int64) * (12 : Int64)).toInt32) + (1 : Int32))), (.int ((mc / (12 : Int64)).toInt32))])) rfl (by rw [hml]; rfl) (argsL := [(.int ((mc / (12 : Int64)).toInt32)), (.int (((mc - mc / (12 : Int64) * (12 : Int64)).toInt32) + (1 : Int32))), (.int (own_minI (own_day q0) (own_len ((mc / (12 : Int64)).toInt32) (((mc - mc / (12 : Int64) * (12 : Int64)).toInt32) + (1 : Int32)))))]) (rest := []) (lenOf own_pd9 rfl) rfl (by show 2 * 0 + _ ≤ _; exact Nat.le_of_eq rfl) (hb hby own_d13_69) (fun _ _ => ⟨rfl, e9, (by decide : 0 + 0 ≤ _), (by decide : 0 + 0 ≤ _)⟩)
  dsimp only [Pt.U, Pt.locs, Pt.cells, Pt.slots] at X10 l10 y10 z10 st10 hQ10
  subst l10 y10 z10
  obtain ⟨rfl, N10q, e10⟩ := hQ10
  have N_10 := Fr.app N_9 N10q
  refine own_step st10 ?_
  show own_Ends p.tables e below _ (T10.setTop (mkF m 72 #[.val (.long q0), .second, .val (.long q1), .second, .val (.long mc), .second, .val (.int ((mc / (12 : Int64)).toInt32)), .val (.int (((mc - mc / (12 : Int64) * (12 : Int64)).toInt32) + (1 : Int32))), .val (.int (own_minI (own_day q0) (own_len ((mc / (12 : Int64)).toInt32) (((mc - mc / (12 : Int64) * (12 : Int64)).toInt32) + (1 : Int32)))))] [(.long (own_pack ((mc / (12 : Int64)).toInt32) (((mc - mc / (12 : Int64) * (12 : Int64)).toInt32) + (1 : Int32)) (own_minI (own_day q0) (own_len ((mc / (12 : Int64)).toInt32) (((mc - mc / (12 : Int64) * (12 : Int64)).toInt32) + (1 : Int32))))))]))
  exact own_retJ X10 hx hlk (by decide) (by decide) Bd.returns (hb hby own_d13_72) (by rw [e10]; exact ⟨by rw [hmc]; rfl, N_10, rfl⟩)
theorem own_pd13 : parseMethodDescriptor "()V" = some ⟨[], none⟩ := by decide +kernel
theorem own_d1_0 : decode prog_105_method_1_code 0 = .ok (.aload_n 0, 1) := by decide +kernel
theorem own_d1_1 : decode prog_105_method_1_code 1 = .ok (.invokespecial 3, 3) := by decide +kernel
theorem own_d1_4 : decode prog_105_method_1_code 4 = .ok (.aload_n 0, 1) := by decide +kernel
theorem own_d1_5 : decode prog_105_method_1_code 5 = .ok (.ldc2_w 11, 3) := by decide +kernel
theorem own_d1_8 : decode prog_105_method_1_code 8 = .ok (.putfield 13, 3) := by decide +kernel
theorem own_d1_11 : decode prog_105_method_1_code 11 = .ok (.return_, 1) := by decide +kernel
theorem own_pn4 : plainName "com/example/covenantry/covenantry/model/PeriodEnds" = true := by first | (simp [plainName, overriddenIn]; done) | decide +kernel
theorem own_ef_1 (m : MethodId) (x0 : Addr) : entryFrame m #[(.ref x0)] 1 = mkF m 0 #[.val (.ref x0)] [] := by first | (simp [entryFrame, mkF, argsToLocals, Value.category]; done) | rfl
def own_Q_init (Z : State) (a0 : Addr) (h0 : Heap) (n0 : Nat) (v : Option Value) (h : Heap) (L : List Loc) : Prop := v = none ∧ Fr n0 L ∧ Keep h0 h [a0] ∧ Fld Z h a0 "com/example/covenantry/covenantry/model/PeriodEnds" "paymentDates" "Lcom/example/covenantry/covenantry/model/RecurringDates;" .null ∧ Fld Z h a0 "com/example/covenantry/covenantry/model/PeriodEnds" "firstPaymentDate" "J" (.long (0 : Int64)) ∧ Fld Z h a0 "com/example/covenantry/covenantry/model/PeriodEnds" "months" "I" (.int (0 : Int32)) ∧ Fld Z h a0 "com/example/covenantry/covenantry/model/PeriodEnds" "steps" "J" (.long (0 : Int64)) ∧ Fld Z h a0 "com/example/covenantry/covenantry/model/PeriodEnds" "maturity" "J" (.long (0 : Int64)) ∧ Fld Z h a0 "com/example/covenantry/covenantry/model/PeriodEnds" "scheduled" "J" (.long (-9223372036854775808 : Int64))
set_option maxRecDepth 65536 in
set_option maxHeartbeats 40000000 in
theorem own_rm_init (l : Launch) (Z : State) (aw : Array Value) (hw : ∀ d ∈ tables_1, d.before aw Z = true) (ws : List Jvm.Cond) (a0 : Addr) (h0 : Heap) (n0 : Nat) (Z0 : n0 ≤ h0.size) (E_a0 : Exa Z h0 a0 "com/example/covenantry/covenantry/model/PeriodEnds") (F_paymentDates : Fld Z h0 a0 "com/example/covenantry/covenantry/model/PeriodEnds" "paymentDates" "Lcom/example/covenantry/covenantry/model/RecurringDates;" .null) (F_firstPaymentDate : Fld Z h0 a0 "com/example/covenantry/covenantry/model/PeriodEnds" "firstPaymentDate" "J" (.long (0 : Int64))) (F_months : Fld Z h0 a0 "com/example/covenantry/covenantry/model/PeriodEnds" "months" "I" (.int (0 : Int32))) (F_steps : Fld Z h0 a0 "com/example/covenantry/covenantry/model/PeriodEnds" "steps" "J" (.long (0 : Int64))) (F_maturity : Fld Z h0 a0 "com/example/covenantry/covenantry/model/PeriodEnds" "maturity" "J" (.long (0 : Int64))) (F_scheduled : Fld Z h0 a0 "com/example/covenantry/covenantry/model/PeriodEnds" "scheduled" "J" (.long (0 : Int64))) (g_a0 : n0 ≤ a0) :
    MetFree l (⟨"com/example/covenantry/covenantry/model/PeriodEnds", "<init>", "()V"⟩ : MethodName) (head1 (Jvm.Cond.code (⟨"com/example/covenantry/covenantry/model/PeriodEnds", "<init>", "()V"⟩ : MethodName) prog_105_method_1_code 1 none :: ws) ({ frames := 1, cells := 0, slots := 0, locals := 12 } : Room)) (fun a U => a = #[(.ref a0)] ∧ Z.Warmed39 U.vm ∧ U.heap = h0) (fun _ _ _ _ _ => True) (fun _ U o U' => ∃ v L, o = .returned v ∧ own_Q_init Z a0 h0 n0 v U'.heap L ∧ FrameEnd U o U' L ({ frames := 1, cells := 0, slots := 0, locals := 12 } : Room).cells ({ frames := 1, cells := 0, slots := 0, locals := 12 } : Room).slots) := by
  refine MetFree.of_bodySF (plainFor_of_name own_pn4) hisR ?_
  intro p e s m args below meth c s₁ Bd hml0 hP hK
  obtain ⟨rfl, hZ, hh⟩ := hP
  have hx := Bd.exec
  have hby := Bd.bytes
  have hlk : meth.locks = false := BodyLoose.notSynchronized Bd
  have hml : c.maxLocals = 1 := hml0
  have hown : s.vm.findClass "com/example/covenantry/covenantry/model/PeriodEnds" = some m.cls := findClass_of_methodNamed Bd.named
  have hnm := (name_of_methodNamed Bd.named Bd.method).1
  have X0 : Stand p l e ({ frames := 1, cells := 0, slots := 0, locals := 12 } : Room) s m #[(.ref a0)] below meth c s₁ [] 0 0 := Stand.of_body Bd
  have e0 : s₁.heap = h0 := by rw [← hh, Bd.state]; rfl
  have N0 := Fr.nil n0
  have K0 : Keep h0 h0 [a0] := Keep.refl _ _
  have pre0 : ∀ t, Steps p.tables e below (s₁.setTop (mkF m 0 #[.val (.ref a0)] [])) t → Steps p.tables e below (s₁.setTop (entryFrame m #[(.ref a0)] 1)) t := fun t k => castTop (own_ef_1 m a0) k
  show own_Ends p.tables e below (own_Q s (own_Q_init Z a0 h0 n0) ({ frames := 1, cells := 0, slots := 0, locals := 12 } : Room).cells ({ frames := 1, cells := 0, slots := 0, locals := 12 } : Room).slots) (s₁.setTop (entryFrame m #[(.ref a0)] 1))
  refine own_step pre0 ?_
  show own_Ends p.tables e below _ (s₁.setTop (mkF m 0 #[.val (.ref a0)] []))
  refine own_step (fun _ k => XS.aloadN X0.here hx rfl (hb hby own_d1_0) rfl rfl k) ?_
  show own_Ends p.tables e below _ (s₁.setTop (mkF m 1 #[.val (.ref a0)] [(.ref a0)]))
  obtain ⟨T1, X1, e1, st1⟩ := initO X0 hx hZ hown (hw _ (List.mem_of_getElem? (i := 7) rfl)) (hw _ (List.mem_of_getElem? (i := 8) rfl)) (hw _ (List.mem_of_getElem? (i := 9) rfl)) e0 (g := (mkF m 1 #[.val (.ref a0)] [(.ref a0)])) rfl (by rw [hml]; rfl) rfl (hb hby own_d1_1) (by decide) (W := 0) (by show 2 * 0 + _ ≤ _; exact Nat.le_of_eq rfl) (by decide)
  refine own_step st1 ?_
  show own_Ends p.tables e below _ (T1.setTop (mkF m 4 #[.val (.ref a0)] []))
  refine own_step (fun _ k => XS.aloadN X1.here hx rfl (hb hby own_d1_4) rfl rfl k) ?_
  show own_Ends p.tables e below _ (T1.setTop (mkF m 5 #[.val (.ref a0)] [(.ref a0)]))
  refine own_step (fun _ k => X1.ldc2Long hx hown (mvT hZ (hw _ (List.mem_of_getElem? (i := 10) rfl))) (g := (mkF m 5 #[.val (.ref a0)] [(.ref a0)])) rfl (hb hby own_d1_5) _ k) ?_
  show own_Ends p.tables e below _ (T1.setTop (mkF m 8 #[.val (.ref a0)] [(.long (-9223372036854775808 : Int64)), (.ref a0)]))
  obtain ⟨T2, h2, X2, e2, W2, st2⟩ := putF X1 hx hZ hown (host := "") (Or.inl (hw _ (List.mem_of_getElem? (i := 11) rfl))) Via.refl e1 F_scheduled E_a0 (Or.inl (hw _ (List.mem_of_getElem? (i := 12) rfl))) (hw _ (List.mem_of_getElem? (i := 2) rfl)) (ty := .long) (by decide) rfl rfl (g := (mkF m 8 #[.val (.ref a0)] [(.long (-9223372036854775808 : Int64)), (.ref a0)])) rfl rfl (hb hby own_d1_8)
  refine own_step st2 ?_
  have F_paymentDates_2 := F_paymentDates.other W2 (Or.inr (slot_ne (Or.inl (hw _ (List.mem_of_getElem? (i := 129) rfl))) (Or.inl (hw _ (List.mem_of_getElem? (i := 12) rfl))) (by decide) (t := (.object "com/example/covenantry/covenantry/model/RecurringDates")) (t' := .long) (by decide) (by decide)))
  have F_firstPaymentDate_2 := F_firstPaymentDate.other W2 (Or.inr (slot_ne (Or.inl (hw _ (List.mem_of_getElem? (i := 137) rfl))) (Or.inl (hw _ (List.mem_of_getElem? (i := 12) rfl))) (by decide) (t := .long) (t' := .long) (by decide) (by decide)))
  have F_months_2 := F_months.other W2 (Or.inr (slot_ne (Or.inl (hw _ (List.mem_of_getElem? (i := 131) rfl))) (Or.inl (hw _ (List.mem_of_getElem? (i := 12) rfl))) (by decide) (t := .int) (t' := .long) (by decide) (by decide)))
  have F_steps_2 := F_steps.other W2 (Or.inr (slot_ne (Or.inl (hw _ (List.mem_of_getElem? (i := 141) rfl))) (Or.inl (hw _ (List.mem_of_getElem? (i := 12) rfl))) (by decide) (t := .long) (t' := .long) (by decide) (by decide)))
  have F_maturity_2 := F_maturity.other W2 (Or.inr (slot_ne (Or.inl (hw _ (List.mem_of_getElem? (i := 139) rfl))) (Or.inl (hw _ (List.mem_of_getElem? (i := 12) rfl))) (by decide) (t := .long) (t' := .long) (by decide) (by decide)))
  have F_scheduled_2 := F_scheduled.same W2
  have E_a0_2 := E_a0.wr W2
  have K_2 : Keep h0 h2 [a0] := K0.wr W2 (Or.inl (List.mem_of_getElem? (i := 0) rfl))
  have Z_2 : n0 ≤ h2.size := Nat.le_trans Z0 (Keep.of_wr W2).1
  have N_2 := Fr.snoc X2 N0 g_a0
  show own_Ends p.tables e below _ (T2.setTop (mkF m 11 #[.val (.ref a0)] []))
  exact own_ret0 X2 hx hlk (by decide) (by decide) Bd.returns (hb hby own_d1_11) (by rw [e2]; exact ⟨rfl, N_2, K_2, F_paymentDates_2, F_firstPaymentDate_2, F_months_2, F_steps_2, F_maturity_2, F_scheduled_2⟩)
theorem own_d3_0 : decode prog_105_method_4_code 0 = .ok (.aload_n 0, 1) := by decide +kernel
theorem own_d3_1 : decode prog_105_method_4_code 1 = .ok (.getfield 13, 3) := by decide +kernel
theorem own_d3_4 : decode prog_105_method_4_code 4 = .ok (.ldc2_w 11, 3) := by decide +kernel
theorem own_d3_7 : decode prog_105_method_4_code 7 = .ok (.lcmp, 1) := by decide +kernel
theorem own_d3_8 : decode prog_105_method_4_code 8 = .ok (.ifCond .eq 7, 3) := by decide +kernel
theorem own_d3_11 : decode prog_105_method_4_code 11 = .ok (.iconst 1, 1) := by decide +kernel
theorem own_d3_12 : decode prog_105_method_4_code 12 = .ok (.goto 4, 3) := by decide +kernel
theorem own_d3_15 : decode prog_105_method_4_code 15 = .ok (.iconst 0, 1) := by decide +kernel
theorem own_d3_16 : decode prog_105_method_4_code 16 = .ok (.ireturn, 1) := by decide +kernel
theorem own_ef_3 (m : MethodId) (x0 : Addr) : entryFrame m #[(.ref x0)] 1 = mkF m 0 #[.val (.ref x0)] [] := by first | (simp [entryFrame, mkF, argsToLocals, Value.category]; done) | rfl
def own_Q_hasNext (Z : State) (a0 : Addr) (sc : Int64) (h0 : Heap) (n0 : Nat) (v : Option Value) (h : Heap) (L : List Loc) : Prop := v = some (.int (own_hn sc)) ∧ Fr n0 L ∧ h = h0
set_option maxRecDepth 65536 in
set_option maxHeartbeats 40000000 in
theorem own_rm_hasNext (l : Launch) (Z : State) (aw : Array Value) (hw : ∀ d ∈ tables_1, d.before aw Z = true) (ws : List Jvm.Cond) (a0 : Addr) (sc : Int64) (h0 : Heap) (n0 : Nat) (Z0 : n0 ≤ h0.size) (F_s : Fld Z h0 a0 "com/example/covenantry/covenantry/model/PeriodEnds" "scheduled" "J" (.long sc)) :
    MetFree l (⟨"com/example/covenantry/covenantry/model/PeriodEnds", "hasNext", "()Z"⟩ : MethodName) (head1 (Jvm.Cond.code (⟨"com/example/covenantry/covenantry/model/PeriodEnds", "hasNext", "()Z"⟩ : MethodName) prog_105_method_4_code 1 (some .boolean) :: ws) ({ frames := 0, cells := 0, slots := 0, locals := 0 } : Room)) (fun a U => a = #[(.ref a0)] ∧ Z.Warmed39 U.vm ∧ U.heap = h0) (fun _ _ _ _ _ => True) (fun _ U o U' => ∃ v L, o = .returned v ∧ own_Q_hasNext Z a0 sc h0 n0 v U'.heap L ∧ FrameEnd U o U' L ({ frames := 0, cells := 0, slots := 0, locals := 0 } : Room).cells ({ frames := 0, cells := 0, slots := 0, locals := 0 } : Room).slots) := by
  refine MetFree.of_bodySF (plainFor_of_name own_pn4) hisR ?_
  intro p e s m args below meth c s₁ Bd hml0 hP hK
  obtain ⟨rfl, hZ, hh⟩ := hP
  have hx := Bd.exec
  have hby := Bd.bytes
  have hlk : meth.locks = false := BodyLoose.notSynchronized Bd
  have hml : c.maxLocals = 1 := hml0
  have hown : s.vm.findClass "com/example/covenantry/covenantry/model/PeriodEnds" = some m.cls := findClass_of_methodNamed Bd.named
  have hnm := (name_of_methodNamed Bd.named Bd.method).1
  have X0 : Stand p l e ({ frames := 0, cells := 0, slots := 0, locals := 0 } : Room) s m #[(.ref a0)] below meth c s₁ [] 0 0 := Stand.of_body Bd
  have e0 : s₁.heap = h0 := by rw [← hh, Bd.state]; rfl
  have N0 := Fr.nil n0
  have K0 : Keep h0 h0 [] := Keep.refl _ _
  have pre0 : ∀ t, Steps p.tables e below (s₁.setTop (mkF m 0 #[.val (.ref a0)] [])) t → Steps p.tables e below (s₁.setTop (entryFrame m #[(.ref a0)] 1)) t := fun t k => castTop (own_ef_3 m a0) k
  show own_Ends p.tables e below (own_Q s (own_Q_hasNext Z a0 sc h0 n0) ({ frames := 0, cells := 0, slots := 0, locals := 0 } : Room).cells ({ frames := 0, cells := 0, slots := 0, locals := 0 } : Room).slots) (s₁.setTop (entryFrame m #[(.ref a0)] 1))
  refine own_step pre0 ?_
  show own_Ends p.tables e below _ (s₁.setTop (mkF m 0 #[.val (.ref a0)] []))
  refine own_step (fun _ k => XS.aloadN X0.here hx rfl (hb hby own_d3_0) rfl rfl k) ?_
  show own_Ends p.tables e below _ (s₁.setTop (mkF m 1 #[.val (.ref a0)] [(.ref a0)]))
  obtain ⟨T1, X1, e1, st1⟩ := getF X0 hx hZ hown (host := "") (Or.inl (hw _ (List.mem_of_getElem? (i := 11) rfl))) Via.refl e0 F_s (g := (mkF m 1 #[.val (.ref a0)] [(.ref a0)])) rfl rfl (hb hby own_d3_1)
  refine own_step st1 ?_
  show own_Ends p.tables e below _ (T1.setTop (mkF m 4 #[.val (.ref a0)] [(.long sc)]))
  refine own_step (fun _ k => X1.ldc2Long hx hown (mvT hZ (hw _ (List.mem_of_getElem? (i := 10) rfl))) (g := (mkF m 4 #[.val (.ref a0)] [(.long sc)])) rfl (hb hby own_d3_4) _ k) ?_
  show own_Ends p.tables e below _ (T1.setTop (mkF m 7 #[.val (.ref a0)] [(.long (-9223372036854775808 : Int64)), (.long sc)]))
  refine own_step (fun _ k => XS.lcmp X1.here hx rfl (hb hby own_d3_7) rfl k) ?_
  show own_Ends p.tables e below _ (T1.setTop (mkF m 8 #[.val (.ref a0)] [(.int (lcmpW sc (-9223372036854775808 : Int64)))]))
  by_cases hc8 : sc = (-9223372036854775808 : Int64)
  · refine own_step (fun _ k => XS.ifYes X1.here hx rfl (pc0 := 8) (pc' := 15) rfl (hb hby own_d3_8) rfl ((if0 _ _).trans (teq ((own_lc_eq _ _).mpr hc8)).1) (by decide) (by decide) k) ?_
    show own_Ends p.tables e below _ (T1.setTop (mkF m 15 #[.val (.ref a0)] []))
    refine own_step (fun _ k => XS.iconst X1.here hx rfl (hb hby own_d3_15) k) ?_
    show own_Ends p.tables e below _ (T1.setTop (mkF m 16 #[.val (.ref a0)] [(.int (0 : Int32))]))
    exact own_retN X1 hx hlk (by decide) (by decide) (t := .boolean) Bd.returns (by simp) (hb hby own_d3_16) (by rw [e1]; exact ⟨by rw [show own_hn sc = (0 : Int32) by simp [own_hn, hc8]]; rfl, N0, rfl⟩)
  · refine own_step (fun _ k => XS.ifNo X1.here hx rfl (hb hby own_d3_8) rfl ((if0 _ _).trans (feq (fun q => hc8 ((own_lc_eq _ _).mp q))).1) k) ?_
    show own_Ends p.tables e below _ (T1.setTop (mkF m 11 #[.val (.ref a0)] []))
    refine own_step (fun _ k => XS.iconst X1.here hx rfl (hb hby own_d3_11) k) ?_
    show own_Ends p.tables e below _ (T1.setTop (mkF m 12 #[.val (.ref a0)] [(.int (1 : Int32))]))
    refine own_step (fun _ k => XS.goto X1.here hx rfl (pc0 := 12) (pc' := 16) rfl (hb hby own_d3_12) (by decide) (by decide) k) ?_
    show own_Ends p.tables e below _ (T1.setTop (mkF m 16 #[.val (.ref a0)] [(.int (1 : Int32))]))
    exact own_retN X1 hx hlk (by decide) (by decide) (t := .boolean) Bd.returns (by simp) (hb hby own_d3_16) (by rw [e1]; exact ⟨by rw [show own_hn sc = (1 : Int32) by simp [own_hn, hc8]]; rfl, N0, rfl⟩)
theorem own_d28_0 : decode prog_105_method_6_code 0 = .ok (.aload_n 0, 1) := by decide +kernel
theorem own_d28_1 : decode prog_105_method_6_code 1 = .ok (.lload_n 1, 1) := by decide +kernel
theorem own_d28_2 : decode prog_105_method_6_code 2 = .ok (.putfield 52, 3) := by decide +kernel
theorem own_d28_5 : decode prog_105_method_6_code 5 = .ok (.aload_n 0, 1) := by decide +kernel
theorem own_d28_6 : decode prog_105_method_6_code 6 = .ok (.lload_n 3, 1) := by decide +kernel
theorem own_d28_7 : decode prog_105_method_6_code 7 = .ok (.putfield 45, 3) := by decide +kernel
theorem own_d28_10 : decode prog_105_method_6_code 10 = .ok (.aload_n 0, 1) := by decide +kernel
theorem own_d28_11 : decode prog_105_method_6_code 11 = .ok (.lload_n 1, 1) := by decide +kernel
theorem own_d28_12 : decode prog_105_method_6_code 12 = .ok (.putfield 13, 3) := by decide +kernel
theorem own_d28_15 : decode prog_105_method_6_code 15 = .ok (.aload_n 0, 1) := by decide +kernel
theorem own_d28_16 : decode prog_105_method_6_code 16 = .ok (.lconst 0, 1) := by decide +kernel
theorem own_d28_17 : decode prog_105_method_6_code 17 = .ok (.putfield 55, 3) := by decide +kernel
theorem own_d28_20 : decode prog_105_method_6_code 20 = .ok (.return_, 1) := by decide +kernel
theorem own_ef_28 (m : MethodId) (x0 : Addr) (x1 : Int64) (x2 : Int64) : entryFrame m #[(.ref x0), (.long x1), (.long x2)] 5 = mkF m 0 #[.val (.ref x0), .val (.long x1), .second, .val (.long x2), .second] [] := by first | (simp [entryFrame, mkF, argsToLocals, Value.category]; done) | rfl
def own_Q_start2 (Z : State) (a0 : Addr) (q1 : Int64) (q2 : Int64) (fp : Int64) (mo : Int32) (sp : Int64) (mt : Int64) (sc : Int64) (h0 : Heap) (n0 : Nat) (v : Option Value) (h : Heap) (L : List Loc) : Prop := v = none ∧ Fr n0 L ∧ Keep h0 h [a0] ∧ Fld Z h a0 "com/example/covenantry/covenantry/model/PeriodEnds" "paymentDates" "Lcom/example/covenantry/covenantry/model/RecurringDates;" .null ∧ Fld Z h a0 "com/example/covenantry/covenantry/model/PeriodEnds" "firstPaymentDate" "J" (.long q1) ∧ Fld Z h a0 "com/example/covenantry/covenantry/model/PeriodEnds" "months" "I" (.int mo) ∧ Fld Z h a0 "com/example/covenantry/covenantry/model/PeriodEnds" "steps" "J" (.long (0 : Int64)) ∧ Fld Z h a0 "com/example/covenantry/covenantry/model/PeriodEnds" "maturity" "J" (.long q2) ∧ Fld Z h a0 "com/example/covenantry/covenantry/model/PeriodEnds" "scheduled" "J" (.long q1)
set_option maxRecDepth 65536 in
set_option maxHeartbeats 40000000 in
theorem own_rm_start2 (l : Launch) (Z : State) (aw : Array Value) (hw : ∀ d ∈ tables_1, d.before aw Z = true) (ws : List Jvm.Cond) (a0 : Addr) (q1 : Int64) (q2 : Int64) (fp : Int64) (mo : Int32) (sp : Int64) (mt : Int64) (sc : Int64) (h0 : Heap) (n0 : Nat) (Z0 : n0 ≤ h0.size) (E_a0 : Exa Z h0 a0 "com/example/covenantry/covenantry/model/PeriodEnds") (F_paymentDates : Fld Z h0 a0 "com/example/covenantry/covenantry/model/PeriodEnds" "paymentDates" "Lcom/example/covenantry/covenantry/model/RecurringDates;" .null) (F_firstPaymentDate : Fld Z h0 a0 "com/example/covenantry/covenantry/model/PeriodEnds" "firstPaymentDate" "J" (.long fp)) (F_months : Fld Z h0 a0 "com/example/covenantry/covenantry/model/PeriodEnds" "months" "I" (.int mo)) (F_steps : Fld Z h0 a0 "com/example/covenantry/covenantry/model/PeriodEnds" "steps" "J" (.long sp)) (F_maturity : Fld Z h0 a0 "com/example/covenantry/covenantry/model/PeriodEnds" "maturity" "J" (.long mt)) (F_scheduled : Fld Z h0 a0 "com/example/covenantry/covenantry/model/PeriodEnds" "scheduled" "J" (.long sc)) (g_a0 : n0 ≤ a0) :
    MetFree l (⟨"com/example/covenantry/covenantry/model/PeriodEnds", "start", "(JJ)V"⟩ : MethodName) (head1 (Jvm.Cond.code (⟨"com/example/covenantry/covenantry/model/PeriodEnds", "start", "(JJ)V"⟩ : MethodName) prog_105_method_6_code 5 none :: ws) ({ frames := 0, cells := 0, slots := 0, locals := 0 } : Room)) (fun a U => a = #[(.ref a0), (.long q1), (.long q2)] ∧ Z.Warmed39 U.vm ∧ U.heap = h0) (fun _ _ _ _ _ => True) (fun _ U o U' => ∃ v L, o = .returned v ∧ own_Q_start2 Z a0 q1 q2 fp mo sp mt sc h0 n0 v U'.heap L ∧ FrameEnd U o U' L ({ frames := 0, cells := 0, slots := 0, locals := 0 } : Room).cells ({ frames := 0, cells := 0, slots := 0, locals := 0 } : Room).slots) := by
  refine MetFree.of_bodySF (plainFor_of_name own_pn4) hisR ?_
  intro p e s m args below meth c s₁ Bd hml0 hP hK
  obtain ⟨rfl, hZ, hh⟩ := hP
  have hx := Bd.exec
  have hby := Bd.bytes
  have hlk : meth.locks = false := BodyLoose.notSynchronized Bd
  have hml : c.maxLocals = 5 := hml0
  have hown : s.vm.findClass "com/example/covenantry/covenantry/model/PeriodEnds" = some m.cls := findClass_of_methodNamed Bd.named
  have hnm := (name_of_methodNamed Bd.named Bd.method).1
  have X0 : Stand p l e ({ frames := 0, cells := 0, slots := 0, locals := 0 } : Room) s m #[(.ref a0), (.long q1), (.long q2)] below meth c s₁ [] 0 0 := Stand.of_body Bd
  have e0 : s₁.heap = h0 := by rw [← hh, Bd.state]; rfl
  have N0 := Fr.nil n0
  have K0 : Keep h0 h0 [a0] := Keep.refl _ _
  have pre0 : ∀ t, Steps p.tables e below (s₁.setTop (mkF m 0 #[.val (.ref a0), .val (.long q1), .second, .val (.long q2), .second] [])) t → Steps p.tables e below (s₁.setTop (entryFrame m #[(.ref a0), (.long q1), (.long q2)] 5)) t := fun t k => castTop (own_ef_28 m a0 q1 q2) k
  show own_Ends p.tables e below (own_Q s (own_Q_start2 Z a0 q1 q2 fp mo sp mt sc h0 n0) ({ frames := 0, cells := 0, slots := 0, locals := 0 } : Room).cells ({ frames := 0, cells := 0, slots := 0, locals := 0 } : Room).slots) (s₁.setTop (entryFrame m #[(.ref a0), (.long q1), (.long q2)] 5))
  refine own_step pre0 ?_
  show own_Ends p.tables e below _ (s₁.setTop (mkF m 0 #[.val (.ref a0), .val (.long q1), .second, .val (.long q2), .second] []))
  refine own_step (fun _ k => XS.aloadN X0.here hx rfl (hb hby own_d28_0) rfl rfl k) ?_
  show own_Ends p.tables e below _ (s₁.setTop (mkF m 1 #[.val (.ref a0), .val (.long q1), .second, .val (.long q2), .second] [(.ref a0)]))
  refine own_step (fun _ k => XS.lloadN X0.here hx rfl (hb hby own_d28_1) rfl k) ?_
  show own_Ends p.tables e below _ (s₁.setTop (mkF m 2 #[.val (.ref a0), .val (.long q1), .second, .val (.long q2), .second] [(.long q1), (.ref a0)]))
  obtain ⟨T1, h1, X1, e1, W1, st1⟩ := putF X0 hx hZ hown (host := "") (Or.inl (hw _ (List.mem_of_getElem? (i := 136) rfl))) Via.refl e0 F_firstPaymentDate E_a0 (Or.inl (hw _ (List.mem_of_getElem? (i := 137) rfl))) (hw _ (List.mem_of_getElem? (i := 2) rfl)) (ty := .long) (by decide) rfl rfl (g := (mkF m 2 #[.val (.ref a0), .val (.long q1), .second, .val (.long q2), .second] [(.long q1), (.ref a0)])) rfl rfl (hb hby own_d28_2)
  refine own_step st1 ?_
  have F_paymentDates_1 := F_paymentDates.other W1 (Or.inr (slot_ne (Or.inl (hw _ (List.mem_of_getElem? (i := 129) rfl))) (Or.inl (hw _ (List.mem_of_getElem? (i := 137) rfl))) (by decide) (t := (.object "com/example/covenantry/covenantry/model/RecurringDates")) (t' := .long) (by decide) (by decide)))
  have F_firstPaymentDate_1 := F_firstPaymentDate.same W1
  have F_months_1 := F_months.other W1 (Or.inr (slot_ne (Or.inl (hw _ (List.mem_of_getElem? (i := 131) rfl))) (Or.inl (hw _ (List.mem_of_getElem? (i := 137) rfl))) (by decide) (t := .int) (t' := .long) (by decide) (by decide)))
  have F_steps_1 := F_steps.other W1 (Or.inr (slot_ne (Or.inl (hw _ (List.mem_of_getElem? (i := 141) rfl))) (Or.inl (hw _ (List.mem_of_getElem? (i := 137) rfl))) (by decide) (t := .long) (t' := .long) (by decide) (by decide)))
  have F_maturity_1 := F_maturity.other W1 (Or.inr (slot_ne (Or.inl (hw _ (List.mem_of_getElem? (i := 139) rfl))) (Or.inl (hw _ (List.mem_of_getElem? (i := 137) rfl))) (by decide) (t := .long) (t' := .long) (by decide) (by decide)))
  have F_scheduled_1 := F_scheduled.other W1 (Or.inr (slot_ne (Or.inl (hw _ (List.mem_of_getElem? (i := 12) rfl))) (Or.inl (hw _ (List.mem_of_getElem? (i := 137) rfl))) (by decide) (t := .long) (t' := .long) (by decide) (by decide)))
  have E_a0_1 := E_a0.wr W1
  have K_1 : Keep h0 h1 [a0] := K0.wr W1 (Or.inl (List.mem_of_getElem? (i := 0) rfl))
  have Z_1 : n0 ≤ h1.size := Nat.le_trans Z0 (Keep.of_wr W1).1
  have N_1 := Fr.snoc X1 N0 g_a0
  show own_Ends p.tables e below _ (T1.setTop (mkF m 5 #[.val (.ref a0), .val (.long q1), .second, .val (.long q2), .second] []))
  refine own_step (fun _ k => XS.aloadN X1.here hx rfl (hb hby own_d28_5) rfl rfl k) ?_
  show own_Ends p.tables e below _ (T1.setTop (mkF m 6 #[.val (.ref a0), .val (.long q1), .second, .val (.long q2), .second] [(.ref a0)]))
  refine own_step (fun _ k => XS.lloadN X1.here hx rfl (hb hby own_d28_6) rfl k) ?_
  show own_Ends p.tables e below _ (T1.setTop (mkF m 7 #[.val (.ref a0), .val (.long q1), .second, .val (.long q2), .second] [(.long q2), (.ref a0)]))
  obtain ⟨T2, h2, X2, e2, W2, st2⟩ := putF X1 hx hZ hown (host := "") (Or.inl (hw _ (List.mem_of_getElem? (i := 138) rfl))) Via.refl e1 F_maturity_1 E_a0_1 (Or.inl (hw _ (List.mem_of_getElem? (i := 139) rfl))) (hw _ (List.mem_of_getElem? (i := 2) rfl)) (ty := .long) (by decide) rfl rfl (g := (mkF m 7 #[.val (.ref a0), .val (.long q1), .second, .val (.long q2), .second] [(.long q2), (.ref a0)])) rfl rfl (hb hby own_d28_7)
  refine own_step st2 ?_
  have F_paymentDates_2 := F_paymentDates_1.other W2 (Or.inr (slot_ne (Or.inl (hw _ (List.mem_of_getElem? (i := 129) rfl))) (Or.inl (hw _ (List.mem_of_getElem? (i := 139) rfl))) (by decide) (t := (.object "com/example/covenantry/covenantry/model/RecurringDates")) (t' := .long) (by decide) (by decide)))
  have F_firstPaymentDate_2 := F_firstPaymentDate_1.other W2 (Or.inr (slot_ne (Or.inl (hw _ (List.mem_of_getElem? (i := 137) rfl))) (Or.inl (hw _ (List.mem_of_getElem? (i := 139) rfl))) (by decide) (t := .long) (t' := .long) (by decide) (by decide)))
  have F_months_2 := F_months_1.other W2 (Or.inr (slot_ne (Or.inl (hw _ (List.mem_of_getElem? (i := 131) rfl))) (Or.inl (hw _ (List.mem_of_getElem? (i := 139) rfl))) (by decide) (t := .int) (t' := .long) (by decide) (by decide)))
  have F_steps_2 := F_steps_1.other W2 (Or.inr (slot_ne (Or.inl (hw _ (List.mem_of_getElem? (i := 141) rfl))) (Or.inl (hw _ (List.mem_of_getElem? (i := 139) rfl))) (by decide) (t := .long) (t' := .long) (by decide) (by decide)))
  have F_maturity_2 := F_maturity_1.same W2
  have F_scheduled_2 := F_scheduled_1.other W2 (Or.inr (slot_ne (Or.inl (hw _ (List.mem_of_getElem? (i := 12) rfl))) (Or.inl (hw _ (List.mem_of_getElem? (i := 139) rfl))) (by decide) (t := .long) (t' := .long) (by decide) (by decide)))
  have E_a0_2 := E_a0_1.wr W2
  have K_2 : Keep h0 h2 [a0] := K_1.wr W2 (Or.inl (List.mem_of_getElem? (i := 0) rfl))
  have Z_2 : n0 ≤ h2.size := Nat.le_trans Z_1 (Keep.of_wr W2).1
  have N_2 := Fr.snoc X2 N_1 g_a0
  show own_Ends p.tables e below _ (T2.setTop (mkF m 10 #[.val (.ref a0), .val (.long q1), .second, .val (.long q2), .second] []))
  refine own_step (fun _ k => XS.aloadN X2.here hx rfl (hb hby own_d28_10) rfl rfl k) ?_
  show own_Ends p.tables e below _ (T2.setTop (mkF m 11 #[.val (.ref a0), .val (.long q1), .second, .val (.long q2), .second] [(.ref a0)]))
  refine own_step (fun _ k => XS.lloadN X2.here hx rfl (hb hby own_d28_11) rfl k) ?_
  show own_Ends p.tables e below _ (T2.setTop (mkF m 12 #[.val (.ref a0), .val (.long q1), .second, .val (.long q2), .second] [(.long q1), (.ref a0)]))
  obtain ⟨T3, h3, X3, e3, W3, st3⟩ := putF X2 hx hZ hown (host := "") (Or.inl (hw _ (List.mem_of_getElem? (i := 11) rfl))) Via.refl e2 F_scheduled_2 E_a0_2 (Or.inl (hw _ (List.mem_of_getElem? (i := 12) rfl))) (hw _ (List.mem_of_getElem? (i := 2) rfl)) (ty := .long) (by decide) rfl rfl (g := (mkF m 12 #[.val (.ref a0), .val (.long q1), .second, .val (.long q2), .second] [(.long q1), (.ref a0)])) rfl rfl (hb hby own_d28_12)
  refine own_step st3 ?_
  have F_paymentDates_3 := F_paymentDates_2.other W3 (Or.inr (slot_ne (Or.inl (hw _ (List.mem_of_getElem? (i := 129) rfl))) (Or.inl (hw _ (List.mem_of_getElem? (i := 12) rfl))) (by decide) (t := (.object "com/example/covenantry/covenantry/model/RecurringDates")) (t' := .long) (by decide) (by decide)))
  have F_firstPaymentDate_3 := F_firstPaymentDate_2.other W3 (Or.inr (slot_ne (Or.inl (hw _ (List.mem_of_getElem? (i := 137) rfl))) (Or.inl (hw _ (List.mem_of_getElem? (i := 12) rfl))) (by decide) (t := .long) (t' := .long) (by decide) (by decide)))
  have F_months_3 := F_months_2.other W3 (Or.inr (slot_ne (Or.inl (hw _ (List.mem_of_getElem? (i := 131) rfl))) (Or.inl (hw _ (List.mem_of_getElem? (i := 12) rfl))) (by decide) (t := .int) (t' := .long) (by decide) (by decide)))
  have F_steps_3 := F_steps_2.other W3 (Or.inr (slot_ne (Or.inl (hw _ (List.mem_of_getElem? (i := 141) rfl))) (Or.inl (hw _ (List.mem_of_getElem? (i := 12) rfl))) (by decide) (t := .long) (t' := .long) (by decide) (by decide)))
  have F_maturity_3 := F_maturity_2.other W3 (Or.inr (slot_ne (Or.inl (hw _ (List.mem_of_getElem? (i := 139) rfl))) (Or.inl (hw _ (List.mem_of_getElem? (i := 12) rfl))) (by decide) (t := .long) (t' := .long) (by decide) (by decide)))
  have F_scheduled_3 := F_scheduled_2.same W3
  have E_a0_3 := E_a0_2.wr W3
  have K_3 : Keep h0 h3 [a0] := K_2.wr W3 (Or.inl (List.mem_of_getElem? (i := 0) rfl))
  have Z_3 : n0 ≤ h3.size := Nat.le_trans Z_2 (Keep.of_wr W3).1
  have N_3 := Fr.snoc X3 N_2 g_a0
  show own_Ends p.tables e below _ (T3.setTop (mkF m 15 #[.val (.ref a0), .val (.long q1), .second, .val (.long q2), .second] []))
  refine own_step (fun _ k => XS.aloadN X3.here hx rfl (hb hby own_d28_15) rfl rfl k) ?_
  show own_Ends p.tables e below _ (T3.setTop (mkF m 16 #[.val (.ref a0), .val (.long q1), .second, .val (.long q2), .second] [(.ref a0)]))
  refine own_step (fun _ k => XS.lconst X3.here hx rfl (hb hby own_d28_16) k) ?_
  show own_Ends p.tables e below _ (T3.setTop (mkF m 17 #[.val (.ref a0), .val (.long q1), .second, .val (.long q2), .second] [(.long (0 : Int64)), (.ref a0)]))
  obtain ⟨T4, h4, X4, e4, W4, st4⟩ := putF X3 hx hZ hown (host := "") (Or.inl (hw _ (List.mem_of_getElem? (i := 140) rfl))) Via.refl e3 F_steps_3 E_a0_3 (Or.inl (hw _ (List.mem_of_getElem? (i := 141) rfl))) (hw _ (List.mem_of_getElem? (i := 2) rfl)) (ty := .long) (by decide) rfl rfl (g := (mkF m 17 #[.val (.ref a0), .val (.long q1), .second, .val (.long q2), .second] [(.long (0 : Int64)), (.ref a0)])) rfl rfl (hb hby own_d28_17)
  refine own_step st4 ?_
  have F_paymentDates_4 := F_paymentDates_3.other W4 (Or.inr (slot_ne (Or.inl (hw _ (List.mem_of_getElem? (i := 129) rfl))) (Or.inl (hw _ (List.mem_of_getElem? (i := 141) rfl))) (by decide) (t := (.object "com/example/covenantry/covenantry/model/RecurringDates")) (t' := .long) (by decide) (by decide)))
  have F_firstPaymentDate_4 := F_firstPaymentDate_3.other W4 (Or.inr (slot_ne (Or.inl (hw _ (List.mem_of_getElem? (i := 137) rfl))) (Or.inl (hw _ (List.mem_of_getElem? (i := 141) rfl))) (by decide) (t := .long) (t' := .long) (by decide) (by decide)))
  have F_months_4 := F_months_3.other W4 (Or.inr (slot_ne (Or.inl (hw _ (List.mem_of_getElem? (i := 131) rfl))) (Or.inl (hw _ (List.mem_of_getElem? (i := 141) rfl))) (by decide) (t := .int) (t' := .long) (by decide) (by decide)))
  have F_steps_4 := F_steps_3.same W4
  have F_maturity_4 := F_maturity_3.other W4 (Or.inr (slot_ne (Or.inl (hw _ (List.mem_of_getElem? (i := 139) rfl))) (Or.inl (hw _ (List.mem_of_getElem? (i := 141) rfl))) (by decide) (t := .long) (t' := .long) (by decide) (by decide)))
  have F_scheduled_4 := F_scheduled_3.other W4 (Or.inr (slot_ne (Or.inl (hw _ (List.mem_of_getElem? (i := 12) rfl))) (Or.inl (hw _ (List.mem_of_getElem? (i := 141) rfl))) (by decide) (t := .long) (t' := .long) (by decide) (by decide)))
  have E_a0_4 := E_a0_3.wr W4
  have K_4 : Keep h0 h4 [a0] := K_3.wr W4 (Or.inl (List.mem_of_getElem? (i := 0) rfl))
  have Z_4 : n0 ≤ h4.size := Nat.le_trans Z_3 (Keep.of_wr W4).1
  have N_4 := Fr.snoc X4 N_3 g_a0
  show own_Ends p.tables e below _ (T4.setTop (mkF m 20 #[.val (.ref a0), .val (.long q1), .second, .val (.long q2), .second] []))
  exact own_ret0 X4 hx hlk (by decide) (by decide) Bd.returns (hb hby own_d28_20) (by rw [e4]; exact ⟨rfl, N_4, K_4, F_paymentDates_4, F_firstPaymentDate_4, F_months_4, F_steps_4, F_maturity_4, F_scheduled_4⟩)
theorem own_pd14 : parseMethodDescriptor "(JJ)V" = some ⟨[.long, .long], none⟩ := by decide +kernel
theorem own_d27_0 : decode prog_105_method_3_code 0 = .ok (.aload_n 0, 1) := by decide +kernel
theorem own_d27_1 : decode prog_105_method_3_code 1 = .ok (.aconst_null, 1) := by decide +kernel
theorem own_d27_2 : decode prog_105_method_3_code 2 = .ok (.putfield 27, 3) := by decide +kernel
theorem own_d27_5 : decode prog_105_method_3_code 5 = .ok (.aload_n 0, 1) := by decide +kernel
theorem own_d27_6 : decode prog_105_method_3_code 6 = .ok (.iload_n 3, 1) := by decide +kernel
theorem own_d27_7 : decode prog_105_method_3_code 7 = .ok (.putfield 34, 3) := by decide +kernel
theorem own_d27_10 : decode prog_105_method_3_code 10 = .ok (.aload_n 0, 1) := by decide +kernel
theorem own_d27_11 : decode prog_105_method_3_code 11 = .ok (.lload_n 1, 1) := by decide +kernel
theorem own_d27_12 : decode prog_105_method_3_code 12 = .ok (.lload 4, 2) := by decide +kernel
theorem own_d27_14 : decode prog_105_method_3_code 14 = .ok (.invokevirtual 30, 3) := by decide +kernel
theorem own_d27_17 : decode prog_105_method_3_code 17 = .ok (.return_, 1) := by decide +kernel
theorem own_ef_27 (m : MethodId) (x0 : Addr) (x1 : Int64) (x2 : Int32) (x3 : Int64) : entryFrame m #[(.ref x0), (.long x1), (.int x2), (.long x3)] 6 = mkF m 0 #[.val (.ref x0), .val (.long x1), .second, .val (.int x2), .val (.long x3), .second] [] := by first | (simp [entryFrame, mkF, argsToLocals, Value.category]; done) | rfl
def own_Q_start (Z : State) (a0 : Addr) (q1 : Int64) (p2 : Int32) (q3 : Int64) (fp : Int64) (mo : Int32) (sp : Int64) (mt : Int64) (sc : Int64) (h0 : Heap) (n0 : Nat) (v : Option Value) (h : Heap) (L : List Loc) : Prop := v = none ∧ Fr n0 L ∧ Keep h0 h [a0] ∧ Fld Z h a0 "com/example/covenantry/covenantry/model/PeriodEnds" "paymentDates" "Lcom/example/covenantry/covenantry/model/RecurringDates;" .null ∧ Fld Z h a0 "com/example/covenantry/covenantry/model/PeriodEnds" "firstPaymentDate" "J" (.long q1) ∧ Fld Z h a0 "com/example/covenantry/covenantry/model/PeriodEnds" "months" "I" (.int p2) ∧ Fld Z h a0 "com/example/covenantry/covenantry/model/PeriodEnds" "steps" "J" (.long (0 : Int64)) ∧ Fld Z h a0 "com/example/covenantry/covenantry/model/PeriodEnds" "maturity" "J" (.long q3) ∧ Fld Z h a0 "com/example/covenantry/covenantry/model/PeriodEnds" "scheduled" "J" (.long q1)
set_option maxRecDepth 65536 in
set_option maxHeartbeats 40000000 in
theorem own_rm_start (l : Launch) (Z : State) (aw : Array Value) (hw : ∀ d ∈ tables_1, d.before aw Z = true) (ws : List Jvm.Cond) (a0 : Addr) (q1 : Int64) (p2 : Int32) (q3 : Int64) (fp : Int64) (mo : Int32) (sp : Int64) (mt : Int64) (sc : Int64) (h0 : Heap) (n0 : Nat) (Z0 : n0 ≤ h0.size) (E_a0 : Exa Z h0 a0 "com/example/covenantry/covenantry/model/PeriodEnds") (F_paymentDates : Fld Z h0 a0 "com/example/covenantry/covenantry/model/PeriodEnds" "paymentDates" "Lcom/example/covenantry/covenantry/model/RecurringDates;" .null) (F_firstPaymentDate : Fld Z h0 a0 "com/example/covenantry/covenantry/model/PeriodEnds" "firstPaymentDate" "J" (.long fp)) (F_months : Fld Z h0 a0 "com/example/covenantry/covenantry/model/PeriodEnds" "months" "I" (.int mo)) (F_steps : Fld Z h0 a0 "com/example/covenantry/covenantry/model/PeriodEnds" "steps" "J" (.long sp)) (F_maturity : Fld Z h0 a0 "com/example/covenantry/covenantry/model/PeriodEnds" "maturity" "J" (.long mt)) (F_scheduled : Fld Z h0 a0 "com/example/covenantry/covenantry/model/PeriodEnds" "scheduled" "J" (.long sc)) (g_a0 : n0 ≤ a0) :
    MetFree l (⟨"com/example/covenantry/covenantry/model/PeriodEnds", "start", "(JIJ)V"⟩ : MethodName) (head1 (Jvm.Cond.code (⟨"com/example/covenantry/covenantry/model/PeriodEnds", "start", "(JIJ)V"⟩ : MethodName) prog_105_method_3_code 6 none :: ws) ({ frames := 1, cells := 0, slots := 0, locals := 16 } : Room)) (fun a U => a = #[(.ref a0), (.long q1), (.int p2), (.long q3)] ∧ Z.Warmed39 U.vm ∧ U.heap = h0) (fun _ _ _ _ _ => True) (fun _ U o U' => ∃ v L, o = .returned v ∧ own_Q_start Z a0 q1 p2 q3 fp mo sp mt sc h0 n0 v U'.heap L ∧ FrameEnd U o U' L ({ frames := 1, cells := 0, slots := 0, locals := 16 } : Room).cells ({ frames := 1, cells := 0, slots := 0, locals := 16 } : Room).slots) := by
  refine MetFree.of_bodySF (plainFor_of_name own_pn4) hisR ?_
  intro p e s m args below meth c s₁ Bd hml0 hP hK
  obtain ⟨rfl, hZ, hh⟩ := hP
  have hx := Bd.exec
  have hby := Bd.bytes
  have hlk : meth.locks = false := BodyLoose.notSynchronized Bd
  have hml : c.maxLocals = 6 := hml0
  have hown : s.vm.findClass "com/example/covenantry/covenantry/model/PeriodEnds" = some m.cls := findClass_of_methodNamed Bd.named
  have hnm := (name_of_methodNamed Bd.named Bd.method).1
  have X0 : Stand p l e ({ frames := 1, cells := 0, slots := 0, locals := 16 } : Room) s m #[(.ref a0), (.long q1), (.int p2), (.long q3)] below meth c s₁ [] 0 0 := Stand.of_body Bd
  have e0 : s₁.heap = h0 := by rw [← hh, Bd.state]; rfl
  have N0 := Fr.nil n0
  have K0 : Keep h0 h0 [a0] := Keep.refl _ _
  have pre0 : ∀ t, Steps p.tables e below (s₁.setTop (mkF m 0 #[.val (.ref a0), .val (.long q1), .second, .val (.int p2), .val (.long q3), .second] [])) t → Steps p.tables e below (s₁.setTop (entryFrame m #[(.ref a0), (.long q1), (.int p2), (.long q3)] 6)) t := fun t k => castTop (own_ef_27 m a0 q1 p2 q3) k
  show own_Ends p.tables e below (own_Q s (own_Q_start Z a0 q1 p2 q3 fp mo sp mt sc h0 n0) ({ frames := 1, cells := 0, slots := 0, locals := 16 } : Room).cells ({ frames := 1, cells := 0, slots := 0, locals := 16 } : Room).slots) (s₁.setTop (entryFrame m #[(.ref a0), (.long q1), (.int p2), (.long q3)] 6))
  refine own_step pre0 ?_
  show own_Ends p.tables e below _ (s₁.setTop (mkF m 0 #[.val (.ref a0), .val (.long q1), .second, .val (.int p2), .val (.long q3), .second] []))
  refine own_step (fun _ k => XS.aloadN X0.here hx rfl (hb hby own_d27_0) rfl rfl k) ?_
  show own_Ends p.tables e below _ (s₁.setTop (mkF m 1 #[.val (.ref a0), .val (.long q1), .second, .val (.int p2), .val (.long q3), .second] [(.ref a0)]))
  refine own_step (fun _ k => XS.aconstNull X0.here hx rfl (hb hby own_d27_1) k) ?_
  show own_Ends p.tables e below _ (s₁.setTop (mkF m 2 #[.val (.ref a0), .val (.long q1), .second, .val (.int p2), .val (.long q3), .second] [.null, (.ref a0)]))
  obtain ⟨T1, h1, X1, e1, W1, st1⟩ := putF X0 hx hZ hown (host := "") (Or.inl (hw _ (List.mem_of_getElem? (i := 128) rfl))) Via.refl e0 F_paymentDates E_a0 (Or.inl (hw _ (List.mem_of_getElem? (i := 129) rfl))) (hw _ (List.mem_of_getElem? (i := 2) rfl)) (ty := (.object "com/example/covenantry/covenantry/model/RecurringDates")) (by decide) rfl rfl (g := (mkF m 2 #[.val (.ref a0), .val (.long q1), .second, .val (.int p2), .val (.long q3), .second] [.null, (.ref a0)])) rfl rfl (hb hby own_d27_2)
  refine own_step st1 ?_
  have F_paymentDates_1 := F_paymentDates.same W1
  have F_firstPaymentDate_1 := F_firstPaymentDate.other W1 (Or.inr (slot_ne (Or.inl (hw _ (List.mem_of_getElem? (i := 137) rfl))) (Or.inl (hw _ (List.mem_of_getElem? (i := 129) rfl))) (by decide) (t := .long) (t' := (.object "com/example/covenantry/covenantry/model/RecurringDates")) (by decide) (by decide)))
  have F_months_1 := F_months.other W1 (Or.inr (slot_ne (Or.inl (hw _ (List.mem_of_getElem? (i := 131) rfl))) (Or.inl (hw _ (List.mem_of_getElem? (i := 129) rfl))) (by decide) (t := .int) (t' := (.object "com/example/covenantry/covenantry/model/RecurringDates")) (by decide) (by decide)))
  have F_steps_1 := F_steps.other W1 (Or.inr (slot_ne (Or.inl (hw _ (List.mem_of_getElem? (i := 141) rfl))) (Or.inl (hw _ (List.mem_of_getElem? (i := 129) rfl))) (by decide) (t := .long) (t' := (.object "com/example/covenantry/covenantry/model/RecurringDates")) (by decide) (by decide)))
  have F_maturity_1 := F_maturity.other W1 (Or.inr (slot_ne (Or.inl (hw _ (List.mem_of_getElem? (i := 139) rfl))) (Or.inl (hw _ (List.mem_of_getElem? (i := 129) rfl))) (by decide) (t := .long) (t' := (.object "com/example/covenantry/covenantry/model/RecurringDates")) (by decide) (by decide)))
  have F_scheduled_1 := F_scheduled.other W1 (Or.inr (slot_ne (Or.inl (hw _ (List.mem_of_getElem? (i := 12) rfl))) (Or.inl (hw _ (List.mem_of_getElem? (i := 129) rfl))) (by decide) (t := .long) (t' := (.object "com/example/covenantry/covenantry/model/RecurringDates")) (by decide) (by decide)))
  have E_a0_1 := E_a0.wr W1
  have K_1 : Keep h0 h1 [a0] := K0.wr W1 (Or.inl (List.mem_of_getElem? (i := 0) rfl))
  have Z_1 : n0 ≤ h1.size := Nat.le_trans Z0 (Keep.of_wr W1).1
  have N_1 := Fr.snoc X1 N0 g_a0
  show own_Ends p.tables e below _ (T1.setTop (mkF m 5 #[.val (.ref a0), .val (.long q1), .second, .val (.int p2), .val (.long q3), .second] []))
  refine own_step (fun _ k => XS.aloadN X1.here hx rfl (hb hby own_d27_5) rfl rfl k) ?_
  show own_Ends p.tables e below _ (T1.setTop (mkF m 6 #[.val (.ref a0), .val (.long q1), .second, .val (.int p2), .val (.long q3), .second] [(.ref a0)]))
  refine own_step (fun _ k => XS.iloadN X1.here hx rfl (hb hby own_d27_6) rfl k) ?_
  show own_Ends p.tables e below _ (T1.setTop (mkF m 7 #[.val (.ref a0), .val (.long q1), .second, .val (.int p2), .val (.long q3), .second] [(.int p2), (.ref a0)]))
  obtain ⟨T2, h2, X2, e2, W2, st2⟩ := putF X1 hx hZ hown (host := "") (Or.inl (hw _ (List.mem_of_getElem? (i := 130) rfl))) Via.refl e1 F_months_1 E_a0_1 (Or.inl (hw _ (List.mem_of_getElem? (i := 131) rfl))) (hw _ (List.mem_of_getElem? (i := 2) rfl)) (ty := .int) (by decide) rfl rfl (g := (mkF m 7 #[.val (.ref a0), .val (.long q1), .second, .val (.int p2), .val (.long q3), .second] [(.int p2), (.ref a0)])) rfl rfl (hb hby own_d27_7)
  refine own_step st2 ?_
  have F_paymentDates_2 := F_paymentDates_1.other W2 (Or.inr (slot_ne (Or.inl (hw _ (List.mem_of_getElem? (i := 129) rfl))) (Or.inl (hw _ (List.mem_of_getElem? (i := 131) rfl))) (by decide) (t := (.object "com/example/covenantry/covenantry/model/RecurringDates")) (t' := .int) (by decide) (by decide)))
  have F_firstPaymentDate_2 := F_firstPaymentDate_1.other W2 (Or.inr (slot_ne (Or.inl (hw _ (List.mem_of_getElem? (i := 137) rfl))) (Or.inl (hw _ (List.mem_of_getElem? (i := 131) rfl))) (by decide) (t := .long) (t' := .int) (by decide) (by decide)))
  have F_months_2 := F_months_1.same W2
  have F_steps_2 := F_steps_1.other W2 (Or.inr (slot_ne (Or.inl (hw _ (List.mem_of_getElem? (i := 141) rfl))) (Or.inl (hw _ (List.mem_of_getElem? (i := 131) rfl))) (by decide) (t := .long) (t' := .int) (by decide) (by decide)))
  have F_maturity_2 := F_maturity_1.other W2 (Or.inr (slot_ne (Or.inl (hw _ (List.mem_of_getElem? (i := 139) rfl))) (Or.inl (hw _ (List.mem_of_getElem? (i := 131) rfl))) (by decide) (t := .long) (t' := .int) (by decide) (by decide)))
  have F_scheduled_2 := F_scheduled_1.other W2 (Or.inr (slot_ne (Or.inl (hw _ (List.mem_of_getElem? (i := 12) rfl))) (Or.inl (hw _ (List.mem_of_getElem? (i := 131) rfl))) (by decide) (t := .long) (t' := .int) (by decide) (by decide)))
  have E_a0_2 := E_a0_1.wr W2
  have K_2 : Keep h0 h2 [a0] := K_1.wr W2 (Or.inl (List.mem_of_getElem? (i := 0) rfl))
  have Z_2 : n0 ≤ h2.size := Nat.le_trans Z_1 (Keep.of_wr W2).1
  have N_2 := Fr.snoc X2 N_1 g_a0
  show own_Ends p.tables e below _ (T2.setTop (mkF m 10 #[.val (.ref a0), .val (.long q1), .second, .val (.int p2), .val (.long q3), .second] []))
  refine own_step (fun _ k => XS.aloadN X2.here hx rfl (hb hby own_d27_10) rfl rfl k) ?_
  show own_Ends p.tables e below _ (T2.setTop (mkF m 11 #[.val (.ref a0), .val (.long q1), .second, .val (.int p2), .val (.long q3), .second] [(.ref a0)]))
  refine own_step (fun _ k => XS.lloadN X2.here hx rfl (hb hby own_d27_11) rfl k) ?_
  show own_Ends p.tables e below _ (T2.setTop (mkF m 12 #[.val (.ref a0), .val (.long q1), .second, .val (.int p2), .val (.long q3), .second] [(.long q1), (.ref a0)]))
  refine own_step (fun _ k => XS.lload X2.here hx rfl (hb hby own_d27_12) rfl k) ?_
  show own_Ends p.tables e below _ (T2.setTop (mkF m 14 #[.val (.ref a0), .val (.long q1), .second, .val (.int p2), .val (.long q3), .second] [(.long q3), (.long q1), (.ref a0)]))
  obtain ⟨cq3, qz3, qz3'⟩ := E_a0_2.cell
  obtain ⟨_, _, ⟨T3, L3, k3, n3⟩, -, X3, ⟨Lc3, hQ3, l3, y3, z3⟩, st3⟩ := X2.privateBack hx (y := (⟨"com/example/covenantry/covenantry/model/PeriodEnds", "start", "(JJ)V"⟩ : MethodName)) hown (mvT hZ (hw _ (List.mem_of_getElem? (i := 132) rfl))) (mvT hZ (hw _ (List.mem_of_getElem? (i := 133) rfl))) (own_sel_priv (by decide) (mvT hZ (hw _ (List.mem_of_getElem? (i := 2) rfl))) (mvP hZ (hw _ (List.mem_of_getElem? (i := 134) rfl))) (mvT hZ (hw _ (List.mem_of_getElem? (i := 133) rfl)))) (Cond.privateMethod_at (mvP hZ (hw _ (List.mem_of_getElem? (i := 134) rfl)) (args := #[]))) (mvT hZ (hw _ (List.mem_of_getElem? (i := 135) rfl))) (by decide) (backOf (W := 0) (own_rm_start2 l Z aw hw [] a0 q1 q3 fp p2 sp mt sc h2 n0 Z_2 E_a0_2 F_paymentDates_2 F_firstPaymentDate_2 F_months_2 F_steps_2 F_maturity_2 F_scheduled_2 g_a0) hZ (hw _ (List.mem_of_getElem? (i := 135) rfl)) (hw _ (List.mem_of_getElem? (i := 3) rfl)) (by decide) (by decide)) (g := (mkF m 14 #[.val (.ref a0), .val (.long q1), .second, .val (.int p2), .val (.long q3), .second] [(.long q3), (.long q1), (.ref a0)])) rfl (by rw [hml]; rfl) (Steps.refl _) (a := a0) (by rw [e2]; exact qz3) qz3' (argsL := [(.long q1), (.long q3)]) (rest := []) (lenOf own_pd14 rfl) rfl (by show 2 * 0 + _ ≤ _; exact Nat.le_of_eq rfl) (hb hby own_d27_14) (fun _ _ => ⟨rfl, e2, (by decide : 0 + 0 ≤ _), (by decide : 0 + 0 ≤ _)⟩)
  dsimp only [Pt.U, Pt.locs, Pt.cells, Pt.slots] at X3 l3 y3 z3 st3 hQ3
  subst l3 y3 z3
  obtain ⟨rfl, N3q, k3, Fa3, Fb3, Fc3, Fd3, Fe3, Ff3⟩ := hQ3
  have N_3 := Fr.app N_2 N3q
  have E_a0_3 := E_a0_2.keep k3
  have K_3 : Keep h0 T3.heap [a0] := K_2.trans k3 (allS (Or.inl (List.mem_of_getElem? (i := 0) rfl)) all0)
  have Z_3 : n0 ≤ T3.heap.size := Nat.le_trans Z_2 k3.1
  refine own_step (fun _ k => st3.trans k) ?_
  show own_Ends p.tables e below _ (T3.setTop (mkF m 17 #[.val (.ref a0), .val (.long q1), .second, .val (.int p2), .val (.long q3), .second] []))
  exact own_ret0 X3 hx hlk (by decide) (by decide) Bd.returns (hb hby own_d27_17) (⟨rfl, N_3, K_3, Fa3, Fb3, Fc3, Fd3, Fe3, Ff3⟩)
theorem own_d31_0 : decode prog_105_method_7_code 0 = .ok (.aload_n 0, 1) := by decide +kernel
theorem own_d31_1 : decode prog_105_method_7_code 1 = .ok (.getfield 27, 3) := by decide +kernel
theorem own_d31_4 : decode prog_105_method_7_code 4 = .ok (.ifnonnull 31, 3) := by decide +kernel
theorem own_d31_7 : decode prog_105_method_7_code 7 = .ok (.aload_n 0, 1) := by decide +kernel
theorem own_d31_8 : decode prog_105_method_7_code 8 = .ok (.dup, 1) := by decide +kernel
theorem own_d31_9 : decode prog_105_method_7_code 9 = .ok (.getfield 55, 3) := by decide +kernel
theorem own_d31_12 : decode prog_105_method_7_code 12 = .ok (.lconst 1, 1) := by decide +kernel
theorem own_d31_13 : decode prog_105_method_7_code 13 = .ok (.ladd, 1) := by decide +kernel
theorem own_d31_14 : decode prog_105_method_7_code 14 = .ok (.putfield 55, 3) := by decide +kernel
theorem own_d31_17 : decode prog_105_method_7_code 17 = .ok (.aload_n 0, 1) := by decide +kernel
theorem own_d31_18 : decode prog_105_method_7_code 18 = .ok (.getfield 52, 3) := by decide +kernel
theorem own_d31_21 : decode prog_105_method_7_code 21 = .ok (.aload_n 0, 1) := by decide +kernel
theorem own_d31_22 : decode prog_105_method_7_code 22 = .ok (.getfield 55, 3) := by decide +kernel
theorem own_d31_25 : decode prog_105_method_7_code 25 = .ok (.aload_n 0, 1) := by decide +kernel
theorem own_d31_26 : decode prog_105_method_7_code 26 = .ok (.getfield 34, 3) := by decide +kernel
theorem own_d31_29 : decode prog_105_method_7_code 29 = .ok (.i2l, 1) := by decide +kernel
theorem own_d31_30 : decode prog_105_method_7_code 30 = .ok (.lmul, 1) := by decide +kernel
theorem own_d31_31 : decode prog_105_method_7_code 31 = .ok (.invokestatic 58, 3) := by decide +kernel
theorem own_d31_34 : decode prog_105_method_7_code 34 = .ok (.lreturn, 1) := by decide +kernel
theorem own_ef_31 (m : MethodId) (x0 : Addr) (x1 : Int64) : entryFrame m #[(.ref x0), (.long x1)] 3 = mkF m 0 #[.val (.ref x0), .val (.long x1), .second] [] := by first | (simp [entryFrame, mkF, argsToLocals, Value.category]; done) | rfl
def own_Q_pda (Z : State) (a0 : Addr) (q1 : Int64) (fp : Int64) (mo : Int32) (sp : Int64) (mt : Int64) (sc : Int64) (wY : Addr) (rY : Addr) (h0 : Heap) (n0 : Nat) (v : Option Value) (h : Heap) (L : List Loc) : Prop := v = some (.long (own_pm fp ((sp + (1 : Int64)) * mo.toInt64))) ∧ Fr n0 L ∧ Keep h0 h [a0] ∧ Fld Z h a0 "com/example/covenantry/covenantry/model/PeriodEnds" "paymentDates" "Lcom/example/covenantry/covenantry/model/RecurringDates;" .null ∧ Fld Z h a0 "com/example/covenantry/covenantry/model/PeriodEnds" "firstPaymentDate" "J" (.long fp) ∧ Fld Z h a0 "com/example/covenantry/covenantry/model/PeriodEnds" "months" "I" (.int mo) ∧ Fld Z h a0 "com/example/covenantry/covenantry/model/PeriodEnds" "steps" "J" (.long (sp + (1 : Int64))) ∧ Fld Z h a0 "com/example/covenantry/covenantry/model/PeriodEnds" "maturity" "J" (.long mt) ∧ Fld Z h a0 "com/example/covenantry/covenantry/model/PeriodEnds" "scheduled" "J" (.long sc)
set_option maxRecDepth 65536 in
set_option maxHeartbeats 40000000 in
theorem own_rm_pda (l : Launch) (Z : State) (aw : Array Value) (hw : ∀ d ∈ tables_1, d.before aw Z = true) (ws : List Jvm.Cond) (a0 : Addr) (q1 : Int64) (fp : Int64) (mo : Int32) (sp : Int64) (mt : Int64) (sc : Int64) (wY : Addr) (rY : Addr) (h0 : Heap) (n0 : Nat) (Z0 : n0 ≤ h0.size) (E_a0 : Exa Z h0 a0 "com/example/covenantry/covenantry/model/PeriodEnds") (F_paymentDates : Fld Z h0 a0 "com/example/covenantry/covenantry/model/PeriodEnds" "paymentDates" "Lcom/example/covenantry/covenantry/model/RecurringDates;" .null) (F_firstPaymentDate : Fld Z h0 a0 "com/example/covenantry/covenantry/model/PeriodEnds" "firstPaymentDate" "J" (.long fp)) (F_months : Fld Z h0 a0 "com/example/covenantry/covenantry/model/PeriodEnds" "months" "I" (.int mo)) (F_steps : Fld Z h0 a0 "com/example/covenantry/covenantry/model/PeriodEnds" "steps" "J" (.long sp)) (F_maturity : Fld Z h0 a0 "com/example/covenantry/covenantry/model/PeriodEnds" "maturity" "J" (.long mt)) (F_scheduled : Fld Z h0 a0 "com/example/covenantry/covenantry/model/PeriodEnds" "scheduled" "J" (.long sc)) (g_a0 : n0 ≤ a0) (S_Y : Sta Z h0 "java/time/temporal/ChronoField" "YEAR" "Ljava/time/temporal/ChronoField;" (.ref wY)) (Ew_Y : Exa Z h0 wY "java/time/temporal/ChronoField") (Fr_Y : Fld Z h0 wY "java/time/temporal/ChronoField" "range" "Ljava/time/temporal/ValueRange;" (.ref rY)) (Er_Y : Exa Z h0 rY "java/time/temporal/ValueRange") (Fm_Y : Fld Z h0 rY "java/time/temporal/ValueRange" "minSmallest" "J" (.long (-999999999 : Int64))) (Fx_Y : Fld Z h0 rY "java/time/temporal/ValueRange" "maxLargest" "J" (.long (999999999 : Int64))) (nw : a0 ≠ wY) (nr : a0 ≠ rY) (b0 : 0 ≤ (own_mc fp ((sp + (1 : Int64)) * mo.toInt64)).toInt) (b1 : (own_mc fp ((sp + (1 : Int64)) * mo.toInt64)).toInt ≤ 100000) :
    MetFree l (⟨"com/example/covenantry/covenantry/model/PeriodEnds", "paymentDateAfter", "(J)J"⟩ : MethodName) (head1 (Jvm.Cond.code (⟨"com/example/covenantry/covenantry/model/PeriodEnds", "paymentDateAfter", "(J)J"⟩ : MethodName) prog_105_method_7_code 3 (some .long) :: ws) ({ frames := 6, cells := 0, slots := 0, locals := 91 } : Room)) (fun a U => a = #[(.ref a0), (.long q1)] ∧ Z.Warmed39 U.vm ∧ U.heap = h0) (fun _ _ _ _ _ => True) (fun _ U o U' => ∃ v L, o = .returned v ∧ own_Q_pda Z a0 q1 fp mo sp mt sc wY rY h0 n0 v U'.heap L ∧ FrameEnd U o U' L ({ frames := 6, cells := 0, slots := 0, locals := 91 } : Room).cells ({ frames := 6, cells := 0, slots := 0, locals := 91 } : Room).slots) := by
  refine MetFree.of_bodySF (plainFor_of_name own_pn4) hisR ?_
  intro p e s m args below meth c s₁ Bd hml0 hP hK
  obtain ⟨rfl, hZ, hh⟩ := hP
  have hx := Bd.exec
  have hby := Bd.bytes
  have hlk : meth.locks = false := BodyLoose.notSynchronized Bd
  have hml : c.maxLocals = 3 := hml0
  have hown : s.vm.findClass "com/example/covenantry/covenantry/model/PeriodEnds" = some m.cls := findClass_of_methodNamed Bd.named
  have hnm := (name_of_methodNamed Bd.named Bd.method).1
  have X0 : Stand p l e ({ frames := 6, cells := 0, slots := 0, locals := 91 } : Room) s m #[(.ref a0), (.long q1)] below meth c s₁ [] 0 0 := Stand.of_body Bd
  have e0 : s₁.heap = h0 := by rw [← hh, Bd.state]; rfl
  have N0 := Fr.nil n0
  have K0 : Keep h0 h0 [a0] := Keep.refl _ _
  have pre0 : ∀ t, Steps p.tables e below (s₁.setTop (mkF m 0 #[.val (.ref a0), .val (.long q1), .second] [])) t → Steps p.tables e below (s₁.setTop (entryFrame m #[(.ref a0), (.long q1)] 3)) t := fun t k => castTop (own_ef_31 m a0 q1) k
  show own_Ends p.tables e below (own_Q s (own_Q_pda Z a0 q1 fp mo sp mt sc wY rY h0 n0) ({ frames := 6, cells := 0, slots := 0, locals := 91 } : Room).cells ({ frames := 6, cells := 0, slots := 0, locals := 91 } : Room).slots) (s₁.setTop (entryFrame m #[(.ref a0), (.long q1)] 3))
  refine own_step pre0 ?_
  show own_Ends p.tables e below _ (s₁.setTop (mkF m 0 #[.val (.ref a0), .val (.long q1), .second] []))
  refine own_step (fun _ k => XS.aloadN X0.here hx rfl (hb hby own_d31_0) rfl rfl k) ?_
  show own_Ends p.tables e below _ (s₁.setTop (mkF m 1 #[.val (.ref a0), .val (.long q1), .second] [(.ref a0)]))
  obtain ⟨T1, X1, e1, st1⟩ := getF X0 hx hZ hown (host := "") (Or.inl (hw _ (List.mem_of_getElem? (i := 128) rfl))) Via.refl e0 F_paymentDates (g := (mkF m 1 #[.val (.ref a0), .val (.long q1), .second] [(.ref a0)])) rfl rfl (hb hby own_d31_1)
  refine own_step st1 ?_
  show own_Ends p.tables e below _ (T1.setTop (mkF m 4 #[.val (.ref a0), .val (.long q1), .second] [.null]))
  refine own_step (fun _ k => XS.ifnonnullNo X1.here hx rfl (hb hby own_d31_4) rfl k) ?_
  show own_Ends p.tables e below _ (T1.setTop (mkF m 7 #[.val (.ref a0), .val (.long q1), .second] []))
  refine own_step (fun _ k => XS.aloadN X1.here hx rfl (hb hby own_d31_7) rfl rfl k) ?_
  show own_Ends p.tables e below _ (T1.setTop (mkF m 8 #[.val (.ref a0), .val (.long q1), .second] [(.ref a0)]))
  refine own_step (fun _ k => XS.dup X1.here hx rfl (hb hby own_d31_8) rfl rfl k) ?_
  show own_Ends p.tables e below _ (T1.setTop (mkF m 9 #[.val (.ref a0), .val (.long q1), .second] [(.ref a0), (.ref a0)]))
  obtain ⟨T2, X2, e2, st2⟩ := getF X1 hx hZ hown (host := "") (Or.inl (hw _ (List.mem_of_getElem? (i := 140) rfl))) Via.refl e1 F_steps (g := (mkF m 9 #[.val (.ref a0), .val (.long q1), .second] [(.ref a0), (.ref a0)])) rfl rfl (hb hby own_d31_9)
  refine own_step st2 ?_
  show own_Ends p.tables e below _ (T2.setTop (mkF m 12 #[.val (.ref a0), .val (.long q1), .second] [(.long sp), (.ref a0)]))
  refine own_step (fun _ k => XS.lconst X2.here hx rfl (hb hby own_d31_12) k) ?_
  show own_Ends p.tables e below _ (T2.setTop (mkF m 13 #[.val (.ref a0), .val (.long q1), .second] [(.long (1 : Int64)), (.long sp), (.ref a0)]))
  refine own_step (fun _ k => XS.ladd X2.here hx rfl (hb hby own_d31_13) rfl k) ?_
  show own_Ends p.tables e below _ (T2.setTop (mkF m 14 #[.val (.ref a0), .val (.long q1), .second] [(.long (sp + (1 : Int64))), (.ref a0)]))
  obtain ⟨T3, h3, X3, e3, W3, st3⟩ := putF X2 hx hZ hown (host := "") (Or.inl (hw _ (List.mem_of_getElem? (i := 140) rfl))) Via.refl e2 F_steps E_a0 (Or.inl (hw _ (List.mem_of_getElem? (i := 141) rfl))) (hw _ (List.mem_of_getElem? (i := 2) rfl)) (ty := .long) (by decide) rfl rfl (g := (mkF m 14 #[.val (.ref a0), .val (.long q1), .second] [(.long (sp + (1 : Int64))), (.ref a0)])) rfl rfl (hb hby own_d31_14)
  refine own_step st3 ?_
  have F_paymentDates_3 := F_paymentDates.other W3 (Or.inr (slot_ne (Or.inl (hw _ (List.mem_of_getElem? (i := 129) rfl))) (Or.inl (hw _ (List.mem_of_getElem? (i := 141) rfl))) (by decide) (t := (.object "com/example/covenantry/covenantry/model/RecurringDates")) (t' := .long) (by decide) (by decide)))
  have F_firstPaymentDate_3 := F_firstPaymentDate.other W3 (Or.inr (slot_ne (Or.inl (hw _ (List.mem_of_getElem? (i := 137) rfl))) (Or.inl (hw _ (List.mem_of_getElem? (i := 141) rfl))) (by decide) (t := .long) (t' := .long) (by decide) (by decide)))
  have F_months_3 := F_months.other W3 (Or.inr (slot_ne (Or.inl (hw _ (List.mem_of_getElem? (i := 131) rfl))) (Or.inl (hw _ (List.mem_of_getElem? (i := 141) rfl))) (by decide) (t := .int) (t' := .long) (by decide) (by decide)))
  have F_steps_3 := F_steps.same W3
  have F_maturity_3 := F_maturity.other W3 (Or.inr (slot_ne (Or.inl (hw _ (List.mem_of_getElem? (i := 139) rfl))) (Or.inl (hw _ (List.mem_of_getElem? (i := 141) rfl))) (by decide) (t := .long) (t' := .long) (by decide) (by decide)))
  have F_scheduled_3 := F_scheduled.other W3 (Or.inr (slot_ne (Or.inl (hw _ (List.mem_of_getElem? (i := 12) rfl))) (Or.inl (hw _ (List.mem_of_getElem? (i := 141) rfl))) (by decide) (t := .long) (t' := .long) (by decide) (by decide)))
  have E_a0_3 := E_a0.wr W3
  have S_Y_3 := S_Y.wr W3
  have Ew_Y_3 := Ew_Y.wr W3
  have Fr_Y_3 := Fr_Y.other W3 (Or.inl (Ne.symm nw))
  have Er_Y_3 := Er_Y.wr W3
  have Fm_Y_3 := Fm_Y.other W3 (Or.inl (Ne.symm nr))
  have Fx_Y_3 := Fx_Y.other W3 (Or.inl (Ne.symm nr))
  have K_3 : Keep h0 h3 [a0] := K0.wr W3 (Or.inl (List.mem_of_getElem? (i := 0) rfl))
  have Z_3 : n0 ≤ h3.size := Nat.le_trans Z0 (Keep.of_wr W3).1
  have N_3 := Fr.snoc X3 N0 g_a0
  show own_Ends p.tables e below _ (T3.setTop (mkF m 17 #[.val (.ref a0), .val (.long q1), .second] []))
  refine own_step (fun _ k => XS.aloadN X3.here hx rfl (hb hby own_d31_17) rfl rfl k) ?_
  show own_Ends p.tables e below _ (T3.setTop (mkF m 18 #[.val (.ref a0), .val (.long q1), .second] [(.ref a0)]))
  obtain ⟨T4, X4, e4, st4⟩ := getF X3 hx hZ hown (host := "") (Or.inl (hw _ (List.mem_of_getElem? (i := 136) rfl))) Via.refl e3 F_firstPaymentDate_3 (g := (mkF m 18 #[.val (.ref a0), .val (.long q1), .second] [(.ref a0)])) rfl rfl (hb hby own_d31_18)
  refine own_step st4 ?_
  show own_Ends p.tables e below _ (T4.setTop (mkF m 21 #[.val (.ref a0), .val (.long q1), .second] [(.long fp)]))
  refine own_step (fun _ k => XS.aloadN X4.here hx rfl (hb hby own_d31_21) rfl rfl k) ?_
  show own_Ends p.tables e below _ (T4.setTop (mkF m 22 #[.val (.ref a0), .val (.long q1), .second] [(.ref a0), (.long fp)]))
  obtain ⟨T5, X5, e5, st5⟩ := getF X4 hx hZ hown (host := "") (Or.inl (hw _ (List.mem_of_getElem? (i := 140) rfl))) Via.refl e4 F_steps_3 (g := (mkF m 22 #[.val (.ref a0), .val (.long q1), .second] [(.ref a0), (.long fp)])) rfl rfl (hb hby own_d31_22)
  refine own_step st5 ?_
  show own_Ends p.tables e below _ (T5.setTop (mkF m 25 #[.val (.ref a0), .val (.long q1), .second] [(.long (sp + (1 : Int64))), (.long fp)]))
  refine own_step (fun _ k => XS.aloadN X5.here hx rfl (hb hby own_d31_25) rfl rfl k) ?_
  show own_Ends p.tables e below _ (T5.setTop (mkF m 26 #[.val (.ref a0), .val (.long q1), .second] [(.ref a0), (.long (sp + (1 : Int64))), (.long fp)]))
  obtain ⟨T6, X6, e6, st6⟩ := getF X5 hx hZ hown (host := "") (Or.inl (hw _ (List.mem_of_getElem? (i := 130) rfl))) Via.refl e5 F_months_3 (g := (mkF m 26 #[.val (.ref a0), .val (.long q1), .second] [(.ref a0), (.long (sp + (1 : Int64))), (.long fp)])) rfl rfl (hb hby own_d31_26)
  refine own_step st6 ?_
  show own_Ends p.tables e below _ (T6.setTop (mkF m 29 #[.val (.ref a0), .val (.long q1), .second] [(.int mo), (.long (sp + (1 : Int64))), (.long fp)]))
  refine own_step (fun _ k => XS.i2l X6.here hx rfl (hb hby own_d31_29) rfl k) ?_
  show own_Ends p.tables e below _ (T6.setTop (mkF m 30 #[.val (.ref a0), .val (.long q1), .second] [(.long (mo.toInt64)), (.long (sp + (1 : Int64))), (.long fp)]))
  refine own_step (fun _ k => XS.lmul X6.here hx rfl (hb hby own_d31_30) rfl k) ?_
  show own_Ends p.tables e below _ (T6.setTop (mkF m 31 #[.val (.ref a0), .val (.long q1), .second] [(.long ((sp + (1 : Int64)) * (mo.toInt64))), (.long fp)]))
  obtain ⟨_, _, ⟨T7, L7, k7, n7⟩, -, X7, ⟨Lc7, hQ7, l7, y7, z7⟩, st7⟩ := Jvm.LawKit.callS X6 hx (y := (⟨"com/example/covenantry/covenantry/model/PackedDates", "plusMonths", "(JJ)J"⟩ : MethodName)) hown (mvT hZ (hw _ (List.mem_of_getElem? (i := 155) rfl))) (mvT hZ (hw _ (List.mem_of_getElem? (i := 69) rfl))) (mvT hZ (hw _ (List.mem_of_getElem? (i := 20) rfl))) (mvT hZ (hw _ (List.mem_of_getElem? (i := 70) rfl))) (by decide) (backOf (W := 0) (own_rm_pm l Z aw hw [] fp ((sp + (1 : Int64)) * (mo.toInt64)) wY rY h3 n0 Z_3 S_Y_3 Ew_Y_3 Fr_Y_3 Er_Y_3 Fm_Y_3 Fx_Y_3 b0 b1) hZ (hw _ (List.mem_of_getElem? (i := 70) rfl)) (hw _ (List.mem_of_getElem? (i := 20) rfl)) (by decide) (by decide)) (g := (mkF m 31 #[.val (.ref a0), .val (.long q1), .second] [(.long ((sp + (1 : Int64)) * (mo.toInt64))), (.long fp)])) rfl (by rw [hml]; rfl) (argsL := [(.long fp), (.long ((sp + (1 : Int64)) * (mo.toInt64)))]) (rest := []) (lenOf own_pd0 rfl) rfl (by show 2 * 0 + _ ≤ _; exact Nat.le_of_eq rfl) (hb hby own_d31_31) (fun _ _ => ⟨rfl, e6, (by decide : 0 + 0 ≤ _), (by decide : 0 + 0 ≤ _)⟩)
  dsimp only [Pt.U, Pt.locs, Pt.cells, Pt.slots] at X7 l7 y7 z7 st7 hQ7
  subst l7 y7 z7
  obtain ⟨rfl, N7q, e7⟩ := hQ7
  have N_7 := Fr.app N_3 N7q
  refine own_step st7 ?_
  show own_Ends p.tables e below _ (T7.setTop (mkF m 34 #[.val (.ref a0), .val (.long q1), .second] [(.long (own_pm fp ((sp + (1 : Int64)) * (mo.toInt64))))]))
  exact own_retJ X7 hx hlk (by decide) (by decide) Bd.returns (hb hby own_d31_34) (by rw [e7]; exact ⟨rfl, N_7, K_3, F_paymentDates_3, F_firstPaymentDate_3, F_months_3, F_steps_3, F_maturity_3, F_scheduled_3⟩)
theorem own_d30_0 : decode prog_105_method_5_code 0 = .ok (.aload_n 0, 1) := by decide +kernel
theorem own_d30_1 : decode prog_105_method_5_code 1 = .ok (.getfield 13, 3) := by decide +kernel
theorem own_d30_4 : decode prog_105_method_5_code 4 = .ok (.ldc2_w 11, 3) := by decide +kernel
theorem own_d30_7 : decode prog_105_method_5_code 7 = .ok (.lcmp, 1) := by decide +kernel
theorem own_d30_8 : decode prog_105_method_5_code 8 = .ok (.ifCond .ne 13, 3) := by decide +kernel
theorem own_d30_21 : decode prog_105_method_5_code 21 = .ok (.aload_n 0, 1) := by decide +kernel
theorem own_d30_22 : decode prog_105_method_5_code 22 = .ok (.getfield 13, 3) := by decide +kernel
theorem own_d30_25 : decode prog_105_method_5_code 25 = .ok (.aload_n 0, 1) := by decide +kernel
theorem own_d30_26 : decode prog_105_method_5_code 26 = .ok (.getfield 45, 3) := by decide +kernel
theorem own_d30_29 : decode prog_105_method_5_code 29 = .ok (.lcmp, 1) := by decide +kernel
theorem own_d30_30 : decode prog_105_method_5_code 30 = .ok (.ifCond .lt 15, 3) := by decide +kernel
theorem own_d30_33 : decode prog_105_method_5_code 33 = .ok (.aload_n 0, 1) := by decide +kernel
theorem own_d30_34 : decode prog_105_method_5_code 34 = .ok (.ldc2_w 11, 3) := by decide +kernel
theorem own_d30_37 : decode prog_105_method_5_code 37 = .ok (.putfield 13, 3) := by decide +kernel
theorem own_d30_40 : decode prog_105_method_5_code 40 = .ok (.aload_n 0, 1) := by decide +kernel
theorem own_d30_41 : decode prog_105_method_5_code 41 = .ok (.getfield 45, 3) := by decide +kernel
theorem own_d30_44 : decode prog_105_method_5_code 44 = .ok (.lreturn, 1) := by decide +kernel
theorem own_d30_45 : decode prog_105_method_5_code 45 = .ok (.aload_n 0, 1) := by decide +kernel
theorem own_d30_46 : decode prog_105_method_5_code 46 = .ok (.getfield 13, 3) := by decide +kernel
theorem own_d30_49 : decode prog_105_method_5_code 49 = .ok (.lstore_n 1, 1) := by decide +kernel
theorem own_d30_50 : decode prog_105_method_5_code 50 = .ok (.aload_n 0, 1) := by decide +kernel
theorem own_d30_51 : decode prog_105_method_5_code 51 = .ok (.aload_n 0, 1) := by decide +kernel
theorem own_d30_52 : decode prog_105_method_5_code 52 = .ok (.lload_n 1, 1) := by decide +kernel
theorem own_d30_53 : decode prog_105_method_5_code 53 = .ok (.invokevirtual 48, 3) := by decide +kernel
theorem own_d30_56 : decode prog_105_method_5_code 56 = .ok (.putfield 13, 3) := by decide +kernel
theorem own_d30_59 : decode prog_105_method_5_code 59 = .ok (.lload_n 1, 1) := by decide +kernel
theorem own_d30_60 : decode prog_105_method_5_code 60 = .ok (.lreturn, 1) := by decide +kernel
theorem own_ef_30 (m : MethodId) (x0 : Addr) : entryFrame m #[(.ref x0)] 3 = mkF m 0 #[.val (.ref x0), .unset, .unset] [] := by first | (simp [entryFrame, mkF, argsToLocals, Value.category]; done) | rfl
def own_Q_next (Z : State) (a0 : Addr) (fp : Int64) (mo : Int32) (sp : Int64) (mt : Int64) (sc : Int64) (wY : Addr) (rY : Addr) (h0 : Heap) (n0 : Nat) (v : Option Value) (h : Heap) (L : List Loc) : Prop := v = some (.long (own_nv mt sc)) ∧ Fr n0 L ∧ Keep h0 h [a0] ∧ Fld Z h a0 "com/example/covenantry/covenantry/model/PeriodEnds" "paymentDates" "Lcom/example/covenantry/covenantry/model/RecurringDates;" .null ∧ Fld Z h a0 "com/example/covenantry/covenantry/model/PeriodEnds" "firstPaymentDate" "J" (.long fp) ∧ Fld Z h a0 "com/example/covenantry/covenantry/model/PeriodEnds" "months" "I" (.int mo) ∧ Fld Z h a0 "com/example/covenantry/covenantry/model/PeriodEnds" "steps" "J" (.long (own_nsp sp mt sc)) ∧ Fld Z h a0 "com/example/covenantry/covenantry/model/PeriodEnds" "maturity" "J" (.long mt) ∧ Fld Z h a0 "com/example/covenantry/covenantry/model/PeriodEnds" "scheduled" "J" (.long (own_nsc fp mo sp mt sc))
set_option maxRecDepth 65536 in
set_option maxHeartbeats 40000000 in
theorem own_rm_next (l : Launch) (Z : State) (aw : Array Value) (hw : ∀ d ∈ tables_1, d.before aw Z = true) (ws : List Jvm.Cond) (a0 : Addr) (fp : Int64) (mo : Int32) (sp : Int64) (mt : Int64) (sc : Int64) (wY : Addr) (rY : Addr) (h0 : Heap) (n0 : Nat) (Z0 : n0 ≤ h0.size) (E_a0 : Exa Z h0 a0 "com/example/covenantry/covenantry/model/PeriodEnds") (F_paymentDates : Fld Z h0 a0 "com/example/covenantry/covenantry/model/PeriodEnds" "paymentDates" "Lcom/example/covenantry/covenantry/model/RecurringDates;" .null) (F_firstPaymentDate : Fld Z h0 a0 "com/example/covenantry/covenantry/model/PeriodEnds" "firstPaymentDate" "J" (.long fp)) (F_months : Fld Z h0 a0 "com/example/covenantry/covenantry/model/PeriodEnds" "months" "I" (.int mo)) (F_steps : Fld Z h0 a0 "com/example/covenantry/covenantry/model/PeriodEnds" "steps" "J" (.long sp)) (F_maturity : Fld Z h0 a0 "com/example/covenantry/covenantry/model/PeriodEnds" "maturity" "J" (.long mt)) (F_scheduled : Fld Z h0 a0 "com/example/covenantry/covenantry/model/PeriodEnds" "scheduled" "J" (.long sc)) (g_a0 : n0 ≤ a0) (S_Y : Sta Z h0 "java/time/temporal/ChronoField" "YEAR" "Ljava/time/temporal/ChronoField;" (.ref wY)) (Ew_Y : Exa Z h0 wY "java/time/temporal/ChronoField") (Fr_Y : Fld Z h0 wY "java/time/temporal/ChronoField" "range" "Ljava/time/temporal/ValueRange;" (.ref rY)) (Er_Y : Exa Z h0 rY "java/time/temporal/ValueRange") (Fm_Y : Fld Z h0 rY "java/time/temporal/ValueRange" "minSmallest" "J" (.long (-999999999 : Int64))) (Fx_Y : Fld Z h0 rY "java/time/temporal/ValueRange" "maxLargest" "J" (.long (999999999 : Int64))) (nw : a0 ≠ wY) (nr : a0 ≠ rY) (hsc : ¬ sc = (-9223372036854775808 : Int64)) (b0 : sc < mt → 0 ≤ (own_mc fp ((sp + (1 : Int64)) * mo.toInt64)).toInt) (b1 : sc < mt → (own_mc fp ((sp + (1 : Int64)) * mo.toInt64)).toInt ≤ 100000) :
    MetFree l (⟨"com/example/covenantry/covenantry/model/PeriodEnds", "next", "()J"⟩ : MethodName) (head1 (Jvm.Cond.code (⟨"com/example/covenantry/covenantry/model/PeriodEnds", "next", "()J"⟩ : MethodName) prog_105_method_5_code 3 (some .long) :: ws) ({ frames := 7, cells := 0, slots := 0, locals := 106 } : Room)) (fun a U => a = #[(.ref a0)] ∧ Z.Warmed39 U.vm ∧ U.heap = h0) (fun _ _ _ _ _ => True) (fun _ U o U' => ∃ v L, o = .returned v ∧ own_Q_next Z a0 fp mo sp mt sc wY rY h0 n0 v U'.heap L ∧ FrameEnd U o U' L ({ frames := 7, cells := 0, slots := 0, locals := 106 } : Room).cells ({ frames := 7, cells := 0, slots := 0, locals := 106 } : Room).slots) := by
  refine MetFree.of_bodySF (plainFor_of_name own_pn4) hisR ?_
  intro p e s m args below meth c s₁ Bd hml0 hP hK
  obtain ⟨rfl, hZ, hh⟩ := hP
  have hx := Bd.exec
  have hby := Bd.bytes
  have hlk : meth.locks = false := BodyLoose.notSynchronized Bd
  have hml : c.maxLocals = 3 := hml0
  have hown : s.vm.findClass "com/example/covenantry/covenantry/model/PeriodEnds" = some m.cls := findClass_of_methodNamed Bd.named
  have hnm := (name_of_methodNamed Bd.named Bd.method).1
  have X0 : Stand p l e ({ frames := 7, cells := 0, slots := 0, locals := 106 } : Room) s m #[(.ref a0)] below meth c s₁ [] 0 0 := Stand.of_body Bd
  have e0 : s₁.heap = h0 := by rw [← hh, Bd.state]; rfl
  have N0 := Fr.nil n0
  have K0 : Keep h0 h0 [a0] := Keep.refl _ _
  have pre0 : ∀ t, Steps p.tables e below (s₁.setTop (mkF m 0 #[.val (.ref a0), .unset, .unset] [])) t → Steps p.tables e below (s₁.setTop (entryFrame m #[(.ref a0)] 3)) t := fun t k => castTop (own_ef_30 m a0) k
  show own_Ends p.tables e below (own_Q s (own_Q_next Z a0 fp mo sp mt sc wY rY h0 n0) ({ frames := 7, cells := 0, slots := 0, locals := 106 } : Room).cells ({ frames := 7, cells := 0, slots := 0, locals := 106 } : Room).slots) (s₁.setTop (entryFrame m #[(.ref a0)] 3))
  refine own_step pre0 ?_
  show own_Ends p.tables e below _ (s₁.setTop (mkF m 0 #[.val (.ref a0), .unset, .unset] []))
  refine own_step (fun _ k => XS.aloadN X0.here hx rfl (hb hby own_d30_0) rfl rfl k) ?_
  show own_Ends p.tables e below _ (s₁.setTop (mkF m 1 #[.val (.ref a0), .unset, .unset] [(.ref a0)]))
  obtain ⟨T1, X1, e1, st1⟩ := getF X0 hx hZ hown (host := "") (Or.inl (hw _ (List.mem_of_getElem? (i := 11) rfl))) Via.refl e0 F_scheduled (g := (mkF m 1 #[.val (.ref a0), .unset, .unset] [(.ref a0)])) rfl rfl (hb hby own_d30_1)
  refine own_step st1 ?_
  show own_Ends p.tables e below _ (T1.setTop (mkF m 4 #[.val (.ref a0), .unset, .unset] [(.long sc)]))
  refine own_step (fun _ k => X1.ldc2Long hx hown (mvT hZ (hw _ (List.mem_of_getElem? (i := 10) rfl))) (g := (mkF m 4 #[.val (.ref a0), .unset, .unset] [(.long sc)])) rfl (hb hby own_d30_4) _ k) ?_
  show own_Ends p.tables e below _ (T1.setTop (mkF m 7 #[.val (.ref a0), .unset, .unset] [(.long (-9223372036854775808 : Int64)), (.long sc)]))
  refine own_step (fun _ k => XS.lcmp X1.here hx rfl (hb hby own_d30_7) rfl k) ?_
  show own_Ends p.tables e below _ (T1.setTop (mkF m 8 #[.val (.ref a0), .unset, .unset] [(.int (lcmpW sc (-9223372036854775808 : Int64)))]))
  refine own_step (fun _ k => XS.ifYes X1.here hx rfl (pc0 := 8) (pc' := 21) rfl (hb hby own_d30_8) rfl ((if0 _ _).trans (feq (fun q => hsc ((own_lc_eq _ _).mp q))).2) (by decide) (by decide) k) ?_
  show own_Ends p.tables e below _ (T1.setTop (mkF m 21 #[.val (.ref a0), .unset, .unset] []))
  refine own_step (fun _ k => XS.aloadN X1.here hx rfl (hb hby own_d30_21) rfl rfl k) ?_
  show own_Ends p.tables e below _ (T1.setTop (mkF m 22 #[.val (.ref a0), .unset, .unset] [(.ref a0)]))
  obtain ⟨T2, X2, e2, st2⟩ := getF X1 hx hZ hown (host := "") (Or.inl (hw _ (List.mem_of_getElem? (i := 11) rfl))) Via.refl e1 F_scheduled (g := (mkF m 22 #[.val (.ref a0), .unset, .unset] [(.ref a0)])) rfl rfl (hb hby own_d30_22)
  refine own_step st2 ?_
  show own_Ends p.tables e below _ (T2.setTop (mkF m 25 #[.val (.ref a0), .unset, .unset] [(.long sc)]))
  refine own_step (fun _ k => XS.aloadN X2.here hx rfl (hb hby own_d30_25) rfl rfl k) ?_
  show own_Ends p.tables e below _ (T2.setTop (mkF m 26 #[.val (.ref a0), .unset, .unset] [(.ref a0), (.long sc)]))
  obtain ⟨T3, X3, e3, st3⟩ := getF X2 hx hZ hown (host := "") (Or.inl (hw _ (List.mem_of_getElem? (i := 138) rfl))) Via.refl e2 F_maturity (g := (mkF m 26 #[.val (.ref a0), .unset, .unset] [(.ref a0), (.long sc)])) rfl rfl (hb hby own_d30_26)
  refine own_step st3 ?_
  show own_Ends p.tables e below _ (T3.setTop (mkF m 29 #[.val (.ref a0), .unset, .unset] [(.long mt), (.long sc)]))
  refine own_step (fun _ k => XS.lcmp X3.here hx rfl (hb hby own_d30_29) rfl k) ?_
  show own_Ends p.tables e below _ (T3.setTop (mkF m 30 #[.val (.ref a0), .unset, .unset] [(.int (lcmpW sc mt))]))
  by_cases hc30 : sc < mt
  · refine own_step (fun _ k => XS.ifYes X3.here hx rfl (pc0 := 30) (pc' := 45) rfl (hb hby own_d30_30) rfl ((if0 _ _).trans (tlt ((own_lc_lt _ _).mpr hc30)).1) (by decide) (by decide) k) ?_
    show own_Ends p.tables e below _ (T3.setTop (mkF m 45 #[.val (.ref a0), .unset, .unset] []))
    refine own_step (fun _ k => XS.aloadN X3.here hx rfl (hb hby own_d30_45) rfl rfl k) ?_
    show own_Ends p.tables e below _ (T3.setTop (mkF m 46 #[.val (.ref a0), .unset, .unset] [(.ref a0)]))
    obtain ⟨T4, X4, e4, st4⟩ := getF X3 hx hZ hown (host := "") (Or.inl (hw _ (List.mem_of_getElem? (i := 11) rfl))) Via.refl e3 F_scheduled (g := (mkF m 46 #[.val (.ref a0), .unset, .unset] [(.ref a0)])) rfl rfl (hb hby own_d30_46)
    refine own_step st4 ?_
    show own_Ends p.tables e below _ (T4.setTop (mkF m 49 #[.val (.ref a0), .unset, .unset] [(.long sc)]))
    refine own_step (fun _ k => XS.lstoreN X4.here hx rfl (hb hby own_d30_49) rfl (l' := #[.val (.ref a0), .val (.long sc), .second]) rfl k) ?_
    show own_Ends p.tables e below _ (T4.setTop (mkF m 50 #[.val (.ref a0), .val (.long sc), .second] []))
    refine own_step (fun _ k => XS.aloadN X4.here hx rfl (hb hby own_d30_50) rfl rfl k) ?_
    show own_Ends p.tables e below _ (T4.setTop (mkF m 51 #[.val (.ref a0), .val (.long sc), .second] [(.ref a0)]))
    refine own_step (fun _ k => XS.aloadN X4.here hx rfl (hb hby own_d30_51) rfl rfl k) ?_
    show own_Ends p.tables e below _ (T4.setTop (mkF m 52 #[.val (.ref a0), .val (.long sc), .second] [(.ref a0), (.ref a0)]))
    refine own_step (fun _ k => XS.lloadN X4.here hx rfl (hb hby own_d30_52) rfl k) ?_
    show own_Ends p.tables e below _ (T4.setTop (mkF m 53 #[.val (.ref a0), .val (.long sc), .second] [(.long sc), (.ref a0), (.ref a0)]))
    obtain ⟨cq5, qz5, qz5'⟩ := E_a0.cell
    obtain ⟨_, _, ⟨T5, L5, k5, n5⟩, -, X5, ⟨Lc5, hQ5, l5, y5, z5⟩, st5⟩ := X4.privateBack hx (y := (⟨"com/example/covenantry/covenantry/model/PeriodEnds", "paymentDateAfter", "(J)J"⟩ : MethodName)) hown (mvT hZ (hw _ (List.mem_of_getElem? (i := 151) rfl))) (mvT hZ (hw _ (List.mem_of_getElem? (i := 152) rfl))) (own_sel_priv (by decide) (mvT hZ (hw _ (List.mem_of_getElem? (i := 2) rfl))) (mvP hZ (hw _ (List.mem_of_getElem? (i := 153) rfl))) (mvT hZ (hw _ (List.mem_of_getElem? (i := 152) rfl)))) (Cond.privateMethod_at (mvP hZ (hw _ (List.mem_of_getElem? (i := 153) rfl)) (args := #[]))) (mvT hZ (hw _ (List.mem_of_getElem? (i := 154) rfl))) (by decide) (backOf (W := 1) (own_rm_pda l Z aw hw [] a0 sc fp mo sp mt sc wY rY h0 n0 Z0 E_a0 F_paymentDates F_firstPaymentDate F_months F_steps F_maturity F_scheduled g_a0 S_Y Ew_Y Fr_Y Er_Y Fm_Y Fx_Y nw nr (b0 hc30) (b1 hc30)) hZ (hw _ (List.mem_of_getElem? (i := 154) rfl)) (hw _ (List.mem_of_getElem? (i := 3) rfl)) (by decide) (by decide)) (g := (mkF m 53 #[.val (.ref a0), .val (.long sc), .second] [(.long sc), (.ref a0), (.ref a0)])) rfl (by rw [hml]; rfl) (Steps.refl _) (a := a0) (by rw [e4]; exact qz5) qz5' (argsL := [(.long sc)]) (rest := [(.ref a0)]) (lenOf own_pd7 rfl) rfl (by show 2 * 0 + _ ≤ _; exact Nat.le_of_eq rfl) (hb hby own_d30_53) (fun _ _ => ⟨rfl, e4, (by decide : 0 + 0 ≤ _), (by decide : 0 + 0 ≤ _)⟩)
    dsimp only [Pt.U, Pt.locs, Pt.cells, Pt.slots] at X5 l5 y5 z5 st5 hQ5
    subst l5 y5 z5
    obtain ⟨rfl, N5q, k5, Fa5, Fb5, Fc5, Fd5, Fe5, Ff5⟩ := hQ5
    have N_5 := Fr.app N0 N5q
    have E_a0_5 := E_a0.keep k5
    have S_Y_5 := own_Sta_keep S_Y k5 (allS (own_ns_exa E_a0) all0)
    have Ew_Y_5 := Ew_Y.keep k5
    have Fr_Y_5 := Fr_Y.keep k5 (ninS (Ne.symm nw) nin0)
    have Er_Y_5 := Er_Y.keep k5
    have Fm_Y_5 := Fm_Y.keep k5 (ninS (Ne.symm nr) nin0)
    have Fx_Y_5 := Fx_Y.keep k5 (ninS (Ne.symm nr) nin0)
    have K_5 : Keep h0 T5.heap [a0] := K0.trans k5 (allS (Or.inl (List.mem_of_getElem? (i := 0) rfl)) all0)
    have Z_5 : n0 ≤ T5.heap.size := Nat.le_trans Z0 k5.1
    refine own_step (fun _ k => st5.trans k) ?_
    show own_Ends p.tables e below _ (T5.setTop (mkF m 56 #[.val (.ref a0), .val (.long sc), .second] [(.long (own_pm fp ((sp + (1 : Int64)) * mo.toInt64))), (.ref a0)]))
    obtain ⟨T6, h6, X6, e6, W6, st6⟩ := putF X5 hx hZ hown (host := "") (Or.inl (hw _ (List.mem_of_getElem? (i := 11) rfl))) Via.refl rfl Ff5 E_a0_5 (Or.inl (hw _ (List.mem_of_getElem? (i := 12) rfl))) (hw _ (List.mem_of_getElem? (i := 2) rfl)) (ty := .long) (by decide) rfl rfl (g := (mkF m 56 #[.val (.ref a0), .val (.long sc), .second] [(.long (own_pm fp ((sp + (1 : Int64)) * mo.toInt64))), (.ref a0)])) rfl rfl (hb hby own_d30_56)
    refine own_step st6 ?_
    have E_a0_6 := E_a0_5.wr W6
    have S_Y_6 := S_Y_5.wr W6
    have Ew_Y_6 := Ew_Y_5.wr W6
    have Fr_Y_6 := Fr_Y_5.other W6 (Or.inl (Ne.symm nw))
    have Er_Y_6 := Er_Y_5.wr W6
    have Fm_Y_6 := Fm_Y_5.other W6 (Or.inl (Ne.symm nr))
    have Fx_Y_6 := Fx_Y_5.other W6 (Or.inl (Ne.symm nr))
    have Fa5_6 := Fa5.other W6 (Or.inr (slot_ne (Or.inl (hw _ (List.mem_of_getElem? (i := 129) rfl))) (Or.inl (hw _ (List.mem_of_getElem? (i := 12) rfl))) (by decide) (t := (.object "com/example/covenantry/covenantry/model/RecurringDates")) (t' := .long) (by decide) (by decide)))
    have Fb5_6 := Fb5.other W6 (Or.inr (slot_ne (Or.inl (hw _ (List.mem_of_getElem? (i := 137) rfl))) (Or.inl (hw _ (List.mem_of_getElem? (i := 12) rfl))) (by decide) (t := .long) (t' := .long) (by decide) (by decide)))
    have Fc5_6 := Fc5.other W6 (Or.inr (slot_ne (Or.inl (hw _ (List.mem_of_getElem? (i := 131) rfl))) (Or.inl (hw _ (List.mem_of_getElem? (i := 12) rfl))) (by decide) (t := .int) (t' := .long) (by decide) (by decide)))
    have Fd5_6 := Fd5.other W6 (Or.inr (slot_ne (Or.inl (hw _ (List.mem_of_getElem? (i := 141) rfl))) (Or.inl (hw _ (List.mem_of_getElem? (i := 12) rfl))) (by decide) (t := .long) (t' := .long) (by decide) (by decide)))
    have Fe5_6 := Fe5.other W6 (Or.inr (slot_ne (Or.inl (hw _ (List.mem_of_getElem? (i := 139) rfl))) (Or.inl (hw _ (List.mem_of_getElem? (i := 12) rfl))) (by decide) (t := .long) (t' := .long) (by decide) (by decide)))
    have Ff5_6 := Ff5.same W6
    have K_6 : Keep h0 h6 [a0] := K_5.wr W6 (Or.inl (List.mem_of_getElem? (i := 0) rfl))
    have Z_6 : n0 ≤ h6.size := Nat.le_trans Z_5 (Keep.of_wr W6).1
    have N_6 := Fr.snoc X6 N_5 g_a0
    show own_Ends p.tables e below _ (T6.setTop (mkF m 59 #[.val (.ref a0), .val (.long sc), .second] []))
    refine own_step (fun _ k => XS.lloadN X6.here hx rfl (hb hby own_d30_59) rfl k) ?_
    show own_Ends p.tables e below _ (T6.setTop (mkF m 60 #[.val (.ref a0), .val (.long sc), .second] [(.long sc)]))
    exact own_retJ X6 hx hlk (by decide) (by decide) Bd.returns (hb hby own_d30_60) (by rw [e6]; exact ⟨by unfold own_nv; rw [if_pos hc30], N_6, K_6, Fa5_6, Fb5_6, Fc5_6, (by unfold own_nsp; rw [if_pos hc30]; exact Fd5_6), Fe5_6, (by unfold own_nsc; rw [if_pos hc30]; exact Ff5_6)⟩)
  · refine own_step (fun _ k => XS.ifNo X3.here hx rfl (hb hby own_d30_30) rfl ((if0 _ _).trans (flt (fun q => hc30 ((own_lc_lt _ _).mp q))).1) k) ?_
    show own_Ends p.tables e below _ (T3.setTop (mkF m 33 #[.val (.ref a0), .unset, .unset] []))
    refine own_step (fun _ k => XS.aloadN X3.here hx rfl (hb hby own_d30_33) rfl rfl k) ?_
    show own_Ends p.tables e below _ (T3.setTop (mkF m 34 #[.val (.ref a0), .unset, .unset] [(.ref a0)]))
    refine own_step (fun _ k => X3.ldc2Long hx hown (mvT hZ (hw _ (List.mem_of_getElem? (i := 10) rfl))) (g := (mkF m 34 #[.val (.ref a0), .unset, .unset] [(.ref a0)])) rfl (hb hby own_d30_34) _ k) ?_
    show own_Ends p.tables e below _ (T3.setTop (mkF m 37 #[.val (.ref a0), .unset, .unset] [(.long (-9223372036854775808 : Int64)), (.ref a0)]))
    obtain ⟨T7, h7, X7, e7, W7, st7⟩ := putF X3 hx hZ hown (host := "") (Or.inl (hw _ (List.mem_of_getElem? (i := 11) rfl))) Via.refl e3 F_scheduled E_a0 (Or.inl (hw _ (List.mem_of_getElem? (i := 12) rfl))) (hw _ (List.mem_of_getElem? (i := 2) rfl)) (ty := .long) (by decide) rfl rfl (g := (mkF m 37 #[.val (.ref a0), .unset, .unset] [(.long (-9223372036854775808 : Int64)), (.ref a0)])) rfl rfl (hb hby own_d30_37)
    refine own_step st7 ?_
    have F_paymentDates_7 := F_paymentDates.other W7 (Or.inr (slot_ne (Or.inl (hw _ (List.mem_of_getElem? (i := 129) rfl))) (Or.inl (hw _ (List.mem_of_getElem? (i := 12) rfl))) (by decide) (t := (.object "com/example/covenantry/covenantry/model/RecurringDates")) (t' := .long) (by decide) (by decide)))
    have F_firstPaymentDate_7 := F_firstPaymentDate.other W7 (Or.inr (slot_ne (Or.inl (hw _ (List.mem_of_getElem? (i := 137) rfl))) (Or.inl (hw _ (List.mem_of_getElem? (i := 12) rfl))) (by decide) (t := .long) (t' := .long) (by decide) (by decide)))
    have F_months_7 := F_months.other W7 (Or.inr (slot_ne (Or.inl (hw _ (List.mem_of_getElem? (i := 131) rfl))) (Or.inl (hw _ (List.mem_of_getElem? (i := 12) rfl))) (by decide) (t := .int) (t' := .long) (by decide) (by decide)))
    have F_steps_7 := F_steps.other W7 (Or.inr (slot_ne (Or.inl (hw _ (List.mem_of_getElem? (i := 141) rfl))) (Or.inl (hw _ (List.mem_of_getElem? (i := 12) rfl))) (by decide) (t := .long) (t' := .long) (by decide) (by decide)))
    have F_maturity_7 := F_maturity.other W7 (Or.inr (slot_ne (Or.inl (hw _ (List.mem_of_getElem? (i := 139) rfl))) (Or.inl (hw _ (List.mem_of_getElem? (i := 12) rfl))) (by decide) (t := .long) (t' := .long) (by decide) (by decide)))
    have F_scheduled_7 := F_scheduled.same W7
    have E_a0_7 := E_a0.wr W7
    have S_Y_7 := S_Y.wr W7
    have Ew_Y_7 := Ew_Y.wr W7
    have Fr_Y_7 := Fr_Y.other W7 (Or.inl (Ne.symm nw))
    have Er_Y_7 := Er_Y.wr W7
    have Fm_Y_7 := Fm_Y.other W7 (Or.inl (Ne.symm nr))
    have Fx_Y_7 := Fx_Y.other W7 (Or.inl (Ne.symm nr))
    have K_7 : Keep h0 h7 [a0] := K0.wr W7 (Or.inl (List.mem_of_getElem? (i := 0) rfl))
    have Z_7 : n0 ≤ h7.size := Nat.le_trans Z0 (Keep.of_wr W7).1
    have N_7 := Fr.snoc X7 N0 g_a0
    show own_Ends p.tables e below _ (T7.setTop (mkF m 40 #[.val (.ref a0), .unset, .unset] []))
    refine own_step (fun _ k => XS.aloadN X7.here hx rfl (hb hby own_d30_40) rfl rfl k) ?_
    show own_Ends p.tables e below _ (T7.setTop (mkF m 41 #[.val (.ref a0), .unset, .unset] [(.ref a0)]))
    obtain ⟨T8, X8, e8, st8⟩ := getF X7 hx hZ hown (host := "") (Or.inl (hw _ (List.mem_of_getElem? (i := 138) rfl))) Via.refl e7 F_maturity_7 (g := (mkF m 41 #[.val (.ref a0), .unset, .unset] [(.ref a0)])) rfl rfl (hb hby own_d30_41)
    refine own_step st8 ?_
    show own_Ends p.tables e below _ (T8.setTop (mkF m 44 #[.val (.ref a0), .unset, .unset] [(.long mt)]))
    exact own_retJ X8 hx hlk (by decide) (by decide) Bd.returns (hb hby own_d30_44) (by rw [e8]; exact ⟨by unfold own_nv; rw [if_neg hc30], N_7, K_7, F_paymentDates_7, F_firstPaymentDate_7, F_months_7, (by unfold own_nsp; rw [if_neg hc30]; exact F_steps_7), F_maturity_7, (by unfold own_nsc; rw [if_neg hc30]; exact F_scheduled_7)⟩)
theorem own_subI {a b : Int32} (h0 : -2147483648 ≤ a.toInt - b.toInt) (h1 : a.toInt - b.toInt ≤ 2147483647) : (a - b).toInt = a.toInt - b.toInt := by
  rw [Int32.toInt_sub]; apply Int.bmod_eq_of_le <;> omega
theorem own_mb {p k : Int64} {Y M D K U : Int} (h : own_Dt p Y M D) (hk : k.toInt = K ∧ 0 ≤ K ∧ K ≤ U) (hU : U ≤ 36 := by omega) : 0 ≤ (own_mc p k).toInt ∧ (own_mc p k).toInt ≤ 100000 := by
  have e := own_mc_val h hk.1 (by omega) (by omega)
  obtain ⟨e1, h1, h2, h3, h4, h5, h6⟩ := h; omega
theorem own_pd15 : parseMethodDescriptor "(JIJ)V" = some ⟨[.long, .int, .long], none⟩ := by decide +kernel
theorem own_pd16 : parseMethodDescriptor "(IIIII)Z" = some ⟨[.int, .int, .int, .int, .int], some .boolean⟩ := by decide +kernel
theorem own_ef_0 (m : MethodId) (x0 : Int32) (x1 : Int32) (x2 : Int32) (x3 : Int32) (x4 : Int32) (x5 : Int32) : entryFrame m #[(.int x0), (.int x1), (.int x2), (.int x3), (.int x4), (.int x5)] maxLocals = mkF m 0 #[.val (.int x0), .val (.int x1), .val (.int x2), .val (.int x3), .val (.int x4), .val (.int x5), .unset, .unset, .unset, .unset, .unset, .unset, .unset, .unset, .unset, .unset, .unset, .unset, .unset, .unset, .unset] [] := by first | (simp [entryFrame, mkF, argsToLocals, Value.category, maxLocals]; done) | rfl
def own_Q_law (Z : State) (p0 : Int32) (p1 : Int32) (p2 : Int32) (p3 : Int32) (p4 : Int32) (p5 : Int32) (wY : Addr) (rY : Addr) (wM : Addr) (rM : Addr) (h0 : Heap) (n0 : Nat) (v : Option Value) (h : Heap) (L : List Loc) : Prop := v = some (.int 1) ∧ Fr n0 L
set_option maxRecDepth 65536 in
set_option maxHeartbeats 40000000 in
theorem own_rm_law (l : Launch) (Z : State) (aw : Array Value) (hw : ∀ d ∈ tables_1, d.before aw Z = true) (ws : List Jvm.Cond) (p0 : Int32) (p1 : Int32) (p2 : Int32) (p3 : Int32) (p4 : Int32) (p5 : Int32) (wY : Addr) (rY : Addr) (wM : Addr) (rM : Addr) (h0 : Heap) (n0 : Nat) (Z0 : n0 ≤ h0.size) (S_Y : Sta Z h0 "java/time/temporal/ChronoField" "YEAR" "Ljava/time/temporal/ChronoField;" (.ref wY)) (Ew_Y : Exa Z h0 wY "java/time/temporal/ChronoField") (Fr_Y : Fld Z h0 wY "java/time/temporal/ChronoField" "range" "Ljava/time/temporal/ValueRange;" (.ref rY)) (Er_Y : Exa Z h0 rY "java/time/temporal/ValueRange") (Fm_Y : Fld Z h0 rY "java/time/temporal/ValueRange" "minSmallest" "J" (.long (-999999999 : Int64))) (Fx_Y : Fld Z h0 rY "java/time/temporal/ValueRange" "maxLargest" "J" (.long (999999999 : Int64))) (S_M : Sta Z h0 "java/time/temporal/ChronoField" "MONTH_OF_YEAR" "Ljava/time/temporal/ChronoField;" (.ref wM)) (Ew_M : Exa Z h0 wM "java/time/temporal/ChronoField") (Fr_M : Fld Z h0 wM "java/time/temporal/ChronoField" "range" "Ljava/time/temporal/ValueRange;" (.ref rM)) (Er_M : Exa Z h0 rM "java/time/temporal/ValueRange") (Fm_M : Fld Z h0 rM "java/time/temporal/ValueRange" "minSmallest" "J" (.long (1 : Int64))) (Fx_M : Fld Z h0 rM "java/time/temporal/ValueRange" "maxLargest" "J" (.long (12 : Int64))) :
    MetFree l x (head1 (Jvm.Cond.code x code maxLocals ret :: ws) room_1) (fun a U => a = #[(.int p0), (.int p1), (.int p2), (.int p3), (.int p4), (.int p5)] ∧ Z.Warmed39 U.vm ∧ U.heap = h0) (fun _ _ _ _ _ => True) (fun _ U o U' => ∃ v L, o = .returned v ∧ own_Q_law Z p0 p1 p2 p3 p4 p5 wY rY wM rM h0 n0 v U'.heap L ∧ FrameEnd U o U' L room_1.cells room_1.slots) := by
  refine MetFree.of_bodySF (plainFor_of_name own_pn1) hisR ?_
  intro p e s m args below meth c s₁ Bd hml0 hP hK
  obtain ⟨rfl, hZ, hh⟩ := hP
  have hx := Bd.exec
  have hby := Bd.bytes
  have hlk : meth.locks = false := BodyLoose.notSynchronized Bd
  have hml : c.maxLocals = 21 := hml0
  have hown : s.vm.findClass "com/example/covenantry/covenantry/model/PeriodEndsHasNextPinLaw" = some m.cls := findClass_of_methodNamed Bd.named
  have hnm := (name_of_methodNamed Bd.named Bd.method).1
  have X0 : Stand p l e room_1 s m #[(.int p0), (.int p1), (.int p2), (.int p3), (.int p4), (.int p5)] below meth c s₁ [] 0 0 := Stand.of_body Bd
  have e0 : s₁.heap = h0 := by rw [← hh, Bd.state]; rfl
  have N0 := Fr.nil n0
  have K0 : Keep h0 h0 [] := Keep.refl _ _
  have pre0 : ∀ t, Steps p.tables e below (s₁.setTop (mkF m 0 #[.val (.int p0), .val (.int p1), .val (.int p2), .val (.int p3), .val (.int p4), .val (.int p5), .unset, .unset, .unset, .unset, .unset, .unset, .unset, .unset, .unset, .unset, .unset, .unset, .unset, .unset, .unset] [])) t → Steps p.tables e below (s₁.setTop (entryFrame m #[(.int p0), (.int p1), (.int p2), (.int p3), (.int p4), (.int p5)] maxLocals)) t := fun t k => castTop (own_ef_0 m p0 p1 p2 p3 p4 p5) k
  show own_Ends p.tables e below (own_Q s (own_Q_law Z p0 p1 p2 p3 p4 p5 wY rY wM rM h0 n0) room_1.cells room_1.slots) (s₁.setTop (entryFrame m #[(.int p0), (.int p1), (.int p2), (.int p3), (.int p4), (.int p5)] maxLocals))
  refine own_step pre0 ?_
  show own_Ends p.tables e below _ (s₁.setTop (mkF m 0 #[.val (.int p0), .val (.int p1), .val (.int p2), .val (.int p3), .val (.int p4), .val (.int p5), .unset, .unset, .unset, .unset, .unset, .unset, .unset, .unset, .unset, .unset, .unset, .unset, .unset, .unset, .unset] []))
  refine own_step (fun _ k => XS.sipush X0.here hx rfl (hb hby at_0) k) ?_
  show own_Ends p.tables e below _ (s₁.setTop (mkF m 3 #[.val (.int p0), .val (.int p1), .val (.int p2), .val (.int p3), .val (.int p4), .val (.int p5), .unset, .unset, .unset, .unset, .unset, .unset, .unset, .unset, .unset, .unset, .unset, .unset, .unset, .unset, .unset] [(.int (2000 : Int32))]))
  refine own_step (fun _ k => XS.iloadN X0.here hx rfl (hb hby at_3) rfl k) ?_
  show own_Ends p.tables e below _ (s₁.setTop (mkF m 4 #[.val (.int p0), .val (.int p1), .val (.int p2), .val (.int p3), .val (.int p4), .val (.int p5), .unset, .unset, .unset, .unset, .unset, .unset, .unset, .unset, .unset, .unset, .unset, .unset, .unset, .unset, .unset] [(.int p0), (.int (2000 : Int32))]))
  refine own_step (fun _ k => XS.bipush X0.here hx rfl (hb hby at_4) k) ?_
  show own_Ends p.tables e below _ (s₁.setTop (mkF m 6 #[.val (.int p0), .val (.int p1), .val (.int p2), .val (.int p3), .val (.int p4), .val (.int p5), .unset, .unset, .unset, .unset, .unset, .unset, .unset, .unset, .unset, .unset, .unset, .unset, .unset, .unset, .unset] [(.int (63 : Int32)), (.int p0), (.int (2000 : Int32))]))
  refine own_step (fun _ k => XS.iand X0.here hx rfl (hb hby at_6) rfl k) ?_
  show own_Ends p.tables e below _ (s₁.setTop (mkF m 7 #[.val (.int p0), .val (.int p1), .val (.int p2), .val (.int p3), .val (.int p4), .val (.int p5), .unset, .unset, .unset, .unset, .unset, .unset, .unset, .unset, .unset, .unset, .unset, .unset, .unset, .unset, .unset] [(.int (p0 &&& (63 : Int32))), (.int (2000 : Int32))]))
  refine own_step (fun _ k => XS.iadd X0.here hx rfl (hb hby at_7) rfl k) ?_
  show own_Ends p.tables e below _ (s₁.setTop (mkF m 8 #[.val (.int p0), .val (.int p1), .val (.int p2), .val (.int p3), .val (.int p4), .val (.int p5), .unset, .unset, .unset, .unset, .unset, .unset, .unset, .unset, .unset, .unset, .unset, .unset, .unset, .unset, .unset] [(.int ((2000 : Int32) + (p0 &&& (63 : Int32))))]))
  obtain ⟨yy, hyy⟩ : ∃ z, z = ((2000 : Int32) + (p0 &&& (63 : Int32))) := ⟨_, rfl⟩
  rw [← hyy]
  show own_Ends p.tables e below _ (s₁.setTop (mkF m 8 #[.val (.int p0), .val (.int p1), .val (.int p2), .val (.int p3), .val (.int p4), .val (.int p5), .unset, .unset, .unset, .unset, .unset, .unset, .unset, .unset, .unset, .unset, .unset, .unset, .unset, .unset, .unset] [(.int yy)]))
  refine own_step (fun _ k => XS.istore X0.here hx rfl (hb hby at_8) rfl (l' := #[.val (.int p0), .val (.int p1), .val (.int p2), .val (.int p3), .val (.int p4), .val (.int p5), .val (.int yy), .unset, .unset, .unset, .unset, .unset, .unset, .unset, .unset, .unset, .unset, .unset, .unset, .unset, .unset]) rfl k) ?_
  show own_Ends p.tables e below _ (s₁.setTop (mkF m 10 #[.val (.int p0), .val (.int p1), .val (.int p2), .val (.int p3), .val (.int p4), .val (.int p5), .val (.int yy), .unset, .unset, .unset, .unset, .unset, .unset, .unset, .unset, .unset, .unset, .unset, .unset, .unset, .unset] []))
  refine own_step (fun _ k => XS.iconst X0.here hx rfl (hb hby at_10) k) ?_
  show own_Ends p.tables e below _ (s₁.setTop (mkF m 11 #[.val (.int p0), .val (.int p1), .val (.int p2), .val (.int p3), .val (.int p4), .val (.int p5), .val (.int yy), .unset, .unset, .unset, .unset, .unset, .unset, .unset, .unset, .unset, .unset, .unset, .unset, .unset, .unset] [(.int (1 : Int32))]))
  refine own_step (fun _ k => XS.iloadN X0.here hx rfl (hb hby at_11) rfl k) ?_
  show own_Ends p.tables e below _ (s₁.setTop (mkF m 12 #[.val (.int p0), .val (.int p1), .val (.int p2), .val (.int p3), .val (.int p4), .val (.int p5), .val (.int yy), .unset, .unset, .unset, .unset, .unset, .unset, .unset, .unset, .unset, .unset, .unset, .unset, .unset, .unset] [(.int p1), (.int (1 : Int32))]))
  refine own_step (fun _ k => X0.ldcInt hx hown (mvT hZ (hw _ (List.mem_of_getElem? (i := 0) rfl))) (g := (mkF m 12 #[.val (.int p0), .val (.int p1), .val (.int p2), .val (.int p3), .val (.int p4), .val (.int p5), .val (.int yy), .unset, .unset, .unset, .unset, .unset, .unset, .unset, .unset, .unset, .unset, .unset, .unset, .unset, .unset] [(.int p1), (.int (1 : Int32))])) rfl (hb hby at_12) _ k) ?_
  show own_Ends p.tables e below _ (s₁.setTop (mkF m 14 #[.val (.int p0), .val (.int p1), .val (.int p2), .val (.int p3), .val (.int p4), .val (.int p5), .val (.int yy), .unset, .unset, .unset, .unset, .unset, .unset, .unset, .unset, .unset, .unset, .unset, .unset, .unset, .unset] [(.int (2147483647 : Int32)), (.int p1), (.int (1 : Int32))]))
  refine own_step (fun _ k => XS.iand X0.here hx rfl (hb hby at_14) rfl k) ?_
  show own_Ends p.tables e below _ (s₁.setTop (mkF m 15 #[.val (.int p0), .val (.int p1), .val (.int p2), .val (.int p3), .val (.int p4), .val (.int p5), .val (.int yy), .unset, .unset, .unset, .unset, .unset, .unset, .unset, .unset, .unset, .unset, .unset, .unset, .unset, .unset] [(.int (p1 &&& (2147483647 : Int32))), (.int (1 : Int32))]))
  refine own_step (fun _ k => XS.bipush X0.here hx rfl (hb hby at_15) k) ?_
  show own_Ends p.tables e below _ (s₁.setTop (mkF m 17 #[.val (.int p0), .val (.int p1), .val (.int p2), .val (.int p3), .val (.int p4), .val (.int p5), .val (.int yy), .unset, .unset, .unset, .unset, .unset, .unset, .unset, .unset, .unset, .unset, .unset, .unset, .unset, .unset] [(.int (12 : Int32)), (.int (p1 &&& (2147483647 : Int32))), (.int (1 : Int32))]))
  refine own_step (fun _ k => iremM X0 hx rfl (hb hby at_17) rfl (by decide) k) ?_
  show own_Ends p.tables e below _ (s₁.setTop (mkF m 18 #[.val (.int p0), .val (.int p1), .val (.int p2), .val (.int p3), .val (.int p4), .val (.int p5), .val (.int yy), .unset, .unset, .unset, .unset, .unset, .unset, .unset, .unset, .unset, .unset, .unset, .unset, .unset, .unset] [(.int ((p1 &&& (2147483647 : Int32)) % (12 : Int32))), (.int (1 : Int32))]))
  refine own_step (fun _ k => XS.iadd X0.here hx rfl (hb hby at_18) rfl k) ?_
  show own_Ends p.tables e below _ (s₁.setTop (mkF m 19 #[.val (.int p0), .val (.int p1), .val (.int p2), .val (.int p3), .val (.int p4), .val (.int p5), .val (.int yy), .unset, .unset, .unset, .unset, .unset, .unset, .unset, .unset, .unset, .unset, .unset, .unset, .unset, .unset] [(.int ((1 : Int32) + ((p1 &&& (2147483647 : Int32)) % (12 : Int32))))]))
  obtain ⟨mm, hmm⟩ : ∃ z, z = ((1 : Int32) + ((p1 &&& (2147483647 : Int32)) % (12 : Int32))) := ⟨_, rfl⟩
  rw [← hmm]
  show own_Ends p.tables e below _ (s₁.setTop (mkF m 19 #[.val (.int p0), .val (.int p1), .val (.int p2), .val (.int p3), .val (.int p4), .val (.int p5), .val (.int yy), .unset, .unset, .unset, .unset, .unset, .unset, .unset, .unset, .unset, .unset, .unset, .unset, .unset, .unset] [(.int mm)]))
  refine own_step (fun _ k => XS.istore X0.here hx rfl (hb hby at_19) rfl (l' := #[.val (.int p0), .val (.int p1), .val (.int p2), .val (.int p3), .val (.int p4), .val (.int p5), .val (.int yy), .val (.int mm), .unset, .unset, .unset, .unset, .unset, .unset, .unset, .unset, .unset, .unset, .unset, .unset, .unset]) rfl k) ?_
  show own_Ends p.tables e below _ (s₁.setTop (mkF m 21 #[.val (.int p0), .val (.int p1), .val (.int p2), .val (.int p3), .val (.int p4), .val (.int p5), .val (.int yy), .val (.int mm), .unset, .unset, .unset, .unset, .unset, .unset, .unset, .unset, .unset, .unset, .unset, .unset, .unset] []))
  refine own_step (fun _ k => XS.iconst X0.here hx rfl (hb hby at_21) k) ?_
  show own_Ends p.tables e below _ (s₁.setTop (mkF m 22 #[.val (.int p0), .val (.int p1), .val (.int p2), .val (.int p3), .val (.int p4), .val (.int p5), .val (.int yy), .val (.int mm), .unset, .unset, .unset, .unset, .unset, .unset, .unset, .unset, .unset, .unset, .unset, .unset, .unset] [(.int (1 : Int32))]))
  refine own_step (fun _ k => XS.iloadN X0.here hx rfl (hb hby at_22) rfl k) ?_
  show own_Ends p.tables e below _ (s₁.setTop (mkF m 23 #[.val (.int p0), .val (.int p1), .val (.int p2), .val (.int p3), .val (.int p4), .val (.int p5), .val (.int yy), .val (.int mm), .unset, .unset, .unset, .unset, .unset, .unset, .unset, .unset, .unset, .unset, .unset, .unset, .unset] [(.int p2), (.int (1 : Int32))]))
  refine own_step (fun _ k => X0.ldcInt hx hown (mvT hZ (hw _ (List.mem_of_getElem? (i := 0) rfl))) (g := (mkF m 23 #[.val (.int p0), .val (.int p1), .val (.int p2), .val (.int p3), .val (.int p4), .val (.int p5), .val (.int yy), .val (.int mm), .unset, .unset, .unset, .unset, .unset, .unset, .unset, .unset, .unset, .unset, .unset, .unset, .unset] [(.int p2), (.int (1 : Int32))])) rfl (hb hby at_23) _ k) ?_
  show own_Ends p.tables e below _ (s₁.setTop (mkF m 25 #[.val (.int p0), .val (.int p1), .val (.int p2), .val (.int p3), .val (.int p4), .val (.int p5), .val (.int yy), .val (.int mm), .unset, .unset, .unset, .unset, .unset, .unset, .unset, .unset, .unset, .unset, .unset, .unset, .unset] [(.int (2147483647 : Int32)), (.int p2), (.int (1 : Int32))]))
  refine own_step (fun _ k => XS.iand X0.here hx rfl (hb hby at_25) rfl k) ?_
  show own_Ends p.tables e below _ (s₁.setTop (mkF m 26 #[.val (.int p0), .val (.int p1), .val (.int p2), .val (.int p3), .val (.int p4), .val (.int p5), .val (.int yy), .val (.int mm), .unset, .unset, .unset, .unset, .unset, .unset, .unset, .unset, .unset, .unset, .unset, .unset, .unset] [(.int (p2 &&& (2147483647 : Int32))), (.int (1 : Int32))]))
  refine own_step (fun _ k => XS.bipush X0.here hx rfl (hb hby at_26) k) ?_
  show own_Ends p.tables e below _ (s₁.setTop (mkF m 28 #[.val (.int p0), .val (.int p1), .val (.int p2), .val (.int p3), .val (.int p4), .val (.int p5), .val (.int yy), .val (.int mm), .unset, .unset, .unset, .unset, .unset, .unset, .unset, .unset, .unset, .unset, .unset, .unset, .unset] [(.int (28 : Int32)), (.int (p2 &&& (2147483647 : Int32))), (.int (1 : Int32))]))
  refine own_step (fun _ k => iremM X0 hx rfl (hb hby at_28) rfl (by decide) k) ?_
  show own_Ends p.tables e below _ (s₁.setTop (mkF m 29 #[.val (.int p0), .val (.int p1), .val (.int p2), .val (.int p3), .val (.int p4), .val (.int p5), .val (.int yy), .val (.int mm), .unset, .unset, .unset, .unset, .unset, .unset, .unset, .unset, .unset, .unset, .unset, .unset, .unset] [(.int ((p2 &&& (2147483647 : Int32)) % (28 : Int32))), (.int (1 : Int32))]))
  refine own_step (fun _ k => XS.iadd X0.here hx rfl (hb hby at_29) rfl k) ?_
  show own_Ends p.tables e below _ (s₁.setTop (mkF m 30 #[.val (.int p0), .val (.int p1), .val (.int p2), .val (.int p3), .val (.int p4), .val (.int p5), .val (.int yy), .val (.int mm), .unset, .unset, .unset, .unset, .unset, .unset, .unset, .unset, .unset, .unset, .unset, .unset, .unset] [(.int ((1 : Int32) + ((p2 &&& (2147483647 : Int32)) % (28 : Int32))))]))
  obtain ⟨dd, hdd⟩ : ∃ z, z = ((1 : Int32) + ((p2 &&& (2147483647 : Int32)) % (28 : Int32))) := ⟨_, rfl⟩
  rw [← hdd]
  show own_Ends p.tables e below _ (s₁.setTop (mkF m 30 #[.val (.int p0), .val (.int p1), .val (.int p2), .val (.int p3), .val (.int p4), .val (.int p5), .val (.int yy), .val (.int mm), .unset, .unset, .unset, .unset, .unset, .unset, .unset, .unset, .unset, .unset, .unset, .unset, .unset] [(.int dd)]))
  refine own_step (fun _ k => XS.istore X0.here hx rfl (hb hby at_30) rfl (l' := #[.val (.int p0), .val (.int p1), .val (.int p2), .val (.int p3), .val (.int p4), .val (.int p5), .val (.int yy), .val (.int mm), .val (.int dd), .unset, .unset, .unset, .unset, .unset, .unset, .unset, .unset, .unset, .unset, .unset, .unset]) rfl k) ?_
  show own_Ends p.tables e below _ (s₁.setTop (mkF m 32 #[.val (.int p0), .val (.int p1), .val (.int p2), .val (.int p3), .val (.int p4), .val (.int p5), .val (.int yy), .val (.int mm), .val (.int dd), .unset, .unset, .unset, .unset, .unset, .unset, .unset, .unset, .unset, .unset, .unset, .unset] []))
  refine own_step (fun _ k => XS.iconst X0.here hx rfl (hb hby at_32) k) ?_
  show own_Ends p.tables e below _ (s₁.setTop (mkF m 33 #[.val (.int p0), .val (.int p1), .val (.int p2), .val (.int p3), .val (.int p4), .val (.int p5), .val (.int yy), .val (.int mm), .val (.int dd), .unset, .unset, .unset, .unset, .unset, .unset, .unset, .unset, .unset, .unset, .unset, .unset] [(.int (1 : Int32))]))
  refine own_step (fun _ k => XS.iloadN X0.here hx rfl (hb hby at_33) rfl k) ?_
  show own_Ends p.tables e below _ (s₁.setTop (mkF m 34 #[.val (.int p0), .val (.int p1), .val (.int p2), .val (.int p3), .val (.int p4), .val (.int p5), .val (.int yy), .val (.int mm), .val (.int dd), .unset, .unset, .unset, .unset, .unset, .unset, .unset, .unset, .unset, .unset, .unset, .unset] [(.int p3), (.int (1 : Int32))]))
  refine own_step (fun _ k => X0.ldcInt hx hown (mvT hZ (hw _ (List.mem_of_getElem? (i := 0) rfl))) (g := (mkF m 34 #[.val (.int p0), .val (.int p1), .val (.int p2), .val (.int p3), .val (.int p4), .val (.int p5), .val (.int yy), .val (.int mm), .val (.int dd), .unset, .unset, .unset, .unset, .unset, .unset, .unset, .unset, .unset, .unset, .unset, .unset] [(.int p3), (.int (1 : Int32))])) rfl (hb hby at_34) _ k) ?_
  show own_Ends p.tables e below _ (s₁.setTop (mkF m 36 #[.val (.int p0), .val (.int p1), .val (.int p2), .val (.int p3), .val (.int p4), .val (.int p5), .val (.int yy), .val (.int mm), .val (.int dd), .unset, .unset, .unset, .unset, .unset, .unset, .unset, .unset, .unset, .unset, .unset, .unset] [(.int (2147483647 : Int32)), (.int p3), (.int (1 : Int32))]))
  refine own_step (fun _ k => XS.iand X0.here hx rfl (hb hby at_36) rfl k) ?_
  show own_Ends p.tables e below _ (s₁.setTop (mkF m 37 #[.val (.int p0), .val (.int p1), .val (.int p2), .val (.int p3), .val (.int p4), .val (.int p5), .val (.int yy), .val (.int mm), .val (.int dd), .unset, .unset, .unset, .unset, .unset, .unset, .unset, .unset, .unset, .unset, .unset, .unset] [(.int (p3 &&& (2147483647 : Int32))), (.int (1 : Int32))]))
  refine own_step (fun _ k => XS.bipush X0.here hx rfl (hb hby at_37) k) ?_
  show own_Ends p.tables e below _ (s₁.setTop (mkF m 39 #[.val (.int p0), .val (.int p1), .val (.int p2), .val (.int p3), .val (.int p4), .val (.int p5), .val (.int yy), .val (.int mm), .val (.int dd), .unset, .unset, .unset, .unset, .unset, .unset, .unset, .unset, .unset, .unset, .unset, .unset] [(.int (12 : Int32)), (.int (p3 &&& (2147483647 : Int32))), (.int (1 : Int32))]))
  refine own_step (fun _ k => iremM X0 hx rfl (hb hby at_39) rfl (by decide) k) ?_
  show own_Ends p.tables e below _ (s₁.setTop (mkF m 40 #[.val (.int p0), .val (.int p1), .val (.int p2), .val (.int p3), .val (.int p4), .val (.int p5), .val (.int yy), .val (.int mm), .val (.int dd), .unset, .unset, .unset, .unset, .unset, .unset, .unset, .unset, .unset, .unset, .unset, .unset] [(.int ((p3 &&& (2147483647 : Int32)) % (12 : Int32))), (.int (1 : Int32))]))
  refine own_step (fun _ k => XS.iadd X0.here hx rfl (hb hby at_40) rfl k) ?_
  show own_Ends p.tables e below _ (s₁.setTop (mkF m 41 #[.val (.int p0), .val (.int p1), .val (.int p2), .val (.int p3), .val (.int p4), .val (.int p5), .val (.int yy), .val (.int mm), .val (.int dd), .unset, .unset, .unset, .unset, .unset, .unset, .unset, .unset, .unset, .unset, .unset, .unset] [(.int ((1 : Int32) + ((p3 &&& (2147483647 : Int32)) % (12 : Int32))))]))
  obtain ⟨mo, hmo⟩ : ∃ z, z = ((1 : Int32) + ((p3 &&& (2147483647 : Int32)) % (12 : Int32))) := ⟨_, rfl⟩
  rw [← hmo]
  show own_Ends p.tables e below _ (s₁.setTop (mkF m 41 #[.val (.int p0), .val (.int p1), .val (.int p2), .val (.int p3), .val (.int p4), .val (.int p5), .val (.int yy), .val (.int mm), .val (.int dd), .unset, .unset, .unset, .unset, .unset, .unset, .unset, .unset, .unset, .unset, .unset, .unset] [(.int mo)]))
  refine own_step (fun _ k => XS.istore X0.here hx rfl (hb hby at_41) rfl (l' := #[.val (.int p0), .val (.int p1), .val (.int p2), .val (.int p3), .val (.int p4), .val (.int p5), .val (.int yy), .val (.int mm), .val (.int dd), .val (.int mo), .unset, .unset, .unset, .unset, .unset, .unset, .unset, .unset, .unset, .unset, .unset]) rfl k) ?_
  show own_Ends p.tables e below _ (s₁.setTop (mkF m 43 #[.val (.int p0), .val (.int p1), .val (.int p2), .val (.int p3), .val (.int p4), .val (.int p5), .val (.int yy), .val (.int mm), .val (.int dd), .val (.int mo), .unset, .unset, .unset, .unset, .unset, .unset, .unset, .unset, .unset, .unset, .unset] []))
  refine own_step (fun _ k => XS.iload X0.here hx rfl (hb hby at_43) rfl k) ?_
  show own_Ends p.tables e below _ (s₁.setTop (mkF m 45 #[.val (.int p0), .val (.int p1), .val (.int p2), .val (.int p3), .val (.int p4), .val (.int p5), .val (.int yy), .val (.int mm), .val (.int dd), .val (.int mo), .unset, .unset, .unset, .unset, .unset, .unset, .unset, .unset, .unset, .unset, .unset] [(.int p4)]))
  refine own_step (fun _ k => X0.ldcInt hx hown (mvT hZ (hw _ (List.mem_of_getElem? (i := 0) rfl))) (g := (mkF m 45 #[.val (.int p0), .val (.int p1), .val (.int p2), .val (.int p3), .val (.int p4), .val (.int p5), .val (.int yy), .val (.int mm), .val (.int dd), .val (.int mo), .unset, .unset, .unset, .unset, .unset, .unset, .unset, .unset, .unset, .unset, .unset] [(.int p4)])) rfl (hb hby at_45) _ k) ?_
  show own_Ends p.tables e below _ (s₁.setTop (mkF m 47 #[.val (.int p0), .val (.int p1), .val (.int p2), .val (.int p3), .val (.int p4), .val (.int p5), .val (.int yy), .val (.int mm), .val (.int dd), .val (.int mo), .unset, .unset, .unset, .unset, .unset, .unset, .unset, .unset, .unset, .unset, .unset] [(.int (2147483647 : Int32)), (.int p4)]))
  refine own_step (fun _ k => XS.iand X0.here hx rfl (hb hby at_47) rfl k) ?_
  show own_Ends p.tables e below _ (s₁.setTop (mkF m 48 #[.val (.int p0), .val (.int p1), .val (.int p2), .val (.int p3), .val (.int p4), .val (.int p5), .val (.int yy), .val (.int mm), .val (.int dd), .val (.int mo), .unset, .unset, .unset, .unset, .unset, .unset, .unset, .unset, .unset, .unset, .unset] [(.int (p4 &&& (2147483647 : Int32)))]))
  refine own_step (fun _ k => XS.bipush X0.here hx rfl (hb hby at_48) k) ?_
  show own_Ends p.tables e below _ (s₁.setTop (mkF m 50 #[.val (.int p0), .val (.int p1), .val (.int p2), .val (.int p3), .val (.int p4), .val (.int p5), .val (.int yy), .val (.int mm), .val (.int dd), .val (.int mo), .unset, .unset, .unset, .unset, .unset, .unset, .unset, .unset, .unset, .unset, .unset] [(.int (40 : Int32)), (.int (p4 &&& (2147483647 : Int32)))]))
  refine own_step (fun _ k => iremM X0 hx rfl (hb hby at_50) rfl (by decide) k) ?_
  show own_Ends p.tables e below _ (s₁.setTop (mkF m 51 #[.val (.int p0), .val (.int p1), .val (.int p2), .val (.int p3), .val (.int p4), .val (.int p5), .val (.int yy), .val (.int mm), .val (.int dd), .val (.int mo), .unset, .unset, .unset, .unset, .unset, .unset, .unset, .unset, .unset, .unset, .unset] [(.int ((p4 &&& (2147483647 : Int32)) % (40 : Int32)))]))
  refine own_step (fun _ k => XS.iconst X0.here hx rfl (hb hby at_51) k) ?_
  show own_Ends p.tables e below _ (s₁.setTop (mkF m 52 #[.val (.int p0), .val (.int p1), .val (.int p2), .val (.int p3), .val (.int p4), .val (.int p5), .val (.int yy), .val (.int mm), .val (.int dd), .val (.int mo), .unset, .unset, .unset, .unset, .unset, .unset, .unset, .unset, .unset, .unset, .unset] [(.int (4 : Int32)), (.int ((p4 &&& (2147483647 : Int32)) % (40 : Int32)))]))
  refine own_step (fun _ k => XS.isub X0.here hx rfl (hb hby at_52) rfl k) ?_
  show own_Ends p.tables e below _ (s₁.setTop (mkF m 53 #[.val (.int p0), .val (.int p1), .val (.int p2), .val (.int p3), .val (.int p4), .val (.int p5), .val (.int yy), .val (.int mm), .val (.int dd), .val (.int mo), .unset, .unset, .unset, .unset, .unset, .unset, .unset, .unset, .unset, .unset, .unset] [(.int (((p4 &&& (2147483647 : Int32)) % (40 : Int32)) - (4 : Int32)))]))
  obtain ⟨de, hde⟩ : ∃ z, z = (((p4 &&& (2147483647 : Int32)) % (40 : Int32)) - (4 : Int32)) := ⟨_, rfl⟩
  rw [← hde]
  show own_Ends p.tables e below _ (s₁.setTop (mkF m 53 #[.val (.int p0), .val (.int p1), .val (.int p2), .val (.int p3), .val (.int p4), .val (.int p5), .val (.int yy), .val (.int mm), .val (.int dd), .val (.int mo), .unset, .unset, .unset, .unset, .unset, .unset, .unset, .unset, .unset, .unset, .unset] [(.int de)]))
  refine own_step (fun _ k => XS.istore X0.here hx rfl (hb hby at_53) rfl (l' := #[.val (.int p0), .val (.int p1), .val (.int p2), .val (.int p3), .val (.int p4), .val (.int p5), .val (.int yy), .val (.int mm), .val (.int dd), .val (.int mo), .val (.int de), .unset, .unset, .unset, .unset, .unset, .unset, .unset, .unset, .unset, .unset]) rfl k) ?_
  show own_Ends p.tables e below _ (s₁.setTop (mkF m 55 #[.val (.int p0), .val (.int p1), .val (.int p2), .val (.int p3), .val (.int p4), .val (.int p5), .val (.int yy), .val (.int mm), .val (.int dd), .val (.int mo), .val (.int de), .unset, .unset, .unset, .unset, .unset, .unset, .unset, .unset, .unset, .unset] []))
  refine own_step (fun _ k => XS.iconst X0.here hx rfl (hb hby at_55) k) ?_
  show own_Ends p.tables e below _ (s₁.setTop (mkF m 56 #[.val (.int p0), .val (.int p1), .val (.int p2), .val (.int p3), .val (.int p4), .val (.int p5), .val (.int yy), .val (.int mm), .val (.int dd), .val (.int mo), .val (.int de), .unset, .unset, .unset, .unset, .unset, .unset, .unset, .unset, .unset, .unset] [(.int (1 : Int32))]))
  refine own_step (fun _ k => XS.iload X0.here hx rfl (hb hby at_56) rfl k) ?_
  show own_Ends p.tables e below _ (s₁.setTop (mkF m 58 #[.val (.int p0), .val (.int p1), .val (.int p2), .val (.int p3), .val (.int p4), .val (.int p5), .val (.int yy), .val (.int mm), .val (.int dd), .val (.int mo), .val (.int de), .unset, .unset, .unset, .unset, .unset, .unset, .unset, .unset, .unset, .unset] [(.int p5), (.int (1 : Int32))]))
  refine own_step (fun _ k => X0.ldcInt hx hown (mvT hZ (hw _ (List.mem_of_getElem? (i := 0) rfl))) (g := (mkF m 58 #[.val (.int p0), .val (.int p1), .val (.int p2), .val (.int p3), .val (.int p4), .val (.int p5), .val (.int yy), .val (.int mm), .val (.int dd), .val (.int mo), .val (.int de), .unset, .unset, .unset, .unset, .unset, .unset, .unset, .unset, .unset, .unset] [(.int p5), (.int (1 : Int32))])) rfl (hb hby at_58) _ k) ?_
  show own_Ends p.tables e below _ (s₁.setTop (mkF m 60 #[.val (.int p0), .val (.int p1), .val (.int p2), .val (.int p3), .val (.int p4), .val (.int p5), .val (.int yy), .val (.int mm), .val (.int dd), .val (.int mo), .val (.int de), .unset, .unset, .unset, .unset, .unset, .unset, .unset, .unset, .unset, .unset] [(.int (2147483647 : Int32)), (.int p5), (.int (1 : Int32))]))
  refine own_step (fun _ k => XS.iand X0.here hx rfl (hb hby at_60) rfl k) ?_
  show own_Ends p.tables e below _ (s₁.setTop (mkF m 61 #[.val (.int p0), .val (.int p1), .val (.int p2), .val (.int p3), .val (.int p4), .val (.int p5), .val (.int yy), .val (.int mm), .val (.int dd), .val (.int mo), .val (.int de), .unset, .unset, .unset, .unset, .unset, .unset, .unset, .unset, .unset, .unset] [(.int (p5 &&& (2147483647 : Int32))), (.int (1 : Int32))]))
  refine own_step (fun _ k => XS.bipush X0.here hx rfl (hb hby at_61) k) ?_
  show own_Ends p.tables e below _ (s₁.setTop (mkF m 63 #[.val (.int p0), .val (.int p1), .val (.int p2), .val (.int p3), .val (.int p4), .val (.int p5), .val (.int yy), .val (.int mm), .val (.int dd), .val (.int mo), .val (.int de), .unset, .unset, .unset, .unset, .unset, .unset, .unset, .unset, .unset, .unset] [(.int (28 : Int32)), (.int (p5 &&& (2147483647 : Int32))), (.int (1 : Int32))]))
  refine own_step (fun _ k => iremM X0 hx rfl (hb hby at_63) rfl (by decide) k) ?_
  show own_Ends p.tables e below _ (s₁.setTop (mkF m 64 #[.val (.int p0), .val (.int p1), .val (.int p2), .val (.int p3), .val (.int p4), .val (.int p5), .val (.int yy), .val (.int mm), .val (.int dd), .val (.int mo), .val (.int de), .unset, .unset, .unset, .unset, .unset, .unset, .unset, .unset, .unset, .unset] [(.int ((p5 &&& (2147483647 : Int32)) % (28 : Int32))), (.int (1 : Int32))]))
  refine own_step (fun _ k => XS.iadd X0.here hx rfl (hb hby at_64) rfl k) ?_
  show own_Ends p.tables e below _ (s₁.setTop (mkF m 65 #[.val (.int p0), .val (.int p1), .val (.int p2), .val (.int p3), .val (.int p4), .val (.int p5), .val (.int yy), .val (.int mm), .val (.int dd), .val (.int mo), .val (.int de), .unset, .unset, .unset, .unset, .unset, .unset, .unset, .unset, .unset, .unset] [(.int ((1 : Int32) + ((p5 &&& (2147483647 : Int32)) % (28 : Int32))))]))
  obtain ⟨dm, hdm⟩ : ∃ z, z = ((1 : Int32) + ((p5 &&& (2147483647 : Int32)) % (28 : Int32))) := ⟨_, rfl⟩
  rw [← hdm]
  show own_Ends p.tables e below _ (s₁.setTop (mkF m 65 #[.val (.int p0), .val (.int p1), .val (.int p2), .val (.int p3), .val (.int p4), .val (.int p5), .val (.int yy), .val (.int mm), .val (.int dd), .val (.int mo), .val (.int de), .unset, .unset, .unset, .unset, .unset, .unset, .unset, .unset, .unset, .unset] [(.int dm)]))
  refine own_step (fun _ k => XS.istore X0.here hx rfl (hb hby at_65) rfl (l' := #[.val (.int p0), .val (.int p1), .val (.int p2), .val (.int p3), .val (.int p4), .val (.int p5), .val (.int yy), .val (.int mm), .val (.int dd), .val (.int mo), .val (.int de), .val (.int dm), .unset, .unset, .unset, .unset, .unset, .unset, .unset, .unset, .unset]) rfl k) ?_
  show own_Ends p.tables e below _ (s₁.setTop (mkF m 67 #[.val (.int p0), .val (.int p1), .val (.int p2), .val (.int p3), .val (.int p4), .val (.int p5), .val (.int yy), .val (.int mm), .val (.int dd), .val (.int mo), .val (.int de), .val (.int dm), .unset, .unset, .unset, .unset, .unset, .unset, .unset, .unset, .unset] []))
  have ry := own_r63 p0
  have rm := own_rng p1 (12 : Int32) 12 rfl (by omega)
  have rd := own_rng p2 (28 : Int32) 28 rfl (by omega)
  have ro := own_rng p3 (12 : Int32) 12 rfl (by omega)
  have re := own_rng p4 (40 : Int32) 40 rfl (by omega)
  have rt := own_rng p5 (28 : Int32) 28 rfl (by omega)
  have vy : yy.toInt = 2000 + (p0 &&& (63 : Int32)).toInt := by rw [hyy]; exact own_addI (a := (2000 : Int32)) (by show (-2147483648 : Int) ≤ 2000 + _; omega) (by show 2000 + _ ≤ (2147483647 : Int); omega)
  have vmm : mm.toInt = 1 + ((p1 &&& (2147483647 : Int32)) % (12 : Int32)).toInt := by rw [hmm]; exact own_addI (a := (1 : Int32)) (by show (-2147483648 : Int) ≤ 1 + _; omega) (by show 1 + _ ≤ (2147483647 : Int); omega)
  have vdd : dd.toInt = 1 + ((p2 &&& (2147483647 : Int32)) % (28 : Int32)).toInt := by rw [hdd]; exact own_addI (a := (1 : Int32)) (by show (-2147483648 : Int) ≤ 1 + _; omega) (by show 1 + _ ≤ (2147483647 : Int); omega)
  have vmo : mo.toInt = 1 + ((p3 &&& (2147483647 : Int32)) % (12 : Int32)).toInt := by rw [hmo]; exact own_addI (a := (1 : Int32)) (by show (-2147483648 : Int) ≤ 1 + _; omega) (by show 1 + _ ≤ (2147483647 : Int); omega)
  have vdm : dm.toInt = 1 + ((p5 &&& (2147483647 : Int32)) % (28 : Int32)).toInt := by rw [hdm]; exact own_addI (a := (1 : Int32)) (by show (-2147483648 : Int) ≤ 1 + _; omega) (by show 1 + _ ≤ (2147483647 : Int); omega)
  have vde : de.toInt = ((p4 &&& (2147483647 : Int32)) % (40 : Int32)).toInt - 4 := by rw [hde]; exact own_subI (b := (4 : Int32)) (by show (-2147483648 : Int) ≤ _ - 4; omega) (by show _ - 4 ≤ (2147483647 : Int); omega)
  obtain ⟨Y, eY⟩ : ∃ z, z = yy.toInt := ⟨_, rfl⟩
  obtain ⟨M, eM⟩ : ∃ z, z = mm.toInt := ⟨_, rfl⟩
  obtain ⟨D, eD⟩ : ∃ z, z = dd.toInt := ⟨_, rfl⟩
  obtain ⟨Mo, eMo⟩ : ∃ z, z = mo.toInt := ⟨_, rfl⟩
  obtain ⟨De, eDe⟩ : ∃ z, z = de.toInt := ⟨_, rfl⟩
  obtain ⟨Dm, eDm⟩ : ∃ z, z = dm.toInt := ⟨_, rfl⟩
  have hDf : own_Dt (own_pack yy mm dd) Y M D := own_Dt.pack eY.symm eM.symm eD.symm (by omega) (by omega) (by omega) (by omega) (by omega) (by omega)
  have hD0 : own_Dt (own_pack yy mm dd) ((12 * Y + M - 1 + 0 * Mo) / 12) ((12 * Y + M - 1 + 0 * Mo) % 12 + 1) D := by rw [show (12 * Y + M - 1 + 0 * Mo) / 12 = Y by omega, show (12 * Y + M - 1 + 0 * Mo) % 12 + 1 = M by omega]; exact hDf
  have hK : de.toInt64.toInt = De := by rw [Int32.toInt_toInt64]; exact eDe.symm
  have hDp := own_pm_val hDf (by omega) (by omega) hK (by omega) (by omega)
  have hDm := own_wd_val hDp eDm.symm (by omega) (by omega)
  have hY0 : 1950 ≤ Y ∧ Y ≤ 2150 ∧ 1 ≤ M ∧ M ≤ 12 := ⟨by omega, by omega, by omega, by omega⟩
  have hmo1 : (((0 : Int64) + (1 : Int64)) * mo.toInt64).toInt = 1 * Mo ∧ 0 ≤ 1 * Mo ∧ 1 * Mo ≤ 24 := ⟨by rw [own_mulL] <;> rw [Int32.toInt_toInt64, ← eMo] <;> first | rfl | (show (-9223372036854775808 : Int) ≤ 1 * Mo; omega) | (show 1 * Mo ≤ (9223372036854775807 : Int); omega), by omega, by omega⟩
  have hmo2 : (((1 : Int64) + (1 : Int64)) * mo.toInt64).toInt = 2 * Mo ∧ 0 ≤ 2 * Mo ∧ 2 * Mo ≤ 24 := ⟨by rw [own_mulL] <;> rw [Int32.toInt_toInt64, ← eMo] <;> first | rfl | (show (-9223372036854775808 : Int) ≤ 2 * Mo; omega) | (show 2 * Mo ≤ (9223372036854775807 : Int); omega), by omega, by omega⟩
  have hmo3 : (((2 : Int64) + (1 : Int64)) * mo.toInt64).toInt = 3 * Mo ∧ 0 ≤ 3 * Mo ∧ 3 * Mo ≤ 36 := ⟨by rw [own_mulL] <;> rw [Int32.toInt_toInt64, ← eMo] <;> first | rfl | (show (-9223372036854775808 : Int) ≤ 3 * Mo; omega) | (show 3 * Mo ≤ (9223372036854775807 : Int); omega), by omega, by omega⟩
  have hbf0 := fun (s : Int64) (hs : own_Dt s ((12 * Y + M - 1 + 0 * Mo) / 12) ((12 * Y + M - 1 + 0 * Mo) % 12 + 1) D) => own_bf (k := (0 : Int32)) (mo := mo) (de := de) (d := dd) (dm := dm) (X := 12 * Y + M - 1) (Kv := 0) rfl eMo.symm eDe.symm eD.symm eDm.symm (by omega) (by omega) (by omega) (by omega) ⟨0 * Mo, rfl, by omega, by omega⟩ hs hDm
  have hbf1 := fun (s : Int64) (hs : own_Dt s ((12 * Y + M - 1 + 1 * Mo) / 12) ((12 * Y + M - 1 + 1 * Mo) % 12 + 1) D) => own_bf (k := (1 : Int32)) (mo := mo) (de := de) (d := dd) (dm := dm) (X := 12 * Y + M - 1) (Kv := 1) rfl eMo.symm eDe.symm eD.symm eDm.symm (by omega) (by omega) (by omega) (by omega) ⟨1 * Mo, rfl, by omega, by omega⟩ hs hDm
  have hbf2 := fun (s : Int64) (hs : own_Dt s ((12 * Y + M - 1 + 2 * Mo) / 12) ((12 * Y + M - 1 + 2 * Mo) % 12 + 1) D) => own_bf (k := (2 : Int32)) (mo := mo) (de := de) (d := dd) (dm := dm) (X := 12 * Y + M - 1) (Kv := 2) rfl eMo.symm eDe.symm eD.symm eDm.symm (by omega) (by omega) (by omega) (by omega) ⟨2 * Mo, rfl, by omega, by omega⟩ hs hDm
  obtain ⟨T1, h1, X1, e1, E1, A1, D1, -, st1⟩ := newO X0 hx hZ hown (hw _ (List.mem_of_getElem? (i := 1) rfl)) (hw _ (List.mem_of_getElem? (i := 2) rfl)) (hw _ (List.mem_of_getElem? (i := 3) rfl)) e0 (g := (mkF m 67 #[.val (.int p0), .val (.int p1), .val (.int p2), .val (.int p3), .val (.int p4), .val (.int p5), .val (.int yy), .val (.int mm), .val (.int dd), .val (.int mo), .val (.int de), .val (.int dm), .unset, .unset, .unset, .unset, .unset, .unset, .unset, .unset, .unset] [])) rfl (hb hby at_67) (by decide) (by decide)
  obtain ⟨b1, g1⟩ : ∃ z, z = h0.size := ⟨_, rfl⟩
  rw [← g1] at A1 D1 st1
  refine own_step st1 ?_
  have ne_wY_b1 : wY ≠ b1 := Nat.ne_of_lt (Nat.lt_of_lt_of_le Ew_Y.lt (Nat.le_of_eq g1.symm))
  have ne_rY_b1 : rY ≠ b1 := Nat.ne_of_lt (Nat.lt_of_lt_of_le Er_Y.lt (Nat.le_of_eq g1.symm))
  have ne_wM_b1 : wM ≠ b1 := Nat.ne_of_lt (Nat.lt_of_lt_of_le Ew_M.lt (Nat.le_of_eq g1.symm))
  have ne_rM_b1 : rM ≠ b1 := Nat.ne_of_lt (Nat.lt_of_lt_of_le Er_M.lt (Nat.le_of_eq g1.symm))
  have g_b1 : n0 ≤ b1 := Nat.le_trans Z0 (Nat.le_of_eq g1.symm)
  have sz_b1 : h0.size ≤ b1 := Nat.le_trans K0.1 (Nat.le_of_eq g1.symm)
  have S_Y_1 := S_Y.ext E1
  have Ew_Y_1 := Ew_Y.ext E1
  have Fr_Y_1 := Fr_Y.ext E1
  have Er_Y_1 := Er_Y.ext E1
  have Fm_Y_1 := Fm_Y.ext E1
  have Fx_Y_1 := Fx_Y.ext E1
  have S_M_1 := S_M.ext E1
  have Ew_M_1 := Ew_M.ext E1
  have Fr_M_1 := Fr_M.ext E1
  have Er_M_1 := Er_M.ext E1
  have Fm_M_1 := Fm_M.ext E1
  have Fx_M_1 := Fx_M.ext E1
  have K_1 : Keep h0 h1 [] := K0.ext E1
  have Z_1 : n0 ≤ h1.size := Nat.le_trans Z0 E1.1
  have F_scheduled_b1 : Fld Z h1 b1 "com/example/covenantry/covenantry/model/PeriodEnds" "scheduled" "J" (.long (0 : Int64)) := D1 (Or.inl (hw _ (List.mem_of_getElem? (i := 12) rfl))) (ty := .long) (by decide)
  have F_paymentDates_b1 : Fld Z h1 b1 "com/example/covenantry/covenantry/model/PeriodEnds" "paymentDates" "Lcom/example/covenantry/covenantry/model/RecurringDates;" .null := D1 (Or.inl (hw _ (List.mem_of_getElem? (i := 129) rfl))) (ty := (.object "com/example/covenantry/covenantry/model/RecurringDates")) (by decide)
  have F_months_b1 : Fld Z h1 b1 "com/example/covenantry/covenantry/model/PeriodEnds" "months" "I" (.int (0 : Int32)) := D1 (Or.inl (hw _ (List.mem_of_getElem? (i := 131) rfl))) (ty := .int) (by decide)
  have F_firstPaymentDate_b1 : Fld Z h1 b1 "com/example/covenantry/covenantry/model/PeriodEnds" "firstPaymentDate" "J" (.long (0 : Int64)) := D1 (Or.inl (hw _ (List.mem_of_getElem? (i := 137) rfl))) (ty := .long) (by decide)
  have F_maturity_b1 : Fld Z h1 b1 "com/example/covenantry/covenantry/model/PeriodEnds" "maturity" "J" (.long (0 : Int64)) := D1 (Or.inl (hw _ (List.mem_of_getElem? (i := 139) rfl))) (ty := .long) (by decide)
  have F_steps_b1 : Fld Z h1 b1 "com/example/covenantry/covenantry/model/PeriodEnds" "steps" "J" (.long (0 : Int64)) := D1 (Or.inl (hw _ (List.mem_of_getElem? (i := 141) rfl))) (ty := .long) (by decide)
  show own_Ends p.tables e below _ (T1.setTop (mkF m 70 #[.val (.int p0), .val (.int p1), .val (.int p2), .val (.int p3), .val (.int p4), .val (.int p5), .val (.int yy), .val (.int mm), .val (.int dd), .val (.int mo), .val (.int de), .val (.int dm), .unset, .unset, .unset, .unset, .unset, .unset, .unset, .unset, .unset] [(.ref b1)]))
  refine own_step (fun _ k => XS.dup X1.here hx rfl (hb hby at_70) rfl rfl k) ?_
  show own_Ends p.tables e below _ (T1.setTop (mkF m 71 #[.val (.int p0), .val (.int p1), .val (.int p2), .val (.int p3), .val (.int p4), .val (.int p5), .val (.int yy), .val (.int mm), .val (.int dd), .val (.int mo), .val (.int de), .val (.int dm), .unset, .unset, .unset, .unset, .unset, .unset, .unset, .unset, .unset] [(.ref b1), (.ref b1)]))
  obtain ⟨_, _, ⟨T2, L2, k2, n2⟩, -, X2, ⟨Lc2, hQ2, l2, y2, z2⟩, st2⟩ := X1.specialBack hx (y := (⟨"com/example/covenantry/covenantry/model/PeriodEnds", "<init>", "()V"⟩ : MethodName)) rfl hown (mvT hZ (hw _ (List.mem_of_getElem? (i := 4) rfl))) (mvT hZ (hw _ (List.mem_of_getElem? (i := 5) rfl))) (mvT hZ (hw _ (List.mem_of_getElem? (i := 6) rfl))) (by decide) (backOf (W := 1) (own_rm_init l Z aw hw [] b1 h1 n0 Z_1 A1 F_paymentDates_b1 F_firstPaymentDate_b1 F_months_b1 F_steps_b1 F_maturity_b1 F_scheduled_b1 g_b1) hZ (hw _ (List.mem_of_getElem? (i := 6) rfl)) (hw _ (List.mem_of_getElem? (i := 3) rfl)) (by decide) (by decide)) (g := (mkF m 71 #[.val (.int p0), .val (.int p1), .val (.int p2), .val (.int p3), .val (.int p4), .val (.int p5), .val (.int yy), .val (.int mm), .val (.int dd), .val (.int mo), .val (.int de), .val (.int dm), .unset, .unset, .unset, .unset, .unset, .unset, .unset, .unset, .unset] [(.ref b1), (.ref b1)])) rfl (by rw [hml]; rfl) (Steps.refl _) (a := b1) (argsL := []) (rest := [(.ref b1)]) (lenOf own_pd13 rfl) rfl (by show 2 * 0 + _ ≤ _; exact Nat.le_of_eq rfl) (hb hby at_71) (fun _ _ => ⟨rfl, e1, (by decide : 1 + 0 ≤ _), (by decide : 6 + 0 ≤ _)⟩)
  dsimp only [Pt.U, Pt.locs, Pt.cells, Pt.slots] at X2 l2 y2 z2 st2 hQ2
  subst l2 y2 z2
  obtain ⟨rfl, N2q, k2, Fa2, Fb2, Fc2, Fd2, Fe2, Ff2⟩ := hQ2
  have N_2 := Fr.app N0 N2q
  have S_Y_2 := own_Sta_keep S_Y_1 k2 (allS (own_ns_exa A1) all0)
  have Ew_Y_2 := Ew_Y_1.keep k2
  have Fr_Y_2 := Fr_Y_1.keep k2 (ninS ne_wY_b1 nin0)
  have Er_Y_2 := Er_Y_1.keep k2
  have Fm_Y_2 := Fm_Y_1.keep k2 (ninS ne_rY_b1 nin0)
  have Fx_Y_2 := Fx_Y_1.keep k2 (ninS ne_rY_b1 nin0)
  have S_M_2 := own_Sta_keep S_M_1 k2 (allS (own_ns_exa A1) all0)
  have Ew_M_2 := Ew_M_1.keep k2
  have Fr_M_2 := Fr_M_1.keep k2 (ninS ne_wM_b1 nin0)
  have Er_M_2 := Er_M_1.keep k2
  have Fm_M_2 := Fm_M_1.keep k2 (ninS ne_rM_b1 nin0)
  have Fx_M_2 := Fx_M_1.keep k2 (ninS ne_rM_b1 nin0)
  have A1_2 := A1.keep k2
  have K_2 : Keep h0 T2.heap [] := K_1.trans k2 (allS (Or.inr sz_b1) all0)
  have Z_2 : n0 ≤ T2.heap.size := Nat.le_trans Z_1 k2.1
  refine own_step (fun _ k => st2.trans k) ?_
  show own_Ends p.tables e below _ (T2.setTop (mkF m 74 #[.val (.int p0), .val (.int p1), .val (.int p2), .val (.int p3), .val (.int p4), .val (.int p5), .val (.int yy), .val (.int mm), .val (.int dd), .val (.int mo), .val (.int de), .val (.int dm), .unset, .unset, .unset, .unset, .unset, .unset, .unset, .unset, .unset] [(.ref b1)]))
  refine own_step (fun _ k => XS.astore X2.here hx rfl (hb hby at_74) rfl rfl (l' := #[.val (.int p0), .val (.int p1), .val (.int p2), .val (.int p3), .val (.int p4), .val (.int p5), .val (.int yy), .val (.int mm), .val (.int dd), .val (.int mo), .val (.int de), .val (.int dm), .val (.ref b1), .unset, .unset, .unset, .unset, .unset, .unset, .unset, .unset]) rfl k) ?_
  show own_Ends p.tables e below _ (T2.setTop (mkF m 76 #[.val (.int p0), .val (.int p1), .val (.int p2), .val (.int p3), .val (.int p4), .val (.int p5), .val (.int yy), .val (.int mm), .val (.int dd), .val (.int mo), .val (.int de), .val (.int dm), .val (.ref b1), .unset, .unset, .unset, .unset, .unset, .unset, .unset, .unset] []))
  refine own_step (fun _ k => XS.aload X2.here hx rfl (hb hby at_76) rfl rfl k) ?_
  show own_Ends p.tables e below _ (T2.setTop (mkF m 78 #[.val (.int p0), .val (.int p1), .val (.int p2), .val (.int p3), .val (.int p4), .val (.int p5), .val (.int yy), .val (.int mm), .val (.int dd), .val (.int mo), .val (.int de), .val (.int dm), .val (.ref b1), .unset, .unset, .unset, .unset, .unset, .unset, .unset, .unset] [(.ref b1)]))
  obtain ⟨cq3, kq3, q3a, q3b, q3c⟩ := isOf hZ rfl A1_2
  obtain ⟨_, _, ⟨T3, L3, k3, n3⟩, -, X3, ⟨Lc3, hQ3, l3, y3, z3⟩, st3⟩ := X2.virtualBack hx (y := (⟨"com/example/covenantry/covenantry/model/PeriodEnds", "hasNext", "()Z"⟩ : MethodName)) (z := (⟨"com/example/covenantry/covenantry/model/PeriodEnds", "hasNext", "()Z"⟩ : MethodName)) hown (mvT hZ (hw _ (List.mem_of_getElem? (i := 13) rfl))) (mvT hZ (hw _ (List.mem_of_getElem? (i := 14) rfl))) (notFace_of_selects (args := #[]) (mvT hZ (hw _ (List.mem_of_getElem? (i := 16) rfl)))) (mvT hZ (hw _ (List.mem_of_getElem? (i := 16) rfl))) (mvT hZ (hw _ (List.mem_of_getElem? (i := 15) rfl))) (by decide) (backOf (W := 0) (own_rm_hasNext l Z aw hw [] b1 (-9223372036854775808 : Int64) T2.heap n0 Z_2 Ff2) hZ (hw _ (List.mem_of_getElem? (i := 17) rfl)) (hw _ (List.mem_of_getElem? (i := 3) rfl)) (by decide) (by decide)) q3a q3c (g := (mkF m 78 #[.val (.int p0), .val (.int p1), .val (.int p2), .val (.int p3), .val (.int p4), .val (.int p5), .val (.int yy), .val (.int mm), .val (.int dd), .val (.int mo), .val (.int de), .val (.int dm), .val (.ref b1), .unset, .unset, .unset, .unset, .unset, .unset, .unset, .unset] [(.ref b1)])) rfl (by rw [hml]; rfl) (Steps.refl _) (argsL := []) (rest := []) (lenOf own_pd2 rfl) rfl (by show 2 * 0 + _ ≤ _; exact Nat.le_of_eq rfl) (hb hby at_78) (fun _ _ => ⟨rfl, rfl, (by decide : 1 + 0 ≤ _), (by decide : 6 + 0 ≤ _)⟩)
  dsimp only [Pt.U, Pt.locs, Pt.cells, Pt.slots] at X3 l3 y3 z3 st3 hQ3
  subst l3 y3 z3
  obtain ⟨rfl, N3q, e3⟩ := hQ3
  have N_3 := Fr.app N_2 N3q
  refine own_step (fun _ k => st3.trans k) ?_
  show own_Ends p.tables e below _ (T3.setTop (mkF m 81 #[.val (.int p0), .val (.int p1), .val (.int p2), .val (.int p3), .val (.int p4), .val (.int p5), .val (.int yy), .val (.int mm), .val (.int dd), .val (.int mo), .val (.int de), .val (.int dm), .val (.ref b1), .unset, .unset, .unset, .unset, .unset, .unset, .unset, .unset] [(.int (own_hn (-9223372036854775808 : Int64)))]))
  refine own_step (fun _ k => XS.ifNo X3.here hx rfl (hb hby at_81) rfl ((if0 _ _).trans (teq rfl).2) k) ?_
  show own_Ends p.tables e below _ (T3.setTop (mkF m 84 #[.val (.int p0), .val (.int p1), .val (.int p2), .val (.int p3), .val (.int p4), .val (.int p5), .val (.int yy), .val (.int mm), .val (.int dd), .val (.int mo), .val (.int de), .val (.int dm), .val (.ref b1), .unset, .unset, .unset, .unset, .unset, .unset, .unset, .unset] []))
  refine own_step (fun _ k => XS.iconst X3.here hx rfl (hb hby at_84) k) ?_
  show own_Ends p.tables e below _ (T3.setTop (mkF m 85 #[.val (.int p0), .val (.int p1), .val (.int p2), .val (.int p3), .val (.int p4), .val (.int p5), .val (.int yy), .val (.int mm), .val (.int dd), .val (.int mo), .val (.int de), .val (.int dm), .val (.ref b1), .unset, .unset, .unset, .unset, .unset, .unset, .unset, .unset] [(.int (1 : Int32))]))
  refine own_step (fun _ k => XS.goto X3.here hx rfl (pc0 := 85) (pc' := 89) rfl (hb hby at_85) (by decide) (by decide) k) ?_
  show own_Ends p.tables e below _ (T3.setTop (mkF m 89 #[.val (.int p0), .val (.int p1), .val (.int p2), .val (.int p3), .val (.int p4), .val (.int p5), .val (.int yy), .val (.int mm), .val (.int dd), .val (.int mo), .val (.int de), .val (.int dm), .val (.ref b1), .unset, .unset, .unset, .unset, .unset, .unset, .unset, .unset] [(.int (1 : Int32))]))
  refine own_step (fun _ k => XS.istore X3.here hx rfl (hb hby at_89) rfl (l' := #[.val (.int p0), .val (.int p1), .val (.int p2), .val (.int p3), .val (.int p4), .val (.int p5), .val (.int yy), .val (.int mm), .val (.int dd), .val (.int mo), .val (.int de), .val (.int dm), .val (.ref b1), .val (.int (1 : Int32)), .unset, .unset, .unset, .unset, .unset, .unset, .unset]) rfl k) ?_
  show own_Ends p.tables e below _ (T3.setTop (mkF m 91 #[.val (.int p0), .val (.int p1), .val (.int p2), .val (.int p3), .val (.int p4), .val (.int p5), .val (.int yy), .val (.int mm), .val (.int dd), .val (.int mo), .val (.int de), .val (.int dm), .val (.ref b1), .val (.int (1 : Int32)), .unset, .unset, .unset, .unset, .unset, .unset, .unset] []))
  refine own_step (fun _ k => XS.iload X3.here hx rfl (hb hby at_91) rfl k) ?_
  show own_Ends p.tables e below _ (T3.setTop (mkF m 93 #[.val (.int p0), .val (.int p1), .val (.int p2), .val (.int p3), .val (.int p4), .val (.int p5), .val (.int yy), .val (.int mm), .val (.int dd), .val (.int mo), .val (.int de), .val (.int dm), .val (.ref b1), .val (.int (1 : Int32)), .unset, .unset, .unset, .unset, .unset, .unset, .unset] [(.int yy)]))
  refine own_step (fun _ k => XS.iload X3.here hx rfl (hb hby at_93) rfl k) ?_
  show own_Ends p.tables e below _ (T3.setTop (mkF m 95 #[.val (.int p0), .val (.int p1), .val (.int p2), .val (.int p3), .val (.int p4), .val (.int p5), .val (.int yy), .val (.int mm), .val (.int dd), .val (.int mo), .val (.int de), .val (.int dm), .val (.ref b1), .val (.int (1 : Int32)), .unset, .unset, .unset, .unset, .unset, .unset, .unset] [(.int mm), (.int yy)]))
  refine own_step (fun _ k => XS.iload X3.here hx rfl (hb hby at_95) rfl k) ?_
  show own_Ends p.tables e below _ (T3.setTop (mkF m 97 #[.val (.int p0), .val (.int p1), .val (.int p2), .val (.int p3), .val (.int p4), .val (.int p5), .val (.int yy), .val (.int mm), .val (.int dd), .val (.int mo), .val (.int de), .val (.int dm), .val (.ref b1), .val (.int (1 : Int32)), .unset, .unset, .unset, .unset, .unset, .unset, .unset] [(.int dd), (.int mm), (.int yy)]))
  obtain ⟨_, _, ⟨T4, L4, k4, n4⟩, -, X4, ⟨Lc4, hQ4, l4, y4, z4⟩, st4⟩ := Jvm.LawKit.callS X3 hx (y := (⟨"com/example/covenantry/covenantry/model/PackedDates", "of", "(III)J"⟩ : MethodName)) hown (mvT hZ (hw _ (List.mem_of_getElem? (i := 18) rfl))) (mvT hZ (hw _ (List.mem_of_getElem? (i := 19) rfl))) (mvT hZ (hw _ (List.mem_of_getElem? (i := 20) rfl))) (mvT hZ (hw _ (List.mem_of_getElem? (i := 21) rfl))) (by decide) (backOf (W := 0) (own_rm_of l Z aw hw [] yy mm dd wY rY wM rM T2.heap n0 Z_2 S_Y_2 Ew_Y_2 Fr_Y_2 Er_Y_2 Fm_Y_2 Fx_Y_2 S_M_2 Ew_M_2 Fr_M_2 Er_M_2 Fm_M_2 Fx_M_2 (by omega) (by omega) (by omega) (by omega) (by omega) (by omega)) hZ (hw _ (List.mem_of_getElem? (i := 21) rfl)) (hw _ (List.mem_of_getElem? (i := 20) rfl)) (by decide) (by decide)) (g := (mkF m 97 #[.val (.int p0), .val (.int p1), .val (.int p2), .val (.int p3), .val (.int p4), .val (.int p5), .val (.int yy), .val (.int mm), .val (.int dd), .val (.int mo), .val (.int de), .val (.int dm), .val (.ref b1), .val (.int (1 : Int32)), .unset, .unset, .unset, .unset, .unset, .unset, .unset] [(.int dd), (.int mm), (.int yy)])) rfl (by rw [hml]; rfl) (argsL := [(.int yy), (.int mm), (.int dd)]) (rest := []) (lenOf own_pd9 rfl) rfl (by show 2 * 0 + _ ≤ _; exact Nat.le_of_eq rfl) (hb hby at_97) (fun _ _ => ⟨rfl, e3, (by decide : 1 + 0 ≤ _), (by decide : 6 + 0 ≤ _)⟩)
  dsimp only [Pt.U, Pt.locs, Pt.cells, Pt.slots] at X4 l4 y4 z4 st4 hQ4
  subst l4 y4 z4
  obtain ⟨rfl, N4q, e4⟩ := hQ4
  have N_4 := Fr.app N_3 N4q
  refine own_step st4 ?_
  show own_Ends p.tables e below _ (T4.setTop (mkF m 100 #[.val (.int p0), .val (.int p1), .val (.int p2), .val (.int p3), .val (.int p4), .val (.int p5), .val (.int yy), .val (.int mm), .val (.int dd), .val (.int mo), .val (.int de), .val (.int dm), .val (.ref b1), .val (.int (1 : Int32)), .unset, .unset, .unset, .unset, .unset, .unset, .unset] [(.long (own_pack yy mm dd))]))
  refine own_step (fun _ k => XS.lstore X4.here hx rfl (hb hby at_100) rfl (l' := #[.val (.int p0), .val (.int p1), .val (.int p2), .val (.int p3), .val (.int p4), .val (.int p5), .val (.int yy), .val (.int mm), .val (.int dd), .val (.int mo), .val (.int de), .val (.int dm), .val (.ref b1), .val (.int (1 : Int32)), .val (.long (own_pack yy mm dd)), .second, .unset, .unset, .unset, .unset, .unset]) rfl k) ?_
  show own_Ends p.tables e below _ (T4.setTop (mkF m 102 #[.val (.int p0), .val (.int p1), .val (.int p2), .val (.int p3), .val (.int p4), .val (.int p5), .val (.int yy), .val (.int mm), .val (.int dd), .val (.int mo), .val (.int de), .val (.int dm), .val (.ref b1), .val (.int (1 : Int32)), .val (.long (own_pack yy mm dd)), .second, .unset, .unset, .unset, .unset, .unset] []))
  refine own_step (fun _ k => XS.lload X4.here hx rfl (hb hby at_102) rfl k) ?_
  show own_Ends p.tables e below _ (T4.setTop (mkF m 104 #[.val (.int p0), .val (.int p1), .val (.int p2), .val (.int p3), .val (.int p4), .val (.int p5), .val (.int yy), .val (.int mm), .val (.int dd), .val (.int mo), .val (.int de), .val (.int dm), .val (.ref b1), .val (.int (1 : Int32)), .val (.long (own_pack yy mm dd)), .second, .unset, .unset, .unset, .unset, .unset] [(.long (own_pack yy mm dd))]))
  refine own_step (fun _ k => XS.iload X4.here hx rfl (hb hby at_104) rfl k) ?_
  show own_Ends p.tables e below _ (T4.setTop (mkF m 106 #[.val (.int p0), .val (.int p1), .val (.int p2), .val (.int p3), .val (.int p4), .val (.int p5), .val (.int yy), .val (.int mm), .val (.int dd), .val (.int mo), .val (.int de), .val (.int dm), .val (.ref b1), .val (.int (1 : Int32)), .val (.long (own_pack yy mm dd)), .second, .unset, .unset, .unset, .unset, .unset] [(.int de), (.long (own_pack yy mm dd))]))
  refine own_step (fun _ k => XS.i2l X4.here hx rfl (hb hby at_106) rfl k) ?_
  show own_Ends p.tables e below _ (T4.setTop (mkF m 107 #[.val (.int p0), .val (.int p1), .val (.int p2), .val (.int p3), .val (.int p4), .val (.int p5), .val (.int yy), .val (.int mm), .val (.int dd), .val (.int mo), .val (.int de), .val (.int dm), .val (.ref b1), .val (.int (1 : Int32)), .val (.long (own_pack yy mm dd)), .second, .unset, .unset, .unset, .unset, .unset] [(.long (de.toInt64)), (.long (own_pack yy mm dd))]))
  obtain ⟨_, _, ⟨T5, L5, k5, n5⟩, -, X5, ⟨Lc5, hQ5, l5, y5, z5⟩, st5⟩ := Jvm.LawKit.callS X4 hx (y := (⟨"com/example/covenantry/covenantry/model/PackedDates", "plusMonths", "(JJ)J"⟩ : MethodName)) hown (mvT hZ (hw _ (List.mem_of_getElem? (i := 68) rfl))) (mvT hZ (hw _ (List.mem_of_getElem? (i := 69) rfl))) (mvT hZ (hw _ (List.mem_of_getElem? (i := 20) rfl))) (mvT hZ (hw _ (List.mem_of_getElem? (i := 70) rfl))) (by decide) (backOf (W := 0) (own_rm_pm l Z aw hw [] (own_pack yy mm dd) (de.toInt64) wY rY T2.heap n0 Z_2 S_Y_2 Ew_Y_2 Fr_Y_2 Er_Y_2 Fm_Y_2 Fx_Y_2 (by rw [own_mc_val hDf hK (by omega) (by omega)]; omega) (by rw [own_mc_val hDf hK (by omega) (by omega)]; omega)) hZ (hw _ (List.mem_of_getElem? (i := 70) rfl)) (hw _ (List.mem_of_getElem? (i := 20) rfl)) (by decide) (by decide)) (g := (mkF m 107 #[.val (.int p0), .val (.int p1), .val (.int p2), .val (.int p3), .val (.int p4), .val (.int p5), .val (.int yy), .val (.int mm), .val (.int dd), .val (.int mo), .val (.int de), .val (.int dm), .val (.ref b1), .val (.int (1 : Int32)), .val (.long (own_pack yy mm dd)), .second, .unset, .unset, .unset, .unset, .unset] [(.long (de.toInt64)), (.long (own_pack yy mm dd))])) rfl (by rw [hml]; rfl) (argsL := [(.long (own_pack yy mm dd)), (.long (de.toInt64))]) (rest := []) (lenOf own_pd0 rfl) rfl (by show 2 * 0 + _ ≤ _; exact Nat.le_of_eq rfl) (hb hby at_107) (fun _ _ => ⟨rfl, e4, (by decide : 1 + 0 ≤ _), (by decide : 6 + 0 ≤ _)⟩)
  dsimp only [Pt.U, Pt.locs, Pt.cells, Pt.slots] at X5 l5 y5 z5 st5 hQ5
  subst l5 y5 z5
  obtain ⟨rfl, N5q, e5⟩ := hQ5
  have N_5 := Fr.app N_4 N5q
  refine own_step st5 ?_
  show own_Ends p.tables e below _ (T5.setTop (mkF m 110 #[.val (.int p0), .val (.int p1), .val (.int p2), .val (.int p3), .val (.int p4), .val (.int p5), .val (.int yy), .val (.int mm), .val (.int dd), .val (.int mo), .val (.int de), .val (.int dm), .val (.ref b1), .val (.int (1 : Int32)), .val (.long (own_pack yy mm dd)), .second, .unset, .unset, .unset, .unset, .unset] [(.long (own_pm (own_pack yy mm dd) (de.toInt64)))]))
  refine own_step (fun _ k => XS.iload X5.here hx rfl (hb hby at_110) rfl k) ?_
  show own_Ends p.tables e below _ (T5.setTop (mkF m 112 #[.val (.int p0), .val (.int p1), .val (.int p2), .val (.int p3), .val (.int p4), .val (.int p5), .val (.int yy), .val (.int mm), .val (.int dd), .val (.int mo), .val (.int de), .val (.int dm), .val (.ref b1), .val (.int (1 : Int32)), .val (.long (own_pack yy mm dd)), .second, .unset, .unset, .unset, .unset, .unset] [(.int dm), (.long (own_pm (own_pack yy mm dd) (de.toInt64)))]))
  obtain ⟨_, _, ⟨T6, L6, k6, n6⟩, -, X6, ⟨Lc6, hQ6, l6, y6, z6⟩, st6⟩ := Jvm.LawKit.callS X5 hx (y := (⟨"com/example/covenantry/covenantry/model/PackedDates", "withDay", "(JI)J"⟩ : MethodName)) hown (mvT hZ (hw _ (List.mem_of_getElem? (i := 119) rfl))) (mvT hZ (hw _ (List.mem_of_getElem? (i := 120) rfl))) (mvT hZ (hw _ (List.mem_of_getElem? (i := 20) rfl))) (mvT hZ (hw _ (List.mem_of_getElem? (i := 121) rfl))) (by decide) (backOf (W := 0) (own_rm_withDay l Z aw hw [] (own_pm (own_pack yy mm dd) (de.toInt64)) dm T2.heap n0 Z_2 ) hZ (hw _ (List.mem_of_getElem? (i := 121) rfl)) (hw _ (List.mem_of_getElem? (i := 20) rfl)) (by decide) (by decide)) (g := (mkF m 112 #[.val (.int p0), .val (.int p1), .val (.int p2), .val (.int p3), .val (.int p4), .val (.int p5), .val (.int yy), .val (.int mm), .val (.int dd), .val (.int mo), .val (.int de), .val (.int dm), .val (.ref b1), .val (.int (1 : Int32)), .val (.long (own_pack yy mm dd)), .second, .unset, .unset, .unset, .unset, .unset] [(.int dm), (.long (own_pm (own_pack yy mm dd) (de.toInt64)))])) rfl (by rw [hml]; rfl) (argsL := [(.long (own_pm (own_pack yy mm dd) (de.toInt64))), (.int dm)]) (rest := []) (lenOf own_pd11 rfl) rfl (by show 2 * 0 + _ ≤ _; exact Nat.le_of_eq rfl) (hb hby at_112) (fun _ _ => ⟨rfl, e5, (by decide : 1 + 0 ≤ _), (by decide : 6 + 0 ≤ _)⟩)
  dsimp only [Pt.U, Pt.locs, Pt.cells, Pt.slots] at X6 l6 y6 z6 st6 hQ6
  subst l6 y6 z6
  obtain ⟨rfl, N6q, e6⟩ := hQ6
  have N_6 := Fr.app N_5 N6q
  refine own_step st6 ?_
  show own_Ends p.tables e below _ (T6.setTop (mkF m 115 #[.val (.int p0), .val (.int p1), .val (.int p2), .val (.int p3), .val (.int p4), .val (.int p5), .val (.int yy), .val (.int mm), .val (.int dd), .val (.int mo), .val (.int de), .val (.int dm), .val (.ref b1), .val (.int (1 : Int32)), .val (.long (own_pack yy mm dd)), .second, .unset, .unset, .unset, .unset, .unset] [(.long (own_wd (own_pm (own_pack yy mm dd) (de.toInt64)) dm))]))
  refine own_step (fun _ k => XS.lstore X6.here hx rfl (hb hby at_115) rfl (l' := #[.val (.int p0), .val (.int p1), .val (.int p2), .val (.int p3), .val (.int p4), .val (.int p5), .val (.int yy), .val (.int mm), .val (.int dd), .val (.int mo), .val (.int de), .val (.int dm), .val (.ref b1), .val (.int (1 : Int32)), .val (.long (own_pack yy mm dd)), .second, .val (.long (own_wd (own_pm (own_pack yy mm dd) (de.toInt64)) dm)), .second, .unset, .unset, .unset]) rfl k) ?_
  show own_Ends p.tables e below _ (T6.setTop (mkF m 117 #[.val (.int p0), .val (.int p1), .val (.int p2), .val (.int p3), .val (.int p4), .val (.int p5), .val (.int yy), .val (.int mm), .val (.int dd), .val (.int mo), .val (.int de), .val (.int dm), .val (.ref b1), .val (.int (1 : Int32)), .val (.long (own_pack yy mm dd)), .second, .val (.long (own_wd (own_pm (own_pack yy mm dd) (de.toInt64)) dm)), .second, .unset, .unset, .unset] []))
  refine own_step (fun _ k => XS.aload X6.here hx rfl (hb hby at_117) rfl rfl k) ?_
  show own_Ends p.tables e below _ (T6.setTop (mkF m 119 #[.val (.int p0), .val (.int p1), .val (.int p2), .val (.int p3), .val (.int p4), .val (.int p5), .val (.int yy), .val (.int mm), .val (.int dd), .val (.int mo), .val (.int de), .val (.int dm), .val (.ref b1), .val (.int (1 : Int32)), .val (.long (own_pack yy mm dd)), .second, .val (.long (own_wd (own_pm (own_pack yy mm dd) (de.toInt64)) dm)), .second, .unset, .unset, .unset] [(.ref b1)]))
  refine own_step (fun _ k => XS.lload X6.here hx rfl (hb hby at_119) rfl k) ?_
  show own_Ends p.tables e below _ (T6.setTop (mkF m 121 #[.val (.int p0), .val (.int p1), .val (.int p2), .val (.int p3), .val (.int p4), .val (.int p5), .val (.int yy), .val (.int mm), .val (.int dd), .val (.int mo), .val (.int de), .val (.int dm), .val (.ref b1), .val (.int (1 : Int32)), .val (.long (own_pack yy mm dd)), .second, .val (.long (own_wd (own_pm (own_pack yy mm dd) (de.toInt64)) dm)), .second, .unset, .unset, .unset] [(.long (own_pack yy mm dd)), (.ref b1)]))
  refine own_step (fun _ k => XS.iload X6.here hx rfl (hb hby at_121) rfl k) ?_
  show own_Ends p.tables e below _ (T6.setTop (mkF m 123 #[.val (.int p0), .val (.int p1), .val (.int p2), .val (.int p3), .val (.int p4), .val (.int p5), .val (.int yy), .val (.int mm), .val (.int dd), .val (.int mo), .val (.int de), .val (.int dm), .val (.ref b1), .val (.int (1 : Int32)), .val (.long (own_pack yy mm dd)), .second, .val (.long (own_wd (own_pm (own_pack yy mm dd) (de.toInt64)) dm)), .second, .unset, .unset, .unset] [(.int mo), (.long (own_pack yy mm dd)), (.ref b1)]))
  refine own_step (fun _ k => XS.lload X6.here hx rfl (hb hby at_123) rfl k) ?_
  show own_Ends p.tables e below _ (T6.setTop (mkF m 125 #[.val (.int p0), .val (.int p1), .val (.int p2), .val (.int p3), .val (.int p4), .val (.int p5), .val (.int yy), .val (.int mm), .val (.int dd), .val (.int mo), .val (.int de), .val (.int dm), .val (.ref b1), .val (.int (1 : Int32)), .val (.long (own_pack yy mm dd)), .second, .val (.long (own_wd (own_pm (own_pack yy mm dd) (de.toInt64)) dm)), .second, .unset, .unset, .unset] [(.long (own_wd (own_pm (own_pack yy mm dd) (de.toInt64)) dm)), (.int mo), (.long (own_pack yy mm dd)), (.ref b1)]))
  obtain ⟨cq7, kq7, q7a, q7b, q7c⟩ := isOf hZ e6 A1_2
  obtain ⟨_, _, ⟨T7, L7, k7, n7⟩, -, X7, ⟨Lc7, hQ7, l7, y7, z7⟩, st7⟩ := X6.virtualBack hx (y := (⟨"com/example/covenantry/covenantry/model/PeriodEnds", "start", "(JIJ)V"⟩ : MethodName)) (z := (⟨"com/example/covenantry/covenantry/model/PeriodEnds", "start", "(JIJ)V"⟩ : MethodName)) hown (mvT hZ (hw _ (List.mem_of_getElem? (i := 123) rfl))) (mvT hZ (hw _ (List.mem_of_getElem? (i := 124) rfl))) (notFace_of_selects (args := #[]) (mvT hZ (hw _ (List.mem_of_getElem? (i := 126) rfl)))) (mvT hZ (hw _ (List.mem_of_getElem? (i := 126) rfl))) (mvT hZ (hw _ (List.mem_of_getElem? (i := 125) rfl))) (by decide) (backOf (W := 0) (own_rm_start l Z aw hw [] b1 (own_pack yy mm dd) mo (own_wd (own_pm (own_pack yy mm dd) (de.toInt64)) dm) (0 : Int64) (0 : Int32) (0 : Int64) (0 : Int64) (-9223372036854775808 : Int64) T2.heap n0 Z_2 A1_2 Fa2 Fb2 Fc2 Fd2 Fe2 Ff2 g_b1) hZ (hw _ (List.mem_of_getElem? (i := 127) rfl)) (hw _ (List.mem_of_getElem? (i := 3) rfl)) (by decide) (by decide)) q7a q7c (g := (mkF m 125 #[.val (.int p0), .val (.int p1), .val (.int p2), .val (.int p3), .val (.int p4), .val (.int p5), .val (.int yy), .val (.int mm), .val (.int dd), .val (.int mo), .val (.int de), .val (.int dm), .val (.ref b1), .val (.int (1 : Int32)), .val (.long (own_pack yy mm dd)), .second, .val (.long (own_wd (own_pm (own_pack yy mm dd) (de.toInt64)) dm)), .second, .unset, .unset, .unset] [(.long (own_wd (own_pm (own_pack yy mm dd) (de.toInt64)) dm)), (.int mo), (.long (own_pack yy mm dd)), (.ref b1)])) rfl (by rw [hml]; rfl) (Steps.refl _) (argsL := [(.long (own_pack yy mm dd)), (.int mo), (.long (own_wd (own_pm (own_pack yy mm dd) (de.toInt64)) dm))]) (rest := []) (lenOf own_pd15 rfl) rfl (by show 2 * 0 + _ ≤ _; exact Nat.le_of_eq rfl) (hb hby at_125) (fun _ _ => ⟨rfl, e6, (by decide : 1 + 0 ≤ _), (by decide : 6 + 0 ≤ _)⟩)
  dsimp only [Pt.U, Pt.locs, Pt.cells, Pt.slots] at X7 l7 y7 z7 st7 hQ7
  subst l7 y7 z7
  obtain ⟨rfl, N7q, k7, Fa7, Fb7, Fc7, Fd7, Fe7, Ff7⟩ := hQ7
  have N_7 := Fr.app N_6 N7q
  have S_Y_7 := own_Sta_keep S_Y_2 k7 (allS (own_ns_exa A1_2) all0)
  have Ew_Y_7 := Ew_Y_2.keep k7
  have Fr_Y_7 := Fr_Y_2.keep k7 (ninS ne_wY_b1 nin0)
  have Er_Y_7 := Er_Y_2.keep k7
  have Fm_Y_7 := Fm_Y_2.keep k7 (ninS ne_rY_b1 nin0)
  have Fx_Y_7 := Fx_Y_2.keep k7 (ninS ne_rY_b1 nin0)
  have S_M_7 := own_Sta_keep S_M_2 k7 (allS (own_ns_exa A1_2) all0)
  have Ew_M_7 := Ew_M_2.keep k7
  have Fr_M_7 := Fr_M_2.keep k7 (ninS ne_wM_b1 nin0)
  have Er_M_7 := Er_M_2.keep k7
  have Fm_M_7 := Fm_M_2.keep k7 (ninS ne_rM_b1 nin0)
  have Fx_M_7 := Fx_M_2.keep k7 (ninS ne_rM_b1 nin0)
  have A1_7 := A1_2.keep k7
  have K_7 : Keep h0 T7.heap [] := K_2.trans k7 (allS (Or.inr sz_b1) all0)
  have Z_7 : n0 ≤ T7.heap.size := Nat.le_trans Z_2 k7.1
  refine own_step (fun _ k => st7.trans k) ?_
  show own_Ends p.tables e below _ (T7.setTop (mkF m 128 #[.val (.int p0), .val (.int p1), .val (.int p2), .val (.int p3), .val (.int p4), .val (.int p5), .val (.int yy), .val (.int mm), .val (.int dd), .val (.int mo), .val (.int de), .val (.int dm), .val (.ref b1), .val (.int (1 : Int32)), .val (.long (own_pack yy mm dd)), .second, .val (.long (own_wd (own_pm (own_pack yy mm dd) (de.toInt64)) dm)), .second, .unset, .unset, .unset] []))
  refine own_step (fun _ k => XS.iload X7.here hx rfl (hb hby at_128) rfl k) ?_
  show own_Ends p.tables e below _ (T7.setTop (mkF m 130 #[.val (.int p0), .val (.int p1), .val (.int p2), .val (.int p3), .val (.int p4), .val (.int p5), .val (.int yy), .val (.int mm), .val (.int dd), .val (.int mo), .val (.int de), .val (.int dm), .val (.ref b1), .val (.int (1 : Int32)), .val (.long (own_pack yy mm dd)), .second, .val (.long (own_wd (own_pm (own_pack yy mm dd) (de.toInt64)) dm)), .second, .unset, .unset, .unset] [(.int (1 : Int32))]))
  refine own_step (fun _ k => XS.ifNo X7.here hx rfl (hb hby at_130) rfl ((if0 _ _).trans (feq (by decide)).1) k) ?_
  show own_Ends p.tables e below _ (T7.setTop (mkF m 133 #[.val (.int p0), .val (.int p1), .val (.int p2), .val (.int p3), .val (.int p4), .val (.int p5), .val (.int yy), .val (.int mm), .val (.int dd), .val (.int mo), .val (.int de), .val (.int dm), .val (.ref b1), .val (.int (1 : Int32)), .val (.long (own_pack yy mm dd)), .second, .val (.long (own_wd (own_pm (own_pack yy mm dd) (de.toInt64)) dm)), .second, .unset, .unset, .unset] []))
  refine own_step (fun _ k => XS.aload X7.here hx rfl (hb hby at_133) rfl rfl k) ?_
  show own_Ends p.tables e below _ (T7.setTop (mkF m 135 #[.val (.int p0), .val (.int p1), .val (.int p2), .val (.int p3), .val (.int p4), .val (.int p5), .val (.int yy), .val (.int mm), .val (.int dd), .val (.int mo), .val (.int de), .val (.int dm), .val (.ref b1), .val (.int (1 : Int32)), .val (.long (own_pack yy mm dd)), .second, .val (.long (own_wd (own_pm (own_pack yy mm dd) (de.toInt64)) dm)), .second, .unset, .unset, .unset] [(.ref b1)]))
  obtain ⟨cq8, kq8, q8a, q8b, q8c⟩ := isOf hZ rfl A1_7
  obtain ⟨_, _, ⟨T8, L8, k8, n8⟩, -, X8, ⟨Lc8, hQ8, l8, y8, z8⟩, st8⟩ := X7.virtualBack hx (y := (⟨"com/example/covenantry/covenantry/model/PeriodEnds", "hasNext", "()Z"⟩ : MethodName)) (z := (⟨"com/example/covenantry/covenantry/model/PeriodEnds", "hasNext", "()Z"⟩ : MethodName)) hown (mvT hZ (hw _ (List.mem_of_getElem? (i := 13) rfl))) (mvT hZ (hw _ (List.mem_of_getElem? (i := 14) rfl))) (notFace_of_selects (args := #[]) (mvT hZ (hw _ (List.mem_of_getElem? (i := 16) rfl)))) (mvT hZ (hw _ (List.mem_of_getElem? (i := 16) rfl))) (mvT hZ (hw _ (List.mem_of_getElem? (i := 15) rfl))) (by decide) (backOf (W := 0) (own_rm_hasNext l Z aw hw [] b1 (own_pack yy mm dd) T7.heap n0 Z_7 Ff7) hZ (hw _ (List.mem_of_getElem? (i := 17) rfl)) (hw _ (List.mem_of_getElem? (i := 3) rfl)) (by decide) (by decide)) q8a q8c (g := (mkF m 135 #[.val (.int p0), .val (.int p1), .val (.int p2), .val (.int p3), .val (.int p4), .val (.int p5), .val (.int yy), .val (.int mm), .val (.int dd), .val (.int mo), .val (.int de), .val (.int dm), .val (.ref b1), .val (.int (1 : Int32)), .val (.long (own_pack yy mm dd)), .second, .val (.long (own_wd (own_pm (own_pack yy mm dd) (de.toInt64)) dm)), .second, .unset, .unset, .unset] [(.ref b1)])) rfl (by rw [hml]; rfl) (Steps.refl _) (argsL := []) (rest := []) (lenOf own_pd2 rfl) rfl (by show 2 * 0 + _ ≤ _; exact Nat.le_of_eq rfl) (hb hby at_135) (fun _ _ => ⟨rfl, rfl, (by decide : 1 + 0 ≤ _), (by decide : 6 + 0 ≤ _)⟩)
  dsimp only [Pt.U, Pt.locs, Pt.cells, Pt.slots] at X8 l8 y8 z8 st8 hQ8
  subst l8 y8 z8
  obtain ⟨rfl, N8q, e8⟩ := hQ8
  have N_8 := Fr.app N_7 N8q
  refine own_step (fun _ k => st8.trans k) ?_
  show own_Ends p.tables e below _ (T8.setTop (mkF m 138 #[.val (.int p0), .val (.int p1), .val (.int p2), .val (.int p3), .val (.int p4), .val (.int p5), .val (.int yy), .val (.int mm), .val (.int dd), .val (.int mo), .val (.int de), .val (.int dm), .val (.ref b1), .val (.int (1 : Int32)), .val (.long (own_pack yy mm dd)), .second, .val (.long (own_wd (own_pm (own_pack yy mm dd) (de.toInt64)) dm)), .second, .unset, .unset, .unset] [(.int (own_hn (own_pack yy mm dd)))]))
  refine own_step (fun _ k => XS.ifNo X8.here hx rfl (hb hby at_138) rfl ((if0 _ _).trans (feq (fun q => by rw [hDf.hn] at q; exact absurd q (by decide))).1) k) ?_
  show own_Ends p.tables e below _ (T8.setTop (mkF m 141 #[.val (.int p0), .val (.int p1), .val (.int p2), .val (.int p3), .val (.int p4), .val (.int p5), .val (.int yy), .val (.int mm), .val (.int dd), .val (.int mo), .val (.int de), .val (.int dm), .val (.ref b1), .val (.int (1 : Int32)), .val (.long (own_pack yy mm dd)), .second, .val (.long (own_wd (own_pm (own_pack yy mm dd) (de.toInt64)) dm)), .second, .unset, .unset, .unset] []))
  refine own_step (fun _ k => XS.iconst X8.here hx rfl (hb hby at_141) k) ?_
  show own_Ends p.tables e below _ (T8.setTop (mkF m 142 #[.val (.int p0), .val (.int p1), .val (.int p2), .val (.int p3), .val (.int p4), .val (.int p5), .val (.int yy), .val (.int mm), .val (.int dd), .val (.int mo), .val (.int de), .val (.int dm), .val (.ref b1), .val (.int (1 : Int32)), .val (.long (own_pack yy mm dd)), .second, .val (.long (own_wd (own_pm (own_pack yy mm dd) (de.toInt64)) dm)), .second, .unset, .unset, .unset] [(.int (1 : Int32))]))
  refine own_step (fun _ k => XS.goto X8.here hx rfl (pc0 := 142) (pc' := 146) rfl (hb hby at_142) (by decide) (by decide) k) ?_
  show own_Ends p.tables e below _ (T8.setTop (mkF m 146 #[.val (.int p0), .val (.int p1), .val (.int p2), .val (.int p3), .val (.int p4), .val (.int p5), .val (.int yy), .val (.int mm), .val (.int dd), .val (.int mo), .val (.int de), .val (.int dm), .val (.ref b1), .val (.int (1 : Int32)), .val (.long (own_pack yy mm dd)), .second, .val (.long (own_wd (own_pm (own_pack yy mm dd) (de.toInt64)) dm)), .second, .unset, .unset, .unset] [(.int (1 : Int32))]))
  refine own_step (fun _ k => XS.istore X8.here hx rfl (hb hby at_146) rfl (l' := #[.val (.int p0), .val (.int p1), .val (.int p2), .val (.int p3), .val (.int p4), .val (.int p5), .val (.int yy), .val (.int mm), .val (.int dd), .val (.int mo), .val (.int de), .val (.int dm), .val (.ref b1), .val (.int (1 : Int32)), .val (.long (own_pack yy mm dd)), .second, .val (.long (own_wd (own_pm (own_pack yy mm dd) (de.toInt64)) dm)), .second, .unset, .unset, .unset]) rfl k) ?_
  show own_Ends p.tables e below _ (T8.setTop (mkF m 148 #[.val (.int p0), .val (.int p1), .val (.int p2), .val (.int p3), .val (.int p4), .val (.int p5), .val (.int yy), .val (.int mm), .val (.int dd), .val (.int mo), .val (.int de), .val (.int dm), .val (.ref b1), .val (.int (1 : Int32)), .val (.long (own_pack yy mm dd)), .second, .val (.long (own_wd (own_pm (own_pack yy mm dd) (de.toInt64)) dm)), .second, .unset, .unset, .unset] []))
  refine own_step (fun _ k => XS.iconst X8.here hx rfl (hb hby at_148) k) ?_
  show own_Ends p.tables e below _ (T8.setTop (mkF m 149 #[.val (.int p0), .val (.int p1), .val (.int p2), .val (.int p3), .val (.int p4), .val (.int p5), .val (.int yy), .val (.int mm), .val (.int dd), .val (.int mo), .val (.int de), .val (.int dm), .val (.ref b1), .val (.int (1 : Int32)), .val (.long (own_pack yy mm dd)), .second, .val (.long (own_wd (own_pm (own_pack yy mm dd) (de.toInt64)) dm)), .second, .unset, .unset, .unset] [(.int (0 : Int32))]))
  refine own_step (fun _ k => XS.iload X8.here hx rfl (hb hby at_149) rfl k) ?_
  show own_Ends p.tables e below _ (T8.setTop (mkF m 151 #[.val (.int p0), .val (.int p1), .val (.int p2), .val (.int p3), .val (.int p4), .val (.int p5), .val (.int yy), .val (.int mm), .val (.int dd), .val (.int mo), .val (.int de), .val (.int dm), .val (.ref b1), .val (.int (1 : Int32)), .val (.long (own_pack yy mm dd)), .second, .val (.long (own_wd (own_pm (own_pack yy mm dd) (de.toInt64)) dm)), .second, .unset, .unset, .unset] [(.int mo), (.int (0 : Int32))]))
  refine own_step (fun _ k => XS.iload X8.here hx rfl (hb hby at_151) rfl k) ?_
  show own_Ends p.tables e below _ (T8.setTop (mkF m 153 #[.val (.int p0), .val (.int p1), .val (.int p2), .val (.int p3), .val (.int p4), .val (.int p5), .val (.int yy), .val (.int mm), .val (.int dd), .val (.int mo), .val (.int de), .val (.int dm), .val (.ref b1), .val (.int (1 : Int32)), .val (.long (own_pack yy mm dd)), .second, .val (.long (own_wd (own_pm (own_pack yy mm dd) (de.toInt64)) dm)), .second, .unset, .unset, .unset] [(.int de), (.int mo), (.int (0 : Int32))]))
  refine own_step (fun _ k => XS.iload X8.here hx rfl (hb hby at_153) rfl k) ?_
  show own_Ends p.tables e below _ (T8.setTop (mkF m 155 #[.val (.int p0), .val (.int p1), .val (.int p2), .val (.int p3), .val (.int p4), .val (.int p5), .val (.int yy), .val (.int mm), .val (.int dd), .val (.int mo), .val (.int de), .val (.int dm), .val (.ref b1), .val (.int (1 : Int32)), .val (.long (own_pack yy mm dd)), .second, .val (.long (own_wd (own_pm (own_pack yy mm dd) (de.toInt64)) dm)), .second, .unset, .unset, .unset] [(.int dd), (.int de), (.int mo), (.int (0 : Int32))]))
  refine own_step (fun _ k => XS.iload X8.here hx rfl (hb hby at_155) rfl k) ?_
  show own_Ends p.tables e below _ (T8.setTop (mkF m 157 #[.val (.int p0), .val (.int p1), .val (.int p2), .val (.int p3), .val (.int p4), .val (.int p5), .val (.int yy), .val (.int mm), .val (.int dd), .val (.int mo), .val (.int de), .val (.int dm), .val (.ref b1), .val (.int (1 : Int32)), .val (.long (own_pack yy mm dd)), .second, .val (.long (own_wd (own_pm (own_pack yy mm dd) (de.toInt64)) dm)), .second, .unset, .unset, .unset] [(.int dm), (.int dd), (.int de), (.int mo), (.int (0 : Int32))]))
  obtain ⟨_, _, ⟨T9, L9, k9, n9⟩, -, X9, ⟨Lc9, hQ9, l9, y9, z9⟩, st9⟩ := Jvm.LawKit.callS X8 hx (y := (⟨"com/example/covenantry/covenantry/model/PeriodEndsHasNextPinLaw", "before", "(IIIII)Z"⟩ : MethodName)) hown (mvT hZ (hw _ (List.mem_of_getElem? (i := 142) rfl))) (mvT hZ (hw _ (List.mem_of_getElem? (i := 143) rfl))) (mvT hZ (hw _ (List.mem_of_getElem? (i := 144) rfl))) (mvT hZ (hw _ (List.mem_of_getElem? (i := 145) rfl))) (by decide) (backOf (W := 0) (own_rm_before l Z aw hw [] (0 : Int32) mo de dd dm T7.heap n0 Z_7 ) hZ (hw _ (List.mem_of_getElem? (i := 145) rfl)) (hw _ (List.mem_of_getElem? (i := 144) rfl)) (by decide) (by decide)) (g := (mkF m 157 #[.val (.int p0), .val (.int p1), .val (.int p2), .val (.int p3), .val (.int p4), .val (.int p5), .val (.int yy), .val (.int mm), .val (.int dd), .val (.int mo), .val (.int de), .val (.int dm), .val (.ref b1), .val (.int (1 : Int32)), .val (.long (own_pack yy mm dd)), .second, .val (.long (own_wd (own_pm (own_pack yy mm dd) (de.toInt64)) dm)), .second, .unset, .unset, .unset] [(.int dm), (.int dd), (.int de), (.int mo), (.int (0 : Int32))])) rfl (by rw [hml]; rfl) (argsL := [(.int (0 : Int32)), (.int mo), (.int de), (.int dd), (.int dm)]) (rest := []) (lenOf own_pd16 rfl) rfl (by show 2 * 0 + _ ≤ _; exact Nat.le_of_eq rfl) (hb hby at_157) (fun _ _ => ⟨rfl, e8, (by decide : 1 + 0 ≤ _), (by decide : 6 + 0 ≤ _)⟩)
  dsimp only [Pt.U, Pt.locs, Pt.cells, Pt.slots] at X9 l9 y9 z9 st9 hQ9
  subst l9 y9 z9
  obtain ⟨rfl, N9q, e9⟩ := hQ9
  have N_9 := Fr.app N_8 N9q
  refine own_step st9 ?_
  show own_Ends p.tables e below _ (T9.setTop (mkF m 160 #[.val (.int p0), .val (.int p1), .val (.int p2), .val (.int p3), .val (.int p4), .val (.int p5), .val (.int yy), .val (.int mm), .val (.int dd), .val (.int mo), .val (.int de), .val (.int dm), .val (.ref b1), .val (.int (1 : Int32)), .val (.long (own_pack yy mm dd)), .second, .val (.long (own_wd (own_pm (own_pack yy mm dd) (de.toInt64)) dm)), .second, .unset, .unset, .unset] [(.int (own_before (0 : Int32) mo de dd dm))]))
  refine own_step (fun _ k => XS.istore X9.here hx rfl (hb hby at_160) rfl (l' := #[.val (.int p0), .val (.int p1), .val (.int p2), .val (.int p3), .val (.int p4), .val (.int p5), .val (.int yy), .val (.int mm), .val (.int dd), .val (.int mo), .val (.int de), .val (.int dm), .val (.ref b1), .val (.int (1 : Int32)), .val (.long (own_pack yy mm dd)), .second, .val (.long (own_wd (own_pm (own_pack yy mm dd) (de.toInt64)) dm)), .second, .val (.int (own_before (0 : Int32) mo de dd dm)), .unset, .unset]) rfl k) ?_
  show own_Ends p.tables e below _ (T9.setTop (mkF m 162 #[.val (.int p0), .val (.int p1), .val (.int p2), .val (.int p3), .val (.int p4), .val (.int p5), .val (.int yy), .val (.int mm), .val (.int dd), .val (.int mo), .val (.int de), .val (.int dm), .val (.ref b1), .val (.int (1 : Int32)), .val (.long (own_pack yy mm dd)), .second, .val (.long (own_wd (own_pm (own_pack yy mm dd) (de.toInt64)) dm)), .second, .val (.int (own_before (0 : Int32) mo de dd dm)), .unset, .unset] []))
  refine own_step (fun _ k => XS.aload X9.here hx rfl (hb hby at_162) rfl rfl k) ?_
  show own_Ends p.tables e below _ (T9.setTop (mkF m 164 #[.val (.int p0), .val (.int p1), .val (.int p2), .val (.int p3), .val (.int p4), .val (.int p5), .val (.int yy), .val (.int mm), .val (.int dd), .val (.int mo), .val (.int de), .val (.int dm), .val (.ref b1), .val (.int (1 : Int32)), .val (.long (own_pack yy mm dd)), .second, .val (.long (own_wd (own_pm (own_pack yy mm dd) (de.toInt64)) dm)), .second, .val (.int (own_before (0 : Int32) mo de dd dm)), .unset, .unset] [(.ref b1)]))
  obtain ⟨cq10, kq10, q10a, q10b, q10c⟩ := isOf hZ e9 A1_7
  obtain ⟨_, _, ⟨T10, L10, k10, n10⟩, -, X10, ⟨Lc10, hQ10, l10, y10, z10⟩, st10⟩ := X9.virtualBack hx (y := (⟨"com/example/covenantry/covenantry/model/PeriodEnds", "next", "()J"⟩ : MethodName)) (z := (⟨"com/example/covenantry/covenantry/model/PeriodEnds", "next", "()J"⟩ : MethodName)) hown (mvT hZ (hw _ (List.mem_of_getElem? (i := 146) rfl))) (mvT hZ (hw _ (List.mem_of_getElem? (i := 147) rfl))) (notFace_of_selects (args := #[]) (mvT hZ (hw _ (List.mem_of_getElem? (i := 149) rfl)))) (mvT hZ (hw _ (List.mem_of_getElem? (i := 149) rfl))) (mvT hZ (hw _ (List.mem_of_getElem? (i := 148) rfl))) (by decide) (backOf (W := 0) (own_rm_next l Z aw hw [] b1 (own_pack yy mm dd) mo (0 : Int64) (own_wd (own_pm (own_pack yy mm dd) (de.toInt64)) dm) (own_pack yy mm dd) wY rY T7.heap n0 Z_7 A1_7 Fa7 Fb7 Fc7 Fd7 Fe7 Ff7 g_b1 S_Y_7 Ew_Y_7 Fr_Y_7 Er_Y_7 Fm_Y_7 Fx_Y_7 (Ne.symm ne_wY_b1) (Ne.symm ne_rY_b1) hD0.ne (fun _ => (own_mb hDf hmo1).1) (fun _ => (own_mb hDf hmo1).2)) hZ (hw _ (List.mem_of_getElem? (i := 150) rfl)) (hw _ (List.mem_of_getElem? (i := 3) rfl)) (by decide) (by decide)) q10a q10c (g := (mkF m 164 #[.val (.int p0), .val (.int p1), .val (.int p2), .val (.int p3), .val (.int p4), .val (.int p5), .val (.int yy), .val (.int mm), .val (.int dd), .val (.int mo), .val (.int de), .val (.int dm), .val (.ref b1), .val (.int (1 : Int32)), .val (.long (own_pack yy mm dd)), .second, .val (.long (own_wd (own_pm (own_pack yy mm dd) (de.toInt64)) dm)), .second, .val (.int (own_before (0 : Int32) mo de dd dm)), .unset, .unset] [(.ref b1)])) rfl (by rw [hml]; rfl) (Steps.refl _) (argsL := []) (rest := []) (lenOf own_pd1 rfl) rfl (by show 2 * 0 + _ ≤ _; exact Nat.le_of_eq rfl) (hb hby at_164) (fun _ _ => ⟨rfl, e9, (by decide : 1 + 0 ≤ _), (by decide : 6 + 0 ≤ _)⟩)
  dsimp only [Pt.U, Pt.locs, Pt.cells, Pt.slots] at X10 l10 y10 z10 st10 hQ10
  subst l10 y10 z10
  obtain ⟨rfl, N10q, k10, Fa10, Fb10, Fc10, Fd10, Fe10, Ff10⟩ := hQ10
  have N_10 := Fr.app N_9 N10q
  have S_Y_10 := own_Sta_keep S_Y_7 k10 (allS (own_ns_exa A1_7) all0)
  have Ew_Y_10 := Ew_Y_7.keep k10
  have Fr_Y_10 := Fr_Y_7.keep k10 (ninS ne_wY_b1 nin0)
  have Er_Y_10 := Er_Y_7.keep k10
  have Fm_Y_10 := Fm_Y_7.keep k10 (ninS ne_rY_b1 nin0)
  have Fx_Y_10 := Fx_Y_7.keep k10 (ninS ne_rY_b1 nin0)
  have S_M_10 := own_Sta_keep S_M_7 k10 (allS (own_ns_exa A1_7) all0)
  have Ew_M_10 := Ew_M_7.keep k10
  have Fr_M_10 := Fr_M_7.keep k10 (ninS ne_wM_b1 nin0)
  have Er_M_10 := Er_M_7.keep k10
  have Fm_M_10 := Fm_M_7.keep k10 (ninS ne_rM_b1 nin0)
  have Fx_M_10 := Fx_M_7.keep k10 (ninS ne_rM_b1 nin0)
  have A1_10 := A1_7.keep k10
  have K_10 : Keep h0 T10.heap [] := K_7.trans k10 (allS (Or.inr sz_b1) all0)
  have Z_10 : n0 ≤ T10.heap.size := Nat.le_trans Z_7 k10.1
  refine own_step (fun _ k => st10.trans k) ?_
  show own_Ends p.tables e below _ (T10.setTop (mkF m 167 #[.val (.int p0), .val (.int p1), .val (.int p2), .val (.int p3), .val (.int p4), .val (.int p5), .val (.int yy), .val (.int mm), .val (.int dd), .val (.int mo), .val (.int de), .val (.int dm), .val (.ref b1), .val (.int (1 : Int32)), .val (.long (own_pack yy mm dd)), .second, .val (.long (own_wd (own_pm (own_pack yy mm dd) (de.toInt64)) dm)), .second, .val (.int (own_before (0 : Int32) mo de dd dm)), .unset, .unset] [(.long (own_nv (own_wd (own_pm (own_pack yy mm dd) (de.toInt64)) dm) (own_pack yy mm dd)))]))
  have heq0 : own_hn (own_nsc (own_pack yy mm dd) mo (0 : Int64) (own_wd (own_pm (own_pack yy mm dd) (de.toInt64)) dm) (own_pack yy mm dd)) = (own_before (0 : Int32) mo de dd dm) := by
    by_cases q : (own_pack yy mm dd) < (own_wd (own_pm (own_pack yy mm dd) (de.toInt64)) dm)
    · rw [(hbf0 _ hD0).1 q]; unfold own_nsc; rw [if_pos q]; exact (own_pm_val hDf hY0.1 hY0.2.1 hmo1.1 (by omega) (by omega)).hn
    · rw [(hbf0 _ hD0).2 q]; unfold own_nsc; rw [if_neg q]; rfl
  refine own_step (fun _ k => own_pop2J X10 hx (hb hby at_167) k) ?_
  show own_Ends p.tables e below _ (T10.setTop (mkF m 168 #[.val (.int p0), .val (.int p1), .val (.int p2), .val (.int p3), .val (.int p4), .val (.int p5), .val (.int yy), .val (.int mm), .val (.int dd), .val (.int mo), .val (.int de), .val (.int dm), .val (.ref b1), .val (.int (1 : Int32)), .val (.long (own_pack yy mm dd)), .second, .val (.long (own_wd (own_pm (own_pack yy mm dd) (de.toInt64)) dm)), .second, .val (.int (own_before (0 : Int32) mo de dd dm)), .unset, .unset] []))
  refine own_step (fun _ k => XS.iload X10.here hx rfl (hb hby at_168) rfl k) ?_
  show own_Ends p.tables e below _ (T10.setTop (mkF m 170 #[.val (.int p0), .val (.int p1), .val (.int p2), .val (.int p3), .val (.int p4), .val (.int p5), .val (.int yy), .val (.int mm), .val (.int dd), .val (.int mo), .val (.int de), .val (.int dm), .val (.ref b1), .val (.int (1 : Int32)), .val (.long (own_pack yy mm dd)), .second, .val (.long (own_wd (own_pm (own_pack yy mm dd) (de.toInt64)) dm)), .second, .val (.int (own_before (0 : Int32) mo de dd dm)), .unset, .unset] [(.int (1 : Int32))]))
  refine own_step (fun _ k => XS.ifNo X10.here hx rfl (hb hby at_170) rfl ((if0 _ _).trans (feq (by decide)).1) k) ?_
  show own_Ends p.tables e below _ (T10.setTop (mkF m 173 #[.val (.int p0), .val (.int p1), .val (.int p2), .val (.int p3), .val (.int p4), .val (.int p5), .val (.int yy), .val (.int mm), .val (.int dd), .val (.int mo), .val (.int de), .val (.int dm), .val (.ref b1), .val (.int (1 : Int32)), .val (.long (own_pack yy mm dd)), .second, .val (.long (own_wd (own_pm (own_pack yy mm dd) (de.toInt64)) dm)), .second, .val (.int (own_before (0 : Int32) mo de dd dm)), .unset, .unset] []))
  refine own_step (fun _ k => XS.aload X10.here hx rfl (hb hby at_173) rfl rfl k) ?_
  show own_Ends p.tables e below _ (T10.setTop (mkF m 175 #[.val (.int p0), .val (.int p1), .val (.int p2), .val (.int p3), .val (.int p4), .val (.int p5), .val (.int yy), .val (.int mm), .val (.int dd), .val (.int mo), .val (.int de), .val (.int dm), .val (.ref b1), .val (.int (1 : Int32)), .val (.long (own_pack yy mm dd)), .second, .val (.long (own_wd (own_pm (own_pack yy mm dd) (de.toInt64)) dm)), .second, .val (.int (own_before (0 : Int32) mo de dd dm)), .unset, .unset] [(.ref b1)]))
  obtain ⟨cq11, kq11, q11a, q11b, q11c⟩ := isOf hZ rfl A1_10
  obtain ⟨_, _, ⟨T11, L11, k11, n11⟩, -, X11, ⟨Lc11, hQ11, l11, y11, z11⟩, st11⟩ := X10.virtualBack hx (y := (⟨"com/example/covenantry/covenantry/model/PeriodEnds", "hasNext", "()Z"⟩ : MethodName)) (z := (⟨"com/example/covenantry/covenantry/model/PeriodEnds", "hasNext", "()Z"⟩ : MethodName)) hown (mvT hZ (hw _ (List.mem_of_getElem? (i := 13) rfl))) (mvT hZ (hw _ (List.mem_of_getElem? (i := 14) rfl))) (notFace_of_selects (args := #[]) (mvT hZ (hw _ (List.mem_of_getElem? (i := 16) rfl)))) (mvT hZ (hw _ (List.mem_of_getElem? (i := 16) rfl))) (mvT hZ (hw _ (List.mem_of_getElem? (i := 15) rfl))) (by decide) (backOf (W := 0) (own_rm_hasNext l Z aw hw [] b1 (own_nsc (own_pack yy mm dd) mo (0 : Int64) (own_wd (own_pm (own_pack yy mm dd) (de.toInt64)) dm) (own_pack yy mm dd)) T10.heap n0 Z_10 Ff10) hZ (hw _ (List.mem_of_getElem? (i := 17) rfl)) (hw _ (List.mem_of_getElem? (i := 3) rfl)) (by decide) (by decide)) q11a q11c (g := (mkF m 175 #[.val (.int p0), .val (.int p1), .val (.int p2), .val (.int p3), .val (.int p4), .val (.int p5), .val (.int yy), .val (.int mm), .val (.int dd), .val (.int mo), .val (.int de), .val (.int dm), .val (.ref b1), .val (.int (1 : Int32)), .val (.long (own_pack yy mm dd)), .second, .val (.long (own_wd (own_pm (own_pack yy mm dd) (de.toInt64)) dm)), .second, .val (.int (own_before (0 : Int32) mo de dd dm)), .unset, .unset] [(.ref b1)])) rfl (by rw [hml]; rfl) (Steps.refl _) (argsL := []) (rest := []) (lenOf own_pd2 rfl) rfl (by show 2 * 0 + _ ≤ _; exact Nat.le_of_eq rfl) (hb hby at_175) (fun _ _ => ⟨rfl, rfl, (by decide : 1 + 0 ≤ _), (by decide : 6 + 0 ≤ _)⟩)
  dsimp only [Pt.U, Pt.locs, Pt.cells, Pt.slots] at X11 l11 y11 z11 st11 hQ11
  subst l11 y11 z11
  obtain ⟨rfl, N11q, e11⟩ := hQ11
  have N_11 := Fr.app N_10 N11q
  refine own_step (fun _ k => st11.trans k) ?_
  show own_Ends p.tables e below _ (T11.setTop (mkF m 178 #[.val (.int p0), .val (.int p1), .val (.int p2), .val (.int p3), .val (.int p4), .val (.int p5), .val (.int yy), .val (.int mm), .val (.int dd), .val (.int mo), .val (.int de), .val (.int dm), .val (.ref b1), .val (.int (1 : Int32)), .val (.long (own_pack yy mm dd)), .second, .val (.long (own_wd (own_pm (own_pack yy mm dd) (de.toInt64)) dm)), .second, .val (.int (own_before (0 : Int32) mo de dd dm)), .unset, .unset] [(.int (own_hn (own_nsc (own_pack yy mm dd) mo (0 : Int64) (own_wd (own_pm (own_pack yy mm dd) (de.toInt64)) dm) (own_pack yy mm dd))))]))
  refine own_step (fun _ k => XS.iload X11.here hx rfl (hb hby at_178) rfl k) ?_
  show own_Ends p.tables e below _ (T11.setTop (mkF m 180 #[.val (.int p0), .val (.int p1), .val (.int p2), .val (.int p3), .val (.int p4), .val (.int p5), .val (.int yy), .val (.int mm), .val (.int dd), .val (.int mo), .val (.int de), .val (.int dm), .val (.ref b1), .val (.int (1 : Int32)), .val (.long (own_pack yy mm dd)), .second, .val (.long (own_wd (own_pm (own_pack yy mm dd) (de.toInt64)) dm)), .second, .val (.int (own_before (0 : Int32) mo de dd dm)), .unset, .unset] [(.int (own_before (0 : Int32) mo de dd dm)), (.int (own_hn (own_nsc (own_pack yy mm dd) mo (0 : Int64) (own_wd (own_pm (own_pack yy mm dd) (de.toInt64)) dm) (own_pack yy mm dd))))]))
  refine own_step (fun _ k => XS.icmpNo X11.here hx rfl (hb hby at_180) rfl (teq heq0).2 k) ?_
  show own_Ends p.tables e below _ (T11.setTop (mkF m 183 #[.val (.int p0), .val (.int p1), .val (.int p2), .val (.int p3), .val (.int p4), .val (.int p5), .val (.int yy), .val (.int mm), .val (.int dd), .val (.int mo), .val (.int de), .val (.int dm), .val (.ref b1), .val (.int (1 : Int32)), .val (.long (own_pack yy mm dd)), .second, .val (.long (own_wd (own_pm (own_pack yy mm dd) (de.toInt64)) dm)), .second, .val (.int (own_before (0 : Int32) mo de dd dm)), .unset, .unset] []))
  refine own_step (fun _ k => XS.iconst X11.here hx rfl (hb hby at_183) k) ?_
  show own_Ends p.tables e below _ (T11.setTop (mkF m 184 #[.val (.int p0), .val (.int p1), .val (.int p2), .val (.int p3), .val (.int p4), .val (.int p5), .val (.int yy), .val (.int mm), .val (.int dd), .val (.int mo), .val (.int de), .val (.int dm), .val (.ref b1), .val (.int (1 : Int32)), .val (.long (own_pack yy mm dd)), .second, .val (.long (own_wd (own_pm (own_pack yy mm dd) (de.toInt64)) dm)), .second, .val (.int (own_before (0 : Int32) mo de dd dm)), .unset, .unset] [(.int (1 : Int32))]))
  refine own_step (fun _ k => XS.goto X11.here hx rfl (pc0 := 184) (pc' := 188) rfl (hb hby at_184) (by decide) (by decide) k) ?_
  show own_Ends p.tables e below _ (T11.setTop (mkF m 188 #[.val (.int p0), .val (.int p1), .val (.int p2), .val (.int p3), .val (.int p4), .val (.int p5), .val (.int yy), .val (.int mm), .val (.int dd), .val (.int mo), .val (.int de), .val (.int dm), .val (.ref b1), .val (.int (1 : Int32)), .val (.long (own_pack yy mm dd)), .second, .val (.long (own_wd (own_pm (own_pack yy mm dd) (de.toInt64)) dm)), .second, .val (.int (own_before (0 : Int32) mo de dd dm)), .unset, .unset] [(.int (1 : Int32))]))
  refine own_step (fun _ k => XS.istore X11.here hx rfl (hb hby at_188) rfl (l' := #[.val (.int p0), .val (.int p1), .val (.int p2), .val (.int p3), .val (.int p4), .val (.int p5), .val (.int yy), .val (.int mm), .val (.int dd), .val (.int mo), .val (.int de), .val (.int dm), .val (.ref b1), .val (.int (1 : Int32)), .val (.long (own_pack yy mm dd)), .second, .val (.long (own_wd (own_pm (own_pack yy mm dd) (de.toInt64)) dm)), .second, .val (.int (own_before (0 : Int32) mo de dd dm)), .unset, .unset]) rfl k) ?_
  show own_Ends p.tables e below _ (T11.setTop (mkF m 190 #[.val (.int p0), .val (.int p1), .val (.int p2), .val (.int p3), .val (.int p4), .val (.int p5), .val (.int yy), .val (.int mm), .val (.int dd), .val (.int mo), .val (.int de), .val (.int dm), .val (.ref b1), .val (.int (1 : Int32)), .val (.long (own_pack yy mm dd)), .second, .val (.long (own_wd (own_pm (own_pack yy mm dd) (de.toInt64)) dm)), .second, .val (.int (own_before (0 : Int32) mo de dd dm)), .unset, .unset] []))
  refine own_step (fun _ k => XS.iload X11.here hx rfl (hb hby at_190) rfl k) ?_
  show own_Ends p.tables e below _ (T11.setTop (mkF m 192 #[.val (.int p0), .val (.int p1), .val (.int p2), .val (.int p3), .val (.int p4), .val (.int p5), .val (.int yy), .val (.int mm), .val (.int dd), .val (.int mo), .val (.int de), .val (.int dm), .val (.ref b1), .val (.int (1 : Int32)), .val (.long (own_pack yy mm dd)), .second, .val (.long (own_wd (own_pm (own_pack yy mm dd) (de.toInt64)) dm)), .second, .val (.int (own_before (0 : Int32) mo de dd dm)), .unset, .unset] [(.int (own_before (0 : Int32) mo de dd dm))]))
  by_cases hc192 : (own_before (0 : Int32) mo de dd dm) = (0 : Int32)
  · refine own_step (fun _ k => XS.ifNo X11.here hx rfl (hb hby at_192) rfl ((if0 _ _).trans (teq hc192).2) k) ?_
    show own_Ends p.tables e below _ (T11.setTop (mkF m 195 #[.val (.int p0), .val (.int p1), .val (.int p2), .val (.int p3), .val (.int p4), .val (.int p5), .val (.int yy), .val (.int mm), .val (.int dd), .val (.int mo), .val (.int de), .val (.int dm), .val (.ref b1), .val (.int (1 : Int32)), .val (.long (own_pack yy mm dd)), .second, .val (.long (own_wd (own_pm (own_pack yy mm dd) (de.toInt64)) dm)), .second, .val (.int (own_before (0 : Int32) mo de dd dm)), .unset, .unset] []))
    refine own_step (fun _ k => XS.iload X11.here hx rfl (hb hby at_195) rfl k) ?_
    show own_Ends p.tables e below _ (T11.setTop (mkF m 197 #[.val (.int p0), .val (.int p1), .val (.int p2), .val (.int p3), .val (.int p4), .val (.int p5), .val (.int yy), .val (.int mm), .val (.int dd), .val (.int mo), .val (.int de), .val (.int dm), .val (.ref b1), .val (.int (1 : Int32)), .val (.long (own_pack yy mm dd)), .second, .val (.long (own_wd (own_pm (own_pack yy mm dd) (de.toInt64)) dm)), .second, .val (.int (own_before (0 : Int32) mo de dd dm)), .unset, .unset] [(.int (1 : Int32))]))
    exact own_retN X11 hx hlk (by decide) (by decide) (t := .boolean) Bd.returns (by simp) (hb hby at_197) (by rw [e11]; exact ⟨rfl, N_11⟩)
  · refine own_step (fun _ k => XS.ifYes X11.here hx rfl (pc0 := 192) (pc' := 198) rfl (hb hby at_192) rfl ((if0 _ _).trans (feq hc192).2) (by decide) (by decide) k) ?_
    show own_Ends p.tables e below _ (T11.setTop (mkF m 198 #[.val (.int p0), .val (.int p1), .val (.int p2), .val (.int p3), .val (.int p4), .val (.int p5), .val (.int yy), .val (.int mm), .val (.int dd), .val (.int mo), .val (.int de), .val (.int dm), .val (.ref b1), .val (.int (1 : Int32)), .val (.long (own_pack yy mm dd)), .second, .val (.long (own_wd (own_pm (own_pack yy mm dd) (de.toInt64)) dm)), .second, .val (.int (own_before (0 : Int32) mo de dd dm)), .unset, .unset] []))
    have hlt0 : (own_pack yy mm dd) < (own_wd (own_pm (own_pack yy mm dd) (de.toInt64)) dm) := by
      by_cases q : (own_pack yy mm dd) < (own_wd (own_pm (own_pack yy mm dd) (de.toInt64)) dm)
      · exact q
      · exact absurd ((hbf0 _ hD0).2 q) hc192
    have es1 : (own_nsc (own_pack yy mm dd) mo (0 : Int64) (own_wd (own_pm (own_pack yy mm dd) (de.toInt64)) dm) (own_pack yy mm dd)) = own_pm (own_pack yy mm dd) (((0 : Int64) + (1 : Int64)) * mo.toInt64) := if_pos hlt0
    have ep1 : (own_nsp (0 : Int64) (own_wd (own_pm (own_pack yy mm dd) (de.toInt64)) dm) (own_pack yy mm dd)) = (1 : Int64) := (if_pos hlt0).trans rfl
    obtain ⟨s1, hs1⟩ : ∃ z, z = own_pm (own_pack yy mm dd) (((0 : Int64) + (1 : Int64)) * mo.toInt64) := ⟨_, rfl⟩
    rw [← hs1] at es1
    have hD1 : own_Dt s1 ((12 * Y + M - 1 + 1 * Mo) / 12) ((12 * Y + M - 1 + 1 * Mo) % 12 + 1) D := by rw [hs1]; exact own_pm_val hDf hY0.1 hY0.2.1 hmo1.1 (by omega) (by omega)
    have Fsc1 : Fld Z T10.heap b1 "com/example/covenantry/covenantry/model/PeriodEnds" "scheduled" "J" (.long s1) := by have q := Ff10; rw [es1] at q; exact q
    have Fsp1 : Fld Z T10.heap b1 "com/example/covenantry/covenantry/model/PeriodEnds" "steps" "J" (.long (1 : Int64)) := by have q := Fd10; rw [ep1] at q; exact q
    refine own_step (fun _ k => XS.iconst X11.here hx rfl (hb hby at_198) k) ?_
    show own_Ends p.tables e below _ (T11.setTop (mkF m 199 #[.val (.int p0), .val (.int p1), .val (.int p2), .val (.int p3), .val (.int p4), .val (.int p5), .val (.int yy), .val (.int mm), .val (.int dd), .val (.int mo), .val (.int de), .val (.int dm), .val (.ref b1), .val (.int (1 : Int32)), .val (.long (own_pack yy mm dd)), .second, .val (.long (own_wd (own_pm (own_pack yy mm dd) (de.toInt64)) dm)), .second, .val (.int (own_before (0 : Int32) mo de dd dm)), .unset, .unset] [(.int (1 : Int32))]))
    refine own_step (fun _ k => XS.iload X11.here hx rfl (hb hby at_199) rfl k) ?_
    show own_Ends p.tables e below _ (T11.setTop (mkF m 201 #[.val (.int p0), .val (.int p1), .val (.int p2), .val (.int p3), .val (.int p4), .val (.int p5), .val (.int yy), .val (.int mm), .val (.int dd), .val (.int mo), .val (.int de), .val (.int dm), .val (.ref b1), .val (.int (1 : Int32)), .val (.long (own_pack yy mm dd)), .second, .val (.long (own_wd (own_pm (own_pack yy mm dd) (de.toInt64)) dm)), .second, .val (.int (own_before (0 : Int32) mo de dd dm)), .unset, .unset] [(.int mo), (.int (1 : Int32))]))
    refine own_step (fun _ k => XS.iload X11.here hx rfl (hb hby at_201) rfl k) ?_
    show own_Ends p.tables e below _ (T11.setTop (mkF m 203 #[.val (.int p0), .val (.int p1), .val (.int p2), .val (.int p3), .val (.int p4), .val (.int p5), .val (.int yy), .val (.int mm), .val (.int dd), .val (.int mo), .val (.int de), .val (.int dm), .val (.ref b1), .val (.int (1 : Int32)), .val (.long (own_pack yy mm dd)), .second, .val (.long (own_wd (own_pm (own_pack yy mm dd) (de.toInt64)) dm)), .second, .val (.int (own_before (0 : Int32) mo de dd dm)), .unset, .unset] [(.int de), (.int mo), (.int (1 : Int32))]))
    refine own_step (fun _ k => XS.iload X11.here hx rfl (hb hby at_203) rfl k) ?_
    show own_Ends p.tables e below _ (T11.setTop (mkF m 205 #[.val (.int p0), .val (.int p1), .val (.int p2), .val (.int p3), .val (.int p4), .val (.int p5), .val (.int yy), .val (.int mm), .val (.int dd), .val (.int mo), .val (.int de), .val (.int dm), .val (.ref b1), .val (.int (1 : Int32)), .val (.long (own_pack yy mm dd)), .second, .val (.long (own_wd (own_pm (own_pack yy mm dd) (de.toInt64)) dm)), .second, .val (.int (own_before (0 : Int32) mo de dd dm)), .unset, .unset] [(.int dd), (.int de), (.int mo), (.int (1 : Int32))]))
    refine own_step (fun _ k => XS.iload X11.here hx rfl (hb hby at_205) rfl k) ?_
    show own_Ends p.tables e below _ (T11.setTop (mkF m 207 #[.val (.int p0), .val (.int p1), .val (.int p2), .val (.int p3), .val (.int p4), .val (.int p5), .val (.int yy), .val (.int mm), .val (.int dd), .val (.int mo), .val (.int de), .val (.int dm), .val (.ref b1), .val (.int (1 : Int32)), .val (.long (own_pack yy mm dd)), .second, .val (.long (own_wd (own_pm (own_pack yy mm dd) (de.toInt64)) dm)), .second, .val (.int (own_before (0 : Int32) mo de dd dm)), .unset, .unset] [(.int dm), (.int dd), (.int de), (.int mo), (.int (1 : Int32))]))
    obtain ⟨_, _, ⟨T12, L12, k12, n12⟩, -, X12, ⟨Lc12, hQ12, l12, y12, z12⟩, st12⟩ := Jvm.LawKit.callS X11 hx (y := (⟨"com/example/covenantry/covenantry/model/PeriodEndsHasNextPinLaw", "before", "(IIIII)Z"⟩ : MethodName)) hown (mvT hZ (hw _ (List.mem_of_getElem? (i := 142) rfl))) (mvT hZ (hw _ (List.mem_of_getElem? (i := 143) rfl))) (mvT hZ (hw _ (List.mem_of_getElem? (i := 144) rfl))) (mvT hZ (hw _ (List.mem_of_getElem? (i := 145) rfl))) (by decide) (backOf (W := 0) (own_rm_before l Z aw hw [] (1 : Int32) mo de dd dm T10.heap n0 Z_10 ) hZ (hw _ (List.mem_of_getElem? (i := 145) rfl)) (hw _ (List.mem_of_getElem? (i := 144) rfl)) (by decide) (by decide)) (g := (mkF m 207 #[.val (.int p0), .val (.int p1), .val (.int p2), .val (.int p3), .val (.int p4), .val (.int p5), .val (.int yy), .val (.int mm), .val (.int dd), .val (.int mo), .val (.int de), .val (.int dm), .val (.ref b1), .val (.int (1 : Int32)), .val (.long (own_pack yy mm dd)), .second, .val (.long (own_wd (own_pm (own_pack yy mm dd) (de.toInt64)) dm)), .second, .val (.int (own_before (0 : Int32) mo de dd dm)), .unset, .unset] [(.int dm), (.int dd), (.int de), (.int mo), (.int (1 : Int32))])) rfl (by rw [hml]; rfl) (argsL := [(.int (1 : Int32)), (.int mo), (.int de), (.int dd), (.int dm)]) (rest := []) (lenOf own_pd16 rfl) rfl (by show 2 * 0 + _ ≤ _; exact Nat.le_of_eq rfl) (hb hby at_207) (fun _ _ => ⟨rfl, e11, (by decide : 1 + 0 ≤ _), (by decide : 6 + 0 ≤ _)⟩)
    dsimp only [Pt.U, Pt.locs, Pt.cells, Pt.slots] at X12 l12 y12 z12 st12 hQ12
    subst l12 y12 z12
    obtain ⟨rfl, N12q, e12⟩ := hQ12
    have N_12 := Fr.app N_11 N12q
    refine own_step st12 ?_
    show own_Ends p.tables e below _ (T12.setTop (mkF m 210 #[.val (.int p0), .val (.int p1), .val (.int p2), .val (.int p3), .val (.int p4), .val (.int p5), .val (.int yy), .val (.int mm), .val (.int dd), .val (.int mo), .val (.int de), .val (.int dm), .val (.ref b1), .val (.int (1 : Int32)), .val (.long (own_pack yy mm dd)), .second, .val (.long (own_wd (own_pm (own_pack yy mm dd) (de.toInt64)) dm)), .second, .val (.int (own_before (0 : Int32) mo de dd dm)), .unset, .unset] [(.int (own_before (1 : Int32) mo de dd dm))]))
    refine own_step (fun _ k => XS.istore X12.here hx rfl (hb hby at_210) rfl (l' := #[.val (.int p0), .val (.int p1), .val (.int p2), .val (.int p3), .val (.int p4), .val (.int p5), .val (.int yy), .val (.int mm), .val (.int dd), .val (.int mo), .val (.int de), .val (.int dm), .val (.ref b1), .val (.int (1 : Int32)), .val (.long (own_pack yy mm dd)), .second, .val (.long (own_wd (own_pm (own_pack yy mm dd) (de.toInt64)) dm)), .second, .val (.int (own_before (0 : Int32) mo de dd dm)), .val (.int (own_before (1 : Int32) mo de dd dm)), .unset]) rfl k) ?_
    show own_Ends p.tables e below _ (T12.setTop (mkF m 212 #[.val (.int p0), .val (.int p1), .val (.int p2), .val (.int p3), .val (.int p4), .val (.int p5), .val (.int yy), .val (.int mm), .val (.int dd), .val (.int mo), .val (.int de), .val (.int dm), .val (.ref b1), .val (.int (1 : Int32)), .val (.long (own_pack yy mm dd)), .second, .val (.long (own_wd (own_pm (own_pack yy mm dd) (de.toInt64)) dm)), .second, .val (.int (own_before (0 : Int32) mo de dd dm)), .val (.int (own_before (1 : Int32) mo de dd dm)), .unset] []))
    refine own_step (fun _ k => XS.aload X12.here hx rfl (hb hby at_212) rfl rfl k) ?_
    show own_Ends p.tables e below _ (T12.setTop (mkF m 214 #[.val (.int p0), .val (.int p1), .val (.int p2), .val (.int p3), .val (.int p4), .val (.int p5), .val (.int yy), .val (.int mm), .val (.int dd), .val (.int mo), .val (.int de), .val (.int dm), .val (.ref b1), .val (.int (1 : Int32)), .val (.long (own_pack yy mm dd)), .second, .val (.long (own_wd (own_pm (own_pack yy mm dd) (de.toInt64)) dm)), .second, .val (.int (own_before (0 : Int32) mo de dd dm)), .val (.int (own_before (1 : Int32) mo de dd dm)), .unset] [(.ref b1)]))
    obtain ⟨cq13, kq13, q13a, q13b, q13c⟩ := isOf hZ e12 A1_10
    obtain ⟨_, _, ⟨T13, L13, k13, n13⟩, -, X13, ⟨Lc13, hQ13, l13, y13, z13⟩, st13⟩ := X12.virtualBack hx (y := (⟨"com/example/covenantry/covenantry/model/PeriodEnds", "next", "()J"⟩ : MethodName)) (z := (⟨"com/example/covenantry/covenantry/model/PeriodEnds", "next", "()J"⟩ : MethodName)) hown (mvT hZ (hw _ (List.mem_of_getElem? (i := 146) rfl))) (mvT hZ (hw _ (List.mem_of_getElem? (i := 147) rfl))) (notFace_of_selects (args := #[]) (mvT hZ (hw _ (List.mem_of_getElem? (i := 149) rfl)))) (mvT hZ (hw _ (List.mem_of_getElem? (i := 149) rfl))) (mvT hZ (hw _ (List.mem_of_getElem? (i := 148) rfl))) (by decide) (backOf (W := 0) (own_rm_next l Z aw hw [] b1 (own_pack yy mm dd) mo (1 : Int64) (own_wd (own_pm (own_pack yy mm dd) (de.toInt64)) dm) s1 wY rY T10.heap n0 Z_10 A1_10 Fa10 Fb10 Fc10 Fsp1 Fe10 Fsc1 g_b1 S_Y_10 Ew_Y_10 Fr_Y_10 Er_Y_10 Fm_Y_10 Fx_Y_10 (Ne.symm ne_wY_b1) (Ne.symm ne_rY_b1) hD1.ne (fun _ => (own_mb hDf hmo2).1) (fun _ => (own_mb hDf hmo2).2)) hZ (hw _ (List.mem_of_getElem? (i := 150) rfl)) (hw _ (List.mem_of_getElem? (i := 3) rfl)) (by decide) (by decide)) q13a q13c (g := (mkF m 214 #[.val (.int p0), .val (.int p1), .val (.int p2), .val (.int p3), .val (.int p4), .val (.int p5), .val (.int yy), .val (.int mm), .val (.int dd), .val (.int mo), .val (.int de), .val (.int dm), .val (.ref b1), .val (.int (1 : Int32)), .val (.long (own_pack yy mm dd)), .second, .val (.long (own_wd (own_pm (own_pack yy mm dd) (de.toInt64)) dm)), .second, .val (.int (own_before (0 : Int32) mo de dd dm)), .val (.int (own_before (1 : Int32) mo de dd dm)), .unset] [(.ref b1)])) rfl (by rw [hml]; rfl) (Steps.refl _) (argsL := []) (rest := []) (lenOf own_pd1 rfl) rfl (by show 2 * 0 + _ ≤ _; exact Nat.le_of_eq rfl) (hb hby at_214) (fun _ _ => ⟨rfl, e12, (by decide : 1 + 0 ≤ _), (by decide : 6 + 0 ≤ _)⟩)
    dsimp only [Pt.U, Pt.locs, Pt.cells, Pt.slots] at X13 l13 y13 z13 st13 hQ13
    subst l13 y13 z13
    obtain ⟨rfl, N13q, k13, Fa13, Fb13, Fc13, Fd13, Fe13, Ff13⟩ := hQ13
    have N_13 := Fr.app N_12 N13q
    have S_Y_13 := own_Sta_keep S_Y_10 k13 (allS (own_ns_exa A1_10) all0)
    have Ew_Y_13 := Ew_Y_10.keep k13
    have Fr_Y_13 := Fr_Y_10.keep k13 (ninS ne_wY_b1 nin0)
    have Er_Y_13 := Er_Y_10.keep k13
    have Fm_Y_13 := Fm_Y_10.keep k13 (ninS ne_rY_b1 nin0)
    have Fx_Y_13 := Fx_Y_10.keep k13 (ninS ne_rY_b1 nin0)
    have S_M_13 := own_Sta_keep S_M_10 k13 (allS (own_ns_exa A1_10) all0)
    have Ew_M_13 := Ew_M_10.keep k13
    have Fr_M_13 := Fr_M_10.keep k13 (ninS ne_wM_b1 nin0)
    have Er_M_13 := Er_M_10.keep k13
    have Fm_M_13 := Fm_M_10.keep k13 (ninS ne_rM_b1 nin0)
    have Fx_M_13 := Fx_M_10.keep k13 (ninS ne_rM_b1 nin0)
    have A1_13 := A1_10.keep k13
    have K_13 : Keep h0 T13.heap [] := K_10.trans k13 (allS (Or.inr sz_b1) all0)
    have Z_13 : n0 ≤ T13.heap.size := Nat.le_trans Z_10 k13.1
    refine own_step (fun _ k => st13.trans k) ?_
    show own_Ends p.tables e below _ (T13.setTop (mkF m 217 #[.val (.int p0), .val (.int p1), .val (.int p2), .val (.int p3), .val (.int p4), .val (.int p5), .val (.int yy), .val (.int mm), .val (.int dd), .val (.int mo), .val (.int de), .val (.int dm), .val (.ref b1), .val (.int (1 : Int32)), .val (.long (own_pack yy mm dd)), .second, .val (.long (own_wd (own_pm (own_pack yy mm dd) (de.toInt64)) dm)), .second, .val (.int (own_before (0 : Int32) mo de dd dm)), .val (.int (own_before (1 : Int32) mo de dd dm)), .unset] [(.long (own_nv (own_wd (own_pm (own_pack yy mm dd) (de.toInt64)) dm) s1))]))
    have heq1 : own_hn (own_nsc (own_pack yy mm dd) mo (1 : Int64) (own_wd (own_pm (own_pack yy mm dd) (de.toInt64)) dm) s1) = (own_before (1 : Int32) mo de dd dm) := by
      by_cases q : s1 < (own_wd (own_pm (own_pack yy mm dd) (de.toInt64)) dm)
      · rw [(hbf1 _ hD1).1 q]; unfold own_nsc; rw [if_pos q]; exact (own_pm_val hDf hY0.1 hY0.2.1 hmo2.1 (by omega) (by omega)).hn
      · rw [(hbf1 _ hD1).2 q]; unfold own_nsc; rw [if_neg q]; rfl
    refine own_step (fun _ k => own_pop2J X13 hx (hb hby at_217) k) ?_
    show own_Ends p.tables e below _ (T13.setTop (mkF m 218 #[.val (.int p0), .val (.int p1), .val (.int p2), .val (.int p3), .val (.int p4), .val (.int p5), .val (.int yy), .val (.int mm), .val (.int dd), .val (.int mo), .val (.int de), .val (.int dm), .val (.ref b1), .val (.int (1 : Int32)), .val (.long (own_pack yy mm dd)), .second, .val (.long (own_wd (own_pm (own_pack yy mm dd) (de.toInt64)) dm)), .second, .val (.int (own_before (0 : Int32) mo de dd dm)), .val (.int (own_before (1 : Int32) mo de dd dm)), .unset] []))
    refine own_step (fun _ k => XS.iload X13.here hx rfl (hb hby at_218) rfl k) ?_
    show own_Ends p.tables e below _ (T13.setTop (mkF m 220 #[.val (.int p0), .val (.int p1), .val (.int p2), .val (.int p3), .val (.int p4), .val (.int p5), .val (.int yy), .val (.int mm), .val (.int dd), .val (.int mo), .val (.int de), .val (.int dm), .val (.ref b1), .val (.int (1 : Int32)), .val (.long (own_pack yy mm dd)), .second, .val (.long (own_wd (own_pm (own_pack yy mm dd) (de.toInt64)) dm)), .second, .val (.int (own_before (0 : Int32) mo de dd dm)), .val (.int (own_before (1 : Int32) mo de dd dm)), .unset] [(.int (1 : Int32))]))
    refine own_step (fun _ k => XS.ifNo X13.here hx rfl (hb hby at_220) rfl ((if0 _ _).trans (feq (by decide)).1) k) ?_
    show own_Ends p.tables e below _ (T13.setTop (mkF m 223 #[.val (.int p0), .val (.int p1), .val (.int p2), .val (.int p3), .val (.int p4), .val (.int p5), .val (.int yy), .val (.int mm), .val (.int dd), .val (.int mo), .val (.int de), .val (.int dm), .val (.ref b1), .val (.int (1 : Int32)), .val (.long (own_pack yy mm dd)), .second, .val (.long (own_wd (own_pm (own_pack yy mm dd) (de.toInt64)) dm)), .second, .val (.int (own_before (0 : Int32) mo de dd dm)), .val (.int (own_before (1 : Int32) mo de dd dm)), .unset] []))
    refine own_step (fun _ k => XS.aload X13.here hx rfl (hb hby at_223) rfl rfl k) ?_
    show own_Ends p.tables e below _ (T13.setTop (mkF m 225 #[.val (.int p0), .val (.int p1), .val (.int p2), .val (.int p3), .val (.int p4), .val (.int p5), .val (.int yy), .val (.int mm), .val (.int dd), .val (.int mo), .val (.int de), .val (.int dm), .val (.ref b1), .val (.int (1 : Int32)), .val (.long (own_pack yy mm dd)), .second, .val (.long (own_wd (own_pm (own_pack yy mm dd) (de.toInt64)) dm)), .second, .val (.int (own_before (0 : Int32) mo de dd dm)), .val (.int (own_before (1 : Int32) mo de dd dm)), .unset] [(.ref b1)]))
    obtain ⟨cq14, kq14, q14a, q14b, q14c⟩ := isOf hZ rfl A1_13
    obtain ⟨_, _, ⟨T14, L14, k14, n14⟩, -, X14, ⟨Lc14, hQ14, l14, y14, z14⟩, st14⟩ := X13.virtualBack hx (y := (⟨"com/example/covenantry/covenantry/model/PeriodEnds", "hasNext", "()Z"⟩ : MethodName)) (z := (⟨"com/example/covenantry/covenantry/model/PeriodEnds", "hasNext", "()Z"⟩ : MethodName)) hown (mvT hZ (hw _ (List.mem_of_getElem? (i := 13) rfl))) (mvT hZ (hw _ (List.mem_of_getElem? (i := 14) rfl))) (notFace_of_selects (args := #[]) (mvT hZ (hw _ (List.mem_of_getElem? (i := 16) rfl)))) (mvT hZ (hw _ (List.mem_of_getElem? (i := 16) rfl))) (mvT hZ (hw _ (List.mem_of_getElem? (i := 15) rfl))) (by decide) (backOf (W := 0) (own_rm_hasNext l Z aw hw [] b1 (own_nsc (own_pack yy mm dd) mo (1 : Int64) (own_wd (own_pm (own_pack yy mm dd) (de.toInt64)) dm) s1) T13.heap n0 Z_13 Ff13) hZ (hw _ (List.mem_of_getElem? (i := 17) rfl)) (hw _ (List.mem_of_getElem? (i := 3) rfl)) (by decide) (by decide)) q14a q14c (g := (mkF m 225 #[.val (.int p0), .val (.int p1), .val (.int p2), .val (.int p3), .val (.int p4), .val (.int p5), .val (.int yy), .val (.int mm), .val (.int dd), .val (.int mo), .val (.int de), .val (.int dm), .val (.ref b1), .val (.int (1 : Int32)), .val (.long (own_pack yy mm dd)), .second, .val (.long (own_wd (own_pm (own_pack yy mm dd) (de.toInt64)) dm)), .second, .val (.int (own_before (0 : Int32) mo de dd dm)), .val (.int (own_before (1 : Int32) mo de dd dm)), .unset] [(.ref b1)])) rfl (by rw [hml]; rfl) (Steps.refl _) (argsL := []) (rest := []) (lenOf own_pd2 rfl) rfl (by show 2 * 0 + _ ≤ _; exact Nat.le_of_eq rfl) (hb hby at_225) (fun _ _ => ⟨rfl, rfl, (by decide : 1 + 0 ≤ _), (by decide : 6 + 0 ≤ _)⟩)
    dsimp only [Pt.U, Pt.locs, Pt.cells, Pt.slots] at X14 l14 y14 z14 st14 hQ14
    subst l14 y14 z14
    obtain ⟨rfl, N14q, e14⟩ := hQ14
    have N_14 := Fr.app N_13 N14q
    refine own_step (fun _ k => st14.trans k) ?_
    show own_Ends p.tables e below _ (T14.setTop (mkF m 228 #[.val (.int p0), .val (.int p1), .val (.int p2), .val (.int p3), .val (.int p4), .val (.int p5), .val (.int yy), .val (.int mm), .val (.int dd), .val (.int mo), .val (.int de), .val (.int dm), .val (.ref b1), .val (.int (1 : Int32)), .val (.long (own_pack yy mm dd)), .second, .val (.long (own_wd (own_pm (own_pack yy mm dd) (de.toInt64)) dm)), .second, .val (.int (own_before (0 : Int32) mo de dd dm)), .val (.int (own_before (1 : Int32) mo de dd dm)), .unset] [(.int (own_hn (own_nsc (own_pack yy mm dd) mo (1 : Int64) (own_wd (own_pm (own_pack yy mm dd) (de.toInt64)) dm) s1)))]))
    refine own_step (fun _ k => XS.iload X14.here hx rfl (hb hby at_228) rfl k) ?_
    show own_Ends p.tables e below _ (T14.setTop (mkF m 230 #[.val (.int p0), .val (.int p1), .val (.int p2), .val (.int p3), .val (.int p4), .val (.int p5), .val (.int yy), .val (.int mm), .val (.int dd), .val (.int mo), .val (.int de), .val (.int dm), .val (.ref b1), .val (.int (1 : Int32)), .val (.long (own_pack yy mm dd)), .second, .val (.long (own_wd (own_pm (own_pack yy mm dd) (de.toInt64)) dm)), .second, .val (.int (own_before (0 : Int32) mo de dd dm)), .val (.int (own_before (1 : Int32) mo de dd dm)), .unset] [(.int (own_before (1 : Int32) mo de dd dm)), (.int (own_hn (own_nsc (own_pack yy mm dd) mo (1 : Int64) (own_wd (own_pm (own_pack yy mm dd) (de.toInt64)) dm) s1)))]))
    refine own_step (fun _ k => XS.icmpNo X14.here hx rfl (hb hby at_230) rfl (teq heq1).2 k) ?_
    show own_Ends p.tables e below _ (T14.setTop (mkF m 233 #[.val (.int p0), .val (.int p1), .val (.int p2), .val (.int p3), .val (.int p4), .val (.int p5), .val (.int yy), .val (.int mm), .val (.int dd), .val (.int mo), .val (.int de), .val (.int dm), .val (.ref b1), .val (.int (1 : Int32)), .val (.long (own_pack yy mm dd)), .second, .val (.long (own_wd (own_pm (own_pack yy mm dd) (de.toInt64)) dm)), .second, .val (.int (own_before (0 : Int32) mo de dd dm)), .val (.int (own_before (1 : Int32) mo de dd dm)), .unset] []))
    refine own_step (fun _ k => XS.iconst X14.here hx rfl (hb hby at_233) k) ?_
    show own_Ends p.tables e below _ (T14.setTop (mkF m 234 #[.val (.int p0), .val (.int p1), .val (.int p2), .val (.int p3), .val (.int p4), .val (.int p5), .val (.int yy), .val (.int mm), .val (.int dd), .val (.int mo), .val (.int de), .val (.int dm), .val (.ref b1), .val (.int (1 : Int32)), .val (.long (own_pack yy mm dd)), .second, .val (.long (own_wd (own_pm (own_pack yy mm dd) (de.toInt64)) dm)), .second, .val (.int (own_before (0 : Int32) mo de dd dm)), .val (.int (own_before (1 : Int32) mo de dd dm)), .unset] [(.int (1 : Int32))]))
    refine own_step (fun _ k => XS.goto X14.here hx rfl (pc0 := 234) (pc' := 238) rfl (hb hby at_234) (by decide) (by decide) k) ?_
    show own_Ends p.tables e below _ (T14.setTop (mkF m 238 #[.val (.int p0), .val (.int p1), .val (.int p2), .val (.int p3), .val (.int p4), .val (.int p5), .val (.int yy), .val (.int mm), .val (.int dd), .val (.int mo), .val (.int de), .val (.int dm), .val (.ref b1), .val (.int (1 : Int32)), .val (.long (own_pack yy mm dd)), .second, .val (.long (own_wd (own_pm (own_pack yy mm dd) (de.toInt64)) dm)), .second, .val (.int (own_before (0 : Int32) mo de dd dm)), .val (.int (own_before (1 : Int32) mo de dd dm)), .unset] [(.int (1 : Int32))]))
    refine own_step (fun _ k => XS.istore X14.here hx rfl (hb hby at_238) rfl (l' := #[.val (.int p0), .val (.int p1), .val (.int p2), .val (.int p3), .val (.int p4), .val (.int p5), .val (.int yy), .val (.int mm), .val (.int dd), .val (.int mo), .val (.int de), .val (.int dm), .val (.ref b1), .val (.int (1 : Int32)), .val (.long (own_pack yy mm dd)), .second, .val (.long (own_wd (own_pm (own_pack yy mm dd) (de.toInt64)) dm)), .second, .val (.int (own_before (0 : Int32) mo de dd dm)), .val (.int (own_before (1 : Int32) mo de dd dm)), .unset]) rfl k) ?_
    show own_Ends p.tables e below _ (T14.setTop (mkF m 240 #[.val (.int p0), .val (.int p1), .val (.int p2), .val (.int p3), .val (.int p4), .val (.int p5), .val (.int yy), .val (.int mm), .val (.int dd), .val (.int mo), .val (.int de), .val (.int dm), .val (.ref b1), .val (.int (1 : Int32)), .val (.long (own_pack yy mm dd)), .second, .val (.long (own_wd (own_pm (own_pack yy mm dd) (de.toInt64)) dm)), .second, .val (.int (own_before (0 : Int32) mo de dd dm)), .val (.int (own_before (1 : Int32) mo de dd dm)), .unset] []))
    refine own_step (fun _ k => XS.iload X14.here hx rfl (hb hby at_240) rfl k) ?_
    show own_Ends p.tables e below _ (T14.setTop (mkF m 242 #[.val (.int p0), .val (.int p1), .val (.int p2), .val (.int p3), .val (.int p4), .val (.int p5), .val (.int yy), .val (.int mm), .val (.int dd), .val (.int mo), .val (.int de), .val (.int dm), .val (.ref b1), .val (.int (1 : Int32)), .val (.long (own_pack yy mm dd)), .second, .val (.long (own_wd (own_pm (own_pack yy mm dd) (de.toInt64)) dm)), .second, .val (.int (own_before (0 : Int32) mo de dd dm)), .val (.int (own_before (1 : Int32) mo de dd dm)), .unset] [(.int (own_before (1 : Int32) mo de dd dm))]))
    by_cases hc242 : (own_before (1 : Int32) mo de dd dm) = (0 : Int32)
    · refine own_step (fun _ k => XS.ifNo X14.here hx rfl (hb hby at_242) rfl ((if0 _ _).trans (teq hc242).2) k) ?_
      show own_Ends p.tables e below _ (T14.setTop (mkF m 245 #[.val (.int p0), .val (.int p1), .val (.int p2), .val (.int p3), .val (.int p4), .val (.int p5), .val (.int yy), .val (.int mm), .val (.int dd), .val (.int mo), .val (.int de), .val (.int dm), .val (.ref b1), .val (.int (1 : Int32)), .val (.long (own_pack yy mm dd)), .second, .val (.long (own_wd (own_pm (own_pack yy mm dd) (de.toInt64)) dm)), .second, .val (.int (own_before (0 : Int32) mo de dd dm)), .val (.int (own_before (1 : Int32) mo de dd dm)), .unset] []))
      refine own_step (fun _ k => XS.iload X14.here hx rfl (hb hby at_245) rfl k) ?_
      show own_Ends p.tables e below _ (T14.setTop (mkF m 247 #[.val (.int p0), .val (.int p1), .val (.int p2), .val (.int p3), .val (.int p4), .val (.int p5), .val (.int yy), .val (.int mm), .val (.int dd), .val (.int mo), .val (.int de), .val (.int dm), .val (.ref b1), .val (.int (1 : Int32)), .val (.long (own_pack yy mm dd)), .second, .val (.long (own_wd (own_pm (own_pack yy mm dd) (de.toInt64)) dm)), .second, .val (.int (own_before (0 : Int32) mo de dd dm)), .val (.int (own_before (1 : Int32) mo de dd dm)), .unset] [(.int (1 : Int32))]))
      exact own_retN X14 hx hlk (by decide) (by decide) (t := .boolean) Bd.returns (by simp) (hb hby at_247) (by rw [e14]; exact ⟨rfl, N_14⟩)
    · refine own_step (fun _ k => XS.ifYes X14.here hx rfl (pc0 := 242) (pc' := 248) rfl (hb hby at_242) rfl ((if0 _ _).trans (feq hc242).2) (by decide) (by decide) k) ?_
      show own_Ends p.tables e below _ (T14.setTop (mkF m 248 #[.val (.int p0), .val (.int p1), .val (.int p2), .val (.int p3), .val (.int p4), .val (.int p5), .val (.int yy), .val (.int mm), .val (.int dd), .val (.int mo), .val (.int de), .val (.int dm), .val (.ref b1), .val (.int (1 : Int32)), .val (.long (own_pack yy mm dd)), .second, .val (.long (own_wd (own_pm (own_pack yy mm dd) (de.toInt64)) dm)), .second, .val (.int (own_before (0 : Int32) mo de dd dm)), .val (.int (own_before (1 : Int32) mo de dd dm)), .unset] []))
      have hlt1 : s1 < (own_wd (own_pm (own_pack yy mm dd) (de.toInt64)) dm) := by
        by_cases q : s1 < (own_wd (own_pm (own_pack yy mm dd) (de.toInt64)) dm)
        · exact q
        · exact absurd ((hbf1 _ hD1).2 q) hc242
      have es2 : (own_nsc (own_pack yy mm dd) mo (1 : Int64) (own_wd (own_pm (own_pack yy mm dd) (de.toInt64)) dm) s1) = own_pm (own_pack yy mm dd) (((1 : Int64) + (1 : Int64)) * mo.toInt64) := if_pos hlt1
      have ep2 : (own_nsp (1 : Int64) (own_wd (own_pm (own_pack yy mm dd) (de.toInt64)) dm) s1) = (2 : Int64) := (if_pos hlt1).trans rfl
      obtain ⟨s2, hs2⟩ : ∃ z, z = own_pm (own_pack yy mm dd) (((1 : Int64) + (1 : Int64)) * mo.toInt64) := ⟨_, rfl⟩
      rw [← hs2] at es2
      have hD2 : own_Dt s2 ((12 * Y + M - 1 + 2 * Mo) / 12) ((12 * Y + M - 1 + 2 * Mo) % 12 + 1) D := by rw [hs2]; exact own_pm_val hDf hY0.1 hY0.2.1 hmo2.1 (by omega) (by omega)
      have Fsc2 : Fld Z T13.heap b1 "com/example/covenantry/covenantry/model/PeriodEnds" "scheduled" "J" (.long s2) := by have q := Ff13; rw [es2] at q; exact q
      have Fsp2 : Fld Z T13.heap b1 "com/example/covenantry/covenantry/model/PeriodEnds" "steps" "J" (.long (2 : Int64)) := by have q := Fd13; rw [ep2] at q; exact q
      refine own_step (fun _ k => XS.iconst X14.here hx rfl (hb hby at_248) k) ?_
      show own_Ends p.tables e below _ (T14.setTop (mkF m 249 #[.val (.int p0), .val (.int p1), .val (.int p2), .val (.int p3), .val (.int p4), .val (.int p5), .val (.int yy), .val (.int mm), .val (.int dd), .val (.int mo), .val (.int de), .val (.int dm), .val (.ref b1), .val (.int (1 : Int32)), .val (.long (own_pack yy mm dd)), .second, .val (.long (own_wd (own_pm (own_pack yy mm dd) (de.toInt64)) dm)), .second, .val (.int (own_before (0 : Int32) mo de dd dm)), .val (.int (own_before (1 : Int32) mo de dd dm)), .unset] [(.int (2 : Int32))]))
      refine own_step (fun _ k => XS.iload X14.here hx rfl (hb hby at_249) rfl k) ?_
      show own_Ends p.tables e below _ (T14.setTop (mkF m 251 #[.val (.int p0), .val (.int p1), .val (.int p2), .val (.int p3), .val (.int p4), .val (.int p5), .val (.int yy), .val (.int mm), .val (.int dd), .val (.int mo), .val (.int de), .val (.int dm), .val (.ref b1), .val (.int (1 : Int32)), .val (.long (own_pack yy mm dd)), .second, .val (.long (own_wd (own_pm (own_pack yy mm dd) (de.toInt64)) dm)), .second, .val (.int (own_before (0 : Int32) mo de dd dm)), .val (.int (own_before (1 : Int32) mo de dd dm)), .unset] [(.int mo), (.int (2 : Int32))]))
      refine own_step (fun _ k => XS.iload X14.here hx rfl (hb hby at_251) rfl k) ?_
      show own_Ends p.tables e below _ (T14.setTop (mkF m 253 #[.val (.int p0), .val (.int p1), .val (.int p2), .val (.int p3), .val (.int p4), .val (.int p5), .val (.int yy), .val (.int mm), .val (.int dd), .val (.int mo), .val (.int de), .val (.int dm), .val (.ref b1), .val (.int (1 : Int32)), .val (.long (own_pack yy mm dd)), .second, .val (.long (own_wd (own_pm (own_pack yy mm dd) (de.toInt64)) dm)), .second, .val (.int (own_before (0 : Int32) mo de dd dm)), .val (.int (own_before (1 : Int32) mo de dd dm)), .unset] [(.int de), (.int mo), (.int (2 : Int32))]))
      refine own_step (fun _ k => XS.iload X14.here hx rfl (hb hby at_253) rfl k) ?_
      show own_Ends p.tables e below _ (T14.setTop (mkF m 255 #[.val (.int p0), .val (.int p1), .val (.int p2), .val (.int p3), .val (.int p4), .val (.int p5), .val (.int yy), .val (.int mm), .val (.int dd), .val (.int mo), .val (.int de), .val (.int dm), .val (.ref b1), .val (.int (1 : Int32)), .val (.long (own_pack yy mm dd)), .second, .val (.long (own_wd (own_pm (own_pack yy mm dd) (de.toInt64)) dm)), .second, .val (.int (own_before (0 : Int32) mo de dd dm)), .val (.int (own_before (1 : Int32) mo de dd dm)), .unset] [(.int dd), (.int de), (.int mo), (.int (2 : Int32))]))
      refine own_step (fun _ k => XS.iload X14.here hx rfl (hb hby at_255) rfl k) ?_
      show own_Ends p.tables e below _ (T14.setTop (mkF m 257 #[.val (.int p0), .val (.int p1), .val (.int p2), .val (.int p3), .val (.int p4), .val (.int p5), .val (.int yy), .val (.int mm), .val (.int dd), .val (.int mo), .val (.int de), .val (.int dm), .val (.ref b1), .val (.int (1 : Int32)), .val (.long (own_pack yy mm dd)), .second, .val (.long (own_wd (own_pm (own_pack yy mm dd) (de.toInt64)) dm)), .second, .val (.int (own_before (0 : Int32) mo de dd dm)), .val (.int (own_before (1 : Int32) mo de dd dm)), .unset] [(.int dm), (.int dd), (.int de), (.int mo), (.int (2 : Int32))]))
      obtain ⟨_, _, ⟨T15, L15, k15, n15⟩, -, X15, ⟨Lc15, hQ15, l15, y15, z15⟩, st15⟩ := Jvm.LawKit.callS X14 hx (y := (⟨"com/example/covenantry/covenantry/model/PeriodEndsHasNextPinLaw", "before", "(IIIII)Z"⟩ : MethodName)) hown (mvT hZ (hw _ (List.mem_of_getElem? (i := 142) rfl))) (mvT hZ (hw _ (List.mem_of_getElem? (i := 143) rfl))) (mvT hZ (hw _ (List.mem_of_getElem? (i := 144) rfl))) (mvT hZ (hw _ (List.mem_of_getElem? (i := 145) rfl))) (by decide) (backOf (W := 0) (own_rm_before l Z aw hw [] (2 : Int32) mo de dd dm T13.heap n0 Z_13 ) hZ (hw _ (List.mem_of_getElem? (i := 145) rfl)) (hw _ (List.mem_of_getElem? (i := 144) rfl)) (by decide) (by decide)) (g := (mkF m 257 #[.val (.int p0), .val (.int p1), .val (.int p2), .val (.int p3), .val (.int p4), .val (.int p5), .val (.int yy), .val (.int mm), .val (.int dd), .val (.int mo), .val (.int de), .val (.int dm), .val (.ref b1), .val (.int (1 : Int32)), .val (.long (own_pack yy mm dd)), .second, .val (.long (own_wd (own_pm (own_pack yy mm dd) (de.toInt64)) dm)), .second, .val (.int (own_before (0 : Int32) mo de dd dm)), .val (.int (own_before (1 : Int32) mo de dd dm)), .unset] [(.int dm), (.int dd), (.int de), (.int mo), (.int (2 : Int32))])) rfl (by rw [hml]; rfl) (argsL := [(.int (2 : Int32)), (.int mo), (.int de), (.int dd), (.int dm)]) (rest := []) (lenOf own_pd16 rfl) rfl (by show 2 * 0 + _ ≤ _; exact Nat.le_of_eq rfl) (hb hby at_257) (fun _ _ => ⟨rfl, e14, (by decide : 1 + 0 ≤ _), (by decide : 6 + 0 ≤ _)⟩)
      dsimp only [Pt.U, Pt.locs, Pt.cells, Pt.slots] at X15 l15 y15 z15 st15 hQ15
      subst l15 y15 z15
      obtain ⟨rfl, N15q, e15⟩ := hQ15
      have N_15 := Fr.app N_14 N15q
      refine own_step st15 ?_
      show own_Ends p.tables e below _ (T15.setTop (mkF m 260 #[.val (.int p0), .val (.int p1), .val (.int p2), .val (.int p3), .val (.int p4), .val (.int p5), .val (.int yy), .val (.int mm), .val (.int dd), .val (.int mo), .val (.int de), .val (.int dm), .val (.ref b1), .val (.int (1 : Int32)), .val (.long (own_pack yy mm dd)), .second, .val (.long (own_wd (own_pm (own_pack yy mm dd) (de.toInt64)) dm)), .second, .val (.int (own_before (0 : Int32) mo de dd dm)), .val (.int (own_before (1 : Int32) mo de dd dm)), .unset] [(.int (own_before (2 : Int32) mo de dd dm))]))
      refine own_step (fun _ k => XS.istore X15.here hx rfl (hb hby at_260) rfl (l' := #[.val (.int p0), .val (.int p1), .val (.int p2), .val (.int p3), .val (.int p4), .val (.int p5), .val (.int yy), .val (.int mm), .val (.int dd), .val (.int mo), .val (.int de), .val (.int dm), .val (.ref b1), .val (.int (1 : Int32)), .val (.long (own_pack yy mm dd)), .second, .val (.long (own_wd (own_pm (own_pack yy mm dd) (de.toInt64)) dm)), .second, .val (.int (own_before (0 : Int32) mo de dd dm)), .val (.int (own_before (1 : Int32) mo de dd dm)), .val (.int (own_before (2 : Int32) mo de dd dm))]) rfl k) ?_
      show own_Ends p.tables e below _ (T15.setTop (mkF m 262 #[.val (.int p0), .val (.int p1), .val (.int p2), .val (.int p3), .val (.int p4), .val (.int p5), .val (.int yy), .val (.int mm), .val (.int dd), .val (.int mo), .val (.int de), .val (.int dm), .val (.ref b1), .val (.int (1 : Int32)), .val (.long (own_pack yy mm dd)), .second, .val (.long (own_wd (own_pm (own_pack yy mm dd) (de.toInt64)) dm)), .second, .val (.int (own_before (0 : Int32) mo de dd dm)), .val (.int (own_before (1 : Int32) mo de dd dm)), .val (.int (own_before (2 : Int32) mo de dd dm))] []))
      refine own_step (fun _ k => XS.aload X15.here hx rfl (hb hby at_262) rfl rfl k) ?_
      show own_Ends p.tables e below _ (T15.setTop (mkF m 264 #[.val (.int p0), .val (.int p1), .val (.int p2), .val (.int p3), .val (.int p4), .val (.int p5), .val (.int yy), .val (.int mm), .val (.int dd), .val (.int mo), .val (.int de), .val (.int dm), .val (.ref b1), .val (.int (1 : Int32)), .val (.long (own_pack yy mm dd)), .second, .val (.long (own_wd (own_pm (own_pack yy mm dd) (de.toInt64)) dm)), .second, .val (.int (own_before (0 : Int32) mo de dd dm)), .val (.int (own_before (1 : Int32) mo de dd dm)), .val (.int (own_before (2 : Int32) mo de dd dm))] [(.ref b1)]))
      obtain ⟨cq16, kq16, q16a, q16b, q16c⟩ := isOf hZ e15 A1_13
      obtain ⟨_, _, ⟨T16, L16, k16, n16⟩, -, X16, ⟨Lc16, hQ16, l16, y16, z16⟩, st16⟩ := X15.virtualBack hx (y := (⟨"com/example/covenantry/covenantry/model/PeriodEnds", "next", "()J"⟩ : MethodName)) (z := (⟨"com/example/covenantry/covenantry/model/PeriodEnds", "next", "()J"⟩ : MethodName)) hown (mvT hZ (hw _ (List.mem_of_getElem? (i := 146) rfl))) (mvT hZ (hw _ (List.mem_of_getElem? (i := 147) rfl))) (notFace_of_selects (args := #[]) (mvT hZ (hw _ (List.mem_of_getElem? (i := 149) rfl)))) (mvT hZ (hw _ (List.mem_of_getElem? (i := 149) rfl))) (mvT hZ (hw _ (List.mem_of_getElem? (i := 148) rfl))) (by decide) (backOf (W := 0) (own_rm_next l Z aw hw [] b1 (own_pack yy mm dd) mo (2 : Int64) (own_wd (own_pm (own_pack yy mm dd) (de.toInt64)) dm) s2 wY rY T13.heap n0 Z_13 A1_13 Fa13 Fb13 Fc13 Fsp2 Fe13 Fsc2 g_b1 S_Y_13 Ew_Y_13 Fr_Y_13 Er_Y_13 Fm_Y_13 Fx_Y_13 (Ne.symm ne_wY_b1) (Ne.symm ne_rY_b1) hD2.ne (fun _ => (own_mb hDf hmo3).1) (fun _ => (own_mb hDf hmo3).2)) hZ (hw _ (List.mem_of_getElem? (i := 150) rfl)) (hw _ (List.mem_of_getElem? (i := 3) rfl)) (by decide) (by decide)) q16a q16c (g := (mkF m 264 #[.val (.int p0), .val (.int p1), .val (.int p2), .val (.int p3), .val (.int p4), .val (.int p5), .val (.int yy), .val (.int mm), .val (.int dd), .val (.int mo), .val (.int de), .val (.int dm), .val (.ref b1), .val (.int (1 : Int32)), .val (.long (own_pack yy mm dd)), .second, .val (.long (own_wd (own_pm (own_pack yy mm dd) (de.toInt64)) dm)), .second, .val (.int (own_before (0 : Int32) mo de dd dm)), .val (.int (own_before (1 : Int32) mo de dd dm)), .val (.int (own_before (2 : Int32) mo de dd dm))] [(.ref b1)])) rfl (by rw [hml]; rfl) (Steps.refl _) (argsL := []) (rest := []) (lenOf own_pd1 rfl) rfl (by show 2 * 0 + _ ≤ _; exact Nat.le_of_eq rfl) (hb hby at_264) (fun _ _ => ⟨rfl, e15, (by decide : 1 + 0 ≤ _), (by decide : 6 + 0 ≤ _)⟩)
      dsimp only [Pt.U, Pt.locs, Pt.cells, Pt.slots] at X16 l16 y16 z16 st16 hQ16
      subst l16 y16 z16
      obtain ⟨rfl, N16q, k16, Fa16, Fb16, Fc16, Fd16, Fe16, Ff16⟩ := hQ16
      have N_16 := Fr.app N_15 N16q
      have S_Y_16 := own_Sta_keep S_Y_13 k16 (allS (own_ns_exa A1_13) all0)
      have Ew_Y_16 := Ew_Y_13.keep k16
      have Fr_Y_16 := Fr_Y_13.keep k16 (ninS ne_wY_b1 nin0)
      have Er_Y_16 := Er_Y_13.keep k16
      have Fm_Y_16 := Fm_Y_13.keep k16 (ninS ne_rY_b1 nin0)
      have Fx_Y_16 := Fx_Y_13.keep k16 (ninS ne_rY_b1 nin0)
      have S_M_16 := own_Sta_keep S_M_13 k16 (allS (own_ns_exa A1_13) all0)
      have Ew_M_16 := Ew_M_13.keep k16
      have Fr_M_16 := Fr_M_13.keep k16 (ninS ne_wM_b1 nin0)
      have Er_M_16 := Er_M_13.keep k16
      have Fm_M_16 := Fm_M_13.keep k16 (ninS ne_rM_b1 nin0)
      have Fx_M_16 := Fx_M_13.keep k16 (ninS ne_rM_b1 nin0)
      have A1_16 := A1_13.keep k16
      have K_16 : Keep h0 T16.heap [] := K_13.trans k16 (allS (Or.inr sz_b1) all0)
      have Z_16 : n0 ≤ T16.heap.size := Nat.le_trans Z_13 k16.1
      refine own_step (fun _ k => st16.trans k) ?_
      show own_Ends p.tables e below _ (T16.setTop (mkF m 267 #[.val (.int p0), .val (.int p1), .val (.int p2), .val (.int p3), .val (.int p4), .val (.int p5), .val (.int yy), .val (.int mm), .val (.int dd), .val (.int mo), .val (.int de), .val (.int dm), .val (.ref b1), .val (.int (1 : Int32)), .val (.long (own_pack yy mm dd)), .second, .val (.long (own_wd (own_pm (own_pack yy mm dd) (de.toInt64)) dm)), .second, .val (.int (own_before (0 : Int32) mo de dd dm)), .val (.int (own_before (1 : Int32) mo de dd dm)), .val (.int (own_before (2 : Int32) mo de dd dm))] [(.long (own_nv (own_wd (own_pm (own_pack yy mm dd) (de.toInt64)) dm) s2))]))
      have heq2 : own_hn (own_nsc (own_pack yy mm dd) mo (2 : Int64) (own_wd (own_pm (own_pack yy mm dd) (de.toInt64)) dm) s2) = (own_before (2 : Int32) mo de dd dm) := by
        by_cases q : s2 < (own_wd (own_pm (own_pack yy mm dd) (de.toInt64)) dm)
        · rw [(hbf2 _ hD2).1 q]; unfold own_nsc; rw [if_pos q]; exact (own_pm_val hDf hY0.1 hY0.2.1 hmo3.1 (by omega) (by omega)).hn
        · rw [(hbf2 _ hD2).2 q]; unfold own_nsc; rw [if_neg q]; rfl
      refine own_step (fun _ k => own_pop2J X16 hx (hb hby at_267) k) ?_
      show own_Ends p.tables e below _ (T16.setTop (mkF m 268 #[.val (.int p0), .val (.int p1), .val (.int p2), .val (.int p3), .val (.int p4), .val (.int p5), .val (.int yy), .val (.int mm), .val (.int dd), .val (.int mo), .val (.int de), .val (.int dm), .val (.ref b1), .val (.int (1 : Int32)), .val (.long (own_pack yy mm dd)), .second, .val (.long (own_wd (own_pm (own_pack yy mm dd) (de.toInt64)) dm)), .second, .val (.int (own_before (0 : Int32) mo de dd dm)), .val (.int (own_before (1 : Int32) mo de dd dm)), .val (.int (own_before (2 : Int32) mo de dd dm))] []))
      refine own_step (fun _ k => XS.iload X16.here hx rfl (hb hby at_268) rfl k) ?_
      show own_Ends p.tables e below _ (T16.setTop (mkF m 270 #[.val (.int p0), .val (.int p1), .val (.int p2), .val (.int p3), .val (.int p4), .val (.int p5), .val (.int yy), .val (.int mm), .val (.int dd), .val (.int mo), .val (.int de), .val (.int dm), .val (.ref b1), .val (.int (1 : Int32)), .val (.long (own_pack yy mm dd)), .second, .val (.long (own_wd (own_pm (own_pack yy mm dd) (de.toInt64)) dm)), .second, .val (.int (own_before (0 : Int32) mo de dd dm)), .val (.int (own_before (1 : Int32) mo de dd dm)), .val (.int (own_before (2 : Int32) mo de dd dm))] [(.int (1 : Int32))]))
      refine own_step (fun _ k => XS.ifNo X16.here hx rfl (hb hby at_270) rfl ((if0 _ _).trans (feq (by decide)).1) k) ?_
      show own_Ends p.tables e below _ (T16.setTop (mkF m 273 #[.val (.int p0), .val (.int p1), .val (.int p2), .val (.int p3), .val (.int p4), .val (.int p5), .val (.int yy), .val (.int mm), .val (.int dd), .val (.int mo), .val (.int de), .val (.int dm), .val (.ref b1), .val (.int (1 : Int32)), .val (.long (own_pack yy mm dd)), .second, .val (.long (own_wd (own_pm (own_pack yy mm dd) (de.toInt64)) dm)), .second, .val (.int (own_before (0 : Int32) mo de dd dm)), .val (.int (own_before (1 : Int32) mo de dd dm)), .val (.int (own_before (2 : Int32) mo de dd dm))] []))
      refine own_step (fun _ k => XS.aload X16.here hx rfl (hb hby at_273) rfl rfl k) ?_
      show own_Ends p.tables e below _ (T16.setTop (mkF m 275 #[.val (.int p0), .val (.int p1), .val (.int p2), .val (.int p3), .val (.int p4), .val (.int p5), .val (.int yy), .val (.int mm), .val (.int dd), .val (.int mo), .val (.int de), .val (.int dm), .val (.ref b1), .val (.int (1 : Int32)), .val (.long (own_pack yy mm dd)), .second, .val (.long (own_wd (own_pm (own_pack yy mm dd) (de.toInt64)) dm)), .second, .val (.int (own_before (0 : Int32) mo de dd dm)), .val (.int (own_before (1 : Int32) mo de dd dm)), .val (.int (own_before (2 : Int32) mo de dd dm))] [(.ref b1)]))
      obtain ⟨cq17, kq17, q17a, q17b, q17c⟩ := isOf hZ rfl A1_16
      obtain ⟨_, _, ⟨T17, L17, k17, n17⟩, -, X17, ⟨Lc17, hQ17, l17, y17, z17⟩, st17⟩ := X16.virtualBack hx (y := (⟨"com/example/covenantry/covenantry/model/PeriodEnds", "hasNext", "()Z"⟩ : MethodName)) (z := (⟨"com/example/covenantry/covenantry/model/PeriodEnds", "hasNext", "()Z"⟩ : MethodName)) hown (mvT hZ (hw _ (List.mem_of_getElem? (i := 13) rfl))) (mvT hZ (hw _ (List.mem_of_getElem? (i := 14) rfl))) (notFace_of_selects (args := #[]) (mvT hZ (hw _ (List.mem_of_getElem? (i := 16) rfl)))) (mvT hZ (hw _ (List.mem_of_getElem? (i := 16) rfl))) (mvT hZ (hw _ (List.mem_of_getElem? (i := 15) rfl))) (by decide) (backOf (W := 0) (own_rm_hasNext l Z aw hw [] b1 (own_nsc (own_pack yy mm dd) mo (2 : Int64) (own_wd (own_pm (own_pack yy mm dd) (de.toInt64)) dm) s2) T16.heap n0 Z_16 Ff16) hZ (hw _ (List.mem_of_getElem? (i := 17) rfl)) (hw _ (List.mem_of_getElem? (i := 3) rfl)) (by decide) (by decide)) q17a q17c (g := (mkF m 275 #[.val (.int p0), .val (.int p1), .val (.int p2), .val (.int p3), .val (.int p4), .val (.int p5), .val (.int yy), .val (.int mm), .val (.int dd), .val (.int mo), .val (.int de), .val (.int dm), .val (.ref b1), .val (.int (1 : Int32)), .val (.long (own_pack yy mm dd)), .second, .val (.long (own_wd (own_pm (own_pack yy mm dd) (de.toInt64)) dm)), .second, .val (.int (own_before (0 : Int32) mo de dd dm)), .val (.int (own_before (1 : Int32) mo de dd dm)), .val (.int (own_before (2 : Int32) mo de dd dm))] [(.ref b1)])) rfl (by rw [hml]; rfl) (Steps.refl _) (argsL := []) (rest := []) (lenOf own_pd2 rfl) rfl (by show 2 * 0 + _ ≤ _; exact Nat.le_of_eq rfl) (hb hby at_275) (fun _ _ => ⟨rfl, rfl, (by decide : 1 + 0 ≤ _), (by decide : 6 + 0 ≤ _)⟩)
      dsimp only [Pt.U, Pt.locs, Pt.cells, Pt.slots] at X17 l17 y17 z17 st17 hQ17
      subst l17 y17 z17
      obtain ⟨rfl, N17q, e17⟩ := hQ17
      have N_17 := Fr.app N_16 N17q
      refine own_step (fun _ k => st17.trans k) ?_
      show own_Ends p.tables e below _ (T17.setTop (mkF m 278 #[.val (.int p0), .val (.int p1), .val (.int p2), .val (.int p3), .val (.int p4), .val (.int p5), .val (.int yy), .val (.int mm), .val (.int dd), .val (.int mo), .val (.int de), .val (.int dm), .val (.ref b1), .val (.int (1 : Int32)), .val (.long (own_pack yy mm dd)), .second, .val (.long (own_wd (own_pm (own_pack yy mm dd) (de.toInt64)) dm)), .second, .val (.int (own_before (0 : Int32) mo de dd dm)), .val (.int (own_before (1 : Int32) mo de dd dm)), .val (.int (own_before (2 : Int32) mo de dd dm))] [(.int (own_hn (own_nsc (own_pack yy mm dd) mo (2 : Int64) (own_wd (own_pm (own_pack yy mm dd) (de.toInt64)) dm) s2)))]))
      refine own_step (fun _ k => XS.iload X17.here hx rfl (hb hby at_278) rfl k) ?_
      show own_Ends p.tables e below _ (T17.setTop (mkF m 280 #[.val (.int p0), .val (.int p1), .val (.int p2), .val (.int p3), .val (.int p4), .val (.int p5), .val (.int yy), .val (.int mm), .val (.int dd), .val (.int mo), .val (.int de), .val (.int dm), .val (.ref b1), .val (.int (1 : Int32)), .val (.long (own_pack yy mm dd)), .second, .val (.long (own_wd (own_pm (own_pack yy mm dd) (de.toInt64)) dm)), .second, .val (.int (own_before (0 : Int32) mo de dd dm)), .val (.int (own_before (1 : Int32) mo de dd dm)), .val (.int (own_before (2 : Int32) mo de dd dm))] [(.int (own_before (2 : Int32) mo de dd dm)), (.int (own_hn (own_nsc (own_pack yy mm dd) mo (2 : Int64) (own_wd (own_pm (own_pack yy mm dd) (de.toInt64)) dm) s2)))]))
      refine own_step (fun _ k => XS.icmpNo X17.here hx rfl (hb hby at_280) rfl (teq heq2).2 k) ?_
      show own_Ends p.tables e below _ (T17.setTop (mkF m 283 #[.val (.int p0), .val (.int p1), .val (.int p2), .val (.int p3), .val (.int p4), .val (.int p5), .val (.int yy), .val (.int mm), .val (.int dd), .val (.int mo), .val (.int de), .val (.int dm), .val (.ref b1), .val (.int (1 : Int32)), .val (.long (own_pack yy mm dd)), .second, .val (.long (own_wd (own_pm (own_pack yy mm dd) (de.toInt64)) dm)), .second, .val (.int (own_before (0 : Int32) mo de dd dm)), .val (.int (own_before (1 : Int32) mo de dd dm)), .val (.int (own_before (2 : Int32) mo de dd dm))] []))
      refine own_step (fun _ k => XS.iconst X17.here hx rfl (hb hby at_283) k) ?_
      show own_Ends p.tables e below _ (T17.setTop (mkF m 284 #[.val (.int p0), .val (.int p1), .val (.int p2), .val (.int p3), .val (.int p4), .val (.int p5), .val (.int yy), .val (.int mm), .val (.int dd), .val (.int mo), .val (.int de), .val (.int dm), .val (.ref b1), .val (.int (1 : Int32)), .val (.long (own_pack yy mm dd)), .second, .val (.long (own_wd (own_pm (own_pack yy mm dd) (de.toInt64)) dm)), .second, .val (.int (own_before (0 : Int32) mo de dd dm)), .val (.int (own_before (1 : Int32) mo de dd dm)), .val (.int (own_before (2 : Int32) mo de dd dm))] [(.int (1 : Int32))]))
      refine own_step (fun _ k => XS.goto X17.here hx rfl (pc0 := 284) (pc' := 288) rfl (hb hby at_284) (by decide) (by decide) k) ?_
      show own_Ends p.tables e below _ (T17.setTop (mkF m 288 #[.val (.int p0), .val (.int p1), .val (.int p2), .val (.int p3), .val (.int p4), .val (.int p5), .val (.int yy), .val (.int mm), .val (.int dd), .val (.int mo), .val (.int de), .val (.int dm), .val (.ref b1), .val (.int (1 : Int32)), .val (.long (own_pack yy mm dd)), .second, .val (.long (own_wd (own_pm (own_pack yy mm dd) (de.toInt64)) dm)), .second, .val (.int (own_before (0 : Int32) mo de dd dm)), .val (.int (own_before (1 : Int32) mo de dd dm)), .val (.int (own_before (2 : Int32) mo de dd dm))] [(.int (1 : Int32))]))
      refine own_step (fun _ k => XS.istore X17.here hx rfl (hb hby at_288) rfl (l' := #[.val (.int p0), .val (.int p1), .val (.int p2), .val (.int p3), .val (.int p4), .val (.int p5), .val (.int yy), .val (.int mm), .val (.int dd), .val (.int mo), .val (.int de), .val (.int dm), .val (.ref b1), .val (.int (1 : Int32)), .val (.long (own_pack yy mm dd)), .second, .val (.long (own_wd (own_pm (own_pack yy mm dd) (de.toInt64)) dm)), .second, .val (.int (own_before (0 : Int32) mo de dd dm)), .val (.int (own_before (1 : Int32) mo de dd dm)), .val (.int (own_before (2 : Int32) mo de dd dm))]) rfl k) ?_
      show own_Ends p.tables e below _ (T17.setTop (mkF m 290 #[.val (.int p0), .val (.int p1), .val (.int p2), .val (.int p3), .val (.int p4), .val (.int p5), .val (.int yy), .val (.int mm), .val (.int dd), .val (.int mo), .val (.int de), .val (.int dm), .val (.ref b1), .val (.int (1 : Int32)), .val (.long (own_pack yy mm dd)), .second, .val (.long (own_wd (own_pm (own_pack yy mm dd) (de.toInt64)) dm)), .second, .val (.int (own_before (0 : Int32) mo de dd dm)), .val (.int (own_before (1 : Int32) mo de dd dm)), .val (.int (own_before (2 : Int32) mo de dd dm))] []))
      refine own_step (fun _ k => XS.iload X17.here hx rfl (hb hby at_290) rfl k) ?_
      show own_Ends p.tables e below _ (T17.setTop (mkF m 292 #[.val (.int p0), .val (.int p1), .val (.int p2), .val (.int p3), .val (.int p4), .val (.int p5), .val (.int yy), .val (.int mm), .val (.int dd), .val (.int mo), .val (.int de), .val (.int dm), .val (.ref b1), .val (.int (1 : Int32)), .val (.long (own_pack yy mm dd)), .second, .val (.long (own_wd (own_pm (own_pack yy mm dd) (de.toInt64)) dm)), .second, .val (.int (own_before (0 : Int32) mo de dd dm)), .val (.int (own_before (1 : Int32) mo de dd dm)), .val (.int (own_before (2 : Int32) mo de dd dm))] [(.int (1 : Int32))]))
      exact own_retN X17 hx hlk (by decide) (by decide) (t := .boolean) Bd.returns (by simp) (hb hby at_292) (by rw [e17]; exact ⟨rfl, N_17⟩)
theorem own_eq_long {args : Array Value} {s : State} {t : Term} {k : Int64} (h : (Jvm.Cond.eq t (.long k)).value args s none s [] = some true) : t.eval args s none [] s = some (.long k) := by
  obtain ⟨x, y, h1, h2, k1, -⟩ := cmp_v (Or.inl h)
  have e : y = .long k := Option.some.inj (h2.symm.trans (long_at k))
  subst e
  cases x <;> simp [Kin, Value.isRef] at k1
  rename_i z
  have := gotT (eq_L h1 h2) h
  rw [h1, this]
set_option maxRecDepth 65536 in
set_option maxHeartbeats 40000000 in
theorem own_comes_1 {Post : Tables → Env → Array Value → State → Outcome → State → Prop} (hpost : ∀ tb e args s v u, (limb_1_1.after args s (.returned v) u = true ∧ limb_1_2.after args s (.returned v) u = true ∧ True) → FrameEnd s (.returned v) u (Jvm.fieldLocs frame_1_writes args s ++ Jvm.arrayLocs frame_1_arrays args s ++ Jvm.staticLocs frame_1_statics s) 16 128 → Post tb e args s (.returned v) u) :
    ArmFor flags0 classFile x code maxLocals ret World_1 tables_1 room_1 Calls_1 rest_1 Pre_1 Post := by
  intro l hfl _ _ p e ha hc hk s m args below hf hA hF happ hP
  obtain ⟨hcalls, hrest, hpre⟩ := hP
  obtain ⟨-, -, -, hnamed, -, -, -, hat⟩ := (Spec.applies_iff hf).mp happ
  obtain ⟨hg, hn⟩ := and_e (Cond.before_iff.mp (show (Jvm.Cond.and given_1 narrow_1).before args s = true from hpre))
  obtain ⟨g0, r0⟩ := and_e hg
  obtain ⟨g1, r1⟩ := and_e r0
  obtain ⟨g2, r2⟩ := and_e r1
  obtain ⟨g3, r3⟩ := and_e r2
  obtain ⟨g4, r4⟩ := and_e r3
  obtain ⟨g5, r5⟩ := and_e r4
  obtain ⟨w0, w1, w2, w3, w4, w5, rfl⟩ : ∃ w0 w1 w2 w3 w4 w5 : Value, args = #[w0, w1, w2, w3, w4, w5] := by
    have hs : args.size = 6 := by simpa [Cond.value, given_1] using g0
    obtain ⟨L⟩ := args
    match L, hs with
    | [w0, w1, w2, w3, w4, w5], _ => exact ⟨w0, w1, w2, w3, w4, w5, rfl⟩
  have hw := fun d (hd : d ∈ tables_1) => atoms_spec (ws := Jvm.Cond.code x code maxLocals ret :: tables_1) hat d (List.mem_cons_of_mem _ hd)
  have hfit : Fit s := fun {y c} hc i hi => by
    obtain ⟨ha, rfl⟩ := Array.getElem?_eq_some_iff.mp hc
    have q := List.all_eq_true.mp ((Array.all_eq_true_iff_forall_mem.mp hF) _ (Array.getElem_mem ha)) i (List.mem_range.mpr hi)
    simpa [Array.getElem?_eq_getElem hi] using q
  obtain ⟨i0, ei0⟩ := is_v g1
  obtain rfl : w0 = (.int i0) := Option.some.inj ei0
  obtain ⟨i1, ei1⟩ := is_v g2
  obtain rfl : w1 = (.int i1) := Option.some.inj ei1
  obtain ⟨i2, ei2⟩ := is_v g3
  obtain rfl : w2 = (.int i2) := Option.some.inj ei2
  obtain ⟨i3, ei3⟩ := is_v g4
  obtain rfl : w3 = (.int i3) := Option.some.inj ei3
  obtain ⟨i4, ei4⟩ := is_v g5
  obtain rfl : w4 = (.int i4) := Option.some.inj ei4
  obtain ⟨i5, ei5⟩ := is_v r5
  obtain rfl : w5 = (.int i5) := Option.some.inj ei5
  obtain ⟨hsets, -⟩ := atoms_of _ (rest_1_c_eq ▸ (show rest_1_c.before _ s = true from hrest))
  obtain ⟨wY, ewY⟩ := exa_v (Cond.before_iff.mp (hsets _ (List.mem_of_getElem? (i := 6) rfl)))
  have S_Y := Sta.start ewY (Or.inl (hsets _ (List.mem_of_getElem? (i := 1) rfl)))
  have Ew_Y := Exa.start ewY (Cond.before_iff.mp (hsets _ (List.mem_of_getElem? (i := 6) rfl)))
  obtain ⟨rY, erY⟩ := exa_v (Cond.before_iff.mp (hsets _ (List.mem_of_getElem? (i := 22) rfl)))
  have Fr_Y := Fld.start ((fld_at ewY).symm.trans erY)
  have Er_Y := Exa.start erY (Cond.before_iff.mp (hsets _ (List.mem_of_getElem? (i := 22) rfl)))
  have Fm_Y := Fld.start ((fld_at erY).symm.trans (own_eq_long (Cond.before_iff.mp (hsets _ (List.mem_of_getElem? (i := 23) rfl)))))
  have Fx_Y := Fld.start ((fld_at erY).symm.trans (own_eq_long (Cond.before_iff.mp (hsets _ (List.mem_of_getElem? (i := 26) rfl)))))
  obtain ⟨wM, ewM⟩ := exa_v (Cond.before_iff.mp (hsets _ (List.mem_of_getElem? (i := 34) rfl)))
  have S_M := Sta.start ewM (Or.inl (hsets _ (List.mem_of_getElem? (i := 29) rfl)))
  have Ew_M := Exa.start ewM (Cond.before_iff.mp (hsets _ (List.mem_of_getElem? (i := 34) rfl)))
  obtain ⟨rM, erM⟩ := exa_v (Cond.before_iff.mp (hsets _ (List.mem_of_getElem? (i := 50) rfl)))
  have Fr_M := Fld.start ((fld_at ewM).symm.trans erM)
  have Er_M := Exa.start erM (Cond.before_iff.mp (hsets _ (List.mem_of_getElem? (i := 50) rfl)))
  have Fm_M := Fld.start ((fld_at erM).symm.trans (own_eq_long (Cond.before_iff.mp (hsets _ (List.mem_of_getElem? (i := 51) rfl)))))
  have Fx_M := Fld.start ((fld_at erM).symm.trans (own_eq_long (Cond.before_iff.mp (hsets _ (List.mem_of_getElem? (i := 54) rfl)))))
  obtain ⟨n, o, h1, h2, h3, _, L, rfl, ⟨rfl, N⟩, hq⟩ := own_rm_law l s _ hw tables_1 i0 i1 i2 i3 i4 i5 wY rY wM rM s.heap s.heap.size (Nat.le_refl _) S_Y Ew_Y Fr_Y Er_Y Fm_Y Fx_Y S_M Ew_M Fr_M Er_M Fm_M Fx_M p e ha hc hk s m _ below hf ((Spec.applies_iff_loose hf).mp happ).1 ⟨rfl, State.Warmed39.refl s, rfl⟩ trivial
  refine ⟨n, _, h1, h2, h3, hpost _ _ _ _ _ _ ⟨Cond.after_iff.mpr rfl, Cond.after_iff.mpr (eq_i res_at (Term.int_eval (1)) rfl), trivial⟩ ⟨hq.1, hq.2.1, (hq.2.2.sift fun y hy => Or.inr (N y hy)).mono (by decide) (by decide)⟩⟩
theorem main_1_1 : Claimed_1_1 := own_comes_1 fun _ _ _ _ _ _ h hF => ⟨h.1, hF⟩
theorem main_1_2 : Claimed_1_2 := own_comes_1 fun _ _ _ _ _ _ h hF => ⟨h.2.1, hF⟩
end Jvm.Pilot.@@N@@
namespace Jvm.Pilot.@@N@@
open Jvm Jvm.ClassFile Sem Op Lib Jvm.Free Jvm.Stand Jvm.Pilot.@@N@@.Jvm.D
/-! MADE BY PROGRAM (witnessworld.py) out of the Statement's table words and the real class files: 24 classes; the members and pool entries that the words name. The judged class is class 1, her method 2. -/
namespace start1
open Jvm.ClassFile
def u (s : String) : CpInfo := .utf8 (stringToUtf16 s)
/-- a pool by its gaps: so many unusable entries, then the entry; so many at the end -/
def gap : Nat → List CpInfo → List CpInfo
  | 0, r => r
  | n + 1, r => .unusable :: gap n r
def poolList (es : List (Nat × CpInfo)) (last : Nat) : List CpInfo := es.foldr (fun e r => gap e.1 (e.2 :: r)) (gap last [])
def pool (es : List (Nat × CpInfo)) (last : Nat) : Array CpInfo := ⟨poolList es last⟩
def fileOf (pool : Array CpInfo) (this : Nat) (attrs : Array Attribute := #[]) (ms : Array MethodInfo := #[]) (fl : Nat := 33) (sup : Nat := 0) (ifs : Array Nat := #[]) (fds : Array FieldInfo := #[]) : ClassFile where
  minorVersion := 0
  majorVersion := 65
  constantPool := pool
  accessFlags := fl
  thisClass := this
  superClass := sup
  interfaces := ifs
  fields := fds
  methods := ms
  attributes := attrs
def plain (name : String) (sup : Option ClassId) : Class where
  name := name
  kind := .ordinary
  loader := none
  accessFlags := 33
  super := sup
  interfaces := #[]
  cf := none
  fields := #[]
  methods := #[]
  instanceTypes := #[]
  staticTypes := #[]
  resolved := #[]
  callSites := []
  init := .initialized
  statics := none
  mirror := none

def pool0 : Array CpInfo := pool [(5, u "<init>"), (0, u "()V"), (1, .class_ 10), (1, u "java/lang/Object")] 113

def k0c0 : Code := { maxStack := 0, maxLocals := 1, code := object_method_1_code, exceptionTable := #[], attributes := #[] }
def k0m0 : Method := { name := "<init>", desc := "()V", sig := { parameters := [], returnType := none }, accessFlags := 1, code := some k0c0 }
/-- java/lang/Object -/
def k0 : Class := { plain "java/lang/Object" none with
  accessFlags := 33
  interfaces := #[]
  cf := some (fileOf pool0 8 #[] #[{ accessFlags := 1, nameIndex := 5, descriptorIndex := 6, attributes := #[] }] 33 0 #[] #[])
  fields := #[]
  methods := #[k0m0]
  instanceTypes := #[]
  staticTypes := #[]
  resolved := Array.replicate 124 none
  statics := none }

def pool1 : Array CpInfo := pool [(2, .class_ 4), (0, .nameAndType 5 6), (0, u "java/lang/Object"), (0, u "<init>"), (0, u "()V"), (0, .integer 2147483647), (0, .class_ 9), (0, u "com/example/covenantry/covenantry/model/PeriodEnds"), (0, .methodref 8 3), (0, .methodref 8 12), (0, .nameAndType 13 14), (0, u "hasNext"), (0, u "()Z"), (0, .methodref 16 17), (0, .class_ 18), (0, .nameAndType 19 20), (0, u "com/example/covenantry/covenantry/model/PackedDates"), (0, u "of"), (0, u "(III)J"), (0, .methodref 16 22), (0, .nameAndType 23 24), (0, u "plusMonths"), (0, u "(JJ)J"), (0, .methodref 16 26), (0, .nameAndType 27 28), (0, u "withDay"), (0, u "(JI)J"), (0, .methodref 8 30), (0, .nameAndType 31 32), (0, u "start"), (0, u "(JIJ)V"), (0, .methodref 34 35), (0, .class_ 36), (0, .nameAndType 37 38), (0, u "com/example/covenantry/covenantry/model/PeriodEndsHasNextPinLaw"), (0, u "before"), (0, u "(IIIII)Z"), (0, .methodref 8 40), (0, .nameAndType 41 42), (0, u "next"), (0, u "()J"), (3, u "law"), (0, u "(IIIIII)Z")] 2

def k1m0 : Method := { name := "<init>", desc := "()V", sig := { parameters := [], returnType := none }, accessFlags := 2, code := none }
def k1c1 : Code := { maxStack := 2, maxLocals := 6, code := method_2_code, exceptionTable := #[], attributes := #[] }
def k1m1 : Method := { name := "before", desc := "(IIIII)Z", sig := { parameters := [.int, .int, .int, .int, .int], returnType := some .boolean }, accessFlags := 10, code := some k1c1 }
def k1c2 : Code := { maxStack := 6, maxLocals := 21, code := code, exceptionTable := #[], attributes := #[] }
def k1m2 : Method := { name := "law", desc := "(IIIIII)Z", sig := { parameters := [.int, .int, .int, .int, .int, .int], returnType := some .boolean }, accessFlags := 9, code := some k1c2 }
/-- com/example/covenantry/covenantry/model/PeriodEndsHasNextPinLaw -/
def k1 : Class := { plain "com/example/covenantry/covenantry/model/PeriodEndsHasNextPinLaw" (some 0) with
  accessFlags := 49
  interfaces := #[]
  cf := some (fileOf pool1 34 #[] #[{ accessFlags := 2, nameIndex := 5, descriptorIndex := 6, attributes := #[] }, { accessFlags := 10, nameIndex := 37, descriptorIndex := 38, attributes := #[] }, { accessFlags := 9, nameIndex := 46, descriptorIndex := 47, attributes := #[] }] 49 2 #[] #[])
  fields := #[]
  methods := #[k1m0, k1m1, k1m2]
  instanceTypes := #[]
  staticTypes := #[]
  resolved := Array.replicate 50 none
  statics := none }

def pool2 : Array CpInfo := pool [(3, .methodref 4 5), (0, .class_ 6), (0, .nameAndType 7 8), (0, u "java/lang/Object"), (0, u "<init>"), (0, u "()V"), (0, .class_ 10), (0, u "com/example/covenantry/covenantry/model/PeriodEnds"), (0, .long 9223372036854775808), (1, .fieldref 9 14), (0, .nameAndType 15 16), (0, u "scheduled"), (0, u "J"), (1, u "paymentDates"), (8, .fieldref 9 28), (0, .nameAndType 18 29), (0, u "Lcom/example/covenantry/covenantry/model/RecurringDates;"), (0, .methodref 9 31), (0, .nameAndType 32 33), (0, u "start"), (0, u "(JJ)V"), (0, .fieldref 9 35), (0, .nameAndType 36 37), (0, u "months"), (0, u "I"), (7, .fieldref 9 46), (0, .nameAndType 47 16), (0, u "maturity"), (0, .methodref 9 49), (0, .nameAndType 50 51), (0, u "paymentDateAfter"), (0, u "(J)J"), (0, .fieldref 9 53), (0, .nameAndType 54 16), (0, u "firstPaymentDate"), (0, .fieldref 9 56), (0, .nameAndType 57 16), (0, u "steps"), (0, .methodref 59 60), (0, .class_ 61), (0, .nameAndType 62 63), (0, u "com/example/covenantry/covenantry/model/PackedDates"), (0, u "plusMonths"), (0, u "(JJ)J"), (12, u "DONE"), (4, u "(JIJ)V"), (0, u "hasNext"), (0, u "()Z"), (1, u "next"), (0, u "()J")] 2

def k2c0 : Code := { maxStack := 3, maxLocals := 1, code := prog_105_method_1_code, exceptionTable := #[], attributes := #[] }
def k2m0 : Method := { name := "<init>", desc := "()V", sig := { parameters := [], returnType := none }, accessFlags := 1, code := some k2c0 }
def k2c1 : Code := { maxStack := 5, maxLocals := 6, code := prog_105_method_3_code, exceptionTable := #[], attributes := #[] }
def k2m1 : Method := { name := "start", desc := "(JIJ)V", sig := { parameters := [.long, .int, .long], returnType := none }, accessFlags := 1, code := some k2c1 }
def k2c2 : Code := { maxStack := 4, maxLocals := 1, code := prog_105_method_4_code, exceptionTable := #[], attributes := #[] }
def k2m2 : Method := { name := "hasNext", desc := "()Z", sig := { parameters := [], returnType := some .boolean }, accessFlags := 1, code := some k2c2 }
def k2c3 : Code := { maxStack := 4, maxLocals := 3, code := prog_105_method_5_code, exceptionTable := #[], attributes := #[] }
def k2m3 : Method := { name := "next", desc := "()J", sig := { parameters := [], returnType := some .long }, accessFlags := 1, code := some k2c3 }
def k2c4 : Code := { maxStack := 3, maxLocals := 5, code := prog_105_method_6_code, exceptionTable := #[], attributes := #[] }
def k2m4 : Method := { name := "start", desc := "(JJ)V", sig := { parameters := [.long, .long], returnType := none }, accessFlags := 2, code := some k2c4 }
def k2c5 : Code := { maxStack := 6, maxLocals := 3, code := prog_105_method_7_code, exceptionTable := #[], attributes := #[] }
def k2m5 : Method := { name := "paymentDateAfter", desc := "(J)J", sig := { parameters := [.long], returnType := some .long }, accessFlags := 2, code := some k2c5 }
/-- com/example/covenantry/covenantry/model/PeriodEnds -/
def k2 : Class := { plain "com/example/covenantry/covenantry/model/PeriodEnds" (some 0) with
  accessFlags := 49
  interfaces := #[]
  cf := some (fileOf pool2 9 #[] #[{ accessFlags := 1, nameIndex := 7, descriptorIndex := 8, attributes := #[] }, { accessFlags := 1, nameIndex := 32, descriptorIndex := 81, attributes := #[] }, { accessFlags := 1, nameIndex := 82, descriptorIndex := 83, attributes := #[] }, { accessFlags := 1, nameIndex := 85, descriptorIndex := 86, attributes := #[] }, { accessFlags := 2, nameIndex := 32, descriptorIndex := 33, attributes := #[] }, { accessFlags := 2, nameIndex := 50, descriptorIndex := 51, attributes := #[] }] 49 4 #[] #[{ accessFlags := 26, nameIndex := 76, descriptorIndex := 16, attributes := #[] }, { accessFlags := 2, nameIndex := 18, descriptorIndex := 29, attributes := #[] }, { accessFlags := 2, nameIndex := 54, descriptorIndex := 16, attributes := #[] }, { accessFlags := 2, nameIndex := 36, descriptorIndex := 37, attributes := #[] }, { accessFlags := 2, nameIndex := 57, descriptorIndex := 16, attributes := #[] }, { accessFlags := 2, nameIndex := 47, descriptorIndex := 16, attributes := #[] }, { accessFlags := 2, nameIndex := 15, descriptorIndex := 16, attributes := #[] }])
  fields := #[{ name := "DONE", type := .long, accessFlags := 26, slot := 0, constantValue := 0 }, { name := "paymentDates", type := (.object "com/example/covenantry/covenantry/model/RecurringDates"), accessFlags := 2, slot := 0, constantValue := 0 }, { name := "firstPaymentDate", type := .long, accessFlags := 2, slot := 1, constantValue := 0 }, { name := "months", type := .int, accessFlags := 2, slot := 2, constantValue := 0 }, { name := "steps", type := .long, accessFlags := 2, slot := 3, constantValue := 0 }, { name := "maturity", type := .long, accessFlags := 2, slot := 4, constantValue := 0 }, { name := "scheduled", type := .long, accessFlags := 2, slot := 5, constantValue := 0 }]
  methods := #[k2m0, k2m1, k2m2, k2m3, k2m4, k2m5]
  instanceTypes := #[(.object "com/example/covenantry/covenantry/model/RecurringDates"), .long, .int, .long, .long, .long]
  staticTypes := #[.long]
  resolved := Array.replicate 89 none
  statics := none }

def pool3 : Array CpInfo := pool [(2, .class_ 4), (1, u "java/lang/Object"), (0, u "<init>"), (0, u "()V"), (0, .fieldref 8 9), (0, .class_ 10), (0, .nameAndType 11 12), (0, u "java/time/temporal/ChronoField"), (0, u "YEAR"), (0, u "Ljava/time/temporal/ChronoField;"), (0, .methodref 8 14), (0, .nameAndType 15 16), (0, u "checkValidValue"), (0, u "(J)J"), (0, .fieldref 8 18), (0, .nameAndType 19 12), (0, u "MONTH_OF_YEAR"), (0, .methodref 21 22), (0, .class_ 23), (0, .nameAndType 24 25), (0, u "com/example/covenantry/covenantry/model/PackedDates"), (0, u "lengthOfMonth"), (0, u "(II)I"), (6, u "of"), (14, .methodref 21 48), (0, .nameAndType 49 50), (0, u "pack"), (0, u "(III)J"), (12, .methodref 21 64), (0, .nameAndType 65 66), (0, u "year"), (0, u "(J)I"), (0, .methodref 21 68), (0, .nameAndType 69 66), (0, u "month"), (0, .methodref 21 71), (0, .nameAndType 72 66), (0, u "day"), (3, .long 12), (1, .methodref 79 80), (0, .class_ 81), (0, .nameAndType 82 83), (0, u "java/lang/Math"), (0, u "floorDiv"), (0, u "(JI)J"), (0, .methodref 8 85), (0, .nameAndType 86 66), (0, u "checkValidIntValue"), (0, .methodref 79 88), (0, .nameAndType 89 90), (0, u "floorMod"), (0, u "(JI)I"), (0, .methodref 79 92), (0, .nameAndType 93 25), (0, u "min"), (0, .long 18446744073709551584), (1, u "YEAR_SHIFT"), (0, u "I"), (2, u "MONTH_SHIFT"), (1, u "DAY_BITS"), (1, u "MONTH_BITS"), (7, u "plusMonths"), (0, u "(JJ)J"), (0, u "withDay")] 17

def k3m0 : Method := { name := "<init>", desc := "()V", sig := { parameters := [], returnType := none }, accessFlags := 2, code := none }
def k3c1 : Code := { maxStack := 5, maxLocals := 3, code := prog_102_method_2_code, exceptionTable := #[], attributes := #[] }
def k3m1 : Method := { name := "of", desc := "(III)J", sig := { parameters := [.int, .int, .int], returnType := some .long }, accessFlags := 9, code := some k3c1 }
def k3c2 : Code := { maxStack := 3, maxLocals := 2, code := prog_102_method_5_code, exceptionTable := #[], attributes := #[] }
def k3m2 : Method := { name := "year", desc := "(J)I", sig := { parameters := [.long], returnType := some .int }, accessFlags := 9, code := some k3c2 }
def k3c3 : Code := { maxStack := 3, maxLocals := 2, code := prog_102_method_6_code, exceptionTable := #[], attributes := #[] }
def k3m3 : Method := { name := "month", desc := "(J)I", sig := { parameters := [.long], returnType := some .int }, accessFlags := 9, code := some k3c3 }
def k3c4 : Code := { maxStack := 2, maxLocals := 2, code := prog_102_method_7_code, exceptionTable := #[], attributes := #[] }
def k3m4 : Method := { name := "day", desc := "(J)I", sig := { parameters := [.long], returnType := some .int }, accessFlags := 9, code := some k3c4 }
def k3c5 : Code := { maxStack := 4, maxLocals := 9, code := prog_102_method_9_code, exceptionTable := #[], attributes := #[] }
def k3m5 : Method := { name := "plusMonths", desc := "(JJ)J", sig := { parameters := [.long, .long], returnType := some .long }, accessFlags := 9, code := some k3c5 }
def k3c6 : Code := { maxStack := 2, maxLocals := 3, code := prog_102_method_10_code, exceptionTable := #[], attributes := #[] }
def k3m6 : Method := { name := "lengthOfMonth", desc := "(II)I", sig := { parameters := [.int, .int], returnType := some .int }, accessFlags := 10, code := some k3c6 }
def k3c7 : Code := { maxStack := 4, maxLocals := 3, code := prog_102_method_11_code, exceptionTable := #[], attributes := #[] }
def k3m7 : Method := { name := "withDay", desc := "(JI)J", sig := { parameters := [.long, .int], returnType := some .long }, accessFlags := 9, code := some k3c7 }
def k3c8 : Code := { maxStack := 4, maxLocals := 3, code := prog_102_method_12_code, exceptionTable := #[], attributes := #[] }
def k3m8 : Method := { name := "pack", desc := "(III)J", sig := { parameters := [.int, .int, .int], returnType := some .long }, accessFlags := 10, code := some k3c8 }
/-- com/example/covenantry/covenantry/model/PackedDates -/
def k3 : Class := { plain "com/example/covenantry/covenantry/model/PackedDates" (some 0) with
  accessFlags := 49
  interfaces := #[]
  cf := some (fileOf pool3 21 #[] #[{ accessFlags := 2, nameIndex := 5, descriptorIndex := 6, attributes := #[] }, { accessFlags := 9, nameIndex := 32, descriptorIndex := 50, attributes := #[] }, { accessFlags := 9, nameIndex := 65, descriptorIndex := 66, attributes := #[] }, { accessFlags := 9, nameIndex := 69, descriptorIndex := 66, attributes := #[] }, { accessFlags := 9, nameIndex := 72, descriptorIndex := 66, attributes := #[] }, { accessFlags := 9, nameIndex := 112, descriptorIndex := 113, attributes := #[] }, { accessFlags := 10, nameIndex := 24, descriptorIndex := 25, attributes := #[] }, { accessFlags := 9, nameIndex := 114, descriptorIndex := 83, attributes := #[] }, { accessFlags := 10, nameIndex := 49, descriptorIndex := 50, attributes := #[] }] 49 2 #[] #[{ accessFlags := 26, nameIndex := 96, descriptorIndex := 97, attributes := #[] }, { accessFlags := 26, nameIndex := 100, descriptorIndex := 97, attributes := #[] }, { accessFlags := 26, nameIndex := 102, descriptorIndex := 97, attributes := #[] }, { accessFlags := 26, nameIndex := 104, descriptorIndex := 97, attributes := #[] }])
  fields := #[{ name := "YEAR_SHIFT", type := .int, accessFlags := 26, slot := 0, constantValue := 0 }, { name := "MONTH_SHIFT", type := .int, accessFlags := 26, slot := 1, constantValue := 0 }, { name := "DAY_BITS", type := .int, accessFlags := 26, slot := 2, constantValue := 0 }, { name := "MONTH_BITS", type := .int, accessFlags := 26, slot := 3, constantValue := 0 }]
  methods := #[k3m0, k3m1, k3m2, k3m3, k3m4, k3m5, k3m6, k3m7, k3m8]
  instanceTypes := #[]
  staticTypes := #[.int, .int, .int, .int]
  resolved := Array.replicate 132 none
  statics := none }

def pool4 : Array CpInfo := pool [(1, .class_ 2), (0, u "java/lang/constant/Constable"), (0, .class_ 4), (0, u "java/lang/Object")] 6

/-- java/lang/constant/Constable -/
def k4 : Class := { plain "java/lang/constant/Constable" (some 0) with
  accessFlags := 1537
  interfaces := #[]
  cf := some (fileOf pool4 1 #[] #[] 1537 3 #[] #[])
  fields := #[]
  methods := #[]
  instanceTypes := #[]
  staticTypes := #[]
  resolved := Array.replicate 11 none
  statics := none }

def pool5 : Array CpInfo := pool [(1, .class_ 2), (0, u "java/lang/Comparable"), (0, .class_ 4), (0, u "java/lang/Object")] 7

/-- java/lang/Comparable -/
def k5 : Class := { plain "java/lang/Comparable" (some 0) with
  accessFlags := 1537
  interfaces := #[]
  cf := some (fileOf pool5 1 #[] #[] 1537 3 #[] #[])
  fields := #[]
  methods := #[]
  instanceTypes := #[]
  staticTypes := #[]
  resolved := Array.replicate 12 none
  statics := none }

def pool6 : Array CpInfo := pool [(1, .class_ 2), (0, u "java/io/Serializable"), (0, .class_ 4), (0, u "java/lang/Object")] 2

/-- java/io/Serializable -/
def k6 : Class := { plain "java/io/Serializable" (some 0) with
  accessFlags := 1537
  interfaces := #[]
  cf := some (fileOf pool6 1 #[] #[] 1537 3 #[] #[])
  fields := #[]
  methods := #[]
  instanceTypes := #[]
  staticTypes := #[]
  resolved := Array.replicate 7 none
  statics := none }

def pool7 : Array CpInfo := pool [(2, .class_ 4), (1, u "java/lang/Enum"), (0, u "name"), (0, u "Ljava/lang/String;"), (2, u "ordinal"), (0, u "I"), (1, .class_ 14), (1, u "java/lang/Object"), (4, u "hash"), (86, .class_ 108), (1, u "java/lang/Enum$EnumDesc"), (2, .class_ 112), (0, u "java/lang/constant/Constable"), (0, .class_ 114), (0, u "java/lang/Comparable"), (0, .class_ 116), (0, u "java/io/Serializable")] 87

/-- java/lang/Enum -/
def k7 : Class := { plain "java/lang/Enum" (some 0) with
  accessFlags := 1057
  interfaces := #[4, 5, 6]
  cf := some (fileOf pool7 2 #[.nestMembers #[106]] #[] 1057 12 #[111, 113, 115] #[{ accessFlags := 18, nameIndex := 5, descriptorIndex := 6, attributes := #[] }, { accessFlags := 18, nameIndex := 9, descriptorIndex := 10, attributes := #[] }, { accessFlags := 2, nameIndex := 19, descriptorIndex := 10, attributes := #[] }])
  fields := #[{ name := "name", type := (.object "java/lang/String"), accessFlags := 18, slot := 0, constantValue := 0 }, { name := "ordinal", type := .int, accessFlags := 18, slot := 1, constantValue := 0 }, { name := "hash", type := .int, accessFlags := 2, slot := 2, constantValue := 0 }]
  methods := #[]
  instanceTypes := #[(.object "java/lang/String"), .int, .int]
  staticTypes := #[]
  resolved := Array.replicate 204 none
  statics := none }

def pool8 : Array CpInfo := pool [(10, .class_ 12), (1, u "java/time/temporal/TemporalField"), (2, .class_ 16), (0, u "java/lang/Object")] 39

/-- java/time/temporal/TemporalField -/
def k8 : Class := { plain "java/time/temporal/TemporalField" (some 0) with
  accessFlags := 1537
  interfaces := #[]
  cf := some (fileOf pool8 10 #[] #[] 1537 15 #[] #[])
  fields := #[]
  methods := #[]
  instanceTypes := #[]
  staticTypes := #[]
  resolved := Array.replicate 56 none
  statics := none }

def pool9 : Array CpInfo := pool [(1, .class_ 2), (0, u "java/time/temporal/ChronoField"), (2, u "NANO_OF_SECOND"), (0, u "Ljava/time/temporal/ChronoField;"), (2, u "NANO_OF_DAY"), (2, u "MICRO_OF_SECOND"), (2, u "MICRO_OF_DAY"), (2, u "MILLI_OF_SECOND"), (2, u "MILLI_OF_DAY"), (2, u "SECOND_OF_MINUTE"), (2, u "SECOND_OF_DAY"), (2, u "MINUTE_OF_HOUR"), (2, u "MINUTE_OF_DAY"), (2, u "HOUR_OF_AMPM"), (2, u "CLOCK_HOUR_OF_AMPM"), (2, u "HOUR_OF_DAY"), (2, u "CLOCK_HOUR_OF_DAY"), (2, u "AMPM_OF_DAY"), (2, u "DAY_OF_WEEK"), (2, u "ALIGNED_DAY_OF_WEEK_IN_MONTH"), (2, u "ALIGNED_DAY_OF_WEEK_IN_YEAR"), (2, u "DAY_OF_MONTH"), (2, u "DAY_OF_YEAR"), (2, u "EPOCH_DAY"), (2, u "ALIGNED_WEEK_OF_MONTH"), (2, u "ALIGNED_WEEK_OF_YEAR"), (2, u "MONTH_OF_YEAR"), (2, u "PROLEPTIC_MONTH"), (2, u "YEAR_OF_ERA"), (2, u "YEAR"), (2, u "ERA"), (2, u "INSTANT_SECONDS"), (2, u "OFFSET_SECONDS"), (2, u "$VALUES"), (0, u "[Ljava/time/temporal/ChronoField;"), (6, .class_ 106), (1, u "java/lang/Enum"), (8, u "name"), (0, u "Ljava/lang/String;"), (2, u "baseUnit"), (0, u "Ljava/time/temporal/TemporalUnit;"), (2, u "rangeUnit"), (0, .fieldref 1 125), (0, .nameAndType 126 127), (0, u "range"), (0, u "Ljava/time/temporal/ValueRange;"), (2, u "displayNameKey"), (59, .methodref 1 191), (0, .nameAndType 126 192), (0, u "()Ljava/time/temporal/ValueRange;"), (0, .methodref 194 195), (0, .class_ 196), (0, .nameAndType 197 198), (0, u "java/time/temporal/ValueRange"), (0, u "checkValidValue"), (0, u "(JLjava/time/temporal/TemporalField;)J"), (0, .methodref 194 200), (0, .nameAndType 201 202), (0, u "checkValidIntValue"), (0, u "(JLjava/time/temporal/TemporalField;)I"), (252, .class_ 456), (0, u "java/time/temporal/TemporalField"), (27, u "(J)J"), (2, u "(J)I")] 19

def k9c0 : Code := { maxStack := 1, maxLocals := 1, code := jdk_2395_method_8_code, exceptionTable := #[], attributes := #[] }
def k9m0 : Method := { name := "range", desc := "()Ljava/time/temporal/ValueRange;", sig := { parameters := [], returnType := some (.object "java/time/temporal/ValueRange") }, accessFlags := 1, code := some k9c0 }
def k9c1 : Code := { maxStack := 4, maxLocals := 3, code := jdk_2395_method_11_code, exceptionTable := #[], attributes := #[] }
def k9m1 : Method := { name := "checkValidValue", desc := "(J)J", sig := { parameters := [.long], returnType := some .long }, accessFlags := 1, code := some k9c1 }
def k9c2 : Code := { maxStack := 4, maxLocals := 3, code := jdk_2395_method_12_code, exceptionTable := #[], attributes := #[] }
def k9m2 : Method := { name := "checkValidIntValue", desc := "(J)I", sig := { parameters := [.long], returnType := some .int }, accessFlags := 1, code := some k9c2 }
/-- java/time/temporal/ChronoField -/
def k9 : Class := { plain "java/time/temporal/ChronoField" (some 7) with
  accessFlags := 16433
  interfaces := #[8]
  cf := some (fileOf pool9 1 #[] #[{ accessFlags := 1, nameIndex := 126, descriptorIndex := 192, attributes := #[] }, { accessFlags := 1, nameIndex := 197, descriptorIndex := 484, attributes := #[] }, { accessFlags := 1, nameIndex := 201, descriptorIndex := 487, attributes := #[] }] 16433 104 #[455] #[{ accessFlags := 16409, nameIndex := 5, descriptorIndex := 6, attributes := #[] }, { accessFlags := 16409, nameIndex := 9, descriptorIndex := 6, attributes := #[] }, { accessFlags := 16409, nameIndex := 12, descriptorIndex := 6, attributes := #[] }, { accessFlags := 16409, nameIndex := 15, descriptorIndex := 6, attributes := #[] }, { accessFlags := 16409, nameIndex := 18, descriptorIndex := 6, attributes := #[] }, { accessFlags := 16409, nameIndex := 21, descriptorIndex := 6, attributes := #[] }, { accessFlags := 16409, nameIndex := 24, descriptorIndex := 6, attributes := #[] }, { accessFlags := 16409, nameIndex := 27, descriptorIndex := 6, attributes := #[] }, { accessFlags := 16409, nameIndex := 30, descriptorIndex := 6, attributes := #[] }, { accessFlags := 16409, nameIndex := 33, descriptorIndex := 6, attributes := #[] }, { accessFlags := 16409, nameIndex := 36, descriptorIndex := 6, attributes := #[] }, { accessFlags := 16409, nameIndex := 39, descriptorIndex := 6, attributes := #[] }, { accessFlags := 16409, nameIndex := 42, descriptorIndex := 6, attributes := #[] }, { accessFlags := 16409, nameIndex := 45, descriptorIndex := 6, attributes := #[] }, { accessFlags := 16409, nameIndex := 48, descriptorIndex := 6, attributes := #[] }, { accessFlags := 16409, nameIndex := 51, descriptorIndex := 6, attributes := #[] }, { accessFlags := 16409, nameIndex := 54, descriptorIndex := 6, attributes := #[] }, { accessFlags := 16409, nameIndex := 57, descriptorIndex := 6, attributes := #[] }, { accessFlags := 16409, nameIndex := 60, descriptorIndex := 6, attributes := #[] }, { accessFlags := 16409, nameIndex := 63, descriptorIndex := 6, attributes := #[] }, { accessFlags := 16409, nameIndex := 66, descriptorIndex := 6, attributes := #[] }, { accessFlags := 16409, nameIndex := 69, descriptorIndex := 6, attributes := #[] }, { accessFlags := 16409, nameIndex := 72, descriptorIndex := 6, attributes := #[] }, { accessFlags := 16409, nameIndex := 75, descriptorIndex := 6, attributes := #[] }, { accessFlags := 16409, nameIndex := 78, descriptorIndex := 6, attributes := #[] }, { accessFlags := 16409, nameIndex := 81, descriptorIndex := 6, attributes := #[] }, { accessFlags := 16409, nameIndex := 84, descriptorIndex := 6, attributes := #[] }, { accessFlags := 16409, nameIndex := 87, descriptorIndex := 6, attributes := #[] }, { accessFlags := 16409, nameIndex := 90, descriptorIndex := 6, attributes := #[] }, { accessFlags := 16409, nameIndex := 93, descriptorIndex := 6, attributes := #[] }, { accessFlags := 18, nameIndex := 115, descriptorIndex := 116, attributes := #[] }, { accessFlags := 18, nameIndex := 119, descriptorIndex := 120, attributes := #[] }, { accessFlags := 18, nameIndex := 123, descriptorIndex := 120, attributes := #[] }, { accessFlags := 18, nameIndex := 126, descriptorIndex := 127, attributes := #[] }, { accessFlags := 18, nameIndex := 130, descriptorIndex := 116, attributes := #[] }, { accessFlags := 4122, nameIndex := 96, descriptorIndex := 97, attributes := #[] }])
  fields := #[{ name := "NANO_OF_SECOND", type := (.object "java/time/temporal/ChronoField"), accessFlags := 16409, slot := 0, constantValue := 0 }, { name := "NANO_OF_DAY", type := (.object "java/time/temporal/ChronoField"), accessFlags := 16409, slot := 1, constantValue := 0 }, { name := "MICRO_OF_SECOND", type := (.object "java/time/temporal/ChronoField"), accessFlags := 16409, slot := 2, constantValue := 0 }, { name := "MICRO_OF_DAY", type := (.object "java/time/temporal/ChronoField"), accessFlags := 16409, slot := 3, constantValue := 0 }, { name := "MILLI_OF_SECOND", type := (.object "java/time/temporal/ChronoField"), accessFlags := 16409, slot := 4, constantValue := 0 }, { name := "MILLI_OF_DAY", type := (.object "java/time/temporal/ChronoField"), accessFlags := 16409, slot := 5, constantValue := 0 }, { name := "SECOND_OF_MINUTE", type := (.object "java/time/temporal/ChronoField"), accessFlags := 16409, slot := 6, constantValue := 0 }, { name := "SECOND_OF_DAY", type := (.object "java/time/temporal/ChronoField"), accessFlags := 16409, slot := 7, constantValue := 0 }, { name := "MINUTE_OF_HOUR", type := (.object "java/time/temporal/ChronoField"), accessFlags := 16409, slot := 8, constantValue := 0 }, { name := "MINUTE_OF_DAY", type := (.object "java/time/temporal/ChronoField"), accessFlags := 16409, slot := 9, constantValue := 0 }, { name := "HOUR_OF_AMPM", type := (.object "java/time/temporal/ChronoField"), accessFlags := 16409, slot := 10, constantValue := 0 }, { name := "CLOCK_HOUR_OF_AMPM", type := (.object "java/time/temporal/ChronoField"), accessFlags := 16409, slot := 11, constantValue := 0 }, { name := "HOUR_OF_DAY", type := (.object "java/time/temporal/ChronoField"), accessFlags := 16409, slot := 12, constantValue := 0 }, { name := "CLOCK_HOUR_OF_DAY", type := (.object "java/time/temporal/ChronoField"), accessFlags := 16409, slot := 13, constantValue := 0 }, { name := "AMPM_OF_DAY", type := (.object "java/time/temporal/ChronoField"), accessFlags := 16409, slot := 14, constantValue := 0 }, { name := "DAY_OF_WEEK", type := (.object "java/time/temporal/ChronoField"), accessFlags := 16409, slot := 15, constantValue := 0 }, { name := "ALIGNED_DAY_OF_WEEK_IN_MONTH", type := (.object "java/time/temporal/ChronoField"), accessFlags := 16409, slot := 16, constantValue := 0 }, { name := "ALIGNED_DAY_OF_WEEK_IN_YEAR", type := (.object "java/time/temporal/ChronoField"), accessFlags := 16409, slot := 17, constantValue := 0 }, { name := "DAY_OF_MONTH", type := (.object "java/time/temporal/ChronoField"), accessFlags := 16409, slot := 18, constantValue := 0 }, { name := "DAY_OF_YEAR", type := (.object "java/time/temporal/ChronoField"), accessFlags := 16409, slot := 19, constantValue := 0 }, { name := "EPOCH_DAY", type := (.object "java/time/temporal/ChronoField"), accessFlags := 16409, slot := 20, constantValue := 0 }, { name := "ALIGNED_WEEK_OF_MONTH", type := (.object "java/time/temporal/ChronoField"), accessFlags := 16409, slot := 21, constantValue := 0 }, { name := "ALIGNED_WEEK_OF_YEAR", type := (.object "java/time/temporal/ChronoField"), accessFlags := 16409, slot := 22, constantValue := 0 }, { name := "MONTH_OF_YEAR", type := (.object "java/time/temporal/ChronoField"), accessFlags := 16409, slot := 23, constantValue := 0 }, { name := "PROLEPTIC_MONTH", type := (.object "java/time/temporal/ChronoField"), accessFlags := 16409, slot := 24, constantValue := 0 }, { name := "YEAR_OF_ERA", type := (.object "java/time/temporal/ChronoField"), accessFlags := 16409, slot := 25, constantValue := 0 }, { name := "YEAR", type := (.object "java/time/temporal/ChronoField"), accessFlags := 16409, slot := 26, constantValue := 0 }, { name := "ERA", type := (.object "java/time/temporal/ChronoField"), accessFlags := 16409, slot := 27, constantValue := 0 }, { name := "INSTANT_SECONDS", type := (.object "java/time/temporal/ChronoField"), accessFlags := 16409, slot := 28, constantValue := 0 }, { name := "OFFSET_SECONDS", type := (.object "java/time/temporal/ChronoField"), accessFlags := 16409, slot := 29, constantValue := 0 }, { name := "name", type := (.object "java/lang/String"), accessFlags := 18, slot := 3, constantValue := 0 }, { name := "baseUnit", type := (.object "java/time/temporal/TemporalUnit"), accessFlags := 18, slot := 4, constantValue := 0 }, { name := "rangeUnit", type := (.object "java/time/temporal/TemporalUnit"), accessFlags := 18, slot := 5, constantValue := 0 }, { name := "range", type := (.object "java/time/temporal/ValueRange"), accessFlags := 18, slot := 6, constantValue := 0 }, { name := "displayNameKey", type := (.object "java/lang/String"), accessFlags := 18, slot := 7, constantValue := 0 }, { name := "$VALUES", type := (.array (.object "java/time/temporal/ChronoField")), accessFlags := 4122, slot := 30, constantValue := 0 }]
  methods := #[k9m0, k9m1, k9m2]
  instanceTypes := #[(.object "java/lang/String"), .int, .int, (.object "java/lang/String"), (.object "java/time/temporal/TemporalUnit"), (.object "java/time/temporal/TemporalUnit"), (.object "java/time/temporal/ValueRange"), (.object "java/lang/String")]
  staticTypes := #[(.object "java/time/temporal/ChronoField"), (.object "java/time/temporal/ChronoField"), (.object "java/time/temporal/ChronoField"), (.object "java/time/temporal/ChronoField"), (.object "java/time/temporal/ChronoField"), (.object "java/time/temporal/ChronoField"), (.object "java/time/temporal/ChronoField"), (.object "java/time/temporal/ChronoField"), (.object "java/time/temporal/ChronoField"), (.object "java/time/temporal/ChronoField"), (.object "java/time/temporal/ChronoField"), (.object "java/time/temporal/ChronoField"), (.object "java/time/temporal/ChronoField"), (.object "java/time/temporal/ChronoField"), (.object "java/time/temporal/ChronoField"), (.object "java/time/temporal/ChronoField"), (.object "java/time/temporal/ChronoField"), (.object "java/time/temporal/ChronoField"), (.object "java/time/temporal/ChronoField"), (.object "java/time/temporal/ChronoField"), (.object "java/time/temporal/ChronoField"), (.object "java/time/temporal/ChronoField"), (.object "java/time/temporal/ChronoField"), (.object "java/time/temporal/ChronoField"), (.object "java/time/temporal/ChronoField"), (.object "java/time/temporal/ChronoField"), (.object "java/time/temporal/ChronoField"), (.object "java/time/temporal/ChronoField"), (.object "java/time/temporal/ChronoField"), (.object "java/time/temporal/ChronoField"), (.array (.object "java/time/temporal/ChronoField"))]
  resolved := Array.replicate 507 none
  statics := some 0 }

def pool10 : Array CpInfo := pool [(9, .class_ 10), (0, u "java/time/temporal/ValueRange"), (18, .class_ 31), (1, u "java/lang/Object"), (1, .fieldref 9 34), (0, .nameAndType 35 36), (0, u "minSmallest"), (0, u "J"), (2, u "minLargest"), (2, u "maxSmallest"), (0, .fieldref 9 44), (0, .nameAndType 45 36), (0, u "maxLargest"), (0, .methodref 9 47), (0, .nameAndType 48 49), (0, u "getMinimum"), (0, u "()J"), (2, .long 18446744071562067968), (1, .methodref 9 55), (0, .nameAndType 56 49), (0, u "getMaximum"), (0, .long 2147483647), (1, .methodref 9 60), (0, .nameAndType 61 62), (0, u "isIntValue"), (0, u "()Z"), (0, .methodref 9 64), (0, .nameAndType 65 66), (0, u "isValidValue"), (0, u "(J)Z"), (7, .methodref 9 75), (0, .nameAndType 76 66), (0, u "isValidIntValue"), (44, .class_ 122), (0, u "java/io/Serializable"), (0, u "serialVersionUID"), (17, u "checkValidValue"), (0, u "(JLjava/time/temporal/TemporalField;)J"), (2, u "checkValidIntValue"), (0, u "(JLjava/time/temporal/TemporalField;)I")] 20

def k10c0 : Code := { maxStack := 2, maxLocals := 1, code := jdk_2423_method_6_code, exceptionTable := #[], attributes := #[] }
def k10m0 : Method := { name := "getMinimum", desc := "()J", sig := { parameters := [], returnType := some .long }, accessFlags := 1, code := some k10c0 }
def k10c1 : Code := { maxStack := 2, maxLocals := 1, code := jdk_2423_method_9_code, exceptionTable := #[], attributes := #[] }
def k10m1 : Method := { name := "getMaximum", desc := "()J", sig := { parameters := [], returnType := some .long }, accessFlags := 1, code := some k10c1 }
def k10c2 : Code := { maxStack := 4, maxLocals := 1, code := jdk_2423_method_10_code, exceptionTable := #[], attributes := #[] }
def k10m2 : Method := { name := "isIntValue", desc := "()Z", sig := { parameters := [], returnType := some .boolean }, accessFlags := 1, code := some k10c2 }
def k10c3 : Code := { maxStack := 4, maxLocals := 3, code := jdk_2423_method_11_code, exceptionTable := #[], attributes := #[] }
def k10m3 : Method := { name := "isValidValue", desc := "(J)Z", sig := { parameters := [.long], returnType := some .boolean }, accessFlags := 1, code := some k10c3 }
def k10c4 : Code := { maxStack := 3, maxLocals := 3, code := jdk_2423_method_12_code, exceptionTable := #[], attributes := #[] }
def k10m4 : Method := { name := "isValidIntValue", desc := "(J)Z", sig := { parameters := [.long], returnType := some .boolean }, accessFlags := 1, code := some k10c4 }
def k10c5 : Code := { maxStack := 6, maxLocals := 4, code := jdk_2423_method_13_code, exceptionTable := #[], attributes := #[] }
def k10m5 : Method := { name := "checkValidValue", desc := "(JLjava/time/temporal/TemporalField;)J", sig := { parameters := [.long, (.object "java/time/temporal/TemporalField")], returnType := some .long }, accessFlags := 1, code := some k10c5 }
def k10c6 : Code := { maxStack := 6, maxLocals := 4, code := jdk_2423_method_14_code, exceptionTable := #[], attributes := #[] }
def k10m6 : Method := { name := "checkValidIntValue", desc := "(JLjava/time/temporal/TemporalField;)I", sig := { parameters := [.long, (.object "java/time/temporal/TemporalField")], returnType := some .int }, accessFlags := 1, code := some k10c6 }
/-- java/time/temporal/ValueRange -/
def k10 : Class := { plain "java/time/temporal/ValueRange" (some 0) with
  accessFlags := 49
  interfaces := #[6]
  cf := some (fileOf pool10 9 #[] #[{ accessFlags := 1, nameIndex := 48, descriptorIndex := 49, attributes := #[] }, { accessFlags := 1, nameIndex := 56, descriptorIndex := 49, attributes := #[] }, { accessFlags := 1, nameIndex := 61, descriptorIndex := 62, attributes := #[] }, { accessFlags := 1, nameIndex := 65, descriptorIndex := 66, attributes := #[] }, { accessFlags := 1, nameIndex := 76, descriptorIndex := 66, attributes := #[] }, { accessFlags := 1, nameIndex := 141, descriptorIndex := 142, attributes := #[] }, { accessFlags := 1, nameIndex := 145, descriptorIndex := 146, attributes := #[] }] 49 29 #[121] #[{ accessFlags := 26, nameIndex := 123, descriptorIndex := 36, attributes := #[] }, { accessFlags := 18, nameIndex := 35, descriptorIndex := 36, attributes := #[] }, { accessFlags := 18, nameIndex := 39, descriptorIndex := 36, attributes := #[] }, { accessFlags := 18, nameIndex := 42, descriptorIndex := 36, attributes := #[] }, { accessFlags := 18, nameIndex := 45, descriptorIndex := 36, attributes := #[] }])
  fields := #[{ name := "serialVersionUID", type := .long, accessFlags := 26, slot := 0, constantValue := 0 }, { name := "minSmallest", type := .long, accessFlags := 18, slot := 0, constantValue := 0 }, { name := "minLargest", type := .long, accessFlags := 18, slot := 1, constantValue := 0 }, { name := "maxSmallest", type := .long, accessFlags := 18, slot := 2, constantValue := 0 }, { name := "maxLargest", type := .long, accessFlags := 18, slot := 3, constantValue := 0 }]
  methods := #[k10m0, k10m1, k10m2, k10m3, k10m4, k10m5, k10m6]
  instanceTypes := #[.long, .long, .long, .long]
  staticTypes := #[.long]
  resolved := Array.replicate 167 none
  statics := none }

def pool11 : Array CpInfo := pool [(1, .class_ 2), (0, u "java/lang/Math"), (1, .class_ 6), (1, u "java/lang/Object"), (0, u "<init>"), (0, u "()V"), (89, .class_ 100), (1, u "java/lang/Math$RandomNumberGeneratorHolder"), (20, u "(JJ)J"), (21, .methodref 1 144), (0, .nameAndType 145 121), (0, u "floorDiv"), (0, .methodref 1 147), (0, .nameAndType 148 121), (0, u "floorMod"), (23, u "negativeZeroFloatBits"), (0, u "J"), (2, u "negativeZeroDoubleBits"), (24, u "min"), (43, u "$assertionsDisabled"), (0, u "Z"), (88, u "(II)I"), (2, u "twoToTheDoubleScaleDown"), (0, u "D"), (4, u "twoToTheDoubleScaleUp"), (9, u "E"), (3, u "PI"), (2, u "TAU"), (2, u "DEGREES_TO_RADIANS"), (0, u "RADIANS_TO_DEGREES"), (29, u "(JI)J"), (24, u "(JI)I")] 39

def k11m0 : Method := { name := "<init>", desc := "()V", sig := { parameters := [], returnType := none }, accessFlags := 2, code := none }
def k11c1 : Code := { maxStack := 4, maxLocals := 3, code := jdk_29_method_48_code, exceptionTable := #[], attributes := #[] }
def k11m1 : Method := { name := "floorDiv", desc := "(JI)J", sig := { parameters := [.long, .int], returnType := some .long }, accessFlags := 9, code := some k11c1 }
def k11c2 : Code := { maxStack := 4, maxLocals := 6, code := jdk_29_method_49_code, exceptionTable := #[], attributes := #[] }
def k11m2 : Method := { name := "floorDiv", desc := "(JJ)J", sig := { parameters := [.long, .long], returnType := some .long }, accessFlags := 9, code := some k11c2 }
def k11c3 : Code := { maxStack := 4, maxLocals := 3, code := jdk_29_method_51_code, exceptionTable := #[], attributes := #[] }
def k11m3 : Method := { name := "floorMod", desc := "(JI)I", sig := { parameters := [.long, .int], returnType := some .int }, accessFlags := 9, code := some k11c3 }
def k11c4 : Code := { maxStack := 4, maxLocals := 6, code := jdk_29_method_52_code, exceptionTable := #[], attributes := #[] }
def k11m4 : Method := { name := "floorMod", desc := "(JJ)J", sig := { parameters := [.long, .long], returnType := some .long }, accessFlags := 9, code := some k11c4 }
def k11c5 : Code := { maxStack := 2, maxLocals := 2, code := jdk_29_method_69_code, exceptionTable := #[], attributes := #[] }
def k11m5 : Method := { name := "min", desc := "(II)I", sig := { parameters := [.int, .int], returnType := some .int }, accessFlags := 9, code := some k11c5 }
/-- java/lang/Math -/
def k11 : Class := { plain "java/lang/Math" (some 0) with
  accessFlags := 49
  interfaces := #[]
  cf := some (fileOf pool11 1 #[.nestMembers #[98]] #[{ accessFlags := 2, nameIndex := 7, descriptorIndex := 8, attributes := #[] }, { accessFlags := 9, nameIndex := 145, descriptorIndex := 395, attributes := #[] }, { accessFlags := 9, nameIndex := 145, descriptorIndex := 121, attributes := #[] }, { accessFlags := 9, nameIndex := 148, descriptorIndex := 420, attributes := #[] }, { accessFlags := 9, nameIndex := 148, descriptorIndex := 121, attributes := #[] }, { accessFlags := 9, nameIndex := 201, descriptorIndex := 335, attributes := #[] }] 49 4 #[] #[{ accessFlags := 25, nameIndex := 354, descriptorIndex := 339, attributes := #[] }, { accessFlags := 25, nameIndex := 358, descriptorIndex := 339, attributes := #[] }, { accessFlags := 25, nameIndex := 361, descriptorIndex := 339, attributes := #[] }, { accessFlags := 26, nameIndex := 364, descriptorIndex := 339, attributes := #[] }, { accessFlags := 26, nameIndex := 365, descriptorIndex := 339, attributes := #[] }, { accessFlags := 26, nameIndex := 172, descriptorIndex := 173, attributes := #[] }, { accessFlags := 26, nameIndex := 176, descriptorIndex := 173, attributes := #[] }, { accessFlags := 8, nameIndex := 344, descriptorIndex := 339, attributes := #[] }, { accessFlags := 8, nameIndex := 338, descriptorIndex := 339, attributes := #[] }, { accessFlags := 4120, nameIndex := 245, descriptorIndex := 246, attributes := #[] }])
  fields := #[{ name := "E", type := .double, accessFlags := 25, slot := 0, constantValue := 0 }, { name := "PI", type := .double, accessFlags := 25, slot := 1, constantValue := 0 }, { name := "TAU", type := .double, accessFlags := 25, slot := 2, constantValue := 0 }, { name := "DEGREES_TO_RADIANS", type := .double, accessFlags := 26, slot := 3, constantValue := 0 }, { name := "RADIANS_TO_DEGREES", type := .double, accessFlags := 26, slot := 4, constantValue := 0 }, { name := "negativeZeroFloatBits", type := .long, accessFlags := 26, slot := 5, constantValue := 0 }, { name := "negativeZeroDoubleBits", type := .long, accessFlags := 26, slot := 6, constantValue := 0 }, { name := "twoToTheDoubleScaleUp", type := .double, accessFlags := 8, slot := 7, constantValue := 0 }, { name := "twoToTheDoubleScaleDown", type := .double, accessFlags := 8, slot := 8, constantValue := 0 }, { name := "$assertionsDisabled", type := .boolean, accessFlags := 4120, slot := 9, constantValue := 0 }]
  methods := #[k11m0, k11m1, k11m2, k11m3, k11m4, k11m5]
  instanceTypes := #[]
  staticTypes := #[.double, .double, .double, .double, .double, .long, .long, .double, .double, .boolean]
  resolved := Array.replicate 460 none
  statics := none }

def pool12 : Array CpInfo := pool [(4, .class_ 6), (1, u "java/time/temporal/TemporalUnit"), (23, .class_ 31), (0, u "java/lang/Object")] 27

/-- java/time/temporal/TemporalUnit -/
def k12 : Class := { plain "java/time/temporal/TemporalUnit" (some 0) with
  accessFlags := 1537
  interfaces := #[]
  cf := some (fileOf pool12 4 #[] #[] 1537 30 #[] #[])
  fields := #[]
  methods := #[]
  instanceTypes := #[]
  staticTypes := #[]
  resolved := Array.replicate 59 none
  statics := none }

def pool13 : Array CpInfo := pool [(1, .class_ 2), (0, u "java/time/temporal/ChronoUnit"), (2, u "NANOS"), (0, u "Ljava/time/temporal/ChronoUnit;"), (2, u "MICROS"), (2, u "MILLIS"), (2, u "SECONDS"), (2, u "MINUTES"), (2, u "HOURS"), (2, u "HALF_DAYS"), (2, u "DAYS"), (2, u "WEEKS"), (2, u "MONTHS"), (2, u "YEARS"), (2, u "DECADES"), (2, u "CENTURIES"), (2, u "MILLENNIA"), (2, u "ERAS"), (2, u "FOREVER"), (2, u "$VALUES"), (0, u "[Ljava/time/temporal/ChronoUnit;"), (6, .class_ 64), (1, u "java/lang/Enum"), (8, u "name"), (0, u "Ljava/lang/String;"), (2, u "duration"), (0, u "Ljava/time/Duration;"), (117, .class_ 197), (0, u "java/time/temporal/TemporalUnit")] 39

/-- java/time/temporal/ChronoUnit -/
def k13 : Class := { plain "java/time/temporal/ChronoUnit" (some 7) with
  accessFlags := 16433
  interfaces := #[12]
  cf := some (fileOf pool13 1 #[] #[] 16433 62 #[196] #[{ accessFlags := 16409, nameIndex := 5, descriptorIndex := 6, attributes := #[] }, { accessFlags := 16409, nameIndex := 9, descriptorIndex := 6, attributes := #[] }, { accessFlags := 16409, nameIndex := 12, descriptorIndex := 6, attributes := #[] }, { accessFlags := 16409, nameIndex := 15, descriptorIndex := 6, attributes := #[] }, { accessFlags := 16409, nameIndex := 18, descriptorIndex := 6, attributes := #[] }, { accessFlags := 16409, nameIndex := 21, descriptorIndex := 6, attributes := #[] }, { accessFlags := 16409, nameIndex := 24, descriptorIndex := 6, attributes := #[] }, { accessFlags := 16409, nameIndex := 27, descriptorIndex := 6, attributes := #[] }, { accessFlags := 16409, nameIndex := 30, descriptorIndex := 6, attributes := #[] }, { accessFlags := 16409, nameIndex := 33, descriptorIndex := 6, attributes := #[] }, { accessFlags := 16409, nameIndex := 36, descriptorIndex := 6, attributes := #[] }, { accessFlags := 16409, nameIndex := 39, descriptorIndex := 6, attributes := #[] }, { accessFlags := 16409, nameIndex := 42, descriptorIndex := 6, attributes := #[] }, { accessFlags := 16409, nameIndex := 45, descriptorIndex := 6, attributes := #[] }, { accessFlags := 16409, nameIndex := 48, descriptorIndex := 6, attributes := #[] }, { accessFlags := 16409, nameIndex := 51, descriptorIndex := 6, attributes := #[] }, { accessFlags := 18, nameIndex := 73, descriptorIndex := 74, attributes := #[] }, { accessFlags := 18, nameIndex := 77, descriptorIndex := 78, attributes := #[] }, { accessFlags := 4122, nameIndex := 54, descriptorIndex := 55, attributes := #[] }])
  fields := #[{ name := "NANOS", type := (.object "java/time/temporal/ChronoUnit"), accessFlags := 16409, slot := 0, constantValue := 0 }, { name := "MICROS", type := (.object "java/time/temporal/ChronoUnit"), accessFlags := 16409, slot := 1, constantValue := 0 }, { name := "MILLIS", type := (.object "java/time/temporal/ChronoUnit"), accessFlags := 16409, slot := 2, constantValue := 0 }, { name := "SECONDS", type := (.object "java/time/temporal/ChronoUnit"), accessFlags := 16409, slot := 3, constantValue := 0 }, { name := "MINUTES", type := (.object "java/time/temporal/ChronoUnit"), accessFlags := 16409, slot := 4, constantValue := 0 }, { name := "HOURS", type := (.object "java/time/temporal/ChronoUnit"), accessFlags := 16409, slot := 5, constantValue := 0 }, { name := "HALF_DAYS", type := (.object "java/time/temporal/ChronoUnit"), accessFlags := 16409, slot := 6, constantValue := 0 }, { name := "DAYS", type := (.object "java/time/temporal/ChronoUnit"), accessFlags := 16409, slot := 7, constantValue := 0 }, { name := "WEEKS", type := (.object "java/time/temporal/ChronoUnit"), accessFlags := 16409, slot := 8, constantValue := 0 }, { name := "MONTHS", type := (.object "java/time/temporal/ChronoUnit"), accessFlags := 16409, slot := 9, constantValue := 0 }, { name := "YEARS", type := (.object "java/time/temporal/ChronoUnit"), accessFlags := 16409, slot := 10, constantValue := 0 }, { name := "DECADES", type := (.object "java/time/temporal/ChronoUnit"), accessFlags := 16409, slot := 11, constantValue := 0 }, { name := "CENTURIES", type := (.object "java/time/temporal/ChronoUnit"), accessFlags := 16409, slot := 12, constantValue := 0 }, { name := "MILLENNIA", type := (.object "java/time/temporal/ChronoUnit"), accessFlags := 16409, slot := 13, constantValue := 0 }, { name := "ERAS", type := (.object "java/time/temporal/ChronoUnit"), accessFlags := 16409, slot := 14, constantValue := 0 }, { name := "FOREVER", type := (.object "java/time/temporal/ChronoUnit"), accessFlags := 16409, slot := 15, constantValue := 0 }, { name := "name", type := (.object "java/lang/String"), accessFlags := 18, slot := 3, constantValue := 0 }, { name := "duration", type := (.object "java/time/Duration"), accessFlags := 18, slot := 4, constantValue := 0 }, { name := "$VALUES", type := (.array (.object "java/time/temporal/ChronoUnit")), accessFlags := 4122, slot := 16, constantValue := 0 }]
  methods := #[]
  instanceTypes := #[(.object "java/lang/String"), .int, .int, (.object "java/lang/String"), (.object "java/time/Duration")]
  staticTypes := #[(.object "java/time/temporal/ChronoUnit"), (.object "java/time/temporal/ChronoUnit"), (.object "java/time/temporal/ChronoUnit"), (.object "java/time/temporal/ChronoUnit"), (.object "java/time/temporal/ChronoUnit"), (.object "java/time/temporal/ChronoUnit"), (.object "java/time/temporal/ChronoUnit"), (.object "java/time/temporal/ChronoUnit"), (.object "java/time/temporal/ChronoUnit"), (.object "java/time/temporal/ChronoUnit"), (.object "java/time/temporal/ChronoUnit"), (.object "java/time/temporal/ChronoUnit"), (.object "java/time/temporal/ChronoUnit"), (.object "java/time/temporal/ChronoUnit"), (.object "java/time/temporal/ChronoUnit"), (.object "java/time/temporal/ChronoUnit"), (.array (.object "java/time/temporal/ChronoUnit"))]
  resolved := Array.replicate 237 none
  statics := some 1 }

def pool14 : Array CpInfo := pool [(2, .class_ 4), (1, u "java/lang/CharSequence"), (42, .class_ 48), (0, u "java/lang/CharSequence$1CodePointIterator"), (10, .class_ 60), (0, u "java/lang/CharSequence$1CharIterator"), (5, .class_ 67), (0, u "java/lang/Object")] 63

/-- java/lang/CharSequence -/
def k14 : Class := { plain "java/lang/CharSequence" (some 0) with
  accessFlags := 1537
  interfaces := #[]
  cf := some (fileOf pool14 2 #[.nestMembers #[47, 59]] #[] 1537 66 #[] #[])
  fields := #[]
  methods := #[]
  instanceTypes := #[]
  staticTypes := #[]
  resolved := Array.replicate 131 none
  statics := none }

def pool15 : Array CpInfo := pool [(1, .class_ 2), (0, u "java/lang/constant/ConstantDesc"), (0, .class_ 4), (0, u "java/lang/Object")] 32

/-- java/lang/constant/ConstantDesc -/
def k15 : Class := { plain "java/lang/constant/ConstantDesc" (some 0) with
  accessFlags := 1537
  interfaces := #[]
  cf := some (fileOf pool15 1 #[] #[] 1537 3 #[] #[])
  fields := #[]
  methods := #[]
  instanceTypes := #[]
  staticTypes := #[]
  resolved := Array.replicate 37 none
  statics := none }

def pool16 : Array CpInfo := pool [(2, .class_ 4), (1, u "java/lang/Object"), (0, u "<init>"), (0, u "()V"), (3, .class_ 12), (1, u "java/lang/String"), (0, u "value"), (0, u "[B"), (2, u "coder"), (0, u "B"), (2, u "hash"), (0, u "I"), (2, u "hashIsZero"), (0, u "Z"), (13, u "COMPACT_STRINGS"), (534, .class_ 576), (0, u "java/lang/CharSequence"), (22, u "CASE_INSENSITIVE_ORDER"), (0, u "Ljava/util/Comparator;"), (500, u "serialPersistentFields"), (0, u "[Ljava/io/ObjectStreamField;"), (0, .class_ 1104), (0, u "java/lang/String$CaseInsensitiveComparator"), (1, .class_ 1107), (0, u "java/io/Serializable"), (0, .class_ 1109), (0, u "java/lang/Comparable"), (0, .class_ 1111), (0, u "java/lang/constant/Constable"), (0, .class_ 1113), (0, u "java/lang/constant/ConstantDesc"), (2, u "serialVersionUID"), (0, u "J"), (3, u "REPL"), (0, u "C"), (2, u "LATIN1"), (1, u "UTF16")] 323

def k16m0 : Method := { name := "<init>", desc := "()V", sig := { parameters := [], returnType := none }, accessFlags := 1, code := none }
/-- java/lang/String -/
def k16 : Class := { plain "java/lang/String" (some 0) with
  accessFlags := 49
  interfaces := #[6, 5, 14, 4, 15]
  cf := some (fileOf pool16 10 #[.nestMembers #[1103]] #[{ accessFlags := 1, nameIndex := 5, descriptorIndex := 6, attributes := #[] }] 49 2 #[1106, 1108, 575, 1110, 1112] #[{ accessFlags := 18, nameIndex := 13, descriptorIndex := 14, attributes := #[] }, { accessFlags := 18, nameIndex := 17, descriptorIndex := 18, attributes := #[] }, { accessFlags := 2, nameIndex := 21, descriptorIndex := 22, attributes := #[] }, { accessFlags := 2, nameIndex := 25, descriptorIndex := 26, attributes := #[] }, { accessFlags := 26, nameIndex := 1116, descriptorIndex := 1117, attributes := #[] }, { accessFlags := 24, nameIndex := 40, descriptorIndex := 26, attributes := #[] }, { accessFlags := 26, nameIndex := 1101, descriptorIndex := 1102, attributes := #[] }, { accessFlags := 26, nameIndex := 1121, descriptorIndex := 1122, attributes := #[] }, { accessFlags := 25, nameIndex := 599, descriptorIndex := 600, attributes := #[] }, { accessFlags := 24, nameIndex := 1125, descriptorIndex := 18, attributes := #[] }, { accessFlags := 24, nameIndex := 1127, descriptorIndex := 18, attributes := #[] }])
  fields := #[{ name := "value", type := (.array .byte), accessFlags := 18, slot := 0, constantValue := 0 }, { name := "coder", type := .byte, accessFlags := 18, slot := 1, constantValue := 0 }, { name := "hash", type := .int, accessFlags := 2, slot := 2, constantValue := 0 }, { name := "hashIsZero", type := .boolean, accessFlags := 2, slot := 3, constantValue := 0 }, { name := "serialVersionUID", type := .long, accessFlags := 26, slot := 0, constantValue := 0 }, { name := "COMPACT_STRINGS", type := .boolean, accessFlags := 24, slot := 1, constantValue := 0 }, { name := "serialPersistentFields", type := (.array (.object "java/io/ObjectStreamField")), accessFlags := 26, slot := 2, constantValue := 0 }, { name := "REPL", type := .char, accessFlags := 26, slot := 3, constantValue := 0 }, { name := "CASE_INSENSITIVE_ORDER", type := (.object "java/util/Comparator"), accessFlags := 25, slot := 4, constantValue := 0 }, { name := "LATIN1", type := .byte, accessFlags := 24, slot := 5, constantValue := 0 }, { name := "UTF16", type := .byte, accessFlags := 24, slot := 6, constantValue := 0 }]
  methods := #[k16m0]
  instanceTypes := #[(.array .byte), .byte, .int, .boolean]
  staticTypes := #[.long, .boolean, (.array (.object "java/io/ObjectStreamField")), .char, (.object "java/util/Comparator"), .byte, .byte]
  resolved := Array.replicate 1451 none
  statics := none }

def pool17 : Array CpInfo := pool [(1, .class_ 2), (0, u "java/time/temporal/TemporalAmount"), (0, .class_ 4), (0, u "java/lang/Object")] 11

/-- java/time/temporal/TemporalAmount -/
def k17 : Class := { plain "java/time/temporal/TemporalAmount" (some 0) with
  accessFlags := 1537
  interfaces := #[]
  cf := some (fileOf pool17 1 #[] #[] 1537 3 #[] #[])
  fields := #[]
  methods := #[]
  instanceTypes := #[]
  staticTypes := #[]
  resolved := Array.replicate 16 none
  statics := none }

def pool18 : Array CpInfo := pool [(11, .class_ 13), (1, u "java/time/Duration"), (20, u "ZERO"), (0, u "Ljava/time/Duration;"), (13, .class_ 51), (1, u "java/time/temporal/TemporalAmount"), (27, .class_ 81), (1, u "java/time/Duration$Lazy"), (35, u "seconds"), (101, .class_ 220), (0, u "java/lang/Object"), (2, u "J"), (2, u "nanos"), (0, u "I"), (11, .class_ 241), (1, u "java/time/Duration$DurationUnits"), (27, .class_ 271), (1, u "java/time/Duration$1"), (91, u "BI_NANOS_PER_SECOND"), (0, u "Ljava/math/BigInteger;"), (120, .class_ 486), (0, u "java/lang/Comparable"), (0, .class_ 488), (0, u "java/io/Serializable"), (0, u "serialVersionUID")] 166

/-- java/time/Duration -/
def k18 : Class := { plain "java/time/Duration" (some 0) with
  accessFlags := 49
  interfaces := #[17, 5, 6]
  cf := some (fileOf pool18 11 #[.nestMembers #[269, 239, 79]] #[] 49 219 #[49, 485, 487] #[{ accessFlags := 25, nameIndex := 34, descriptorIndex := 35, attributes := #[] }, { accessFlags := 26, nameIndex := 489, descriptorIndex := 223, attributes := #[] }, { accessFlags := 26, nameIndex := 363, descriptorIndex := 364, attributes := #[] }, { accessFlags := 18, nameIndex := 117, descriptorIndex := 223, attributes := #[] }, { accessFlags := 18, nameIndex := 226, descriptorIndex := 227, attributes := #[] }])
  fields := #[{ name := "ZERO", type := (.object "java/time/Duration"), accessFlags := 25, slot := 0, constantValue := 0 }, { name := "serialVersionUID", type := .long, accessFlags := 26, slot := 1, constantValue := 0 }, { name := "BI_NANOS_PER_SECOND", type := (.object "java/math/BigInteger"), accessFlags := 26, slot := 2, constantValue := 0 }, { name := "seconds", type := .long, accessFlags := 18, slot := 0, constantValue := 0 }, { name := "nanos", type := .int, accessFlags := 18, slot := 1, constantValue := 0 }]
  methods := #[]
  instanceTypes := #[.long, .int]
  staticTypes := #[(.object "java/time/Duration"), .long, (.object "java/math/BigInteger")]
  resolved := Array.replicate 656 none
  statics := none }

def pool19 : Array CpInfo := pool [(1, u "java/lang/Cloneable"), (0, .class_ 1), (0, u "java/lang/Object"), (0, .class_ 3)] 3

/-- java/lang/Cloneable -/
def k19 : Class := { plain "java/lang/Cloneable" (some 0) with
  accessFlags := 1537
  interfaces := #[]
  cf := some (fileOf pool19 2 #[] #[] 1537 4 #[] #[])
  fields := #[]
  methods := #[]
  instanceTypes := #[]
  staticTypes := #[]
  resolved := Array.replicate 8 none
  statics := none }

/-- the primitive byte -/
def k20 : Class := { plain "byte" none with kind := .primitive 'B', accessFlags := 0x411 }
/-- [B -/
def k21 : Class := { plain "[B" (some 0) with kind := .array 20 .byte, interfaces := #[19, 6], accessFlags := 1041 }

/-- the primitive int -/
def k22 : Class := { plain "int" none with kind := .primitive 'I', accessFlags := 0x411 }
/-- [I -/
def k23 : Class := { plain "[I" (some 0) with kind := .array 22 .int, interfaces := #[19, 6], accessFlags := 1041 }

def heap : Heap := #[{ cls := 9, slots := #[.null, .null, .null, .null, .null, .null, .null, .null, .null, .null, .null, .null, .null, .null, .null, .null, .null, .null, .null, .null, .null, .null, .null, .ref 10, .null, .null, .ref 9, .null, .null, .null, .null], vm := .statics 9 },
  { cls := 13, slots := #[.null, .null, .null, .null, .null, .null, .null, .null, .null, .ref 6, .ref 4, .null, .null, .null, .null, .ref 5, .null], vm := .statics 13 },
  { cls := 16, slots := #[.null, .int 0, .int 0, .int 0], vm := .none },
  { cls := 18, slots := #[.long 0, .int 0], vm := .none },
  { cls := 13, slots := #[.ref 2, .int 10, .int 0, .ref 2, .ref 3], vm := .none },
  { cls := 13, slots := #[.ref 2, .int 15, .int 0, .ref 2, .ref 3], vm := .none },
  { cls := 13, slots := #[.ref 2, .int 9, .int 0, .ref 2, .ref 3], vm := .none },
  { cls := 10, slots := #[.long (-999999999), .long (-999999999), .long 999999999, .long 999999999], vm := .none },
  { cls := 10, slots := #[.long 1, .long 1, .long 12, .long 12], vm := .none },
  { cls := 9, slots := #[.ref 2, .int 26, .int 0, .ref 2, .ref 4, .ref 5, .ref 7, .ref 2], vm := .none },
  { cls := 9, slots := #[.ref 2, .int 23, .int 0, .ref 2, .ref 6, .ref 4, .ref 8, .ref 2], vm := .none }]
def classes : Array Class := #[k0, k1, k2, k3, k4, k5, k6, k7, k8, k9, k10, k11, k12, k13, k14, k15, k16, k17, k18, k19, k20, k21, k22, k23]
def interned : List (Array UInt16 × Addr) := []
def slotsUsed : Nat := 93
def theMethod : MethodId := ⟨1, 2⟩
def args0 : Array Value := #[.int 5, .int 3, .int 2, .int 7, .int 1, .int 4]
def aboutOver (below : List Frame) : State where
  vm := { classes := classes, interned := interned.toArray }
  heap := heap
  slotsUsed := slotsUsed
  threads := #[{ frames := .invoking theMethod args0 :: below }]
def below0 : List Frame := [.native { method := ⟨0, 0⟩, args := #[] }]
def about1 : State := aboutOver below0
def p0 : Program := .bare "" "" ""
def e0 : Env := launch0.env 0 0 0
theorem w_frames : about1.frames = Frame.invoking theMethod args0 :: below0 := rfl
set_option maxRecDepth 65536 in
theorem w_args : argsFit about1.vm theMethod args0 = true := by decide +kernel
set_option maxRecDepth 65536 in
theorem w_heap : heapFits about1 = true := by decide +kernel
set_option maxRecDepth 65536 in
theorem w_runnable : about1.curStatus? = some .runnable := by decide +kernel
set_option maxRecDepth 65536 in
theorem w_alone : about1.alone = true := by decide +kernel
set_option maxRecDepth 65536 in
theorem w_named : about1.methodNamed? x = some theMethod := by decide +kernel
set_option maxRecDepth 65536 in
theorem w_hears : about1.hears theMethod below0 = true := by decide +kernel
set_option maxRecDepth 65536 in
theorem w_ripe : about1.ripe theMethod args0 below0 = true := by decide +kernel
theorem w_running : about1.status = .running := rfl
set_option maxRecDepth 65536 in
theorem w_room : about1.hasRoom e0.platform room_1 = true :=
  launch0.hasRoom_least _ room_1 (by decide +kernel) (by decide +kernel) (by decide +kernel) (by decide +kernel) (by decide +kernel) (by decide +kernel)
theorem allAtoms_all (ts : List Jvm.Cond) (a : Array Jvm.Value) (st : Jvm.State) : (allAtoms ts).before a st = ts.all (fun c => c.before a st) := by
  induction ts with
  | nil => rfl
  | cons c t ih =>
    show (Jvm.Cond.and c (allAtoms t)).before a st = _
    rw [Jvm.Cond.before_and, ih, List.all_cons]
def words1 : List Jvm.Cond := Jvm.Cond.code x code maxLocals ret :: tables_1
/-- a 'code' word, met by the world's own term for the bytes: nothing is compared byte by byte -/
theorem code_word {y : MethodName} {bytes : ByteArray} {mx : Nat} {rt : Option FieldType} {a : Array Value} {s : State} {m : MethodId} {meth : Method} {c : Code} (h1 : s.methodNamed? y = some m) (h2 : s.vm.method? m = some meth) (h3 : meth.code = some c) (h4 : c.code = bytes)
    (h5 : (c.maxLocals == mx && c.exceptionTable.isEmpty && decide (c.maxStack ≤ mostOperands) && decide (meth.sig.returnType = rt) && !meth.locks && decide (parseMethodDescriptor y.desc = some meth.sig)) = true) : (Jvm.Cond.code y bytes mx rt).before a s = true := by
  simp only [Bool.and_eq_true, beq_iff_eq, Bool.not_eq_true', decide_eq_true_eq] at h5
  obtain ⟨⟨⟨⟨⟨g1, g2⟩, g3⟩, g4⟩, g5⟩, g6⟩ := h5
  simp [Cond.before, Cond.holds, Cond.value, h1, h2, h3, h4, g1, g2, g3, g4, g5, g6]
def isCode : Jvm.Cond → Bool
  | .code _ _ _ _ => true
  | _ => false
theorem all_split {L : List Jvm.Cond} {P : Jvm.Cond → Bool} (h1 : L.all (fun c => isCode c || P c) = true) (h2 : ∀ c ∈ L.filter isCode, P c = true) : L.all P = true := by
  refine List.all_eq_true.mpr fun c hc => ?_
  have h := List.all_eq_true.mp h1 c hc
  rcases Bool.eq_false_or_eq_true (isCode c) with hi | hi
  · exact h2 c (List.mem_filter.mpr ⟨hc, hi⟩)
  · simpa [hi] using h
set_option maxRecDepth 65536 in
theorem w_c0 : (Jvm.Cond.code x code maxLocals ret).before args0 about1 = true := code_word (m := ⟨1, 2⟩) (meth := k1m2) (c := k1c2) (by decide +kernel) rfl rfl rfl (by decide +kernel)
set_option maxRecDepth 65536 in
theorem w_c1 : (Jvm.Cond.code ({ cls := "com/example/covenantry/covenantry/model/PeriodEnds", name := "<init>", desc := "()V" } : Jvm.MethodName) prog_105_method_1_code (1 : Nat) (Option.none : Option Jvm.ClassFile.FieldType)).before args0 about1 = true := code_word (m := ⟨2, 0⟩) (meth := k2m0) (c := k2c0) (by decide +kernel) rfl rfl rfl (by decide +kernel)
set_option maxRecDepth 65536 in
theorem w_c2 : (Jvm.Cond.code ({ cls := "java/lang/Object", name := "<init>", desc := "()V" } : Jvm.MethodName) object_method_1_code (1 : Nat) (Option.none : Option Jvm.ClassFile.FieldType)).before args0 about1 = true := code_word (m := ⟨0, 0⟩) (meth := k0m0) (c := k0c0) (by decide +kernel) rfl rfl rfl (by decide +kernel)
set_option maxRecDepth 65536 in
theorem w_c3 : (Jvm.Cond.code ({ cls := "com/example/covenantry/covenantry/model/PeriodEnds", name := "hasNext", desc := "()Z" } : Jvm.MethodName) prog_105_method_4_code (1 : Nat) (Option.some Jvm.ClassFile.FieldType.boolean)).before args0 about1 = true := code_word (m := ⟨2, 2⟩) (meth := k2m2) (c := k2c2) (by decide +kernel) rfl rfl rfl (by decide +kernel)
set_option maxRecDepth 65536 in
theorem w_c4 : (Jvm.Cond.code ({ cls := "com/example/covenantry/covenantry/model/PackedDates", name := "of", desc := "(III)J" } : Jvm.MethodName) prog_102_method_2_code (3 : Nat) (Option.some Jvm.ClassFile.FieldType.long)).before args0 about1 = true := code_word (m := ⟨3, 1⟩) (meth := k3m1) (c := k3c1) (by decide +kernel) rfl rfl rfl (by decide +kernel)
set_option maxRecDepth 65536 in
theorem w_c5 : (Jvm.Cond.code ({ cls := "java/time/temporal/ChronoField", name := "checkValidValue", desc := "(J)J" } : Jvm.MethodName) jdk_2395_method_11_code (3 : Nat) (Option.some Jvm.ClassFile.FieldType.long)).before args0 about1 = true := code_word (m := ⟨9, 1⟩) (meth := k9m1) (c := k9c1) (by decide +kernel) rfl rfl rfl (by decide +kernel)
set_option maxRecDepth 65536 in
theorem w_c6 : (Jvm.Cond.code ({ cls := "java/time/temporal/ChronoField", name := "range", desc := "()Ljava/time/temporal/ValueRange;" } : Jvm.MethodName) jdk_2395_method_8_code (1 : Nat) (Option.some (Jvm.ClassFile.FieldType.object "java/time/temporal/ValueRange"))).before args0 about1 = true := code_word (m := ⟨9, 0⟩) (meth := k9m0) (c := k9c0) (by decide +kernel) rfl rfl rfl (by decide +kernel)
set_option maxRecDepth 65536 in
theorem w_c7 : (Jvm.Cond.code ({ cls := "java/time/temporal/ValueRange", name := "checkValidValue", desc := "(JLjava/time/temporal/TemporalField;)J" } : Jvm.MethodName) jdk_2423_method_13_code (4 : Nat) (Option.some Jvm.ClassFile.FieldType.long)).before args0 about1 = true := code_word (m := ⟨10, 5⟩) (meth := k10m5) (c := k10c5) (by decide +kernel) rfl rfl rfl (by decide +kernel)
set_option maxRecDepth 65536 in
theorem w_c8 : (Jvm.Cond.code ({ cls := "java/time/temporal/ValueRange", name := "isValidValue", desc := "(J)Z" } : Jvm.MethodName) jdk_2423_method_11_code (3 : Nat) (Option.some Jvm.ClassFile.FieldType.boolean)).before args0 about1 = true := code_word (m := ⟨10, 3⟩) (meth := k10m3) (c := k10c3) (by decide +kernel) rfl rfl rfl (by decide +kernel)
set_option maxRecDepth 65536 in
theorem w_c9 : (Jvm.Cond.code ({ cls := "java/time/temporal/ValueRange", name := "getMinimum", desc := "()J" } : Jvm.MethodName) jdk_2423_method_6_code (1 : Nat) (Option.some Jvm.ClassFile.FieldType.long)).before args0 about1 = true := code_word (m := ⟨10, 0⟩) (meth := k10m0) (c := k10c0) (by decide +kernel) rfl rfl rfl (by decide +kernel)
set_option maxRecDepth 65536 in
theorem w_c10 : (Jvm.Cond.code ({ cls := "java/time/temporal/ValueRange", name := "getMaximum", desc := "()J" } : Jvm.MethodName) jdk_2423_method_9_code (1 : Nat) (Option.some Jvm.ClassFile.FieldType.long)).before args0 about1 = true := code_word (m := ⟨10, 1⟩) (meth := k10m1) (c := k10c1) (by decide +kernel) rfl rfl rfl (by decide +kernel)
set_option maxRecDepth 65536 in
theorem w_c11 : (Jvm.Cond.code ({ cls := "com/example/covenantry/covenantry/model/PackedDates", name := "lengthOfMonth", desc := "(II)I" } : Jvm.MethodName) prog_102_method_10_code (3 : Nat) (Option.some Jvm.ClassFile.FieldType.int)).before args0 about1 = true := code_word (m := ⟨3, 6⟩) (meth := k3m6) (c := k3c6) (by decide +kernel) rfl rfl rfl (by decide +kernel)
set_option maxRecDepth 65536 in
theorem w_c12 : (Jvm.Cond.code ({ cls := "com/example/covenantry/covenantry/model/PackedDates", name := "pack", desc := "(III)J" } : Jvm.MethodName) prog_102_method_12_code (3 : Nat) (Option.some Jvm.ClassFile.FieldType.long)).before args0 about1 = true := code_word (m := ⟨3, 8⟩) (meth := k3m8) (c := k3c8) (by decide +kernel) rfl rfl rfl (by decide +kernel)
set_option maxRecDepth 65536 in
theorem w_c13 : (Jvm.Cond.code ({ cls := "com/example/covenantry/covenantry/model/PackedDates", name := "plusMonths", desc := "(JJ)J" } : Jvm.MethodName) prog_102_method_9_code (9 : Nat) (Option.some Jvm.ClassFile.FieldType.long)).before args0 about1 = true := code_word (m := ⟨3, 5⟩) (meth := k3m5) (c := k3c5) (by decide +kernel) rfl rfl rfl (by decide +kernel)
set_option maxRecDepth 65536 in
theorem w_c14 : (Jvm.Cond.code ({ cls := "com/example/covenantry/covenantry/model/PackedDates", name := "year", desc := "(J)I" } : Jvm.MethodName) prog_102_method_5_code (2 : Nat) (Option.some Jvm.ClassFile.FieldType.int)).before args0 about1 = true := code_word (m := ⟨3, 2⟩) (meth := k3m2) (c := k3c2) (by decide +kernel) rfl rfl rfl (by decide +kernel)
set_option maxRecDepth 65536 in
theorem w_c15 : (Jvm.Cond.code ({ cls := "com/example/covenantry/covenantry/model/PackedDates", name := "month", desc := "(J)I" } : Jvm.MethodName) prog_102_method_6_code (2 : Nat) (Option.some Jvm.ClassFile.FieldType.int)).before args0 about1 = true := code_word (m := ⟨3, 3⟩) (meth := k3m3) (c := k3c3) (by decide +kernel) rfl rfl rfl (by decide +kernel)
set_option maxRecDepth 65536 in
theorem w_c16 : (Jvm.Cond.code ({ cls := "java/lang/Math", name := "floorDiv", desc := "(JI)J" } : Jvm.MethodName) jdk_29_method_48_code (3 : Nat) (Option.some Jvm.ClassFile.FieldType.long)).before args0 about1 = true := code_word (m := ⟨11, 1⟩) (meth := k11m1) (c := k11c1) (by decide +kernel) rfl rfl rfl (by decide +kernel)
set_option maxRecDepth 65536 in
theorem w_c17 : (Jvm.Cond.code ({ cls := "java/lang/Math", name := "floorDiv", desc := "(JJ)J" } : Jvm.MethodName) jdk_29_method_49_code (6 : Nat) (Option.some Jvm.ClassFile.FieldType.long)).before args0 about1 = true := code_word (m := ⟨11, 2⟩) (meth := k11m2) (c := k11c2) (by decide +kernel) rfl rfl rfl (by decide +kernel)
set_option maxRecDepth 65536 in
theorem w_c18 : (Jvm.Cond.code ({ cls := "java/time/temporal/ChronoField", name := "checkValidIntValue", desc := "(J)I" } : Jvm.MethodName) jdk_2395_method_12_code (3 : Nat) (Option.some Jvm.ClassFile.FieldType.int)).before args0 about1 = true := code_word (m := ⟨9, 2⟩) (meth := k9m2) (c := k9c2) (by decide +kernel) rfl rfl rfl (by decide +kernel)
set_option maxRecDepth 65536 in
theorem w_c19 : (Jvm.Cond.code ({ cls := "java/time/temporal/ValueRange", name := "checkValidIntValue", desc := "(JLjava/time/temporal/TemporalField;)I" } : Jvm.MethodName) jdk_2423_method_14_code (4 : Nat) (Option.some Jvm.ClassFile.FieldType.int)).before args0 about1 = true := code_word (m := ⟨10, 6⟩) (meth := k10m6) (c := k10c6) (by decide +kernel) rfl rfl rfl (by decide +kernel)
set_option maxRecDepth 65536 in
theorem w_c20 : (Jvm.Cond.code ({ cls := "java/time/temporal/ValueRange", name := "isValidIntValue", desc := "(J)Z" } : Jvm.MethodName) jdk_2423_method_12_code (3 : Nat) (Option.some Jvm.ClassFile.FieldType.boolean)).before args0 about1 = true := code_word (m := ⟨10, 4⟩) (meth := k10m4) (c := k10c4) (by decide +kernel) rfl rfl rfl (by decide +kernel)
set_option maxRecDepth 65536 in
theorem w_c21 : (Jvm.Cond.code ({ cls := "java/time/temporal/ValueRange", name := "isIntValue", desc := "()Z" } : Jvm.MethodName) jdk_2423_method_10_code (1 : Nat) (Option.some Jvm.ClassFile.FieldType.boolean)).before args0 about1 = true := code_word (m := ⟨10, 2⟩) (meth := k10m2) (c := k10c2) (by decide +kernel) rfl rfl rfl (by decide +kernel)
set_option maxRecDepth 65536 in
theorem w_c22 : (Jvm.Cond.code ({ cls := "java/lang/Math", name := "floorMod", desc := "(JI)I" } : Jvm.MethodName) jdk_29_method_51_code (3 : Nat) (Option.some Jvm.ClassFile.FieldType.int)).before args0 about1 = true := code_word (m := ⟨11, 3⟩) (meth := k11m3) (c := k11c3) (by decide +kernel) rfl rfl rfl (by decide +kernel)
set_option maxRecDepth 65536 in
theorem w_c23 : (Jvm.Cond.code ({ cls := "java/lang/Math", name := "floorMod", desc := "(JJ)J" } : Jvm.MethodName) jdk_29_method_52_code (6 : Nat) (Option.some Jvm.ClassFile.FieldType.long)).before args0 about1 = true := code_word (m := ⟨11, 4⟩) (meth := k11m4) (c := k11c4) (by decide +kernel) rfl rfl rfl (by decide +kernel)
set_option maxRecDepth 65536 in
theorem w_c24 : (Jvm.Cond.code ({ cls := "com/example/covenantry/covenantry/model/PackedDates", name := "day", desc := "(J)I" } : Jvm.MethodName) prog_102_method_7_code (2 : Nat) (Option.some Jvm.ClassFile.FieldType.int)).before args0 about1 = true := code_word (m := ⟨3, 4⟩) (meth := k3m4) (c := k3c4) (by decide +kernel) rfl rfl rfl (by decide +kernel)
set_option maxRecDepth 65536 in
theorem w_c25 : (Jvm.Cond.code ({ cls := "java/lang/Math", name := "min", desc := "(II)I" } : Jvm.MethodName) jdk_29_method_69_code (2 : Nat) (Option.some Jvm.ClassFile.FieldType.int)).before args0 about1 = true := code_word (m := ⟨11, 5⟩) (meth := k11m5) (c := k11c5) (by decide +kernel) rfl rfl rfl (by decide +kernel)
set_option maxRecDepth 65536 in
theorem w_c26 : (Jvm.Cond.code ({ cls := "com/example/covenantry/covenantry/model/PackedDates", name := "withDay", desc := "(JI)J" } : Jvm.MethodName) prog_102_method_11_code (3 : Nat) (Option.some Jvm.ClassFile.FieldType.long)).before args0 about1 = true := code_word (m := ⟨3, 7⟩) (meth := k3m7) (c := k3c7) (by decide +kernel) rfl rfl rfl (by decide +kernel)
set_option maxRecDepth 65536 in
theorem w_c27 : (Jvm.Cond.code ({ cls := "com/example/covenantry/covenantry/model/PeriodEnds", name := "start", desc := "(JIJ)V" } : Jvm.MethodName) prog_105_method_3_code (6 : Nat) (Option.none : Option Jvm.ClassFile.FieldType)).before args0 about1 = true := code_word (m := ⟨2, 1⟩) (meth := k2m1) (c := k2c1) (by decide +kernel) rfl rfl rfl (by decide +kernel)
set_option maxRecDepth 65536 in
theorem w_c28 : (Jvm.Cond.code ({ cls := "com/example/covenantry/covenantry/model/PeriodEnds", name := "start", desc := "(JJ)V" } : Jvm.MethodName) prog_105_method_6_code (5 : Nat) (Option.none : Option Jvm.ClassFile.FieldType)).before args0 about1 = true := code_word (m := ⟨2, 4⟩) (meth := k2m4) (c := k2c4) (by decide +kernel) rfl rfl rfl (by decide +kernel)
set_option maxRecDepth 65536 in
theorem w_c29 : (Jvm.Cond.code ({ cls := "com/example/covenantry/covenantry/model/PeriodEndsHasNextPinLaw", name := "before", desc := "(IIIII)Z" } : Jvm.MethodName) method_2_code (6 : Nat) (Option.some Jvm.ClassFile.FieldType.boolean)).before args0 about1 = true := code_word (m := ⟨1, 1⟩) (meth := k1m1) (c := k1c1) (by decide +kernel) rfl rfl rfl (by decide +kernel)
set_option maxRecDepth 65536 in
theorem w_c30 : (Jvm.Cond.code ({ cls := "com/example/covenantry/covenantry/model/PeriodEnds", name := "next", desc := "()J" } : Jvm.MethodName) prog_105_method_5_code (3 : Nat) (Option.some Jvm.ClassFile.FieldType.long)).before args0 about1 = true := code_word (m := ⟨2, 3⟩) (meth := k2m3) (c := k2c3) (by decide +kernel) rfl rfl rfl (by decide +kernel)
set_option maxRecDepth 65536 in
theorem w_c31 : (Jvm.Cond.code ({ cls := "com/example/covenantry/covenantry/model/PeriodEnds", name := "paymentDateAfter", desc := "(J)J" } : Jvm.MethodName) prog_105_method_7_code (3 : Nat) (Option.some Jvm.ClassFile.FieldType.long)).before args0 about1 = true := code_word (m := ⟨2, 5⟩) (meth := k2m5) (c := k2c5) (by decide +kernel) rfl rfl rfl (by decide +kernel)
def codes1 : List Jvm.Cond := [Jvm.Cond.code x code maxLocals ret, Jvm.Cond.code ({ cls := "com/example/covenantry/covenantry/model/PeriodEnds", name := "<init>", desc := "()V" } : Jvm.MethodName) prog_105_method_1_code (1 : Nat) (Option.none : Option Jvm.ClassFile.FieldType), Jvm.Cond.code ({ cls := "java/lang/Object", name := "<init>", desc := "()V" } : Jvm.MethodName) object_method_1_code (1 : Nat) (Option.none : Option Jvm.ClassFile.FieldType), Jvm.Cond.code ({ cls := "com/example/covenantry/covenantry/model/PeriodEnds", name := "hasNext", desc := "()Z" } : Jvm.MethodName) prog_105_method_4_code (1 : Nat) (Option.some Jvm.ClassFile.FieldType.boolean), Jvm.Cond.code ({ cls := "com/example/covenantry/covenantry/model/PackedDates", name := "of", desc := "(III)J" } : Jvm.MethodName) prog_102_method_2_code (3 : Nat) (Option.some Jvm.ClassFile.FieldType.long), Jvm.Cond.code ({ cls := "java/time/temporal/ChronoField", name := "checkValidValue", desc := "(J)J" } : Jvm.MethodName) jdk_2395_method_11_code (3 : Nat) (Option.some Jvm.ClassFile.FieldType.long), Jvm.Cond.code ({ cls := "java/time/temporal/ChronoField", name := "range", desc := "()Ljava/time/temporal/ValueRange;" } : Jvm.MethodName) jdk_2395_method_8_code (1 : Nat) (Option.some (Jvm.ClassFile.FieldType.object "java/time/temporal/ValueRange")), Jvm.Cond.code ({ cls := "java/time/temporal/ValueRange", name := "checkValidValue", desc := "(JLjava/time/temporal/TemporalField;)J" } : Jvm.MethodName) jdk_2423_method_13_code (4 : Nat) (Option.some Jvm.ClassFile.FieldType.long), Jvm.Cond.code ({ cls := "java/time/temporal/ValueRange", name := "isValidValue", desc := "(J)Z" } : Jvm.MethodName) jdk_2423_method_11_code (3 : Nat) (Option.some Jvm.ClassFile.FieldType.boolean), Jvm.Cond.code ({ cls := "java/time/temporal/ValueRange", name := "getMinimum", desc := "()J" } : Jvm.MethodName) jdk_2423_method_6_code (1 : Nat) (Option.some Jvm.ClassFile.FieldType.long), Jvm.Cond.code ({ cls := "java/time/temporal/ValueRange", name := "getMaximum", desc := "()J" } : Jvm.MethodName) jdk_2423_method_9_code (1 : Nat) (Option.some Jvm.ClassFile.FieldType.long), Jvm.Cond.code ({ cls := "com/example/covenantry/covenantry/model/PackedDates", name := "lengthOfMonth", desc := "(II)I" } : Jvm.MethodName) prog_102_method_10_code (3 : Nat) (Option.some Jvm.ClassFile.FieldType.int), Jvm.Cond.code ({ cls := "com/example/covenantry/covenantry/model/PackedDates", name := "pack", desc := "(III)J" } : Jvm.MethodName) prog_102_method_12_code (3 : Nat) (Option.some Jvm.ClassFile.FieldType.long), Jvm.Cond.code ({ cls := "com/example/covenantry/covenantry/model/PackedDates", name := "plusMonths", desc := "(JJ)J" } : Jvm.MethodName) prog_102_method_9_code (9 : Nat) (Option.some Jvm.ClassFile.FieldType.long), Jvm.Cond.code ({ cls := "com/example/covenantry/covenantry/model/PackedDates", name := "year", desc := "(J)I" } : Jvm.MethodName) prog_102_method_5_code (2 : Nat) (Option.some Jvm.ClassFile.FieldType.int), Jvm.Cond.code ({ cls := "com/example/covenantry/covenantry/model/PackedDates", name := "month", desc := "(J)I" } : Jvm.MethodName) prog_102_method_6_code (2 : Nat) (Option.some Jvm.ClassFile.FieldType.int), Jvm.Cond.code ({ cls := "java/lang/Math", name := "floorDiv", desc := "(JI)J" } : Jvm.MethodName) jdk_29_method_48_code (3 : Nat) (Option.some Jvm.ClassFile.FieldType.long), Jvm.Cond.code ({ cls := "java/lang/Math", name := "floorDiv", desc := "(JJ)J" } : Jvm.MethodName) jdk_29_method_49_code (6 : Nat) (Option.some Jvm.ClassFile.FieldType.long), Jvm.Cond.code ({ cls := "java/time/temporal/ChronoField", name := "checkValidIntValue", desc := "(J)I" } : Jvm.MethodName) jdk_2395_method_12_code (3 : Nat) (Option.some Jvm.ClassFile.FieldType.int), Jvm.Cond.code ({ cls := "java/time/temporal/ValueRange", name := "checkValidIntValue", desc := "(JLjava/time/temporal/TemporalField;)I" } : Jvm.MethodName) jdk_2423_method_14_code (4 : Nat) (Option.some Jvm.ClassFile.FieldType.int), Jvm.Cond.code ({ cls := "java/time/temporal/ValueRange", name := "isValidIntValue", desc := "(J)Z" } : Jvm.MethodName) jdk_2423_method_12_code (3 : Nat) (Option.some Jvm.ClassFile.FieldType.boolean), Jvm.Cond.code ({ cls := "java/time/temporal/ValueRange", name := "isIntValue", desc := "()Z" } : Jvm.MethodName) jdk_2423_method_10_code (1 : Nat) (Option.some Jvm.ClassFile.FieldType.boolean), Jvm.Cond.code ({ cls := "java/lang/Math", name := "floorMod", desc := "(JI)I" } : Jvm.MethodName) jdk_29_method_51_code (3 : Nat) (Option.some Jvm.ClassFile.FieldType.int), Jvm.Cond.code ({ cls := "java/lang/Math", name := "floorMod", desc := "(JJ)J" } : Jvm.MethodName) jdk_29_method_52_code (6 : Nat) (Option.some Jvm.ClassFile.FieldType.long), Jvm.Cond.code ({ cls := "com/example/covenantry/covenantry/model/PackedDates", name := "day", desc := "(J)I" } : Jvm.MethodName) prog_102_method_7_code (2 : Nat) (Option.some Jvm.ClassFile.FieldType.int), Jvm.Cond.code ({ cls := "java/lang/Math", name := "min", desc := "(II)I" } : Jvm.MethodName) jdk_29_method_69_code (2 : Nat) (Option.some Jvm.ClassFile.FieldType.int), Jvm.Cond.code ({ cls := "com/example/covenantry/covenantry/model/PackedDates", name := "withDay", desc := "(JI)J" } : Jvm.MethodName) prog_102_method_11_code (3 : Nat) (Option.some Jvm.ClassFile.FieldType.long), Jvm.Cond.code ({ cls := "com/example/covenantry/covenantry/model/PeriodEnds", name := "start", desc := "(JIJ)V" } : Jvm.MethodName) prog_105_method_3_code (6 : Nat) (Option.none : Option Jvm.ClassFile.FieldType), Jvm.Cond.code ({ cls := "com/example/covenantry/covenantry/model/PeriodEnds", name := "start", desc := "(JJ)V" } : Jvm.MethodName) prog_105_method_6_code (5 : Nat) (Option.none : Option Jvm.ClassFile.FieldType), Jvm.Cond.code ({ cls := "com/example/covenantry/covenantry/model/PeriodEndsHasNextPinLaw", name := "before", desc := "(IIIII)Z" } : Jvm.MethodName) method_2_code (6 : Nat) (Option.some Jvm.ClassFile.FieldType.boolean), Jvm.Cond.code ({ cls := "com/example/covenantry/covenantry/model/PeriodEnds", name := "next", desc := "()J" } : Jvm.MethodName) prog_105_method_5_code (3 : Nat) (Option.some Jvm.ClassFile.FieldType.long), Jvm.Cond.code ({ cls := "com/example/covenantry/covenantry/model/PeriodEnds", name := "paymentDateAfter", desc := "(J)J" } : Jvm.MethodName) prog_105_method_7_code (3 : Nat) (Option.some Jvm.ClassFile.FieldType.long)]
set_option maxRecDepth 65536 in
theorem codes_eq : words1.filter isCode = codes1 := rfl
theorem w_codes : ∀ c ∈ words1.filter isCode, c.before args0 about1 = true := by
  rw [codes_eq]
  intro c hc
  simp only [codes1, List.mem_cons, List.not_mem_nil, or_false] at hc
  rcases hc with rfl | rfl | rfl | rfl | rfl | rfl | rfl | rfl | rfl | rfl | rfl | rfl | rfl | rfl | rfl | rfl | rfl | rfl | rfl | rfl | rfl | rfl | rfl | rfl | rfl | rfl | rfl | rfl | rfl | rfl | rfl | rfl
  · exact w_c0
  · exact w_c1
  · exact w_c2
  · exact w_c3
  · exact w_c4
  · exact w_c5
  · exact w_c6
  · exact w_c7
  · exact w_c8
  · exact w_c9
  · exact w_c10
  · exact w_c11
  · exact w_c12
  · exact w_c13
  · exact w_c14
  · exact w_c15
  · exact w_c16
  · exact w_c17
  · exact w_c18
  · exact w_c19
  · exact w_c20
  · exact w_c21
  · exact w_c22
  · exact w_c23
  · exact w_c24
  · exact w_c25
  · exact w_c26
  · exact w_c27
  · exact w_c28
  · exact w_c29
  · exact w_c30
  · exact w_c31
set_option maxRecDepth 65536 in
theorem w_t1 : (words1.take 24).all (fun c => isCode c || c.before args0 about1) = true := by decide +kernel
set_option maxRecDepth 65536 in
theorem w_t2 : ((words1.drop 24).take 24).all (fun c => isCode c || c.before args0 about1) = true := by decide +kernel
set_option maxRecDepth 65536 in
theorem w_t3 : (((words1.drop 24).drop 24).take 24).all (fun c => isCode c || c.before args0 about1) = true := by decide +kernel
set_option maxRecDepth 65536 in
theorem w_t4 : ((((words1.drop 24).drop 24).drop 24).take 24).all (fun c => isCode c || c.before args0 about1) = true := by decide +kernel
set_option maxRecDepth 65536 in
theorem w_t5 : (((((words1.drop 24).drop 24).drop 24).drop 24).take 24).all (fun c => isCode c || c.before args0 about1) = true := by decide +kernel
set_option maxRecDepth 65536 in
theorem w_t6 : ((((((words1.drop 24).drop 24).drop 24).drop 24).drop 24).take 24).all (fun c => isCode c || c.before args0 about1) = true := by decide +kernel
set_option maxRecDepth 65536 in
theorem w_t7 : ((((((words1.drop 24).drop 24).drop 24).drop 24).drop 24).drop 24).all (fun c => isCode c || c.before args0 about1) = true := by decide +kernel
theorem w_tables : (allAtoms (Jvm.Cond.code x code maxLocals ret :: tables_1)).before args0 about1 = true := by
  rw [allAtoms_all]
  show words1.all (fun c => c.before args0 about1) = true
  refine all_split ?_ w_codes
  rw [← List.take_append_drop 24 words1, List.all_append, w_t1, ← List.take_append_drop 24 (words1.drop 24), List.all_append, w_t2, ← List.take_append_drop 24 ((words1.drop 24).drop 24), List.all_append, w_t3, ← List.take_append_drop 24 (((words1.drop 24).drop 24).drop 24), List.all_append, w_t4, ← List.take_append_drop 24 ((((words1.drop 24).drop 24).drop 24).drop 24), List.all_append, w_t5, ← List.take_append_drop 24 (((((words1.drop 24).drop 24).drop 24).drop 24).drop 24), List.all_append, w_t6, w_t7]
  rfl
set_option maxRecDepth 65536 in
theorem w_rest : rest_1_c.before args0 about1 = true := by decide +kernel
set_option maxRecDepth 65536 in
theorem w_case : (Jvm.Cond.and given_1 narrow_1).before args0 about1 = true := by decide +kernel
theorem w_applies : (headSpec (Jvm.Cond.code x code maxLocals ret :: tables_1) room_1).applies x e0.platform about1 = true :=
  (Spec.applies_iff w_frames).mpr ⟨w_running, w_runnable, w_alone, w_named, w_hears, w_ripe, w_room, w_tables⟩
theorem atStart : AtStart classFile x code maxLocals ret World_1 tables_1 room_1 Calls_1 rest_1 Pre_1 launch0 p0 e0 about1 theMethod args0 below0 :=
  ⟨lists_1, trivial, launch0.admits_env _ _ _, launch0.least_env, fairChoices_fair.cas, fairChoices_fair.clock, w_frames, w_args, w_heap, w_applies, trivial, w_rest, w_case⟩
end start1
theorem witness_1 : WitnessClaimed_1 := ⟨start1.p0, start1.e0, start1.about1, start1.theMethod, start1.args0, start1.below0, start1.atStart⟩
end Jvm.Pilot.@@N@@
