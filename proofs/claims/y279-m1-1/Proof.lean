import JvmDerived
import JvmDerived.Pilot.@@N@@Statement
import JvmDerived.Pilot.@@N@@Code
set_option linter.unusedVariables false
set_option linter.unusedSimpArgs false
namespace Jvm.RoadKit
open Sem ClassFile Op Lib Jvm.Stand Jvm.Free Jvm.LawKit
section Own
variable {p : Program} {l : Launch} {e : Env} {R : Room} {s : State} {m : MethodId} {args : Array Value} {below : List Frame} {meth : Method} {c : Code} {T : State} {locs : List Loc} {cells slots : Nat}
theorem retI (X : Stand p l e R s m args below meth c T locs cells slots) (hx : p.tables.exec = Jvm.exec) {pc : Nat} {Ls : Array Slot} {z : Int32} {rest : List Value} (hret : meth.sig.returnType = some .int) (hd : decode c.code pc = .ok (.ireturn, 1)) {fs : List Frame}
    (hl : ∀ (f : JFrame) (acts : List Action), f.method = m → f.locked = none → f.entered = [] → (doReturn e (T.setTop f) acts (some (.int z))).1 = T.setFrames fs) : Steps p.tables e below (T.setTop (mkF m pc Ls (.int z :: rest))) (T.setFrames fs) := by
  have hm' : T.vm.method? m = some meth := X.method'
  have hn : narrow .int (.int z) = .int z := rfl
  show Steps p.tables e below (T.setTop { method := m, pc := pc, locals := Ls, stack := _ :: rest, locked := none }) _
  jvm_step X.here [X.here.top, hx, hd, hm', hret, hn]
  first | (intro acts; rw [hl _ acts rfl rfl rfl]) | rw [hl _ _ rfl rfl rfl]
  exact Steps.refl _
/-- from U the run comes to an end of which Qo holds -/
def own_Ends (tb : Tables) (e : Env) (below : List Frame) (Qo : Outcome → State → Prop) (U : State) : Prop := ∃ s₂ o, Steps tb e below U s₂ ∧ s₂.status = .running ∧ Ended s₂ below o ∧ Qo o s₂
def own_Q (s : State) (Q : Option Value → Heap → List Loc → Prop) (A B : Nat) : Outcome → State → Prop := fun o U' => ∃ v L, o = .returned v ∧ Q v U'.heap L ∧ FrameEnd s o U' L A B
theorem own_step {tb : Tables} {e : Env} {below : List Frame} {Qo : Outcome → State → Prop} {U V : State} (k : ∀ t, Steps tb e below V t → Steps tb e below U t) (h : own_Ends tb e below Qo V) : own_Ends tb e below Qo U := by
  obtain ⟨s₂, o, h1, h2⟩ := h; exact ⟨s₂, o, k _ h1, h2⟩
variable {Q : Option Value → Heap → List Loc → Prop} {A B : Nat}
theorem own_leave (X : Stand p l e R s m args below meth c T locs cells slots) (hlk : meth.locks = false) {v : Option Value} (hv : meth.sig.returnType = none → v = none) (ha : cells ≤ A) (hb : slots ≤ B) (hQ : Q v T.heap locs) {g : JFrame}
    (k : ∀ fs, (∀ (f : JFrame) (acts : List Action), f.method = m → f.locked = none → f.entered = [] → (doReturn e (T.setTop f) acts v).1 = T.setFrames fs) → Steps p.tables e below (T.setTop g) (T.setFrames fs)) : own_Ends p.tables e below (own_Q s Q A B) (T.setTop g) := by
  obtain ⟨fs, hr, hrun, hended, hW, hsame⟩ := X.leave (v := v) hv hlk
  exact ⟨_, _, k fs hr, hrun, hended, _, _, rfl, (show Q v T.heap locs from hQ), ⟨_, rfl⟩, hW, hsame.mono ha hb⟩
theorem own_retN (X : Stand p l e R s m args below meth c T locs cells slots) (hx : p.tables.exec = Jvm.exec) (hlk : meth.locks = false) (ha : cells ≤ A) (hb : slots ≤ B) {pc : Nat} {Ls : Array Slot} {z : Int32} {t : FieldType} {rest : List Value} (hret : meth.sig.returnType = some t) (ht : t = .boolean ∨ t = .byte ∨ t = .char ∨ t = .short)
    (hd : decode c.code pc = .ok (.ireturn, 1)) (hQ : Q (some (.int (nar t z))) T.heap locs) : own_Ends p.tables e below (own_Q s Q A B) (T.setTop (mkF m pc Ls (.int z :: rest))) :=
  own_leave X hlk (fun h => by rw [hret] at h; cases h) ha hb hQ fun fs hr => retN X hx hret ht hd hr
theorem own_retI (X : Stand p l e R s m args below meth c T locs cells slots) (hx : p.tables.exec = Jvm.exec) (hlk : meth.locks = false) (ha : cells ≤ A) (hb : slots ≤ B) {pc : Nat} {Ls : Array Slot} {z : Int32} {rest : List Value} (hret : meth.sig.returnType = some .int)
    (hd : decode c.code pc = .ok (.ireturn, 1)) (hQ : Q (some (.int z)) T.heap locs) : own_Ends p.tables e below (own_Q s Q A B) (T.setTop (mkF m pc Ls (.int z :: rest))) :=
  own_leave X hlk (fun h => by rw [hret] at h; cases h) ha hb hQ fun fs hr => retI X hx hret hd hr
theorem own_retJ (X : Stand p l e R s m args below meth c T locs cells slots) (hx : p.tables.exec = Jvm.exec) (hlk : meth.locks = false) (ha : cells ≤ A) (hb : slots ≤ B) {pc : Nat} {Ls : Array Slot} {z : Int64} {rest : List Value} (hret : meth.sig.returnType = some .long)
    (hd : decode c.code pc = .ok (.lreturn, 1)) (hQ : Q (some (.long z)) T.heap locs) : own_Ends p.tables e below (own_Q s Q A B) (T.setTop (mkF m pc Ls (.long z :: rest))) :=
  own_leave X hlk (fun h => by rw [hret] at h; cases h) ha hb hQ fun fs hr => by
    have hm' : T.vm.method? m = some meth := X.method'
    show Steps p.tables e below (T.setTop { method := m, pc := pc, locals := Ls, stack := _ :: rest, locked := none }) _
    jvm_step X.here [X.here.top, hx, hd, hm', hret, narrow]
    first | (intro acts; rw [hr _ acts rfl rfl rfl]) | rw [hr _ _ rfl rfl rfl]
    exact Steps.refl _
theorem own_retA (X : Stand p l e R s m args below meth c T locs cells slots) (hx : p.tables.exec = Jvm.exec) (hlk : meth.locks = false) (ha : cells ≤ A) (hb : slots ≤ B) {pc : Nat} {Ls : Array Slot} {z : Value} {t : FieldType} {rest : List Value} (hret : meth.sig.returnType = some t) (ht : t.isReference = true) (hz : z.isRef = true)
    (hd : decode c.code pc = .ok (.areturn, 1)) (hQ : Q (some z) T.heap locs) : own_Ends p.tables e below (own_Q s Q A B) (T.setTop (mkF m pc Ls (z :: rest))) :=
  own_leave X hlk (fun h => by rw [hret] at h; cases h) ha hb hQ fun fs hr => by
    have hm' : T.vm.method? m = some meth := X.method'
    show Steps p.tables e below (T.setTop { method := m, pc := pc, locals := Ls, stack := _ :: rest, locked := none }) _
    jvm_step X.here [X.here.top, hx, hd, hm', hret, ht, hz]
    first | (intro acts; rw [hr _ acts rfl rfl rfl]) | rw [hr _ _ rfl rfl rfl]
    exact Steps.refl _
theorem own_ret0 (X : Stand p l e R s m args below meth c T locs cells slots) (hx : p.tables.exec = Jvm.exec) (hlk : meth.locks = false) (ha : cells ≤ A) (hb : slots ≤ B) {pc : Nat} {Ls : Array Slot} (hret : meth.sig.returnType = none)
    (hd : decode c.code pc = .ok (.return_, 1)) (hQ : Q none T.heap locs) : own_Ends p.tables e below (own_Q s Q A B) (T.setTop (mkF m pc Ls [])) :=
  own_leave X hlk (fun _ => rfl) ha hb hQ fun fs hr => X.returnOut hx hret hd hr
theorem own_sel_priv {s : State} {args : Array Value} {n : Nat} {y : MethodName} (hy : y.cls ≠ "java/lang/invoke/MethodHandle" ∧ y.cls ≠ "java/lang/invoke/VarHandle") (hins : (Cond.instantiable y.cls n).before args s = true) (hpriv : (Cond.privateMethod y).before args s = true) (hinst : (Cond.instanceMethod y).before args s = true) :
    (Cond.selects y.cls y y).before args s = true := by
  obtain ⟨c, k, hc, hk, -, hniab, -, -⟩ := Cond.instantiable_spec hins
  have hni : k.isInterface = false := (Bool.or_eq_false_iff.mp hniab).1
  obtain ⟨mk, methM, hnamed, hmethM, -, -⟩ := Cond.instanceMethod_spec hinst
  have hfound : s.methodFound? y.cls y.name y.desc = some mk := State.methodFound?_of_named hnamed hy
  have hcls : mk.cls = c := Option.some.inj ((findClass_of_methodNamed hnamed).symm.trans hc)
  have hsel : selectMethod {} s.vm c mk = .method mk := selectMethod_private hmethM (Cond.privateMethod_at hpriv mk methM hnamed hmethM)
  simp only [Cond.before, Cond.holds, Cond.value, hc, hfound, hnamed, hsel, hcls, hk]
  simp; exact hni
theorem own_pop2J (X : Stand p l e R s m args below meth c T locs cells slots) (hx : p.tables.exec = Jvm.exec) {pc : Nat} {Ls : Array Slot} {z : Int64} {rest : List Value} (hd : decode c.code pc = .ok (.pop2, 1)) {target : State}
    (hr : Steps p.tables e below (T.setTop (mkF m (pc + 1) Ls rest)) target) : Steps p.tables e below (T.setTop (mkF m pc Ls (.long z :: rest))) target := by
  show Steps p.tables e below (T.setTop { method := m, pc := pc, locals := Ls, stack := _ :: rest, locked := none }) _
  jvm_step X.here [X.here.top, hx, hd, Value.category]
  exact hr
def own_NS (h : Heap) (x : Addr) : Prop := ∃ c : Cell, h[x]? = some c ∧ c.vm.isStatics = false
theorem own_ns_exa {Z : State} {h : Heap} {a : Addr} {C : String} (F : Exa Z h a C) : own_NS h a := by obtain ⟨c, k, h1, h2, h3, h4, h5⟩ := F; exact ⟨c, h1, h4⟩
theorem own_ns_arv {Z : State} {h : Heap} {a : Addr} {k : ClassId} {ty : FieldType} {z : Int32} {vs : List Value} {d : Value} (F : Arv Z h a k ty z vs d) : own_NS h a := by obtain ⟨c, A, -⟩ := F; exact ⟨c, A.1, A.plain⟩
theorem own_Sta_keep {Z : State} {h h' : Heap} {ws : List Addr} {C n d : String} {v : Value} (F : Sta Z h C n d v) (K : Keep h h' ws) (q : ∀ x ∈ ws, own_NS h x) : Sta Z h' C n d v := by
  obtain ⟨cf, i, k, f, st, cell, h1, h2, h3, h4, h5, h6, h7⟩ := F
  refine ⟨cf, i, k, f, st, cell, h1, h2, h3, h4, K.2.1 st cell h5 fun m => ?_, h6, h7⟩
  obtain ⟨c, e1, e2⟩ := q st m
  rw [h5] at e1; cases e1; rw [h6] at e2; cases e2
theorem own_lc_lt (x y : Int64) : lcmpW x y < 0 ↔ x < y := by rw [lcW]; exact lc_lt x y
theorem own_lc_gt (x y : Int64) : 0 < lcmpW x y ↔ y < x := by rw [lcW]; exact lc_gt x y
theorem own_lc_eq (x y : Int64) : lcmpW x y = 0 ↔ x = y := by rw [lcW]; exact lc_eq x y
end Own
end Jvm.RoadKit
namespace Jvm.Pilot.@@N@@
open Jvm Jvm.ClassFile Sem Op Lib Jvm.Free Jvm.Stand Jvm.LawKit Jvm.RoadKit Bundle Jvm.Pilot.@@N@@.Jvm.D
def own_lt {α : Type} (f : Nat → α) (vs : List α) : Nat → List α
  | 0 => vs
  | j + 1 => (own_lt f vs j).set j (f j)
theorem own_lt_len {α : Type} (f : Nat → α) (vs : List α) : ∀ j, (own_lt f vs j).length = vs.length
  | 0 => rfl
  | j + 1 => by rw [own_lt, List.length_set, own_lt_len f vs j]
theorem own_setD {α : Type} (l : List α) (n i : Nat) (v d : α) (h : n < l.length) : (l.set n v).getD i d = if i = n then v else l.getD i d := by
  simp only [List.getD_eq_getElem?_getD, List.getElem?_set]
  by_cases q : n = i
  · subst q; simp [h]
  · rw [if_neg q, if_neg (fun e => q e.symm)]
theorem own_lt_get {α : Type} (f : Nat → α) (vs : List α) (i : Nat) (d : α) : ∀ j, j ≤ vs.length → (own_lt f vs j).getD i d = if i < j then f i else vs.getD i d
  | 0, _ => by simp [own_lt]
  | j + 1, h => by
    rw [own_lt, own_setD _ _ _ _ _ (by rw [own_lt_len]; omega), own_lt_get f vs i d j (by omega)]
    by_cases q : i = j
    · subst q; rw [if_pos rfl, if_pos (by omega)]
    · rw [if_neg q]
      by_cases q2 : i < j
      · rw [if_pos q2, if_pos (by omega)]
      · rw [if_neg q2, if_neg (by omega)]
theorem own_snocD {α : Type} (xs : List α) (v d : α) (i : Nat) : (xs ++ [v]).getD i d = if i = xs.length then v else xs.getD i d := by
  simp only [List.getD_eq_getElem?_getD]
  by_cases q : i < xs.length
  · rw [List.getElem?_append_left q, if_neg (by omega)]
  · by_cases q2 : i = xs.length
    · subst q2; simp
    · rw [if_neg q2, List.getElem?_eq_none (by simp; omega), List.getElem?_eq_none (by omega)]
def own_Rin (xs : List Int64) (vs : List Value) : Prop := ∀ i, i < xs.length → vs.getD i (.int 0) = .int (xs.getD i 0).toInt32 ∧ (xs.getD i 0).toInt32.toInt64 = xs.getD i 0
def own_Rlo (xs : List Int64) (vs : List Value) : Prop := ∀ i, i < xs.length → vs.getD i (.long 0) = .long (xs.getD i 0)
theorem own_Rin_snoc {xs : List Int64} {vs : List Value} {v : Int64} (h : own_Rin xs vs) (hn : xs.length < vs.length) (hv : v.toInt32.toInt64 = v) : own_Rin (xs ++ [v]) (vs.set xs.length (.int v.toInt32)) := by
  intro i hi
  rw [List.length_append, List.length_singleton] at hi
  rw [own_setD _ _ _ _ _ hn, own_snocD]
  by_cases q : i = xs.length
  · rw [if_pos q, if_pos q]; exact ⟨rfl, hv⟩
  · rw [if_neg q, if_neg q]; exact h i (by omega)
theorem own_Rlo_snoc {xs : List Int64} {vs : List Value} {v : Int64} (h : own_Rlo xs vs) (hn : xs.length < vs.length) : own_Rlo (xs ++ [v]) (vs.set xs.length (.long v)) := by
  intro i hi
  rw [List.length_append, List.length_singleton] at hi
  rw [own_setD _ _ _ _ _ hn, own_snocD]
  by_cases q : i = xs.length
  · rw [if_pos q, if_pos q]
  · rw [if_neg q, if_neg q]; exact h i (by omega)
theorem own_same {xs : List Int64} {sh : Int64} (h : ∀ x ∈ xs, x = sh) (i : Nat) (hi : i < xs.length) : xs.getD i 0 = sh := by
  rw [List.getD_eq_getElem?_getD, List.getElem?_eq_getElem hi]; exact h _ (List.getElem_mem hi)
theorem own_Rin_fill {xs : List Int64} {vs : List Value} {sh : Int64} (h : ∀ x ∈ xs, x = sh) (hs : sh.toInt32.toInt64 = sh) (hn : xs.length ≤ vs.length) : own_Rin xs (own_lt (fun _ => .int sh.toInt32) vs xs.length) := by
  intro i hi
  rw [own_lt_get _ _ _ _ _ hn, if_pos hi, own_same h i hi]; exact ⟨rfl, hs⟩
theorem own_Rlo_fill {xs : List Int64} {vs : List Value} (hn : xs.length ≤ vs.length) : own_Rlo xs (own_lt (fun i => .long (xs.getD i 0)) vs xs.length) := by
  intro i hi
  rw [own_lt_get _ _ _ _ _ hn, if_pos hi]
theorem own_ofNat_toInt {n : Nat} (h : n < 2147483648) : (Int32.ofNat n).toInt = n := Int32.toInt_ofNat_of_lt h
theorem own_nlt {a b : Nat} (ha : a < 2147483648) (hb : b < 2147483648) : (Int32.ofNat a < Int32.ofNat b) ↔ a < b := by
  rw [Int32.lt_iff_toInt_lt, own_ofNat_toInt ha, own_ofNat_toInt hb]; omega
theorem own_neq {a b : Nat} (ha : a < 2147483648) (hb : b < 2147483648) : (Int32.ofNat a = Int32.ofNat b) ↔ a = b := by
  rw [← Int32.toInt_inj, own_ofNat_toInt ha, own_ofNat_toInt hb]; omega
theorem own_nn {a : Nat} (ha : a < 2147483648) : ¬ Int32.ofNat a < 0 := by
  rw [Int32.lt_iff_toInt_lt, own_ofNat_toInt ha]; show ¬ (a : Int) < 0; omega
theorem own_clamp {a : Nat} (ha : a < 2147483648) : (Int32.ofNat a).toNatClampNeg = a := by
  rw [Int32.toNatClampNeg, own_ofNat_toInt ha]; rfl
theorem own_inc (c : Nat) : Int32.ofNat c + 1 = Int32.ofNat (c + 1) := by
  rw [Int32.ofNat_add]; rfl
def own_minJ (a b : Int64) : Int64 := if b < a then b else a
def own_maxI (a b : Int32) : Int32 := if a < b then b else a
def own_doubled (n : Int32) : Int32 := (own_minJ ((2 : Int64) * n.toInt64) (2147483639 : Int64)).toInt32
def own_fits (v : Int64) : Int32 := if v.toInt32.toInt64 = v then 1 else 0
theorem own_cap (n : Nat) (h : n < 9) : own_maxI (16 : Int32) (own_doubled (Int32.ofNat n)) = (16 : Int32) := by
  have k : ∀ m : Fin 9, own_maxI (16 : Int32) (own_doubled (Int32.ofNat m.1)) = (16 : Int32) := by decide
  exact k ⟨n, h⟩
theorem own_fits_y {v : Int64} (h : ¬ own_fits v = 0) : v.toInt32.toInt64 = v := by
  unfold own_fits at h; by_cases q : v.toInt32.toInt64 = v
  · exact q
  · rw [if_neg q] at h; exact absurd rfl h
theorem own_n16 {n : Nat} (h : n < 16) : ¬ Int32.ofNat n = (16 : Int32) := fun q => by
  have := (own_neq (a := n) (b := 16) (by omega) (by omega)).mp q; omega
theorem own_l16 {n : Nat} (h : n < 16) : Int32.ofNat n < (16 : Int32) := (own_nlt (a := n) (b := 16) (by omega) (by omega)).mpr h
theorem own_n0 {n : Nat} (h : n < 16) (q : Int32.ofNat n = (0 : Int32)) : n = 0 := (own_neq (a := n) (b := 0) (by omega) (by omega)).mp q
section Col
variable {Z : State} {h : Heap} {a : Addr} {n0 : Nat} {xs : List Int64}
def own_Csh (Z : State) (h : Heap) (a : Addr) (xs : List Int64) : Prop := ∃ sh : Int64, Fld Z h a "com/example/restate/restate/model/LongColumn" "shared" "J" (.long sh) ∧ Fld Z h a "com/example/restate/restate/model/LongColumn" "ints" "[I" .null ∧ Fld Z h a "com/example/restate/restate/model/LongColumn" "longs" "[J" .null ∧ ∀ x ∈ xs, x = sh
def own_Cin (Z : State) (h : Heap) (a : Addr) (n0 : Nat) (xs : List Int64) : Prop := ∃ (sh : Int64) (b : Addr) (k : ClassId) (vs : List Value), Fld Z h a "com/example/restate/restate/model/LongColumn" "shared" "J" (.long sh) ∧ Fld Z h a "com/example/restate/restate/model/LongColumn" "ints" "[I" (.ref b) ∧ Fld Z h a "com/example/restate/restate/model/LongColumn" "longs" "[J" .null ∧ a ≠ b ∧ n0 ≤ b ∧ Arv Z h b k .int (16 : Int32) vs (.int (0 : Int32)) ∧ vs.length = 16 ∧ own_Rin xs vs
def own_Clo (Z : State) (h : Heap) (a : Addr) (n0 : Nat) (xs : List Int64) : Prop := ∃ (sh : Int64) (b : Addr) (k : ClassId) (vs : List Value), Fld Z h a "com/example/restate/restate/model/LongColumn" "shared" "J" (.long sh) ∧ Fld Z h a "com/example/restate/restate/model/LongColumn" "ints" "[I" .null ∧ Fld Z h a "com/example/restate/restate/model/LongColumn" "longs" "[J" (.ref b) ∧ a ≠ b ∧ n0 ≤ b ∧ Arv Z h b k .long (16 : Int32) vs (.long (0 : Int64)) ∧ vs.length = 16 ∧ own_Rlo xs vs
def own_Col (Z : State) (h : Heap) (a : Addr) (n0 : Nat) (xs : List Int64) : Prop := Exa Z h a "com/example/restate/restate/model/LongColumn" ∧ Fld Z h a "com/example/restate/restate/model/LongColumn" "size" "I" (.int (Int32.ofNat xs.length)) ∧ (own_Csh Z h a xs ∨ own_Cin Z h a n0 xs ∨ own_Clo Z h a n0 xs)
theorem own_szc {q : Int64} (F : Fld Z h a "com/example/restate/restate/model/LongColumn" "size" "I" (.int (Int32.ofNat xs.length + (1 : Int32)))) : Fld Z h a "com/example/restate/restate/model/LongColumn" "size" "I" (.int (Int32.ofNat (xs ++ [q]).length)) := by
  rw [own_inc] at F; rw [List.length_append]; exact F
theorem own_mk_sh {q : Int64} (E : Exa Z h a "com/example/restate/restate/model/LongColumn") (Fs : Fld Z h a "com/example/restate/restate/model/LongColumn" "size" "I" (.int (Int32.ofNat xs.length + (1 : Int32)))) (Fh : Fld Z h a "com/example/restate/restate/model/LongColumn" "shared" "J" (.long q)) (Fi : Fld Z h a "com/example/restate/restate/model/LongColumn" "ints" "[I" .null) (Fl : Fld Z h a "com/example/restate/restate/model/LongColumn" "longs" "[J" .null) (hx : ∀ x ∈ xs, x = q) : own_Col Z h a n0 (xs ++ [q]) :=
  ⟨E, own_szc Fs, Or.inl ⟨q, Fh, Fi, Fl, fun x hm => (List.mem_append.mp hm).elim (hx x) (fun u => List.mem_singleton.mp u)⟩⟩
theorem own_mk_in {q sh : Int64} {b : Addr} {k : ClassId} {vs : List Value} (E : Exa Z h a "com/example/restate/restate/model/LongColumn") (Fs : Fld Z h a "com/example/restate/restate/model/LongColumn" "size" "I" (.int (Int32.ofNat xs.length + (1 : Int32)))) (Fh : Fld Z h a "com/example/restate/restate/model/LongColumn" "shared" "J" (.long sh)) (Fi : Fld Z h a "com/example/restate/restate/model/LongColumn" "ints" "[I" (.ref b)) (Fl : Fld Z h a "com/example/restate/restate/model/LongColumn" "longs" "[J" .null) (ne : a ≠ b) (ge : n0 ≤ b)
    (A : Arv Z h b k .int (16 : Int32) vs (.int (0 : Int32))) (hl : vs.length = 16) (hR : own_Rin (xs ++ [q]) vs) : own_Col Z h a n0 (xs ++ [q]) :=
  ⟨E, own_szc Fs, Or.inr (Or.inl ⟨sh, b, k, vs, Fh, Fi, Fl, ne, ge, A, hl, hR⟩)⟩
theorem own_mk_lo {q sh : Int64} {b : Addr} {k : ClassId} {vs : List Value} (E : Exa Z h a "com/example/restate/restate/model/LongColumn") (Fs : Fld Z h a "com/example/restate/restate/model/LongColumn" "size" "I" (.int (Int32.ofNat xs.length + (1 : Int32)))) (Fh : Fld Z h a "com/example/restate/restate/model/LongColumn" "shared" "J" (.long sh)) (Fi : Fld Z h a "com/example/restate/restate/model/LongColumn" "ints" "[I" .null) (Fl : Fld Z h a "com/example/restate/restate/model/LongColumn" "longs" "[J" (.ref b)) (ne : a ≠ b) (ge : n0 ≤ b)
    (A : Arv Z h b k .long (16 : Int32) vs (.long (0 : Int64))) (hl : vs.length = 16) (hR : own_Rlo (xs ++ [q]) vs) : own_Col Z h a n0 (xs ++ [q]) :=
  ⟨E, own_szc Fs, Or.inr (Or.inr ⟨sh, b, k, vs, Fh, Fi, Fl, ne, ge, A, hl, hR⟩)⟩
theorem own_mk_nil (E : Exa Z h a "com/example/restate/restate/model/LongColumn") (Fs : Fld Z h a "com/example/restate/restate/model/LongColumn" "size" "I" (.int (0 : Int32))) (Fh : Fld Z h a "com/example/restate/restate/model/LongColumn" "shared" "J" (.long (0 : Int64))) (Fi : Fld Z h a "com/example/restate/restate/model/LongColumn" "ints" "[I" .null) (Fl : Fld Z h a "com/example/restate/restate/model/LongColumn" "longs" "[J" .null) : own_Col Z h a n0 [] :=
  ⟨E, Fs, Or.inl ⟨0, Fh, Fi, Fl, fun x hm => nomatch hm⟩⟩
end Col
def own_QJ (r : Int64) (h0 : Heap) (n0 : Nat) (v : Option Value) (h : Heap) (L : List Loc) : Prop := v = some (.long r) ∧ Fr n0 L ∧ h = h0
def own_QAI (Z : State) (a0 : Addr) (p1 : Int32) (n : Nat) (sh : Int64) (h0 : Heap) (n0 : Nat) (v : Option Value) (h : Heap) (L : List Loc) : Prop := v = none ∧ Fr n0 L ∧ Keep h0 h [a0] ∧ Fld Z h a0 "com/example/restate/restate/model/LongColumn" "size" "I" (.int (Int32.ofNat n)) ∧ Fld Z h a0 "com/example/restate/restate/model/LongColumn" "shared" "J" (.long sh) ∧ Fld Z h a0 "com/example/restate/restate/model/LongColumn" "longs" "[J" .null ∧
  ∃ (b : Addr) (k : ClassId), Fld Z h a0 "com/example/restate/restate/model/LongColumn" "ints" "[I" (.ref b) ∧ a0 ≠ b ∧ n0 ≤ b ∧ Arv Z h b k .int (16 : Int32) ((own_lt (fun _ => Value.int sh.toInt32) (List.replicate 16 (.int (0 : Int32))) n).set n (.int p1)) (.int (0 : Int32))
def own_QAL (Z : State) (a0 : Addr) (q1 : Int64) (n : Nat) (sh : Int64) (f : Nat → Int64) (h0 : Heap) (n0 : Nat) (v : Option Value) (h : Heap) (L : List Loc) : Prop := v = none ∧ Fr n0 L ∧ Keep h0 h [a0] ∧ Fld Z h a0 "com/example/restate/restate/model/LongColumn" "size" "I" (.int (Int32.ofNat n)) ∧ Fld Z h a0 "com/example/restate/restate/model/LongColumn" "shared" "J" (.long sh) ∧ Fld Z h a0 "com/example/restate/restate/model/LongColumn" "ints" "[I" .null ∧
  ∃ (b : Addr) (k : ClassId), Fld Z h a0 "com/example/restate/restate/model/LongColumn" "longs" "[J" (.ref b) ∧ a0 ≠ b ∧ n0 ≤ b ∧ Arv Z h b k .long (16 : Int32) ((own_lt (fun i => Value.long (f i)) (List.replicate 16 (.long (0 : Int64))) n).set n (.long q1)) (.long (0 : Int64))
def own_QAdd (Z : State) (a0 : Addr) (xs : List Int64) (q1 : Int64) (h0 : Heap) (n0 : Nat) (v : Option Value) (h : Heap) (L : List Loc) : Prop := v = none ∧ Fr n0 L ∧ h0.size ≤ h.size ∧ own_Col Z h a0 n0 (xs ++ [q1])
def own_pick (a b c : Int64) (s : Int32) : Int64 := if (s &&& (3 : Int32)) = 0 then a else if (s &&& (3 : Int32)) = 1 then b else if (s &&& (3 : Int32)) = 2 then c else a
theorem own_l16le {n : Nat} (h : n < 16) : ¬ (16 : Int32) < Int32.ofNat n := fun q => by
  have := (own_nlt (a := 16) (b := n) (by omega) (by omega)).mp q; omega
theorem own_d8_0 : decode jdk_29_method_70_code 0 = .ok (.lload_n 0, 1) := by decide +kernel
theorem own_d8_1 : decode jdk_29_method_70_code 1 = .ok (.lload_n 2, 1) := by decide +kernel
theorem own_d8_2 : decode jdk_29_method_70_code 2 = .ok (.lcmp, 1) := by decide +kernel
theorem own_d8_3 : decode jdk_29_method_70_code 3 = .ok (.ifCond .gt 7, 3) := by decide +kernel
theorem own_d8_6 : decode jdk_29_method_70_code 6 = .ok (.lload_n 0, 1) := by decide +kernel
theorem own_d8_7 : decode jdk_29_method_70_code 7 = .ok (.goto 4, 3) := by decide +kernel
theorem own_d8_10 : decode jdk_29_method_70_code 10 = .ok (.lload_n 2, 1) := by decide +kernel
theorem own_d8_11 : decode jdk_29_method_70_code 11 = .ok (.lreturn, 1) := by decide +kernel
theorem own_ef_8 (m : MethodId) (x0 : Int64) (x1 : Int64) : entryFrame m #[(.long x0), (.long x1)] 4 = mkF m 0 #[.val (.long x0), .second, .val (.long x1), .second] [] := by first | (simp [entryFrame, mkF, argsToLocals, Value.category]; done) | rfl
def own_Q_minJ (Z : State) (q0 : Int64) (q1 : Int64) (h0 : Heap) (n0 : Nat) (v : Option Value) (h : Heap) (L : List Loc) : Prop := v = some (.long (own_minJ q0 q1)) ∧ Fr n0 L ∧ h = h0
set_option maxRecDepth 65536 in
set_option maxHeartbeats 40000000 in
theorem own_rm_minJ (l : Launch) (Z : State) (aw : Array Value) (hw : ∀ d ∈ tables_1, d.before aw Z = true) (ws : List Jvm.Cond) (q0 : Int64) (q1 : Int64) (h0 : Heap) (n0 : Nat) (Z0 : n0 ≤ h0.size) :
    MetFree l (⟨"java/lang/Math", "min", "(JJ)J"⟩ : MethodName) (head1 (Jvm.Cond.code (⟨"java/lang/Math", "min", "(JJ)J"⟩ : MethodName) jdk_29_method_70_code 4 (some .long) :: ws) ({ frames := 0, cells := 0, slots := 0, locals := 0 } : Room)) (fun a U => a = #[(.long q0), (.long q1)] ∧ Z.Warmed39 U.vm ∧ U.heap = h0) (fun _ _ _ _ _ => True) (fun _ U o U' => ∃ v L, o = .returned v ∧ own_Q_minJ Z q0 q1 h0 n0 v U'.heap L ∧ FrameEnd U o U' L ({ frames := 0, cells := 0, slots := 0, locals := 0 } : Room).cells ({ frames := 0, cells := 0, slots := 0, locals := 0 } : Room).slots) := by
  refine MetFree.of_bodySF (Jvm.Free.JP.mathPlain rfl (by decide +kernel)) hisR ?_
  intro p e s m args below meth c s₁ Bd hml0 hP hK
  obtain ⟨rfl, hZ, hh⟩ := hP
  have hx := Bd.exec
  have hby := Bd.bytes
  have hlk : meth.locks = false := BodyLoose.notSynchronized Bd
  have hml : c.maxLocals = 4 := hml0
  have hown : s.vm.findClass "java/lang/Math" = some m.cls := findClass_of_methodNamed Bd.named
  have hnm := (name_of_methodNamed Bd.named Bd.method).1
  have X0 : Stand p l e ({ frames := 0, cells := 0, slots := 0, locals := 0 } : Room) s m #[(.long q0), (.long q1)] below meth c s₁ [] 0 0 := Stand.of_body Bd
  have e0 : s₁.heap = h0 := by rw [← hh, Bd.state]; rfl
  have N0 := Fr.nil n0
  have K0 : Keep h0 h0 [] := Keep.refl _ _
  have pre0 : ∀ t, Steps p.tables e below (s₁.setTop (mkF m 0 #[.val (.long q0), .second, .val (.long q1), .second] [])) t → Steps p.tables e below (s₁.setTop (entryFrame m #[(.long q0), (.long q1)] 4)) t := fun t k => castTop (own_ef_8 m q0 q1) k
  show own_Ends p.tables e below (own_Q s (own_Q_minJ Z q0 q1 h0 n0) ({ frames := 0, cells := 0, slots := 0, locals := 0 } : Room).cells ({ frames := 0, cells := 0, slots := 0, locals := 0 } : Room).slots) (s₁.setTop (entryFrame m #[(.long q0), (.long q1)] 4))
  refine own_step pre0 ?_
  show own_Ends p.tables e below _ (s₁.setTop (mkF m 0 #[.val (.long q0), .second, .val (.long q1), .second] []))
  refine own_step (fun _ k => XS.lloadN X0.here hx rfl (hb hby own_d8_0) rfl k) ?_
  show own_Ends p.tables e below _ (s₁.setTop (mkF m 1 #[.val (.long q0), .second, .val (.long q1), .second] [(.long q0)]))
  refine own_step (fun _ k => XS.lloadN X0.here hx rfl (hb hby own_d8_1) rfl k) ?_
  show own_Ends p.tables e below _ (s₁.setTop (mkF m 2 #[.val (.long q0), .second, .val (.long q1), .second] [(.long q1), (.long q0)]))
  refine own_step (fun _ k => XS.lcmp X0.here hx rfl (hb hby own_d8_2) rfl k) ?_
  show own_Ends p.tables e below _ (s₁.setTop (mkF m 3 #[.val (.long q0), .second, .val (.long q1), .second] [(.int (lcmpW q0 q1))]))
  by_cases hc3 : q1 < q0
  · refine own_step (fun _ k => XS.ifYes X0.here hx rfl (pc0 := 3) (pc' := 10) rfl (hb hby own_d8_3) rfl ((if0 _ _).trans (tlt ((own_lc_gt _ _).mpr hc3)).2.2.1) (by decide) (by decide) k) ?_
    show own_Ends p.tables e below _ (s₁.setTop (mkF m 10 #[.val (.long q0), .second, .val (.long q1), .second] []))
    refine own_step (fun _ k => XS.lloadN X0.here hx rfl (hb hby own_d8_10) rfl k) ?_
    show own_Ends p.tables e below _ (s₁.setTop (mkF m 11 #[.val (.long q0), .second, .val (.long q1), .second] [(.long q1)]))
    exact own_retJ X0 hx hlk (by decide) (by decide) Bd.returns (hb hby own_d8_11) (by rw [e0]; exact ⟨by rw [show own_minJ q0 q1 = q1 by simp [own_minJ, hc3]], N0, rfl⟩)
  · refine own_step (fun _ k => XS.ifNo X0.here hx rfl (hb hby own_d8_3) rfl ((if0 _ _).trans (flt (fun q => hc3 ((own_lc_gt _ _).mp q))).2.2.1) k) ?_
    show own_Ends p.tables e below _ (s₁.setTop (mkF m 6 #[.val (.long q0), .second, .val (.long q1), .second] []))
    refine own_step (fun _ k => XS.lloadN X0.here hx rfl (hb hby own_d8_6) rfl k) ?_
    show own_Ends p.tables e below _ (s₁.setTop (mkF m 7 #[.val (.long q0), .second, .val (.long q1), .second] [(.long q0)]))
    refine own_step (fun _ k => XS.goto X0.here hx rfl (pc0 := 7) (pc' := 11) rfl (hb hby own_d8_7) (by decide) (by decide) k) ?_
    show own_Ends p.tables e below _ (s₁.setTop (mkF m 11 #[.val (.long q0), .second, .val (.long q1), .second] [(.long q0)]))
    exact own_retJ X0 hx hlk (by decide) (by decide) Bd.returns (hb hby own_d8_11) (by rw [e0]; exact ⟨by rw [show own_minJ q0 q1 = q0 by simp [own_minJ, hc3]], N0, rfl⟩)
theorem own_d9_0 : decode jdk_29_method_65_code 0 = .ok (.iload_n 0, 1) := by decide +kernel
theorem own_d9_1 : decode jdk_29_method_65_code 1 = .ok (.iload_n 1, 1) := by decide +kernel
theorem own_d9_2 : decode jdk_29_method_65_code 2 = .ok (.if_icmp .lt 7, 3) := by decide +kernel
theorem own_d9_5 : decode jdk_29_method_65_code 5 = .ok (.iload_n 0, 1) := by decide +kernel
theorem own_d9_6 : decode jdk_29_method_65_code 6 = .ok (.goto 4, 3) := by decide +kernel
theorem own_d9_9 : decode jdk_29_method_65_code 9 = .ok (.iload_n 1, 1) := by decide +kernel
theorem own_d9_10 : decode jdk_29_method_65_code 10 = .ok (.ireturn, 1) := by decide +kernel
theorem own_ef_9 (m : MethodId) (x0 : Int32) (x1 : Int32) : entryFrame m #[(.int x0), (.int x1)] 2 = mkF m 0 #[.val (.int x0), .val (.int x1)] [] := by first | (simp [entryFrame, mkF, argsToLocals, Value.category]; done) | rfl
def own_Q_maxI (Z : State) (p0 : Int32) (p1 : Int32) (h0 : Heap) (n0 : Nat) (v : Option Value) (h : Heap) (L : List Loc) : Prop := v = some (.int (own_maxI p0 p1)) ∧ Fr n0 L ∧ h = h0
set_option maxRecDepth 65536 in
set_option maxHeartbeats 40000000 in
theorem own_rm_maxI (l : Launch) (Z : State) (aw : Array Value) (hw : ∀ d ∈ tables_1, d.before aw Z = true) (ws : List Jvm.Cond) (p0 : Int32) (p1 : Int32) (h0 : Heap) (n0 : Nat) (Z0 : n0 ≤ h0.size) :
    MetFree l (⟨"java/lang/Math", "max", "(II)I"⟩ : MethodName) (head1 (Jvm.Cond.code (⟨"java/lang/Math", "max", "(II)I"⟩ : MethodName) jdk_29_method_65_code 2 (some .int) :: ws) ({ frames := 0, cells := 0, slots := 0, locals := 0 } : Room)) (fun a U => a = #[(.int p0), (.int p1)] ∧ Z.Warmed39 U.vm ∧ U.heap = h0) (fun _ _ _ _ _ => True) (fun _ U o U' => ∃ v L, o = .returned v ∧ own_Q_maxI Z p0 p1 h0 n0 v U'.heap L ∧ FrameEnd U o U' L ({ frames := 0, cells := 0, slots := 0, locals := 0 } : Room).cells ({ frames := 0, cells := 0, slots := 0, locals := 0 } : Room).slots) := by
  refine MetFree.of_bodySF (Jvm.Free.JP.mathPlain rfl (by decide +kernel)) hisR ?_
  intro p e s m args below meth c s₁ Bd hml0 hP hK
  obtain ⟨rfl, hZ, hh⟩ := hP
  have hx := Bd.exec
  have hby := Bd.bytes
  have hlk : meth.locks = false := BodyLoose.notSynchronized Bd
  have hml : c.maxLocals = 2 := hml0
  have hown : s.vm.findClass "java/lang/Math" = some m.cls := findClass_of_methodNamed Bd.named
  have hnm := (name_of_methodNamed Bd.named Bd.method).1
  have X0 : Stand p l e ({ frames := 0, cells := 0, slots := 0, locals := 0 } : Room) s m #[(.int p0), (.int p1)] below meth c s₁ [] 0 0 := Stand.of_body Bd
  have e0 : s₁.heap = h0 := by rw [← hh, Bd.state]; rfl
  have N0 := Fr.nil n0
  have K0 : Keep h0 h0 [] := Keep.refl _ _
  have pre0 : ∀ t, Steps p.tables e below (s₁.setTop (mkF m 0 #[.val (.int p0), .val (.int p1)] [])) t → Steps p.tables e below (s₁.setTop (entryFrame m #[(.int p0), (.int p1)] 2)) t := fun t k => castTop (own_ef_9 m p0 p1) k
  show own_Ends p.tables e below (own_Q s (own_Q_maxI Z p0 p1 h0 n0) ({ frames := 0, cells := 0, slots := 0, locals := 0 } : Room).cells ({ frames := 0, cells := 0, slots := 0, locals := 0 } : Room).slots) (s₁.setTop (entryFrame m #[(.int p0), (.int p1)] 2))
  refine own_step pre0 ?_
  show own_Ends p.tables e below _ (s₁.setTop (mkF m 0 #[.val (.int p0), .val (.int p1)] []))
  refine own_step (fun _ k => XS.iloadN X0.here hx rfl (hb hby own_d9_0) rfl k) ?_
  show own_Ends p.tables e below _ (s₁.setTop (mkF m 1 #[.val (.int p0), .val (.int p1)] [(.int p0)]))
  refine own_step (fun _ k => XS.iloadN X0.here hx rfl (hb hby own_d9_1) rfl k) ?_
  show own_Ends p.tables e below _ (s₁.setTop (mkF m 2 #[.val (.int p0), .val (.int p1)] [(.int p1), (.int p0)]))
  by_cases hc2 : p0 < p1
  · refine own_step (fun _ k => XS.icmpYes X0.here hx rfl (pc0 := 2) (pc' := 9) rfl (hb hby own_d9_2) rfl (tlt hc2).1 (by decide) (by decide) k) ?_
    show own_Ends p.tables e below _ (s₁.setTop (mkF m 9 #[.val (.int p0), .val (.int p1)] []))
    refine own_step (fun _ k => XS.iloadN X0.here hx rfl (hb hby own_d9_9) rfl k) ?_
    show own_Ends p.tables e below _ (s₁.setTop (mkF m 10 #[.val (.int p0), .val (.int p1)] [(.int p1)]))
    exact own_retI X0 hx hlk (by decide) (by decide) Bd.returns (hb hby own_d9_10) (by rw [e0]; exact ⟨by rw [show own_maxI p0 p1 = p1 by simp [own_maxI, hc2]], N0, rfl⟩)
  · refine own_step (fun _ k => XS.icmpNo X0.here hx rfl (hb hby own_d9_2) rfl (flt hc2).1 k) ?_
    show own_Ends p.tables e below _ (s₁.setTop (mkF m 5 #[.val (.int p0), .val (.int p1)] []))
    refine own_step (fun _ k => XS.iloadN X0.here hx rfl (hb hby own_d9_5) rfl k) ?_
    show own_Ends p.tables e below _ (s₁.setTop (mkF m 6 #[.val (.int p0), .val (.int p1)] [(.int p0)]))
    refine own_step (fun _ k => XS.goto X0.here hx rfl (pc0 := 6) (pc' := 10) rfl (hb hby own_d9_6) (by decide) (by decide) k) ?_
    show own_Ends p.tables e below _ (s₁.setTop (mkF m 10 #[.val (.int p0), .val (.int p1)] [(.int p0)]))
    exact own_retI X0 hx hlk (by decide) (by decide) Bd.returns (hb hby own_d9_10) (by rw [e0]; exact ⟨by rw [show own_maxI p0 p1 = p0 by simp [own_maxI, hc2]], N0, rfl⟩)
theorem own_pd0 : parseMethodDescriptor "(JJ)J" = some ⟨[.long, .long], some .long⟩ := by decide +kernel
theorem own_d7_0 : decode prog_45_method_9_code 0 = .ok (.ldc2_w 64, 3) := by decide +kernel
theorem own_d7_3 : decode prog_45_method_9_code 3 = .ok (.iload_n 0, 1) := by decide +kernel
theorem own_d7_4 : decode prog_45_method_9_code 4 = .ok (.i2l, 1) := by decide +kernel
theorem own_d7_5 : decode prog_45_method_9_code 5 = .ok (.lmul, 1) := by decide +kernel
theorem own_d7_6 : decode prog_45_method_9_code 6 = .ok (.ldc2_w 68, 3) := by decide +kernel
theorem own_d7_9 : decode prog_45_method_9_code 9 = .ok (.invokestatic 70, 3) := by decide +kernel
theorem own_d7_12 : decode prog_45_method_9_code 12 = .ok (.l2i, 1) := by decide +kernel
theorem own_d7_13 : decode prog_45_method_9_code 13 = .ok (.ireturn, 1) := by decide +kernel
theorem own_pn0 : plainName "com/example/restate/restate/model/LongColumn" = true := by first | (simp [plainName, overriddenIn]; done) | decide +kernel
theorem own_ef_7 (m : MethodId) (x0 : Int32) : entryFrame m #[(.int x0)] 1 = mkF m 0 #[.val (.int x0)] [] := by first | (simp [entryFrame, mkF, argsToLocals, Value.category]; done) | rfl
def own_Q_doubled (Z : State) (p0 : Int32) (h0 : Heap) (n0 : Nat) (v : Option Value) (h : Heap) (L : List Loc) : Prop := v = some (.int (own_doubled p0)) ∧ Fr n0 L ∧ h = h0
set_option maxRecDepth 65536 in
set_option maxHeartbeats 40000000 in
theorem own_rm_doubled (l : Launch) (Z : State) (aw : Array Value) (hw : ∀ d ∈ tables_1, d.before aw Z = true) (ws : List Jvm.Cond) (p0 : Int32) (h0 : Heap) (n0 : Nat) (Z0 : n0 ≤ h0.size) :
    MetFree l (⟨"com/example/restate/restate/model/LongColumn", "doubled", "(I)I"⟩ : MethodName) (head1 (Jvm.Cond.code (⟨"com/example/restate/restate/model/LongColumn", "doubled", "(I)I"⟩ : MethodName) prog_45_method_9_code 1 (some .int) :: ws) ({ frames := 1, cells := 0, slots := 0, locals := 15 } : Room)) (fun a U => a = #[(.int p0)] ∧ Z.Warmed39 U.vm ∧ U.heap = h0) (fun _ _ _ _ _ => True) (fun _ U o U' => ∃ v L, o = .returned v ∧ own_Q_doubled Z p0 h0 n0 v U'.heap L ∧ FrameEnd U o U' L ({ frames := 1, cells := 0, slots := 0, locals := 15 } : Room).cells ({ frames := 1, cells := 0, slots := 0, locals := 15 } : Room).slots) := by
  refine MetFree.of_bodySF (plainFor_of_name own_pn0) hisR ?_
  intro p e s m args below meth c s₁ Bd hml0 hP hK
  obtain ⟨rfl, hZ, hh⟩ := hP
  have hx := Bd.exec
  have hby := Bd.bytes
  have hlk : meth.locks = false := BodyLoose.notSynchronized Bd
  have hml : c.maxLocals = 1 := hml0
  have hown : s.vm.findClass "com/example/restate/restate/model/LongColumn" = some m.cls := findClass_of_methodNamed Bd.named
  have hnm := (name_of_methodNamed Bd.named Bd.method).1
  have X0 : Stand p l e ({ frames := 1, cells := 0, slots := 0, locals := 15 } : Room) s m #[(.int p0)] below meth c s₁ [] 0 0 := Stand.of_body Bd
  have e0 : s₁.heap = h0 := by rw [← hh, Bd.state]; rfl
  have N0 := Fr.nil n0
  have K0 : Keep h0 h0 [] := Keep.refl _ _
  have pre0 : ∀ t, Steps p.tables e below (s₁.setTop (mkF m 0 #[.val (.int p0)] [])) t → Steps p.tables e below (s₁.setTop (entryFrame m #[(.int p0)] 1)) t := fun t k => castTop (own_ef_7 m p0) k
  show own_Ends p.tables e below (own_Q s (own_Q_doubled Z p0 h0 n0) ({ frames := 1, cells := 0, slots := 0, locals := 15 } : Room).cells ({ frames := 1, cells := 0, slots := 0, locals := 15 } : Room).slots) (s₁.setTop (entryFrame m #[(.int p0)] 1))
  refine own_step pre0 ?_
  show own_Ends p.tables e below _ (s₁.setTop (mkF m 0 #[.val (.int p0)] []))
  refine own_step (fun _ k => X0.ldc2Long hx hown (mvT hZ (hw _ (List.mem_of_getElem? (i := 36) rfl))) (g := (mkF m 0 #[.val (.int p0)] [])) rfl (hb hby own_d7_0) _ k) ?_
  show own_Ends p.tables e below _ (s₁.setTop (mkF m 3 #[.val (.int p0)] [(.long (2 : Int64))]))
  refine own_step (fun _ k => XS.iloadN X0.here hx rfl (hb hby own_d7_3) rfl k) ?_
  show own_Ends p.tables e below _ (s₁.setTop (mkF m 4 #[.val (.int p0)] [(.int p0), (.long (2 : Int64))]))
  refine own_step (fun _ k => XS.i2l X0.here hx rfl (hb hby own_d7_4) rfl k) ?_
  show own_Ends p.tables e below _ (s₁.setTop (mkF m 5 #[.val (.int p0)] [(.long (p0.toInt64)), (.long (2 : Int64))]))
  refine own_step (fun _ k => XS.lmul X0.here hx rfl (hb hby own_d7_5) rfl k) ?_
  show own_Ends p.tables e below _ (s₁.setTop (mkF m 6 #[.val (.int p0)] [(.long ((2 : Int64) * (p0.toInt64)))]))
  refine own_step (fun _ k => X0.ldc2Long hx hown (mvT hZ (hw _ (List.mem_of_getElem? (i := 37) rfl))) (g := (mkF m 6 #[.val (.int p0)] [(.long ((2 : Int64) * (p0.toInt64)))])) rfl (hb hby own_d7_6) _ k) ?_
  show own_Ends p.tables e below _ (s₁.setTop (mkF m 9 #[.val (.int p0)] [(.long (2147483639 : Int64)), (.long ((2 : Int64) * (p0.toInt64)))]))
  obtain ⟨_, _, ⟨T1, L1, k1, n1⟩, -, X1, ⟨Lc1, hQ1, l1, y1, z1⟩, st1⟩ := Jvm.LawKit.callS X0 hx (y := (⟨"java/lang/Math", "min", "(JJ)J"⟩ : MethodName)) hown (mvT hZ (hw _ (List.mem_of_getElem? (i := 38) rfl))) (mvT hZ (hw _ (List.mem_of_getElem? (i := 39) rfl))) (mvT hZ (hw _ (List.mem_of_getElem? (i := 40) rfl))) (mvT hZ (hw _ (List.mem_of_getElem? (i := 41) rfl))) (by decide) (backOf (W := 0) (own_rm_minJ l Z aw hw [] ((2 : Int64) * (p0.toInt64)) (2147483639 : Int64) h0 n0 Z0 ) hZ (hw _ (List.mem_of_getElem? (i := 41) rfl)) (hw _ (List.mem_of_getElem? (i := 40) rfl)) (by decide) (by decide)) (g := (mkF m 9 #[.val (.int p0)] [(.long (2147483639 : Int64)), (.long ((2 : Int64) * (p0.toInt64)))])) rfl (by rw [hml]; rfl) (argsL := [(.long ((2 : Int64) * (p0.toInt64))), (.long (2147483639 : Int64))]) (rest := []) (lenOf own_pd0 rfl) rfl (by show 2 * 0 + _ ≤ _; exact Nat.le_of_eq rfl) (hb hby own_d7_9) (fun _ _ => ⟨rfl, e0, (by decide : 0 + 0 ≤ _), (by decide : 0 + 0 ≤ _)⟩)
  dsimp only [Pt.U, Pt.locs, Pt.cells, Pt.slots] at X1 l1 y1 z1 st1 hQ1
  subst l1 y1 z1
  obtain ⟨rfl, N1q, e1⟩ := hQ1
  have N_1 := Fr.app N0 N1q
  refine own_step st1 ?_
  show own_Ends p.tables e below _ (T1.setTop (mkF m 12 #[.val (.int p0)] [(.long (own_minJ ((2 : Int64) * (p0.toInt64)) (2147483639 : Int64)))]))
  refine own_step (fun _ k => XS.l2i X1.here hx rfl (hb hby own_d7_12) rfl k) ?_
  show own_Ends p.tables e below _ (T1.setTop (mkF m 13 #[.val (.int p0)] [(.int ((own_minJ ((2 : Int64) * (p0.toInt64)) (2147483639 : Int64)).toInt32))]))
  exact own_retI X1 hx hlk (by decide) (by decide) Bd.returns (hb hby own_d7_13) (by rw [e1]; exact ⟨rfl, N_1, rfl⟩)
theorem own_d5_0 : decode prog_45_method_4_code 0 = .ok (.lload_n 0, 1) := by decide +kernel
theorem own_d5_1 : decode prog_45_method_4_code 1 = .ok (.l2i, 1) := by decide +kernel
theorem own_d5_2 : decode prog_45_method_4_code 2 = .ok (.i2l, 1) := by decide +kernel
theorem own_d5_3 : decode prog_45_method_4_code 3 = .ok (.lload_n 0, 1) := by decide +kernel
theorem own_d5_4 : decode prog_45_method_4_code 4 = .ok (.lcmp, 1) := by decide +kernel
theorem own_d5_5 : decode prog_45_method_4_code 5 = .ok (.ifCond .ne 7, 3) := by decide +kernel
theorem own_d5_8 : decode prog_45_method_4_code 8 = .ok (.iconst 1, 1) := by decide +kernel
theorem own_d5_9 : decode prog_45_method_4_code 9 = .ok (.goto 4, 3) := by decide +kernel
theorem own_d5_12 : decode prog_45_method_4_code 12 = .ok (.iconst 0, 1) := by decide +kernel
theorem own_d5_13 : decode prog_45_method_4_code 13 = .ok (.ireturn, 1) := by decide +kernel
theorem own_ef_5 (m : MethodId) (x0 : Int64) : entryFrame m #[(.long x0)] 2 = mkF m 0 #[.val (.long x0), .second] [] := by first | (simp [entryFrame, mkF, argsToLocals, Value.category]; done) | rfl
def own_Q_fitsInt (Z : State) (q0 : Int64) (h0 : Heap) (n0 : Nat) (v : Option Value) (h : Heap) (L : List Loc) : Prop := v = some (.int (own_fits q0)) ∧ Fr n0 L ∧ h = h0
set_option maxRecDepth 65536 in
set_option maxHeartbeats 40000000 in
theorem own_rm_fitsInt (l : Launch) (Z : State) (aw : Array Value) (hw : ∀ d ∈ tables_1, d.before aw Z = true) (ws : List Jvm.Cond) (q0 : Int64) (h0 : Heap) (n0 : Nat) (Z0 : n0 ≤ h0.size) :
    MetFree l (⟨"com/example/restate/restate/model/LongColumn", "fitsInt", "(J)Z"⟩ : MethodName) (head1 (Jvm.Cond.code (⟨"com/example/restate/restate/model/LongColumn", "fitsInt", "(J)Z"⟩ : MethodName) prog_45_method_4_code 2 (some .boolean) :: ws) ({ frames := 0, cells := 0, slots := 0, locals := 0 } : Room)) (fun a U => a = #[(.long q0)] ∧ Z.Warmed39 U.vm ∧ U.heap = h0) (fun _ _ _ _ _ => True) (fun _ U o U' => ∃ v L, o = .returned v ∧ own_Q_fitsInt Z q0 h0 n0 v U'.heap L ∧ FrameEnd U o U' L ({ frames := 0, cells := 0, slots := 0, locals := 0 } : Room).cells ({ frames := 0, cells := 0, slots := 0, locals := 0 } : Room).slots) := by
  refine MetFree.of_bodySF (plainFor_of_name own_pn0) hisR ?_
  intro p e s m args below meth c s₁ Bd hml0 hP hK
  obtain ⟨rfl, hZ, hh⟩ := hP
  have hx := Bd.exec
  have hby := Bd.bytes
  have hlk : meth.locks = false := BodyLoose.notSynchronized Bd
  have hml : c.maxLocals = 2 := hml0
  have hown : s.vm.findClass "com/example/restate/restate/model/LongColumn" = some m.cls := findClass_of_methodNamed Bd.named
  have hnm := (name_of_methodNamed Bd.named Bd.method).1
  have X0 : Stand p l e ({ frames := 0, cells := 0, slots := 0, locals := 0 } : Room) s m #[(.long q0)] below meth c s₁ [] 0 0 := Stand.of_body Bd
  have e0 : s₁.heap = h0 := by rw [← hh, Bd.state]; rfl
  have N0 := Fr.nil n0
  have K0 : Keep h0 h0 [] := Keep.refl _ _
  have pre0 : ∀ t, Steps p.tables e below (s₁.setTop (mkF m 0 #[.val (.long q0), .second] [])) t → Steps p.tables e below (s₁.setTop (entryFrame m #[(.long q0)] 2)) t := fun t k => castTop (own_ef_5 m q0) k
  show own_Ends p.tables e below (own_Q s (own_Q_fitsInt Z q0 h0 n0) ({ frames := 0, cells := 0, slots := 0, locals := 0 } : Room).cells ({ frames := 0, cells := 0, slots := 0, locals := 0 } : Room).slots) (s₁.setTop (entryFrame m #[(.long q0)] 2))
  refine own_step pre0 ?_
  show own_Ends p.tables e below _ (s₁.setTop (mkF m 0 #[.val (.long q0), .second] []))
  refine own_step (fun _ k => XS.lloadN X0.here hx rfl (hb hby own_d5_0) rfl k) ?_
  show own_Ends p.tables e below _ (s₁.setTop (mkF m 1 #[.val (.long q0), .second] [(.long q0)]))
  refine own_step (fun _ k => XS.l2i X0.here hx rfl (hb hby own_d5_1) rfl k) ?_
  show own_Ends p.tables e below _ (s₁.setTop (mkF m 2 #[.val (.long q0), .second] [(.int (q0.toInt32))]))
  refine own_step (fun _ k => XS.i2l X0.here hx rfl (hb hby own_d5_2) rfl k) ?_
  show own_Ends p.tables e below _ (s₁.setTop (mkF m 3 #[.val (.long q0), .second] [(.long ((q0.toInt32).toInt64))]))
  refine own_step (fun _ k => XS.lloadN X0.here hx rfl (hb hby own_d5_3) rfl k) ?_
  show own_Ends p.tables e below _ (s₁.setTop (mkF m 4 #[.val (.long q0), .second] [(.long q0), (.long ((q0.toInt32).toInt64))]))
  refine own_step (fun _ k => XS.lcmp X0.here hx rfl (hb hby own_d5_4) rfl k) ?_
  show own_Ends p.tables e below _ (s₁.setTop (mkF m 5 #[.val (.long q0), .second] [(.int (lcmpW ((q0.toInt32).toInt64) q0))]))
  by_cases hc5 : ((q0.toInt32).toInt64) = q0
  · refine own_step (fun _ k => XS.ifNo X0.here hx rfl (hb hby own_d5_5) rfl ((if0 _ _).trans (teq ((own_lc_eq _ _).mpr hc5)).2) k) ?_
    show own_Ends p.tables e below _ (s₁.setTop (mkF m 8 #[.val (.long q0), .second] []))
    refine own_step (fun _ k => XS.iconst X0.here hx rfl (hb hby own_d5_8) k) ?_
    show own_Ends p.tables e below _ (s₁.setTop (mkF m 9 #[.val (.long q0), .second] [(.int (1 : Int32))]))
    refine own_step (fun _ k => XS.goto X0.here hx rfl (pc0 := 9) (pc' := 13) rfl (hb hby own_d5_9) (by decide) (by decide) k) ?_
    show own_Ends p.tables e below _ (s₁.setTop (mkF m 13 #[.val (.long q0), .second] [(.int (1 : Int32))]))
    exact own_retN X0 hx hlk (by decide) (by decide) (t := .boolean) Bd.returns (by simp) (hb hby own_d5_13) (by rw [e0]; exact ⟨by rw [show own_fits q0 = (1 : Int32) by simp [own_fits, hc5]]; rfl, N0, rfl⟩)
  · refine own_step (fun _ k => XS.ifYes X0.here hx rfl (pc0 := 5) (pc' := 12) rfl (hb hby own_d5_5) rfl ((if0 _ _).trans (feq (fun q => hc5 ((own_lc_eq _ _).mp q))).2) (by decide) (by decide) k) ?_
    show own_Ends p.tables e below _ (s₁.setTop (mkF m 12 #[.val (.long q0), .second] []))
    refine own_step (fun _ k => XS.iconst X0.here hx rfl (hb hby own_d5_12) k) ?_
    show own_Ends p.tables e below _ (s₁.setTop (mkF m 13 #[.val (.long q0), .second] [(.int (0 : Int32))]))
    exact own_retN X0 hx hlk (by decide) (by decide) (t := .boolean) Bd.returns (by simp) (hb hby own_d5_13) (by rw [e0]; exact ⟨by rw [show own_fits q0 = (0 : Int32) by simp [own_fits, hc5]]; rfl, N0, rfl⟩)
theorem own_pd1 : parseMethodDescriptor "()V" = some ⟨[], none⟩ := by decide +kernel
theorem own_d2_0 : decode prog_45_method_1_code 0 = .ok (.aload_n 0, 1) := by decide +kernel
theorem own_d2_1 : decode prog_45_method_1_code 1 = .ok (.invokespecial 1, 3) := by decide +kernel
theorem own_d2_4 : decode prog_45_method_1_code 4 = .ok (.return_, 1) := by decide +kernel
theorem own_ef_2 (m : MethodId) (x0 : Addr) : entryFrame m #[(.ref x0)] 1 = mkF m 0 #[.val (.ref x0)] [] := by first | (simp [entryFrame, mkF, argsToLocals, Value.category]; done) | rfl
def own_Q_init (Z : State) (a0 : Addr) (h0 : Heap) (n0 : Nat) (v : Option Value) (h : Heap) (L : List Loc) : Prop := v = none ∧ Fr n0 L ∧ h = h0
set_option maxRecDepth 65536 in
set_option maxHeartbeats 40000000 in
theorem own_rm_init (l : Launch) (Z : State) (aw : Array Value) (hw : ∀ d ∈ tables_1, d.before aw Z = true) (ws : List Jvm.Cond) (a0 : Addr) (h0 : Heap) (n0 : Nat) (Z0 : n0 ≤ h0.size) :
    MetFree l (⟨"com/example/restate/restate/model/LongColumn", "<init>", "()V"⟩ : MethodName) (head1 (Jvm.Cond.code (⟨"com/example/restate/restate/model/LongColumn", "<init>", "()V"⟩ : MethodName) prog_45_method_1_code 1 none :: ws) ({ frames := 1, cells := 0, slots := 0, locals := 12 } : Room)) (fun a U => a = #[(.ref a0)] ∧ Z.Warmed39 U.vm ∧ U.heap = h0) (fun _ _ _ _ _ => True) (fun _ U o U' => ∃ v L, o = .returned v ∧ own_Q_init Z a0 h0 n0 v U'.heap L ∧ FrameEnd U o U' L ({ frames := 1, cells := 0, slots := 0, locals := 12 } : Room).cells ({ frames := 1, cells := 0, slots := 0, locals := 12 } : Room).slots) := by
  refine MetFree.of_bodySF (plainFor_of_name own_pn0) hisR ?_
  intro p e s m args below meth c s₁ Bd hml0 hP hK
  obtain ⟨rfl, hZ, hh⟩ := hP
  have hx := Bd.exec
  have hby := Bd.bytes
  have hlk : meth.locks = false := BodyLoose.notSynchronized Bd
  have hml : c.maxLocals = 1 := hml0
  have hown : s.vm.findClass "com/example/restate/restate/model/LongColumn" = some m.cls := findClass_of_methodNamed Bd.named
  have hnm := (name_of_methodNamed Bd.named Bd.method).1
  have X0 : Stand p l e ({ frames := 1, cells := 0, slots := 0, locals := 12 } : Room) s m #[(.ref a0)] below meth c s₁ [] 0 0 := Stand.of_body Bd
  have e0 : s₁.heap = h0 := by rw [← hh, Bd.state]; rfl
  have N0 := Fr.nil n0
  have K0 : Keep h0 h0 [] := Keep.refl _ _
  have pre0 : ∀ t, Steps p.tables e below (s₁.setTop (mkF m 0 #[.val (.ref a0)] [])) t → Steps p.tables e below (s₁.setTop (entryFrame m #[(.ref a0)] 1)) t := fun t k => castTop (own_ef_2 m a0) k
  show own_Ends p.tables e below (own_Q s (own_Q_init Z a0 h0 n0) ({ frames := 1, cells := 0, slots := 0, locals := 12 } : Room).cells ({ frames := 1, cells := 0, slots := 0, locals := 12 } : Room).slots) (s₁.setTop (entryFrame m #[(.ref a0)] 1))
  refine own_step pre0 ?_
  show own_Ends p.tables e below _ (s₁.setTop (mkF m 0 #[.val (.ref a0)] []))
  refine own_step (fun _ k => XS.aloadN X0.here hx rfl (hb hby own_d2_0) rfl rfl k) ?_
  show own_Ends p.tables e below _ (s₁.setTop (mkF m 1 #[.val (.ref a0)] [(.ref a0)]))
  obtain ⟨T1, X1, e1, st1⟩ := initO X0 hx hZ hown (hw _ (List.mem_of_getElem? (i := 10) rfl)) (hw _ (List.mem_of_getElem? (i := 11) rfl)) (hw _ (List.mem_of_getElem? (i := 12) rfl)) e0 (g := (mkF m 1 #[.val (.ref a0)] [(.ref a0)])) rfl (by rw [hml]; rfl) rfl (hb hby own_d2_1) (by decide) (W := 0) (by show 2 * 0 + _ ≤ _; exact Nat.le_of_eq rfl) (by decide)
  refine own_step st1 ?_
  show own_Ends p.tables e below _ (T1.setTop (mkF m 4 #[.val (.ref a0)] []))
  exact own_ret0 X1 hx hlk (by decide) (by decide) Bd.returns (hb hby own_d2_4) (by rw [e1]; exact ⟨rfl, N0, rfl⟩)
theorem own_d11_0 : decode prog_45_method_2_code 0 = .ok (.aload_n 0, 1) := by decide +kernel
theorem own_d11_1 : decode prog_45_method_2_code 1 = .ok (.getfield 7, 3) := by decide +kernel
theorem own_d11_4 : decode prog_45_method_2_code 4 = .ok (.ireturn, 1) := by decide +kernel
theorem own_ef_11 (m : MethodId) (x0 : Addr) : entryFrame m #[(.ref x0)] 1 = mkF m 0 #[.val (.ref x0)] [] := by first | (simp [entryFrame, mkF, argsToLocals, Value.category]; done) | rfl
def own_Q_size (Z : State) (a0 : Addr) (z : Int32) (h0 : Heap) (n0 : Nat) (v : Option Value) (h : Heap) (L : List Loc) : Prop := v = some (.int z) ∧ Fr n0 L ∧ h = h0
set_option maxRecDepth 65536 in
set_option maxHeartbeats 40000000 in
theorem own_rm_size (l : Launch) (Z : State) (aw : Array Value) (hw : ∀ d ∈ tables_1, d.before aw Z = true) (ws : List Jvm.Cond) (a0 : Addr) (z : Int32) (h0 : Heap) (n0 : Nat) (Z0 : n0 ≤ h0.size) (F_size : Fld Z h0 a0 "com/example/restate/restate/model/LongColumn" "size" "I" (.int z)) :
    MetFree l (⟨"com/example/restate/restate/model/LongColumn", "size", "()I"⟩ : MethodName) (head1 (Jvm.Cond.code (⟨"com/example/restate/restate/model/LongColumn", "size", "()I"⟩ : MethodName) prog_45_method_2_code 1 (some .int) :: ws) ({ frames := 0, cells := 0, slots := 0, locals := 0 } : Room)) (fun a U => a = #[(.ref a0)] ∧ Z.Warmed39 U.vm ∧ U.heap = h0) (fun _ _ _ _ _ => True) (fun _ U o U' => ∃ v L, o = .returned v ∧ own_Q_size Z a0 z h0 n0 v U'.heap L ∧ FrameEnd U o U' L ({ frames := 0, cells := 0, slots := 0, locals := 0 } : Room).cells ({ frames := 0, cells := 0, slots := 0, locals := 0 } : Room).slots) := by
  refine MetFree.of_bodySF (plainFor_of_name own_pn0) hisR ?_
  intro p e s m args below meth c s₁ Bd hml0 hP hK
  obtain ⟨rfl, hZ, hh⟩ := hP
  have hx := Bd.exec
  have hby := Bd.bytes
  have hlk : meth.locks = false := BodyLoose.notSynchronized Bd
  have hml : c.maxLocals = 1 := hml0
  have hown : s.vm.findClass "com/example/restate/restate/model/LongColumn" = some m.cls := findClass_of_methodNamed Bd.named
  have hnm := (name_of_methodNamed Bd.named Bd.method).1
  have X0 : Stand p l e ({ frames := 0, cells := 0, slots := 0, locals := 0 } : Room) s m #[(.ref a0)] below meth c s₁ [] 0 0 := Stand.of_body Bd
  have e0 : s₁.heap = h0 := by rw [← hh, Bd.state]; rfl
  have N0 := Fr.nil n0
  have K0 : Keep h0 h0 [] := Keep.refl _ _
  have pre0 : ∀ t, Steps p.tables e below (s₁.setTop (mkF m 0 #[.val (.ref a0)] [])) t → Steps p.tables e below (s₁.setTop (entryFrame m #[(.ref a0)] 1)) t := fun t k => castTop (own_ef_11 m a0) k
  show own_Ends p.tables e below (own_Q s (own_Q_size Z a0 z h0 n0) ({ frames := 0, cells := 0, slots := 0, locals := 0 } : Room).cells ({ frames := 0, cells := 0, slots := 0, locals := 0 } : Room).slots) (s₁.setTop (entryFrame m #[(.ref a0)] 1))
  refine own_step pre0 ?_
  show own_Ends p.tables e below _ (s₁.setTop (mkF m 0 #[.val (.ref a0)] []))
  refine own_step (fun _ k => XS.aloadN X0.here hx rfl (hb hby own_d11_0) rfl rfl k) ?_
  show own_Ends p.tables e below _ (s₁.setTop (mkF m 1 #[.val (.ref a0)] [(.ref a0)]))
  obtain ⟨T1, X1, e1, st1⟩ := getF X0 hx hZ hown (host := "") (Or.inl (hw _ (List.mem_of_getElem? (i := 22) rfl))) Via.refl e0 F_size (g := (mkF m 1 #[.val (.ref a0)] [(.ref a0)])) rfl rfl (hb hby own_d11_1)
  refine own_step st1 ?_
  show own_Ends p.tables e below _ (T1.setTop (mkF m 4 #[.val (.ref a0)] [(.int z)]))
  exact own_retI X1 hx hlk (by decide) (by decide) Bd.returns (hb hby own_d11_4) (by rw [e1]; exact ⟨rfl, N0, rfl⟩)
theorem own_d14_0 : decode jdk_65_method_30_code 0 = .ok (.iload_n 1, 1) := by decide +kernel
theorem own_d14_1 : decode jdk_65_method_30_code 1 = .ok (.iload_n 2, 1) := by decide +kernel
theorem own_d14_2 : decode jdk_65_method_30_code 2 = .ok (.if_icmp .le 44, 3) := by decide +kernel
theorem own_d14_46 : decode jdk_65_method_30_code 46 = .ok (.iload_n 1, 1) := by decide +kernel
theorem own_d14_47 : decode jdk_65_method_30_code 47 = .ok (.ifCond .ge 12, 3) := by decide +kernel
theorem own_d14_59 : decode jdk_65_method_30_code 59 = .ok (.iload_n 2, 1) := by decide +kernel
theorem own_d14_60 : decode jdk_65_method_30_code 60 = .ok (.iload_n 0, 1) := by decide +kernel
theorem own_d14_61 : decode jdk_65_method_30_code 61 = .ok (.if_icmp .le 12, 3) := by decide +kernel
theorem own_d14_73 : decode jdk_65_method_30_code 73 = .ok (.return_, 1) := by decide +kernel
theorem own_pn1 : plainName "java/util/Arrays" = true := by first | (simp [plainName, overriddenIn]; done) | decide +kernel
theorem own_ef_14 (m : MethodId) (x0 : Int32) (x1 : Int32) (x2 : Int32) : entryFrame m #[(.int x0), (.int x1), (.int x2)] 3 = mkF m 0 #[.val (.int x0), .val (.int x1), .val (.int x2)] [] := by first | (simp [entryFrame, mkF, argsToLocals, Value.category]; done) | rfl
def own_Q_rangeCheck (Z : State) (p0 : Int32) (p1 : Int32) (p2 : Int32) (h0 : Heap) (n0 : Nat) (v : Option Value) (h : Heap) (L : List Loc) : Prop := v = none ∧ Fr n0 L ∧ h = h0
set_option maxRecDepth 65536 in
set_option maxHeartbeats 40000000 in
theorem own_rm_rangeCheck (l : Launch) (Z : State) (aw : Array Value) (hw : ∀ d ∈ tables_1, d.before aw Z = true) (ws : List Jvm.Cond) (p0 : Int32) (p1 : Int32) (p2 : Int32) (h0 : Heap) (n0 : Nat) (Z0 : n0 ≤ h0.size) (u1 : ¬ p2 < p1) (u2 : ¬ p1 < 0) (u3 : ¬ p0 < p2) :
    MetFree l (⟨"java/util/Arrays", "rangeCheck", "(III)V"⟩ : MethodName) (head1 (Jvm.Cond.code (⟨"java/util/Arrays", "rangeCheck", "(III)V"⟩ : MethodName) jdk_65_method_30_code 3 none :: ws) ({ frames := 0, cells := 0, slots := 0, locals := 0 } : Room)) (fun a U => a = #[(.int p0), (.int p1), (.int p2)] ∧ Z.Warmed39 U.vm ∧ U.heap = h0) (fun _ _ _ _ _ => True) (fun _ U o U' => ∃ v L, o = .returned v ∧ own_Q_rangeCheck Z p0 p1 p2 h0 n0 v U'.heap L ∧ FrameEnd U o U' L ({ frames := 0, cells := 0, slots := 0, locals := 0 } : Room).cells ({ frames := 0, cells := 0, slots := 0, locals := 0 } : Room).slots) := by
  refine MetFree.of_bodySF (plainFor_of_name own_pn1) hisR ?_
  intro p e s m args below meth c s₁ Bd hml0 hP hK
  obtain ⟨rfl, hZ, hh⟩ := hP
  have hx := Bd.exec
  have hby := Bd.bytes
  have hlk : meth.locks = false := BodyLoose.notSynchronized Bd
  have hml : c.maxLocals = 3 := hml0
  have hown : s.vm.findClass "java/util/Arrays" = some m.cls := findClass_of_methodNamed Bd.named
  have hnm := (name_of_methodNamed Bd.named Bd.method).1
  have X0 : Stand p l e ({ frames := 0, cells := 0, slots := 0, locals := 0 } : Room) s m #[(.int p0), (.int p1), (.int p2)] below meth c s₁ [] 0 0 := Stand.of_body Bd
  have e0 : s₁.heap = h0 := by rw [← hh, Bd.state]; rfl
  have N0 := Fr.nil n0
  have K0 : Keep h0 h0 [] := Keep.refl _ _
  have pre0 : ∀ t, Steps p.tables e below (s₁.setTop (mkF m 0 #[.val (.int p0), .val (.int p1), .val (.int p2)] [])) t → Steps p.tables e below (s₁.setTop (entryFrame m #[(.int p0), (.int p1), (.int p2)] 3)) t := fun t k => castTop (own_ef_14 m p0 p1 p2) k
  show own_Ends p.tables e below (own_Q s (own_Q_rangeCheck Z p0 p1 p2 h0 n0) ({ frames := 0, cells := 0, slots := 0, locals := 0 } : Room).cells ({ frames := 0, cells := 0, slots := 0, locals := 0 } : Room).slots) (s₁.setTop (entryFrame m #[(.int p0), (.int p1), (.int p2)] 3))
  refine own_step pre0 ?_
  show own_Ends p.tables e below _ (s₁.setTop (mkF m 0 #[.val (.int p0), .val (.int p1), .val (.int p2)] []))
  refine own_step (fun _ k => XS.iloadN X0.here hx rfl (hb hby own_d14_0) rfl k) ?_
  show own_Ends p.tables e below _ (s₁.setTop (mkF m 1 #[.val (.int p0), .val (.int p1), .val (.int p2)] [(.int p1)]))
  refine own_step (fun _ k => XS.iloadN X0.here hx rfl (hb hby own_d14_1) rfl k) ?_
  show own_Ends p.tables e below _ (s₁.setTop (mkF m 2 #[.val (.int p0), .val (.int p1), .val (.int p2)] [(.int p2), (.int p1)]))
  refine own_step (fun _ k => XS.icmpYes X0.here hx rfl (pc0 := 2) (pc' := 46) rfl (hb hby own_d14_2) rfl (flt u1).2.2.2 (by decide) (by decide) k) ?_
  show own_Ends p.tables e below _ (s₁.setTop (mkF m 46 #[.val (.int p0), .val (.int p1), .val (.int p2)] []))
  refine own_step (fun _ k => XS.iloadN X0.here hx rfl (hb hby own_d14_46) rfl k) ?_
  show own_Ends p.tables e below _ (s₁.setTop (mkF m 47 #[.val (.int p0), .val (.int p1), .val (.int p2)] [(.int p1)]))
  refine own_step (fun _ k => XS.ifYes X0.here hx rfl (pc0 := 47) (pc' := 59) rfl (hb hby own_d14_47) rfl ((if0 _ _).trans (flt u2).2.1) (by decide) (by decide) k) ?_
  show own_Ends p.tables e below _ (s₁.setTop (mkF m 59 #[.val (.int p0), .val (.int p1), .val (.int p2)] []))
  refine own_step (fun _ k => XS.iloadN X0.here hx rfl (hb hby own_d14_59) rfl k) ?_
  show own_Ends p.tables e below _ (s₁.setTop (mkF m 60 #[.val (.int p0), .val (.int p1), .val (.int p2)] [(.int p2)]))
  refine own_step (fun _ k => XS.iloadN X0.here hx rfl (hb hby own_d14_60) rfl k) ?_
  show own_Ends p.tables e below _ (s₁.setTop (mkF m 61 #[.val (.int p0), .val (.int p1), .val (.int p2)] [(.int p0), (.int p2)]))
  refine own_step (fun _ k => XS.icmpYes X0.here hx rfl (pc0 := 61) (pc' := 73) rfl (hb hby own_d14_61) rfl (flt u3).2.2.2 (by decide) (by decide) k) ?_
  show own_Ends p.tables e below _ (s₁.setTop (mkF m 73 #[.val (.int p0), .val (.int p1), .val (.int p2)] []))
  exact own_ret0 X0 hx hlk (by decide) (by decide) Bd.returns (hb hby own_d14_73) (by rw [e0]; exact ⟨rfl, N0, rfl⟩)
theorem own_pd2 : parseMethodDescriptor "(III)V" = some ⟨[.int, .int, .int], none⟩ := by decide +kernel
theorem own_d13_0 : decode jdk_65_method_104_code 0 = .ok (.aload_n 0, 1) := by decide +kernel
theorem own_d13_1 : decode jdk_65_method_104_code 1 = .ok (.arraylength, 1) := by decide +kernel
theorem own_d13_2 : decode jdk_65_method_104_code 2 = .ok (.iload_n 1, 1) := by decide +kernel
theorem own_d13_3 : decode jdk_65_method_104_code 3 = .ok (.iload_n 2, 1) := by decide +kernel
theorem own_d13_4 : decode jdk_65_method_104_code 4 = .ok (.invokestatic 13, 3) := by decide +kernel
theorem own_d13_7 : decode jdk_65_method_104_code 7 = .ok (.iload_n 1, 1) := by decide +kernel
theorem own_d13_8 : decode jdk_65_method_104_code 8 = .ok (.istore 4, 2) := by decide +kernel
theorem own_d13_10 : decode jdk_65_method_104_code 10 = .ok (.iload 4, 2) := by decide +kernel
theorem own_d13_12 : decode jdk_65_method_104_code 12 = .ok (.iload_n 2, 1) := by decide +kernel
theorem own_d13_13 : decode jdk_65_method_104_code 13 = .ok (.if_icmp .ge 14, 3) := by decide +kernel
theorem own_d13_16 : decode jdk_65_method_104_code 16 = .ok (.aload_n 0, 1) := by decide +kernel
theorem own_d13_17 : decode jdk_65_method_104_code 17 = .ok (.iload 4, 2) := by decide +kernel
theorem own_d13_19 : decode jdk_65_method_104_code 19 = .ok (.iload_n 3, 1) := by decide +kernel
theorem own_d13_20 : decode jdk_65_method_104_code 20 = .ok (.iastore, 1) := by decide +kernel
theorem own_d13_21 : decode jdk_65_method_104_code 21 = .ok (.iinc 4 1, 3) := by decide +kernel
theorem own_d13_24 : decode jdk_65_method_104_code 24 = .ok (.goto (-14), 3) := by decide +kernel
theorem own_d13_27 : decode jdk_65_method_104_code 27 = .ok (.return_, 1) := by decide +kernel
theorem own_ef_13 (m : MethodId) (x0 : Addr) (x1 : Int32) (x2 : Int32) (x3 : Int32) : entryFrame m #[(.ref x0), (.int x1), (.int x2), (.int x3)] 5 = mkF m 0 #[.val (.ref x0), .val (.int x1), .val (.int x2), .val (.int x3), .unset] [] := by first | (simp [entryFrame, mkF, argsToLocals, Value.category]; done) | rfl
def own_Q_fill (Z : State) (a0 : Addr) (p3 : Int32) (n : Nat) (k : ClassId) (vs : List Value) (h0 : Heap) (n0 : Nat) (v : Option Value) (h : Heap) (L : List Loc) : Prop := v = none ∧ Fr n0 L ∧ Keep h0 h [a0] ∧ Arv Z h a0 k .int (16 : Int32) (own_lt (fun _ => Value.int p3) vs n) (.int (0 : Int32))
set_option maxRecDepth 65536 in
set_option maxHeartbeats 40000000 in
theorem own_rm_fill (l : Launch) (Z : State) (aw : Array Value) (hw : ∀ d ∈ tables_1, d.before aw Z = true) (ws : List Jvm.Cond) (a0 : Addr) (p3 : Int32) (n : Nat) (k : ClassId) (vs : List Value) (h0 : Heap) (n0 : Nat) (Z0 : n0 ≤ h0.size) (V_a0 : Arv Z h0 a0 k .int (16 : Int32) vs (.int (0 : Int32))) (hl : vs.length = 16) (hn : n < 16) (g_a0 : n0 ≤ a0) :
    MetFree l (⟨"java/util/Arrays", "fill", "([IIII)V"⟩ : MethodName) (head1 (Jvm.Cond.code (⟨"java/util/Arrays", "fill", "([IIII)V"⟩ : MethodName) jdk_65_method_104_code 5 none :: ws) ({ frames := 1, cells := 0, slots := 0, locals := 14 } : Room)) (fun a U => a = #[(.ref a0), (.int (0 : Int32)), (.int (Int32.ofNat n)), (.int p3)] ∧ Z.Warmed39 U.vm ∧ U.heap = h0) (fun _ _ _ _ _ => True) (fun _ U o U' => ∃ v L, o = .returned v ∧ own_Q_fill Z a0 p3 n k vs h0 n0 v U'.heap L ∧ FrameEnd U o U' L ({ frames := 1, cells := 0, slots := 0, locals := 14 } : Room).cells ({ frames := 1, cells := 0, slots := 0, locals := 14 } : Room).slots) := by
  refine MetFree.of_bodySF (plainFor_of_name own_pn1) hisR ?_
  intro p e s m args below meth c s₁ Bd hml0 hP hK
  obtain ⟨rfl, hZ, hh⟩ := hP
  have hx := Bd.exec
  have hby := Bd.bytes
  have hlk : meth.locks = false := BodyLoose.notSynchronized Bd
  have hml : c.maxLocals = 5 := hml0
  have hown : s.vm.findClass "java/util/Arrays" = some m.cls := findClass_of_methodNamed Bd.named
  have hnm := (name_of_methodNamed Bd.named Bd.method).1
  have X0 : Stand p l e ({ frames := 1, cells := 0, slots := 0, locals := 14 } : Room) s m #[(.ref a0), (.int (0 : Int32)), (.int (Int32.ofNat n)), (.int p3)] below meth c s₁ [] 0 0 := Stand.of_body Bd
  have e0 : s₁.heap = h0 := by rw [← hh, Bd.state]; rfl
  have N0 := Fr.nil n0
  have K0 : Keep h0 h0 [a0] := Keep.refl _ _
  have pre0 : ∀ t, Steps p.tables e below (s₁.setTop (mkF m 0 #[.val (.ref a0), .val (.int (0 : Int32)), .val (.int (Int32.ofNat n)), .val (.int p3), .unset] [])) t → Steps p.tables e below (s₁.setTop (entryFrame m #[(.ref a0), (.int (0 : Int32)), (.int (Int32.ofNat n)), (.int p3)] 5)) t := fun t k => castTop (own_ef_13 m a0 (0 : Int32) (Int32.ofNat n) p3) k
  show own_Ends p.tables e below (own_Q s (own_Q_fill Z a0 p3 n k vs h0 n0) ({ frames := 1, cells := 0, slots := 0, locals := 14 } : Room).cells ({ frames := 1, cells := 0, slots := 0, locals := 14 } : Room).slots) (s₁.setTop (entryFrame m #[(.ref a0), (.int (0 : Int32)), (.int (Int32.ofNat n)), (.int p3)] 5))
  refine own_step pre0 ?_
  show own_Ends p.tables e below _ (s₁.setTop (mkF m 0 #[.val (.ref a0), .val (.int (0 : Int32)), .val (.int (Int32.ofNat n)), .val (.int p3), .unset] []))
  refine own_step (fun _ k => XS.aloadN X0.here hx rfl (hb hby own_d13_0) rfl rfl k) ?_
  show own_Ends p.tables e below _ (s₁.setTop (mkF m 1 #[.val (.ref a0), .val (.int (0 : Int32)), .val (.int (Int32.ofNat n)), .val (.int p3), .unset] [(.ref a0)]))
  obtain ⟨cl1, Ar1, q1, S1, Nn1, H1, G1⟩ := id V_a0
  refine own_step (fun _ k => X0.arraylength hx (by rw [e0]; exact Ar1.1) (State.isArrayOf_alike hZ.alike Ar1.2.1) (g := (mkF m 1 #[.val (.ref a0), .val (.int (0 : Int32)), .val (.int (Int32.ofNat n)), .val (.int p3), .unset] [(.ref a0)])) rfl rfl (hb hby own_d13_1) _ k) ?_
  rw [len_of S1 Nn1]
  show own_Ends p.tables e below _ (s₁.setTop (mkF m 2 #[.val (.ref a0), .val (.int (0 : Int32)), .val (.int (Int32.ofNat n)), .val (.int p3), .unset] [(.int (16 : Int32))]))
  refine own_step (fun _ k => XS.iloadN X0.here hx rfl (hb hby own_d13_2) rfl k) ?_
  show own_Ends p.tables e below _ (s₁.setTop (mkF m 3 #[.val (.ref a0), .val (.int (0 : Int32)), .val (.int (Int32.ofNat n)), .val (.int p3), .unset] [(.int (0 : Int32)), (.int (16 : Int32))]))
  refine own_step (fun _ k => XS.iloadN X0.here hx rfl (hb hby own_d13_3) rfl k) ?_
  show own_Ends p.tables e below _ (s₁.setTop (mkF m 4 #[.val (.ref a0), .val (.int (0 : Int32)), .val (.int (Int32.ofNat n)), .val (.int p3), .unset] [(.int (Int32.ofNat n)), (.int (0 : Int32)), (.int (16 : Int32))]))
  obtain ⟨_, _, ⟨T2, L2, k2, n2⟩, -, X2, ⟨Lc2, hQ2, l2, y2, z2⟩, st2⟩ := Jvm.LawKit.callS X0 hx (y := (⟨"java/util/Arrays", "rangeCheck", "(III)V"⟩ : MethodName)) hown (mvT hZ (hw _ (List.mem_of_getElem? (i := 66) rfl))) (mvT hZ (hw _ (List.mem_of_getElem? (i := 67) rfl))) (mvT hZ (hw _ (List.mem_of_getElem? (i := 64) rfl))) (mvT hZ (hw _ (List.mem_of_getElem? (i := 68) rfl))) (by decide) (backOf (W := 0) (own_rm_rangeCheck l Z aw hw [] (16 : Int32) (0 : Int32) (Int32.ofNat n) h0 n0 Z0 (own_nn (by omega)) (by decide) (own_l16le (by omega))) hZ (hw _ (List.mem_of_getElem? (i := 68) rfl)) (hw _ (List.mem_of_getElem? (i := 64) rfl)) (by decide) (by decide)) (g := (mkF m 4 #[.val (.ref a0), .val (.int (0 : Int32)), .val (.int (Int32.ofNat n)), .val (.int p3), .unset] [(.int (Int32.ofNat n)), (.int (0 : Int32)), (.int (16 : Int32))])) rfl (by rw [hml]; rfl) (argsL := [(.int (16 : Int32)), (.int (0 : Int32)), (.int (Int32.ofNat n))]) (rest := []) (lenOf own_pd2 rfl) rfl (by show 2 * 0 + _ ≤ _; exact Nat.le_of_eq rfl) (hb hby own_d13_4) (fun _ _ => ⟨rfl, e0, (by decide : 0 + 0 ≤ _), (by decide : 0 + 0 ≤ _)⟩)
  dsimp only [Pt.U, Pt.locs, Pt.cells, Pt.slots] at X2 l2 y2 z2 st2 hQ2
  subst l2 y2 z2
  obtain ⟨rfl, N2q, e2⟩ := hQ2
  have N_2 := Fr.app N0 N2q
  refine own_step st2 ?_
  show own_Ends p.tables e below _ (T2.setTop (mkF m 7 #[.val (.ref a0), .val (.int (0 : Int32)), .val (.int (Int32.ofNat n)), .val (.int p3), .unset] []))
  refine own_step (fun _ k => XS.iloadN X2.here hx rfl (hb hby own_d13_7) rfl k) ?_
  show own_Ends p.tables e below _ (T2.setTop (mkF m 8 #[.val (.ref a0), .val (.int (0 : Int32)), .val (.int (Int32.ofNat n)), .val (.int p3), .unset] [(.int (0 : Int32))]))
  refine own_step (fun _ k => XS.istore X2.here hx rfl (hb hby own_d13_8) rfl (l' := #[.val (.ref a0), .val (.int (0 : Int32)), .val (.int (Int32.ofNat n)), .val (.int p3), .val (.int (0 : Int32))]) rfl k) ?_
  show own_Ends p.tables e below _ (T2.setTop (mkF m 10 #[.val (.ref a0), .val (.int (0 : Int32)), .val (.int (Int32.ofNat n)), .val (.int p3), .val (.int (0 : Int32))] []))
  have jn10 : ∀ (kk : Nat) (Tj10 : State) (loj10 : List Loc) (hj10 : Heap) (j : Nat) (Xj10 : Stand p l e ({ frames := 1, cells := 0, slots := 0, locals := 14 } : Room) s m #[(.ref a0), (.int (0 : Int32)), (.int (Int32.ofNat n)), (.int p3)] below meth c Tj10 loj10 0 0) (ej10 : Tj10.heap = hj10) (Nj10 : Fr n0 loj10) (Kj10 : Keep h0 hj10 [a0]) (Zj10 : n0 ≤ hj10.size) (V_a0_j10 : Arv Z hj10 a0 k .int (16 : Int32) (own_lt (fun _ => Value.int p3) vs j) (.int (0 : Int32))) (hj : j + kk = n), own_Ends p.tables e below (own_Q s (own_Q_fill Z a0 p3 n k vs h0 n0) ({ frames := 1, cells := 0, slots := 0, locals := 14 } : Room).cells ({ frames := 1, cells := 0, slots := 0, locals := 14 } : Room).slots) (Tj10.setTop (mkF m 10 #[.val (.ref a0), .val (.int (0 : Int32)), .val (.int (Int32.ofNat n)), .val (.int p3), .val (.int (Int32.ofNat j))] [])) := by
    intro kk
    induction kk with
    | zero =>
      intro Tj10 loj10 hj10 j Xj10 ej10 Nj10 Kj10 Zj10 V_a0_j10 hj
      refine own_step (fun _ k => XS.iload Xj10.here hx rfl (hb hby own_d13_10) rfl k) ?_
      show own_Ends p.tables e below _ (Tj10.setTop (mkF m 12 #[.val (.ref a0), .val (.int (0 : Int32)), .val (.int (Int32.ofNat n)), .val (.int p3), .val (.int (Int32.ofNat j))] [(.int (Int32.ofNat j))]))
      refine own_step (fun _ k => XS.iloadN Xj10.here hx rfl (hb hby own_d13_12) rfl k) ?_
      show own_Ends p.tables e below _ (Tj10.setTop (mkF m 13 #[.val (.ref a0), .val (.int (0 : Int32)), .val (.int (Int32.ofNat n)), .val (.int p3), .val (.int (Int32.ofNat j))] [(.int (Int32.ofNat n)), (.int (Int32.ofNat j))]))
      refine own_step (fun _ k => XS.icmpYes Xj10.here hx rfl (pc0 := 13) (pc' := 27) rfl (hb hby own_d13_13) rfl (flt (fun q => by have := (own_nlt (by omega) (by omega)).mp q; omega)).2.1 (by decide) (by decide) k) ?_
      show own_Ends p.tables e below _ (Tj10.setTop (mkF m 27 #[.val (.ref a0), .val (.int (0 : Int32)), .val (.int (Int32.ofNat n)), .val (.int p3), .val (.int (Int32.ofNat j))] []))
      have ejn : j = n := by omega
      have Vf : Arv Z hj10 a0 k .int (16 : Int32) (own_lt (fun _ => Value.int p3) vs n) (.int (0 : Int32)) := ejn ▸ V_a0_j10
      exact own_ret0 Xj10 hx hlk (by decide) (by decide) Bd.returns (hb hby own_d13_27) (by rw [ej10]; exact ⟨rfl, Nj10, Kj10, Vf⟩)
    | succ kk ih =>
      intro Tj10 loj10 hj10 j Xj10 ej10 Nj10 Kj10 Zj10 V_a0_j10 hj
      refine own_step (fun _ k => XS.iload Xj10.here hx rfl (hb hby own_d13_10) rfl k) ?_
      show own_Ends p.tables e below _ (Tj10.setTop (mkF m 12 #[.val (.ref a0), .val (.int (0 : Int32)), .val (.int (Int32.ofNat n)), .val (.int p3), .val (.int (Int32.ofNat j))] [(.int (Int32.ofNat j))]))
      refine own_step (fun _ k => XS.iloadN Xj10.here hx rfl (hb hby own_d13_12) rfl k) ?_
      show own_Ends p.tables e below _ (Tj10.setTop (mkF m 13 #[.val (.ref a0), .val (.int (0 : Int32)), .val (.int (Int32.ofNat n)), .val (.int p3), .val (.int (Int32.ofNat j))] [(.int (Int32.ofNat n)), (.int (Int32.ofNat j))]))
      refine own_step (fun _ k => XS.icmpNo Xj10.here hx rfl (hb hby own_d13_13) rfl (tlt ((own_nlt (by omega) (by omega)).mpr (by omega))).2.1 k) ?_
      show own_Ends p.tables e below _ (Tj10.setTop (mkF m 16 #[.val (.ref a0), .val (.int (0 : Int32)), .val (.int (Int32.ofNat n)), .val (.int p3), .val (.int (Int32.ofNat j))] []))
      refine own_step (fun _ k => XS.aloadN Xj10.here hx rfl (hb hby own_d13_16) rfl rfl k) ?_
      show own_Ends p.tables e below _ (Tj10.setTop (mkF m 17 #[.val (.ref a0), .val (.int (0 : Int32)), .val (.int (Int32.ofNat n)), .val (.int p3), .val (.int (Int32.ofNat j))] [(.ref a0)]))
      refine own_step (fun _ k => XS.iload Xj10.here hx rfl (hb hby own_d13_17) rfl k) ?_
      show own_Ends p.tables e below _ (Tj10.setTop (mkF m 19 #[.val (.ref a0), .val (.int (0 : Int32)), .val (.int (Int32.ofNat n)), .val (.int p3), .val (.int (Int32.ofNat j))] [(.int (Int32.ofNat j)), (.ref a0)]))
      refine own_step (fun _ k => XS.iloadN Xj10.here hx rfl (hb hby own_d13_19) rfl k) ?_
      show own_Ends p.tables e below _ (Tj10.setTop (mkF m 20 #[.val (.ref a0), .val (.int (0 : Int32)), .val (.int (Int32.ofNat n)), .val (.int p3), .val (.int (Int32.ofNat j))] [(.int p3), (.int (Int32.ofNat j)), (.ref a0)]))
      obtain ⟨cl3, Ar3, q3, S3, Nn3, H3, G3⟩ := id V_a0_j10
      have hin3 : ¬ ((Int32.ofNat j) < 0 ∨ cl3.slots.size ≤ ((Int32.ofNat j)).toNatClampNeg) := inb_of S3 ⟨(own_nn (by omega)), (own_l16 (by omega))⟩
      obtain ⟨T3, h3, X3, e3, W3, st3⟩ := stI Xj10 hx hZ ej10 Ar3 (j := (Int32.ofNat j)) hin3 (g := (mkF m 20 #[.val (.ref a0), .val (.int (0 : Int32)), .val (.int (Int32.ofNat n)), .val (.int p3), .val (.int (Int32.ofNat j))] [(.int p3), (.int (Int32.ofNat j)), (.ref a0)])) rfl rfl (hb hby own_d13_20)
      refine own_step st3 ?_
      have K_3 : Keep h0 h3 [a0] := Kj10.wr W3 (Or.inl (List.mem_of_getElem? (i := 0) rfl))
      have Z_3 : n0 ≤ h3.size := Nat.le_trans Zj10 (Keep.of_wr W3).1
      have N_3 := Fr.snoc X3 Nj10 g_a0
      have V_a0_3 : Arv Z h3 a0 k .int (16 : Int32) ((own_lt (fun _ => Value.int p3) vs j).set j (.int p3)) (.int (0 : Int32)) := Arv.set Ar3 q3 S3 Nn3 H3 G3 rfl W3 j (own_clamp (by omega)) (by rw [own_lt_len]; omega)
      show own_Ends p.tables e below _ (T3.setTop (mkF m 21 #[.val (.ref a0), .val (.int (0 : Int32)), .val (.int (Int32.ofNat n)), .val (.int p3), .val (.int (Int32.ofNat j))] []))
      refine own_step (fun _ k => XS.iinc X3.here hx rfl (hb hby own_d13_21) rfl (l' := #[.val (.ref a0), .val (.int (0 : Int32)), .val (.int (Int32.ofNat n)), .val (.int p3), .val (.int ((Int32.ofNat j) + (1 : Int32)))]) rfl k) ?_
      show own_Ends p.tables e below _ (T3.setTop (mkF m 24 #[.val (.ref a0), .val (.int (0 : Int32)), .val (.int (Int32.ofNat n)), .val (.int p3), .val (.int ((Int32.ofNat j) + (1 : Int32)))] []))
      rw [show (Int32.ofNat j) + (1 : Int32) = Int32.ofNat (j + 1) from own_inc j]
      show own_Ends p.tables e below _ (T3.setTop (mkF m 24 #[.val (.ref a0), .val (.int (0 : Int32)), .val (.int (Int32.ofNat n)), .val (.int p3), .val (.int (Int32.ofNat (j + 1)))] []))
      refine own_step (fun _ k => XS.goto X3.here hx rfl (pc0 := 24) (pc' := 10) rfl (hb hby own_d13_24) (by decide) (by decide) k) ?_
      show own_Ends p.tables e below _ (T3.setTop (mkF m 10 #[.val (.ref a0), .val (.int (0 : Int32)), .val (.int (Int32.ofNat n)), .val (.int p3), .val (.int (Int32.ofNat (j + 1)))] []))
      exact ih _ _ _ (j + 1) X3 e3 N_3 K_3 Z_3 V_a0_3 (by omega)
  show own_Ends p.tables e below _ (T2.setTop (mkF m 10 #[.val (.ref a0), .val (.int (0 : Int32)), .val (.int (Int32.ofNat n)), .val (.int p3), .val (.int (0 : Int32))] []))
  exact jn10 n _ _ _ 0 X2 e2 N_2 K0 Z0 V_a0 (by omega)
theorem own_d10_0 : decode prog_45_method_7_code 0 = .ok (.aload_n 0, 1) := by decide +kernel
theorem own_d10_1 : decode prog_45_method_7_code 1 = .ok (.getfield 21, 3) := by decide +kernel
theorem own_d10_4 : decode prog_45_method_7_code 4 = .ok (.lstore_n 2, 1) := by decide +kernel
theorem own_d10_5 : decode prog_45_method_7_code 5 = .ok (.aload_n 0, 1) := by decide +kernel
theorem own_d10_6 : decode prog_45_method_7_code 6 = .ok (.getfield 17, 3) := by decide +kernel
theorem own_d10_9 : decode prog_45_method_7_code 9 = .ok (.ifnull 13, 3) := by decide +kernel
theorem own_d10_22 : decode prog_45_method_7_code 22 = .ok (.aload_n 0, 1) := by decide +kernel
theorem own_d10_23 : decode prog_45_method_7_code 23 = .ok (.getfield 13, 3) := by decide +kernel
theorem own_d10_26 : decode prog_45_method_7_code 26 = .ok (.ifnull 11, 3) := by decide +kernel
theorem own_d10_37 : decode prog_45_method_7_code 37 = .ok (.lload_n 2, 1) := by decide +kernel
theorem own_d10_38 : decode prog_45_method_7_code 38 = .ok (.lreturn, 1) := by decide +kernel
theorem own_ef_10 (m : MethodId) (x0 : Addr) (x1 : Int32) : entryFrame m #[(.ref x0), (.int x1)] 4 = mkF m 0 #[.val (.ref x0), .val (.int x1), .unset, .unset] [] := by first | (simp [entryFrame, mkF, argsToLocals, Value.category]; done) | rfl
set_option maxRecDepth 65536 in
set_option maxHeartbeats 40000000 in
theorem own_rm_get_sh (l : Launch) (Z : State) (aw : Array Value) (hw : ∀ d ∈ tables_1, d.before aw Z = true) (ws : List Jvm.Cond) (a0 : Addr) (p1 : Int32) (sh : Int64) (r : Int64) (h0 : Heap) (n0 : Nat) (Z0 : n0 ≤ h0.size) (F_shared : Fld Z h0 a0 "com/example/restate/restate/model/LongColumn" "shared" "J" (.long sh)) (F_longs : Fld Z h0 a0 "com/example/restate/restate/model/LongColumn" "longs" "[J" .null) (F_ints : Fld Z h0 a0 "com/example/restate/restate/model/LongColumn" "ints" "[I" .null) (hr : sh = r) :
    MetFree l (⟨"com/example/restate/restate/model/LongColumn", "get", "(I)J"⟩ : MethodName) (head1 (Jvm.Cond.code (⟨"com/example/restate/restate/model/LongColumn", "get", "(I)J"⟩ : MethodName) prog_45_method_7_code 4 (some .long) :: ws) ({ frames := 0, cells := 0, slots := 0, locals := 0 } : Room)) (fun a U => a = #[(.ref a0), (.int p1)] ∧ Z.Warmed39 U.vm ∧ U.heap = h0) (fun _ _ _ _ _ => True) (fun _ U o U' => ∃ v L, o = .returned v ∧ own_QJ r h0 n0 v U'.heap L ∧ FrameEnd U o U' L ({ frames := 0, cells := 0, slots := 0, locals := 0 } : Room).cells ({ frames := 0, cells := 0, slots := 0, locals := 0 } : Room).slots) := by
  refine MetFree.of_bodySF (plainFor_of_name own_pn0) hisR ?_
  intro p e s m args below meth c s₁ Bd hml0 hP hK
  obtain ⟨rfl, hZ, hh⟩ := hP
  have hx := Bd.exec
  have hby := Bd.bytes
  have hlk : meth.locks = false := BodyLoose.notSynchronized Bd
  have hml : c.maxLocals = 4 := hml0
  have hown : s.vm.findClass "com/example/restate/restate/model/LongColumn" = some m.cls := findClass_of_methodNamed Bd.named
  have hnm := (name_of_methodNamed Bd.named Bd.method).1
  have X0 : Stand p l e ({ frames := 0, cells := 0, slots := 0, locals := 0 } : Room) s m #[(.ref a0), (.int p1)] below meth c s₁ [] 0 0 := Stand.of_body Bd
  have e0 : s₁.heap = h0 := by rw [← hh, Bd.state]; rfl
  have N0 := Fr.nil n0
  have K0 : Keep h0 h0 [] := Keep.refl _ _
  have pre0 : ∀ t, Steps p.tables e below (s₁.setTop (mkF m 0 #[.val (.ref a0), .val (.int p1), .unset, .unset] [])) t → Steps p.tables e below (s₁.setTop (entryFrame m #[(.ref a0), (.int p1)] 4)) t := fun t k => castTop (own_ef_10 m a0 p1) k
  show own_Ends p.tables e below (own_Q s (own_QJ r h0 n0) ({ frames := 0, cells := 0, slots := 0, locals := 0 } : Room).cells ({ frames := 0, cells := 0, slots := 0, locals := 0 } : Room).slots) (s₁.setTop (entryFrame m #[(.ref a0), (.int p1)] 4))
  refine own_step pre0 ?_
  show own_Ends p.tables e below _ (s₁.setTop (mkF m 0 #[.val (.ref a0), .val (.int p1), .unset, .unset] []))
  refine own_step (fun _ k => XS.aloadN X0.here hx rfl (hb hby own_d10_0) rfl rfl k) ?_
  show own_Ends p.tables e below _ (s₁.setTop (mkF m 1 #[.val (.ref a0), .val (.int p1), .unset, .unset] [(.ref a0)]))
  obtain ⟨T1, X1, e1, st1⟩ := getF X0 hx hZ hown (host := "") (Or.inl (hw _ (List.mem_of_getElem? (i := 24) rfl))) Via.refl e0 F_shared (g := (mkF m 1 #[.val (.ref a0), .val (.int p1), .unset, .unset] [(.ref a0)])) rfl rfl (hb hby own_d10_1)
  refine own_step st1 ?_
  show own_Ends p.tables e below _ (T1.setTop (mkF m 4 #[.val (.ref a0), .val (.int p1), .unset, .unset] [(.long sh)]))
  refine own_step (fun _ k => XS.lstoreN X1.here hx rfl (hb hby own_d10_4) rfl (l' := #[.val (.ref a0), .val (.int p1), .val (.long sh), .second]) rfl k) ?_
  show own_Ends p.tables e below _ (T1.setTop (mkF m 5 #[.val (.ref a0), .val (.int p1), .val (.long sh), .second] []))
  refine own_step (fun _ k => XS.aloadN X1.here hx rfl (hb hby own_d10_5) rfl rfl k) ?_
  show own_Ends p.tables e below _ (T1.setTop (mkF m 6 #[.val (.ref a0), .val (.int p1), .val (.long sh), .second] [(.ref a0)]))
  obtain ⟨T2, X2, e2, st2⟩ := getF X1 hx hZ hown (host := "") (Or.inl (hw _ (List.mem_of_getElem? (i := 20) rfl))) Via.refl e1 F_longs (g := (mkF m 6 #[.val (.ref a0), .val (.int p1), .val (.long sh), .second] [(.ref a0)])) rfl rfl (hb hby own_d10_6)
  refine own_step st2 ?_
  show own_Ends p.tables e below _ (T2.setTop (mkF m 9 #[.val (.ref a0), .val (.int p1), .val (.long sh), .second] [.null]))
  refine own_step (fun _ k => XS.ifnullYes X2.here hx rfl (pc0 := 9) (pc' := 22) rfl (hb hby own_d10_9) rfl (by decide) (by decide) k) ?_
  show own_Ends p.tables e below _ (T2.setTop (mkF m 22 #[.val (.ref a0), .val (.int p1), .val (.long sh), .second] []))
  refine own_step (fun _ k => XS.aloadN X2.here hx rfl (hb hby own_d10_22) rfl rfl k) ?_
  show own_Ends p.tables e below _ (T2.setTop (mkF m 23 #[.val (.ref a0), .val (.int p1), .val (.long sh), .second] [(.ref a0)]))
  obtain ⟨T3, X3, e3, st3⟩ := getF X2 hx hZ hown (host := "") (Or.inl (hw _ (List.mem_of_getElem? (i := 18) rfl))) Via.refl e2 F_ints (g := (mkF m 23 #[.val (.ref a0), .val (.int p1), .val (.long sh), .second] [(.ref a0)])) rfl rfl (hb hby own_d10_23)
  refine own_step st3 ?_
  show own_Ends p.tables e below _ (T3.setTop (mkF m 26 #[.val (.ref a0), .val (.int p1), .val (.long sh), .second] [.null]))
  refine own_step (fun _ k => XS.ifnullYes X3.here hx rfl (pc0 := 26) (pc' := 37) rfl (hb hby own_d10_26) rfl (by decide) (by decide) k) ?_
  show own_Ends p.tables e below _ (T3.setTop (mkF m 37 #[.val (.ref a0), .val (.int p1), .val (.long sh), .second] []))
  refine own_step (fun _ k => XS.lloadN X3.here hx rfl (hb hby own_d10_37) rfl k) ?_
  show own_Ends p.tables e below _ (T3.setTop (mkF m 38 #[.val (.ref a0), .val (.int p1), .val (.long sh), .second] [(.long sh)]))
  exact own_retJ X3 hx hlk (by decide) (by decide) Bd.returns (hb hby own_d10_38) (by rw [e3]; exact ⟨by rw [hr], N0, rfl⟩)
theorem own_d10_29 : decode prog_45_method_7_code 29 = .ok (.aload_n 0, 1) := by decide +kernel
theorem own_d10_30 : decode prog_45_method_7_code 30 = .ok (.getfield 13, 3) := by decide +kernel
theorem own_d10_33 : decode prog_45_method_7_code 33 = .ok (.iload_n 1, 1) := by decide +kernel
theorem own_d10_34 : decode prog_45_method_7_code 34 = .ok (.iaload, 1) := by decide +kernel
theorem own_d10_35 : decode prog_45_method_7_code 35 = .ok (.i2l, 1) := by decide +kernel
theorem own_d10_36 : decode prog_45_method_7_code 36 = .ok (.lstore_n 2, 1) := by decide +kernel
set_option maxRecDepth 65536 in
set_option maxHeartbeats 40000000 in
theorem own_rm_get_in (l : Launch) (Z : State) (aw : Array Value) (hw : ∀ d ∈ tables_1, d.before aw Z = true) (ws : List Jvm.Cond) (a0 : Addr) (j : Nat) (sh : Int64) (b : Addr) (k : ClassId) (vs : List Value) (y : Int32) (r : Int64) (h0 : Heap) (n0 : Nat) (Z0 : n0 ≤ h0.size) (F_shared : Fld Z h0 a0 "com/example/restate/restate/model/LongColumn" "shared" "J" (.long sh)) (F_longs : Fld Z h0 a0 "com/example/restate/restate/model/LongColumn" "longs" "[J" .null) (F_ints : Fld Z h0 a0 "com/example/restate/restate/model/LongColumn" "ints" "[I" (.ref b)) (V_b : Arv Z h0 b k .int (16 : Int32) vs (.int (0 : Int32))) (hj : j < 16) (hat : vs.getD j (.int (0 : Int32)) = .int y) (hr : y.toInt64 = r) :
    MetFree l (⟨"com/example/restate/restate/model/LongColumn", "get", "(I)J"⟩ : MethodName) (head1 (Jvm.Cond.code (⟨"com/example/restate/restate/model/LongColumn", "get", "(I)J"⟩ : MethodName) prog_45_method_7_code 4 (some .long) :: ws) ({ frames := 0, cells := 0, slots := 0, locals := 0 } : Room)) (fun a U => a = #[(.ref a0), (.int (Int32.ofNat j))] ∧ Z.Warmed39 U.vm ∧ U.heap = h0) (fun _ _ _ _ _ => True) (fun _ U o U' => ∃ v L, o = .returned v ∧ own_QJ r h0 n0 v U'.heap L ∧ FrameEnd U o U' L ({ frames := 0, cells := 0, slots := 0, locals := 0 } : Room).cells ({ frames := 0, cells := 0, slots := 0, locals := 0 } : Room).slots) := by
  refine MetFree.of_bodySF (plainFor_of_name own_pn0) hisR ?_
  intro p e s m args below meth c s₁ Bd hml0 hP hK
  obtain ⟨rfl, hZ, hh⟩ := hP
  have hx := Bd.exec
  have hby := Bd.bytes
  have hlk : meth.locks = false := BodyLoose.notSynchronized Bd
  have hml : c.maxLocals = 4 := hml0
  have hown : s.vm.findClass "com/example/restate/restate/model/LongColumn" = some m.cls := findClass_of_methodNamed Bd.named
  have hnm := (name_of_methodNamed Bd.named Bd.method).1
  have X0 : Stand p l e ({ frames := 0, cells := 0, slots := 0, locals := 0 } : Room) s m #[(.ref a0), (.int (Int32.ofNat j))] below meth c s₁ [] 0 0 := Stand.of_body Bd
  have e0 : s₁.heap = h0 := by rw [← hh, Bd.state]; rfl
  have N0 := Fr.nil n0
  have K0 : Keep h0 h0 [] := Keep.refl _ _
  have pre0 : ∀ t, Steps p.tables e below (s₁.setTop (mkF m 0 #[.val (.ref a0), .val (.int (Int32.ofNat j)), .unset, .unset] [])) t → Steps p.tables e below (s₁.setTop (entryFrame m #[(.ref a0), (.int (Int32.ofNat j))] 4)) t := fun t k => castTop (own_ef_10 m a0 (Int32.ofNat j)) k
  show own_Ends p.tables e below (own_Q s (own_QJ r h0 n0) ({ frames := 0, cells := 0, slots := 0, locals := 0 } : Room).cells ({ frames := 0, cells := 0, slots := 0, locals := 0 } : Room).slots) (s₁.setTop (entryFrame m #[(.ref a0), (.int (Int32.ofNat j))] 4))
  refine own_step pre0 ?_
  show own_Ends p.tables e below _ (s₁.setTop (mkF m 0 #[.val (.ref a0), .val (.int (Int32.ofNat j)), .unset, .unset] []))
  refine own_step (fun _ k => XS.aloadN X0.here hx rfl (hb hby own_d10_0) rfl rfl k) ?_
  show own_Ends p.tables e below _ (s₁.setTop (mkF m 1 #[.val (.ref a0), .val (.int (Int32.ofNat j)), .unset, .unset] [(.ref a0)]))
  obtain ⟨T1, X1, e1, st1⟩ := getF X0 hx hZ hown (host := "") (Or.inl (hw _ (List.mem_of_getElem? (i := 24) rfl))) Via.refl e0 F_shared (g := (mkF m 1 #[.val (.ref a0), .val (.int (Int32.ofNat j)), .unset, .unset] [(.ref a0)])) rfl rfl (hb hby own_d10_1)
  refine own_step st1 ?_
  show own_Ends p.tables e below _ (T1.setTop (mkF m 4 #[.val (.ref a0), .val (.int (Int32.ofNat j)), .unset, .unset] [(.long sh)]))
  refine own_step (fun _ k => XS.lstoreN X1.here hx rfl (hb hby own_d10_4) rfl (l' := #[.val (.ref a0), .val (.int (Int32.ofNat j)), .val (.long sh), .second]) rfl k) ?_
  show own_Ends p.tables e below _ (T1.setTop (mkF m 5 #[.val (.ref a0), .val (.int (Int32.ofNat j)), .val (.long sh), .second] []))
  refine own_step (fun _ k => XS.aloadN X1.here hx rfl (hb hby own_d10_5) rfl rfl k) ?_
  show own_Ends p.tables e below _ (T1.setTop (mkF m 6 #[.val (.ref a0), .val (.int (Int32.ofNat j)), .val (.long sh), .second] [(.ref a0)]))
  obtain ⟨T2, X2, e2, st2⟩ := getF X1 hx hZ hown (host := "") (Or.inl (hw _ (List.mem_of_getElem? (i := 20) rfl))) Via.refl e1 F_longs (g := (mkF m 6 #[.val (.ref a0), .val (.int (Int32.ofNat j)), .val (.long sh), .second] [(.ref a0)])) rfl rfl (hb hby own_d10_6)
  refine own_step st2 ?_
  show own_Ends p.tables e below _ (T2.setTop (mkF m 9 #[.val (.ref a0), .val (.int (Int32.ofNat j)), .val (.long sh), .second] [.null]))
  refine own_step (fun _ k => XS.ifnullYes X2.here hx rfl (pc0 := 9) (pc' := 22) rfl (hb hby own_d10_9) rfl (by decide) (by decide) k) ?_
  show own_Ends p.tables e below _ (T2.setTop (mkF m 22 #[.val (.ref a0), .val (.int (Int32.ofNat j)), .val (.long sh), .second] []))
  refine own_step (fun _ k => XS.aloadN X2.here hx rfl (hb hby own_d10_22) rfl rfl k) ?_
  show own_Ends p.tables e below _ (T2.setTop (mkF m 23 #[.val (.ref a0), .val (.int (Int32.ofNat j)), .val (.long sh), .second] [(.ref a0)]))
  obtain ⟨T3, X3, e3, st3⟩ := getF X2 hx hZ hown (host := "") (Or.inl (hw _ (List.mem_of_getElem? (i := 18) rfl))) Via.refl e2 F_ints (g := (mkF m 23 #[.val (.ref a0), .val (.int (Int32.ofNat j)), .val (.long sh), .second] [(.ref a0)])) rfl rfl (hb hby own_d10_23)
  refine own_step st3 ?_
  show own_Ends p.tables e below _ (T3.setTop (mkF m 26 #[.val (.ref a0), .val (.int (Int32.ofNat j)), .val (.long sh), .second] [(.ref b)]))
  refine own_step (fun _ k => XS.ifnullNo X3.here hx rfl (hb hby own_d10_26) rfl k) ?_
  show own_Ends p.tables e below _ (T3.setTop (mkF m 29 #[.val (.ref a0), .val (.int (Int32.ofNat j)), .val (.long sh), .second] []))
  refine own_step (fun _ k => XS.aloadN X3.here hx rfl (hb hby own_d10_29) rfl rfl k) ?_
  show own_Ends p.tables e below _ (T3.setTop (mkF m 30 #[.val (.ref a0), .val (.int (Int32.ofNat j)), .val (.long sh), .second] [(.ref a0)]))
  obtain ⟨T4, X4, e4, st4⟩ := getF X3 hx hZ hown (host := "") (Or.inl (hw _ (List.mem_of_getElem? (i := 18) rfl))) Via.refl e3 F_ints (g := (mkF m 30 #[.val (.ref a0), .val (.int (Int32.ofNat j)), .val (.long sh), .second] [(.ref a0)])) rfl rfl (hb hby own_d10_30)
  refine own_step st4 ?_
  show own_Ends p.tables e below _ (T4.setTop (mkF m 33 #[.val (.ref a0), .val (.int (Int32.ofNat j)), .val (.long sh), .second] [(.ref b)]))
  refine own_step (fun _ k => XS.iloadN X4.here hx rfl (hb hby own_d10_33) rfl k) ?_
  show own_Ends p.tables e below _ (T4.setTop (mkF m 34 #[.val (.ref a0), .val (.int (Int32.ofNat j)), .val (.long sh), .second] [(.int (Int32.ofNat j)), (.ref b)]))
  obtain ⟨cl5, Ar5, q5, S5, Nn5, H5, G5⟩ := id V_b
  have hin5 : ¬ ((Int32.ofNat j) < 0 ∨ cl5.slots.size ≤ ((Int32.ofNat j)).toNatClampNeg) := inb_of S5 ⟨(own_nn (by omega)), (own_l16 hj)⟩
  have hat5 : cl5.slots[((Int32.ofNat j)).toNatClampNeg]? = some (.int y) := H5.at hin5 (by rw [own_clamp (by omega)]; exact hat)
  refine own_step (fun _ k => X4.iaload hx (j := (Int32.ofNat j)) (v := (.int y)) (by rw [e4]; exact Ar5.1) (State.isArrayOf_alike hZ.alike Ar5.2.1) Ar5.2.2 hin5 hat5 (g := (mkF m 34 #[.val (.ref a0), .val (.int (Int32.ofNat j)), .val (.long sh), .second] [(.int (Int32.ofNat j)), (.ref b)])) rfl rfl (hb hby own_d10_34) _ k) ?_
  show own_Ends p.tables e below _ (T4.setTop (mkF m 35 #[.val (.ref a0), .val (.int (Int32.ofNat j)), .val (.long sh), .second] [(.int y)]))
  refine own_step (fun _ k => XS.i2l X4.here hx rfl (hb hby own_d10_35) rfl k) ?_
  show own_Ends p.tables e below _ (T4.setTop (mkF m 36 #[.val (.ref a0), .val (.int (Int32.ofNat j)), .val (.long sh), .second] [(.long (y.toInt64))]))
  refine own_step (fun _ k => XS.lstoreN X4.here hx rfl (hb hby own_d10_36) rfl (l' := #[.val (.ref a0), .val (.int (Int32.ofNat j)), .val (.long (y.toInt64)), .second]) rfl k) ?_
  show own_Ends p.tables e below _ (T4.setTop (mkF m 37 #[.val (.ref a0), .val (.int (Int32.ofNat j)), .val (.long (y.toInt64)), .second] []))
  refine own_step (fun _ k => XS.lloadN X4.here hx rfl (hb hby own_d10_37) rfl k) ?_
  show own_Ends p.tables e below _ (T4.setTop (mkF m 38 #[.val (.ref a0), .val (.int (Int32.ofNat j)), .val (.long (y.toInt64)), .second] [(.long (y.toInt64))]))
  exact own_retJ X4 hx hlk (by decide) (by decide) Bd.returns (hb hby own_d10_38) (by rw [e4]; exact ⟨by rw [hr], N0, rfl⟩)
theorem own_d10_12 : decode prog_45_method_7_code 12 = .ok (.aload_n 0, 1) := by decide +kernel
theorem own_d10_13 : decode prog_45_method_7_code 13 = .ok (.getfield 17, 3) := by decide +kernel
theorem own_d10_16 : decode prog_45_method_7_code 16 = .ok (.iload_n 1, 1) := by decide +kernel
theorem own_d10_17 : decode prog_45_method_7_code 17 = .ok (.laload, 1) := by decide +kernel
theorem own_d10_18 : decode prog_45_method_7_code 18 = .ok (.lstore_n 2, 1) := by decide +kernel
theorem own_d10_19 : decode prog_45_method_7_code 19 = .ok (.goto 18, 3) := by decide +kernel
set_option maxRecDepth 65536 in
set_option maxHeartbeats 40000000 in
theorem own_rm_get_lo (l : Launch) (Z : State) (aw : Array Value) (hw : ∀ d ∈ tables_1, d.before aw Z = true) (ws : List Jvm.Cond) (a0 : Addr) (j : Nat) (sh : Int64) (b : Addr) (k : ClassId) (vs : List Value) (r : Int64) (h0 : Heap) (n0 : Nat) (Z0 : n0 ≤ h0.size) (F_shared : Fld Z h0 a0 "com/example/restate/restate/model/LongColumn" "shared" "J" (.long sh)) (F_longs : Fld Z h0 a0 "com/example/restate/restate/model/LongColumn" "longs" "[J" (.ref b)) (V_b : Arv Z h0 b k .long (16 : Int32) vs (.long (0 : Int64))) (hj : j < 16) (hat : vs.getD j (.long (0 : Int64)) = .long r) :
    MetFree l (⟨"com/example/restate/restate/model/LongColumn", "get", "(I)J"⟩ : MethodName) (head1 (Jvm.Cond.code (⟨"com/example/restate/restate/model/LongColumn", "get", "(I)J"⟩ : MethodName) prog_45_method_7_code 4 (some .long) :: ws) ({ frames := 0, cells := 0, slots := 0, locals := 0 } : Room)) (fun a U => a = #[(.ref a0), (.int (Int32.ofNat j))] ∧ Z.Warmed39 U.vm ∧ U.heap = h0) (fun _ _ _ _ _ => True) (fun _ U o U' => ∃ v L, o = .returned v ∧ own_QJ r h0 n0 v U'.heap L ∧ FrameEnd U o U' L ({ frames := 0, cells := 0, slots := 0, locals := 0 } : Room).cells ({ frames := 0, cells := 0, slots := 0, locals := 0 } : Room).slots) := by
  refine MetFree.of_bodySF (plainFor_of_name own_pn0) hisR ?_
  intro p e s m args below meth c s₁ Bd hml0 hP hK
  obtain ⟨rfl, hZ, hh⟩ := hP
  have hx := Bd.exec
  have hby := Bd.bytes
  have hlk : meth.locks = false := BodyLoose.notSynchronized Bd
  have hml : c.maxLocals = 4 := hml0
  have hown : s.vm.findClass "com/example/restate/restate/model/LongColumn" = some m.cls := findClass_of_methodNamed Bd.named
  have hnm := (name_of_methodNamed Bd.named Bd.method).1
  have X0 : Stand p l e ({ frames := 0, cells := 0, slots := 0, locals := 0 } : Room) s m #[(.ref a0), (.int (Int32.ofNat j))] below meth c s₁ [] 0 0 := Stand.of_body Bd
  have e0 : s₁.heap = h0 := by rw [← hh, Bd.state]; rfl
  have N0 := Fr.nil n0
  have K0 : Keep h0 h0 [] := Keep.refl _ _
  have pre0 : ∀ t, Steps p.tables e below (s₁.setTop (mkF m 0 #[.val (.ref a0), .val (.int (Int32.ofNat j)), .unset, .unset] [])) t → Steps p.tables e below (s₁.setTop (entryFrame m #[(.ref a0), (.int (Int32.ofNat j))] 4)) t := fun t k => castTop (own_ef_10 m a0 (Int32.ofNat j)) k
  show own_Ends p.tables e below (own_Q s (own_QJ r h0 n0) ({ frames := 0, cells := 0, slots := 0, locals := 0 } : Room).cells ({ frames := 0, cells := 0, slots := 0, locals := 0 } : Room).slots) (s₁.setTop (entryFrame m #[(.ref a0), (.int (Int32.ofNat j))] 4))
  refine own_step pre0 ?_
  show own_Ends p.tables e below _ (s₁.setTop (mkF m 0 #[.val (.ref a0), .val (.int (Int32.ofNat j)), .unset, .unset] []))
  refine own_step (fun _ k => XS.aloadN X0.here hx rfl (hb hby own_d10_0) rfl rfl k) ?_
  show own_Ends p.tables e below _ (s₁.setTop (mkF m 1 #[.val (.ref a0), .val (.int (Int32.ofNat j)), .unset, .unset] [(.ref a0)]))
  obtain ⟨T1, X1, e1, st1⟩ := getF X0 hx hZ hown (host := "") (Or.inl (hw _ (List.mem_of_getElem? (i := 24) rfl))) Via.refl e0 F_shared (g := (mkF m 1 #[.val (.ref a0), .val (.int (Int32.ofNat j)), .unset, .unset] [(.ref a0)])) rfl rfl (hb hby own_d10_1)
  refine own_step st1 ?_
  show own_Ends p.tables e below _ (T1.setTop (mkF m 4 #[.val (.ref a0), .val (.int (Int32.ofNat j)), .unset, .unset] [(.long sh)]))
  refine own_step (fun _ k => XS.lstoreN X1.here hx rfl (hb hby own_d10_4) rfl (l' := #[.val (.ref a0), .val (.int (Int32.ofNat j)), .val (.long sh), .second]) rfl k) ?_
  show own_Ends p.tables e below _ (T1.setTop (mkF m 5 #[.val (.ref a0), .val (.int (Int32.ofNat j)), .val (.long sh), .second] []))
  refine own_step (fun _ k => XS.aloadN X1.here hx rfl (hb hby own_d10_5) rfl rfl k) ?_
  show own_Ends p.tables e below _ (T1.setTop (mkF m 6 #[.val (.ref a0), .val (.int (Int32.ofNat j)), .val (.long sh), .second] [(.ref a0)]))
  obtain ⟨T2, X2, e2, st2⟩ := getF X1 hx hZ hown (host := "") (Or.inl (hw _ (List.mem_of_getElem? (i := 20) rfl))) Via.refl e1 F_longs (g := (mkF m 6 #[.val (.ref a0), .val (.int (Int32.ofNat j)), .val (.long sh), .second] [(.ref a0)])) rfl rfl (hb hby own_d10_6)
  refine own_step st2 ?_
  show own_Ends p.tables e below _ (T2.setTop (mkF m 9 #[.val (.ref a0), .val (.int (Int32.ofNat j)), .val (.long sh), .second] [(.ref b)]))
  refine own_step (fun _ k => XS.ifnullNo X2.here hx rfl (hb hby own_d10_9) rfl k) ?_
  show own_Ends p.tables e below _ (T2.setTop (mkF m 12 #[.val (.ref a0), .val (.int (Int32.ofNat j)), .val (.long sh), .second] []))
  refine own_step (fun _ k => XS.aloadN X2.here hx rfl (hb hby own_d10_12) rfl rfl k) ?_
  show own_Ends p.tables e below _ (T2.setTop (mkF m 13 #[.val (.ref a0), .val (.int (Int32.ofNat j)), .val (.long sh), .second] [(.ref a0)]))
  obtain ⟨T3, X3, e3, st3⟩ := getF X2 hx hZ hown (host := "") (Or.inl (hw _ (List.mem_of_getElem? (i := 20) rfl))) Via.refl e2 F_longs (g := (mkF m 13 #[.val (.ref a0), .val (.int (Int32.ofNat j)), .val (.long sh), .second] [(.ref a0)])) rfl rfl (hb hby own_d10_13)
  refine own_step st3 ?_
  show own_Ends p.tables e below _ (T3.setTop (mkF m 16 #[.val (.ref a0), .val (.int (Int32.ofNat j)), .val (.long sh), .second] [(.ref b)]))
  refine own_step (fun _ k => XS.iloadN X3.here hx rfl (hb hby own_d10_16) rfl k) ?_
  show own_Ends p.tables e below _ (T3.setTop (mkF m 17 #[.val (.ref a0), .val (.int (Int32.ofNat j)), .val (.long sh), .second] [(.int (Int32.ofNat j)), (.ref b)]))
  obtain ⟨cl4, Ar4, q4, S4, Nn4, H4, G4⟩ := id V_b
  have hin4 : ¬ ((Int32.ofNat j) < 0 ∨ cl4.slots.size ≤ ((Int32.ofNat j)).toNatClampNeg) := inb_of S4 ⟨(own_nn (by omega)), (own_l16 hj)⟩
  have hat4 : cl4.slots[((Int32.ofNat j)).toNatClampNeg]? = some (.long r) := H4.at hin4 (by rw [own_clamp (by omega)]; exact hat)
  refine own_step (fun _ k => X3.laload hx (j := (Int32.ofNat j)) (v := (.long r)) (by rw [e3]; exact Ar4.1) (State.isArrayOf_alike hZ.alike Ar4.2.1) Ar4.2.2 hin4 hat4 (g := (mkF m 17 #[.val (.ref a0), .val (.int (Int32.ofNat j)), .val (.long sh), .second] [(.int (Int32.ofNat j)), (.ref b)])) rfl rfl (hb hby own_d10_17) _ k) ?_
  show own_Ends p.tables e below _ (T3.setTop (mkF m 18 #[.val (.ref a0), .val (.int (Int32.ofNat j)), .val (.long sh), .second] [(.long r)]))
  refine own_step (fun _ k => XS.lstoreN X3.here hx rfl (hb hby own_d10_18) rfl (l' := #[.val (.ref a0), .val (.int (Int32.ofNat j)), .val (.long r), .second]) rfl k) ?_
  show own_Ends p.tables e below _ (T3.setTop (mkF m 19 #[.val (.ref a0), .val (.int (Int32.ofNat j)), .val (.long r), .second] []))
  refine own_step (fun _ k => XS.goto X3.here hx rfl (pc0 := 19) (pc' := 37) rfl (hb hby own_d10_19) (by decide) (by decide) k) ?_
  show own_Ends p.tables e below _ (T3.setTop (mkF m 37 #[.val (.ref a0), .val (.int (Int32.ofNat j)), .val (.long r), .second] []))
  refine own_step (fun _ k => XS.lloadN X3.here hx rfl (hb hby own_d10_37) rfl k) ?_
  show own_Ends p.tables e below _ (T3.setTop (mkF m 38 #[.val (.ref a0), .val (.int (Int32.ofNat j)), .val (.long r), .second] [(.long r)]))
  exact own_retJ X3 hx hlk (by decide) (by decide) Bd.returns (hb hby own_d10_38) (by rw [e3]; exact ⟨rfl, N0, rfl⟩)
theorem own_rm_get (l : Launch) (Z : State) (a0' : Array Value) (hw : ∀ d ∈ tables_1, d.before a0' Z = true) (ws : List Jvm.Cond) (a0 : Addr) (j : Nat) (xs : List Int64) (h0 : Heap) (n0 : Nat) (Z0 : n0 ≤ h0.size) (C : own_Col Z h0 a0 n0 xs) (hj : j < xs.length) (hj' : j < 16) :
    MetFree l (⟨"com/example/restate/restate/model/LongColumn", "get", "(I)J"⟩ : MethodName) (head1 (Jvm.Cond.code (⟨"com/example/restate/restate/model/LongColumn", "get", "(I)J"⟩ : MethodName) prog_45_method_7_code 4 (some .long) :: ws) ({ frames := 0, cells := 0, slots := 0, locals := 0 } : Room)) (fun a U => a = #[(.ref a0), (.int (Int32.ofNat j))] ∧ Z.Warmed39 U.vm ∧ U.heap = h0) (fun _ _ _ _ _ => True) (fun _ U o U' => ∃ v L, o = .returned v ∧ own_QJ (xs.getD j 0) h0 n0 v U'.heap L ∧ FrameEnd U o U' L ({ frames := 0, cells := 0, slots := 0, locals := 0 } : Room).cells ({ frames := 0, cells := 0, slots := 0, locals := 0 } : Room).slots) := by
  obtain ⟨E, Fs, C⟩ := C
  rcases C with ⟨sh, F1, F2, F3, hx⟩ | ⟨sh, b, k, vs, F1, F2, F3, ne, ge, A, hl, hR⟩ | ⟨sh, b, k, vs, F1, F2, F3, ne, ge, A, hl, hR⟩
  · exact own_rm_get_sh l Z a0' hw ws a0 _ sh _ h0 n0 Z0 F1 F3 F2 (own_same hx j hj).symm
  · exact own_rm_get_in l Z a0' hw ws a0 j sh b k vs _ _ h0 n0 Z0 F1 F3 F2 A hj' (hR j hj).1 (hR j hj).2
  · exact own_rm_get_lo l Z a0' hw ws a0 j sh b k vs _ h0 n0 Z0 F1 F3 A hj' (hR j hj)
theorem own_pd3 : parseMethodDescriptor "(I)I" = some ⟨[.int], some .int⟩ := by decide +kernel
theorem own_pd4 : parseMethodDescriptor "(II)I" = some ⟨[.int, .int], some .int⟩ := by decide +kernel
theorem own_pd5 : parseMethodDescriptor "([IIII)V" = some ⟨[(.array .int), .int, .int, .int], none⟩ := by decide +kernel
theorem own_d12_0 : decode prog_45_method_5_code 0 = .ok (.aload_n 0, 1) := by decide +kernel
theorem own_d12_1 : decode prog_45_method_5_code 1 = .ok (.getfield 13, 3) := by decide +kernel
theorem own_d12_4 : decode prog_45_method_5_code 4 = .ok (.ifnonnull 41, 3) := by decide +kernel
theorem own_d12_7 : decode prog_45_method_5_code 7 = .ok (.aload_n 0, 1) := by decide +kernel
theorem own_d12_8 : decode prog_45_method_5_code 8 = .ok (.bipush 16, 2) := by decide +kernel
theorem own_d12_10 : decode prog_45_method_5_code 10 = .ok (.aload_n 0, 1) := by decide +kernel
theorem own_d12_11 : decode prog_45_method_5_code 11 = .ok (.getfield 7, 3) := by decide +kernel
theorem own_d12_14 : decode prog_45_method_5_code 14 = .ok (.invokestatic 37, 3) := by decide +kernel
theorem own_d12_17 : decode prog_45_method_5_code 17 = .ok (.invokestatic 41, 3) := by decide +kernel
theorem own_d12_20 : decode prog_45_method_5_code 20 = .ok (.newarray .int, 2) := by decide +kernel
theorem own_d12_22 : decode prog_45_method_5_code 22 = .ok (.putfield 13, 3) := by decide +kernel
theorem own_d12_25 : decode prog_45_method_5_code 25 = .ok (.aload_n 0, 1) := by decide +kernel
theorem own_d12_26 : decode prog_45_method_5_code 26 = .ok (.getfield 13, 3) := by decide +kernel
theorem own_d12_29 : decode prog_45_method_5_code 29 = .ok (.iconst 0, 1) := by decide +kernel
theorem own_d12_30 : decode prog_45_method_5_code 30 = .ok (.aload_n 0, 1) := by decide +kernel
theorem own_d12_31 : decode prog_45_method_5_code 31 = .ok (.getfield 7, 3) := by decide +kernel
theorem own_d12_34 : decode prog_45_method_5_code 34 = .ok (.aload_n 0, 1) := by decide +kernel
theorem own_d12_35 : decode prog_45_method_5_code 35 = .ok (.getfield 21, 3) := by decide +kernel
theorem own_d12_38 : decode prog_45_method_5_code 38 = .ok (.l2i, 1) := by decide +kernel
theorem own_d12_39 : decode prog_45_method_5_code 39 = .ok (.invokestatic 47, 3) := by decide +kernel
theorem own_d12_42 : decode prog_45_method_5_code 42 = .ok (.goto 33, 3) := by decide +kernel
theorem own_d12_75 : decode prog_45_method_5_code 75 = .ok (.aload_n 0, 1) := by decide +kernel
theorem own_d12_76 : decode prog_45_method_5_code 76 = .ok (.getfield 13, 3) := by decide +kernel
theorem own_d12_79 : decode prog_45_method_5_code 79 = .ok (.aload_n 0, 1) := by decide +kernel
theorem own_d12_80 : decode prog_45_method_5_code 80 = .ok (.getfield 7, 3) := by decide +kernel
theorem own_d12_83 : decode prog_45_method_5_code 83 = .ok (.iload_n 1, 1) := by decide +kernel
theorem own_d12_84 : decode prog_45_method_5_code 84 = .ok (.iastore, 1) := by decide +kernel
theorem own_d12_85 : decode prog_45_method_5_code 85 = .ok (.return_, 1) := by decide +kernel
theorem own_ef_12 (m : MethodId) (x0 : Addr) (x1 : Int32) : entryFrame m #[(.ref x0), (.int x1)] 2 = mkF m 0 #[.val (.ref x0), .val (.int x1)] [] := by first | (simp [entryFrame, mkF, argsToLocals, Value.category]; done) | rfl
set_option maxRecDepth 65536 in
set_option maxHeartbeats 40000000 in
theorem own_rm_addInt_sh (l : Launch) (Z : State) (aw : Array Value) (hw : ∀ d ∈ tables_1, d.before aw Z = true) (ws : List Jvm.Cond) (a0 : Addr) (p1 : Int32) (n : Nat) (sh : Int64) (h0 : Heap) (n0 : Nat) (Z0 : n0 ≤ h0.size) (E_a0 : Exa Z h0 a0 "com/example/restate/restate/model/LongColumn") (F_size : Fld Z h0 a0 "com/example/restate/restate/model/LongColumn" "size" "I" (.int (Int32.ofNat n))) (F_shared : Fld Z h0 a0 "com/example/restate/restate/model/LongColumn" "shared" "J" (.long sh)) (F_ints : Fld Z h0 a0 "com/example/restate/restate/model/LongColumn" "ints" "[I" .null) (F_longs : Fld Z h0 a0 "com/example/restate/restate/model/LongColumn" "longs" "[J" .null) (g_a0 : n0 ≤ a0) (hn : n < 8) :
    MetFree l (⟨"com/example/restate/restate/model/LongColumn", "addInt", "(I)V"⟩ : MethodName) (head1 (Jvm.Cond.code (⟨"com/example/restate/restate/model/LongColumn", "addInt", "(I)V"⟩ : MethodName) prog_45_method_5_code 2 none :: ws) ({ frames := 2, cells := 1, slots := 16, locals := 30 } : Room)) (fun a U => a = #[(.ref a0), (.int p1)] ∧ Z.Warmed39 U.vm ∧ U.heap = h0) (fun _ _ _ _ _ => True) (fun _ U o U' => ∃ v L, o = .returned v ∧ own_QAI Z a0 p1 n sh h0 n0 v U'.heap L ∧ FrameEnd U o U' L ({ frames := 2, cells := 1, slots := 16, locals := 30 } : Room).cells ({ frames := 2, cells := 1, slots := 16, locals := 30 } : Room).slots) := by
  refine MetFree.of_bodySF (plainFor_of_name own_pn0) hisR ?_
  intro p e s m args below meth c s₁ Bd hml0 hP hK
  obtain ⟨rfl, hZ, hh⟩ := hP
  have hx := Bd.exec
  have hby := Bd.bytes
  have hlk : meth.locks = false := BodyLoose.notSynchronized Bd
  have hml : c.maxLocals = 2 := hml0
  have hown : s.vm.findClass "com/example/restate/restate/model/LongColumn" = some m.cls := findClass_of_methodNamed Bd.named
  have hnm := (name_of_methodNamed Bd.named Bd.method).1
  have X0 : Stand p l e ({ frames := 2, cells := 1, slots := 16, locals := 30 } : Room) s m #[(.ref a0), (.int p1)] below meth c s₁ [] 0 0 := Stand.of_body Bd
  have e0 : s₁.heap = h0 := by rw [← hh, Bd.state]; rfl
  have N0 := Fr.nil n0
  have K0 : Keep h0 h0 [a0] := Keep.refl _ _
  have pre0 : ∀ t, Steps p.tables e below (s₁.setTop (mkF m 0 #[.val (.ref a0), .val (.int p1)] [])) t → Steps p.tables e below (s₁.setTop (entryFrame m #[(.ref a0), (.int p1)] 2)) t := fun t k => castTop (own_ef_12 m a0 p1) k
  show own_Ends p.tables e below (own_Q s (own_QAI Z a0 p1 n sh h0 n0) ({ frames := 2, cells := 1, slots := 16, locals := 30 } : Room).cells ({ frames := 2, cells := 1, slots := 16, locals := 30 } : Room).slots) (s₁.setTop (entryFrame m #[(.ref a0), (.int p1)] 2))
  refine own_step pre0 ?_
  show own_Ends p.tables e below _ (s₁.setTop (mkF m 0 #[.val (.ref a0), .val (.int p1)] []))
  refine own_step (fun _ k => XS.aloadN X0.here hx rfl (hb hby own_d12_0) rfl rfl k) ?_
  show own_Ends p.tables e below _ (s₁.setTop (mkF m 1 #[.val (.ref a0), .val (.int p1)] [(.ref a0)]))
  obtain ⟨T1, X1, e1, st1⟩ := getF X0 hx hZ hown (host := "") (Or.inl (hw _ (List.mem_of_getElem? (i := 18) rfl))) Via.refl e0 F_ints (g := (mkF m 1 #[.val (.ref a0), .val (.int p1)] [(.ref a0)])) rfl rfl (hb hby own_d12_1)
  refine own_step st1 ?_
  show own_Ends p.tables e below _ (T1.setTop (mkF m 4 #[.val (.ref a0), .val (.int p1)] [.null]))
  refine own_step (fun _ k => XS.ifnonnullNo X1.here hx rfl (hb hby own_d12_4) rfl k) ?_
  show own_Ends p.tables e below _ (T1.setTop (mkF m 7 #[.val (.ref a0), .val (.int p1)] []))
  refine own_step (fun _ k => XS.aloadN X1.here hx rfl (hb hby own_d12_7) rfl rfl k) ?_
  show own_Ends p.tables e below _ (T1.setTop (mkF m 8 #[.val (.ref a0), .val (.int p1)] [(.ref a0)]))
  refine own_step (fun _ k => XS.bipush X1.here hx rfl (hb hby own_d12_8) k) ?_
  show own_Ends p.tables e below _ (T1.setTop (mkF m 10 #[.val (.ref a0), .val (.int p1)] [(.int (16 : Int32)), (.ref a0)]))
  refine own_step (fun _ k => XS.aloadN X1.here hx rfl (hb hby own_d12_10) rfl rfl k) ?_
  show own_Ends p.tables e below _ (T1.setTop (mkF m 11 #[.val (.ref a0), .val (.int p1)] [(.ref a0), (.int (16 : Int32)), (.ref a0)]))
  obtain ⟨T2, X2, e2, st2⟩ := getF X1 hx hZ hown (host := "") (Or.inl (hw _ (List.mem_of_getElem? (i := 22) rfl))) Via.refl e1 F_size (g := (mkF m 11 #[.val (.ref a0), .val (.int p1)] [(.ref a0), (.int (16 : Int32)), (.ref a0)])) rfl rfl (hb hby own_d12_11)
  refine own_step st2 ?_
  show own_Ends p.tables e below _ (T2.setTop (mkF m 14 #[.val (.ref a0), .val (.int p1)] [(.int (Int32.ofNat n)), (.int (16 : Int32)), (.ref a0)]))
  obtain ⟨_, _, ⟨T3, L3, k3, n3⟩, -, X3, ⟨Lc3, hQ3, l3, y3, z3⟩, st3⟩ := Jvm.LawKit.callS X2 hx (y := (⟨"com/example/restate/restate/model/LongColumn", "doubled", "(I)I"⟩ : MethodName)) hown (mvT hZ (hw _ (List.mem_of_getElem? (i := 33) rfl))) (mvT hZ (hw _ (List.mem_of_getElem? (i := 34) rfl))) (mvT hZ (hw _ (List.mem_of_getElem? (i := 6) rfl))) (mvT hZ (hw _ (List.mem_of_getElem? (i := 35) rfl))) (by decide) (backOf (W := 2) (own_rm_doubled l Z aw hw [] (Int32.ofNat n) h0 n0 Z0 ) hZ (hw _ (List.mem_of_getElem? (i := 35) rfl)) (hw _ (List.mem_of_getElem? (i := 6) rfl)) (by decide) (by decide)) (g := (mkF m 14 #[.val (.ref a0), .val (.int p1)] [(.int (Int32.ofNat n)), (.int (16 : Int32)), (.ref a0)])) rfl (by rw [hml]; rfl) (argsL := [(.int (Int32.ofNat n))]) (rest := [(.int (16 : Int32)), (.ref a0)]) (lenOf own_pd3 rfl) rfl (by show 2 * 0 + _ ≤ _; exact Nat.le_of_eq rfl) (hb hby own_d12_14) (fun _ _ => ⟨rfl, e2, (by decide : 0 + 0 ≤ _), (by decide : 0 + 0 ≤ _)⟩)
  dsimp only [Pt.U, Pt.locs, Pt.cells, Pt.slots] at X3 l3 y3 z3 st3 hQ3
  subst l3 y3 z3
  obtain ⟨rfl, N3q, e3⟩ := hQ3
  have N_3 := Fr.app N0 N3q
  refine own_step st3 ?_
  show own_Ends p.tables e below _ (T3.setTop (mkF m 17 #[.val (.ref a0), .val (.int p1)] [(.int (own_doubled (Int32.ofNat n))), (.int (16 : Int32)), (.ref a0)]))
  obtain ⟨_, _, ⟨T4, L4, k4, n4⟩, -, X4, ⟨Lc4, hQ4, l4, y4, z4⟩, st4⟩ := Jvm.LawKit.callS X3 hx (y := (⟨"java/lang/Math", "max", "(II)I"⟩ : MethodName)) hown (mvT hZ (hw _ (List.mem_of_getElem? (i := 42) rfl))) (mvT hZ (hw _ (List.mem_of_getElem? (i := 43) rfl))) (mvT hZ (hw _ (List.mem_of_getElem? (i := 40) rfl))) (mvT hZ (hw _ (List.mem_of_getElem? (i := 44) rfl))) (by decide) (backOf (W := 1) (own_rm_maxI l Z aw hw [] (16 : Int32) (own_doubled (Int32.ofNat n)) h0 n0 Z0 ) hZ (hw _ (List.mem_of_getElem? (i := 44) rfl)) (hw _ (List.mem_of_getElem? (i := 40) rfl)) (by decide) (by decide)) (g := (mkF m 17 #[.val (.ref a0), .val (.int p1)] [(.int (own_doubled (Int32.ofNat n))), (.int (16 : Int32)), (.ref a0)])) rfl (by rw [hml]; rfl) (argsL := [(.int (16 : Int32)), (.int (own_doubled (Int32.ofNat n)))]) (rest := [(.ref a0)]) (lenOf own_pd4 rfl) rfl (by show 2 * 0 + _ ≤ _; exact Nat.le_of_eq rfl) (hb hby own_d12_17) (fun _ _ => ⟨rfl, e3, (by decide : 0 + 0 ≤ _), (by decide : 0 + 0 ≤ _)⟩)
  dsimp only [Pt.U, Pt.locs, Pt.cells, Pt.slots] at X4 l4 y4 z4 st4 hQ4
  subst l4 y4 z4
  obtain ⟨rfl, N4q, e4⟩ := hQ4
  have N_4 := Fr.app N_3 N4q
  refine own_step st4 ?_
  show own_Ends p.tables e below _ (T4.setTop (mkF m 20 #[.val (.ref a0), .val (.int p1)] [(.int (own_maxI (16 : Int32) (own_doubled (Int32.ofNat n)))), (.ref a0)]))
  rw [own_cap n (by omega)]
  show own_Ends p.tables e below _ (T4.setTop (mkF m 20 #[.val (.ref a0), .val (.int p1)] [(.int (16 : Int32)), (.ref a0)]))
  obtain ⟨T5, h5, k5, X5, e5, E5, A5, st5⟩ := newP X4 hx hZ (hw _ (List.mem_of_getElem? (i := 61) rfl)) e4 (g := (mkF m 20 #[.val (.ref a0), .val (.int p1)] [(.int (16 : Int32)), (.ref a0)])) rfl (hb hby own_d12_20) rfl (by decide) (cap := 16) (by decide) (by decide) (by decide) (by decide)
  obtain ⟨b5, g5⟩ : ∃ z, z = h0.size := ⟨_, rfl⟩
  rw [← g5] at A5 st5
  refine own_step st5 ?_
  have ne_a0_b5 : a0 ≠ b5 := Nat.ne_of_lt (Nat.lt_of_lt_of_le E_a0.lt (Nat.le_of_eq g5.symm))
  have g_b5 : n0 ≤ b5 := Nat.le_trans Z0 (Nat.le_of_eq g5.symm)
  have sz_b5 : h0.size ≤ b5 := Nat.le_trans K0.1 (Nat.le_of_eq g5.symm)
  have E_a0_5 := E_a0.ext E5
  have F_size_5 := F_size.ext E5
  have F_shared_5 := F_shared.ext E5
  have F_ints_5 := F_ints.ext E5
  have F_longs_5 := F_longs.ext E5
  have K_5 : Keep h0 h5 [a0] := K0.ext E5
  have Z_5 : n0 ≤ h5.size := Nat.le_trans Z0 E5.1
  have V_b5 : Arv Z h5 b5 k5 .int (16 : Int32) (List.replicate 16 (.int (0 : Int32))) (.int (0 : Int32)) := (Arv.new A5 (by decide)).pad (pad_rep [] (.int (0 : Int32)) 16)
  show own_Ends p.tables e below _ (T5.setTop (mkF m 22 #[.val (.ref a0), .val (.int p1)] [(.ref b5), (.ref a0)]))
  obtain ⟨T6, h6, X6, e6, W6, st6⟩ := putF X5 hx hZ hown (host := "") (Or.inl (hw _ (List.mem_of_getElem? (i := 18) rfl))) Via.refl e5 F_ints_5 E_a0_5 (Or.inl (hw _ (List.mem_of_getElem? (i := 19) rfl))) (hw _ (List.mem_of_getElem? (i := 5) rfl)) (ty := (.array .int)) (by decide) rfl rfl (g := (mkF m 22 #[.val (.ref a0), .val (.int p1)] [(.ref b5), (.ref a0)])) rfl rfl (hb hby own_d12_22)
  refine own_step st6 ?_
  have E_a0_6 := E_a0_5.wr W6
  have F_size_6 := F_size_5.other W6 (Or.inr (slot_ne (Or.inl (hw _ (List.mem_of_getElem? (i := 23) rfl))) (Or.inl (hw _ (List.mem_of_getElem? (i := 19) rfl))) (by decide) (t := .int) (t' := (.array .int)) (by decide) (by decide)))
  have F_shared_6 := F_shared_5.other W6 (Or.inr (slot_ne (Or.inl (hw _ (List.mem_of_getElem? (i := 25) rfl))) (Or.inl (hw _ (List.mem_of_getElem? (i := 19) rfl))) (by decide) (t := .long) (t' := (.array .int)) (by decide) (by decide)))
  have F_ints_6 := F_ints_5.same W6
  have F_longs_6 := F_longs_5.other W6 (Or.inr (slot_ne (Or.inl (hw _ (List.mem_of_getElem? (i := 21) rfl))) (Or.inl (hw _ (List.mem_of_getElem? (i := 19) rfl))) (by decide) (t := (.array .long)) (t' := (.array .int)) (by decide) (by decide)))
  have V_b5_6 := V_b5.other W6 (Ne.symm ne_a0_b5)
  have K_6 : Keep h0 h6 [a0] := K_5.wr W6 (Or.inl (List.mem_of_getElem? (i := 0) rfl))
  have Z_6 : n0 ≤ h6.size := Nat.le_trans Z_5 (Keep.of_wr W6).1
  have N_6 := Fr.snoc X6 N_4 g_a0
  show own_Ends p.tables e below _ (T6.setTop (mkF m 25 #[.val (.ref a0), .val (.int p1)] []))
  refine own_step (fun _ k => XS.aloadN X6.here hx rfl (hb hby own_d12_25) rfl rfl k) ?_
  show own_Ends p.tables e below _ (T6.setTop (mkF m 26 #[.val (.ref a0), .val (.int p1)] [(.ref a0)]))
  obtain ⟨T7, X7, e7, st7⟩ := getF X6 hx hZ hown (host := "") (Or.inl (hw _ (List.mem_of_getElem? (i := 18) rfl))) Via.refl e6 F_ints_6 (g := (mkF m 26 #[.val (.ref a0), .val (.int p1)] [(.ref a0)])) rfl rfl (hb hby own_d12_26)
  refine own_step st7 ?_
  show own_Ends p.tables e below _ (T7.setTop (mkF m 29 #[.val (.ref a0), .val (.int p1)] [(.ref b5)]))
  refine own_step (fun _ k => XS.iconst X7.here hx rfl (hb hby own_d12_29) k) ?_
  show own_Ends p.tables e below _ (T7.setTop (mkF m 30 #[.val (.ref a0), .val (.int p1)] [(.int (0 : Int32)), (.ref b5)]))
  refine own_step (fun _ k => XS.aloadN X7.here hx rfl (hb hby own_d12_30) rfl rfl k) ?_
  show own_Ends p.tables e below _ (T7.setTop (mkF m 31 #[.val (.ref a0), .val (.int p1)] [(.ref a0), (.int (0 : Int32)), (.ref b5)]))
  obtain ⟨T8, X8, e8, st8⟩ := getF X7 hx hZ hown (host := "") (Or.inl (hw _ (List.mem_of_getElem? (i := 22) rfl))) Via.refl e7 F_size_6 (g := (mkF m 31 #[.val (.ref a0), .val (.int p1)] [(.ref a0), (.int (0 : Int32)), (.ref b5)])) rfl rfl (hb hby own_d12_31)
  refine own_step st8 ?_
  show own_Ends p.tables e below _ (T8.setTop (mkF m 34 #[.val (.ref a0), .val (.int p1)] [(.int (Int32.ofNat n)), (.int (0 : Int32)), (.ref b5)]))
  refine own_step (fun _ k => XS.aloadN X8.here hx rfl (hb hby own_d12_34) rfl rfl k) ?_
  show own_Ends p.tables e below _ (T8.setTop (mkF m 35 #[.val (.ref a0), .val (.int p1)] [(.ref a0), (.int (Int32.ofNat n)), (.int (0 : Int32)), (.ref b5)]))
  obtain ⟨T9, X9, e9, st9⟩ := getF X8 hx hZ hown (host := "") (Or.inl (hw _ (List.mem_of_getElem? (i := 24) rfl))) Via.refl e8 F_shared_6 (g := (mkF m 35 #[.val (.ref a0), .val (.int p1)] [(.ref a0), (.int (Int32.ofNat n)), (.int (0 : Int32)), (.ref b5)])) rfl rfl (hb hby own_d12_35)
  refine own_step st9 ?_
  show own_Ends p.tables e below _ (T9.setTop (mkF m 38 #[.val (.ref a0), .val (.int p1)] [(.long sh), (.int (Int32.ofNat n)), (.int (0 : Int32)), (.ref b5)]))
  refine own_step (fun _ k => XS.l2i X9.here hx rfl (hb hby own_d12_38) rfl k) ?_
  show own_Ends p.tables e below _ (T9.setTop (mkF m 39 #[.val (.ref a0), .val (.int p1)] [(.int (sh.toInt32)), (.int (Int32.ofNat n)), (.int (0 : Int32)), (.ref b5)]))
  obtain ⟨_, _, ⟨T10, L10, k10, n10⟩, -, X10, ⟨Lc10, hQ10, l10, y10, z10⟩, st10⟩ := Jvm.LawKit.callS X9 hx (y := (⟨"java/util/Arrays", "fill", "([IIII)V"⟩ : MethodName)) hown (mvT hZ (hw _ (List.mem_of_getElem? (i := 62) rfl))) (mvT hZ (hw _ (List.mem_of_getElem? (i := 63) rfl))) (mvT hZ (hw _ (List.mem_of_getElem? (i := 64) rfl))) (mvT hZ (hw _ (List.mem_of_getElem? (i := 65) rfl))) (by decide) (backOf (W := 0) (own_rm_fill l Z aw hw [] b5 (sh.toInt32) n k5 (List.replicate 16 (.int (0 : Int32))) h6 n0 Z_6 V_b5_6 (by simp) (by omega) g_b5) hZ (hw _ (List.mem_of_getElem? (i := 65) rfl)) (hw _ (List.mem_of_getElem? (i := 64) rfl)) (by decide) (by decide)) (g := (mkF m 39 #[.val (.ref a0), .val (.int p1)] [(.int (sh.toInt32)), (.int (Int32.ofNat n)), (.int (0 : Int32)), (.ref b5)])) rfl (by rw [hml]; rfl) (argsL := [(.ref b5), (.int (0 : Int32)), (.int (Int32.ofNat n)), (.int (sh.toInt32))]) (rest := []) (lenOf own_pd5 rfl) rfl (by show 2 * 0 + _ ≤ _; exact Nat.le_of_eq rfl) (hb hby own_d12_39) (fun _ _ => ⟨rfl, e9, (by decide : 1 + 0 ≤ _), (by decide : 16 + 0 ≤ _)⟩)
  dsimp only [Pt.U, Pt.locs, Pt.cells, Pt.slots] at X10 l10 y10 z10 st10 hQ10
  subst l10 y10 z10
  obtain ⟨rfl, N10q, k10, V_b5_10⟩ := hQ10
  have N_10 := Fr.app N_6 N10q
  have E_a0_10 := E_a0_6.keep k10
  have F_size_10 := F_size_6.keep k10 (ninS ne_a0_b5 nin0)
  have F_shared_10 := F_shared_6.keep k10 (ninS ne_a0_b5 nin0)
  have F_ints_10 := F_ints_6.keep k10 (ninS ne_a0_b5 nin0)
  have F_longs_10 := F_longs_6.keep k10 (ninS ne_a0_b5 nin0)
  have K_10 : Keep h0 T10.heap [a0] := K_6.trans k10 (allS (Or.inr sz_b5) all0)
  have Z_10 : n0 ≤ T10.heap.size := Nat.le_trans Z_6 k10.1
  refine own_step st10 ?_
  show own_Ends p.tables e below _ (T10.setTop (mkF m 42 #[.val (.ref a0), .val (.int p1)] []))
  refine own_step (fun _ k => XS.goto X10.here hx rfl (pc0 := 42) (pc' := 75) rfl (hb hby own_d12_42) (by decide) (by decide) k) ?_
  show own_Ends p.tables e below _ (T10.setTop (mkF m 75 #[.val (.ref a0), .val (.int p1)] []))
  refine own_step (fun _ k => XS.aloadN X10.here hx rfl (hb hby own_d12_75) rfl rfl k) ?_
  show own_Ends p.tables e below _ (T10.setTop (mkF m 76 #[.val (.ref a0), .val (.int p1)] [(.ref a0)]))
  obtain ⟨T11, X11, e11, st11⟩ := getF X10 hx hZ hown (host := "") (Or.inl (hw _ (List.mem_of_getElem? (i := 18) rfl))) Via.refl rfl F_ints_10 (g := (mkF m 76 #[.val (.ref a0), .val (.int p1)] [(.ref a0)])) rfl rfl (hb hby own_d12_76)
  refine own_step st11 ?_
  show own_Ends p.tables e below _ (T11.setTop (mkF m 79 #[.val (.ref a0), .val (.int p1)] [(.ref b5)]))
  refine own_step (fun _ k => XS.aloadN X11.here hx rfl (hb hby own_d12_79) rfl rfl k) ?_
  show own_Ends p.tables e below _ (T11.setTop (mkF m 80 #[.val (.ref a0), .val (.int p1)] [(.ref a0), (.ref b5)]))
  obtain ⟨T12, X12, e12, st12⟩ := getF X11 hx hZ hown (host := "") (Or.inl (hw _ (List.mem_of_getElem? (i := 22) rfl))) Via.refl e11 F_size_10 (g := (mkF m 80 #[.val (.ref a0), .val (.int p1)] [(.ref a0), (.ref b5)])) rfl rfl (hb hby own_d12_80)
  refine own_step st12 ?_
  show own_Ends p.tables e below _ (T12.setTop (mkF m 83 #[.val (.ref a0), .val (.int p1)] [(.int (Int32.ofNat n)), (.ref b5)]))
  refine own_step (fun _ k => XS.iloadN X12.here hx rfl (hb hby own_d12_83) rfl k) ?_
  show own_Ends p.tables e below _ (T12.setTop (mkF m 84 #[.val (.ref a0), .val (.int p1)] [(.int p1), (.int (Int32.ofNat n)), (.ref b5)]))
  obtain ⟨cl13, Ar13, q13, S13, Nn13, H13, G13⟩ := id V_b5_10
  have hin13 : ¬ ((Int32.ofNat n) < 0 ∨ cl13.slots.size ≤ ((Int32.ofNat n)).toNatClampNeg) := inb_of S13 ⟨(own_nn (by omega)), (own_l16 (by omega))⟩
  obtain ⟨T13, h13, X13, e13, W13, st13⟩ := stI X12 hx hZ e12 Ar13 (j := (Int32.ofNat n)) hin13 (g := (mkF m 84 #[.val (.ref a0), .val (.int p1)] [(.int p1), (.int (Int32.ofNat n)), (.ref b5)])) rfl rfl (hb hby own_d12_84)
  refine own_step st13 ?_
  have E_a0_13 := E_a0_10.wr W13
  have F_size_13 := F_size_10.other W13 (Or.inl ne_a0_b5)
  have F_shared_13 := F_shared_10.other W13 (Or.inl ne_a0_b5)
  have F_ints_13 := F_ints_10.other W13 (Or.inl ne_a0_b5)
  have F_longs_13 := F_longs_10.other W13 (Or.inl ne_a0_b5)
  have K_13 : Keep h0 h13 [a0] := K_10.wr W13 (Or.inr sz_b5)
  have Z_13 : n0 ≤ h13.size := Nat.le_trans Z_10 (Keep.of_wr W13).1
  have N_13 := Fr.snoc X13 N_10 g_b5
  have V_b5_13 : Arv Z h13 b5 k5 .int (16 : Int32) ((own_lt (fun _ => Value.int (sh.toInt32)) (List.replicate 16 (.int (0 : Int32))) n).set n (.int p1)) (.int (0 : Int32)) := Arv.set Ar13 q13 S13 Nn13 H13 G13 rfl W13 n (own_clamp (by omega)) (by first | (rw [own_lt_len]; simp; omega) | omega)
  show own_Ends p.tables e below _ (T13.setTop (mkF m 85 #[.val (.ref a0), .val (.int p1)] []))
  exact own_ret0 X13 hx hlk (by decide) (by decide) Bd.returns (hb hby own_d12_85) (by rw [e13]; exact ⟨rfl, N_13, K_13, F_size_13, F_shared_13, F_longs_13, b5, _, F_ints_13, ne_a0_b5, g_b5, V_b5_13⟩)
theorem own_d12_45 : decode prog_45_method_5_code 45 = .ok (.aload_n 0, 1) := by decide +kernel
theorem own_d12_46 : decode prog_45_method_5_code 46 = .ok (.getfield 7, 3) := by decide +kernel
theorem own_d12_49 : decode prog_45_method_5_code 49 = .ok (.aload_n 0, 1) := by decide +kernel
theorem own_d12_50 : decode prog_45_method_5_code 50 = .ok (.getfield 13, 3) := by decide +kernel
theorem own_d12_53 : decode prog_45_method_5_code 53 = .ok (.arraylength, 1) := by decide +kernel
theorem own_d12_54 : decode prog_45_method_5_code 54 = .ok (.if_icmp .ne 21, 3) := by decide +kernel
def own_Q_addInt_in (Z : State) (a0 : Addr) (p1 : Int32) (n : Nat) (b : Addr) (k : ClassId) (vs : List Value) (h0 : Heap) (n0 : Nat) (v : Option Value) (h : Heap) (L : List Loc) : Prop := v = none ∧ Fr n0 L ∧ Keep h0 h [b] ∧ Arv Z h b k .int (16 : Int32) (vs.set n (.int p1)) (.int (0 : Int32))
set_option maxRecDepth 65536 in
set_option maxHeartbeats 40000000 in
theorem own_rm_addInt_in (l : Launch) (Z : State) (aw : Array Value) (hw : ∀ d ∈ tables_1, d.before aw Z = true) (ws : List Jvm.Cond) (a0 : Addr) (p1 : Int32) (n : Nat) (b : Addr) (k : ClassId) (vs : List Value) (h0 : Heap) (n0 : Nat) (Z0 : n0 ≤ h0.size) (F_size : Fld Z h0 a0 "com/example/restate/restate/model/LongColumn" "size" "I" (.int (Int32.ofNat n))) (F_ints : Fld Z h0 a0 "com/example/restate/restate/model/LongColumn" "ints" "[I" (.ref b)) (V_b : Arv Z h0 b k .int (16 : Int32) vs (.int (0 : Int32))) (hl : vs.length = 16) (ne_ab : a0 ≠ b) (g_b : n0 ≤ b) (hn : n < 8) :
    MetFree l (⟨"com/example/restate/restate/model/LongColumn", "addInt", "(I)V"⟩ : MethodName) (head1 (Jvm.Cond.code (⟨"com/example/restate/restate/model/LongColumn", "addInt", "(I)V"⟩ : MethodName) prog_45_method_5_code 2 none :: ws) ({ frames := 2, cells := 1, slots := 16, locals := 30 } : Room)) (fun a U => a = #[(.ref a0), (.int p1)] ∧ Z.Warmed39 U.vm ∧ U.heap = h0) (fun _ _ _ _ _ => True) (fun _ U o U' => ∃ v L, o = .returned v ∧ own_Q_addInt_in Z a0 p1 n b k vs h0 n0 v U'.heap L ∧ FrameEnd U o U' L ({ frames := 2, cells := 1, slots := 16, locals := 30 } : Room).cells ({ frames := 2, cells := 1, slots := 16, locals := 30 } : Room).slots) := by
  refine MetFree.of_bodySF (plainFor_of_name own_pn0) hisR ?_
  intro p e s m args below meth c s₁ Bd hml0 hP hK
  obtain ⟨rfl, hZ, hh⟩ := hP
  have hx := Bd.exec
  have hby := Bd.bytes
  have hlk : meth.locks = false := BodyLoose.notSynchronized Bd
  have hml : c.maxLocals = 2 := hml0
  have hown : s.vm.findClass "com/example/restate/restate/model/LongColumn" = some m.cls := findClass_of_methodNamed Bd.named
  have hnm := (name_of_methodNamed Bd.named Bd.method).1
  have X0 : Stand p l e ({ frames := 2, cells := 1, slots := 16, locals := 30 } : Room) s m #[(.ref a0), (.int p1)] below meth c s₁ [] 0 0 := Stand.of_body Bd
  have e0 : s₁.heap = h0 := by rw [← hh, Bd.state]; rfl
  have N0 := Fr.nil n0
  have K0 : Keep h0 h0 [b] := Keep.refl _ _
  have pre0 : ∀ t, Steps p.tables e below (s₁.setTop (mkF m 0 #[.val (.ref a0), .val (.int p1)] [])) t → Steps p.tables e below (s₁.setTop (entryFrame m #[(.ref a0), (.int p1)] 2)) t := fun t k => castTop (own_ef_12 m a0 p1) k
  show own_Ends p.tables e below (own_Q s (own_Q_addInt_in Z a0 p1 n b k vs h0 n0) ({ frames := 2, cells := 1, slots := 16, locals := 30 } : Room).cells ({ frames := 2, cells := 1, slots := 16, locals := 30 } : Room).slots) (s₁.setTop (entryFrame m #[(.ref a0), (.int p1)] 2))
  refine own_step pre0 ?_
  show own_Ends p.tables e below _ (s₁.setTop (mkF m 0 #[.val (.ref a0), .val (.int p1)] []))
  refine own_step (fun _ k => XS.aloadN X0.here hx rfl (hb hby own_d12_0) rfl rfl k) ?_
  show own_Ends p.tables e below _ (s₁.setTop (mkF m 1 #[.val (.ref a0), .val (.int p1)] [(.ref a0)]))
  obtain ⟨T1, X1, e1, st1⟩ := getF X0 hx hZ hown (host := "") (Or.inl (hw _ (List.mem_of_getElem? (i := 18) rfl))) Via.refl e0 F_ints (g := (mkF m 1 #[.val (.ref a0), .val (.int p1)] [(.ref a0)])) rfl rfl (hb hby own_d12_1)
  refine own_step st1 ?_
  show own_Ends p.tables e below _ (T1.setTop (mkF m 4 #[.val (.ref a0), .val (.int p1)] [(.ref b)]))
  refine own_step (fun _ k => XS.ifnonnullYes X1.here hx rfl (pc0 := 4) (pc' := 45) rfl (hb hby own_d12_4) rfl (by decide) (by decide) k) ?_
  show own_Ends p.tables e below _ (T1.setTop (mkF m 45 #[.val (.ref a0), .val (.int p1)] []))
  refine own_step (fun _ k => XS.aloadN X1.here hx rfl (hb hby own_d12_45) rfl rfl k) ?_
  show own_Ends p.tables e below _ (T1.setTop (mkF m 46 #[.val (.ref a0), .val (.int p1)] [(.ref a0)]))
  obtain ⟨T2, X2, e2, st2⟩ := getF X1 hx hZ hown (host := "") (Or.inl (hw _ (List.mem_of_getElem? (i := 22) rfl))) Via.refl e1 F_size (g := (mkF m 46 #[.val (.ref a0), .val (.int p1)] [(.ref a0)])) rfl rfl (hb hby own_d12_46)
  refine own_step st2 ?_
  show own_Ends p.tables e below _ (T2.setTop (mkF m 49 #[.val (.ref a0), .val (.int p1)] [(.int (Int32.ofNat n))]))
  refine own_step (fun _ k => XS.aloadN X2.here hx rfl (hb hby own_d12_49) rfl rfl k) ?_
  show own_Ends p.tables e below _ (T2.setTop (mkF m 50 #[.val (.ref a0), .val (.int p1)] [(.ref a0), (.int (Int32.ofNat n))]))
  obtain ⟨T3, X3, e3, st3⟩ := getF X2 hx hZ hown (host := "") (Or.inl (hw _ (List.mem_of_getElem? (i := 18) rfl))) Via.refl e2 F_ints (g := (mkF m 50 #[.val (.ref a0), .val (.int p1)] [(.ref a0), (.int (Int32.ofNat n))])) rfl rfl (hb hby own_d12_50)
  refine own_step st3 ?_
  show own_Ends p.tables e below _ (T3.setTop (mkF m 53 #[.val (.ref a0), .val (.int p1)] [(.ref b), (.int (Int32.ofNat n))]))
  obtain ⟨cl4, Ar4, q4, S4, Nn4, H4, G4⟩ := id V_b
  refine own_step (fun _ k => X3.arraylength hx (by rw [e3]; exact Ar4.1) (State.isArrayOf_alike hZ.alike Ar4.2.1) (g := (mkF m 53 #[.val (.ref a0), .val (.int p1)] [(.ref b), (.int (Int32.ofNat n))])) rfl rfl (hb hby own_d12_53) _ k) ?_
  rw [len_of S4 Nn4]
  show own_Ends p.tables e below _ (T3.setTop (mkF m 54 #[.val (.ref a0), .val (.int p1)] [(.int (16 : Int32)), (.int (Int32.ofNat n))]))
  refine own_step (fun _ k => XS.icmpYes X3.here hx rfl (pc0 := 54) (pc' := 75) rfl (hb hby own_d12_54) rfl (feq (own_n16 (by omega))).2 (by decide) (by decide) k) ?_
  show own_Ends p.tables e below _ (T3.setTop (mkF m 75 #[.val (.ref a0), .val (.int p1)] []))
  refine own_step (fun _ k => XS.aloadN X3.here hx rfl (hb hby own_d12_75) rfl rfl k) ?_
  show own_Ends p.tables e below _ (T3.setTop (mkF m 76 #[.val (.ref a0), .val (.int p1)] [(.ref a0)]))
  obtain ⟨T5, X5, e5, st5⟩ := getF X3 hx hZ hown (host := "") (Or.inl (hw _ (List.mem_of_getElem? (i := 18) rfl))) Via.refl e3 F_ints (g := (mkF m 76 #[.val (.ref a0), .val (.int p1)] [(.ref a0)])) rfl rfl (hb hby own_d12_76)
  refine own_step st5 ?_
  show own_Ends p.tables e below _ (T5.setTop (mkF m 79 #[.val (.ref a0), .val (.int p1)] [(.ref b)]))
  refine own_step (fun _ k => XS.aloadN X5.here hx rfl (hb hby own_d12_79) rfl rfl k) ?_
  show own_Ends p.tables e below _ (T5.setTop (mkF m 80 #[.val (.ref a0), .val (.int p1)] [(.ref a0), (.ref b)]))
  obtain ⟨T6, X6, e6, st6⟩ := getF X5 hx hZ hown (host := "") (Or.inl (hw _ (List.mem_of_getElem? (i := 22) rfl))) Via.refl e5 F_size (g := (mkF m 80 #[.val (.ref a0), .val (.int p1)] [(.ref a0), (.ref b)])) rfl rfl (hb hby own_d12_80)
  refine own_step st6 ?_
  show own_Ends p.tables e below _ (T6.setTop (mkF m 83 #[.val (.ref a0), .val (.int p1)] [(.int (Int32.ofNat n)), (.ref b)]))
  refine own_step (fun _ k => XS.iloadN X6.here hx rfl (hb hby own_d12_83) rfl k) ?_
  show own_Ends p.tables e below _ (T6.setTop (mkF m 84 #[.val (.ref a0), .val (.int p1)] [(.int p1), (.int (Int32.ofNat n)), (.ref b)]))
  obtain ⟨cl7, Ar7, q7, S7, Nn7, H7, G7⟩ := id V_b
  have hin7 : ¬ ((Int32.ofNat n) < 0 ∨ cl7.slots.size ≤ ((Int32.ofNat n)).toNatClampNeg) := inb_of S7 ⟨(own_nn (by omega)), (own_l16 (by omega))⟩
  obtain ⟨T7, h7, X7, e7, W7, st7⟩ := stI X6 hx hZ e6 Ar7 (j := (Int32.ofNat n)) hin7 (g := (mkF m 84 #[.val (.ref a0), .val (.int p1)] [(.int p1), (.int (Int32.ofNat n)), (.ref b)])) rfl rfl (hb hby own_d12_84)
  refine own_step st7 ?_
  have F_size_7 := F_size.other W7 (Or.inl ne_ab)
  have F_ints_7 := F_ints.other W7 (Or.inl ne_ab)
  have K_7 : Keep h0 h7 [b] := K0.wr W7 (Or.inl (List.mem_of_getElem? (i := 0) rfl))
  have Z_7 : n0 ≤ h7.size := Nat.le_trans Z0 (Keep.of_wr W7).1
  have N_7 := Fr.snoc X7 N0 g_b
  have V_b_7 : Arv Z h7 b k .int (16 : Int32) (vs.set n (.int p1)) (.int (0 : Int32)) := Arv.set Ar7 q7 S7 Nn7 H7 G7 rfl W7 n (own_clamp (by omega)) (by first | (rw [own_lt_len]; simp; omega) | omega)
  show own_Ends p.tables e below _ (T7.setTop (mkF m 85 #[.val (.ref a0), .val (.int p1)] []))
  exact own_ret0 X7 hx hlk (by decide) (by decide) Bd.returns (hb hby own_d12_85) (by rw [e7]; exact ⟨rfl, N_7, K_7, V_b_7⟩)
theorem own_pd6 : parseMethodDescriptor "(I)J" = some ⟨[.int], some .long⟩ := by decide +kernel
theorem own_d6_0 : decode prog_45_method_6_code 0 = .ok (.aload_n 0, 1) := by decide +kernel
theorem own_d6_1 : decode prog_45_method_6_code 1 = .ok (.getfield 17, 3) := by decide +kernel
theorem own_d6_4 : decode prog_45_method_6_code 4 = .ok (.ifnonnull 59, 3) := by decide +kernel
theorem own_d6_63 : decode prog_45_method_6_code 63 = .ok (.aload_n 0, 1) := by decide +kernel
theorem own_d6_64 : decode prog_45_method_6_code 64 = .ok (.getfield 7, 3) := by decide +kernel
theorem own_d6_67 : decode prog_45_method_6_code 67 = .ok (.aload_n 0, 1) := by decide +kernel
theorem own_d6_68 : decode prog_45_method_6_code 68 = .ok (.getfield 17, 3) := by decide +kernel
theorem own_d6_71 : decode prog_45_method_6_code 71 = .ok (.arraylength, 1) := by decide +kernel
theorem own_d6_72 : decode prog_45_method_6_code 72 = .ok (.if_icmp .ne 21, 3) := by decide +kernel
theorem own_d6_93 : decode prog_45_method_6_code 93 = .ok (.aload_n 0, 1) := by decide +kernel
theorem own_d6_94 : decode prog_45_method_6_code 94 = .ok (.getfield 17, 3) := by decide +kernel
theorem own_d6_97 : decode prog_45_method_6_code 97 = .ok (.aload_n 0, 1) := by decide +kernel
theorem own_d6_98 : decode prog_45_method_6_code 98 = .ok (.getfield 7, 3) := by decide +kernel
theorem own_d6_101 : decode prog_45_method_6_code 101 = .ok (.lload_n 1, 1) := by decide +kernel
theorem own_d6_102 : decode prog_45_method_6_code 102 = .ok (.lastore, 1) := by decide +kernel
theorem own_d6_103 : decode prog_45_method_6_code 103 = .ok (.return_, 1) := by decide +kernel
theorem own_ef_6 (m : MethodId) (x0 : Addr) (x1 : Int64) : entryFrame m #[(.ref x0), (.long x1)] 5 = mkF m 0 #[.val (.ref x0), .val (.long x1), .second, .unset, .unset] [] := by first | (simp [entryFrame, mkF, argsToLocals, Value.category]; done) | rfl
def own_Q_addLong_lo (Z : State) (a0 : Addr) (q1 : Int64) (n : Nat) (b : Addr) (k : ClassId) (vs : List Value) (h0 : Heap) (n0 : Nat) (v : Option Value) (h : Heap) (L : List Loc) : Prop := v = none ∧ Fr n0 L ∧ Keep h0 h [b] ∧ Arv Z h b k .long (16 : Int32) (vs.set n (.long q1)) (.long (0 : Int64))
set_option maxRecDepth 65536 in
set_option maxHeartbeats 40000000 in
theorem own_rm_addLong_lo (l : Launch) (Z : State) (aw : Array Value) (hw : ∀ d ∈ tables_1, d.before aw Z = true) (ws : List Jvm.Cond) (a0 : Addr) (q1 : Int64) (n : Nat) (b : Addr) (k : ClassId) (vs : List Value) (h0 : Heap) (n0 : Nat) (Z0 : n0 ≤ h0.size) (F_size : Fld Z h0 a0 "com/example/restate/restate/model/LongColumn" "size" "I" (.int (Int32.ofNat n))) (F_longs : Fld Z h0 a0 "com/example/restate/restate/model/LongColumn" "longs" "[J" (.ref b)) (V_b : Arv Z h0 b k .long (16 : Int32) vs (.long (0 : Int64))) (hl : vs.length = 16) (ne_ab : a0 ≠ b) (g_b : n0 ≤ b) (hn : n < 8) :
    MetFree l (⟨"com/example/restate/restate/model/LongColumn", "addLong", "(J)V"⟩ : MethodName) (head1 (Jvm.Cond.code (⟨"com/example/restate/restate/model/LongColumn", "addLong", "(J)V"⟩ : MethodName) prog_45_method_6_code 5 none :: ws) ({ frames := 2, cells := 1, slots := 16, locals := 28 } : Room)) (fun a U => a = #[(.ref a0), (.long q1)] ∧ Z.Warmed39 U.vm ∧ U.heap = h0) (fun _ _ _ _ _ => True) (fun _ U o U' => ∃ v L, o = .returned v ∧ own_Q_addLong_lo Z a0 q1 n b k vs h0 n0 v U'.heap L ∧ FrameEnd U o U' L ({ frames := 2, cells := 1, slots := 16, locals := 28 } : Room).cells ({ frames := 2, cells := 1, slots := 16, locals := 28 } : Room).slots) := by
  refine MetFree.of_bodySF (plainFor_of_name own_pn0) hisR ?_
  intro p e s m args below meth c s₁ Bd hml0 hP hK
  obtain ⟨rfl, hZ, hh⟩ := hP
  have hx := Bd.exec
  have hby := Bd.bytes
  have hlk : meth.locks = false := BodyLoose.notSynchronized Bd
  have hml : c.maxLocals = 5 := hml0
  have hown : s.vm.findClass "com/example/restate/restate/model/LongColumn" = some m.cls := findClass_of_methodNamed Bd.named
  have hnm := (name_of_methodNamed Bd.named Bd.method).1
  have X0 : Stand p l e ({ frames := 2, cells := 1, slots := 16, locals := 28 } : Room) s m #[(.ref a0), (.long q1)] below meth c s₁ [] 0 0 := Stand.of_body Bd
  have e0 : s₁.heap = h0 := by rw [← hh, Bd.state]; rfl
  have N0 := Fr.nil n0
  have K0 : Keep h0 h0 [b] := Keep.refl _ _
  have pre0 : ∀ t, Steps p.tables e below (s₁.setTop (mkF m 0 #[.val (.ref a0), .val (.long q1), .second, .unset, .unset] [])) t → Steps p.tables e below (s₁.setTop (entryFrame m #[(.ref a0), (.long q1)] 5)) t := fun t k => castTop (own_ef_6 m a0 q1) k
  show own_Ends p.tables e below (own_Q s (own_Q_addLong_lo Z a0 q1 n b k vs h0 n0) ({ frames := 2, cells := 1, slots := 16, locals := 28 } : Room).cells ({ frames := 2, cells := 1, slots := 16, locals := 28 } : Room).slots) (s₁.setTop (entryFrame m #[(.ref a0), (.long q1)] 5))
  refine own_step pre0 ?_
  show own_Ends p.tables e below _ (s₁.setTop (mkF m 0 #[.val (.ref a0), .val (.long q1), .second, .unset, .unset] []))
  refine own_step (fun _ k => XS.aloadN X0.here hx rfl (hb hby own_d6_0) rfl rfl k) ?_
  show own_Ends p.tables e below _ (s₁.setTop (mkF m 1 #[.val (.ref a0), .val (.long q1), .second, .unset, .unset] [(.ref a0)]))
  obtain ⟨T1, X1, e1, st1⟩ := getF X0 hx hZ hown (host := "") (Or.inl (hw _ (List.mem_of_getElem? (i := 20) rfl))) Via.refl e0 F_longs (g := (mkF m 1 #[.val (.ref a0), .val (.long q1), .second, .unset, .unset] [(.ref a0)])) rfl rfl (hb hby own_d6_1)
  refine own_step st1 ?_
  show own_Ends p.tables e below _ (T1.setTop (mkF m 4 #[.val (.ref a0), .val (.long q1), .second, .unset, .unset] [(.ref b)]))
  refine own_step (fun _ k => XS.ifnonnullYes X1.here hx rfl (pc0 := 4) (pc' := 63) rfl (hb hby own_d6_4) rfl (by decide) (by decide) k) ?_
  show own_Ends p.tables e below _ (T1.setTop (mkF m 63 #[.val (.ref a0), .val (.long q1), .second, .unset, .unset] []))
  refine own_step (fun _ k => XS.aloadN X1.here hx rfl (hb hby own_d6_63) rfl rfl k) ?_
  show own_Ends p.tables e below _ (T1.setTop (mkF m 64 #[.val (.ref a0), .val (.long q1), .second, .unset, .unset] [(.ref a0)]))
  obtain ⟨T2, X2, e2, st2⟩ := getF X1 hx hZ hown (host := "") (Or.inl (hw _ (List.mem_of_getElem? (i := 22) rfl))) Via.refl e1 F_size (g := (mkF m 64 #[.val (.ref a0), .val (.long q1), .second, .unset, .unset] [(.ref a0)])) rfl rfl (hb hby own_d6_64)
  refine own_step st2 ?_
  show own_Ends p.tables e below _ (T2.setTop (mkF m 67 #[.val (.ref a0), .val (.long q1), .second, .unset, .unset] [(.int (Int32.ofNat n))]))
  refine own_step (fun _ k => XS.aloadN X2.here hx rfl (hb hby own_d6_67) rfl rfl k) ?_
  show own_Ends p.tables e below _ (T2.setTop (mkF m 68 #[.val (.ref a0), .val (.long q1), .second, .unset, .unset] [(.ref a0), (.int (Int32.ofNat n))]))
  obtain ⟨T3, X3, e3, st3⟩ := getF X2 hx hZ hown (host := "") (Or.inl (hw _ (List.mem_of_getElem? (i := 20) rfl))) Via.refl e2 F_longs (g := (mkF m 68 #[.val (.ref a0), .val (.long q1), .second, .unset, .unset] [(.ref a0), (.int (Int32.ofNat n))])) rfl rfl (hb hby own_d6_68)
  refine own_step st3 ?_
  show own_Ends p.tables e below _ (T3.setTop (mkF m 71 #[.val (.ref a0), .val (.long q1), .second, .unset, .unset] [(.ref b), (.int (Int32.ofNat n))]))
  obtain ⟨cl4, Ar4, q4, S4, Nn4, H4, G4⟩ := id V_b
  refine own_step (fun _ k => X3.arraylength hx (by rw [e3]; exact Ar4.1) (State.isArrayOf_alike hZ.alike Ar4.2.1) (g := (mkF m 71 #[.val (.ref a0), .val (.long q1), .second, .unset, .unset] [(.ref b), (.int (Int32.ofNat n))])) rfl rfl (hb hby own_d6_71) _ k) ?_
  rw [len_of S4 Nn4]
  show own_Ends p.tables e below _ (T3.setTop (mkF m 72 #[.val (.ref a0), .val (.long q1), .second, .unset, .unset] [(.int (16 : Int32)), (.int (Int32.ofNat n))]))
  refine own_step (fun _ k => XS.icmpYes X3.here hx rfl (pc0 := 72) (pc' := 93) rfl (hb hby own_d6_72) rfl (feq (own_n16 (by omega))).2 (by decide) (by decide) k) ?_
  show own_Ends p.tables e below _ (T3.setTop (mkF m 93 #[.val (.ref a0), .val (.long q1), .second, .unset, .unset] []))
  refine own_step (fun _ k => XS.aloadN X3.here hx rfl (hb hby own_d6_93) rfl rfl k) ?_
  show own_Ends p.tables e below _ (T3.setTop (mkF m 94 #[.val (.ref a0), .val (.long q1), .second, .unset, .unset] [(.ref a0)]))
  obtain ⟨T5, X5, e5, st5⟩ := getF X3 hx hZ hown (host := "") (Or.inl (hw _ (List.mem_of_getElem? (i := 20) rfl))) Via.refl e3 F_longs (g := (mkF m 94 #[.val (.ref a0), .val (.long q1), .second, .unset, .unset] [(.ref a0)])) rfl rfl (hb hby own_d6_94)
  refine own_step st5 ?_
  show own_Ends p.tables e below _ (T5.setTop (mkF m 97 #[.val (.ref a0), .val (.long q1), .second, .unset, .unset] [(.ref b)]))
  refine own_step (fun _ k => XS.aloadN X5.here hx rfl (hb hby own_d6_97) rfl rfl k) ?_
  show own_Ends p.tables e below _ (T5.setTop (mkF m 98 #[.val (.ref a0), .val (.long q1), .second, .unset, .unset] [(.ref a0), (.ref b)]))
  obtain ⟨T6, X6, e6, st6⟩ := getF X5 hx hZ hown (host := "") (Or.inl (hw _ (List.mem_of_getElem? (i := 22) rfl))) Via.refl e5 F_size (g := (mkF m 98 #[.val (.ref a0), .val (.long q1), .second, .unset, .unset] [(.ref a0), (.ref b)])) rfl rfl (hb hby own_d6_98)
  refine own_step st6 ?_
  show own_Ends p.tables e below _ (T6.setTop (mkF m 101 #[.val (.ref a0), .val (.long q1), .second, .unset, .unset] [(.int (Int32.ofNat n)), (.ref b)]))
  refine own_step (fun _ k => XS.lloadN X6.here hx rfl (hb hby own_d6_101) rfl k) ?_
  show own_Ends p.tables e below _ (T6.setTop (mkF m 102 #[.val (.ref a0), .val (.long q1), .second, .unset, .unset] [(.long q1), (.int (Int32.ofNat n)), (.ref b)]))
  obtain ⟨cl7, Ar7, q7, S7, Nn7, H7, G7⟩ := id V_b
  have hin7 : ¬ ((Int32.ofNat n) < 0 ∨ cl7.slots.size ≤ ((Int32.ofNat n)).toNatClampNeg) := inb_of S7 ⟨(own_nn (by omega)), (own_l16 (by omega))⟩
  obtain ⟨T7, h7, X7, e7, W7, st7⟩ := stJ X6 hx hZ e6 Ar7 (j := (Int32.ofNat n)) hin7 (g := (mkF m 102 #[.val (.ref a0), .val (.long q1), .second, .unset, .unset] [(.long q1), (.int (Int32.ofNat n)), (.ref b)])) rfl rfl (hb hby own_d6_102)
  refine own_step st7 ?_
  have F_size_7 := F_size.other W7 (Or.inl ne_ab)
  have F_longs_7 := F_longs.other W7 (Or.inl ne_ab)
  have K_7 : Keep h0 h7 [b] := K0.wr W7 (Or.inl (List.mem_of_getElem? (i := 0) rfl))
  have Z_7 : n0 ≤ h7.size := Nat.le_trans Z0 (Keep.of_wr W7).1
  have N_7 := Fr.snoc X7 N0 g_b
  have V_b_7 : Arv Z h7 b k .long (16 : Int32) (vs.set n (.long q1)) (.long (0 : Int64)) := Arv.set Ar7 q7 S7 Nn7 H7 G7 rfl W7 n (own_clamp (by omega)) (by first | (rw [own_lt_len]; simp; omega) | omega)
  show own_Ends p.tables e below _ (T7.setTop (mkF m 103 #[.val (.ref a0), .val (.long q1), .second, .unset, .unset] []))
  exact own_ret0 X7 hx hlk (by decide) (by decide) Bd.returns (hb hby own_d6_103) (by rw [e7]; exact ⟨rfl, N_7, K_7, V_b_7⟩)
theorem own_d6_7 : decode prog_45_method_6_code 7 = .ok (.bipush 16, 2) := by decide +kernel
theorem own_d6_9 : decode prog_45_method_6_code 9 = .ok (.aload_n 0, 1) := by decide +kernel
theorem own_d6_10 : decode prog_45_method_6_code 10 = .ok (.getfield 7, 3) := by decide +kernel
theorem own_d6_13 : decode prog_45_method_6_code 13 = .ok (.invokestatic 37, 3) := by decide +kernel
theorem own_d6_16 : decode prog_45_method_6_code 16 = .ok (.invokestatic 41, 3) := by decide +kernel
theorem own_d6_19 : decode prog_45_method_6_code 19 = .ok (.newarray .long, 2) := by decide +kernel
theorem own_d6_21 : decode prog_45_method_6_code 21 = .ok (.astore_n 3, 1) := by decide +kernel
theorem own_d6_22 : decode prog_45_method_6_code 22 = .ok (.iconst 0, 1) := by decide +kernel
theorem own_d6_23 : decode prog_45_method_6_code 23 = .ok (.istore 4, 2) := by decide +kernel
theorem own_d6_25 : decode prog_45_method_6_code 25 = .ok (.iload 4, 2) := by decide +kernel
theorem own_d6_27 : decode prog_45_method_6_code 27 = .ok (.aload_n 0, 1) := by decide +kernel
theorem own_d6_28 : decode prog_45_method_6_code 28 = .ok (.getfield 7, 3) := by decide +kernel
theorem own_d6_31 : decode prog_45_method_6_code 31 = .ok (.if_icmp .ge 19, 3) := by decide +kernel
theorem own_d6_34 : decode prog_45_method_6_code 34 = .ok (.aload_n 3, 1) := by decide +kernel
theorem own_d6_35 : decode prog_45_method_6_code 35 = .ok (.iload 4, 2) := by decide +kernel
theorem own_d6_37 : decode prog_45_method_6_code 37 = .ok (.aload_n 0, 1) := by decide +kernel
theorem own_d6_38 : decode prog_45_method_6_code 38 = .ok (.iload 4, 2) := by decide +kernel
theorem own_d6_40 : decode prog_45_method_6_code 40 = .ok (.invokevirtual 57, 3) := by decide +kernel
theorem own_d6_43 : decode prog_45_method_6_code 43 = .ok (.lastore, 1) := by decide +kernel
theorem own_d6_44 : decode prog_45_method_6_code 44 = .ok (.iinc 4 1, 3) := by decide +kernel
theorem own_d6_47 : decode prog_45_method_6_code 47 = .ok (.goto (-22), 3) := by decide +kernel
theorem own_d6_50 : decode prog_45_method_6_code 50 = .ok (.aload_n 0, 1) := by decide +kernel
theorem own_d6_51 : decode prog_45_method_6_code 51 = .ok (.aload_n 3, 1) := by decide +kernel
theorem own_d6_52 : decode prog_45_method_6_code 52 = .ok (.putfield 17, 3) := by decide +kernel
theorem own_d6_55 : decode prog_45_method_6_code 55 = .ok (.aload_n 0, 1) := by decide +kernel
theorem own_d6_56 : decode prog_45_method_6_code 56 = .ok (.aconst_null, 1) := by decide +kernel
theorem own_d6_57 : decode prog_45_method_6_code 57 = .ok (.putfield 13, 3) := by decide +kernel
theorem own_d6_60 : decode prog_45_method_6_code 60 = .ok (.goto 33, 3) := by decide +kernel
set_option maxRecDepth 65536 in
set_option maxHeartbeats 40000000 in
theorem own_rm_addLong_sh (l : Launch) (Z : State) (aw : Array Value) (hw : ∀ d ∈ tables_1, d.before aw Z = true) (ws : List Jvm.Cond) (a0 : Addr) (q1 : Int64) (n : Nat) (sh : Int64) (f : Nat → Int64) (h0 : Heap) (n0 : Nat) (Z0 : n0 ≤ h0.size) (E_a0 : Exa Z h0 a0 "com/example/restate/restate/model/LongColumn") (F_size : Fld Z h0 a0 "com/example/restate/restate/model/LongColumn" "size" "I" (.int (Int32.ofNat n))) (F_shared : Fld Z h0 a0 "com/example/restate/restate/model/LongColumn" "shared" "J" (.long sh)) (F_ints : Fld Z h0 a0 "com/example/restate/restate/model/LongColumn" "ints" "[I" .null) (F_longs : Fld Z h0 a0 "com/example/restate/restate/model/LongColumn" "longs" "[J" .null) (g_a0 : n0 ≤ a0) (hn : n < 8) (hf : ∀ i, i < n → f i = sh) :
    MetFree l (⟨"com/example/restate/restate/model/LongColumn", "addLong", "(J)V"⟩ : MethodName) (head1 (Jvm.Cond.code (⟨"com/example/restate/restate/model/LongColumn", "addLong", "(J)V"⟩ : MethodName) prog_45_method_6_code 5 none :: ws) ({ frames := 2, cells := 1, slots := 16, locals := 28 } : Room)) (fun a U => a = #[(.ref a0), (.long q1)] ∧ Z.Warmed39 U.vm ∧ U.heap = h0) (fun _ _ _ _ _ => True) (fun _ U o U' => ∃ v L, o = .returned v ∧ own_QAL Z a0 q1 n sh f h0 n0 v U'.heap L ∧ FrameEnd U o U' L ({ frames := 2, cells := 1, slots := 16, locals := 28 } : Room).cells ({ frames := 2, cells := 1, slots := 16, locals := 28 } : Room).slots) := by
  refine MetFree.of_bodySF (plainFor_of_name own_pn0) hisR ?_
  intro p e s m args below meth c s₁ Bd hml0 hP hK
  obtain ⟨rfl, hZ, hh⟩ := hP
  have hx := Bd.exec
  have hby := Bd.bytes
  have hlk : meth.locks = false := BodyLoose.notSynchronized Bd
  have hml : c.maxLocals = 5 := hml0
  have hown : s.vm.findClass "com/example/restate/restate/model/LongColumn" = some m.cls := findClass_of_methodNamed Bd.named
  have hnm := (name_of_methodNamed Bd.named Bd.method).1
  have X0 : Stand p l e ({ frames := 2, cells := 1, slots := 16, locals := 28 } : Room) s m #[(.ref a0), (.long q1)] below meth c s₁ [] 0 0 := Stand.of_body Bd
  have e0 : s₁.heap = h0 := by rw [← hh, Bd.state]; rfl
  have N0 := Fr.nil n0
  have K0 : Keep h0 h0 [a0] := Keep.refl _ _
  have pre0 : ∀ t, Steps p.tables e below (s₁.setTop (mkF m 0 #[.val (.ref a0), .val (.long q1), .second, .unset, .unset] [])) t → Steps p.tables e below (s₁.setTop (entryFrame m #[(.ref a0), (.long q1)] 5)) t := fun t k => castTop (own_ef_6 m a0 q1) k
  show own_Ends p.tables e below (own_Q s (own_QAL Z a0 q1 n sh f h0 n0) ({ frames := 2, cells := 1, slots := 16, locals := 28 } : Room).cells ({ frames := 2, cells := 1, slots := 16, locals := 28 } : Room).slots) (s₁.setTop (entryFrame m #[(.ref a0), (.long q1)] 5))
  refine own_step pre0 ?_
  show own_Ends p.tables e below _ (s₁.setTop (mkF m 0 #[.val (.ref a0), .val (.long q1), .second, .unset, .unset] []))
  refine own_step (fun _ k => XS.aloadN X0.here hx rfl (hb hby own_d6_0) rfl rfl k) ?_
  show own_Ends p.tables e below _ (s₁.setTop (mkF m 1 #[.val (.ref a0), .val (.long q1), .second, .unset, .unset] [(.ref a0)]))
  obtain ⟨T1, X1, e1, st1⟩ := getF X0 hx hZ hown (host := "") (Or.inl (hw _ (List.mem_of_getElem? (i := 20) rfl))) Via.refl e0 F_longs (g := (mkF m 1 #[.val (.ref a0), .val (.long q1), .second, .unset, .unset] [(.ref a0)])) rfl rfl (hb hby own_d6_1)
  refine own_step st1 ?_
  show own_Ends p.tables e below _ (T1.setTop (mkF m 4 #[.val (.ref a0), .val (.long q1), .second, .unset, .unset] [.null]))
  refine own_step (fun _ k => XS.ifnonnullNo X1.here hx rfl (hb hby own_d6_4) rfl k) ?_
  show own_Ends p.tables e below _ (T1.setTop (mkF m 7 #[.val (.ref a0), .val (.long q1), .second, .unset, .unset] []))
  refine own_step (fun _ k => XS.bipush X1.here hx rfl (hb hby own_d6_7) k) ?_
  show own_Ends p.tables e below _ (T1.setTop (mkF m 9 #[.val (.ref a0), .val (.long q1), .second, .unset, .unset] [(.int (16 : Int32))]))
  refine own_step (fun _ k => XS.aloadN X1.here hx rfl (hb hby own_d6_9) rfl rfl k) ?_
  show own_Ends p.tables e below _ (T1.setTop (mkF m 10 #[.val (.ref a0), .val (.long q1), .second, .unset, .unset] [(.ref a0), (.int (16 : Int32))]))
  obtain ⟨T2, X2, e2, st2⟩ := getF X1 hx hZ hown (host := "") (Or.inl (hw _ (List.mem_of_getElem? (i := 22) rfl))) Via.refl e1 F_size (g := (mkF m 10 #[.val (.ref a0), .val (.long q1), .second, .unset, .unset] [(.ref a0), (.int (16 : Int32))])) rfl rfl (hb hby own_d6_10)
  refine own_step st2 ?_
  show own_Ends p.tables e below _ (T2.setTop (mkF m 13 #[.val (.ref a0), .val (.long q1), .second, .unset, .unset] [(.int (Int32.ofNat n)), (.int (16 : Int32))]))
  obtain ⟨_, _, ⟨T3, L3, k3, n3⟩, -, X3, ⟨Lc3, hQ3, l3, y3, z3⟩, st3⟩ := Jvm.LawKit.callS X2 hx (y := (⟨"com/example/restate/restate/model/LongColumn", "doubled", "(I)I"⟩ : MethodName)) hown (mvT hZ (hw _ (List.mem_of_getElem? (i := 33) rfl))) (mvT hZ (hw _ (List.mem_of_getElem? (i := 34) rfl))) (mvT hZ (hw _ (List.mem_of_getElem? (i := 6) rfl))) (mvT hZ (hw _ (List.mem_of_getElem? (i := 35) rfl))) (by decide) (backOf (W := 1) (own_rm_doubled l Z aw hw [] (Int32.ofNat n) h0 n0 Z0 ) hZ (hw _ (List.mem_of_getElem? (i := 35) rfl)) (hw _ (List.mem_of_getElem? (i := 6) rfl)) (by decide) (by decide)) (g := (mkF m 13 #[.val (.ref a0), .val (.long q1), .second, .unset, .unset] [(.int (Int32.ofNat n)), (.int (16 : Int32))])) rfl (by rw [hml]; rfl) (argsL := [(.int (Int32.ofNat n))]) (rest := [(.int (16 : Int32))]) (lenOf own_pd3 rfl) rfl (by show 2 * 0 + _ ≤ _; exact Nat.le_of_eq rfl) (hb hby own_d6_13) (fun _ _ => ⟨rfl, e2, (by decide : 0 + 0 ≤ _), (by decide : 0 + 0 ≤ _)⟩)
  dsimp only [Pt.U, Pt.locs, Pt.cells, Pt.slots] at X3 l3 y3 z3 st3 hQ3
  subst l3 y3 z3
  obtain ⟨rfl, N3q, e3⟩ := hQ3
  have N_3 := Fr.app N0 N3q
  refine own_step st3 ?_
  show own_Ends p.tables e below _ (T3.setTop (mkF m 16 #[.val (.ref a0), .val (.long q1), .second, .unset, .unset] [(.int (own_doubled (Int32.ofNat n))), (.int (16 : Int32))]))
  obtain ⟨_, _, ⟨T4, L4, k4, n4⟩, -, X4, ⟨Lc4, hQ4, l4, y4, z4⟩, st4⟩ := Jvm.LawKit.callS X3 hx (y := (⟨"java/lang/Math", "max", "(II)I"⟩ : MethodName)) hown (mvT hZ (hw _ (List.mem_of_getElem? (i := 42) rfl))) (mvT hZ (hw _ (List.mem_of_getElem? (i := 43) rfl))) (mvT hZ (hw _ (List.mem_of_getElem? (i := 40) rfl))) (mvT hZ (hw _ (List.mem_of_getElem? (i := 44) rfl))) (by decide) (backOf (W := 0) (own_rm_maxI l Z aw hw [] (16 : Int32) (own_doubled (Int32.ofNat n)) h0 n0 Z0 ) hZ (hw _ (List.mem_of_getElem? (i := 44) rfl)) (hw _ (List.mem_of_getElem? (i := 40) rfl)) (by decide) (by decide)) (g := (mkF m 16 #[.val (.ref a0), .val (.long q1), .second, .unset, .unset] [(.int (own_doubled (Int32.ofNat n))), (.int (16 : Int32))])) rfl (by rw [hml]; rfl) (argsL := [(.int (16 : Int32)), (.int (own_doubled (Int32.ofNat n)))]) (rest := []) (lenOf own_pd4 rfl) rfl (by show 2 * 0 + _ ≤ _; exact Nat.le_of_eq rfl) (hb hby own_d6_16) (fun _ _ => ⟨rfl, e3, (by decide : 0 + 0 ≤ _), (by decide : 0 + 0 ≤ _)⟩)
  dsimp only [Pt.U, Pt.locs, Pt.cells, Pt.slots] at X4 l4 y4 z4 st4 hQ4
  subst l4 y4 z4
  obtain ⟨rfl, N4q, e4⟩ := hQ4
  have N_4 := Fr.app N_3 N4q
  refine own_step st4 ?_
  show own_Ends p.tables e below _ (T4.setTop (mkF m 19 #[.val (.ref a0), .val (.long q1), .second, .unset, .unset] [(.int (own_maxI (16 : Int32) (own_doubled (Int32.ofNat n))))]))
  rw [own_cap n (by omega)]
  show own_Ends p.tables e below _ (T4.setTop (mkF m 19 #[.val (.ref a0), .val (.long q1), .second, .unset, .unset] [(.int (16 : Int32))]))
  obtain ⟨T5, h5, k5, X5, e5, E5, A5, st5⟩ := newP X4 hx hZ (hw _ (List.mem_of_getElem? (i := 45) rfl)) e4 (g := (mkF m 19 #[.val (.ref a0), .val (.long q1), .second, .unset, .unset] [(.int (16 : Int32))])) rfl (hb hby own_d6_19) rfl (by decide) (cap := 16) (by decide) (by decide) (by decide) (by decide)
  obtain ⟨b5, g5⟩ : ∃ z, z = h0.size := ⟨_, rfl⟩
  rw [← g5] at A5 st5
  refine own_step st5 ?_
  have ne_a0_b5 : a0 ≠ b5 := Nat.ne_of_lt (Nat.lt_of_lt_of_le E_a0.lt (Nat.le_of_eq g5.symm))
  have g_b5 : n0 ≤ b5 := Nat.le_trans Z0 (Nat.le_of_eq g5.symm)
  have sz_b5 : h0.size ≤ b5 := Nat.le_trans K0.1 (Nat.le_of_eq g5.symm)
  have E_a0_5 := E_a0.ext E5
  have F_size_5 := F_size.ext E5
  have F_shared_5 := F_shared.ext E5
  have F_ints_5 := F_ints.ext E5
  have F_longs_5 := F_longs.ext E5
  have K_5 : Keep h0 h5 [a0] := K0.ext E5
  have Z_5 : n0 ≤ h5.size := Nat.le_trans Z0 E5.1
  have V_b5 : Arv Z h5 b5 k5 .long (16 : Int32) (List.replicate 16 (.long (0 : Int64))) (.long (0 : Int64)) := (Arv.new A5 (by decide)).pad (pad_rep [] (.long (0 : Int64)) 16)
  show own_Ends p.tables e below _ (T5.setTop (mkF m 21 #[.val (.ref a0), .val (.long q1), .second, .unset, .unset] [(.ref b5)]))
  refine own_step (fun _ k => XS.astoreN X5.here hx rfl (hb hby own_d6_21) rfl rfl (l' := #[.val (.ref a0), .val (.long q1), .second, .val (.ref b5), .unset]) rfl k) ?_
  show own_Ends p.tables e below _ (T5.setTop (mkF m 22 #[.val (.ref a0), .val (.long q1), .second, .val (.ref b5), .unset] []))
  refine own_step (fun _ k => XS.iconst X5.here hx rfl (hb hby own_d6_22) k) ?_
  show own_Ends p.tables e below _ (T5.setTop (mkF m 23 #[.val (.ref a0), .val (.long q1), .second, .val (.ref b5), .unset] [(.int (0 : Int32))]))
  refine own_step (fun _ k => XS.istore X5.here hx rfl (hb hby own_d6_23) rfl (l' := #[.val (.ref a0), .val (.long q1), .second, .val (.ref b5), .val (.int (0 : Int32))]) rfl k) ?_
  show own_Ends p.tables e below _ (T5.setTop (mkF m 25 #[.val (.ref a0), .val (.long q1), .second, .val (.ref b5), .val (.int (0 : Int32))] []))
  have jn25 : ∀ (kk : Nat) (Tj25 : State) (loj25 : List Loc) (hj25 : Heap) (j : Nat) (Xj25 : Stand p l e ({ frames := 2, cells := 1, slots := 16, locals := 28 } : Room) s m #[(.ref a0), (.long q1)] below meth c Tj25 loj25 1 16) (ej25 : Tj25.heap = hj25) (Nj25 : Fr n0 loj25) (Kj25 : Keep h0 hj25 [a0]) (Zj25 : n0 ≤ hj25.size) (E_a0_j25 : Exa Z hj25 a0 "com/example/restate/restate/model/LongColumn") (F_size_j25 : Fld Z hj25 a0 "com/example/restate/restate/model/LongColumn" "size" "I" (.int (Int32.ofNat n))) (F_shared_j25 : Fld Z hj25 a0 "com/example/restate/restate/model/LongColumn" "shared" "J" (.long sh)) (F_ints_j25 : Fld Z hj25 a0 "com/example/restate/restate/model/LongColumn" "ints" "[I" .null) (F_longs_j25 : Fld Z hj25 a0 "com/example/restate/restate/model/LongColumn" "longs" "[J" .null) (V_b5_j25 : Arv Z hj25 b5 k5 .long (16 : Int32) (own_lt (fun i => Value.long (f i)) (List.replicate 16 (.long (0 : Int64))) j) (.long (0 : Int64))) (hj : j + kk = n), own_Ends p.tables e below (own_Q s (own_QAL Z a0 q1 n sh f h0 n0) ({ frames := 2, cells := 1, slots := 16, locals := 28 } : Room).cells ({ frames := 2, cells := 1, slots := 16, locals := 28 } : Room).slots) (Tj25.setTop (mkF m 25 #[.val (.ref a0), .val (.long q1), .second, .val (.ref b5), .val (.int (Int32.ofNat j))] [])) := by
    intro kk
    induction kk with
    | zero =>
      intro Tj25 loj25 hj25 j Xj25 ej25 Nj25 Kj25 Zj25 E_a0_j25 F_size_j25 F_shared_j25 F_ints_j25 F_longs_j25 V_b5_j25 hj
      refine own_step (fun _ k => XS.iload Xj25.here hx rfl (hb hby own_d6_25) rfl k) ?_
      show own_Ends p.tables e below _ (Tj25.setTop (mkF m 27 #[.val (.ref a0), .val (.long q1), .second, .val (.ref b5), .val (.int (Int32.ofNat j))] [(.int (Int32.ofNat j))]))
      refine own_step (fun _ k => XS.aloadN Xj25.here hx rfl (hb hby own_d6_27) rfl rfl k) ?_
      show own_Ends p.tables e below _ (Tj25.setTop (mkF m 28 #[.val (.ref a0), .val (.long q1), .second, .val (.ref b5), .val (.int (Int32.ofNat j))] [(.ref a0), (.int (Int32.ofNat j))]))
      obtain ⟨T6, X6, e6, st6⟩ := getF Xj25 hx hZ hown (host := "") (Or.inl (hw _ (List.mem_of_getElem? (i := 22) rfl))) Via.refl ej25 F_size_j25 (g := (mkF m 28 #[.val (.ref a0), .val (.long q1), .second, .val (.ref b5), .val (.int (Int32.ofNat j))] [(.ref a0), (.int (Int32.ofNat j))])) rfl rfl (hb hby own_d6_28)
      refine own_step st6 ?_
      show own_Ends p.tables e below _ (T6.setTop (mkF m 31 #[.val (.ref a0), .val (.long q1), .second, .val (.ref b5), .val (.int (Int32.ofNat j))] [(.int (Int32.ofNat n)), (.int (Int32.ofNat j))]))
      refine own_step (fun _ k => XS.icmpYes X6.here hx rfl (pc0 := 31) (pc' := 50) rfl (hb hby own_d6_31) rfl (flt (fun q => by have := (own_nlt (by omega) (by omega)).mp q; omega)).2.1 (by decide) (by decide) k) ?_
      show own_Ends p.tables e below _ (T6.setTop (mkF m 50 #[.val (.ref a0), .val (.long q1), .second, .val (.ref b5), .val (.int (Int32.ofNat j))] []))
      have ejn : j = n := by omega
      have Vf : Arv Z hj25 b5 k5 .long (16 : Int32) (own_lt (fun i => Value.long (f i)) (List.replicate 16 (.long (0 : Int64))) n) (.long (0 : Int64)) := ejn ▸ V_b5_j25
      refine own_step (fun _ k => XS.aloadN X6.here hx rfl (hb hby own_d6_50) rfl rfl k) ?_
      show own_Ends p.tables e below _ (T6.setTop (mkF m 51 #[.val (.ref a0), .val (.long q1), .second, .val (.ref b5), .val (.int (Int32.ofNat j))] [(.ref a0)]))
      refine own_step (fun _ k => XS.aloadN X6.here hx rfl (hb hby own_d6_51) rfl rfl k) ?_
      show own_Ends p.tables e below _ (T6.setTop (mkF m 52 #[.val (.ref a0), .val (.long q1), .second, .val (.ref b5), .val (.int (Int32.ofNat j))] [(.ref b5), (.ref a0)]))
      obtain ⟨T7, h7, X7, e7, W7, st7⟩ := putF X6 hx hZ hown (host := "") (Or.inl (hw _ (List.mem_of_getElem? (i := 20) rfl))) Via.refl e6 F_longs_j25 E_a0_j25 (Or.inl (hw _ (List.mem_of_getElem? (i := 21) rfl))) (hw _ (List.mem_of_getElem? (i := 5) rfl)) (ty := (.array .long)) (by decide) rfl rfl (g := (mkF m 52 #[.val (.ref a0), .val (.long q1), .second, .val (.ref b5), .val (.int (Int32.ofNat j))] [(.ref b5), (.ref a0)])) rfl rfl (hb hby own_d6_52)
      refine own_step st7 ?_
      have E_a0_j25_7 := E_a0_j25.wr W7
      have F_size_j25_7 := F_size_j25.other W7 (Or.inr (slot_ne (Or.inl (hw _ (List.mem_of_getElem? (i := 23) rfl))) (Or.inl (hw _ (List.mem_of_getElem? (i := 21) rfl))) (by decide) (t := .int) (t' := (.array .long)) (by decide) (by decide)))
      have F_shared_j25_7 := F_shared_j25.other W7 (Or.inr (slot_ne (Or.inl (hw _ (List.mem_of_getElem? (i := 25) rfl))) (Or.inl (hw _ (List.mem_of_getElem? (i := 21) rfl))) (by decide) (t := .long) (t' := (.array .long)) (by decide) (by decide)))
      have F_ints_j25_7 := F_ints_j25.other W7 (Or.inr (slot_ne (Or.inl (hw _ (List.mem_of_getElem? (i := 19) rfl))) (Or.inl (hw _ (List.mem_of_getElem? (i := 21) rfl))) (by decide) (t := (.array .int)) (t' := (.array .long)) (by decide) (by decide)))
      have F_longs_j25_7 := F_longs_j25.same W7
      have Vf_7 := Vf.other W7 (Ne.symm ne_a0_b5)
      have K_7 : Keep h0 h7 [a0] := Kj25.wr W7 (Or.inl (List.mem_of_getElem? (i := 0) rfl))
      have Z_7 : n0 ≤ h7.size := Nat.le_trans Zj25 (Keep.of_wr W7).1
      have N_7 := Fr.snoc X7 Nj25 g_a0
      show own_Ends p.tables e below _ (T7.setTop (mkF m 55 #[.val (.ref a0), .val (.long q1), .second, .val (.ref b5), .val (.int (Int32.ofNat j))] []))
      refine own_step (fun _ k => XS.aloadN X7.here hx rfl (hb hby own_d6_55) rfl rfl k) ?_
      show own_Ends p.tables e below _ (T7.setTop (mkF m 56 #[.val (.ref a0), .val (.long q1), .second, .val (.ref b5), .val (.int (Int32.ofNat j))] [(.ref a0)]))
      refine own_step (fun _ k => XS.aconstNull X7.here hx rfl (hb hby own_d6_56) k) ?_
      show own_Ends p.tables e below _ (T7.setTop (mkF m 57 #[.val (.ref a0), .val (.long q1), .second, .val (.ref b5), .val (.int (Int32.ofNat j))] [.null, (.ref a0)]))
      obtain ⟨T8, h8, X8, e8, W8, st8⟩ := putF X7 hx hZ hown (host := "") (Or.inl (hw _ (List.mem_of_getElem? (i := 18) rfl))) Via.refl e7 F_ints_j25_7 E_a0_j25_7 (Or.inl (hw _ (List.mem_of_getElem? (i := 19) rfl))) (hw _ (List.mem_of_getElem? (i := 5) rfl)) (ty := (.array .int)) (by decide) rfl rfl (g := (mkF m 57 #[.val (.ref a0), .val (.long q1), .second, .val (.ref b5), .val (.int (Int32.ofNat j))] [.null, (.ref a0)])) rfl rfl (hb hby own_d6_57)
      refine own_step st8 ?_
      have E_a0_j25_8 := E_a0_j25_7.wr W8
      have F_size_j25_8 := F_size_j25_7.other W8 (Or.inr (slot_ne (Or.inl (hw _ (List.mem_of_getElem? (i := 23) rfl))) (Or.inl (hw _ (List.mem_of_getElem? (i := 19) rfl))) (by decide) (t := .int) (t' := (.array .int)) (by decide) (by decide)))
      have F_shared_j25_8 := F_shared_j25_7.other W8 (Or.inr (slot_ne (Or.inl (hw _ (List.mem_of_getElem? (i := 25) rfl))) (Or.inl (hw _ (List.mem_of_getElem? (i := 19) rfl))) (by decide) (t := .long) (t' := (.array .int)) (by decide) (by decide)))
      have F_ints_j25_8 := F_ints_j25_7.same W8
      have F_longs_j25_8 := F_longs_j25_7.other W8 (Or.inr (slot_ne (Or.inl (hw _ (List.mem_of_getElem? (i := 21) rfl))) (Or.inl (hw _ (List.mem_of_getElem? (i := 19) rfl))) (by decide) (t := (.array .long)) (t' := (.array .int)) (by decide) (by decide)))
      have Vf_8 := Vf_7.other W8 (Ne.symm ne_a0_b5)
      have K_8 : Keep h0 h8 [a0] := K_7.wr W8 (Or.inl (List.mem_of_getElem? (i := 0) rfl))
      have Z_8 : n0 ≤ h8.size := Nat.le_trans Z_7 (Keep.of_wr W8).1
      have N_8 := Fr.snoc X8 N_7 g_a0
      show own_Ends p.tables e below _ (T8.setTop (mkF m 60 #[.val (.ref a0), .val (.long q1), .second, .val (.ref b5), .val (.int (Int32.ofNat j))] []))
      refine own_step (fun _ k => XS.goto X8.here hx rfl (pc0 := 60) (pc' := 93) rfl (hb hby own_d6_60) (by decide) (by decide) k) ?_
      show own_Ends p.tables e below _ (T8.setTop (mkF m 93 #[.val (.ref a0), .val (.long q1), .second, .val (.ref b5), .val (.int (Int32.ofNat j))] []))
      refine own_step (fun _ k => XS.aloadN X8.here hx rfl (hb hby own_d6_93) rfl rfl k) ?_
      show own_Ends p.tables e below _ (T8.setTop (mkF m 94 #[.val (.ref a0), .val (.long q1), .second, .val (.ref b5), .val (.int (Int32.ofNat j))] [(.ref a0)]))
      obtain ⟨T9, X9, e9, st9⟩ := getF X8 hx hZ hown (host := "") (Or.inl (hw _ (List.mem_of_getElem? (i := 20) rfl))) Via.refl e8 F_longs_j25_8 (g := (mkF m 94 #[.val (.ref a0), .val (.long q1), .second, .val (.ref b5), .val (.int (Int32.ofNat j))] [(.ref a0)])) rfl rfl (hb hby own_d6_94)
      refine own_step st9 ?_
      show own_Ends p.tables e below _ (T9.setTop (mkF m 97 #[.val (.ref a0), .val (.long q1), .second, .val (.ref b5), .val (.int (Int32.ofNat j))] [(.ref b5)]))
      refine own_step (fun _ k => XS.aloadN X9.here hx rfl (hb hby own_d6_97) rfl rfl k) ?_
      show own_Ends p.tables e below _ (T9.setTop (mkF m 98 #[.val (.ref a0), .val (.long q1), .second, .val (.ref b5), .val (.int (Int32.ofNat j))] [(.ref a0), (.ref b5)]))
      obtain ⟨T10, X10, e10, st10⟩ := getF X9 hx hZ hown (host := "") (Or.inl (hw _ (List.mem_of_getElem? (i := 22) rfl))) Via.refl e9 F_size_j25_8 (g := (mkF m 98 #[.val (.ref a0), .val (.long q1), .second, .val (.ref b5), .val (.int (Int32.ofNat j))] [(.ref a0), (.ref b5)])) rfl rfl (hb hby own_d6_98)
      refine own_step st10 ?_
      show own_Ends p.tables e below _ (T10.setTop (mkF m 101 #[.val (.ref a0), .val (.long q1), .second, .val (.ref b5), .val (.int (Int32.ofNat j))] [(.int (Int32.ofNat n)), (.ref b5)]))
      refine own_step (fun _ k => XS.lloadN X10.here hx rfl (hb hby own_d6_101) rfl k) ?_
      show own_Ends p.tables e below _ (T10.setTop (mkF m 102 #[.val (.ref a0), .val (.long q1), .second, .val (.ref b5), .val (.int (Int32.ofNat j))] [(.long q1), (.int (Int32.ofNat n)), (.ref b5)]))
      obtain ⟨cl11, Ar11, q11, S11, Nn11, H11, G11⟩ := id Vf_8
      have hin11 : ¬ ((Int32.ofNat n) < 0 ∨ cl11.slots.size ≤ ((Int32.ofNat n)).toNatClampNeg) := inb_of S11 ⟨(own_nn (by omega)), (own_l16 (by omega))⟩
      obtain ⟨T11, h11, X11, e11, W11, st11⟩ := stJ X10 hx hZ e10 Ar11 (j := (Int32.ofNat n)) hin11 (g := (mkF m 102 #[.val (.ref a0), .val (.long q1), .second, .val (.ref b5), .val (.int (Int32.ofNat j))] [(.long q1), (.int (Int32.ofNat n)), (.ref b5)])) rfl rfl (hb hby own_d6_102)
      refine own_step st11 ?_
      have E_a0_j25_11 := E_a0_j25_8.wr W11
      have F_size_j25_11 := F_size_j25_8.other W11 (Or.inl ne_a0_b5)
      have F_shared_j25_11 := F_shared_j25_8.other W11 (Or.inl ne_a0_b5)
      have F_ints_j25_11 := F_ints_j25_8.other W11 (Or.inl ne_a0_b5)
      have F_longs_j25_11 := F_longs_j25_8.other W11 (Or.inl ne_a0_b5)
      have K_11 : Keep h0 h11 [a0] := K_8.wr W11 (Or.inr sz_b5)
      have Z_11 : n0 ≤ h11.size := Nat.le_trans Z_8 (Keep.of_wr W11).1
      have N_11 := Fr.snoc X11 N_8 g_b5
      have V_b5_11 : Arv Z h11 b5 k5 .long (16 : Int32) ((own_lt (fun i => Value.long (f i)) (List.replicate 16 (.long (0 : Int64))) n).set n (.long q1)) (.long (0 : Int64)) := Arv.set Ar11 q11 S11 Nn11 H11 G11 rfl W11 n (own_clamp (by omega)) (by first | (rw [own_lt_len]; simp; omega) | omega)
      show own_Ends p.tables e below _ (T11.setTop (mkF m 103 #[.val (.ref a0), .val (.long q1), .second, .val (.ref b5), .val (.int (Int32.ofNat j))] []))
      exact own_ret0 X11 hx hlk (by decide) (by decide) Bd.returns (hb hby own_d6_103) (by rw [e11]; exact ⟨rfl, N_11, K_11, F_size_j25_11, F_shared_j25_11, F_ints_j25_11, b5, _, F_longs_j25_11, ne_a0_b5, g_b5, V_b5_11⟩)
    | succ kk ih =>
      intro Tj25 loj25 hj25 j Xj25 ej25 Nj25 Kj25 Zj25 E_a0_j25 F_size_j25 F_shared_j25 F_ints_j25 F_longs_j25 V_b5_j25 hj
      refine own_step (fun _ k => XS.iload Xj25.here hx rfl (hb hby own_d6_25) rfl k) ?_
      show own_Ends p.tables e below _ (Tj25.setTop (mkF m 27 #[.val (.ref a0), .val (.long q1), .second, .val (.ref b5), .val (.int (Int32.ofNat j))] [(.int (Int32.ofNat j))]))
      refine own_step (fun _ k => XS.aloadN Xj25.here hx rfl (hb hby own_d6_27) rfl rfl k) ?_
      show own_Ends p.tables e below _ (Tj25.setTop (mkF m 28 #[.val (.ref a0), .val (.long q1), .second, .val (.ref b5), .val (.int (Int32.ofNat j))] [(.ref a0), (.int (Int32.ofNat j))]))
      obtain ⟨T12, X12, e12, st12⟩ := getF Xj25 hx hZ hown (host := "") (Or.inl (hw _ (List.mem_of_getElem? (i := 22) rfl))) Via.refl ej25 F_size_j25 (g := (mkF m 28 #[.val (.ref a0), .val (.long q1), .second, .val (.ref b5), .val (.int (Int32.ofNat j))] [(.ref a0), (.int (Int32.ofNat j))])) rfl rfl (hb hby own_d6_28)
      refine own_step st12 ?_
      show own_Ends p.tables e below _ (T12.setTop (mkF m 31 #[.val (.ref a0), .val (.long q1), .second, .val (.ref b5), .val (.int (Int32.ofNat j))] [(.int (Int32.ofNat n)), (.int (Int32.ofNat j))]))
      refine own_step (fun _ k => XS.icmpNo X12.here hx rfl (hb hby own_d6_31) rfl (tlt ((own_nlt (by omega) (by omega)).mpr (by omega))).2.1 k) ?_
      show own_Ends p.tables e below _ (T12.setTop (mkF m 34 #[.val (.ref a0), .val (.long q1), .second, .val (.ref b5), .val (.int (Int32.ofNat j))] []))
      refine own_step (fun _ k => XS.aloadN X12.here hx rfl (hb hby own_d6_34) rfl rfl k) ?_
      show own_Ends p.tables e below _ (T12.setTop (mkF m 35 #[.val (.ref a0), .val (.long q1), .second, .val (.ref b5), .val (.int (Int32.ofNat j))] [(.ref b5)]))
      refine own_step (fun _ k => XS.iload X12.here hx rfl (hb hby own_d6_35) rfl k) ?_
      show own_Ends p.tables e below _ (T12.setTop (mkF m 37 #[.val (.ref a0), .val (.long q1), .second, .val (.ref b5), .val (.int (Int32.ofNat j))] [(.int (Int32.ofNat j)), (.ref b5)]))
      refine own_step (fun _ k => XS.aloadN X12.here hx rfl (hb hby own_d6_37) rfl rfl k) ?_
      show own_Ends p.tables e below _ (T12.setTop (mkF m 38 #[.val (.ref a0), .val (.long q1), .second, .val (.ref b5), .val (.int (Int32.ofNat j))] [(.ref a0), (.int (Int32.ofNat j)), (.ref b5)]))
      refine own_step (fun _ k => XS.iload X12.here hx rfl (hb hby own_d6_38) rfl k) ?_
      show own_Ends p.tables e below _ (T12.setTop (mkF m 40 #[.val (.ref a0), .val (.long q1), .second, .val (.ref b5), .val (.int (Int32.ofNat j))] [(.int (Int32.ofNat j)), (.ref a0), (.int (Int32.ofNat j)), (.ref b5)]))
      obtain ⟨cq13, kq13, q13a, q13b, q13c⟩ := isOf hZ e12 E_a0_j25
      obtain ⟨_, _, ⟨T13, L13, k13, n13⟩, -, X13, ⟨Lc13, hQ13, l13, y13, z13⟩, st13⟩ := X12.virtualBack hx (y := (⟨"com/example/restate/restate/model/LongColumn", "get", "(I)J"⟩ : MethodName)) (z := (⟨"com/example/restate/restate/model/LongColumn", "get", "(I)J"⟩ : MethodName)) hown (mvT hZ (hw _ (List.mem_of_getElem? (i := 46) rfl))) (mvT hZ (hw _ (List.mem_of_getElem? (i := 47) rfl))) (notFace_of_selects (args := #[]) (mvT hZ (hw _ (List.mem_of_getElem? (i := 49) rfl)))) (mvT hZ (hw _ (List.mem_of_getElem? (i := 49) rfl))) (mvT hZ (hw _ (List.mem_of_getElem? (i := 48) rfl))) (by decide) (backOf (W := 2) (own_rm_get_sh l Z aw hw [] a0 (Int32.ofNat j) sh (f j) hj25 n0 Zj25 F_shared_j25 F_longs_j25 F_ints_j25 (hf j (by omega)).symm) hZ (hw _ (List.mem_of_getElem? (i := 50) rfl)) (hw _ (List.mem_of_getElem? (i := 6) rfl)) (by decide) (by decide)) q13a q13c (g := (mkF m 40 #[.val (.ref a0), .val (.long q1), .second, .val (.ref b5), .val (.int (Int32.ofNat j))] [(.int (Int32.ofNat j)), (.ref a0), (.int (Int32.ofNat j)), (.ref b5)])) rfl (by rw [hml]; rfl) (Steps.refl _) (argsL := [(.int (Int32.ofNat j))]) (rest := [(.int (Int32.ofNat j)), (.ref b5)]) (lenOf own_pd6 rfl) rfl (by show 2 * 0 + _ ≤ _; exact Nat.le_of_eq rfl) (hb hby own_d6_40) (fun _ _ => ⟨rfl, e12, (by decide : 1 + 0 ≤ _), (by decide : 16 + 0 ≤ _)⟩)
      dsimp only [Pt.U, Pt.locs, Pt.cells, Pt.slots] at X13 l13 y13 z13 st13 hQ13
      subst l13 y13 z13
      obtain ⟨rfl, N13q, e13⟩ := hQ13
      have N_13 := Fr.app Nj25 N13q
      refine own_step (fun _ k => st13.trans k) ?_
      show own_Ends p.tables e below _ (T13.setTop (mkF m 43 #[.val (.ref a0), .val (.long q1), .second, .val (.ref b5), .val (.int (Int32.ofNat j))] [(.long (f j)), (.int (Int32.ofNat j)), (.ref b5)]))
      obtain ⟨cl14, Ar14, q14, S14, Nn14, H14, G14⟩ := id V_b5_j25
      have hin14 : ¬ ((Int32.ofNat j) < 0 ∨ cl14.slots.size ≤ ((Int32.ofNat j)).toNatClampNeg) := inb_of S14 ⟨(own_nn (by omega)), (own_l16 (by omega))⟩
      obtain ⟨T14, h14, X14, e14, W14, st14⟩ := stJ X13 hx hZ e13 Ar14 (j := (Int32.ofNat j)) hin14 (g := (mkF m 43 #[.val (.ref a0), .val (.long q1), .second, .val (.ref b5), .val (.int (Int32.ofNat j))] [(.long (f j)), (.int (Int32.ofNat j)), (.ref b5)])) rfl rfl (hb hby own_d6_43)
      refine own_step st14 ?_
      have E_a0_j25_14 := E_a0_j25.wr W14
      have F_size_j25_14 := F_size_j25.other W14 (Or.inl ne_a0_b5)
      have F_shared_j25_14 := F_shared_j25.other W14 (Or.inl ne_a0_b5)
      have F_ints_j25_14 := F_ints_j25.other W14 (Or.inl ne_a0_b5)
      have F_longs_j25_14 := F_longs_j25.other W14 (Or.inl ne_a0_b5)
      have K_14 : Keep h0 h14 [a0] := Kj25.wr W14 (Or.inr sz_b5)
      have Z_14 : n0 ≤ h14.size := Nat.le_trans Zj25 (Keep.of_wr W14).1
      have N_14 := Fr.snoc X14 N_13 g_b5
      have V_b5_14 : Arv Z h14 b5 k5 .long (16 : Int32) ((own_lt (fun i => Value.long (f i)) (List.replicate 16 (.long (0 : Int64))) j).set j (.long (f j))) (.long (0 : Int64)) := Arv.set Ar14 q14 S14 Nn14 H14 G14 rfl W14 j (own_clamp (by omega)) (by rw [own_lt_len]; simp; omega)
      show own_Ends p.tables e below _ (T14.setTop (mkF m 44 #[.val (.ref a0), .val (.long q1), .second, .val (.ref b5), .val (.int (Int32.ofNat j))] []))
      refine own_step (fun _ k => XS.iinc X14.here hx rfl (hb hby own_d6_44) rfl (l' := #[.val (.ref a0), .val (.long q1), .second, .val (.ref b5), .val (.int ((Int32.ofNat j) + (1 : Int32)))]) rfl k) ?_
      show own_Ends p.tables e below _ (T14.setTop (mkF m 47 #[.val (.ref a0), .val (.long q1), .second, .val (.ref b5), .val (.int ((Int32.ofNat j) + (1 : Int32)))] []))
      rw [show (Int32.ofNat j) + (1 : Int32) = Int32.ofNat (j + 1) from own_inc j]
      show own_Ends p.tables e below _ (T14.setTop (mkF m 47 #[.val (.ref a0), .val (.long q1), .second, .val (.ref b5), .val (.int (Int32.ofNat (j + 1)))] []))
      refine own_step (fun _ k => XS.goto X14.here hx rfl (pc0 := 47) (pc' := 25) rfl (hb hby own_d6_47) (by decide) (by decide) k) ?_
      show own_Ends p.tables e below _ (T14.setTop (mkF m 25 #[.val (.ref a0), .val (.long q1), .second, .val (.ref b5), .val (.int (Int32.ofNat (j + 1)))] []))
      exact ih _ _ _ (j + 1) X14 e14 N_14 K_14 Z_14 E_a0_j25_14 F_size_j25_14 F_shared_j25_14 F_ints_j25_14 F_longs_j25_14 V_b5_14 (by omega)
  show own_Ends p.tables e below _ (T5.setTop (mkF m 25 #[.val (.ref a0), .val (.long q1), .second, .val (.ref b5), .val (.int (0 : Int32))] []))
  exact jn25 n _ _ _ 0 X5 e5 N_4 K_5 Z_5 E_a0_5 F_size_5 F_shared_5 F_ints_5 F_longs_5 V_b5 (by omega)
set_option maxRecDepth 65536 in
set_option maxHeartbeats 40000000 in
theorem own_rm_addLong_in (l : Launch) (Z : State) (aw : Array Value) (hw : ∀ d ∈ tables_1, d.before aw Z = true) (ws : List Jvm.Cond) (a0 : Addr) (q1 : Int64) (n : Nat) (sh : Int64) (f : Nat → Int64) (b : Addr) (k : ClassId) (vs : List Value) (h0 : Heap) (n0 : Nat) (Z0 : n0 ≤ h0.size) (E_a0 : Exa Z h0 a0 "com/example/restate/restate/model/LongColumn") (F_size : Fld Z h0 a0 "com/example/restate/restate/model/LongColumn" "size" "I" (.int (Int32.ofNat n))) (F_shared : Fld Z h0 a0 "com/example/restate/restate/model/LongColumn" "shared" "J" (.long sh)) (F_ints : Fld Z h0 a0 "com/example/restate/restate/model/LongColumn" "ints" "[I" (.ref b)) (F_longs : Fld Z h0 a0 "com/example/restate/restate/model/LongColumn" "longs" "[J" .null) (V_b : Arv Z h0 b k .int (16 : Int32) vs (.int (0 : Int32))) (ne_ab : a0 ≠ b) (g_a0 : n0 ≤ a0) (hn : n < 8) (hf : ∀ i, i < n → vs.getD i (.int (0 : Int32)) = .int (f i).toInt32 ∧ (f i).toInt32.toInt64 = f i) :
    MetFree l (⟨"com/example/restate/restate/model/LongColumn", "addLong", "(J)V"⟩ : MethodName) (head1 (Jvm.Cond.code (⟨"com/example/restate/restate/model/LongColumn", "addLong", "(J)V"⟩ : MethodName) prog_45_method_6_code 5 none :: ws) ({ frames := 2, cells := 1, slots := 16, locals := 28 } : Room)) (fun a U => a = #[(.ref a0), (.long q1)] ∧ Z.Warmed39 U.vm ∧ U.heap = h0) (fun _ _ _ _ _ => True) (fun _ U o U' => ∃ v L, o = .returned v ∧ own_QAL Z a0 q1 n sh f h0 n0 v U'.heap L ∧ FrameEnd U o U' L ({ frames := 2, cells := 1, slots := 16, locals := 28 } : Room).cells ({ frames := 2, cells := 1, slots := 16, locals := 28 } : Room).slots) := by
  refine MetFree.of_bodySF (plainFor_of_name own_pn0) hisR ?_
  intro p e s m args below meth c s₁ Bd hml0 hP hK
  obtain ⟨rfl, hZ, hh⟩ := hP
  have hx := Bd.exec
  have hby := Bd.bytes
  have hlk : meth.locks = false := BodyLoose.notSynchronized Bd
  have hml : c.maxLocals = 5 := hml0
  have hown : s.vm.findClass "com/example/restate/restate/model/LongColumn" = some m.cls := findClass_of_methodNamed Bd.named
  have hnm := (name_of_methodNamed Bd.named Bd.method).1
  have X0 : Stand p l e ({ frames := 2, cells := 1, slots := 16, locals := 28 } : Room) s m #[(.ref a0), (.long q1)] below meth c s₁ [] 0 0 := Stand.of_body Bd
  have e0 : s₁.heap = h0 := by rw [← hh, Bd.state]; rfl
  have N0 := Fr.nil n0
  have K0 : Keep h0 h0 [a0] := Keep.refl _ _
  have pre0 : ∀ t, Steps p.tables e below (s₁.setTop (mkF m 0 #[.val (.ref a0), .val (.long q1), .second, .unset, .unset] [])) t → Steps p.tables e below (s₁.setTop (entryFrame m #[(.ref a0), (.long q1)] 5)) t := fun t k => castTop (own_ef_6 m a0 q1) k
  show own_Ends p.tables e below (own_Q s (own_QAL Z a0 q1 n sh f h0 n0) ({ frames := 2, cells := 1, slots := 16, locals := 28 } : Room).cells ({ frames := 2, cells := 1, slots := 16, locals := 28 } : Room).slots) (s₁.setTop (entryFrame m #[(.ref a0), (.long q1)] 5))
  refine own_step pre0 ?_
  show own_Ends p.tables e below _ (s₁.setTop (mkF m 0 #[.val (.ref a0), .val (.long q1), .second, .unset, .unset] []))
  refine own_step (fun _ k => XS.aloadN X0.here hx rfl (hb hby own_d6_0) rfl rfl k) ?_
  show own_Ends p.tables e below _ (s₁.setTop (mkF m 1 #[.val (.ref a0), .val (.long q1), .second, .unset, .unset] [(.ref a0)]))
  obtain ⟨T1, X1, e1, st1⟩ := getF X0 hx hZ hown (host := "") (Or.inl (hw _ (List.mem_of_getElem? (i := 20) rfl))) Via.refl e0 F_longs (g := (mkF m 1 #[.val (.ref a0), .val (.long q1), .second, .unset, .unset] [(.ref a0)])) rfl rfl (hb hby own_d6_1)
  refine own_step st1 ?_
  show own_Ends p.tables e below _ (T1.setTop (mkF m 4 #[.val (.ref a0), .val (.long q1), .second, .unset, .unset] [.null]))
  refine own_step (fun _ k => XS.ifnonnullNo X1.here hx rfl (hb hby own_d6_4) rfl k) ?_
  show own_Ends p.tables e below _ (T1.setTop (mkF m 7 #[.val (.ref a0), .val (.long q1), .second, .unset, .unset] []))
  refine own_step (fun _ k => XS.bipush X1.here hx rfl (hb hby own_d6_7) k) ?_
  show own_Ends p.tables e below _ (T1.setTop (mkF m 9 #[.val (.ref a0), .val (.long q1), .second, .unset, .unset] [(.int (16 : Int32))]))
  refine own_step (fun _ k => XS.aloadN X1.here hx rfl (hb hby own_d6_9) rfl rfl k) ?_
  show own_Ends p.tables e below _ (T1.setTop (mkF m 10 #[.val (.ref a0), .val (.long q1), .second, .unset, .unset] [(.ref a0), (.int (16 : Int32))]))
  obtain ⟨T2, X2, e2, st2⟩ := getF X1 hx hZ hown (host := "") (Or.inl (hw _ (List.mem_of_getElem? (i := 22) rfl))) Via.refl e1 F_size (g := (mkF m 10 #[.val (.ref a0), .val (.long q1), .second, .unset, .unset] [(.ref a0), (.int (16 : Int32))])) rfl rfl (hb hby own_d6_10)
  refine own_step st2 ?_
  show own_Ends p.tables e below _ (T2.setTop (mkF m 13 #[.val (.ref a0), .val (.long q1), .second, .unset, .unset] [(.int (Int32.ofNat n)), (.int (16 : Int32))]))
  obtain ⟨_, _, ⟨T3, L3, k3, n3⟩, -, X3, ⟨Lc3, hQ3, l3, y3, z3⟩, st3⟩ := Jvm.LawKit.callS X2 hx (y := (⟨"com/example/restate/restate/model/LongColumn", "doubled", "(I)I"⟩ : MethodName)) hown (mvT hZ (hw _ (List.mem_of_getElem? (i := 33) rfl))) (mvT hZ (hw _ (List.mem_of_getElem? (i := 34) rfl))) (mvT hZ (hw _ (List.mem_of_getElem? (i := 6) rfl))) (mvT hZ (hw _ (List.mem_of_getElem? (i := 35) rfl))) (by decide) (backOf (W := 1) (own_rm_doubled l Z aw hw [] (Int32.ofNat n) h0 n0 Z0 ) hZ (hw _ (List.mem_of_getElem? (i := 35) rfl)) (hw _ (List.mem_of_getElem? (i := 6) rfl)) (by decide) (by decide)) (g := (mkF m 13 #[.val (.ref a0), .val (.long q1), .second, .unset, .unset] [(.int (Int32.ofNat n)), (.int (16 : Int32))])) rfl (by rw [hml]; rfl) (argsL := [(.int (Int32.ofNat n))]) (rest := [(.int (16 : Int32))]) (lenOf own_pd3 rfl) rfl (by show 2 * 0 + _ ≤ _; exact Nat.le_of_eq rfl) (hb hby own_d6_13) (fun _ _ => ⟨rfl, e2, (by decide : 0 + 0 ≤ _), (by decide : 0 + 0 ≤ _)⟩)
  dsimp only [Pt.U, Pt.locs, Pt.cells, Pt.slots] at X3 l3 y3 z3 st3 hQ3
  subst l3 y3 z3
  obtain ⟨rfl, N3q, e3⟩ := hQ3
  have N_3 := Fr.app N0 N3q
  refine own_step st3 ?_
  show own_Ends p.tables e below _ (T3.setTop (mkF m 16 #[.val (.ref a0), .val (.long q1), .second, .unset, .unset] [(.int (own_doubled (Int32.ofNat n))), (.int (16 : Int32))]))
  obtain ⟨_, _, ⟨T4, L4, k4, n4⟩, -, X4, ⟨Lc4, hQ4, l4, y4, z4⟩, st4⟩ := Jvm.LawKit.callS X3 hx (y := (⟨"java/lang/Math", "max", "(II)I"⟩ : MethodName)) hown (mvT hZ (hw _ (List.mem_of_getElem? (i := 42) rfl))) (mvT hZ (hw _ (List.mem_of_getElem? (i := 43) rfl))) (mvT hZ (hw _ (List.mem_of_getElem? (i := 40) rfl))) (mvT hZ (hw _ (List.mem_of_getElem? (i := 44) rfl))) (by decide) (backOf (W := 0) (own_rm_maxI l Z aw hw [] (16 : Int32) (own_doubled (Int32.ofNat n)) h0 n0 Z0 ) hZ (hw _ (List.mem_of_getElem? (i := 44) rfl)) (hw _ (List.mem_of_getElem? (i := 40) rfl)) (by decide) (by decide)) (g := (mkF m 16 #[.val (.ref a0), .val (.long q1), .second, .unset, .unset] [(.int (own_doubled (Int32.ofNat n))), (.int (16 : Int32))])) rfl (by rw [hml]; rfl) (argsL := [(.int (16 : Int32)), (.int (own_doubled (Int32.ofNat n)))]) (rest := []) (lenOf own_pd4 rfl) rfl (by show 2 * 0 + _ ≤ _; exact Nat.le_of_eq rfl) (hb hby own_d6_16) (fun _ _ => ⟨rfl, e3, (by decide : 0 + 0 ≤ _), (by decide : 0 + 0 ≤ _)⟩)
  dsimp only [Pt.U, Pt.locs, Pt.cells, Pt.slots] at X4 l4 y4 z4 st4 hQ4
  subst l4 y4 z4
  obtain ⟨rfl, N4q, e4⟩ := hQ4
  have N_4 := Fr.app N_3 N4q
  refine own_step st4 ?_
  show own_Ends p.tables e below _ (T4.setTop (mkF m 19 #[.val (.ref a0), .val (.long q1), .second, .unset, .unset] [(.int (own_maxI (16 : Int32) (own_doubled (Int32.ofNat n))))]))
  rw [own_cap n (by omega)]
  show own_Ends p.tables e below _ (T4.setTop (mkF m 19 #[.val (.ref a0), .val (.long q1), .second, .unset, .unset] [(.int (16 : Int32))]))
  obtain ⟨T5, h5, k5, X5, e5, E5, A5, st5⟩ := newP X4 hx hZ (hw _ (List.mem_of_getElem? (i := 45) rfl)) e4 (g := (mkF m 19 #[.val (.ref a0), .val (.long q1), .second, .unset, .unset] [(.int (16 : Int32))])) rfl (hb hby own_d6_19) rfl (by decide) (cap := 16) (by decide) (by decide) (by decide) (by decide)
  obtain ⟨b5, g5⟩ : ∃ z, z = h0.size := ⟨_, rfl⟩
  rw [← g5] at A5 st5
  refine own_step st5 ?_
  have ne_a0_b5 : a0 ≠ b5 := Nat.ne_of_lt (Nat.lt_of_lt_of_le E_a0.lt (Nat.le_of_eq g5.symm))
  have ne_b_b5 : b ≠ b5 := Nat.ne_of_lt (Nat.lt_of_lt_of_le V_b.lt (Nat.le_of_eq g5.symm))
  have g_b5 : n0 ≤ b5 := Nat.le_trans Z0 (Nat.le_of_eq g5.symm)
  have sz_b5 : h0.size ≤ b5 := Nat.le_trans K0.1 (Nat.le_of_eq g5.symm)
  have E_a0_5 := E_a0.ext E5
  have F_size_5 := F_size.ext E5
  have F_shared_5 := F_shared.ext E5
  have F_ints_5 := F_ints.ext E5
  have F_longs_5 := F_longs.ext E5
  have V_b_5 := V_b.ext E5
  have K_5 : Keep h0 h5 [a0] := K0.ext E5
  have Z_5 : n0 ≤ h5.size := Nat.le_trans Z0 E5.1
  have V_b5 : Arv Z h5 b5 k5 .long (16 : Int32) (List.replicate 16 (.long (0 : Int64))) (.long (0 : Int64)) := (Arv.new A5 (by decide)).pad (pad_rep [] (.long (0 : Int64)) 16)
  show own_Ends p.tables e below _ (T5.setTop (mkF m 21 #[.val (.ref a0), .val (.long q1), .second, .unset, .unset] [(.ref b5)]))
  refine own_step (fun _ k => XS.astoreN X5.here hx rfl (hb hby own_d6_21) rfl rfl (l' := #[.val (.ref a0), .val (.long q1), .second, .val (.ref b5), .unset]) rfl k) ?_
  show own_Ends p.tables e below _ (T5.setTop (mkF m 22 #[.val (.ref a0), .val (.long q1), .second, .val (.ref b5), .unset] []))
  refine own_step (fun _ k => XS.iconst X5.here hx rfl (hb hby own_d6_22) k) ?_
  show own_Ends p.tables e below _ (T5.setTop (mkF m 23 #[.val (.ref a0), .val (.long q1), .second, .val (.ref b5), .unset] [(.int (0 : Int32))]))
  refine own_step (fun _ k => XS.istore X5.here hx rfl (hb hby own_d6_23) rfl (l' := #[.val (.ref a0), .val (.long q1), .second, .val (.ref b5), .val (.int (0 : Int32))]) rfl k) ?_
  show own_Ends p.tables e below _ (T5.setTop (mkF m 25 #[.val (.ref a0), .val (.long q1), .second, .val (.ref b5), .val (.int (0 : Int32))] []))
  have jn25 : ∀ (kk : Nat) (Tj25 : State) (loj25 : List Loc) (hj25 : Heap) (j : Nat) (Xj25 : Stand p l e ({ frames := 2, cells := 1, slots := 16, locals := 28 } : Room) s m #[(.ref a0), (.long q1)] below meth c Tj25 loj25 1 16) (ej25 : Tj25.heap = hj25) (Nj25 : Fr n0 loj25) (Kj25 : Keep h0 hj25 [a0]) (Zj25 : n0 ≤ hj25.size) (E_a0_j25 : Exa Z hj25 a0 "com/example/restate/restate/model/LongColumn") (F_size_j25 : Fld Z hj25 a0 "com/example/restate/restate/model/LongColumn" "size" "I" (.int (Int32.ofNat n))) (F_shared_j25 : Fld Z hj25 a0 "com/example/restate/restate/model/LongColumn" "shared" "J" (.long sh)) (F_ints_j25 : Fld Z hj25 a0 "com/example/restate/restate/model/LongColumn" "ints" "[I" (.ref b)) (F_longs_j25 : Fld Z hj25 a0 "com/example/restate/restate/model/LongColumn" "longs" "[J" .null) (V_b_j25 : Arv Z hj25 b k .int (16 : Int32) vs (.int (0 : Int32))) (V_b5_j25 : Arv Z hj25 b5 k5 .long (16 : Int32) (own_lt (fun i => Value.long (f i)) (List.replicate 16 (.long (0 : Int64))) j) (.long (0 : Int64))) (hj : j + kk = n), own_Ends p.tables e below (own_Q s (own_QAL Z a0 q1 n sh f h0 n0) ({ frames := 2, cells := 1, slots := 16, locals := 28 } : Room).cells ({ frames := 2, cells := 1, slots := 16, locals := 28 } : Room).slots) (Tj25.setTop (mkF m 25 #[.val (.ref a0), .val (.long q1), .second, .val (.ref b5), .val (.int (Int32.ofNat j))] [])) := by
    intro kk
    induction kk with
    | zero =>
      intro Tj25 loj25 hj25 j Xj25 ej25 Nj25 Kj25 Zj25 E_a0_j25 F_size_j25 F_shared_j25 F_ints_j25 F_longs_j25 V_b_j25 V_b5_j25 hj
      refine own_step (fun _ k => XS.iload Xj25.here hx rfl (hb hby own_d6_25) rfl k) ?_
      show own_Ends p.tables e below _ (Tj25.setTop (mkF m 27 #[.val (.ref a0), .val (.long q1), .second, .val (.ref b5), .val (.int (Int32.ofNat j))] [(.int (Int32.ofNat j))]))
      refine own_step (fun _ k => XS.aloadN Xj25.here hx rfl (hb hby own_d6_27) rfl rfl k) ?_
      show own_Ends p.tables e below _ (Tj25.setTop (mkF m 28 #[.val (.ref a0), .val (.long q1), .second, .val (.ref b5), .val (.int (Int32.ofNat j))] [(.ref a0), (.int (Int32.ofNat j))]))
      obtain ⟨T6, X6, e6, st6⟩ := getF Xj25 hx hZ hown (host := "") (Or.inl (hw _ (List.mem_of_getElem? (i := 22) rfl))) Via.refl ej25 F_size_j25 (g := (mkF m 28 #[.val (.ref a0), .val (.long q1), .second, .val (.ref b5), .val (.int (Int32.ofNat j))] [(.ref a0), (.int (Int32.ofNat j))])) rfl rfl (hb hby own_d6_28)
      refine own_step st6 ?_
      show own_Ends p.tables e below _ (T6.setTop (mkF m 31 #[.val (.ref a0), .val (.long q1), .second, .val (.ref b5), .val (.int (Int32.ofNat j))] [(.int (Int32.ofNat n)), (.int (Int32.ofNat j))]))
      refine own_step (fun _ k => XS.icmpYes X6.here hx rfl (pc0 := 31) (pc' := 50) rfl (hb hby own_d6_31) rfl (flt (fun q => by have := (own_nlt (by omega) (by omega)).mp q; omega)).2.1 (by decide) (by decide) k) ?_
      show own_Ends p.tables e below _ (T6.setTop (mkF m 50 #[.val (.ref a0), .val (.long q1), .second, .val (.ref b5), .val (.int (Int32.ofNat j))] []))
      have ejn : j = n := by omega
      have Vf : Arv Z hj25 b5 k5 .long (16 : Int32) (own_lt (fun i => Value.long (f i)) (List.replicate 16 (.long (0 : Int64))) n) (.long (0 : Int64)) := ejn ▸ V_b5_j25
      refine own_step (fun _ k => XS.aloadN X6.here hx rfl (hb hby own_d6_50) rfl rfl k) ?_
      show own_Ends p.tables e below _ (T6.setTop (mkF m 51 #[.val (.ref a0), .val (.long q1), .second, .val (.ref b5), .val (.int (Int32.ofNat j))] [(.ref a0)]))
      refine own_step (fun _ k => XS.aloadN X6.here hx rfl (hb hby own_d6_51) rfl rfl k) ?_
      show own_Ends p.tables e below _ (T6.setTop (mkF m 52 #[.val (.ref a0), .val (.long q1), .second, .val (.ref b5), .val (.int (Int32.ofNat j))] [(.ref b5), (.ref a0)]))
      obtain ⟨T7, h7, X7, e7, W7, st7⟩ := putF X6 hx hZ hown (host := "") (Or.inl (hw _ (List.mem_of_getElem? (i := 20) rfl))) Via.refl e6 F_longs_j25 E_a0_j25 (Or.inl (hw _ (List.mem_of_getElem? (i := 21) rfl))) (hw _ (List.mem_of_getElem? (i := 5) rfl)) (ty := (.array .long)) (by decide) rfl rfl (g := (mkF m 52 #[.val (.ref a0), .val (.long q1), .second, .val (.ref b5), .val (.int (Int32.ofNat j))] [(.ref b5), (.ref a0)])) rfl rfl (hb hby own_d6_52)
      refine own_step st7 ?_
      have E_a0_j25_7 := E_a0_j25.wr W7
      have F_size_j25_7 := F_size_j25.other W7 (Or.inr (slot_ne (Or.inl (hw _ (List.mem_of_getElem? (i := 23) rfl))) (Or.inl (hw _ (List.mem_of_getElem? (i := 21) rfl))) (by decide) (t := .int) (t' := (.array .long)) (by decide) (by decide)))
      have F_shared_j25_7 := F_shared_j25.other W7 (Or.inr (slot_ne (Or.inl (hw _ (List.mem_of_getElem? (i := 25) rfl))) (Or.inl (hw _ (List.mem_of_getElem? (i := 21) rfl))) (by decide) (t := .long) (t' := (.array .long)) (by decide) (by decide)))
      have F_ints_j25_7 := F_ints_j25.other W7 (Or.inr (slot_ne (Or.inl (hw _ (List.mem_of_getElem? (i := 19) rfl))) (Or.inl (hw _ (List.mem_of_getElem? (i := 21) rfl))) (by decide) (t := (.array .int)) (t' := (.array .long)) (by decide) (by decide)))
      have F_longs_j25_7 := F_longs_j25.same W7
      have V_b_j25_7 := V_b_j25.other W7 (Ne.symm ne_ab)
      have Vf_7 := Vf.other W7 (Ne.symm ne_a0_b5)
      have K_7 : Keep h0 h7 [a0] := Kj25.wr W7 (Or.inl (List.mem_of_getElem? (i := 0) rfl))
      have Z_7 : n0 ≤ h7.size := Nat.le_trans Zj25 (Keep.of_wr W7).1
      have N_7 := Fr.snoc X7 Nj25 g_a0
      show own_Ends p.tables e below _ (T7.setTop (mkF m 55 #[.val (.ref a0), .val (.long q1), .second, .val (.ref b5), .val (.int (Int32.ofNat j))] []))
      refine own_step (fun _ k => XS.aloadN X7.here hx rfl (hb hby own_d6_55) rfl rfl k) ?_
      show own_Ends p.tables e below _ (T7.setTop (mkF m 56 #[.val (.ref a0), .val (.long q1), .second, .val (.ref b5), .val (.int (Int32.ofNat j))] [(.ref a0)]))
      refine own_step (fun _ k => XS.aconstNull X7.here hx rfl (hb hby own_d6_56) k) ?_
      show own_Ends p.tables e below _ (T7.setTop (mkF m 57 #[.val (.ref a0), .val (.long q1), .second, .val (.ref b5), .val (.int (Int32.ofNat j))] [.null, (.ref a0)]))
      obtain ⟨T8, h8, X8, e8, W8, st8⟩ := putF X7 hx hZ hown (host := "") (Or.inl (hw _ (List.mem_of_getElem? (i := 18) rfl))) Via.refl e7 F_ints_j25_7 E_a0_j25_7 (Or.inl (hw _ (List.mem_of_getElem? (i := 19) rfl))) (hw _ (List.mem_of_getElem? (i := 5) rfl)) (ty := (.array .int)) (by decide) rfl rfl (g := (mkF m 57 #[.val (.ref a0), .val (.long q1), .second, .val (.ref b5), .val (.int (Int32.ofNat j))] [.null, (.ref a0)])) rfl rfl (hb hby own_d6_57)
      refine own_step st8 ?_
      have E_a0_j25_8 := E_a0_j25_7.wr W8
      have F_size_j25_8 := F_size_j25_7.other W8 (Or.inr (slot_ne (Or.inl (hw _ (List.mem_of_getElem? (i := 23) rfl))) (Or.inl (hw _ (List.mem_of_getElem? (i := 19) rfl))) (by decide) (t := .int) (t' := (.array .int)) (by decide) (by decide)))
      have F_shared_j25_8 := F_shared_j25_7.other W8 (Or.inr (slot_ne (Or.inl (hw _ (List.mem_of_getElem? (i := 25) rfl))) (Or.inl (hw _ (List.mem_of_getElem? (i := 19) rfl))) (by decide) (t := .long) (t' := (.array .int)) (by decide) (by decide)))
      have F_ints_j25_8 := F_ints_j25_7.same W8
      have F_longs_j25_8 := F_longs_j25_7.other W8 (Or.inr (slot_ne (Or.inl (hw _ (List.mem_of_getElem? (i := 21) rfl))) (Or.inl (hw _ (List.mem_of_getElem? (i := 19) rfl))) (by decide) (t := (.array .long)) (t' := (.array .int)) (by decide) (by decide)))
      have V_b_j25_8 := V_b_j25_7.other W8 (Ne.symm ne_ab)
      have Vf_8 := Vf_7.other W8 (Ne.symm ne_a0_b5)
      have K_8 : Keep h0 h8 [a0] := K_7.wr W8 (Or.inl (List.mem_of_getElem? (i := 0) rfl))
      have Z_8 : n0 ≤ h8.size := Nat.le_trans Z_7 (Keep.of_wr W8).1
      have N_8 := Fr.snoc X8 N_7 g_a0
      show own_Ends p.tables e below _ (T8.setTop (mkF m 60 #[.val (.ref a0), .val (.long q1), .second, .val (.ref b5), .val (.int (Int32.ofNat j))] []))
      refine own_step (fun _ k => XS.goto X8.here hx rfl (pc0 := 60) (pc' := 93) rfl (hb hby own_d6_60) (by decide) (by decide) k) ?_
      show own_Ends p.tables e below _ (T8.setTop (mkF m 93 #[.val (.ref a0), .val (.long q1), .second, .val (.ref b5), .val (.int (Int32.ofNat j))] []))
      refine own_step (fun _ k => XS.aloadN X8.here hx rfl (hb hby own_d6_93) rfl rfl k) ?_
      show own_Ends p.tables e below _ (T8.setTop (mkF m 94 #[.val (.ref a0), .val (.long q1), .second, .val (.ref b5), .val (.int (Int32.ofNat j))] [(.ref a0)]))
      obtain ⟨T9, X9, e9, st9⟩ := getF X8 hx hZ hown (host := "") (Or.inl (hw _ (List.mem_of_getElem? (i := 20) rfl))) Via.refl e8 F_longs_j25_8 (g := (mkF m 94 #[.val (.ref a0), .val (.long q1), .second, .val (.ref b5), .val (.int (Int32.ofNat j))] [(.ref a0)])) rfl rfl (hb hby own_d6_94)
      refine own_step st9 ?_
      show own_Ends p.tables e below _ (T9.setTop (mkF m 97 #[.val (.ref a0), .val (.long q1), .second, .val (.ref b5), .val (.int (Int32.ofNat j))] [(.ref b5)]))
      refine own_step (fun _ k => XS.aloadN X9.here hx rfl (hb hby own_d6_97) rfl rfl k) ?_
      show own_Ends p.tables e below _ (T9.setTop (mkF m 98 #[.val (.ref a0), .val (.long q1), .second, .val (.ref b5), .val (.int (Int32.ofNat j))] [(.ref a0), (.ref b5)]))
      obtain ⟨T10, X10, e10, st10⟩ := getF X9 hx hZ hown (host := "") (Or.inl (hw _ (List.mem_of_getElem? (i := 22) rfl))) Via.refl e9 F_size_j25_8 (g := (mkF m 98 #[.val (.ref a0), .val (.long q1), .second, .val (.ref b5), .val (.int (Int32.ofNat j))] [(.ref a0), (.ref b5)])) rfl rfl (hb hby own_d6_98)
      refine own_step st10 ?_
      show own_Ends p.tables e below _ (T10.setTop (mkF m 101 #[.val (.ref a0), .val (.long q1), .second, .val (.ref b5), .val (.int (Int32.ofNat j))] [(.int (Int32.ofNat n)), (.ref b5)]))
      refine own_step (fun _ k => XS.lloadN X10.here hx rfl (hb hby own_d6_101) rfl k) ?_
      show own_Ends p.tables e below _ (T10.setTop (mkF m 102 #[.val (.ref a0), .val (.long q1), .second, .val (.ref b5), .val (.int (Int32.ofNat j))] [(.long q1), (.int (Int32.ofNat n)), (.ref b5)]))
      obtain ⟨cl11, Ar11, q11, S11, Nn11, H11, G11⟩ := id Vf_8
      have hin11 : ¬ ((Int32.ofNat n) < 0 ∨ cl11.slots.size ≤ ((Int32.ofNat n)).toNatClampNeg) := inb_of S11 ⟨(own_nn (by omega)), (own_l16 (by omega))⟩
      obtain ⟨T11, h11, X11, e11, W11, st11⟩ := stJ X10 hx hZ e10 Ar11 (j := (Int32.ofNat n)) hin11 (g := (mkF m 102 #[.val (.ref a0), .val (.long q1), .second, .val (.ref b5), .val (.int (Int32.ofNat j))] [(.long q1), (.int (Int32.ofNat n)), (.ref b5)])) rfl rfl (hb hby own_d6_102)
      refine own_step st11 ?_
      have E_a0_j25_11 := E_a0_j25_8.wr W11
      have F_size_j25_11 := F_size_j25_8.other W11 (Or.inl ne_a0_b5)
      have F_shared_j25_11 := F_shared_j25_8.other W11 (Or.inl ne_a0_b5)
      have F_ints_j25_11 := F_ints_j25_8.other W11 (Or.inl ne_a0_b5)
      have F_longs_j25_11 := F_longs_j25_8.other W11 (Or.inl ne_a0_b5)
      have V_b_j25_11 := V_b_j25_8.other W11 ne_b_b5
      have K_11 : Keep h0 h11 [a0] := K_8.wr W11 (Or.inr sz_b5)
      have Z_11 : n0 ≤ h11.size := Nat.le_trans Z_8 (Keep.of_wr W11).1
      have N_11 := Fr.snoc X11 N_8 g_b5
      have V_b5_11 : Arv Z h11 b5 k5 .long (16 : Int32) ((own_lt (fun i => Value.long (f i)) (List.replicate 16 (.long (0 : Int64))) n).set n (.long q1)) (.long (0 : Int64)) := Arv.set Ar11 q11 S11 Nn11 H11 G11 rfl W11 n (own_clamp (by omega)) (by first | (rw [own_lt_len]; simp; omega) | omega)
      show own_Ends p.tables e below _ (T11.setTop (mkF m 103 #[.val (.ref a0), .val (.long q1), .second, .val (.ref b5), .val (.int (Int32.ofNat j))] []))
      exact own_ret0 X11 hx hlk (by decide) (by decide) Bd.returns (hb hby own_d6_103) (by rw [e11]; exact ⟨rfl, N_11, K_11, F_size_j25_11, F_shared_j25_11, F_ints_j25_11, b5, _, F_longs_j25_11, ne_a0_b5, g_b5, V_b5_11⟩)
    | succ kk ih =>
      intro Tj25 loj25 hj25 j Xj25 ej25 Nj25 Kj25 Zj25 E_a0_j25 F_size_j25 F_shared_j25 F_ints_j25 F_longs_j25 V_b_j25 V_b5_j25 hj
      refine own_step (fun _ k => XS.iload Xj25.here hx rfl (hb hby own_d6_25) rfl k) ?_
      show own_Ends p.tables e below _ (Tj25.setTop (mkF m 27 #[.val (.ref a0), .val (.long q1), .second, .val (.ref b5), .val (.int (Int32.ofNat j))] [(.int (Int32.ofNat j))]))
      refine own_step (fun _ k => XS.aloadN Xj25.here hx rfl (hb hby own_d6_27) rfl rfl k) ?_
      show own_Ends p.tables e below _ (Tj25.setTop (mkF m 28 #[.val (.ref a0), .val (.long q1), .second, .val (.ref b5), .val (.int (Int32.ofNat j))] [(.ref a0), (.int (Int32.ofNat j))]))
      obtain ⟨T12, X12, e12, st12⟩ := getF Xj25 hx hZ hown (host := "") (Or.inl (hw _ (List.mem_of_getElem? (i := 22) rfl))) Via.refl ej25 F_size_j25 (g := (mkF m 28 #[.val (.ref a0), .val (.long q1), .second, .val (.ref b5), .val (.int (Int32.ofNat j))] [(.ref a0), (.int (Int32.ofNat j))])) rfl rfl (hb hby own_d6_28)
      refine own_step st12 ?_
      show own_Ends p.tables e below _ (T12.setTop (mkF m 31 #[.val (.ref a0), .val (.long q1), .second, .val (.ref b5), .val (.int (Int32.ofNat j))] [(.int (Int32.ofNat n)), (.int (Int32.ofNat j))]))
      refine own_step (fun _ k => XS.icmpNo X12.here hx rfl (hb hby own_d6_31) rfl (tlt ((own_nlt (by omega) (by omega)).mpr (by omega))).2.1 k) ?_
      show own_Ends p.tables e below _ (T12.setTop (mkF m 34 #[.val (.ref a0), .val (.long q1), .second, .val (.ref b5), .val (.int (Int32.ofNat j))] []))
      refine own_step (fun _ k => XS.aloadN X12.here hx rfl (hb hby own_d6_34) rfl rfl k) ?_
      show own_Ends p.tables e below _ (T12.setTop (mkF m 35 #[.val (.ref a0), .val (.long q1), .second, .val (.ref b5), .val (.int (Int32.ofNat j))] [(.ref b5)]))
      refine own_step (fun _ k => XS.iload X12.here hx rfl (hb hby own_d6_35) rfl k) ?_
      show own_Ends p.tables e below _ (T12.setTop (mkF m 37 #[.val (.ref a0), .val (.long q1), .second, .val (.ref b5), .val (.int (Int32.ofNat j))] [(.int (Int32.ofNat j)), (.ref b5)]))
      refine own_step (fun _ k => XS.aloadN X12.here hx rfl (hb hby own_d6_37) rfl rfl k) ?_
      show own_Ends p.tables e below _ (T12.setTop (mkF m 38 #[.val (.ref a0), .val (.long q1), .second, .val (.ref b5), .val (.int (Int32.ofNat j))] [(.ref a0), (.int (Int32.ofNat j)), (.ref b5)]))
      refine own_step (fun _ k => XS.iload X12.here hx rfl (hb hby own_d6_38) rfl k) ?_
      show own_Ends p.tables e below _ (T12.setTop (mkF m 40 #[.val (.ref a0), .val (.long q1), .second, .val (.ref b5), .val (.int (Int32.ofNat j))] [(.int (Int32.ofNat j)), (.ref a0), (.int (Int32.ofNat j)), (.ref b5)]))
      obtain ⟨cq13, kq13, q13a, q13b, q13c⟩ := isOf hZ e12 E_a0_j25
      obtain ⟨_, _, ⟨T13, L13, k13, n13⟩, -, X13, ⟨Lc13, hQ13, l13, y13, z13⟩, st13⟩ := X12.virtualBack hx (y := (⟨"com/example/restate/restate/model/LongColumn", "get", "(I)J"⟩ : MethodName)) (z := (⟨"com/example/restate/restate/model/LongColumn", "get", "(I)J"⟩ : MethodName)) hown (mvT hZ (hw _ (List.mem_of_getElem? (i := 46) rfl))) (mvT hZ (hw _ (List.mem_of_getElem? (i := 47) rfl))) (notFace_of_selects (args := #[]) (mvT hZ (hw _ (List.mem_of_getElem? (i := 49) rfl)))) (mvT hZ (hw _ (List.mem_of_getElem? (i := 49) rfl))) (mvT hZ (hw _ (List.mem_of_getElem? (i := 48) rfl))) (by decide) (backOf (W := 2) (own_rm_get_in l Z aw hw [] a0 j sh b k vs _ (f j) hj25 n0 Zj25 F_shared_j25 F_longs_j25 F_ints_j25 V_b_j25 (by omega) (hf j (by omega)).1 (hf j (by omega)).2) hZ (hw _ (List.mem_of_getElem? (i := 50) rfl)) (hw _ (List.mem_of_getElem? (i := 6) rfl)) (by decide) (by decide)) q13a q13c (g := (mkF m 40 #[.val (.ref a0), .val (.long q1), .second, .val (.ref b5), .val (.int (Int32.ofNat j))] [(.int (Int32.ofNat j)), (.ref a0), (.int (Int32.ofNat j)), (.ref b5)])) rfl (by rw [hml]; rfl) (Steps.refl _) (argsL := [(.int (Int32.ofNat j))]) (rest := [(.int (Int32.ofNat j)), (.ref b5)]) (lenOf own_pd6 rfl) rfl (by show 2 * 0 + _ ≤ _; exact Nat.le_of_eq rfl) (hb hby own_d6_40) (fun _ _ => ⟨rfl, e12, (by decide : 1 + 0 ≤ _), (by decide : 16 + 0 ≤ _)⟩)
      dsimp only [Pt.U, Pt.locs, Pt.cells, Pt.slots] at X13 l13 y13 z13 st13 hQ13
      subst l13 y13 z13
      obtain ⟨rfl, N13q, e13⟩ := hQ13
      have N_13 := Fr.app Nj25 N13q
      refine own_step (fun _ k => st13.trans k) ?_
      show own_Ends p.tables e below _ (T13.setTop (mkF m 43 #[.val (.ref a0), .val (.long q1), .second, .val (.ref b5), .val (.int (Int32.ofNat j))] [(.long (f j)), (.int (Int32.ofNat j)), (.ref b5)]))
      obtain ⟨cl14, Ar14, q14, S14, Nn14, H14, G14⟩ := id V_b5_j25
      have hin14 : ¬ ((Int32.ofNat j) < 0 ∨ cl14.slots.size ≤ ((Int32.ofNat j)).toNatClampNeg) := inb_of S14 ⟨(own_nn (by omega)), (own_l16 (by omega))⟩
      obtain ⟨T14, h14, X14, e14, W14, st14⟩ := stJ X13 hx hZ e13 Ar14 (j := (Int32.ofNat j)) hin14 (g := (mkF m 43 #[.val (.ref a0), .val (.long q1), .second, .val (.ref b5), .val (.int (Int32.ofNat j))] [(.long (f j)), (.int (Int32.ofNat j)), (.ref b5)])) rfl rfl (hb hby own_d6_43)
      refine own_step st14 ?_
      have E_a0_j25_14 := E_a0_j25.wr W14
      have F_size_j25_14 := F_size_j25.other W14 (Or.inl ne_a0_b5)
      have F_shared_j25_14 := F_shared_j25.other W14 (Or.inl ne_a0_b5)
      have F_ints_j25_14 := F_ints_j25.other W14 (Or.inl ne_a0_b5)
      have F_longs_j25_14 := F_longs_j25.other W14 (Or.inl ne_a0_b5)
      have V_b_j25_14 := V_b_j25.other W14 ne_b_b5
      have K_14 : Keep h0 h14 [a0] := Kj25.wr W14 (Or.inr sz_b5)
      have Z_14 : n0 ≤ h14.size := Nat.le_trans Zj25 (Keep.of_wr W14).1
      have N_14 := Fr.snoc X14 N_13 g_b5
      have V_b5_14 : Arv Z h14 b5 k5 .long (16 : Int32) ((own_lt (fun i => Value.long (f i)) (List.replicate 16 (.long (0 : Int64))) j).set j (.long (f j))) (.long (0 : Int64)) := Arv.set Ar14 q14 S14 Nn14 H14 G14 rfl W14 j (own_clamp (by omega)) (by rw [own_lt_len]; simp; omega)
      show own_Ends p.tables e below _ (T14.setTop (mkF m 44 #[.val (.ref a0), .val (.long q1), .second, .val (.ref b5), .val (.int (Int32.ofNat j))] []))
      refine own_step (fun _ k => XS.iinc X14.here hx rfl (hb hby own_d6_44) rfl (l' := #[.val (.ref a0), .val (.long q1), .second, .val (.ref b5), .val (.int ((Int32.ofNat j) + (1 : Int32)))]) rfl k) ?_
      show own_Ends p.tables e below _ (T14.setTop (mkF m 47 #[.val (.ref a0), .val (.long q1), .second, .val (.ref b5), .val (.int ((Int32.ofNat j) + (1 : Int32)))] []))
      rw [show (Int32.ofNat j) + (1 : Int32) = Int32.ofNat (j + 1) from own_inc j]
      show own_Ends p.tables e below _ (T14.setTop (mkF m 47 #[.val (.ref a0), .val (.long q1), .second, .val (.ref b5), .val (.int (Int32.ofNat (j + 1)))] []))
      refine own_step (fun _ k => XS.goto X14.here hx rfl (pc0 := 47) (pc' := 25) rfl (hb hby own_d6_47) (by decide) (by decide) k) ?_
      show own_Ends p.tables e below _ (T14.setTop (mkF m 25 #[.val (.ref a0), .val (.long q1), .second, .val (.ref b5), .val (.int (Int32.ofNat (j + 1)))] []))
      exact ih _ _ _ (j + 1) X14 e14 N_14 K_14 Z_14 E_a0_j25_14 F_size_j25_14 F_shared_j25_14 F_ints_j25_14 F_longs_j25_14 V_b_j25_14 V_b5_14 (by omega)
  show own_Ends p.tables e below _ (T5.setTop (mkF m 25 #[.val (.ref a0), .val (.long q1), .second, .val (.ref b5), .val (.int (0 : Int32))] []))
  exact jn25 n _ _ _ 0 X5 e5 N_4 K_5 Z_5 E_a0_5 F_size_5 F_shared_5 F_ints_5 F_longs_5 V_b_5 V_b5 (by omega)
theorem own_pd7 : parseMethodDescriptor "(J)Z" = some ⟨[.long], some .boolean⟩ := by decide +kernel
theorem own_pd8 : parseMethodDescriptor "(I)V" = some ⟨[.int], none⟩ := by decide +kernel
theorem own_pd9 : parseMethodDescriptor "(J)V" = some ⟨[.long], none⟩ := by decide +kernel
theorem own_d4_0 : decode prog_45_method_3_code 0 = .ok (.aload_n 0, 1) := by decide +kernel
theorem own_d4_1 : decode prog_45_method_3_code 1 = .ok (.getfield 13, 3) := by decide +kernel
theorem own_d4_4 : decode prog_45_method_3_code 4 = .ok (.ifnonnull 14, 3) := by decide +kernel
theorem own_d4_7 : decode prog_45_method_3_code 7 = .ok (.aload_n 0, 1) := by decide +kernel
theorem own_d4_8 : decode prog_45_method_3_code 8 = .ok (.getfield 17, 3) := by decide +kernel
theorem own_d4_11 : decode prog_45_method_3_code 11 = .ok (.ifnonnull 7, 3) := by decide +kernel
theorem own_d4_14 : decode prog_45_method_3_code 14 = .ok (.iconst 1, 1) := by decide +kernel
theorem own_d4_15 : decode prog_45_method_3_code 15 = .ok (.goto 4, 3) := by decide +kernel
theorem own_d4_19 : decode prog_45_method_3_code 19 = .ok (.istore_n 3, 1) := by decide +kernel
theorem own_d4_20 : decode prog_45_method_3_code 20 = .ok (.iload_n 3, 1) := by decide +kernel
theorem own_d4_21 : decode prog_45_method_3_code 21 = .ok (.ifCond .eq 27, 3) := by decide +kernel
theorem own_d4_24 : decode prog_45_method_3_code 24 = .ok (.aload_n 0, 1) := by decide +kernel
theorem own_d4_25 : decode prog_45_method_3_code 25 = .ok (.getfield 7, 3) := by decide +kernel
theorem own_d4_28 : decode prog_45_method_3_code 28 = .ok (.ifCond .eq 12, 3) := by decide +kernel
theorem own_d4_31 : decode prog_45_method_3_code 31 = .ok (.lload_n 1, 1) := by decide +kernel
theorem own_d4_32 : decode prog_45_method_3_code 32 = .ok (.aload_n 0, 1) := by decide +kernel
theorem own_d4_33 : decode prog_45_method_3_code 33 = .ok (.getfield 21, 3) := by decide +kernel
theorem own_d4_36 : decode prog_45_method_3_code 36 = .ok (.lcmp, 1) := by decide +kernel
theorem own_d4_37 : decode prog_45_method_3_code 37 = .ok (.ifCond .ne 11, 3) := by decide +kernel
theorem own_d4_40 : decode prog_45_method_3_code 40 = .ok (.aload_n 0, 1) := by decide +kernel
theorem own_d4_41 : decode prog_45_method_3_code 41 = .ok (.lload_n 1, 1) := by decide +kernel
theorem own_d4_42 : decode prog_45_method_3_code 42 = .ok (.putfield 21, 3) := by decide +kernel
theorem own_d4_45 : decode prog_45_method_3_code 45 = .ok (.goto 48, 3) := by decide +kernel
theorem own_d4_48 : decode prog_45_method_3_code 48 = .ok (.aload_n 0, 1) := by decide +kernel
theorem own_d4_49 : decode prog_45_method_3_code 49 = .ok (.getfield 17, 3) := by decide +kernel
theorem own_d4_52 : decode prog_45_method_3_code 52 = .ok (.ifnonnull 36, 3) := by decide +kernel
theorem own_d4_55 : decode prog_45_method_3_code 55 = .ok (.lload_n 1, 1) := by decide +kernel
theorem own_d4_56 : decode prog_45_method_3_code 56 = .ok (.invokestatic 25, 3) := by decide +kernel
theorem own_d4_59 : decode prog_45_method_3_code 59 = .ok (.ifCond .eq 29, 3) := by decide +kernel
theorem own_d4_62 : decode prog_45_method_3_code 62 = .ok (.aload_n 0, 1) := by decide +kernel
theorem own_d4_63 : decode prog_45_method_3_code 63 = .ok (.getfield 13, 3) := by decide +kernel
theorem own_d4_66 : decode prog_45_method_3_code 66 = .ok (.ifnonnull 13, 3) := by decide +kernel
theorem own_d4_69 : decode prog_45_method_3_code 69 = .ok (.aload_n 0, 1) := by decide +kernel
theorem own_d4_70 : decode prog_45_method_3_code 70 = .ok (.getfield 21, 3) := by decide +kernel
theorem own_d4_73 : decode prog_45_method_3_code 73 = .ok (.invokestatic 25, 3) := by decide +kernel
theorem own_d4_76 : decode prog_45_method_3_code 76 = .ok (.ifCond .eq 12, 3) := by decide +kernel
theorem own_d4_79 : decode prog_45_method_3_code 79 = .ok (.aload_n 0, 1) := by decide +kernel
theorem own_d4_80 : decode prog_45_method_3_code 80 = .ok (.lload_n 1, 1) := by decide +kernel
theorem own_d4_81 : decode prog_45_method_3_code 81 = .ok (.l2i, 1) := by decide +kernel
theorem own_d4_82 : decode prog_45_method_3_code 82 = .ok (.invokevirtual 29, 3) := by decide +kernel
theorem own_d4_85 : decode prog_45_method_3_code 85 = .ok (.goto 8, 3) := by decide +kernel
theorem own_d4_88 : decode prog_45_method_3_code 88 = .ok (.aload_n 0, 1) := by decide +kernel
theorem own_d4_89 : decode prog_45_method_3_code 89 = .ok (.lload_n 1, 1) := by decide +kernel
theorem own_d4_90 : decode prog_45_method_3_code 90 = .ok (.invokevirtual 33, 3) := by decide +kernel
theorem own_d4_93 : decode prog_45_method_3_code 93 = .ok (.aload_n 0, 1) := by decide +kernel
theorem own_d4_94 : decode prog_45_method_3_code 94 = .ok (.dup, 1) := by decide +kernel
theorem own_d4_95 : decode prog_45_method_3_code 95 = .ok (.getfield 7, 3) := by decide +kernel
theorem own_d4_98 : decode prog_45_method_3_code 98 = .ok (.iconst 1, 1) := by decide +kernel
theorem own_d4_99 : decode prog_45_method_3_code 99 = .ok (.iadd, 1) := by decide +kernel
theorem own_d4_100 : decode prog_45_method_3_code 100 = .ok (.putfield 7, 3) := by decide +kernel
theorem own_d4_103 : decode prog_45_method_3_code 103 = .ok (.return_, 1) := by decide +kernel
theorem own_ef_4 (m : MethodId) (x0 : Addr) (x1 : Int64) : entryFrame m #[(.ref x0), (.long x1)] 4 = mkF m 0 #[.val (.ref x0), .val (.long x1), .second, .unset] [] := by first | (simp [entryFrame, mkF, argsToLocals, Value.category]; done) | rfl
set_option maxRecDepth 65536 in
set_option maxHeartbeats 40000000 in
theorem own_rm_add_sh (l : Launch) (Z : State) (aw : Array Value) (hw : ∀ d ∈ tables_1, d.before aw Z = true) (ws : List Jvm.Cond) (a0 : Addr) (q1 : Int64) (xs : List Int64) (sh : Int64) (h0 : Heap) (n0 : Nat) (Z0 : n0 ≤ h0.size) (E_a0 : Exa Z h0 a0 "com/example/restate/restate/model/LongColumn") (F_size : Fld Z h0 a0 "com/example/restate/restate/model/LongColumn" "size" "I" (.int (Int32.ofNat xs.length))) (F_shared : Fld Z h0 a0 "com/example/restate/restate/model/LongColumn" "shared" "J" (.long sh)) (F_ints : Fld Z h0 a0 "com/example/restate/restate/model/LongColumn" "ints" "[I" .null) (F_longs : Fld Z h0 a0 "com/example/restate/restate/model/LongColumn" "longs" "[J" .null) (g_a0 : n0 ≤ a0) (hn : xs.length < 8) (hxs : ∀ x ∈ xs, x = sh) :
    MetFree l (⟨"com/example/restate/restate/model/LongColumn", "add", "(J)V"⟩ : MethodName) (head1 (Jvm.Cond.code (⟨"com/example/restate/restate/model/LongColumn", "add", "(J)V"⟩ : MethodName) prog_45_method_3_code 4 none :: ws) ({ frames := 3, cells := 1, slots := 16, locals := 44 } : Room)) (fun a U => a = #[(.ref a0), (.long q1)] ∧ Z.Warmed39 U.vm ∧ U.heap = h0) (fun _ _ _ _ _ => True) (fun _ U o U' => ∃ v L, o = .returned v ∧ own_QAdd Z a0 xs q1 h0 n0 v U'.heap L ∧ FrameEnd U o U' L ({ frames := 3, cells := 1, slots := 16, locals := 44 } : Room).cells ({ frames := 3, cells := 1, slots := 16, locals := 44 } : Room).slots) := by
  refine MetFree.of_bodySF (plainFor_of_name own_pn0) hisR ?_
  intro p e s m args below meth c s₁ Bd hml0 hP hK
  obtain ⟨rfl, hZ, hh⟩ := hP
  have hx := Bd.exec
  have hby := Bd.bytes
  have hlk : meth.locks = false := BodyLoose.notSynchronized Bd
  have hml : c.maxLocals = 4 := hml0
  have hown : s.vm.findClass "com/example/restate/restate/model/LongColumn" = some m.cls := findClass_of_methodNamed Bd.named
  have hnm := (name_of_methodNamed Bd.named Bd.method).1
  have X0 : Stand p l e ({ frames := 3, cells := 1, slots := 16, locals := 44 } : Room) s m #[(.ref a0), (.long q1)] below meth c s₁ [] 0 0 := Stand.of_body Bd
  have e0 : s₁.heap = h0 := by rw [← hh, Bd.state]; rfl
  have N0 := Fr.nil n0
  have K0 : Keep h0 h0 [a0] := Keep.refl _ _
  have pre0 : ∀ t, Steps p.tables e below (s₁.setTop (mkF m 0 #[.val (.ref a0), .val (.long q1), .second, .unset] [])) t → Steps p.tables e below (s₁.setTop (entryFrame m #[(.ref a0), (.long q1)] 4)) t := fun t k => castTop (own_ef_4 m a0 q1) k
  show own_Ends p.tables e below (own_Q s (own_QAdd Z a0 xs q1 h0 n0) ({ frames := 3, cells := 1, slots := 16, locals := 44 } : Room).cells ({ frames := 3, cells := 1, slots := 16, locals := 44 } : Room).slots) (s₁.setTop (entryFrame m #[(.ref a0), (.long q1)] 4))
  refine own_step pre0 ?_
  show own_Ends p.tables e below _ (s₁.setTop (mkF m 0 #[.val (.ref a0), .val (.long q1), .second, .unset] []))
  refine own_step (fun _ k => XS.aloadN X0.here hx rfl (hb hby own_d4_0) rfl rfl k) ?_
  show own_Ends p.tables e below _ (s₁.setTop (mkF m 1 #[.val (.ref a0), .val (.long q1), .second, .unset] [(.ref a0)]))
  obtain ⟨T1, X1, e1, st1⟩ := getF X0 hx hZ hown (host := "") (Or.inl (hw _ (List.mem_of_getElem? (i := 18) rfl))) Via.refl e0 F_ints (g := (mkF m 1 #[.val (.ref a0), .val (.long q1), .second, .unset] [(.ref a0)])) rfl rfl (hb hby own_d4_1)
  refine own_step st1 ?_
  show own_Ends p.tables e below _ (T1.setTop (mkF m 4 #[.val (.ref a0), .val (.long q1), .second, .unset] [.null]))
  refine own_step (fun _ k => XS.ifnonnullNo X1.here hx rfl (hb hby own_d4_4) rfl k) ?_
  show own_Ends p.tables e below _ (T1.setTop (mkF m 7 #[.val (.ref a0), .val (.long q1), .second, .unset] []))
  refine own_step (fun _ k => XS.aloadN X1.here hx rfl (hb hby own_d4_7) rfl rfl k) ?_
  show own_Ends p.tables e below _ (T1.setTop (mkF m 8 #[.val (.ref a0), .val (.long q1), .second, .unset] [(.ref a0)]))
  obtain ⟨T2, X2, e2, st2⟩ := getF X1 hx hZ hown (host := "") (Or.inl (hw _ (List.mem_of_getElem? (i := 20) rfl))) Via.refl e1 F_longs (g := (mkF m 8 #[.val (.ref a0), .val (.long q1), .second, .unset] [(.ref a0)])) rfl rfl (hb hby own_d4_8)
  refine own_step st2 ?_
  show own_Ends p.tables e below _ (T2.setTop (mkF m 11 #[.val (.ref a0), .val (.long q1), .second, .unset] [.null]))
  refine own_step (fun _ k => XS.ifnonnullNo X2.here hx rfl (hb hby own_d4_11) rfl k) ?_
  show own_Ends p.tables e below _ (T2.setTop (mkF m 14 #[.val (.ref a0), .val (.long q1), .second, .unset] []))
  refine own_step (fun _ k => XS.iconst X2.here hx rfl (hb hby own_d4_14) k) ?_
  show own_Ends p.tables e below _ (T2.setTop (mkF m 15 #[.val (.ref a0), .val (.long q1), .second, .unset] [(.int (1 : Int32))]))
  refine own_step (fun _ k => XS.goto X2.here hx rfl (pc0 := 15) (pc' := 19) rfl (hb hby own_d4_15) (by decide) (by decide) k) ?_
  show own_Ends p.tables e below _ (T2.setTop (mkF m 19 #[.val (.ref a0), .val (.long q1), .second, .unset] [(.int (1 : Int32))]))
  refine own_step (fun _ k => XS.istoreN X2.here hx rfl (hb hby own_d4_19) rfl (l' := #[.val (.ref a0), .val (.long q1), .second, .val (.int (1 : Int32))]) rfl k) ?_
  show own_Ends p.tables e below _ (T2.setTop (mkF m 20 #[.val (.ref a0), .val (.long q1), .second, .val (.int (1 : Int32))] []))
  refine own_step (fun _ k => XS.iloadN X2.here hx rfl (hb hby own_d4_20) rfl k) ?_
  show own_Ends p.tables e below _ (T2.setTop (mkF m 21 #[.val (.ref a0), .val (.long q1), .second, .val (.int (1 : Int32))] [(.int (1 : Int32))]))
  refine own_step (fun _ k => XS.ifNo X2.here hx rfl (hb hby own_d4_21) rfl ((if0 _ _).trans (feq (by decide)).1) k) ?_
  show own_Ends p.tables e below _ (T2.setTop (mkF m 24 #[.val (.ref a0), .val (.long q1), .second, .val (.int (1 : Int32))] []))
  refine own_step (fun _ k => XS.aloadN X2.here hx rfl (hb hby own_d4_24) rfl rfl k) ?_
  show own_Ends p.tables e below _ (T2.setTop (mkF m 25 #[.val (.ref a0), .val (.long q1), .second, .val (.int (1 : Int32))] [(.ref a0)]))
  obtain ⟨T3, X3, e3, st3⟩ := getF X2 hx hZ hown (host := "") (Or.inl (hw _ (List.mem_of_getElem? (i := 22) rfl))) Via.refl e2 F_size (g := (mkF m 25 #[.val (.ref a0), .val (.long q1), .second, .val (.int (1 : Int32))] [(.ref a0)])) rfl rfl (hb hby own_d4_25)
  refine own_step st3 ?_
  show own_Ends p.tables e below _ (T3.setTop (mkF m 28 #[.val (.ref a0), .val (.long q1), .second, .val (.int (1 : Int32))] [(.int (Int32.ofNat xs.length))]))
  by_cases hc28 : (Int32.ofNat xs.length) = (0 : Int32)
  · refine own_step (fun _ k => XS.ifYes X3.here hx rfl (pc0 := 28) (pc' := 40) rfl (hb hby own_d4_28) rfl ((if0 _ _).trans (teq hc28).1) (by decide) (by decide) k) ?_
    show own_Ends p.tables e below _ (T3.setTop (mkF m 40 #[.val (.ref a0), .val (.long q1), .second, .val (.int (1 : Int32))] []))
    refine own_step (fun _ k => XS.aloadN X3.here hx rfl (hb hby own_d4_40) rfl rfl k) ?_
    show own_Ends p.tables e below _ (T3.setTop (mkF m 41 #[.val (.ref a0), .val (.long q1), .second, .val (.int (1 : Int32))] [(.ref a0)]))
    refine own_step (fun _ k => XS.lloadN X3.here hx rfl (hb hby own_d4_41) rfl k) ?_
    show own_Ends p.tables e below _ (T3.setTop (mkF m 42 #[.val (.ref a0), .val (.long q1), .second, .val (.int (1 : Int32))] [(.long q1), (.ref a0)]))
    obtain ⟨T4, h4, X4, e4, W4, st4⟩ := putF X3 hx hZ hown (host := "") (Or.inl (hw _ (List.mem_of_getElem? (i := 24) rfl))) Via.refl e3 F_shared E_a0 (Or.inl (hw _ (List.mem_of_getElem? (i := 25) rfl))) (hw _ (List.mem_of_getElem? (i := 5) rfl)) (ty := .long) (by decide) rfl rfl (g := (mkF m 42 #[.val (.ref a0), .val (.long q1), .second, .val (.int (1 : Int32))] [(.long q1), (.ref a0)])) rfl rfl (hb hby own_d4_42)
    refine own_step st4 ?_
    have E_a0_4 := E_a0.wr W4
    have F_size_4 := F_size.other W4 (Or.inr (slot_ne (Or.inl (hw _ (List.mem_of_getElem? (i := 23) rfl))) (Or.inl (hw _ (List.mem_of_getElem? (i := 25) rfl))) (by decide) (t := .int) (t' := .long) (by decide) (by decide)))
    have F_shared_4 := F_shared.same W4
    have F_ints_4 := F_ints.other W4 (Or.inr (slot_ne (Or.inl (hw _ (List.mem_of_getElem? (i := 19) rfl))) (Or.inl (hw _ (List.mem_of_getElem? (i := 25) rfl))) (by decide) (t := (.array .int)) (t' := .long) (by decide) (by decide)))
    have F_longs_4 := F_longs.other W4 (Or.inr (slot_ne (Or.inl (hw _ (List.mem_of_getElem? (i := 21) rfl))) (Or.inl (hw _ (List.mem_of_getElem? (i := 25) rfl))) (by decide) (t := (.array .long)) (t' := .long) (by decide) (by decide)))
    have K_4 : Keep h0 h4 [a0] := K0.wr W4 (Or.inl (List.mem_of_getElem? (i := 0) rfl))
    have Z_4 : n0 ≤ h4.size := Nat.le_trans Z0 (Keep.of_wr W4).1
    have N_4 := Fr.snoc X4 N0 g_a0
    show own_Ends p.tables e below _ (T4.setTop (mkF m 45 #[.val (.ref a0), .val (.long q1), .second, .val (.int (1 : Int32))] []))
    refine own_step (fun _ k => XS.goto X4.here hx rfl (pc0 := 45) (pc' := 93) rfl (hb hby own_d4_45) (by decide) (by decide) k) ?_
    show own_Ends p.tables e below _ (T4.setTop (mkF m 93 #[.val (.ref a0), .val (.long q1), .second, .val (.int (1 : Int32))] []))
    refine own_step (fun _ k => XS.aloadN X4.here hx rfl (hb hby own_d4_93) rfl rfl k) ?_
    show own_Ends p.tables e below _ (T4.setTop (mkF m 94 #[.val (.ref a0), .val (.long q1), .second, .val (.int (1 : Int32))] [(.ref a0)]))
    refine own_step (fun _ k => XS.dup X4.here hx rfl (hb hby own_d4_94) rfl rfl k) ?_
    show own_Ends p.tables e below _ (T4.setTop (mkF m 95 #[.val (.ref a0), .val (.long q1), .second, .val (.int (1 : Int32))] [(.ref a0), (.ref a0)]))
    obtain ⟨T5, X5, e5, st5⟩ := getF X4 hx hZ hown (host := "") (Or.inl (hw _ (List.mem_of_getElem? (i := 22) rfl))) Via.refl e4 F_size_4 (g := (mkF m 95 #[.val (.ref a0), .val (.long q1), .second, .val (.int (1 : Int32))] [(.ref a0), (.ref a0)])) rfl rfl (hb hby own_d4_95)
    refine own_step st5 ?_
    show own_Ends p.tables e below _ (T5.setTop (mkF m 98 #[.val (.ref a0), .val (.long q1), .second, .val (.int (1 : Int32))] [(.int (Int32.ofNat xs.length)), (.ref a0)]))
    refine own_step (fun _ k => XS.iconst X5.here hx rfl (hb hby own_d4_98) k) ?_
    show own_Ends p.tables e below _ (T5.setTop (mkF m 99 #[.val (.ref a0), .val (.long q1), .second, .val (.int (1 : Int32))] [(.int (1 : Int32)), (.int (Int32.ofNat xs.length)), (.ref a0)]))
    refine own_step (fun _ k => XS.iadd X5.here hx rfl (hb hby own_d4_99) rfl k) ?_
    show own_Ends p.tables e below _ (T5.setTop (mkF m 100 #[.val (.ref a0), .val (.long q1), .second, .val (.int (1 : Int32))] [(.int ((Int32.ofNat xs.length) + (1 : Int32))), (.ref a0)]))
    obtain ⟨T6, h6, X6, e6, W6, st6⟩ := putF X5 hx hZ hown (host := "") (Or.inl (hw _ (List.mem_of_getElem? (i := 22) rfl))) Via.refl e5 F_size_4 E_a0_4 (Or.inl (hw _ (List.mem_of_getElem? (i := 23) rfl))) (hw _ (List.mem_of_getElem? (i := 5) rfl)) (ty := .int) (by decide) rfl rfl (g := (mkF m 100 #[.val (.ref a0), .val (.long q1), .second, .val (.int (1 : Int32))] [(.int ((Int32.ofNat xs.length) + (1 : Int32))), (.ref a0)])) rfl rfl (hb hby own_d4_100)
    refine own_step st6 ?_
    have E_a0_6 := E_a0_4.wr W6
    have F_size_6 := F_size_4.same W6
    have F_shared_6 := F_shared_4.other W6 (Or.inr (slot_ne (Or.inl (hw _ (List.mem_of_getElem? (i := 25) rfl))) (Or.inl (hw _ (List.mem_of_getElem? (i := 23) rfl))) (by decide) (t := .long) (t' := .int) (by decide) (by decide)))
    have F_ints_6 := F_ints_4.other W6 (Or.inr (slot_ne (Or.inl (hw _ (List.mem_of_getElem? (i := 19) rfl))) (Or.inl (hw _ (List.mem_of_getElem? (i := 23) rfl))) (by decide) (t := (.array .int)) (t' := .int) (by decide) (by decide)))
    have F_longs_6 := F_longs_4.other W6 (Or.inr (slot_ne (Or.inl (hw _ (List.mem_of_getElem? (i := 21) rfl))) (Or.inl (hw _ (List.mem_of_getElem? (i := 23) rfl))) (by decide) (t := (.array .long)) (t' := .int) (by decide) (by decide)))
    have K_6 : Keep h0 h6 [a0] := K_4.wr W6 (Or.inl (List.mem_of_getElem? (i := 0) rfl))
    have Z_6 : n0 ≤ h6.size := Nat.le_trans Z_4 (Keep.of_wr W6).1
    have N_6 := Fr.snoc X6 N_4 g_a0
    show own_Ends p.tables e below _ (T6.setTop (mkF m 103 #[.val (.ref a0), .val (.long q1), .second, .val (.int (1 : Int32))] []))
    exact own_ret0 X6 hx hlk (by decide) (by decide) Bd.returns (hb hby own_d4_103) (by rw [e6]; exact ⟨rfl, N_6, K_6.1, own_mk_sh E_a0_6 F_size_6 F_shared_6 F_ints_6 F_longs_6 (by have e := own_n0 (by omega) hc28; intro x hm; rw [List.length_eq_zero_iff.mp e] at hm; cases hm)⟩)
  · refine own_step (fun _ k => XS.ifNo X3.here hx rfl (hb hby own_d4_28) rfl ((if0 _ _).trans (feq hc28).1) k) ?_
    show own_Ends p.tables e below _ (T3.setTop (mkF m 31 #[.val (.ref a0), .val (.long q1), .second, .val (.int (1 : Int32))] []))
    refine own_step (fun _ k => XS.lloadN X3.here hx rfl (hb hby own_d4_31) rfl k) ?_
    show own_Ends p.tables e below _ (T3.setTop (mkF m 32 #[.val (.ref a0), .val (.long q1), .second, .val (.int (1 : Int32))] [(.long q1)]))
    refine own_step (fun _ k => XS.aloadN X3.here hx rfl (hb hby own_d4_32) rfl rfl k) ?_
    show own_Ends p.tables e below _ (T3.setTop (mkF m 33 #[.val (.ref a0), .val (.long q1), .second, .val (.int (1 : Int32))] [(.ref a0), (.long q1)]))
    obtain ⟨T7, X7, e7, st7⟩ := getF X3 hx hZ hown (host := "") (Or.inl (hw _ (List.mem_of_getElem? (i := 24) rfl))) Via.refl e3 F_shared (g := (mkF m 33 #[.val (.ref a0), .val (.long q1), .second, .val (.int (1 : Int32))] [(.ref a0), (.long q1)])) rfl rfl (hb hby own_d4_33)
    refine own_step st7 ?_
    show own_Ends p.tables e below _ (T7.setTop (mkF m 36 #[.val (.ref a0), .val (.long q1), .second, .val (.int (1 : Int32))] [(.long sh), (.long q1)]))
    refine own_step (fun _ k => XS.lcmp X7.here hx rfl (hb hby own_d4_36) rfl k) ?_
    show own_Ends p.tables e below _ (T7.setTop (mkF m 37 #[.val (.ref a0), .val (.long q1), .second, .val (.int (1 : Int32))] [(.int (lcmpW q1 sh))]))
    by_cases hc37 : q1 = sh
    · refine own_step (fun _ k => XS.ifNo X7.here hx rfl (hb hby own_d4_37) rfl ((if0 _ _).trans (teq ((own_lc_eq _ _).mpr hc37)).2) k) ?_
      show own_Ends p.tables e below _ (T7.setTop (mkF m 40 #[.val (.ref a0), .val (.long q1), .second, .val (.int (1 : Int32))] []))
      refine own_step (fun _ k => XS.aloadN X7.here hx rfl (hb hby own_d4_40) rfl rfl k) ?_
      show own_Ends p.tables e below _ (T7.setTop (mkF m 41 #[.val (.ref a0), .val (.long q1), .second, .val (.int (1 : Int32))] [(.ref a0)]))
      refine own_step (fun _ k => XS.lloadN X7.here hx rfl (hb hby own_d4_41) rfl k) ?_
      show own_Ends p.tables e below _ (T7.setTop (mkF m 42 #[.val (.ref a0), .val (.long q1), .second, .val (.int (1 : Int32))] [(.long q1), (.ref a0)]))
      obtain ⟨T8, h8, X8, e8, W8, st8⟩ := putF X7 hx hZ hown (host := "") (Or.inl (hw _ (List.mem_of_getElem? (i := 24) rfl))) Via.refl e7 F_shared E_a0 (Or.inl (hw _ (List.mem_of_getElem? (i := 25) rfl))) (hw _ (List.mem_of_getElem? (i := 5) rfl)) (ty := .long) (by decide) rfl rfl (g := (mkF m 42 #[.val (.ref a0), .val (.long q1), .second, .val (.int (1 : Int32))] [(.long q1), (.ref a0)])) rfl rfl (hb hby own_d4_42)
      refine own_step st8 ?_
      have E_a0_8 := E_a0.wr W8
      have F_size_8 := F_size.other W8 (Or.inr (slot_ne (Or.inl (hw _ (List.mem_of_getElem? (i := 23) rfl))) (Or.inl (hw _ (List.mem_of_getElem? (i := 25) rfl))) (by decide) (t := .int) (t' := .long) (by decide) (by decide)))
      have F_shared_8 := F_shared.same W8
      have F_ints_8 := F_ints.other W8 (Or.inr (slot_ne (Or.inl (hw _ (List.mem_of_getElem? (i := 19) rfl))) (Or.inl (hw _ (List.mem_of_getElem? (i := 25) rfl))) (by decide) (t := (.array .int)) (t' := .long) (by decide) (by decide)))
      have F_longs_8 := F_longs.other W8 (Or.inr (slot_ne (Or.inl (hw _ (List.mem_of_getElem? (i := 21) rfl))) (Or.inl (hw _ (List.mem_of_getElem? (i := 25) rfl))) (by decide) (t := (.array .long)) (t' := .long) (by decide) (by decide)))
      have K_8 : Keep h0 h8 [a0] := K0.wr W8 (Or.inl (List.mem_of_getElem? (i := 0) rfl))
      have Z_8 : n0 ≤ h8.size := Nat.le_trans Z0 (Keep.of_wr W8).1
      have N_8 := Fr.snoc X8 N0 g_a0
      show own_Ends p.tables e below _ (T8.setTop (mkF m 45 #[.val (.ref a0), .val (.long q1), .second, .val (.int (1 : Int32))] []))
      refine own_step (fun _ k => XS.goto X8.here hx rfl (pc0 := 45) (pc' := 93) rfl (hb hby own_d4_45) (by decide) (by decide) k) ?_
      show own_Ends p.tables e below _ (T8.setTop (mkF m 93 #[.val (.ref a0), .val (.long q1), .second, .val (.int (1 : Int32))] []))
      refine own_step (fun _ k => XS.aloadN X8.here hx rfl (hb hby own_d4_93) rfl rfl k) ?_
      show own_Ends p.tables e below _ (T8.setTop (mkF m 94 #[.val (.ref a0), .val (.long q1), .second, .val (.int (1 : Int32))] [(.ref a0)]))
      refine own_step (fun _ k => XS.dup X8.here hx rfl (hb hby own_d4_94) rfl rfl k) ?_
      show own_Ends p.tables e below _ (T8.setTop (mkF m 95 #[.val (.ref a0), .val (.long q1), .second, .val (.int (1 : Int32))] [(.ref a0), (.ref a0)]))
      obtain ⟨T9, X9, e9, st9⟩ := getF X8 hx hZ hown (host := "") (Or.inl (hw _ (List.mem_of_getElem? (i := 22) rfl))) Via.refl e8 F_size_8 (g := (mkF m 95 #[.val (.ref a0), .val (.long q1), .second, .val (.int (1 : Int32))] [(.ref a0), (.ref a0)])) rfl rfl (hb hby own_d4_95)
      refine own_step st9 ?_
      show own_Ends p.tables e below _ (T9.setTop (mkF m 98 #[.val (.ref a0), .val (.long q1), .second, .val (.int (1 : Int32))] [(.int (Int32.ofNat xs.length)), (.ref a0)]))
      refine own_step (fun _ k => XS.iconst X9.here hx rfl (hb hby own_d4_98) k) ?_
      show own_Ends p.tables e below _ (T9.setTop (mkF m 99 #[.val (.ref a0), .val (.long q1), .second, .val (.int (1 : Int32))] [(.int (1 : Int32)), (.int (Int32.ofNat xs.length)), (.ref a0)]))
      refine own_step (fun _ k => XS.iadd X9.here hx rfl (hb hby own_d4_99) rfl k) ?_
      show own_Ends p.tables e below _ (T9.setTop (mkF m 100 #[.val (.ref a0), .val (.long q1), .second, .val (.int (1 : Int32))] [(.int ((Int32.ofNat xs.length) + (1 : Int32))), (.ref a0)]))
      obtain ⟨T10, h10, X10, e10, W10, st10⟩ := putF X9 hx hZ hown (host := "") (Or.inl (hw _ (List.mem_of_getElem? (i := 22) rfl))) Via.refl e9 F_size_8 E_a0_8 (Or.inl (hw _ (List.mem_of_getElem? (i := 23) rfl))) (hw _ (List.mem_of_getElem? (i := 5) rfl)) (ty := .int) (by decide) rfl rfl (g := (mkF m 100 #[.val (.ref a0), .val (.long q1), .second, .val (.int (1 : Int32))] [(.int ((Int32.ofNat xs.length) + (1 : Int32))), (.ref a0)])) rfl rfl (hb hby own_d4_100)
      refine own_step st10 ?_
      have E_a0_10 := E_a0_8.wr W10
      have F_size_10 := F_size_8.same W10
      have F_shared_10 := F_shared_8.other W10 (Or.inr (slot_ne (Or.inl (hw _ (List.mem_of_getElem? (i := 25) rfl))) (Or.inl (hw _ (List.mem_of_getElem? (i := 23) rfl))) (by decide) (t := .long) (t' := .int) (by decide) (by decide)))
      have F_ints_10 := F_ints_8.other W10 (Or.inr (slot_ne (Or.inl (hw _ (List.mem_of_getElem? (i := 19) rfl))) (Or.inl (hw _ (List.mem_of_getElem? (i := 23) rfl))) (by decide) (t := (.array .int)) (t' := .int) (by decide) (by decide)))
      have F_longs_10 := F_longs_8.other W10 (Or.inr (slot_ne (Or.inl (hw _ (List.mem_of_getElem? (i := 21) rfl))) (Or.inl (hw _ (List.mem_of_getElem? (i := 23) rfl))) (by decide) (t := (.array .long)) (t' := .int) (by decide) (by decide)))
      have K_10 : Keep h0 h10 [a0] := K_8.wr W10 (Or.inl (List.mem_of_getElem? (i := 0) rfl))
      have Z_10 : n0 ≤ h10.size := Nat.le_trans Z_8 (Keep.of_wr W10).1
      have N_10 := Fr.snoc X10 N_8 g_a0
      show own_Ends p.tables e below _ (T10.setTop (mkF m 103 #[.val (.ref a0), .val (.long q1), .second, .val (.int (1 : Int32))] []))
      exact own_ret0 X10 hx hlk (by decide) (by decide) Bd.returns (hb hby own_d4_103) (by rw [e10]; exact ⟨rfl, N_10, K_10.1, own_mk_sh E_a0_10 F_size_10 F_shared_10 F_ints_10 F_longs_10 (by rw [hc37]; exact hxs)⟩)
    · refine own_step (fun _ k => XS.ifYes X7.here hx rfl (pc0 := 37) (pc' := 48) rfl (hb hby own_d4_37) rfl ((if0 _ _).trans (feq (fun q => hc37 ((own_lc_eq _ _).mp q))).2) (by decide) (by decide) k) ?_
      show own_Ends p.tables e below _ (T7.setTop (mkF m 48 #[.val (.ref a0), .val (.long q1), .second, .val (.int (1 : Int32))] []))
      refine own_step (fun _ k => XS.aloadN X7.here hx rfl (hb hby own_d4_48) rfl rfl k) ?_
      show own_Ends p.tables e below _ (T7.setTop (mkF m 49 #[.val (.ref a0), .val (.long q1), .second, .val (.int (1 : Int32))] [(.ref a0)]))
      obtain ⟨T11, X11, e11, st11⟩ := getF X7 hx hZ hown (host := "") (Or.inl (hw _ (List.mem_of_getElem? (i := 20) rfl))) Via.refl e7 F_longs (g := (mkF m 49 #[.val (.ref a0), .val (.long q1), .second, .val (.int (1 : Int32))] [(.ref a0)])) rfl rfl (hb hby own_d4_49)
      refine own_step st11 ?_
      show own_Ends p.tables e below _ (T11.setTop (mkF m 52 #[.val (.ref a0), .val (.long q1), .second, .val (.int (1 : Int32))] [.null]))
      refine own_step (fun _ k => XS.ifnonnullNo X11.here hx rfl (hb hby own_d4_52) rfl k) ?_
      show own_Ends p.tables e below _ (T11.setTop (mkF m 55 #[.val (.ref a0), .val (.long q1), .second, .val (.int (1 : Int32))] []))
      refine own_step (fun _ k => XS.lloadN X11.here hx rfl (hb hby own_d4_55) rfl k) ?_
      show own_Ends p.tables e below _ (T11.setTop (mkF m 56 #[.val (.ref a0), .val (.long q1), .second, .val (.int (1 : Int32))] [(.long q1)]))
      obtain ⟨_, _, ⟨T12, L12, k12, n12⟩, -, X12, ⟨Lc12, hQ12, l12, y12, z12⟩, st12⟩ := Jvm.LawKit.callS X11 hx (y := (⟨"com/example/restate/restate/model/LongColumn", "fitsInt", "(J)Z"⟩ : MethodName)) hown (mvT hZ (hw _ (List.mem_of_getElem? (i := 26) rfl))) (mvT hZ (hw _ (List.mem_of_getElem? (i := 27) rfl))) (mvT hZ (hw _ (List.mem_of_getElem? (i := 6) rfl))) (mvT hZ (hw _ (List.mem_of_getElem? (i := 28) rfl))) (by decide) (backOf (W := 0) (own_rm_fitsInt l Z aw hw [] q1 h0 n0 Z0 ) hZ (hw _ (List.mem_of_getElem? (i := 28) rfl)) (hw _ (List.mem_of_getElem? (i := 6) rfl)) (by decide) (by decide)) (g := (mkF m 56 #[.val (.ref a0), .val (.long q1), .second, .val (.int (1 : Int32))] [(.long q1)])) rfl (by rw [hml]; rfl) (argsL := [(.long q1)]) (rest := []) (lenOf own_pd7 rfl) rfl (by show 2 * 0 + _ ≤ _; exact Nat.le_of_eq rfl) (hb hby own_d4_56) (fun _ _ => ⟨rfl, e11, (by decide : 0 + 0 ≤ _), (by decide : 0 + 0 ≤ _)⟩)
      dsimp only [Pt.U, Pt.locs, Pt.cells, Pt.slots] at X12 l12 y12 z12 st12 hQ12
      subst l12 y12 z12
      obtain ⟨rfl, N12q, e12⟩ := hQ12
      have N_12 := Fr.app N0 N12q
      refine own_step st12 ?_
      show own_Ends p.tables e below _ (T12.setTop (mkF m 59 #[.val (.ref a0), .val (.long q1), .second, .val (.int (1 : Int32))] [(.int (own_fits q1))]))
      by_cases hc59 : (own_fits q1) = (0 : Int32)
      · refine own_step (fun _ k => XS.ifYes X12.here hx rfl (pc0 := 59) (pc' := 88) rfl (hb hby own_d4_59) rfl ((if0 _ _).trans (teq hc59).1) (by decide) (by decide) k) ?_
        show own_Ends p.tables e below _ (T12.setTop (mkF m 88 #[.val (.ref a0), .val (.long q1), .second, .val (.int (1 : Int32))] []))
        refine own_step (fun _ k => XS.aloadN X12.here hx rfl (hb hby own_d4_88) rfl rfl k) ?_
        show own_Ends p.tables e below _ (T12.setTop (mkF m 89 #[.val (.ref a0), .val (.long q1), .second, .val (.int (1 : Int32))] [(.ref a0)]))
        refine own_step (fun _ k => XS.lloadN X12.here hx rfl (hb hby own_d4_89) rfl k) ?_
        show own_Ends p.tables e below _ (T12.setTop (mkF m 90 #[.val (.ref a0), .val (.long q1), .second, .val (.int (1 : Int32))] [(.long q1), (.ref a0)]))
        obtain ⟨cq13, qz13, qz13'⟩ := E_a0.cell
        obtain ⟨_, _, ⟨T13, L13, k13, n13⟩, -, X13, ⟨Lc13, hQ13, l13, y13, z13⟩, st13⟩ := X12.privateBack hx (y := (⟨"com/example/restate/restate/model/LongColumn", "addLong", "(J)V"⟩ : MethodName)) hown (mvT hZ (hw _ (List.mem_of_getElem? (i := 29) rfl))) (mvT hZ (hw _ (List.mem_of_getElem? (i := 30) rfl))) (own_sel_priv (by decide) (mvT hZ (hw _ (List.mem_of_getElem? (i := 5) rfl))) (mvP hZ (hw _ (List.mem_of_getElem? (i := 31) rfl))) (mvT hZ (hw _ (List.mem_of_getElem? (i := 30) rfl)))) (Cond.privateMethod_at (mvP hZ (hw _ (List.mem_of_getElem? (i := 31) rfl)) (args := #[]))) (mvT hZ (hw _ (List.mem_of_getElem? (i := 32) rfl))) (by decide) (backOf (W := 0) (own_rm_addLong_sh l Z aw hw [] a0 q1 xs.length sh (fun i => xs.getD i 0) h0 n0 Z0 E_a0 F_size F_shared F_ints F_longs g_a0 hn (fun i hi => own_same hxs i hi)) hZ (hw _ (List.mem_of_getElem? (i := 32) rfl)) (hw _ (List.mem_of_getElem? (i := 6) rfl)) (by decide) (by decide)) (g := (mkF m 90 #[.val (.ref a0), .val (.long q1), .second, .val (.int (1 : Int32))] [(.long q1), (.ref a0)])) rfl (by rw [hml]; rfl) (Steps.refl _) (a := a0) (by rw [e12]; exact qz13) qz13' (argsL := [(.long q1)]) (rest := []) (lenOf own_pd9 rfl) rfl (by show 2 * 0 + _ ≤ _; exact Nat.le_of_eq rfl) (hb hby own_d4_90) (fun _ _ => ⟨rfl, e12, (by decide : 0 + 1 ≤ _), (by decide : 0 + 16 ≤ _)⟩)
        dsimp only [Pt.U, Pt.locs, Pt.cells, Pt.slots] at X13 l13 y13 z13 st13 hQ13
        subst l13 y13 z13
        obtain ⟨rfl, N13q, k13, Fs13, Fh13, Fo13, bb13, ka13, Fa13, ne13, ge13, Va13⟩ := hQ13
        have N_13 := Fr.app N_12 N13q
        have E_a0_13 := E_a0.keep k13
        have K_13 : Keep h0 T13.heap [a0] := K0.trans k13 (allS (Or.inl (List.mem_of_getElem? (i := 0) rfl)) all0)
        have Z_13 : n0 ≤ T13.heap.size := Nat.le_trans Z0 k13.1
        refine own_step (fun _ k => st13.trans k) ?_
        show own_Ends p.tables e below _ (T13.setTop (mkF m 93 #[.val (.ref a0), .val (.long q1), .second, .val (.int (1 : Int32))] []))
        refine own_step (fun _ k => XS.aloadN X13.here hx rfl (hb hby own_d4_93) rfl rfl k) ?_
        show own_Ends p.tables e below _ (T13.setTop (mkF m 94 #[.val (.ref a0), .val (.long q1), .second, .val (.int (1 : Int32))] [(.ref a0)]))
        refine own_step (fun _ k => XS.dup X13.here hx rfl (hb hby own_d4_94) rfl rfl k) ?_
        show own_Ends p.tables e below _ (T13.setTop (mkF m 95 #[.val (.ref a0), .val (.long q1), .second, .val (.int (1 : Int32))] [(.ref a0), (.ref a0)]))
        obtain ⟨T14, X14, e14, st14⟩ := getF X13 hx hZ hown (host := "") (Or.inl (hw _ (List.mem_of_getElem? (i := 22) rfl))) Via.refl rfl Fs13 (g := (mkF m 95 #[.val (.ref a0), .val (.long q1), .second, .val (.int (1 : Int32))] [(.ref a0), (.ref a0)])) rfl rfl (hb hby own_d4_95)
        refine own_step st14 ?_
        show own_Ends p.tables e below _ (T14.setTop (mkF m 98 #[.val (.ref a0), .val (.long q1), .second, .val (.int (1 : Int32))] [(.int (Int32.ofNat xs.length)), (.ref a0)]))
        refine own_step (fun _ k => XS.iconst X14.here hx rfl (hb hby own_d4_98) k) ?_
        show own_Ends p.tables e below _ (T14.setTop (mkF m 99 #[.val (.ref a0), .val (.long q1), .second, .val (.int (1 : Int32))] [(.int (1 : Int32)), (.int (Int32.ofNat xs.length)), (.ref a0)]))
        refine own_step (fun _ k => XS.iadd X14.here hx rfl (hb hby own_d4_99) rfl k) ?_
        show own_Ends p.tables e below _ (T14.setTop (mkF m 100 #[.val (.ref a0), .val (.long q1), .second, .val (.int (1 : Int32))] [(.int ((Int32.ofNat xs.length) + (1 : Int32))), (.ref a0)]))
        obtain ⟨T15, h15, X15, e15, W15, st15⟩ := putF X14 hx hZ hown (host := "") (Or.inl (hw _ (List.mem_of_getElem? (i := 22) rfl))) Via.refl e14 Fs13 E_a0_13 (Or.inl (hw _ (List.mem_of_getElem? (i := 23) rfl))) (hw _ (List.mem_of_getElem? (i := 5) rfl)) (ty := .int) (by decide) rfl rfl (g := (mkF m 100 #[.val (.ref a0), .val (.long q1), .second, .val (.int (1 : Int32))] [(.int ((Int32.ofNat xs.length) + (1 : Int32))), (.ref a0)])) rfl rfl (hb hby own_d4_100)
        refine own_step st15 ?_
        have E_a0_15 := E_a0_13.wr W15
        have Fs13_15 := Fs13.same W15
        have Fh13_15 := Fh13.other W15 (Or.inr (slot_ne (Or.inl (hw _ (List.mem_of_getElem? (i := 25) rfl))) (Or.inl (hw _ (List.mem_of_getElem? (i := 23) rfl))) (by decide) (t := .long) (t' := .int) (by decide) (by decide)))
        have Fo13_15 := Fo13.other W15 (Or.inr (slot_ne (Or.inl (hw _ (List.mem_of_getElem? (i := 19) rfl))) (Or.inl (hw _ (List.mem_of_getElem? (i := 23) rfl))) (by decide) (t := (.array .int)) (t' := .int) (by decide) (by decide)))
        have Fa13_15 := Fa13.other W15 (Or.inr (slot_ne (Or.inl (hw _ (List.mem_of_getElem? (i := 21) rfl))) (Or.inl (hw _ (List.mem_of_getElem? (i := 23) rfl))) (by decide) (t := (.array .long)) (t' := .int) (by decide) (by decide)))
        have Va13_15 := Va13.other W15 (Ne.symm ne13)
        have K_15 : Keep h0 h15 [a0] := K_13.wr W15 (Or.inl (List.mem_of_getElem? (i := 0) rfl))
        have Z_15 : n0 ≤ h15.size := Nat.le_trans Z_13 (Keep.of_wr W15).1
        have N_15 := Fr.snoc X15 N_13 g_a0
        show own_Ends p.tables e below _ (T15.setTop (mkF m 103 #[.val (.ref a0), .val (.long q1), .second, .val (.int (1 : Int32))] []))
        exact own_ret0 X15 hx hlk (by decide) (by decide) Bd.returns (hb hby own_d4_103) (by rw [e15]; exact ⟨rfl, N_15, K_15.1, own_mk_lo E_a0_15 Fs13_15 Fh13_15 Fo13_15 Fa13_15 ne13 ge13 Va13_15 (by rw [List.length_set, own_lt_len]; simp) (own_Rlo_snoc (own_Rlo_fill (by simp; omega)) (by rw [own_lt_len]; simp; omega))⟩)
      · refine own_step (fun _ k => XS.ifNo X12.here hx rfl (hb hby own_d4_59) rfl ((if0 _ _).trans (feq hc59).1) k) ?_
        show own_Ends p.tables e below _ (T12.setTop (mkF m 62 #[.val (.ref a0), .val (.long q1), .second, .val (.int (1 : Int32))] []))
        refine own_step (fun _ k => XS.aloadN X12.here hx rfl (hb hby own_d4_62) rfl rfl k) ?_
        show own_Ends p.tables e below _ (T12.setTop (mkF m 63 #[.val (.ref a0), .val (.long q1), .second, .val (.int (1 : Int32))] [(.ref a0)]))
        obtain ⟨T16, X16, e16, st16⟩ := getF X12 hx hZ hown (host := "") (Or.inl (hw _ (List.mem_of_getElem? (i := 18) rfl))) Via.refl e12 F_ints (g := (mkF m 63 #[.val (.ref a0), .val (.long q1), .second, .val (.int (1 : Int32))] [(.ref a0)])) rfl rfl (hb hby own_d4_63)
        refine own_step st16 ?_
        show own_Ends p.tables e below _ (T16.setTop (mkF m 66 #[.val (.ref a0), .val (.long q1), .second, .val (.int (1 : Int32))] [.null]))
        refine own_step (fun _ k => XS.ifnonnullNo X16.here hx rfl (hb hby own_d4_66) rfl k) ?_
        show own_Ends p.tables e below _ (T16.setTop (mkF m 69 #[.val (.ref a0), .val (.long q1), .second, .val (.int (1 : Int32))] []))
        refine own_step (fun _ k => XS.aloadN X16.here hx rfl (hb hby own_d4_69) rfl rfl k) ?_
        show own_Ends p.tables e below _ (T16.setTop (mkF m 70 #[.val (.ref a0), .val (.long q1), .second, .val (.int (1 : Int32))] [(.ref a0)]))
        obtain ⟨T17, X17, e17, st17⟩ := getF X16 hx hZ hown (host := "") (Or.inl (hw _ (List.mem_of_getElem? (i := 24) rfl))) Via.refl e16 F_shared (g := (mkF m 70 #[.val (.ref a0), .val (.long q1), .second, .val (.int (1 : Int32))] [(.ref a0)])) rfl rfl (hb hby own_d4_70)
        refine own_step st17 ?_
        show own_Ends p.tables e below _ (T17.setTop (mkF m 73 #[.val (.ref a0), .val (.long q1), .second, .val (.int (1 : Int32))] [(.long sh)]))
        obtain ⟨_, _, ⟨T18, L18, k18, n18⟩, -, X18, ⟨Lc18, hQ18, l18, y18, z18⟩, st18⟩ := Jvm.LawKit.callS X17 hx (y := (⟨"com/example/restate/restate/model/LongColumn", "fitsInt", "(J)Z"⟩ : MethodName)) hown (mvT hZ (hw _ (List.mem_of_getElem? (i := 26) rfl))) (mvT hZ (hw _ (List.mem_of_getElem? (i := 27) rfl))) (mvT hZ (hw _ (List.mem_of_getElem? (i := 6) rfl))) (mvT hZ (hw _ (List.mem_of_getElem? (i := 28) rfl))) (by decide) (backOf (W := 0) (own_rm_fitsInt l Z aw hw [] sh h0 n0 Z0 ) hZ (hw _ (List.mem_of_getElem? (i := 28) rfl)) (hw _ (List.mem_of_getElem? (i := 6) rfl)) (by decide) (by decide)) (g := (mkF m 73 #[.val (.ref a0), .val (.long q1), .second, .val (.int (1 : Int32))] [(.long sh)])) rfl (by rw [hml]; rfl) (argsL := [(.long sh)]) (rest := []) (lenOf own_pd7 rfl) rfl (by show 2 * 0 + _ ≤ _; exact Nat.le_of_eq rfl) (hb hby own_d4_73) (fun _ _ => ⟨rfl, e17, (by decide : 0 + 0 ≤ _), (by decide : 0 + 0 ≤ _)⟩)
        dsimp only [Pt.U, Pt.locs, Pt.cells, Pt.slots] at X18 l18 y18 z18 st18 hQ18
        subst l18 y18 z18
        obtain ⟨rfl, N18q, e18⟩ := hQ18
        have N_18 := Fr.app N_12 N18q
        refine own_step st18 ?_
        show own_Ends p.tables e below _ (T18.setTop (mkF m 76 #[.val (.ref a0), .val (.long q1), .second, .val (.int (1 : Int32))] [(.int (own_fits sh))]))
        by_cases hc76 : (own_fits sh) = (0 : Int32)
        · refine own_step (fun _ k => XS.ifYes X18.here hx rfl (pc0 := 76) (pc' := 88) rfl (hb hby own_d4_76) rfl ((if0 _ _).trans (teq hc76).1) (by decide) (by decide) k) ?_
          show own_Ends p.tables e below _ (T18.setTop (mkF m 88 #[.val (.ref a0), .val (.long q1), .second, .val (.int (1 : Int32))] []))
          refine own_step (fun _ k => XS.aloadN X18.here hx rfl (hb hby own_d4_88) rfl rfl k) ?_
          show own_Ends p.tables e below _ (T18.setTop (mkF m 89 #[.val (.ref a0), .val (.long q1), .second, .val (.int (1 : Int32))] [(.ref a0)]))
          refine own_step (fun _ k => XS.lloadN X18.here hx rfl (hb hby own_d4_89) rfl k) ?_
          show own_Ends p.tables e below _ (T18.setTop (mkF m 90 #[.val (.ref a0), .val (.long q1), .second, .val (.int (1 : Int32))] [(.long q1), (.ref a0)]))
          obtain ⟨cq19, qz19, qz19'⟩ := E_a0.cell
          obtain ⟨_, _, ⟨T19, L19, k19, n19⟩, -, X19, ⟨Lc19, hQ19, l19, y19, z19⟩, st19⟩ := X18.privateBack hx (y := (⟨"com/example/restate/restate/model/LongColumn", "addLong", "(J)V"⟩ : MethodName)) hown (mvT hZ (hw _ (List.mem_of_getElem? (i := 29) rfl))) (mvT hZ (hw _ (List.mem_of_getElem? (i := 30) rfl))) (own_sel_priv (by decide) (mvT hZ (hw _ (List.mem_of_getElem? (i := 5) rfl))) (mvP hZ (hw _ (List.mem_of_getElem? (i := 31) rfl))) (mvT hZ (hw _ (List.mem_of_getElem? (i := 30) rfl)))) (Cond.privateMethod_at (mvP hZ (hw _ (List.mem_of_getElem? (i := 31) rfl)) (args := #[]))) (mvT hZ (hw _ (List.mem_of_getElem? (i := 32) rfl))) (by decide) (backOf (W := 0) (own_rm_addLong_sh l Z aw hw [] a0 q1 xs.length sh (fun i => xs.getD i 0) h0 n0 Z0 E_a0 F_size F_shared F_ints F_longs g_a0 hn (fun i hi => own_same hxs i hi)) hZ (hw _ (List.mem_of_getElem? (i := 32) rfl)) (hw _ (List.mem_of_getElem? (i := 6) rfl)) (by decide) (by decide)) (g := (mkF m 90 #[.val (.ref a0), .val (.long q1), .second, .val (.int (1 : Int32))] [(.long q1), (.ref a0)])) rfl (by rw [hml]; rfl) (Steps.refl _) (a := a0) (by rw [e18]; exact qz19) qz19' (argsL := [(.long q1)]) (rest := []) (lenOf own_pd9 rfl) rfl (by show 2 * 0 + _ ≤ _; exact Nat.le_of_eq rfl) (hb hby own_d4_90) (fun _ _ => ⟨rfl, e18, (by decide : 0 + 1 ≤ _), (by decide : 0 + 16 ≤ _)⟩)
          dsimp only [Pt.U, Pt.locs, Pt.cells, Pt.slots] at X19 l19 y19 z19 st19 hQ19
          subst l19 y19 z19
          obtain ⟨rfl, N19q, k19, Fs19, Fh19, Fo19, bb19, ka19, Fa19, ne19, ge19, Va19⟩ := hQ19
          have N_19 := Fr.app N_18 N19q
          have E_a0_19 := E_a0.keep k19
          have K_19 : Keep h0 T19.heap [a0] := K0.trans k19 (allS (Or.inl (List.mem_of_getElem? (i := 0) rfl)) all0)
          have Z_19 : n0 ≤ T19.heap.size := Nat.le_trans Z0 k19.1
          refine own_step (fun _ k => st19.trans k) ?_
          show own_Ends p.tables e below _ (T19.setTop (mkF m 93 #[.val (.ref a0), .val (.long q1), .second, .val (.int (1 : Int32))] []))
          refine own_step (fun _ k => XS.aloadN X19.here hx rfl (hb hby own_d4_93) rfl rfl k) ?_
          show own_Ends p.tables e below _ (T19.setTop (mkF m 94 #[.val (.ref a0), .val (.long q1), .second, .val (.int (1 : Int32))] [(.ref a0)]))
          refine own_step (fun _ k => XS.dup X19.here hx rfl (hb hby own_d4_94) rfl rfl k) ?_
          show own_Ends p.tables e below _ (T19.setTop (mkF m 95 #[.val (.ref a0), .val (.long q1), .second, .val (.int (1 : Int32))] [(.ref a0), (.ref a0)]))
          obtain ⟨T20, X20, e20, st20⟩ := getF X19 hx hZ hown (host := "") (Or.inl (hw _ (List.mem_of_getElem? (i := 22) rfl))) Via.refl rfl Fs19 (g := (mkF m 95 #[.val (.ref a0), .val (.long q1), .second, .val (.int (1 : Int32))] [(.ref a0), (.ref a0)])) rfl rfl (hb hby own_d4_95)
          refine own_step st20 ?_
          show own_Ends p.tables e below _ (T20.setTop (mkF m 98 #[.val (.ref a0), .val (.long q1), .second, .val (.int (1 : Int32))] [(.int (Int32.ofNat xs.length)), (.ref a0)]))
          refine own_step (fun _ k => XS.iconst X20.here hx rfl (hb hby own_d4_98) k) ?_
          show own_Ends p.tables e below _ (T20.setTop (mkF m 99 #[.val (.ref a0), .val (.long q1), .second, .val (.int (1 : Int32))] [(.int (1 : Int32)), (.int (Int32.ofNat xs.length)), (.ref a0)]))
          refine own_step (fun _ k => XS.iadd X20.here hx rfl (hb hby own_d4_99) rfl k) ?_
          show own_Ends p.tables e below _ (T20.setTop (mkF m 100 #[.val (.ref a0), .val (.long q1), .second, .val (.int (1 : Int32))] [(.int ((Int32.ofNat xs.length) + (1 : Int32))), (.ref a0)]))
          obtain ⟨T21, h21, X21, e21, W21, st21⟩ := putF X20 hx hZ hown (host := "") (Or.inl (hw _ (List.mem_of_getElem? (i := 22) rfl))) Via.refl e20 Fs19 E_a0_19 (Or.inl (hw _ (List.mem_of_getElem? (i := 23) rfl))) (hw _ (List.mem_of_getElem? (i := 5) rfl)) (ty := .int) (by decide) rfl rfl (g := (mkF m 100 #[.val (.ref a0), .val (.long q1), .second, .val (.int (1 : Int32))] [(.int ((Int32.ofNat xs.length) + (1 : Int32))), (.ref a0)])) rfl rfl (hb hby own_d4_100)
          refine own_step st21 ?_
          have E_a0_21 := E_a0_19.wr W21
          have Fs19_21 := Fs19.same W21
          have Fh19_21 := Fh19.other W21 (Or.inr (slot_ne (Or.inl (hw _ (List.mem_of_getElem? (i := 25) rfl))) (Or.inl (hw _ (List.mem_of_getElem? (i := 23) rfl))) (by decide) (t := .long) (t' := .int) (by decide) (by decide)))
          have Fo19_21 := Fo19.other W21 (Or.inr (slot_ne (Or.inl (hw _ (List.mem_of_getElem? (i := 19) rfl))) (Or.inl (hw _ (List.mem_of_getElem? (i := 23) rfl))) (by decide) (t := (.array .int)) (t' := .int) (by decide) (by decide)))
          have Fa19_21 := Fa19.other W21 (Or.inr (slot_ne (Or.inl (hw _ (List.mem_of_getElem? (i := 21) rfl))) (Or.inl (hw _ (List.mem_of_getElem? (i := 23) rfl))) (by decide) (t := (.array .long)) (t' := .int) (by decide) (by decide)))
          have Va19_21 := Va19.other W21 (Ne.symm ne19)
          have K_21 : Keep h0 h21 [a0] := K_19.wr W21 (Or.inl (List.mem_of_getElem? (i := 0) rfl))
          have Z_21 : n0 ≤ h21.size := Nat.le_trans Z_19 (Keep.of_wr W21).1
          have N_21 := Fr.snoc X21 N_19 g_a0
          show own_Ends p.tables e below _ (T21.setTop (mkF m 103 #[.val (.ref a0), .val (.long q1), .second, .val (.int (1 : Int32))] []))
          exact own_ret0 X21 hx hlk (by decide) (by decide) Bd.returns (hb hby own_d4_103) (by rw [e21]; exact ⟨rfl, N_21, K_21.1, own_mk_lo E_a0_21 Fs19_21 Fh19_21 Fo19_21 Fa19_21 ne19 ge19 Va19_21 (by rw [List.length_set, own_lt_len]; simp) (own_Rlo_snoc (own_Rlo_fill (by simp; omega)) (by rw [own_lt_len]; simp; omega))⟩)
        · refine own_step (fun _ k => XS.ifNo X18.here hx rfl (hb hby own_d4_76) rfl ((if0 _ _).trans (feq hc76).1) k) ?_
          show own_Ends p.tables e below _ (T18.setTop (mkF m 79 #[.val (.ref a0), .val (.long q1), .second, .val (.int (1 : Int32))] []))
          refine own_step (fun _ k => XS.aloadN X18.here hx rfl (hb hby own_d4_79) rfl rfl k) ?_
          show own_Ends p.tables e below _ (T18.setTop (mkF m 80 #[.val (.ref a0), .val (.long q1), .second, .val (.int (1 : Int32))] [(.ref a0)]))
          refine own_step (fun _ k => XS.lloadN X18.here hx rfl (hb hby own_d4_80) rfl k) ?_
          show own_Ends p.tables e below _ (T18.setTop (mkF m 81 #[.val (.ref a0), .val (.long q1), .second, .val (.int (1 : Int32))] [(.long q1), (.ref a0)]))
          refine own_step (fun _ k => XS.l2i X18.here hx rfl (hb hby own_d4_81) rfl k) ?_
          show own_Ends p.tables e below _ (T18.setTop (mkF m 82 #[.val (.ref a0), .val (.long q1), .second, .val (.int (1 : Int32))] [(.int (q1.toInt32)), (.ref a0)]))
          obtain ⟨cq22, qz22, qz22'⟩ := E_a0.cell
          obtain ⟨_, _, ⟨T22, L22, k22, n22⟩, -, X22, ⟨Lc22, hQ22, l22, y22, z22⟩, st22⟩ := X18.privateBack hx (y := (⟨"com/example/restate/restate/model/LongColumn", "addInt", "(I)V"⟩ : MethodName)) hown (mvT hZ (hw _ (List.mem_of_getElem? (i := 57) rfl))) (mvT hZ (hw _ (List.mem_of_getElem? (i := 58) rfl))) (own_sel_priv (by decide) (mvT hZ (hw _ (List.mem_of_getElem? (i := 5) rfl))) (mvP hZ (hw _ (List.mem_of_getElem? (i := 59) rfl))) (mvT hZ (hw _ (List.mem_of_getElem? (i := 58) rfl)))) (Cond.privateMethod_at (mvP hZ (hw _ (List.mem_of_getElem? (i := 59) rfl)) (args := #[]))) (mvT hZ (hw _ (List.mem_of_getElem? (i := 60) rfl))) (by decide) (backOf (W := 0) (own_rm_addInt_sh l Z aw hw [] a0 (q1.toInt32) xs.length sh h0 n0 Z0 E_a0 F_size F_shared F_ints F_longs g_a0 hn) hZ (hw _ (List.mem_of_getElem? (i := 60) rfl)) (hw _ (List.mem_of_getElem? (i := 6) rfl)) (by decide) (by decide)) (g := (mkF m 82 #[.val (.ref a0), .val (.long q1), .second, .val (.int (1 : Int32))] [(.int (q1.toInt32)), (.ref a0)])) rfl (by rw [hml]; rfl) (Steps.refl _) (a := a0) (by rw [e18]; exact qz22) qz22' (argsL := [(.int (q1.toInt32))]) (rest := []) (lenOf own_pd8 rfl) rfl (by show 2 * 0 + _ ≤ _; exact Nat.le_of_eq rfl) (hb hby own_d4_82) (fun _ _ => ⟨rfl, e18, (by decide : 0 + 1 ≤ _), (by decide : 0 + 16 ≤ _)⟩)
          dsimp only [Pt.U, Pt.locs, Pt.cells, Pt.slots] at X22 l22 y22 z22 st22 hQ22
          subst l22 y22 z22
          obtain ⟨rfl, N22q, k22, Fs22, Fh22, Fo22, bb22, ka22, Fa22, ne22, ge22, Va22⟩ := hQ22
          have N_22 := Fr.app N_18 N22q
          have E_a0_22 := E_a0.keep k22
          have K_22 : Keep h0 T22.heap [a0] := K0.trans k22 (allS (Or.inl (List.mem_of_getElem? (i := 0) rfl)) all0)
          have Z_22 : n0 ≤ T22.heap.size := Nat.le_trans Z0 k22.1
          refine own_step (fun _ k => st22.trans k) ?_
          show own_Ends p.tables e below _ (T22.setTop (mkF m 85 #[.val (.ref a0), .val (.long q1), .second, .val (.int (1 : Int32))] []))
          refine own_step (fun _ k => XS.goto X22.here hx rfl (pc0 := 85) (pc' := 93) rfl (hb hby own_d4_85) (by decide) (by decide) k) ?_
          show own_Ends p.tables e below _ (T22.setTop (mkF m 93 #[.val (.ref a0), .val (.long q1), .second, .val (.int (1 : Int32))] []))
          refine own_step (fun _ k => XS.aloadN X22.here hx rfl (hb hby own_d4_93) rfl rfl k) ?_
          show own_Ends p.tables e below _ (T22.setTop (mkF m 94 #[.val (.ref a0), .val (.long q1), .second, .val (.int (1 : Int32))] [(.ref a0)]))
          refine own_step (fun _ k => XS.dup X22.here hx rfl (hb hby own_d4_94) rfl rfl k) ?_
          show own_Ends p.tables e below _ (T22.setTop (mkF m 95 #[.val (.ref a0), .val (.long q1), .second, .val (.int (1 : Int32))] [(.ref a0), (.ref a0)]))
          obtain ⟨T23, X23, e23, st23⟩ := getF X22 hx hZ hown (host := "") (Or.inl (hw _ (List.mem_of_getElem? (i := 22) rfl))) Via.refl rfl Fs22 (g := (mkF m 95 #[.val (.ref a0), .val (.long q1), .second, .val (.int (1 : Int32))] [(.ref a0), (.ref a0)])) rfl rfl (hb hby own_d4_95)
          refine own_step st23 ?_
          show own_Ends p.tables e below _ (T23.setTop (mkF m 98 #[.val (.ref a0), .val (.long q1), .second, .val (.int (1 : Int32))] [(.int (Int32.ofNat xs.length)), (.ref a0)]))
          refine own_step (fun _ k => XS.iconst X23.here hx rfl (hb hby own_d4_98) k) ?_
          show own_Ends p.tables e below _ (T23.setTop (mkF m 99 #[.val (.ref a0), .val (.long q1), .second, .val (.int (1 : Int32))] [(.int (1 : Int32)), (.int (Int32.ofNat xs.length)), (.ref a0)]))
          refine own_step (fun _ k => XS.iadd X23.here hx rfl (hb hby own_d4_99) rfl k) ?_
          show own_Ends p.tables e below _ (T23.setTop (mkF m 100 #[.val (.ref a0), .val (.long q1), .second, .val (.int (1 : Int32))] [(.int ((Int32.ofNat xs.length) + (1 : Int32))), (.ref a0)]))
          obtain ⟨T24, h24, X24, e24, W24, st24⟩ := putF X23 hx hZ hown (host := "") (Or.inl (hw _ (List.mem_of_getElem? (i := 22) rfl))) Via.refl e23 Fs22 E_a0_22 (Or.inl (hw _ (List.mem_of_getElem? (i := 23) rfl))) (hw _ (List.mem_of_getElem? (i := 5) rfl)) (ty := .int) (by decide) rfl rfl (g := (mkF m 100 #[.val (.ref a0), .val (.long q1), .second, .val (.int (1 : Int32))] [(.int ((Int32.ofNat xs.length) + (1 : Int32))), (.ref a0)])) rfl rfl (hb hby own_d4_100)
          refine own_step st24 ?_
          have E_a0_24 := E_a0_22.wr W24
          have Fs22_24 := Fs22.same W24
          have Fh22_24 := Fh22.other W24 (Or.inr (slot_ne (Or.inl (hw _ (List.mem_of_getElem? (i := 25) rfl))) (Or.inl (hw _ (List.mem_of_getElem? (i := 23) rfl))) (by decide) (t := .long) (t' := .int) (by decide) (by decide)))
          have Fo22_24 := Fo22.other W24 (Or.inr (slot_ne (Or.inl (hw _ (List.mem_of_getElem? (i := 21) rfl))) (Or.inl (hw _ (List.mem_of_getElem? (i := 23) rfl))) (by decide) (t := (.array .long)) (t' := .int) (by decide) (by decide)))
          have Fa22_24 := Fa22.other W24 (Or.inr (slot_ne (Or.inl (hw _ (List.mem_of_getElem? (i := 19) rfl))) (Or.inl (hw _ (List.mem_of_getElem? (i := 23) rfl))) (by decide) (t := (.array .int)) (t' := .int) (by decide) (by decide)))
          have Va22_24 := Va22.other W24 (Ne.symm ne22)
          have K_24 : Keep h0 h24 [a0] := K_22.wr W24 (Or.inl (List.mem_of_getElem? (i := 0) rfl))
          have Z_24 : n0 ≤ h24.size := Nat.le_trans Z_22 (Keep.of_wr W24).1
          have N_24 := Fr.snoc X24 N_22 g_a0
          show own_Ends p.tables e below _ (T24.setTop (mkF m 103 #[.val (.ref a0), .val (.long q1), .second, .val (.int (1 : Int32))] []))
          exact own_ret0 X24 hx hlk (by decide) (by decide) Bd.returns (hb hby own_d4_103) (by rw [e24]; exact ⟨rfl, N_24, K_24.1, own_mk_in E_a0_24 Fs22_24 Fh22_24 Fa22_24 Fo22_24 ne22 ge22 Va22_24 (by rw [List.length_set, own_lt_len]; simp) (own_Rin_snoc (own_Rin_fill hxs (own_fits_y hc76) (by simp; omega)) (by rw [own_lt_len]; simp; omega) (own_fits_y hc59))⟩)
theorem own_d4_18 : decode prog_45_method_3_code 18 = .ok (.iconst 0, 1) := by decide +kernel
set_option maxRecDepth 65536 in
set_option maxHeartbeats 40000000 in
theorem own_rm_add_in (l : Launch) (Z : State) (aw : Array Value) (hw : ∀ d ∈ tables_1, d.before aw Z = true) (ws : List Jvm.Cond) (a0 : Addr) (q1 : Int64) (xs : List Int64) (sh : Int64) (b : Addr) (k : ClassId) (vs : List Value) (h0 : Heap) (n0 : Nat) (Z0 : n0 ≤ h0.size) (E_a0 : Exa Z h0 a0 "com/example/restate/restate/model/LongColumn") (F_size : Fld Z h0 a0 "com/example/restate/restate/model/LongColumn" "size" "I" (.int (Int32.ofNat xs.length))) (F_shared : Fld Z h0 a0 "com/example/restate/restate/model/LongColumn" "shared" "J" (.long sh)) (F_ints : Fld Z h0 a0 "com/example/restate/restate/model/LongColumn" "ints" "[I" (.ref b)) (F_longs : Fld Z h0 a0 "com/example/restate/restate/model/LongColumn" "longs" "[J" .null) (V_b : Arv Z h0 b k .int (16 : Int32) vs (.int (0 : Int32))) (hl : vs.length = 16) (ne_ab : a0 ≠ b) (g_b : n0 ≤ b) (g_a0 : n0 ≤ a0) (hn : xs.length < 8) (hR : own_Rin xs vs) :
    MetFree l (⟨"com/example/restate/restate/model/LongColumn", "add", "(J)V"⟩ : MethodName) (head1 (Jvm.Cond.code (⟨"com/example/restate/restate/model/LongColumn", "add", "(J)V"⟩ : MethodName) prog_45_method_3_code 4 none :: ws) ({ frames := 3, cells := 1, slots := 16, locals := 44 } : Room)) (fun a U => a = #[(.ref a0), (.long q1)] ∧ Z.Warmed39 U.vm ∧ U.heap = h0) (fun _ _ _ _ _ => True) (fun _ U o U' => ∃ v L, o = .returned v ∧ own_QAdd Z a0 xs q1 h0 n0 v U'.heap L ∧ FrameEnd U o U' L ({ frames := 3, cells := 1, slots := 16, locals := 44 } : Room).cells ({ frames := 3, cells := 1, slots := 16, locals := 44 } : Room).slots) := by
  refine MetFree.of_bodySF (plainFor_of_name own_pn0) hisR ?_
  intro p e s m args below meth c s₁ Bd hml0 hP hK
  obtain ⟨rfl, hZ, hh⟩ := hP
  have hx := Bd.exec
  have hby := Bd.bytes
  have hlk : meth.locks = false := BodyLoose.notSynchronized Bd
  have hml : c.maxLocals = 4 := hml0
  have hown : s.vm.findClass "com/example/restate/restate/model/LongColumn" = some m.cls := findClass_of_methodNamed Bd.named
  have hnm := (name_of_methodNamed Bd.named Bd.method).1
  have X0 : Stand p l e ({ frames := 3, cells := 1, slots := 16, locals := 44 } : Room) s m #[(.ref a0), (.long q1)] below meth c s₁ [] 0 0 := Stand.of_body Bd
  have e0 : s₁.heap = h0 := by rw [← hh, Bd.state]; rfl
  have N0 := Fr.nil n0
  have K0 : Keep h0 h0 [a0, b] := Keep.refl _ _
  have pre0 : ∀ t, Steps p.tables e below (s₁.setTop (mkF m 0 #[.val (.ref a0), .val (.long q1), .second, .unset] [])) t → Steps p.tables e below (s₁.setTop (entryFrame m #[(.ref a0), (.long q1)] 4)) t := fun t k => castTop (own_ef_4 m a0 q1) k
  show own_Ends p.tables e below (own_Q s (own_QAdd Z a0 xs q1 h0 n0) ({ frames := 3, cells := 1, slots := 16, locals := 44 } : Room).cells ({ frames := 3, cells := 1, slots := 16, locals := 44 } : Room).slots) (s₁.setTop (entryFrame m #[(.ref a0), (.long q1)] 4))
  refine own_step pre0 ?_
  show own_Ends p.tables e below _ (s₁.setTop (mkF m 0 #[.val (.ref a0), .val (.long q1), .second, .unset] []))
  refine own_step (fun _ k => XS.aloadN X0.here hx rfl (hb hby own_d4_0) rfl rfl k) ?_
  show own_Ends p.tables e below _ (s₁.setTop (mkF m 1 #[.val (.ref a0), .val (.long q1), .second, .unset] [(.ref a0)]))
  obtain ⟨T1, X1, e1, st1⟩ := getF X0 hx hZ hown (host := "") (Or.inl (hw _ (List.mem_of_getElem? (i := 18) rfl))) Via.refl e0 F_ints (g := (mkF m 1 #[.val (.ref a0), .val (.long q1), .second, .unset] [(.ref a0)])) rfl rfl (hb hby own_d4_1)
  refine own_step st1 ?_
  show own_Ends p.tables e below _ (T1.setTop (mkF m 4 #[.val (.ref a0), .val (.long q1), .second, .unset] [(.ref b)]))
  refine own_step (fun _ k => XS.ifnonnullYes X1.here hx rfl (pc0 := 4) (pc' := 18) rfl (hb hby own_d4_4) rfl (by decide) (by decide) k) ?_
  show own_Ends p.tables e below _ (T1.setTop (mkF m 18 #[.val (.ref a0), .val (.long q1), .second, .unset] []))
  refine own_step (fun _ k => XS.iconst X1.here hx rfl (hb hby own_d4_18) k) ?_
  show own_Ends p.tables e below _ (T1.setTop (mkF m 19 #[.val (.ref a0), .val (.long q1), .second, .unset] [(.int (0 : Int32))]))
  refine own_step (fun _ k => XS.istoreN X1.here hx rfl (hb hby own_d4_19) rfl (l' := #[.val (.ref a0), .val (.long q1), .second, .val (.int (0 : Int32))]) rfl k) ?_
  show own_Ends p.tables e below _ (T1.setTop (mkF m 20 #[.val (.ref a0), .val (.long q1), .second, .val (.int (0 : Int32))] []))
  refine own_step (fun _ k => XS.iloadN X1.here hx rfl (hb hby own_d4_20) rfl k) ?_
  show own_Ends p.tables e below _ (T1.setTop (mkF m 21 #[.val (.ref a0), .val (.long q1), .second, .val (.int (0 : Int32))] [(.int (0 : Int32))]))
  refine own_step (fun _ k => XS.ifYes X1.here hx rfl (pc0 := 21) (pc' := 48) rfl (hb hby own_d4_21) rfl ((if0 _ _).trans (teq (by decide)).1) (by decide) (by decide) k) ?_
  show own_Ends p.tables e below _ (T1.setTop (mkF m 48 #[.val (.ref a0), .val (.long q1), .second, .val (.int (0 : Int32))] []))
  refine own_step (fun _ k => XS.aloadN X1.here hx rfl (hb hby own_d4_48) rfl rfl k) ?_
  show own_Ends p.tables e below _ (T1.setTop (mkF m 49 #[.val (.ref a0), .val (.long q1), .second, .val (.int (0 : Int32))] [(.ref a0)]))
  obtain ⟨T2, X2, e2, st2⟩ := getF X1 hx hZ hown (host := "") (Or.inl (hw _ (List.mem_of_getElem? (i := 20) rfl))) Via.refl e1 F_longs (g := (mkF m 49 #[.val (.ref a0), .val (.long q1), .second, .val (.int (0 : Int32))] [(.ref a0)])) rfl rfl (hb hby own_d4_49)
  refine own_step st2 ?_
  show own_Ends p.tables e below _ (T2.setTop (mkF m 52 #[.val (.ref a0), .val (.long q1), .second, .val (.int (0 : Int32))] [.null]))
  refine own_step (fun _ k => XS.ifnonnullNo X2.here hx rfl (hb hby own_d4_52) rfl k) ?_
  show own_Ends p.tables e below _ (T2.setTop (mkF m 55 #[.val (.ref a0), .val (.long q1), .second, .val (.int (0 : Int32))] []))
  refine own_step (fun _ k => XS.lloadN X2.here hx rfl (hb hby own_d4_55) rfl k) ?_
  show own_Ends p.tables e below _ (T2.setTop (mkF m 56 #[.val (.ref a0), .val (.long q1), .second, .val (.int (0 : Int32))] [(.long q1)]))
  obtain ⟨_, _, ⟨T3, L3, k3, n3⟩, -, X3, ⟨Lc3, hQ3, l3, y3, z3⟩, st3⟩ := Jvm.LawKit.callS X2 hx (y := (⟨"com/example/restate/restate/model/LongColumn", "fitsInt", "(J)Z"⟩ : MethodName)) hown (mvT hZ (hw _ (List.mem_of_getElem? (i := 26) rfl))) (mvT hZ (hw _ (List.mem_of_getElem? (i := 27) rfl))) (mvT hZ (hw _ (List.mem_of_getElem? (i := 6) rfl))) (mvT hZ (hw _ (List.mem_of_getElem? (i := 28) rfl))) (by decide) (backOf (W := 0) (own_rm_fitsInt l Z aw hw [] q1 h0 n0 Z0 ) hZ (hw _ (List.mem_of_getElem? (i := 28) rfl)) (hw _ (List.mem_of_getElem? (i := 6) rfl)) (by decide) (by decide)) (g := (mkF m 56 #[.val (.ref a0), .val (.long q1), .second, .val (.int (0 : Int32))] [(.long q1)])) rfl (by rw [hml]; rfl) (argsL := [(.long q1)]) (rest := []) (lenOf own_pd7 rfl) rfl (by show 2 * 0 + _ ≤ _; exact Nat.le_of_eq rfl) (hb hby own_d4_56) (fun _ _ => ⟨rfl, e2, (by decide : 0 + 0 ≤ _), (by decide : 0 + 0 ≤ _)⟩)
  dsimp only [Pt.U, Pt.locs, Pt.cells, Pt.slots] at X3 l3 y3 z3 st3 hQ3
  subst l3 y3 z3
  obtain ⟨rfl, N3q, e3⟩ := hQ3
  have N_3 := Fr.app N0 N3q
  refine own_step st3 ?_
  show own_Ends p.tables e below _ (T3.setTop (mkF m 59 #[.val (.ref a0), .val (.long q1), .second, .val (.int (0 : Int32))] [(.int (own_fits q1))]))
  by_cases hc59 : (own_fits q1) = (0 : Int32)
  · refine own_step (fun _ k => XS.ifYes X3.here hx rfl (pc0 := 59) (pc' := 88) rfl (hb hby own_d4_59) rfl ((if0 _ _).trans (teq hc59).1) (by decide) (by decide) k) ?_
    show own_Ends p.tables e below _ (T3.setTop (mkF m 88 #[.val (.ref a0), .val (.long q1), .second, .val (.int (0 : Int32))] []))
    refine own_step (fun _ k => XS.aloadN X3.here hx rfl (hb hby own_d4_88) rfl rfl k) ?_
    show own_Ends p.tables e below _ (T3.setTop (mkF m 89 #[.val (.ref a0), .val (.long q1), .second, .val (.int (0 : Int32))] [(.ref a0)]))
    refine own_step (fun _ k => XS.lloadN X3.here hx rfl (hb hby own_d4_89) rfl k) ?_
    show own_Ends p.tables e below _ (T3.setTop (mkF m 90 #[.val (.ref a0), .val (.long q1), .second, .val (.int (0 : Int32))] [(.long q1), (.ref a0)]))
    obtain ⟨cq4, qz4, qz4'⟩ := E_a0.cell
    obtain ⟨_, _, ⟨T4, L4, k4, n4⟩, -, X4, ⟨Lc4, hQ4, l4, y4, z4⟩, st4⟩ := X3.privateBack hx (y := (⟨"com/example/restate/restate/model/LongColumn", "addLong", "(J)V"⟩ : MethodName)) hown (mvT hZ (hw _ (List.mem_of_getElem? (i := 29) rfl))) (mvT hZ (hw _ (List.mem_of_getElem? (i := 30) rfl))) (own_sel_priv (by decide) (mvT hZ (hw _ (List.mem_of_getElem? (i := 5) rfl))) (mvP hZ (hw _ (List.mem_of_getElem? (i := 31) rfl))) (mvT hZ (hw _ (List.mem_of_getElem? (i := 30) rfl)))) (Cond.privateMethod_at (mvP hZ (hw _ (List.mem_of_getElem? (i := 31) rfl)) (args := #[]))) (mvT hZ (hw _ (List.mem_of_getElem? (i := 32) rfl))) (by decide) (backOf (W := 0) (own_rm_addLong_in l Z aw hw [] a0 q1 xs.length sh (fun i => xs.getD i 0) b k vs h0 n0 Z0 E_a0 F_size F_shared F_ints F_longs V_b ne_ab g_a0 hn hR) hZ (hw _ (List.mem_of_getElem? (i := 32) rfl)) (hw _ (List.mem_of_getElem? (i := 6) rfl)) (by decide) (by decide)) (g := (mkF m 90 #[.val (.ref a0), .val (.long q1), .second, .val (.int (0 : Int32))] [(.long q1), (.ref a0)])) rfl (by rw [hml]; rfl) (Steps.refl _) (a := a0) (by rw [e3]; exact qz4) qz4' (argsL := [(.long q1)]) (rest := []) (lenOf own_pd9 rfl) rfl (by show 2 * 0 + _ ≤ _; exact Nat.le_of_eq rfl) (hb hby own_d4_90) (fun _ _ => ⟨rfl, e3, (by decide : 0 + 1 ≤ _), (by decide : 0 + 16 ≤ _)⟩)
    dsimp only [Pt.U, Pt.locs, Pt.cells, Pt.slots] at X4 l4 y4 z4 st4 hQ4
    subst l4 y4 z4
    obtain ⟨rfl, N4q, k4, Fs4, Fh4, Fo4, bb4, ka4, Fa4, ne4, ge4, Va4⟩ := hQ4
    have N_4 := Fr.app N_3 N4q
    have E_a0_4 := E_a0.keep k4
    have V_b_4 := V_b.keep k4 (ninS (Ne.symm ne_ab) nin0)
    have K_4 : Keep h0 T4.heap [a0, b] := K0.trans k4 (allS (Or.inl (List.mem_of_getElem? (i := 0) rfl)) all0)
    have Z_4 : n0 ≤ T4.heap.size := Nat.le_trans Z0 k4.1
    refine own_step (fun _ k => st4.trans k) ?_
    show own_Ends p.tables e below _ (T4.setTop (mkF m 93 #[.val (.ref a0), .val (.long q1), .second, .val (.int (0 : Int32))] []))
    refine own_step (fun _ k => XS.aloadN X4.here hx rfl (hb hby own_d4_93) rfl rfl k) ?_
    show own_Ends p.tables e below _ (T4.setTop (mkF m 94 #[.val (.ref a0), .val (.long q1), .second, .val (.int (0 : Int32))] [(.ref a0)]))
    refine own_step (fun _ k => XS.dup X4.here hx rfl (hb hby own_d4_94) rfl rfl k) ?_
    show own_Ends p.tables e below _ (T4.setTop (mkF m 95 #[.val (.ref a0), .val (.long q1), .second, .val (.int (0 : Int32))] [(.ref a0), (.ref a0)]))
    obtain ⟨T5, X5, e5, st5⟩ := getF X4 hx hZ hown (host := "") (Or.inl (hw _ (List.mem_of_getElem? (i := 22) rfl))) Via.refl rfl Fs4 (g := (mkF m 95 #[.val (.ref a0), .val (.long q1), .second, .val (.int (0 : Int32))] [(.ref a0), (.ref a0)])) rfl rfl (hb hby own_d4_95)
    refine own_step st5 ?_
    show own_Ends p.tables e below _ (T5.setTop (mkF m 98 #[.val (.ref a0), .val (.long q1), .second, .val (.int (0 : Int32))] [(.int (Int32.ofNat xs.length)), (.ref a0)]))
    refine own_step (fun _ k => XS.iconst X5.here hx rfl (hb hby own_d4_98) k) ?_
    show own_Ends p.tables e below _ (T5.setTop (mkF m 99 #[.val (.ref a0), .val (.long q1), .second, .val (.int (0 : Int32))] [(.int (1 : Int32)), (.int (Int32.ofNat xs.length)), (.ref a0)]))
    refine own_step (fun _ k => XS.iadd X5.here hx rfl (hb hby own_d4_99) rfl k) ?_
    show own_Ends p.tables e below _ (T5.setTop (mkF m 100 #[.val (.ref a0), .val (.long q1), .second, .val (.int (0 : Int32))] [(.int ((Int32.ofNat xs.length) + (1 : Int32))), (.ref a0)]))
    obtain ⟨T6, h6, X6, e6, W6, st6⟩ := putF X5 hx hZ hown (host := "") (Or.inl (hw _ (List.mem_of_getElem? (i := 22) rfl))) Via.refl e5 Fs4 E_a0_4 (Or.inl (hw _ (List.mem_of_getElem? (i := 23) rfl))) (hw _ (List.mem_of_getElem? (i := 5) rfl)) (ty := .int) (by decide) rfl rfl (g := (mkF m 100 #[.val (.ref a0), .val (.long q1), .second, .val (.int (0 : Int32))] [(.int ((Int32.ofNat xs.length) + (1 : Int32))), (.ref a0)])) rfl rfl (hb hby own_d4_100)
    refine own_step st6 ?_
    have E_a0_6 := E_a0_4.wr W6
    have Fs4_6 := Fs4.same W6
    have Fh4_6 := Fh4.other W6 (Or.inr (slot_ne (Or.inl (hw _ (List.mem_of_getElem? (i := 25) rfl))) (Or.inl (hw _ (List.mem_of_getElem? (i := 23) rfl))) (by decide) (t := .long) (t' := .int) (by decide) (by decide)))
    have Fo4_6 := Fo4.other W6 (Or.inr (slot_ne (Or.inl (hw _ (List.mem_of_getElem? (i := 19) rfl))) (Or.inl (hw _ (List.mem_of_getElem? (i := 23) rfl))) (by decide) (t := (.array .int)) (t' := .int) (by decide) (by decide)))
    have Fa4_6 := Fa4.other W6 (Or.inr (slot_ne (Or.inl (hw _ (List.mem_of_getElem? (i := 21) rfl))) (Or.inl (hw _ (List.mem_of_getElem? (i := 23) rfl))) (by decide) (t := (.array .long)) (t' := .int) (by decide) (by decide)))
    have Va4_6 := Va4.other W6 (Ne.symm ne4)
    have K_6 : Keep h0 h6 [a0, b] := K_4.wr W6 (Or.inl (List.mem_of_getElem? (i := 0) rfl))
    have Z_6 : n0 ≤ h6.size := Nat.le_trans Z_4 (Keep.of_wr W6).1
    have N_6 := Fr.snoc X6 N_4 g_a0
    show own_Ends p.tables e below _ (T6.setTop (mkF m 103 #[.val (.ref a0), .val (.long q1), .second, .val (.int (0 : Int32))] []))
    exact own_ret0 X6 hx hlk (by decide) (by decide) Bd.returns (hb hby own_d4_103) (by rw [e6]; exact ⟨rfl, N_6, K_6.1, own_mk_lo E_a0_6 Fs4_6 Fh4_6 Fo4_6 Fa4_6 ne4 ge4 Va4_6 (by rw [List.length_set, own_lt_len]; simp) (own_Rlo_snoc (own_Rlo_fill (by simp; omega)) (by rw [own_lt_len]; simp; omega))⟩)
  · refine own_step (fun _ k => XS.ifNo X3.here hx rfl (hb hby own_d4_59) rfl ((if0 _ _).trans (feq hc59).1) k) ?_
    show own_Ends p.tables e below _ (T3.setTop (mkF m 62 #[.val (.ref a0), .val (.long q1), .second, .val (.int (0 : Int32))] []))
    refine own_step (fun _ k => XS.aloadN X3.here hx rfl (hb hby own_d4_62) rfl rfl k) ?_
    show own_Ends p.tables e below _ (T3.setTop (mkF m 63 #[.val (.ref a0), .val (.long q1), .second, .val (.int (0 : Int32))] [(.ref a0)]))
    obtain ⟨T7, X7, e7, st7⟩ := getF X3 hx hZ hown (host := "") (Or.inl (hw _ (List.mem_of_getElem? (i := 18) rfl))) Via.refl e3 F_ints (g := (mkF m 63 #[.val (.ref a0), .val (.long q1), .second, .val (.int (0 : Int32))] [(.ref a0)])) rfl rfl (hb hby own_d4_63)
    refine own_step st7 ?_
    show own_Ends p.tables e below _ (T7.setTop (mkF m 66 #[.val (.ref a0), .val (.long q1), .second, .val (.int (0 : Int32))] [(.ref b)]))
    refine own_step (fun _ k => XS.ifnonnullYes X7.here hx rfl (pc0 := 66) (pc' := 79) rfl (hb hby own_d4_66) rfl (by decide) (by decide) k) ?_
    show own_Ends p.tables e below _ (T7.setTop (mkF m 79 #[.val (.ref a0), .val (.long q1), .second, .val (.int (0 : Int32))] []))
    refine own_step (fun _ k => XS.aloadN X7.here hx rfl (hb hby own_d4_79) rfl rfl k) ?_
    show own_Ends p.tables e below _ (T7.setTop (mkF m 80 #[.val (.ref a0), .val (.long q1), .second, .val (.int (0 : Int32))] [(.ref a0)]))
    refine own_step (fun _ k => XS.lloadN X7.here hx rfl (hb hby own_d4_80) rfl k) ?_
    show own_Ends p.tables e below _ (T7.setTop (mkF m 81 #[.val (.ref a0), .val (.long q1), .second, .val (.int (0 : Int32))] [(.long q1), (.ref a0)]))
    refine own_step (fun _ k => XS.l2i X7.here hx rfl (hb hby own_d4_81) rfl k) ?_
    show own_Ends p.tables e below _ (T7.setTop (mkF m 82 #[.val (.ref a0), .val (.long q1), .second, .val (.int (0 : Int32))] [(.int (q1.toInt32)), (.ref a0)]))
    obtain ⟨cq8, qz8, qz8'⟩ := E_a0.cell
    obtain ⟨_, _, ⟨T8, L8, k8, n8⟩, -, X8, ⟨Lc8, hQ8, l8, y8, z8⟩, st8⟩ := X7.privateBack hx (y := (⟨"com/example/restate/restate/model/LongColumn", "addInt", "(I)V"⟩ : MethodName)) hown (mvT hZ (hw _ (List.mem_of_getElem? (i := 57) rfl))) (mvT hZ (hw _ (List.mem_of_getElem? (i := 58) rfl))) (own_sel_priv (by decide) (mvT hZ (hw _ (List.mem_of_getElem? (i := 5) rfl))) (mvP hZ (hw _ (List.mem_of_getElem? (i := 59) rfl))) (mvT hZ (hw _ (List.mem_of_getElem? (i := 58) rfl)))) (Cond.privateMethod_at (mvP hZ (hw _ (List.mem_of_getElem? (i := 59) rfl)) (args := #[]))) (mvT hZ (hw _ (List.mem_of_getElem? (i := 60) rfl))) (by decide) (backOf (W := 0) (own_rm_addInt_in l Z aw hw [] a0 (q1.toInt32) xs.length b k vs h0 n0 Z0 F_size F_ints V_b hl ne_ab g_b hn) hZ (hw _ (List.mem_of_getElem? (i := 60) rfl)) (hw _ (List.mem_of_getElem? (i := 6) rfl)) (by decide) (by decide)) (g := (mkF m 82 #[.val (.ref a0), .val (.long q1), .second, .val (.int (0 : Int32))] [(.int (q1.toInt32)), (.ref a0)])) rfl (by rw [hml]; rfl) (Steps.refl _) (a := a0) (by rw [e7]; exact qz8) qz8' (argsL := [(.int (q1.toInt32))]) (rest := []) (lenOf own_pd8 rfl) rfl (by show 2 * 0 + _ ≤ _; exact Nat.le_of_eq rfl) (hb hby own_d4_82) (fun _ _ => ⟨rfl, e7, (by decide : 0 + 1 ≤ _), (by decide : 0 + 16 ≤ _)⟩)
    dsimp only [Pt.U, Pt.locs, Pt.cells, Pt.slots] at X8 l8 y8 z8 st8 hQ8
    subst l8 y8 z8
    obtain ⟨rfl, N8q, k8, Va8⟩ := hQ8
    have N_8 := Fr.app N_3 N8q
    have E_a0_8 := E_a0.keep k8
    have F_size_8 := F_size.keep k8 (ninS ne_ab nin0)
    have F_shared_8 := F_shared.keep k8 (ninS ne_ab nin0)
    have F_ints_8 := F_ints.keep k8 (ninS ne_ab nin0)
    have F_longs_8 := F_longs.keep k8 (ninS ne_ab nin0)
    have K_8 : Keep h0 T8.heap [a0, b] := K0.trans k8 (allS (Or.inl (List.mem_of_getElem? (i := 1) rfl)) all0)
    have Z_8 : n0 ≤ T8.heap.size := Nat.le_trans Z0 k8.1
    refine own_step (fun _ k => st8.trans k) ?_
    show own_Ends p.tables e below _ (T8.setTop (mkF m 85 #[.val (.ref a0), .val (.long q1), .second, .val (.int (0 : Int32))] []))
    refine own_step (fun _ k => XS.goto X8.here hx rfl (pc0 := 85) (pc' := 93) rfl (hb hby own_d4_85) (by decide) (by decide) k) ?_
    show own_Ends p.tables e below _ (T8.setTop (mkF m 93 #[.val (.ref a0), .val (.long q1), .second, .val (.int (0 : Int32))] []))
    refine own_step (fun _ k => XS.aloadN X8.here hx rfl (hb hby own_d4_93) rfl rfl k) ?_
    show own_Ends p.tables e below _ (T8.setTop (mkF m 94 #[.val (.ref a0), .val (.long q1), .second, .val (.int (0 : Int32))] [(.ref a0)]))
    refine own_step (fun _ k => XS.dup X8.here hx rfl (hb hby own_d4_94) rfl rfl k) ?_
    show own_Ends p.tables e below _ (T8.setTop (mkF m 95 #[.val (.ref a0), .val (.long q1), .second, .val (.int (0 : Int32))] [(.ref a0), (.ref a0)]))
    obtain ⟨T9, X9, e9, st9⟩ := getF X8 hx hZ hown (host := "") (Or.inl (hw _ (List.mem_of_getElem? (i := 22) rfl))) Via.refl rfl F_size_8 (g := (mkF m 95 #[.val (.ref a0), .val (.long q1), .second, .val (.int (0 : Int32))] [(.ref a0), (.ref a0)])) rfl rfl (hb hby own_d4_95)
    refine own_step st9 ?_
    show own_Ends p.tables e below _ (T9.setTop (mkF m 98 #[.val (.ref a0), .val (.long q1), .second, .val (.int (0 : Int32))] [(.int (Int32.ofNat xs.length)), (.ref a0)]))
    refine own_step (fun _ k => XS.iconst X9.here hx rfl (hb hby own_d4_98) k) ?_
    show own_Ends p.tables e below _ (T9.setTop (mkF m 99 #[.val (.ref a0), .val (.long q1), .second, .val (.int (0 : Int32))] [(.int (1 : Int32)), (.int (Int32.ofNat xs.length)), (.ref a0)]))
    refine own_step (fun _ k => XS.iadd X9.here hx rfl (hb hby own_d4_99) rfl k) ?_
    show own_Ends p.tables e below _ (T9.setTop (mkF m 100 #[.val (.ref a0), .val (.long q1), .second, .val (.int (0 : Int32))] [(.int ((Int32.ofNat xs.length) + (1 : Int32))), (.ref a0)]))
    obtain ⟨T10, h10, X10, e10, W10, st10⟩ := putF X9 hx hZ hown (host := "") (Or.inl (hw _ (List.mem_of_getElem? (i := 22) rfl))) Via.refl e9 F_size_8 E_a0_8 (Or.inl (hw _ (List.mem_of_getElem? (i := 23) rfl))) (hw _ (List.mem_of_getElem? (i := 5) rfl)) (ty := .int) (by decide) rfl rfl (g := (mkF m 100 #[.val (.ref a0), .val (.long q1), .second, .val (.int (0 : Int32))] [(.int ((Int32.ofNat xs.length) + (1 : Int32))), (.ref a0)])) rfl rfl (hb hby own_d4_100)
    refine own_step st10 ?_
    have E_a0_10 := E_a0_8.wr W10
    have F_size_10 := F_size_8.same W10
    have F_shared_10 := F_shared_8.other W10 (Or.inr (slot_ne (Or.inl (hw _ (List.mem_of_getElem? (i := 25) rfl))) (Or.inl (hw _ (List.mem_of_getElem? (i := 23) rfl))) (by decide) (t := .long) (t' := .int) (by decide) (by decide)))
    have F_ints_10 := F_ints_8.other W10 (Or.inr (slot_ne (Or.inl (hw _ (List.mem_of_getElem? (i := 19) rfl))) (Or.inl (hw _ (List.mem_of_getElem? (i := 23) rfl))) (by decide) (t := (.array .int)) (t' := .int) (by decide) (by decide)))
    have F_longs_10 := F_longs_8.other W10 (Or.inr (slot_ne (Or.inl (hw _ (List.mem_of_getElem? (i := 21) rfl))) (Or.inl (hw _ (List.mem_of_getElem? (i := 23) rfl))) (by decide) (t := (.array .long)) (t' := .int) (by decide) (by decide)))
    have Va8_10 := Va8.other W10 (Ne.symm ne_ab)
    have K_10 : Keep h0 h10 [a0, b] := K_8.wr W10 (Or.inl (List.mem_of_getElem? (i := 0) rfl))
    have Z_10 : n0 ≤ h10.size := Nat.le_trans Z_8 (Keep.of_wr W10).1
    have N_10 := Fr.snoc X10 N_8 g_a0
    show own_Ends p.tables e below _ (T10.setTop (mkF m 103 #[.val (.ref a0), .val (.long q1), .second, .val (.int (0 : Int32))] []))
    exact own_ret0 X10 hx hlk (by decide) (by decide) Bd.returns (hb hby own_d4_103) (by rw [e10]; exact ⟨rfl, N_10, K_10.1, own_mk_in E_a0_10 F_size_10 F_shared_10 F_ints_10 F_longs_10 ne_ab g_b Va8_10 (by rw [List.length_set]; exact hl) (own_Rin_snoc hR (by omega) (own_fits_y hc59))⟩)
set_option maxRecDepth 65536 in
set_option maxHeartbeats 40000000 in
theorem own_rm_add_lo (l : Launch) (Z : State) (aw : Array Value) (hw : ∀ d ∈ tables_1, d.before aw Z = true) (ws : List Jvm.Cond) (a0 : Addr) (q1 : Int64) (xs : List Int64) (sh : Int64) (b : Addr) (k : ClassId) (vs : List Value) (h0 : Heap) (n0 : Nat) (Z0 : n0 ≤ h0.size) (E_a0 : Exa Z h0 a0 "com/example/restate/restate/model/LongColumn") (F_size : Fld Z h0 a0 "com/example/restate/restate/model/LongColumn" "size" "I" (.int (Int32.ofNat xs.length))) (F_shared : Fld Z h0 a0 "com/example/restate/restate/model/LongColumn" "shared" "J" (.long sh)) (F_ints : Fld Z h0 a0 "com/example/restate/restate/model/LongColumn" "ints" "[I" .null) (F_longs : Fld Z h0 a0 "com/example/restate/restate/model/LongColumn" "longs" "[J" (.ref b)) (V_b : Arv Z h0 b k .long (16 : Int32) vs (.long (0 : Int64))) (hl : vs.length = 16) (ne_ab : a0 ≠ b) (g_b : n0 ≤ b) (g_a0 : n0 ≤ a0) (hn : xs.length < 8) (hR : own_Rlo xs vs) :
    MetFree l (⟨"com/example/restate/restate/model/LongColumn", "add", "(J)V"⟩ : MethodName) (head1 (Jvm.Cond.code (⟨"com/example/restate/restate/model/LongColumn", "add", "(J)V"⟩ : MethodName) prog_45_method_3_code 4 none :: ws) ({ frames := 3, cells := 1, slots := 16, locals := 44 } : Room)) (fun a U => a = #[(.ref a0), (.long q1)] ∧ Z.Warmed39 U.vm ∧ U.heap = h0) (fun _ _ _ _ _ => True) (fun _ U o U' => ∃ v L, o = .returned v ∧ own_QAdd Z a0 xs q1 h0 n0 v U'.heap L ∧ FrameEnd U o U' L ({ frames := 3, cells := 1, slots := 16, locals := 44 } : Room).cells ({ frames := 3, cells := 1, slots := 16, locals := 44 } : Room).slots) := by
  refine MetFree.of_bodySF (plainFor_of_name own_pn0) hisR ?_
  intro p e s m args below meth c s₁ Bd hml0 hP hK
  obtain ⟨rfl, hZ, hh⟩ := hP
  have hx := Bd.exec
  have hby := Bd.bytes
  have hlk : meth.locks = false := BodyLoose.notSynchronized Bd
  have hml : c.maxLocals = 4 := hml0
  have hown : s.vm.findClass "com/example/restate/restate/model/LongColumn" = some m.cls := findClass_of_methodNamed Bd.named
  have hnm := (name_of_methodNamed Bd.named Bd.method).1
  have X0 : Stand p l e ({ frames := 3, cells := 1, slots := 16, locals := 44 } : Room) s m #[(.ref a0), (.long q1)] below meth c s₁ [] 0 0 := Stand.of_body Bd
  have e0 : s₁.heap = h0 := by rw [← hh, Bd.state]; rfl
  have N0 := Fr.nil n0
  have K0 : Keep h0 h0 [a0, b] := Keep.refl _ _
  have pre0 : ∀ t, Steps p.tables e below (s₁.setTop (mkF m 0 #[.val (.ref a0), .val (.long q1), .second, .unset] [])) t → Steps p.tables e below (s₁.setTop (entryFrame m #[(.ref a0), (.long q1)] 4)) t := fun t k => castTop (own_ef_4 m a0 q1) k
  show own_Ends p.tables e below (own_Q s (own_QAdd Z a0 xs q1 h0 n0) ({ frames := 3, cells := 1, slots := 16, locals := 44 } : Room).cells ({ frames := 3, cells := 1, slots := 16, locals := 44 } : Room).slots) (s₁.setTop (entryFrame m #[(.ref a0), (.long q1)] 4))
  refine own_step pre0 ?_
  show own_Ends p.tables e below _ (s₁.setTop (mkF m 0 #[.val (.ref a0), .val (.long q1), .second, .unset] []))
  refine own_step (fun _ k => XS.aloadN X0.here hx rfl (hb hby own_d4_0) rfl rfl k) ?_
  show own_Ends p.tables e below _ (s₁.setTop (mkF m 1 #[.val (.ref a0), .val (.long q1), .second, .unset] [(.ref a0)]))
  obtain ⟨T1, X1, e1, st1⟩ := getF X0 hx hZ hown (host := "") (Or.inl (hw _ (List.mem_of_getElem? (i := 18) rfl))) Via.refl e0 F_ints (g := (mkF m 1 #[.val (.ref a0), .val (.long q1), .second, .unset] [(.ref a0)])) rfl rfl (hb hby own_d4_1)
  refine own_step st1 ?_
  show own_Ends p.tables e below _ (T1.setTop (mkF m 4 #[.val (.ref a0), .val (.long q1), .second, .unset] [.null]))
  refine own_step (fun _ k => XS.ifnonnullNo X1.here hx rfl (hb hby own_d4_4) rfl k) ?_
  show own_Ends p.tables e below _ (T1.setTop (mkF m 7 #[.val (.ref a0), .val (.long q1), .second, .unset] []))
  refine own_step (fun _ k => XS.aloadN X1.here hx rfl (hb hby own_d4_7) rfl rfl k) ?_
  show own_Ends p.tables e below _ (T1.setTop (mkF m 8 #[.val (.ref a0), .val (.long q1), .second, .unset] [(.ref a0)]))
  obtain ⟨T2, X2, e2, st2⟩ := getF X1 hx hZ hown (host := "") (Or.inl (hw _ (List.mem_of_getElem? (i := 20) rfl))) Via.refl e1 F_longs (g := (mkF m 8 #[.val (.ref a0), .val (.long q1), .second, .unset] [(.ref a0)])) rfl rfl (hb hby own_d4_8)
  refine own_step st2 ?_
  show own_Ends p.tables e below _ (T2.setTop (mkF m 11 #[.val (.ref a0), .val (.long q1), .second, .unset] [(.ref b)]))
  refine own_step (fun _ k => XS.ifnonnullYes X2.here hx rfl (pc0 := 11) (pc' := 18) rfl (hb hby own_d4_11) rfl (by decide) (by decide) k) ?_
  show own_Ends p.tables e below _ (T2.setTop (mkF m 18 #[.val (.ref a0), .val (.long q1), .second, .unset] []))
  refine own_step (fun _ k => XS.iconst X2.here hx rfl (hb hby own_d4_18) k) ?_
  show own_Ends p.tables e below _ (T2.setTop (mkF m 19 #[.val (.ref a0), .val (.long q1), .second, .unset] [(.int (0 : Int32))]))
  refine own_step (fun _ k => XS.istoreN X2.here hx rfl (hb hby own_d4_19) rfl (l' := #[.val (.ref a0), .val (.long q1), .second, .val (.int (0 : Int32))]) rfl k) ?_
  show own_Ends p.tables e below _ (T2.setTop (mkF m 20 #[.val (.ref a0), .val (.long q1), .second, .val (.int (0 : Int32))] []))
  refine own_step (fun _ k => XS.iloadN X2.here hx rfl (hb hby own_d4_20) rfl k) ?_
  show own_Ends p.tables e below _ (T2.setTop (mkF m 21 #[.val (.ref a0), .val (.long q1), .second, .val (.int (0 : Int32))] [(.int (0 : Int32))]))
  refine own_step (fun _ k => XS.ifYes X2.here hx rfl (pc0 := 21) (pc' := 48) rfl (hb hby own_d4_21) rfl ((if0 _ _).trans (teq (by decide)).1) (by decide) (by decide) k) ?_
  show own_Ends p.tables e below _ (T2.setTop (mkF m 48 #[.val (.ref a0), .val (.long q1), .second, .val (.int (0 : Int32))] []))
  refine own_step (fun _ k => XS.aloadN X2.here hx rfl (hb hby own_d4_48) rfl rfl k) ?_
  show own_Ends p.tables e below _ (T2.setTop (mkF m 49 #[.val (.ref a0), .val (.long q1), .second, .val (.int (0 : Int32))] [(.ref a0)]))
  obtain ⟨T3, X3, e3, st3⟩ := getF X2 hx hZ hown (host := "") (Or.inl (hw _ (List.mem_of_getElem? (i := 20) rfl))) Via.refl e2 F_longs (g := (mkF m 49 #[.val (.ref a0), .val (.long q1), .second, .val (.int (0 : Int32))] [(.ref a0)])) rfl rfl (hb hby own_d4_49)
  refine own_step st3 ?_
  show own_Ends p.tables e below _ (T3.setTop (mkF m 52 #[.val (.ref a0), .val (.long q1), .second, .val (.int (0 : Int32))] [(.ref b)]))
  refine own_step (fun _ k => XS.ifnonnullYes X3.here hx rfl (pc0 := 52) (pc' := 88) rfl (hb hby own_d4_52) rfl (by decide) (by decide) k) ?_
  show own_Ends p.tables e below _ (T3.setTop (mkF m 88 #[.val (.ref a0), .val (.long q1), .second, .val (.int (0 : Int32))] []))
  refine own_step (fun _ k => XS.aloadN X3.here hx rfl (hb hby own_d4_88) rfl rfl k) ?_
  show own_Ends p.tables e below _ (T3.setTop (mkF m 89 #[.val (.ref a0), .val (.long q1), .second, .val (.int (0 : Int32))] [(.ref a0)]))
  refine own_step (fun _ k => XS.lloadN X3.here hx rfl (hb hby own_d4_89) rfl k) ?_
  show own_Ends p.tables e below _ (T3.setTop (mkF m 90 #[.val (.ref a0), .val (.long q1), .second, .val (.int (0 : Int32))] [(.long q1), (.ref a0)]))
  obtain ⟨cq4, qz4, qz4'⟩ := E_a0.cell
  obtain ⟨_, _, ⟨T4, L4, k4, n4⟩, -, X4, ⟨Lc4, hQ4, l4, y4, z4⟩, st4⟩ := X3.privateBack hx (y := (⟨"com/example/restate/restate/model/LongColumn", "addLong", "(J)V"⟩ : MethodName)) hown (mvT hZ (hw _ (List.mem_of_getElem? (i := 29) rfl))) (mvT hZ (hw _ (List.mem_of_getElem? (i := 30) rfl))) (own_sel_priv (by decide) (mvT hZ (hw _ (List.mem_of_getElem? (i := 5) rfl))) (mvP hZ (hw _ (List.mem_of_getElem? (i := 31) rfl))) (mvT hZ (hw _ (List.mem_of_getElem? (i := 30) rfl)))) (Cond.privateMethod_at (mvP hZ (hw _ (List.mem_of_getElem? (i := 31) rfl)) (args := #[]))) (mvT hZ (hw _ (List.mem_of_getElem? (i := 32) rfl))) (by decide) (backOf (W := 0) (own_rm_addLong_lo l Z aw hw [] a0 q1 xs.length b k vs h0 n0 Z0 F_size F_longs V_b hl ne_ab g_b hn) hZ (hw _ (List.mem_of_getElem? (i := 32) rfl)) (hw _ (List.mem_of_getElem? (i := 6) rfl)) (by decide) (by decide)) (g := (mkF m 90 #[.val (.ref a0), .val (.long q1), .second, .val (.int (0 : Int32))] [(.long q1), (.ref a0)])) rfl (by rw [hml]; rfl) (Steps.refl _) (a := a0) (by rw [e3]; exact qz4) qz4' (argsL := [(.long q1)]) (rest := []) (lenOf own_pd9 rfl) rfl (by show 2 * 0 + _ ≤ _; exact Nat.le_of_eq rfl) (hb hby own_d4_90) (fun _ _ => ⟨rfl, e3, (by decide : 0 + 1 ≤ _), (by decide : 0 + 16 ≤ _)⟩)
  dsimp only [Pt.U, Pt.locs, Pt.cells, Pt.slots] at X4 l4 y4 z4 st4 hQ4
  subst l4 y4 z4
  obtain ⟨rfl, N4q, k4, Va4⟩ := hQ4
  have N_4 := Fr.app N0 N4q
  have E_a0_4 := E_a0.keep k4
  have F_size_4 := F_size.keep k4 (ninS ne_ab nin0)
  have F_shared_4 := F_shared.keep k4 (ninS ne_ab nin0)
  have F_ints_4 := F_ints.keep k4 (ninS ne_ab nin0)
  have F_longs_4 := F_longs.keep k4 (ninS ne_ab nin0)
  have K_4 : Keep h0 T4.heap [a0, b] := K0.trans k4 (allS (Or.inl (List.mem_of_getElem? (i := 1) rfl)) all0)
  have Z_4 : n0 ≤ T4.heap.size := Nat.le_trans Z0 k4.1
  refine own_step (fun _ k => st4.trans k) ?_
  show own_Ends p.tables e below _ (T4.setTop (mkF m 93 #[.val (.ref a0), .val (.long q1), .second, .val (.int (0 : Int32))] []))
  refine own_step (fun _ k => XS.aloadN X4.here hx rfl (hb hby own_d4_93) rfl rfl k) ?_
  show own_Ends p.tables e below _ (T4.setTop (mkF m 94 #[.val (.ref a0), .val (.long q1), .second, .val (.int (0 : Int32))] [(.ref a0)]))
  refine own_step (fun _ k => XS.dup X4.here hx rfl (hb hby own_d4_94) rfl rfl k) ?_
  show own_Ends p.tables e below _ (T4.setTop (mkF m 95 #[.val (.ref a0), .val (.long q1), .second, .val (.int (0 : Int32))] [(.ref a0), (.ref a0)]))
  obtain ⟨T5, X5, e5, st5⟩ := getF X4 hx hZ hown (host := "") (Or.inl (hw _ (List.mem_of_getElem? (i := 22) rfl))) Via.refl rfl F_size_4 (g := (mkF m 95 #[.val (.ref a0), .val (.long q1), .second, .val (.int (0 : Int32))] [(.ref a0), (.ref a0)])) rfl rfl (hb hby own_d4_95)
  refine own_step st5 ?_
  show own_Ends p.tables e below _ (T5.setTop (mkF m 98 #[.val (.ref a0), .val (.long q1), .second, .val (.int (0 : Int32))] [(.int (Int32.ofNat xs.length)), (.ref a0)]))
  refine own_step (fun _ k => XS.iconst X5.here hx rfl (hb hby own_d4_98) k) ?_
  show own_Ends p.tables e below _ (T5.setTop (mkF m 99 #[.val (.ref a0), .val (.long q1), .second, .val (.int (0 : Int32))] [(.int (1 : Int32)), (.int (Int32.ofNat xs.length)), (.ref a0)]))
  refine own_step (fun _ k => XS.iadd X5.here hx rfl (hb hby own_d4_99) rfl k) ?_
  show own_Ends p.tables e below _ (T5.setTop (mkF m 100 #[.val (.ref a0), .val (.long q1), .second, .val (.int (0 : Int32))] [(.int ((Int32.ofNat xs.length) + (1 : Int32))), (.ref a0)]))
  obtain ⟨T6, h6, X6, e6, W6, st6⟩ := putF X5 hx hZ hown (host := "") (Or.inl (hw _ (List.mem_of_getElem? (i := 22) rfl))) Via.refl e5 F_size_4 E_a0_4 (Or.inl (hw _ (List.mem_of_getElem? (i := 23) rfl))) (hw _ (List.mem_of_getElem? (i := 5) rfl)) (ty := .int) (by decide) rfl rfl (g := (mkF m 100 #[.val (.ref a0), .val (.long q1), .second, .val (.int (0 : Int32))] [(.int ((Int32.ofNat xs.length) + (1 : Int32))), (.ref a0)])) rfl rfl (hb hby own_d4_100)
  refine own_step st6 ?_
  have E_a0_6 := E_a0_4.wr W6
  have F_size_6 := F_size_4.same W6
  have F_shared_6 := F_shared_4.other W6 (Or.inr (slot_ne (Or.inl (hw _ (List.mem_of_getElem? (i := 25) rfl))) (Or.inl (hw _ (List.mem_of_getElem? (i := 23) rfl))) (by decide) (t := .long) (t' := .int) (by decide) (by decide)))
  have F_ints_6 := F_ints_4.other W6 (Or.inr (slot_ne (Or.inl (hw _ (List.mem_of_getElem? (i := 19) rfl))) (Or.inl (hw _ (List.mem_of_getElem? (i := 23) rfl))) (by decide) (t := (.array .int)) (t' := .int) (by decide) (by decide)))
  have F_longs_6 := F_longs_4.other W6 (Or.inr (slot_ne (Or.inl (hw _ (List.mem_of_getElem? (i := 21) rfl))) (Or.inl (hw _ (List.mem_of_getElem? (i := 23) rfl))) (by decide) (t := (.array .long)) (t' := .int) (by decide) (by decide)))
  have Va4_6 := Va4.other W6 (Ne.symm ne_ab)
  have K_6 : Keep h0 h6 [a0, b] := K_4.wr W6 (Or.inl (List.mem_of_getElem? (i := 0) rfl))
  have Z_6 : n0 ≤ h6.size := Nat.le_trans Z_4 (Keep.of_wr W6).1
  have N_6 := Fr.snoc X6 N_4 g_a0
  show own_Ends p.tables e below _ (T6.setTop (mkF m 103 #[.val (.ref a0), .val (.long q1), .second, .val (.int (0 : Int32))] []))
  exact own_ret0 X6 hx hlk (by decide) (by decide) Bd.returns (hb hby own_d4_103) (by rw [e6]; exact ⟨rfl, N_6, K_6.1, own_mk_lo E_a0_6 F_size_6 F_shared_6 F_ints_6 F_longs_6 ne_ab g_b Va4_6 (by rw [List.length_set]; exact hl) (own_Rlo_snoc hR (by omega))⟩)
theorem own_rm_add (l : Launch) (Z : State) (a0' : Array Value) (hw : ∀ d ∈ tables_1, d.before a0' Z = true) (ws : List Jvm.Cond) (a0 : Addr) (q1 : Int64) (xs : List Int64) (h0 : Heap) (n0 : Nat) (Z0 : n0 ≤ h0.size) (C : own_Col Z h0 a0 n0 xs) (g_a0 : n0 ≤ a0) (hn : xs.length < 8) :
    MetFree l (⟨"com/example/restate/restate/model/LongColumn", "add", "(J)V"⟩ : MethodName) (head1 (Jvm.Cond.code (⟨"com/example/restate/restate/model/LongColumn", "add", "(J)V"⟩ : MethodName) prog_45_method_3_code 4 none :: ws) ({ frames := 3, cells := 1, slots := 16, locals := 44 } : Room)) (fun a U => a = #[(.ref a0), (.long q1)] ∧ Z.Warmed39 U.vm ∧ U.heap = h0) (fun _ _ _ _ _ => True) (fun _ U o U' => ∃ v L, o = .returned v ∧ own_QAdd Z a0 xs q1 h0 n0 v U'.heap L ∧ FrameEnd U o U' L ({ frames := 3, cells := 1, slots := 16, locals := 44 } : Room).cells ({ frames := 3, cells := 1, slots := 16, locals := 44 } : Room).slots) := by
  obtain ⟨E, Fs, C⟩ := C
  rcases C with ⟨sh, F1, F2, F3, hx⟩ | ⟨sh, b, k, vs, F1, F2, F3, ne, ge, A, hl, hR⟩ | ⟨sh, b, k, vs, F1, F2, F3, ne, ge, A, hl, hR⟩
  · exact own_rm_add_sh l Z a0' hw ws a0 q1 xs sh h0 n0 Z0 E Fs F1 F2 F3 g_a0 hn hx
  · exact own_rm_add_in l Z a0' hw ws a0 q1 xs sh b k vs h0 n0 Z0 E Fs F1 F2 F3 A hl ne ge g_a0 hn hR
  · exact own_rm_add_lo l Z a0' hw ws a0 q1 xs sh b k vs h0 n0 Z0 E Fs F1 F2 F3 A hl ne ge g_a0 hn hR
theorem own_d1_0 : decode method_2_code 0 = .ok (.iload 6, 2) := by decide +kernel
theorem own_d1_2 : decode method_2_code 2 = .ok (.iconst 3, 1) := by decide +kernel
theorem own_d1_3 : decode method_2_code 3 = .ok (.iand, 1) := by decide +kernel
theorem own_d1_4 : decode method_2_code 4 = .ok (.istore 7, 2) := by decide +kernel
theorem own_d1_6 : decode method_2_code 6 = .ok (.iload 7, 2) := by decide +kernel
theorem own_d1_8 : decode method_2_code 8 = .ok (.ifCond .ne 5, 3) := by decide +kernel
theorem own_d1_11 : decode method_2_code 11 = .ok (.lload_n 0, 1) := by decide +kernel
theorem own_d1_12 : decode method_2_code 12 = .ok (.lreturn, 1) := by decide +kernel
theorem own_d1_13 : decode method_2_code 13 = .ok (.iload 7, 2) := by decide +kernel
theorem own_d1_15 : decode method_2_code 15 = .ok (.iconst 1, 1) := by decide +kernel
theorem own_d1_16 : decode method_2_code 16 = .ok (.if_icmp .ne 5, 3) := by decide +kernel
theorem own_d1_19 : decode method_2_code 19 = .ok (.lload_n 2, 1) := by decide +kernel
theorem own_d1_20 : decode method_2_code 20 = .ok (.lreturn, 1) := by decide +kernel
theorem own_d1_21 : decode method_2_code 21 = .ok (.iload 7, 2) := by decide +kernel
theorem own_d1_23 : decode method_2_code 23 = .ok (.iconst 2, 1) := by decide +kernel
theorem own_d1_24 : decode method_2_code 24 = .ok (.if_icmp .ne 6, 3) := by decide +kernel
theorem own_d1_27 : decode method_2_code 27 = .ok (.lload 4, 2) := by decide +kernel
theorem own_d1_29 : decode method_2_code 29 = .ok (.lreturn, 1) := by decide +kernel
theorem own_d1_30 : decode method_2_code 30 = .ok (.lload_n 0, 1) := by decide +kernel
theorem own_d1_31 : decode method_2_code 31 = .ok (.lreturn, 1) := by decide +kernel
theorem own_pn2 : plainName "com/example/restate/restate/model/LongColumnGetPinLaw" = true := by first | (simp [plainName, overriddenIn]; done) | decide +kernel
theorem own_ef_1 (m : MethodId) (x0 : Int64) (x1 : Int64) (x2 : Int64) (x3 : Int32) : entryFrame m #[(.long x0), (.long x1), (.long x2), (.int x3)] 8 = mkF m 0 #[.val (.long x0), .second, .val (.long x1), .second, .val (.long x2), .second, .val (.int x3), .unset] [] := by first | (simp [entryFrame, mkF, argsToLocals, Value.category]; done) | rfl
def own_Q_pick (Z : State) (q0 : Int64) (q1 : Int64) (q2 : Int64) (p3 : Int32) (h0 : Heap) (n0 : Nat) (v : Option Value) (h : Heap) (L : List Loc) : Prop := v = some (.long (own_pick q0 q1 q2 p3)) ∧ Fr n0 L ∧ h = h0
set_option maxRecDepth 65536 in
set_option maxHeartbeats 40000000 in
theorem own_rm_pick (l : Launch) (Z : State) (aw : Array Value) (hw : ∀ d ∈ tables_1, d.before aw Z = true) (ws : List Jvm.Cond) (q0 : Int64) (q1 : Int64) (q2 : Int64) (p3 : Int32) (h0 : Heap) (n0 : Nat) (Z0 : n0 ≤ h0.size) :
    MetFree l (⟨"com/example/restate/restate/model/LongColumnGetPinLaw", "pick", "(JJJI)J"⟩ : MethodName) (head1 (Jvm.Cond.code (⟨"com/example/restate/restate/model/LongColumnGetPinLaw", "pick", "(JJJI)J"⟩ : MethodName) method_2_code 8 (some .long) :: ws) ({ frames := 0, cells := 0, slots := 0, locals := 0 } : Room)) (fun a U => a = #[(.long q0), (.long q1), (.long q2), (.int p3)] ∧ Z.Warmed39 U.vm ∧ U.heap = h0) (fun _ _ _ _ _ => True) (fun _ U o U' => ∃ v L, o = .returned v ∧ own_Q_pick Z q0 q1 q2 p3 h0 n0 v U'.heap L ∧ FrameEnd U o U' L ({ frames := 0, cells := 0, slots := 0, locals := 0 } : Room).cells ({ frames := 0, cells := 0, slots := 0, locals := 0 } : Room).slots) := by
  refine MetFree.of_bodySF (plainFor_of_name own_pn2) hisR ?_
  intro p e s m args below meth c s₁ Bd hml0 hP hK
  obtain ⟨rfl, hZ, hh⟩ := hP
  have hx := Bd.exec
  have hby := Bd.bytes
  have hlk : meth.locks = false := BodyLoose.notSynchronized Bd
  have hml : c.maxLocals = 8 := hml0
  have hown : s.vm.findClass "com/example/restate/restate/model/LongColumnGetPinLaw" = some m.cls := findClass_of_methodNamed Bd.named
  have hnm := (name_of_methodNamed Bd.named Bd.method).1
  have X0 : Stand p l e ({ frames := 0, cells := 0, slots := 0, locals := 0 } : Room) s m #[(.long q0), (.long q1), (.long q2), (.int p3)] below meth c s₁ [] 0 0 := Stand.of_body Bd
  have e0 : s₁.heap = h0 := by rw [← hh, Bd.state]; rfl
  have N0 := Fr.nil n0
  have K0 : Keep h0 h0 [] := Keep.refl _ _
  have pre0 : ∀ t, Steps p.tables e below (s₁.setTop (mkF m 0 #[.val (.long q0), .second, .val (.long q1), .second, .val (.long q2), .second, .val (.int p3), .unset] [])) t → Steps p.tables e below (s₁.setTop (entryFrame m #[(.long q0), (.long q1), (.long q2), (.int p3)] 8)) t := fun t k => castTop (own_ef_1 m q0 q1 q2 p3) k
  show own_Ends p.tables e below (own_Q s (own_Q_pick Z q0 q1 q2 p3 h0 n0) ({ frames := 0, cells := 0, slots := 0, locals := 0 } : Room).cells ({ frames := 0, cells := 0, slots := 0, locals := 0 } : Room).slots) (s₁.setTop (entryFrame m #[(.long q0), (.long q1), (.long q2), (.int p3)] 8))
  refine own_step pre0 ?_
  show own_Ends p.tables e below _ (s₁.setTop (mkF m 0 #[.val (.long q0), .second, .val (.long q1), .second, .val (.long q2), .second, .val (.int p3), .unset] []))
  refine own_step (fun _ k => XS.iload X0.here hx rfl (hb hby own_d1_0) rfl k) ?_
  show own_Ends p.tables e below _ (s₁.setTop (mkF m 2 #[.val (.long q0), .second, .val (.long q1), .second, .val (.long q2), .second, .val (.int p3), .unset] [(.int p3)]))
  refine own_step (fun _ k => XS.iconst X0.here hx rfl (hb hby own_d1_2) k) ?_
  show own_Ends p.tables e below _ (s₁.setTop (mkF m 3 #[.val (.long q0), .second, .val (.long q1), .second, .val (.long q2), .second, .val (.int p3), .unset] [(.int (3 : Int32)), (.int p3)]))
  refine own_step (fun _ k => XS.iand X0.here hx rfl (hb hby own_d1_3) rfl k) ?_
  show own_Ends p.tables e below _ (s₁.setTop (mkF m 4 #[.val (.long q0), .second, .val (.long q1), .second, .val (.long q2), .second, .val (.int p3), .unset] [(.int (p3 &&& (3 : Int32)))]))
  refine own_step (fun _ k => XS.istore X0.here hx rfl (hb hby own_d1_4) rfl (l' := #[.val (.long q0), .second, .val (.long q1), .second, .val (.long q2), .second, .val (.int p3), .val (.int (p3 &&& (3 : Int32)))]) rfl k) ?_
  show own_Ends p.tables e below _ (s₁.setTop (mkF m 6 #[.val (.long q0), .second, .val (.long q1), .second, .val (.long q2), .second, .val (.int p3), .val (.int (p3 &&& (3 : Int32)))] []))
  refine own_step (fun _ k => XS.iload X0.here hx rfl (hb hby own_d1_6) rfl k) ?_
  show own_Ends p.tables e below _ (s₁.setTop (mkF m 8 #[.val (.long q0), .second, .val (.long q1), .second, .val (.long q2), .second, .val (.int p3), .val (.int (p3 &&& (3 : Int32)))] [(.int (p3 &&& (3 : Int32)))]))
  by_cases hc8 : (p3 &&& (3 : Int32)) = (0 : Int32)
  · refine own_step (fun _ k => XS.ifNo X0.here hx rfl (hb hby own_d1_8) rfl ((if0 _ _).trans (teq hc8).2) k) ?_
    show own_Ends p.tables e below _ (s₁.setTop (mkF m 11 #[.val (.long q0), .second, .val (.long q1), .second, .val (.long q2), .second, .val (.int p3), .val (.int (p3 &&& (3 : Int32)))] []))
    refine own_step (fun _ k => XS.lloadN X0.here hx rfl (hb hby own_d1_11) rfl k) ?_
    show own_Ends p.tables e below _ (s₁.setTop (mkF m 12 #[.val (.long q0), .second, .val (.long q1), .second, .val (.long q2), .second, .val (.int p3), .val (.int (p3 &&& (3 : Int32)))] [(.long q0)]))
    exact own_retJ X0 hx hlk (by decide) (by decide) Bd.returns (hb hby own_d1_12) (by rw [e0]; exact ⟨by rw [show own_pick q0 q1 q2 p3 = q0 by simp [own_pick, hc8]], N0, rfl⟩)
  · refine own_step (fun _ k => XS.ifYes X0.here hx rfl (pc0 := 8) (pc' := 13) rfl (hb hby own_d1_8) rfl ((if0 _ _).trans (feq hc8).2) (by decide) (by decide) k) ?_
    show own_Ends p.tables e below _ (s₁.setTop (mkF m 13 #[.val (.long q0), .second, .val (.long q1), .second, .val (.long q2), .second, .val (.int p3), .val (.int (p3 &&& (3 : Int32)))] []))
    refine own_step (fun _ k => XS.iload X0.here hx rfl (hb hby own_d1_13) rfl k) ?_
    show own_Ends p.tables e below _ (s₁.setTop (mkF m 15 #[.val (.long q0), .second, .val (.long q1), .second, .val (.long q2), .second, .val (.int p3), .val (.int (p3 &&& (3 : Int32)))] [(.int (p3 &&& (3 : Int32)))]))
    refine own_step (fun _ k => XS.iconst X0.here hx rfl (hb hby own_d1_15) k) ?_
    show own_Ends p.tables e below _ (s₁.setTop (mkF m 16 #[.val (.long q0), .second, .val (.long q1), .second, .val (.long q2), .second, .val (.int p3), .val (.int (p3 &&& (3 : Int32)))] [(.int (1 : Int32)), (.int (p3 &&& (3 : Int32)))]))
    by_cases hc16 : (p3 &&& (3 : Int32)) = (1 : Int32)
    · refine own_step (fun _ k => XS.icmpNo X0.here hx rfl (hb hby own_d1_16) rfl (teq hc16).2 k) ?_
      show own_Ends p.tables e below _ (s₁.setTop (mkF m 19 #[.val (.long q0), .second, .val (.long q1), .second, .val (.long q2), .second, .val (.int p3), .val (.int (p3 &&& (3 : Int32)))] []))
      refine own_step (fun _ k => XS.lloadN X0.here hx rfl (hb hby own_d1_19) rfl k) ?_
      show own_Ends p.tables e below _ (s₁.setTop (mkF m 20 #[.val (.long q0), .second, .val (.long q1), .second, .val (.long q2), .second, .val (.int p3), .val (.int (p3 &&& (3 : Int32)))] [(.long q1)]))
      exact own_retJ X0 hx hlk (by decide) (by decide) Bd.returns (hb hby own_d1_20) (by rw [e0]; exact ⟨by rw [show own_pick q0 q1 q2 p3 = q1 by simp [own_pick, hc8, hc16]], N0, rfl⟩)
    · refine own_step (fun _ k => XS.icmpYes X0.here hx rfl (pc0 := 16) (pc' := 21) rfl (hb hby own_d1_16) rfl (feq hc16).2 (by decide) (by decide) k) ?_
      show own_Ends p.tables e below _ (s₁.setTop (mkF m 21 #[.val (.long q0), .second, .val (.long q1), .second, .val (.long q2), .second, .val (.int p3), .val (.int (p3 &&& (3 : Int32)))] []))
      refine own_step (fun _ k => XS.iload X0.here hx rfl (hb hby own_d1_21) rfl k) ?_
      show own_Ends p.tables e below _ (s₁.setTop (mkF m 23 #[.val (.long q0), .second, .val (.long q1), .second, .val (.long q2), .second, .val (.int p3), .val (.int (p3 &&& (3 : Int32)))] [(.int (p3 &&& (3 : Int32)))]))
      refine own_step (fun _ k => XS.iconst X0.here hx rfl (hb hby own_d1_23) k) ?_
      show own_Ends p.tables e below _ (s₁.setTop (mkF m 24 #[.val (.long q0), .second, .val (.long q1), .second, .val (.long q2), .second, .val (.int p3), .val (.int (p3 &&& (3 : Int32)))] [(.int (2 : Int32)), (.int (p3 &&& (3 : Int32)))]))
      by_cases hc24 : (p3 &&& (3 : Int32)) = (2 : Int32)
      · refine own_step (fun _ k => XS.icmpNo X0.here hx rfl (hb hby own_d1_24) rfl (teq hc24).2 k) ?_
        show own_Ends p.tables e below _ (s₁.setTop (mkF m 27 #[.val (.long q0), .second, .val (.long q1), .second, .val (.long q2), .second, .val (.int p3), .val (.int (p3 &&& (3 : Int32)))] []))
        refine own_step (fun _ k => XS.lload X0.here hx rfl (hb hby own_d1_27) rfl k) ?_
        show own_Ends p.tables e below _ (s₁.setTop (mkF m 29 #[.val (.long q0), .second, .val (.long q1), .second, .val (.long q2), .second, .val (.int p3), .val (.int (p3 &&& (3 : Int32)))] [(.long q2)]))
        exact own_retJ X0 hx hlk (by decide) (by decide) Bd.returns (hb hby own_d1_29) (by rw [e0]; exact ⟨by rw [show own_pick q0 q1 q2 p3 = q2 by simp [own_pick, hc8, hc16, hc24]], N0, rfl⟩)
      · refine own_step (fun _ k => XS.icmpYes X0.here hx rfl (pc0 := 24) (pc' := 30) rfl (hb hby own_d1_24) rfl (feq hc24).2 (by decide) (by decide) k) ?_
        show own_Ends p.tables e below _ (s₁.setTop (mkF m 30 #[.val (.long q0), .second, .val (.long q1), .second, .val (.long q2), .second, .val (.int p3), .val (.int (p3 &&& (3 : Int32)))] []))
        refine own_step (fun _ k => XS.lloadN X0.here hx rfl (hb hby own_d1_30) rfl k) ?_
        show own_Ends p.tables e below _ (s₁.setTop (mkF m 31 #[.val (.long q0), .second, .val (.long q1), .second, .val (.long q2), .second, .val (.int p3), .val (.int (p3 &&& (3 : Int32)))] [(.long q0)]))
        exact own_retJ X0 hx hlk (by decide) (by decide) Bd.returns (hb hby own_d1_31) (by rw [e0]; exact ⟨by rw [show own_pick q0 q1 q2 p3 = q0 by simp [own_pick, hc8, hc16, hc24]], N0, rfl⟩)
theorem own_pd10 : parseMethodDescriptor "(JJJI)J" = some ⟨[.long, .long, .long, .int], some .long⟩ := by decide +kernel
theorem own_pd11 : parseMethodDescriptor "()I" = some ⟨[], some .int⟩ := by decide +kernel
theorem own_ef_0 (m : MethodId) (x0 : Int64) (x1 : Int64) (x2 : Int64) (x3 : Int32) : entryFrame m #[(.long x0), (.long x1), (.long x2), (.int x3)] maxLocals = mkF m 0 #[.val (.long x0), .second, .val (.long x1), .second, .val (.long x2), .second, .val (.int x3), .unset, .unset, .unset, .unset, .unset, .unset, .unset, .unset, .unset, .unset] [] := by first | (simp [entryFrame, mkF, argsToLocals, Value.category, maxLocals]; done) | rfl
def own_Q_law (Z : State) (q0 : Int64) (q1 : Int64) (q2 : Int64) (p3 : Int32) (h0 : Heap) (n0 : Nat) (v : Option Value) (h : Heap) (L : List Loc) : Prop := v = some (.int 1) ∧ Fr n0 L
set_option maxRecDepth 65536 in
set_option maxHeartbeats 40000000 in
theorem own_rm_law (l : Launch) (Z : State) (aw : Array Value) (hw : ∀ d ∈ tables_1, d.before aw Z = true) (ws : List Jvm.Cond) (q0 : Int64) (q1 : Int64) (q2 : Int64) (p3 : Int32) (h0 : Heap) (n0 : Nat) (Z0 : n0 ≤ h0.size) :
    MetFree l x (head1 (Jvm.Cond.code x code maxLocals ret :: ws) room_1) (fun a U => a = #[(.long q0), (.long q1), (.long q2), (.int p3)] ∧ Z.Warmed39 U.vm ∧ U.heap = h0) (fun _ _ _ _ _ => True) (fun _ U o U' => ∃ v L, o = .returned v ∧ own_Q_law Z q0 q1 q2 p3 h0 n0 v U'.heap L ∧ FrameEnd U o U' L room_1.cells room_1.slots) := by
  refine MetFree.of_bodySF (plainFor_of_name own_pn2) hisR ?_
  intro p e s m args below meth c s₁ Bd hml0 hP hK
  obtain ⟨rfl, hZ, hh⟩ := hP
  have hx := Bd.exec
  have hby := Bd.bytes
  have hlk : meth.locks = false := BodyLoose.notSynchronized Bd
  have hml : c.maxLocals = 17 := hml0
  have hown : s.vm.findClass "com/example/restate/restate/model/LongColumnGetPinLaw" = some m.cls := findClass_of_methodNamed Bd.named
  have hnm := (name_of_methodNamed Bd.named Bd.method).1
  have X0 : Stand p l e room_1 s m #[(.long q0), (.long q1), (.long q2), (.int p3)] below meth c s₁ [] 0 0 := Stand.of_body Bd
  have e0 : s₁.heap = h0 := by rw [← hh, Bd.state]; rfl
  have N0 := Fr.nil n0
  have K0 : Keep h0 h0 [] := Keep.refl _ _
  have pre0 : ∀ t, Steps p.tables e below (s₁.setTop (mkF m 0 #[.val (.long q0), .second, .val (.long q1), .second, .val (.long q2), .second, .val (.int p3), .unset, .unset, .unset, .unset, .unset, .unset, .unset, .unset, .unset, .unset] [])) t → Steps p.tables e below (s₁.setTop (entryFrame m #[(.long q0), (.long q1), (.long q2), (.int p3)] maxLocals)) t := fun t k => castTop (own_ef_0 m q0 q1 q2 p3) k
  show own_Ends p.tables e below (own_Q s (own_Q_law Z q0 q1 q2 p3 h0 n0) room_1.cells room_1.slots) (s₁.setTop (entryFrame m #[(.long q0), (.long q1), (.long q2), (.int p3)] maxLocals))
  refine own_step pre0 ?_
  show own_Ends p.tables e below _ (s₁.setTop (mkF m 0 #[.val (.long q0), .second, .val (.long q1), .second, .val (.long q2), .second, .val (.int p3), .unset, .unset, .unset, .unset, .unset, .unset, .unset, .unset, .unset, .unset] []))
  refine own_step (fun _ k => XS.lloadN X0.here hx rfl (hb hby at_0) rfl k) ?_
  show own_Ends p.tables e below _ (s₁.setTop (mkF m 1 #[.val (.long q0), .second, .val (.long q1), .second, .val (.long q2), .second, .val (.int p3), .unset, .unset, .unset, .unset, .unset, .unset, .unset, .unset, .unset, .unset] [(.long q0)]))
  refine own_step (fun _ k => XS.lloadN X0.here hx rfl (hb hby at_1) rfl k) ?_
  show own_Ends p.tables e below _ (s₁.setTop (mkF m 2 #[.val (.long q0), .second, .val (.long q1), .second, .val (.long q2), .second, .val (.int p3), .unset, .unset, .unset, .unset, .unset, .unset, .unset, .unset, .unset, .unset] [(.long q1), (.long q0)]))
  refine own_step (fun _ k => XS.lload X0.here hx rfl (hb hby at_2) rfl k) ?_
  show own_Ends p.tables e below _ (s₁.setTop (mkF m 4 #[.val (.long q0), .second, .val (.long q1), .second, .val (.long q2), .second, .val (.int p3), .unset, .unset, .unset, .unset, .unset, .unset, .unset, .unset, .unset, .unset] [(.long q2), (.long q1), (.long q0)]))
  refine own_step (fun _ k => XS.iload X0.here hx rfl (hb hby at_4) rfl k) ?_
  show own_Ends p.tables e below _ (s₁.setTop (mkF m 6 #[.val (.long q0), .second, .val (.long q1), .second, .val (.long q2), .second, .val (.int p3), .unset, .unset, .unset, .unset, .unset, .unset, .unset, .unset, .unset, .unset] [(.int p3), (.long q2), (.long q1), (.long q0)]))
  obtain ⟨_, _, ⟨T1, L1, k1, n1⟩, -, X1, ⟨Lc1, hQ1, l1, y1, z1⟩, st1⟩ := Jvm.LawKit.callS X0 hx (y := (⟨"com/example/restate/restate/model/LongColumnGetPinLaw", "pick", "(JJJI)J"⟩ : MethodName)) hown (mvT hZ (hw _ (List.mem_of_getElem? (i := 0) rfl))) (mvT hZ (hw _ (List.mem_of_getElem? (i := 1) rfl))) (mvT hZ (hw _ (List.mem_of_getElem? (i := 2) rfl))) (mvT hZ (hw _ (List.mem_of_getElem? (i := 3) rfl))) (by decide) (backOf (W := 0) (own_rm_pick l Z aw hw [] q0 q1 q2 p3 h0 n0 Z0 ) hZ (hw _ (List.mem_of_getElem? (i := 3) rfl)) (hw _ (List.mem_of_getElem? (i := 2) rfl)) (by decide) (by decide)) (g := (mkF m 6 #[.val (.long q0), .second, .val (.long q1), .second, .val (.long q2), .second, .val (.int p3), .unset, .unset, .unset, .unset, .unset, .unset, .unset, .unset, .unset, .unset] [(.int p3), (.long q2), (.long q1), (.long q0)])) rfl (by rw [hml]; rfl) (argsL := [(.long q0), (.long q1), (.long q2), (.int p3)]) (rest := []) (lenOf own_pd10 rfl) rfl (by show 2 * 0 + _ ≤ _; exact Nat.le_of_eq rfl) (hb hby at_6) (fun _ _ => ⟨rfl, e0, (by decide : 0 + 0 ≤ _), (by decide : 0 + 0 ≤ _)⟩)
  dsimp only [Pt.U, Pt.locs, Pt.cells, Pt.slots] at X1 l1 y1 z1 st1 hQ1
  subst l1 y1 z1
  obtain ⟨rfl, N1q, e1⟩ := hQ1
  have N_1 := Fr.app N0 N1q
  refine own_step st1 ?_
  show own_Ends p.tables e below _ (T1.setTop (mkF m 9 #[.val (.long q0), .second, .val (.long q1), .second, .val (.long q2), .second, .val (.int p3), .unset, .unset, .unset, .unset, .unset, .unset, .unset, .unset, .unset, .unset] [(.long (own_pick q0 q1 q2 p3))]))
  obtain ⟨v0, hv0⟩ : ∃ z, z = (own_pick q0 q1 q2 p3) := ⟨_, rfl⟩
  rw [← hv0]
  show own_Ends p.tables e below _ (T1.setTop (mkF m 9 #[.val (.long q0), .second, .val (.long q1), .second, .val (.long q2), .second, .val (.int p3), .unset, .unset, .unset, .unset, .unset, .unset, .unset, .unset, .unset, .unset] [(.long v0)]))
  refine own_step (fun _ k => XS.lstore X1.here hx rfl (hb hby at_9) rfl (l' := #[.val (.long q0), .second, .val (.long q1), .second, .val (.long q2), .second, .val (.int p3), .val (.long v0), .second, .unset, .unset, .unset, .unset, .unset, .unset, .unset, .unset]) rfl k) ?_
  show own_Ends p.tables e below _ (T1.setTop (mkF m 11 #[.val (.long q0), .second, .val (.long q1), .second, .val (.long q2), .second, .val (.int p3), .val (.long v0), .second, .unset, .unset, .unset, .unset, .unset, .unset, .unset, .unset] []))
  refine own_step (fun _ k => XS.lloadN X1.here hx rfl (hb hby at_11) rfl k) ?_
  show own_Ends p.tables e below _ (T1.setTop (mkF m 12 #[.val (.long q0), .second, .val (.long q1), .second, .val (.long q2), .second, .val (.int p3), .val (.long v0), .second, .unset, .unset, .unset, .unset, .unset, .unset, .unset, .unset] [(.long q0)]))
  refine own_step (fun _ k => XS.lloadN X1.here hx rfl (hb hby at_12) rfl k) ?_
  show own_Ends p.tables e below _ (T1.setTop (mkF m 13 #[.val (.long q0), .second, .val (.long q1), .second, .val (.long q2), .second, .val (.int p3), .val (.long v0), .second, .unset, .unset, .unset, .unset, .unset, .unset, .unset, .unset] [(.long q1), (.long q0)]))
  refine own_step (fun _ k => XS.lload X1.here hx rfl (hb hby at_13) rfl k) ?_
  show own_Ends p.tables e below _ (T1.setTop (mkF m 15 #[.val (.long q0), .second, .val (.long q1), .second, .val (.long q2), .second, .val (.int p3), .val (.long v0), .second, .unset, .unset, .unset, .unset, .unset, .unset, .unset, .unset] [(.long q2), (.long q1), (.long q0)]))
  refine own_step (fun _ k => XS.iload X1.here hx rfl (hb hby at_15) rfl k) ?_
  show own_Ends p.tables e below _ (T1.setTop (mkF m 17 #[.val (.long q0), .second, .val (.long q1), .second, .val (.long q2), .second, .val (.int p3), .val (.long v0), .second, .unset, .unset, .unset, .unset, .unset, .unset, .unset, .unset] [(.int p3), (.long q2), (.long q1), (.long q0)]))
  refine own_step (fun _ k => XS.iconst X1.here hx rfl (hb hby at_17) k) ?_
  show own_Ends p.tables e below _ (T1.setTop (mkF m 18 #[.val (.long q0), .second, .val (.long q1), .second, .val (.long q2), .second, .val (.int p3), .val (.long v0), .second, .unset, .unset, .unset, .unset, .unset, .unset, .unset, .unset] [(.int (2 : Int32)), (.int p3), (.long q2), (.long q1), (.long q0)]))
  refine own_step (fun _ k => XS.iushr X1.here hx rfl (hb hby at_18) rfl k) ?_
  show own_Ends p.tables e below _ (T1.setTop (mkF m 19 #[.val (.long q0), .second, .val (.long q1), .second, .val (.long q2), .second, .val (.int p3), .val (.long v0), .second, .unset, .unset, .unset, .unset, .unset, .unset, .unset, .unset] [(.int ((p3.toUInt32 >>> ((2 : Int32) &&& 31).toUInt32).toInt32)), (.long q2), (.long q1), (.long q0)]))
  obtain ⟨_, _, ⟨T2, L2, k2, n2⟩, -, X2, ⟨Lc2, hQ2, l2, y2, z2⟩, st2⟩ := Jvm.LawKit.callS X1 hx (y := (⟨"com/example/restate/restate/model/LongColumnGetPinLaw", "pick", "(JJJI)J"⟩ : MethodName)) hown (mvT hZ (hw _ (List.mem_of_getElem? (i := 0) rfl))) (mvT hZ (hw _ (List.mem_of_getElem? (i := 1) rfl))) (mvT hZ (hw _ (List.mem_of_getElem? (i := 2) rfl))) (mvT hZ (hw _ (List.mem_of_getElem? (i := 3) rfl))) (by decide) (backOf (W := 0) (own_rm_pick l Z aw hw [] q0 q1 q2 ((p3.toUInt32 >>> ((2 : Int32) &&& 31).toUInt32).toInt32) h0 n0 Z0 ) hZ (hw _ (List.mem_of_getElem? (i := 3) rfl)) (hw _ (List.mem_of_getElem? (i := 2) rfl)) (by decide) (by decide)) (g := (mkF m 19 #[.val (.long q0), .second, .val (.long q1), .second, .val (.long q2), .second, .val (.int p3), .val (.long v0), .second, .unset, .unset, .unset, .unset, .unset, .unset, .unset, .unset] [(.int ((p3.toUInt32 >>> ((2 : Int32) &&& 31).toUInt32).toInt32)), (.long q2), (.long q1), (.long q0)])) rfl (by rw [hml]; rfl) (argsL := [(.long q0), (.long q1), (.long q2), (.int ((p3.toUInt32 >>> ((2 : Int32) &&& 31).toUInt32).toInt32))]) (rest := []) (lenOf own_pd10 rfl) rfl (by show 2 * 0 + _ ≤ _; exact Nat.le_of_eq rfl) (hb hby at_19) (fun _ _ => ⟨rfl, e1, (by decide : 0 + 0 ≤ _), (by decide : 0 + 0 ≤ _)⟩)
  dsimp only [Pt.U, Pt.locs, Pt.cells, Pt.slots] at X2 l2 y2 z2 st2 hQ2
  subst l2 y2 z2
  obtain ⟨rfl, N2q, e2⟩ := hQ2
  have N_2 := Fr.app N_1 N2q
  refine own_step st2 ?_
  show own_Ends p.tables e below _ (T2.setTop (mkF m 22 #[.val (.long q0), .second, .val (.long q1), .second, .val (.long q2), .second, .val (.int p3), .val (.long v0), .second, .unset, .unset, .unset, .unset, .unset, .unset, .unset, .unset] [(.long (own_pick q0 q1 q2 ((p3.toUInt32 >>> ((2 : Int32) &&& 31).toUInt32).toInt32)))]))
  obtain ⟨v1, hv1⟩ : ∃ z, z = (own_pick q0 q1 q2 ((p3.toUInt32 >>> ((2 : Int32) &&& 31).toUInt32).toInt32)) := ⟨_, rfl⟩
  rw [← hv1]
  show own_Ends p.tables e below _ (T2.setTop (mkF m 22 #[.val (.long q0), .second, .val (.long q1), .second, .val (.long q2), .second, .val (.int p3), .val (.long v0), .second, .unset, .unset, .unset, .unset, .unset, .unset, .unset, .unset] [(.long v1)]))
  refine own_step (fun _ k => XS.lstore X2.here hx rfl (hb hby at_22) rfl (l' := #[.val (.long q0), .second, .val (.long q1), .second, .val (.long q2), .second, .val (.int p3), .val (.long v0), .second, .val (.long v1), .second, .unset, .unset, .unset, .unset, .unset, .unset]) rfl k) ?_
  show own_Ends p.tables e below _ (T2.setTop (mkF m 24 #[.val (.long q0), .second, .val (.long q1), .second, .val (.long q2), .second, .val (.int p3), .val (.long v0), .second, .val (.long v1), .second, .unset, .unset, .unset, .unset, .unset, .unset] []))
  refine own_step (fun _ k => XS.lloadN X2.here hx rfl (hb hby at_24) rfl k) ?_
  show own_Ends p.tables e below _ (T2.setTop (mkF m 25 #[.val (.long q0), .second, .val (.long q1), .second, .val (.long q2), .second, .val (.int p3), .val (.long v0), .second, .val (.long v1), .second, .unset, .unset, .unset, .unset, .unset, .unset] [(.long q0)]))
  refine own_step (fun _ k => XS.lloadN X2.here hx rfl (hb hby at_25) rfl k) ?_
  show own_Ends p.tables e below _ (T2.setTop (mkF m 26 #[.val (.long q0), .second, .val (.long q1), .second, .val (.long q2), .second, .val (.int p3), .val (.long v0), .second, .val (.long v1), .second, .unset, .unset, .unset, .unset, .unset, .unset] [(.long q1), (.long q0)]))
  refine own_step (fun _ k => XS.lload X2.here hx rfl (hb hby at_26) rfl k) ?_
  show own_Ends p.tables e below _ (T2.setTop (mkF m 28 #[.val (.long q0), .second, .val (.long q1), .second, .val (.long q2), .second, .val (.int p3), .val (.long v0), .second, .val (.long v1), .second, .unset, .unset, .unset, .unset, .unset, .unset] [(.long q2), (.long q1), (.long q0)]))
  refine own_step (fun _ k => XS.iload X2.here hx rfl (hb hby at_28) rfl k) ?_
  show own_Ends p.tables e below _ (T2.setTop (mkF m 30 #[.val (.long q0), .second, .val (.long q1), .second, .val (.long q2), .second, .val (.int p3), .val (.long v0), .second, .val (.long v1), .second, .unset, .unset, .unset, .unset, .unset, .unset] [(.int p3), (.long q2), (.long q1), (.long q0)]))
  refine own_step (fun _ k => XS.iconst X2.here hx rfl (hb hby at_30) k) ?_
  show own_Ends p.tables e below _ (T2.setTop (mkF m 31 #[.val (.long q0), .second, .val (.long q1), .second, .val (.long q2), .second, .val (.int p3), .val (.long v0), .second, .val (.long v1), .second, .unset, .unset, .unset, .unset, .unset, .unset] [(.int (4 : Int32)), (.int p3), (.long q2), (.long q1), (.long q0)]))
  refine own_step (fun _ k => XS.iushr X2.here hx rfl (hb hby at_31) rfl k) ?_
  show own_Ends p.tables e below _ (T2.setTop (mkF m 32 #[.val (.long q0), .second, .val (.long q1), .second, .val (.long q2), .second, .val (.int p3), .val (.long v0), .second, .val (.long v1), .second, .unset, .unset, .unset, .unset, .unset, .unset] [(.int ((p3.toUInt32 >>> ((4 : Int32) &&& 31).toUInt32).toInt32)), (.long q2), (.long q1), (.long q0)]))
  obtain ⟨_, _, ⟨T3, L3, k3, n3⟩, -, X3, ⟨Lc3, hQ3, l3, y3, z3⟩, st3⟩ := Jvm.LawKit.callS X2 hx (y := (⟨"com/example/restate/restate/model/LongColumnGetPinLaw", "pick", "(JJJI)J"⟩ : MethodName)) hown (mvT hZ (hw _ (List.mem_of_getElem? (i := 0) rfl))) (mvT hZ (hw _ (List.mem_of_getElem? (i := 1) rfl))) (mvT hZ (hw _ (List.mem_of_getElem? (i := 2) rfl))) (mvT hZ (hw _ (List.mem_of_getElem? (i := 3) rfl))) (by decide) (backOf (W := 0) (own_rm_pick l Z aw hw [] q0 q1 q2 ((p3.toUInt32 >>> ((4 : Int32) &&& 31).toUInt32).toInt32) h0 n0 Z0 ) hZ (hw _ (List.mem_of_getElem? (i := 3) rfl)) (hw _ (List.mem_of_getElem? (i := 2) rfl)) (by decide) (by decide)) (g := (mkF m 32 #[.val (.long q0), .second, .val (.long q1), .second, .val (.long q2), .second, .val (.int p3), .val (.long v0), .second, .val (.long v1), .second, .unset, .unset, .unset, .unset, .unset, .unset] [(.int ((p3.toUInt32 >>> ((4 : Int32) &&& 31).toUInt32).toInt32)), (.long q2), (.long q1), (.long q0)])) rfl (by rw [hml]; rfl) (argsL := [(.long q0), (.long q1), (.long q2), (.int ((p3.toUInt32 >>> ((4 : Int32) &&& 31).toUInt32).toInt32))]) (rest := []) (lenOf own_pd10 rfl) rfl (by show 2 * 0 + _ ≤ _; exact Nat.le_of_eq rfl) (hb hby at_32) (fun _ _ => ⟨rfl, e2, (by decide : 0 + 0 ≤ _), (by decide : 0 + 0 ≤ _)⟩)
  dsimp only [Pt.U, Pt.locs, Pt.cells, Pt.slots] at X3 l3 y3 z3 st3 hQ3
  subst l3 y3 z3
  obtain ⟨rfl, N3q, e3⟩ := hQ3
  have N_3 := Fr.app N_2 N3q
  refine own_step st3 ?_
  show own_Ends p.tables e below _ (T3.setTop (mkF m 35 #[.val (.long q0), .second, .val (.long q1), .second, .val (.long q2), .second, .val (.int p3), .val (.long v0), .second, .val (.long v1), .second, .unset, .unset, .unset, .unset, .unset, .unset] [(.long (own_pick q0 q1 q2 ((p3.toUInt32 >>> ((4 : Int32) &&& 31).toUInt32).toInt32)))]))
  obtain ⟨v2, hv2⟩ : ∃ z, z = (own_pick q0 q1 q2 ((p3.toUInt32 >>> ((4 : Int32) &&& 31).toUInt32).toInt32)) := ⟨_, rfl⟩
  rw [← hv2]
  show own_Ends p.tables e below _ (T3.setTop (mkF m 35 #[.val (.long q0), .second, .val (.long q1), .second, .val (.long q2), .second, .val (.int p3), .val (.long v0), .second, .val (.long v1), .second, .unset, .unset, .unset, .unset, .unset, .unset] [(.long v2)]))
  refine own_step (fun _ k => XS.lstore X3.here hx rfl (hb hby at_35) rfl (l' := #[.val (.long q0), .second, .val (.long q1), .second, .val (.long q2), .second, .val (.int p3), .val (.long v0), .second, .val (.long v1), .second, .val (.long v2), .second, .unset, .unset, .unset, .unset]) rfl k) ?_
  show own_Ends p.tables e below _ (T3.setTop (mkF m 37 #[.val (.long q0), .second, .val (.long q1), .second, .val (.long q2), .second, .val (.int p3), .val (.long v0), .second, .val (.long v1), .second, .val (.long v2), .second, .unset, .unset, .unset, .unset] []))
  refine own_step (fun _ k => XS.lloadN X3.here hx rfl (hb hby at_37) rfl k) ?_
  show own_Ends p.tables e below _ (T3.setTop (mkF m 38 #[.val (.long q0), .second, .val (.long q1), .second, .val (.long q2), .second, .val (.int p3), .val (.long v0), .second, .val (.long v1), .second, .val (.long v2), .second, .unset, .unset, .unset, .unset] [(.long q0)]))
  refine own_step (fun _ k => XS.lloadN X3.here hx rfl (hb hby at_38) rfl k) ?_
  show own_Ends p.tables e below _ (T3.setTop (mkF m 39 #[.val (.long q0), .second, .val (.long q1), .second, .val (.long q2), .second, .val (.int p3), .val (.long v0), .second, .val (.long v1), .second, .val (.long v2), .second, .unset, .unset, .unset, .unset] [(.long q1), (.long q0)]))
  refine own_step (fun _ k => XS.lload X3.here hx rfl (hb hby at_39) rfl k) ?_
  show own_Ends p.tables e below _ (T3.setTop (mkF m 41 #[.val (.long q0), .second, .val (.long q1), .second, .val (.long q2), .second, .val (.int p3), .val (.long v0), .second, .val (.long v1), .second, .val (.long v2), .second, .unset, .unset, .unset, .unset] [(.long q2), (.long q1), (.long q0)]))
  refine own_step (fun _ k => XS.iload X3.here hx rfl (hb hby at_41) rfl k) ?_
  show own_Ends p.tables e below _ (T3.setTop (mkF m 43 #[.val (.long q0), .second, .val (.long q1), .second, .val (.long q2), .second, .val (.int p3), .val (.long v0), .second, .val (.long v1), .second, .val (.long v2), .second, .unset, .unset, .unset, .unset] [(.int p3), (.long q2), (.long q1), (.long q0)]))
  refine own_step (fun _ k => XS.bipush X3.here hx rfl (hb hby at_43) k) ?_
  show own_Ends p.tables e below _ (T3.setTop (mkF m 45 #[.val (.long q0), .second, .val (.long q1), .second, .val (.long q2), .second, .val (.int p3), .val (.long v0), .second, .val (.long v1), .second, .val (.long v2), .second, .unset, .unset, .unset, .unset] [(.int (6 : Int32)), (.int p3), (.long q2), (.long q1), (.long q0)]))
  refine own_step (fun _ k => XS.iushr X3.here hx rfl (hb hby at_45) rfl k) ?_
  show own_Ends p.tables e below _ (T3.setTop (mkF m 46 #[.val (.long q0), .second, .val (.long q1), .second, .val (.long q2), .second, .val (.int p3), .val (.long v0), .second, .val (.long v1), .second, .val (.long v2), .second, .unset, .unset, .unset, .unset] [(.int ((p3.toUInt32 >>> ((6 : Int32) &&& 31).toUInt32).toInt32)), (.long q2), (.long q1), (.long q0)]))
  obtain ⟨_, _, ⟨T4, L4, k4, n4⟩, -, X4, ⟨Lc4, hQ4, l4, y4, z4⟩, st4⟩ := Jvm.LawKit.callS X3 hx (y := (⟨"com/example/restate/restate/model/LongColumnGetPinLaw", "pick", "(JJJI)J"⟩ : MethodName)) hown (mvT hZ (hw _ (List.mem_of_getElem? (i := 0) rfl))) (mvT hZ (hw _ (List.mem_of_getElem? (i := 1) rfl))) (mvT hZ (hw _ (List.mem_of_getElem? (i := 2) rfl))) (mvT hZ (hw _ (List.mem_of_getElem? (i := 3) rfl))) (by decide) (backOf (W := 0) (own_rm_pick l Z aw hw [] q0 q1 q2 ((p3.toUInt32 >>> ((6 : Int32) &&& 31).toUInt32).toInt32) h0 n0 Z0 ) hZ (hw _ (List.mem_of_getElem? (i := 3) rfl)) (hw _ (List.mem_of_getElem? (i := 2) rfl)) (by decide) (by decide)) (g := (mkF m 46 #[.val (.long q0), .second, .val (.long q1), .second, .val (.long q2), .second, .val (.int p3), .val (.long v0), .second, .val (.long v1), .second, .val (.long v2), .second, .unset, .unset, .unset, .unset] [(.int ((p3.toUInt32 >>> ((6 : Int32) &&& 31).toUInt32).toInt32)), (.long q2), (.long q1), (.long q0)])) rfl (by rw [hml]; rfl) (argsL := [(.long q0), (.long q1), (.long q2), (.int ((p3.toUInt32 >>> ((6 : Int32) &&& 31).toUInt32).toInt32))]) (rest := []) (lenOf own_pd10 rfl) rfl (by show 2 * 0 + _ ≤ _; exact Nat.le_of_eq rfl) (hb hby at_46) (fun _ _ => ⟨rfl, e3, (by decide : 0 + 0 ≤ _), (by decide : 0 + 0 ≤ _)⟩)
  dsimp only [Pt.U, Pt.locs, Pt.cells, Pt.slots] at X4 l4 y4 z4 st4 hQ4
  subst l4 y4 z4
  obtain ⟨rfl, N4q, e4⟩ := hQ4
  have N_4 := Fr.app N_3 N4q
  refine own_step st4 ?_
  show own_Ends p.tables e below _ (T4.setTop (mkF m 49 #[.val (.long q0), .second, .val (.long q1), .second, .val (.long q2), .second, .val (.int p3), .val (.long v0), .second, .val (.long v1), .second, .val (.long v2), .second, .unset, .unset, .unset, .unset] [(.long (own_pick q0 q1 q2 ((p3.toUInt32 >>> ((6 : Int32) &&& 31).toUInt32).toInt32)))]))
  obtain ⟨v3, hv3⟩ : ∃ z, z = (own_pick q0 q1 q2 ((p3.toUInt32 >>> ((6 : Int32) &&& 31).toUInt32).toInt32)) := ⟨_, rfl⟩
  rw [← hv3]
  show own_Ends p.tables e below _ (T4.setTop (mkF m 49 #[.val (.long q0), .second, .val (.long q1), .second, .val (.long q2), .second, .val (.int p3), .val (.long v0), .second, .val (.long v1), .second, .val (.long v2), .second, .unset, .unset, .unset, .unset] [(.long v3)]))
  refine own_step (fun _ k => XS.lstore X4.here hx rfl (hb hby at_49) rfl (l' := #[.val (.long q0), .second, .val (.long q1), .second, .val (.long q2), .second, .val (.int p3), .val (.long v0), .second, .val (.long v1), .second, .val (.long v2), .second, .val (.long v3), .second, .unset, .unset]) rfl k) ?_
  show own_Ends p.tables e below _ (T4.setTop (mkF m 51 #[.val (.long q0), .second, .val (.long q1), .second, .val (.long q2), .second, .val (.int p3), .val (.long v0), .second, .val (.long v1), .second, .val (.long v2), .second, .val (.long v3), .second, .unset, .unset] []))
  obtain ⟨T5, h5, X5, e5, E5, A5, D5, -, st5⟩ := newO X4 hx hZ hown (hw _ (List.mem_of_getElem? (i := 4) rfl)) (hw _ (List.mem_of_getElem? (i := 5) rfl)) (hw _ (List.mem_of_getElem? (i := 6) rfl)) e4 (g := (mkF m 51 #[.val (.long q0), .second, .val (.long q1), .second, .val (.long q2), .second, .val (.int p3), .val (.long v0), .second, .val (.long v1), .second, .val (.long v2), .second, .val (.long v3), .second, .unset, .unset] [])) rfl (hb hby at_51) (by decide) (by decide)
  obtain ⟨b5, g5⟩ : ∃ z, z = h0.size := ⟨_, rfl⟩
  rw [← g5] at A5 D5 st5
  refine own_step st5 ?_
  have g_b5 : n0 ≤ b5 := Nat.le_trans Z0 (Nat.le_of_eq g5.symm)
  have sz_b5 : h0.size ≤ b5 := Nat.le_trans K0.1 (Nat.le_of_eq g5.symm)
  have K_5 : Keep h0 h5 [] := K0.ext E5
  have Z_5 : n0 ≤ h5.size := Nat.le_trans Z0 E5.1
  have F_ints_b5 : Fld Z h5 b5 "com/example/restate/restate/model/LongColumn" "ints" "[I" .null := D5 (Or.inl (hw _ (List.mem_of_getElem? (i := 19) rfl))) (ty := (.array .int)) (by decide)
  have F_longs_b5 : Fld Z h5 b5 "com/example/restate/restate/model/LongColumn" "longs" "[J" .null := D5 (Or.inl (hw _ (List.mem_of_getElem? (i := 21) rfl))) (ty := (.array .long)) (by decide)
  have F_size_b5 : Fld Z h5 b5 "com/example/restate/restate/model/LongColumn" "size" "I" (.int (0 : Int32)) := D5 (Or.inl (hw _ (List.mem_of_getElem? (i := 23) rfl))) (ty := .int) (by decide)
  have F_shared_b5 : Fld Z h5 b5 "com/example/restate/restate/model/LongColumn" "shared" "J" (.long (0 : Int64)) := D5 (Or.inl (hw _ (List.mem_of_getElem? (i := 25) rfl))) (ty := .long) (by decide)
  show own_Ends p.tables e below _ (T5.setTop (mkF m 54 #[.val (.long q0), .second, .val (.long q1), .second, .val (.long q2), .second, .val (.int p3), .val (.long v0), .second, .val (.long v1), .second, .val (.long v2), .second, .val (.long v3), .second, .unset, .unset] [(.ref b5)]))
  refine own_step (fun _ k => XS.dup X5.here hx rfl (hb hby at_54) rfl rfl k) ?_
  show own_Ends p.tables e below _ (T5.setTop (mkF m 55 #[.val (.long q0), .second, .val (.long q1), .second, .val (.long q2), .second, .val (.int p3), .val (.long v0), .second, .val (.long v1), .second, .val (.long v2), .second, .val (.long v3), .second, .unset, .unset] [(.ref b5), (.ref b5)]))
  obtain ⟨_, _, ⟨T6, L6, k6, n6⟩, -, X6, ⟨Lc6, hQ6, l6, y6, z6⟩, st6⟩ := X5.specialBack hx (y := (⟨"com/example/restate/restate/model/LongColumn", "<init>", "()V"⟩ : MethodName)) rfl hown (mvT hZ (hw _ (List.mem_of_getElem? (i := 7) rfl))) (mvT hZ (hw _ (List.mem_of_getElem? (i := 8) rfl))) (mvT hZ (hw _ (List.mem_of_getElem? (i := 9) rfl))) (by decide) (backOf (W := 1) (own_rm_init l Z aw hw [] b5 h5 n0 Z_5 ) hZ (hw _ (List.mem_of_getElem? (i := 9) rfl)) (hw _ (List.mem_of_getElem? (i := 6) rfl)) (by decide) (by decide)) (g := (mkF m 55 #[.val (.long q0), .second, .val (.long q1), .second, .val (.long q2), .second, .val (.int p3), .val (.long v0), .second, .val (.long v1), .second, .val (.long v2), .second, .val (.long v3), .second, .unset, .unset] [(.ref b5), (.ref b5)])) rfl (by rw [hml]; rfl) (Steps.refl _) (a := b5) (argsL := []) (rest := [(.ref b5)]) (lenOf own_pd1 rfl) rfl (by show 2 * 0 + _ ≤ _; exact Nat.le_of_eq rfl) (hb hby at_55) (fun _ _ => ⟨rfl, e5, (by decide : 1 + 0 ≤ _), (by decide : 4 + 0 ≤ _)⟩)
  dsimp only [Pt.U, Pt.locs, Pt.cells, Pt.slots] at X6 l6 y6 z6 st6 hQ6
  subst l6 y6 z6
  obtain ⟨rfl, N6q, e6⟩ := hQ6
  have N_6 := Fr.app N_4 N6q
  have C_0 : own_Col Z h5 b5 n0 [] := own_mk_nil A5 F_size_b5 F_shared_b5 F_ints_b5 F_longs_b5
  refine own_step (fun _ k => st6.trans k) ?_
  show own_Ends p.tables e below _ (T6.setTop (mkF m 58 #[.val (.long q0), .second, .val (.long q1), .second, .val (.long q2), .second, .val (.int p3), .val (.long v0), .second, .val (.long v1), .second, .val (.long v2), .second, .val (.long v3), .second, .unset, .unset] [(.ref b5)]))
  refine own_step (fun _ k => XS.astore X6.here hx rfl (hb hby at_58) rfl rfl (l' := #[.val (.long q0), .second, .val (.long q1), .second, .val (.long q2), .second, .val (.int p3), .val (.long v0), .second, .val (.long v1), .second, .val (.long v2), .second, .val (.long v3), .second, .val (.ref b5), .unset]) rfl k) ?_
  show own_Ends p.tables e below _ (T6.setTop (mkF m 60 #[.val (.long q0), .second, .val (.long q1), .second, .val (.long q2), .second, .val (.int p3), .val (.long v0), .second, .val (.long v1), .second, .val (.long v2), .second, .val (.long v3), .second, .val (.ref b5), .unset] []))
  refine own_step (fun _ k => XS.aload X6.here hx rfl (hb hby at_60) rfl rfl k) ?_
  show own_Ends p.tables e below _ (T6.setTop (mkF m 62 #[.val (.long q0), .second, .val (.long q1), .second, .val (.long q2), .second, .val (.int p3), .val (.long v0), .second, .val (.long v1), .second, .val (.long v2), .second, .val (.long v3), .second, .val (.ref b5), .unset] [(.ref b5)]))
  refine own_step (fun _ k => XS.lload X6.here hx rfl (hb hby at_62) rfl k) ?_
  show own_Ends p.tables e below _ (T6.setTop (mkF m 64 #[.val (.long q0), .second, .val (.long q1), .second, .val (.long q2), .second, .val (.int p3), .val (.long v0), .second, .val (.long v1), .second, .val (.long v2), .second, .val (.long v3), .second, .val (.ref b5), .unset] [(.long v0), (.ref b5)]))
  obtain ⟨cq7, kq7, q7a, q7b, q7c⟩ := isOf hZ e6 A5
  obtain ⟨_, _, ⟨T7, L7, k7, n7⟩, -, X7, ⟨Lc7, hQ7, l7, y7, z7⟩, st7⟩ := X6.virtualBack hx (y := (⟨"com/example/restate/restate/model/LongColumn", "add", "(J)V"⟩ : MethodName)) (z := (⟨"com/example/restate/restate/model/LongColumn", "add", "(J)V"⟩ : MethodName)) hown (mvT hZ (hw _ (List.mem_of_getElem? (i := 13) rfl))) (mvT hZ (hw _ (List.mem_of_getElem? (i := 14) rfl))) (notFace_of_selects (args := #[]) (mvT hZ (hw _ (List.mem_of_getElem? (i := 16) rfl)))) (mvT hZ (hw _ (List.mem_of_getElem? (i := 16) rfl))) (mvT hZ (hw _ (List.mem_of_getElem? (i := 15) rfl))) (by decide) (backOf (W := 0) (own_rm_add l Z aw hw [] b5 v0 [] h5 n0 Z_5 C_0 g_b5 (by simp)) hZ (hw _ (List.mem_of_getElem? (i := 17) rfl)) (hw _ (List.mem_of_getElem? (i := 6) rfl)) (by decide) (by decide)) q7a q7c (g := (mkF m 64 #[.val (.long q0), .second, .val (.long q1), .second, .val (.long q2), .second, .val (.int p3), .val (.long v0), .second, .val (.long v1), .second, .val (.long v2), .second, .val (.long v3), .second, .val (.ref b5), .unset] [(.long v0), (.ref b5)])) rfl (by rw [hml]; rfl) (Steps.refl _) (argsL := [(.long v0)]) (rest := []) (lenOf own_pd9 rfl) rfl (by show 2 * 0 + _ ≤ _; exact Nat.le_of_eq rfl) (hb hby at_64) (fun _ _ => ⟨rfl, e6, (by decide : 1 + 1 ≤ _), (by decide : 4 + 16 ≤ _)⟩)
  dsimp only [Pt.U, Pt.locs, Pt.cells, Pt.slots] at X7 l7 y7 z7 st7 hQ7
  subst l7 y7 z7
  obtain ⟨rfl, N7q, kz7, C_7⟩ := hQ7
  have N_7 := Fr.app N_6 N7q
  have Z_7 : n0 ≤ T7.heap.size := Nat.le_trans Z_5 kz7
  refine own_step (fun _ k => st7.trans k) ?_
  show own_Ends p.tables e below _ (T7.setTop (mkF m 67 #[.val (.long q0), .second, .val (.long q1), .second, .val (.long q2), .second, .val (.int p3), .val (.long v0), .second, .val (.long v1), .second, .val (.long v2), .second, .val (.long v3), .second, .val (.ref b5), .unset] []))
  refine own_step (fun _ k => XS.aload X7.here hx rfl (hb hby at_67) rfl rfl k) ?_
  show own_Ends p.tables e below _ (T7.setTop (mkF m 69 #[.val (.long q0), .second, .val (.long q1), .second, .val (.long q2), .second, .val (.int p3), .val (.long v0), .second, .val (.long v1), .second, .val (.long v2), .second, .val (.long v3), .second, .val (.ref b5), .unset] [(.ref b5)]))
  refine own_step (fun _ k => XS.lload X7.here hx rfl (hb hby at_69) rfl k) ?_
  show own_Ends p.tables e below _ (T7.setTop (mkF m 71 #[.val (.long q0), .second, .val (.long q1), .second, .val (.long q2), .second, .val (.int p3), .val (.long v0), .second, .val (.long v1), .second, .val (.long v2), .second, .val (.long v3), .second, .val (.ref b5), .unset] [(.long v1), (.ref b5)]))
  obtain ⟨cq8, kq8, q8a, q8b, q8c⟩ := isOf hZ rfl C_7.1
  obtain ⟨_, _, ⟨T8, L8, k8, n8⟩, -, X8, ⟨Lc8, hQ8, l8, y8, z8⟩, st8⟩ := X7.virtualBack hx (y := (⟨"com/example/restate/restate/model/LongColumn", "add", "(J)V"⟩ : MethodName)) (z := (⟨"com/example/restate/restate/model/LongColumn", "add", "(J)V"⟩ : MethodName)) hown (mvT hZ (hw _ (List.mem_of_getElem? (i := 13) rfl))) (mvT hZ (hw _ (List.mem_of_getElem? (i := 14) rfl))) (notFace_of_selects (args := #[]) (mvT hZ (hw _ (List.mem_of_getElem? (i := 16) rfl)))) (mvT hZ (hw _ (List.mem_of_getElem? (i := 16) rfl))) (mvT hZ (hw _ (List.mem_of_getElem? (i := 15) rfl))) (by decide) (backOf (W := 0) (own_rm_add l Z aw hw [] b5 v1 ([] ++ [v0]) T7.heap n0 Z_7 C_7 g_b5 (by simp)) hZ (hw _ (List.mem_of_getElem? (i := 17) rfl)) (hw _ (List.mem_of_getElem? (i := 6) rfl)) (by decide) (by decide)) q8a q8c (g := (mkF m 71 #[.val (.long q0), .second, .val (.long q1), .second, .val (.long q2), .second, .val (.int p3), .val (.long v0), .second, .val (.long v1), .second, .val (.long v2), .second, .val (.long v3), .second, .val (.ref b5), .unset] [(.long v1), (.ref b5)])) rfl (by rw [hml]; rfl) (Steps.refl _) (argsL := [(.long v1)]) (rest := []) (lenOf own_pd9 rfl) rfl (by show 2 * 0 + _ ≤ _; exact Nat.le_of_eq rfl) (hb hby at_71) (fun _ _ => ⟨rfl, rfl, (by decide : 2 + 1 ≤ _), (by decide : 20 + 16 ≤ _)⟩)
  dsimp only [Pt.U, Pt.locs, Pt.cells, Pt.slots] at X8 l8 y8 z8 st8 hQ8
  subst l8 y8 z8
  obtain ⟨rfl, N8q, kz8, C_8⟩ := hQ8
  have N_8 := Fr.app N_7 N8q
  have Z_8 : n0 ≤ T8.heap.size := Nat.le_trans Z_7 kz8
  refine own_step (fun _ k => st8.trans k) ?_
  show own_Ends p.tables e below _ (T8.setTop (mkF m 74 #[.val (.long q0), .second, .val (.long q1), .second, .val (.long q2), .second, .val (.int p3), .val (.long v0), .second, .val (.long v1), .second, .val (.long v2), .second, .val (.long v3), .second, .val (.ref b5), .unset] []))
  refine own_step (fun _ k => XS.aload X8.here hx rfl (hb hby at_74) rfl rfl k) ?_
  show own_Ends p.tables e below _ (T8.setTop (mkF m 76 #[.val (.long q0), .second, .val (.long q1), .second, .val (.long q2), .second, .val (.int p3), .val (.long v0), .second, .val (.long v1), .second, .val (.long v2), .second, .val (.long v3), .second, .val (.ref b5), .unset] [(.ref b5)]))
  refine own_step (fun _ k => XS.lload X8.here hx rfl (hb hby at_76) rfl k) ?_
  show own_Ends p.tables e below _ (T8.setTop (mkF m 78 #[.val (.long q0), .second, .val (.long q1), .second, .val (.long q2), .second, .val (.int p3), .val (.long v0), .second, .val (.long v1), .second, .val (.long v2), .second, .val (.long v3), .second, .val (.ref b5), .unset] [(.long v2), (.ref b5)]))
  obtain ⟨cq9, kq9, q9a, q9b, q9c⟩ := isOf hZ rfl C_8.1
  obtain ⟨_, _, ⟨T9, L9, k9, n9⟩, -, X9, ⟨Lc9, hQ9, l9, y9, z9⟩, st9⟩ := X8.virtualBack hx (y := (⟨"com/example/restate/restate/model/LongColumn", "add", "(J)V"⟩ : MethodName)) (z := (⟨"com/example/restate/restate/model/LongColumn", "add", "(J)V"⟩ : MethodName)) hown (mvT hZ (hw _ (List.mem_of_getElem? (i := 13) rfl))) (mvT hZ (hw _ (List.mem_of_getElem? (i := 14) rfl))) (notFace_of_selects (args := #[]) (mvT hZ (hw _ (List.mem_of_getElem? (i := 16) rfl)))) (mvT hZ (hw _ (List.mem_of_getElem? (i := 16) rfl))) (mvT hZ (hw _ (List.mem_of_getElem? (i := 15) rfl))) (by decide) (backOf (W := 0) (own_rm_add l Z aw hw [] b5 v2 (([] ++ [v0]) ++ [v1]) T8.heap n0 Z_8 C_8 g_b5 (by simp)) hZ (hw _ (List.mem_of_getElem? (i := 17) rfl)) (hw _ (List.mem_of_getElem? (i := 6) rfl)) (by decide) (by decide)) q9a q9c (g := (mkF m 78 #[.val (.long q0), .second, .val (.long q1), .second, .val (.long q2), .second, .val (.int p3), .val (.long v0), .second, .val (.long v1), .second, .val (.long v2), .second, .val (.long v3), .second, .val (.ref b5), .unset] [(.long v2), (.ref b5)])) rfl (by rw [hml]; rfl) (Steps.refl _) (argsL := [(.long v2)]) (rest := []) (lenOf own_pd9 rfl) rfl (by show 2 * 0 + _ ≤ _; exact Nat.le_of_eq rfl) (hb hby at_78) (fun _ _ => ⟨rfl, rfl, (by decide : 3 + 1 ≤ _), (by decide : 36 + 16 ≤ _)⟩)
  dsimp only [Pt.U, Pt.locs, Pt.cells, Pt.slots] at X9 l9 y9 z9 st9 hQ9
  subst l9 y9 z9
  obtain ⟨rfl, N9q, kz9, C_9⟩ := hQ9
  have N_9 := Fr.app N_8 N9q
  have Z_9 : n0 ≤ T9.heap.size := Nat.le_trans Z_8 kz9
  refine own_step (fun _ k => st9.trans k) ?_
  show own_Ends p.tables e below _ (T9.setTop (mkF m 81 #[.val (.long q0), .second, .val (.long q1), .second, .val (.long q2), .second, .val (.int p3), .val (.long v0), .second, .val (.long v1), .second, .val (.long v2), .second, .val (.long v3), .second, .val (.ref b5), .unset] []))
  refine own_step (fun _ k => XS.aload X9.here hx rfl (hb hby at_81) rfl rfl k) ?_
  show own_Ends p.tables e below _ (T9.setTop (mkF m 83 #[.val (.long q0), .second, .val (.long q1), .second, .val (.long q2), .second, .val (.int p3), .val (.long v0), .second, .val (.long v1), .second, .val (.long v2), .second, .val (.long v3), .second, .val (.ref b5), .unset] [(.ref b5)]))
  refine own_step (fun _ k => XS.lload X9.here hx rfl (hb hby at_83) rfl k) ?_
  show own_Ends p.tables e below _ (T9.setTop (mkF m 85 #[.val (.long q0), .second, .val (.long q1), .second, .val (.long q2), .second, .val (.int p3), .val (.long v0), .second, .val (.long v1), .second, .val (.long v2), .second, .val (.long v3), .second, .val (.ref b5), .unset] [(.long v3), (.ref b5)]))
  obtain ⟨cq10, kq10, q10a, q10b, q10c⟩ := isOf hZ rfl C_9.1
  obtain ⟨_, _, ⟨T10, L10, k10, n10⟩, -, X10, ⟨Lc10, hQ10, l10, y10, z10⟩, st10⟩ := X9.virtualBack hx (y := (⟨"com/example/restate/restate/model/LongColumn", "add", "(J)V"⟩ : MethodName)) (z := (⟨"com/example/restate/restate/model/LongColumn", "add", "(J)V"⟩ : MethodName)) hown (mvT hZ (hw _ (List.mem_of_getElem? (i := 13) rfl))) (mvT hZ (hw _ (List.mem_of_getElem? (i := 14) rfl))) (notFace_of_selects (args := #[]) (mvT hZ (hw _ (List.mem_of_getElem? (i := 16) rfl)))) (mvT hZ (hw _ (List.mem_of_getElem? (i := 16) rfl))) (mvT hZ (hw _ (List.mem_of_getElem? (i := 15) rfl))) (by decide) (backOf (W := 0) (own_rm_add l Z aw hw [] b5 v3 ((([] ++ [v0]) ++ [v1]) ++ [v2]) T9.heap n0 Z_9 C_9 g_b5 (by simp)) hZ (hw _ (List.mem_of_getElem? (i := 17) rfl)) (hw _ (List.mem_of_getElem? (i := 6) rfl)) (by decide) (by decide)) q10a q10c (g := (mkF m 85 #[.val (.long q0), .second, .val (.long q1), .second, .val (.long q2), .second, .val (.int p3), .val (.long v0), .second, .val (.long v1), .second, .val (.long v2), .second, .val (.long v3), .second, .val (.ref b5), .unset] [(.long v3), (.ref b5)])) rfl (by rw [hml]; rfl) (Steps.refl _) (argsL := [(.long v3)]) (rest := []) (lenOf own_pd9 rfl) rfl (by show 2 * 0 + _ ≤ _; exact Nat.le_of_eq rfl) (hb hby at_85) (fun _ _ => ⟨rfl, rfl, (by decide : 4 + 1 ≤ _), (by decide : 52 + 16 ≤ _)⟩)
  dsimp only [Pt.U, Pt.locs, Pt.cells, Pt.slots] at X10 l10 y10 z10 st10 hQ10
  subst l10 y10 z10
  obtain ⟨rfl, N10q, kz10, C_10⟩ := hQ10
  have N_10 := Fr.app N_9 N10q
  have Z_10 : n0 ≤ T10.heap.size := Nat.le_trans Z_9 kz10
  refine own_step (fun _ k => st10.trans k) ?_
  show own_Ends p.tables e below _ (T10.setTop (mkF m 88 #[.val (.long q0), .second, .val (.long q1), .second, .val (.long q2), .second, .val (.int p3), .val (.long v0), .second, .val (.long v1), .second, .val (.long v2), .second, .val (.long v3), .second, .val (.ref b5), .unset] []))
  refine own_step (fun _ k => XS.aload X10.here hx rfl (hb hby at_88) rfl rfl k) ?_
  show own_Ends p.tables e below _ (T10.setTop (mkF m 90 #[.val (.long q0), .second, .val (.long q1), .second, .val (.long q2), .second, .val (.int p3), .val (.long v0), .second, .val (.long v1), .second, .val (.long v2), .second, .val (.long v3), .second, .val (.ref b5), .unset] [(.ref b5)]))
  obtain ⟨cq11, kq11, q11a, q11b, q11c⟩ := isOf hZ rfl C_10.1
  obtain ⟨_, _, ⟨T11, L11, k11, n11⟩, -, X11, ⟨Lc11, hQ11, l11, y11, z11⟩, st11⟩ := X10.virtualBack hx (y := (⟨"com/example/restate/restate/model/LongColumn", "size", "()I"⟩ : MethodName)) (z := (⟨"com/example/restate/restate/model/LongColumn", "size", "()I"⟩ : MethodName)) hown (mvT hZ (hw _ (List.mem_of_getElem? (i := 51) rfl))) (mvT hZ (hw _ (List.mem_of_getElem? (i := 52) rfl))) (notFace_of_selects (args := #[]) (mvT hZ (hw _ (List.mem_of_getElem? (i := 54) rfl)))) (mvT hZ (hw _ (List.mem_of_getElem? (i := 54) rfl))) (mvT hZ (hw _ (List.mem_of_getElem? (i := 53) rfl))) (by decide) (backOf (W := 0) (own_rm_size l Z aw hw [] b5 (Int32.ofNat (((([] ++ [v0]) ++ [v1]) ++ [v2]) ++ [v3]).length) T10.heap n0 Z_10 C_10.2.1) hZ (hw _ (List.mem_of_getElem? (i := 55) rfl)) (hw _ (List.mem_of_getElem? (i := 6) rfl)) (by decide) (by decide)) q11a q11c (g := (mkF m 90 #[.val (.long q0), .second, .val (.long q1), .second, .val (.long q2), .second, .val (.int p3), .val (.long v0), .second, .val (.long v1), .second, .val (.long v2), .second, .val (.long v3), .second, .val (.ref b5), .unset] [(.ref b5)])) rfl (by rw [hml]; rfl) (Steps.refl _) (argsL := []) (rest := []) (lenOf own_pd11 rfl) rfl (by show 2 * 0 + _ ≤ _; exact Nat.le_of_eq rfl) (hb hby at_90) (fun _ _ => ⟨rfl, rfl, (by decide : 5 + 0 ≤ _), (by decide : 68 + 0 ≤ _)⟩)
  dsimp only [Pt.U, Pt.locs, Pt.cells, Pt.slots] at X11 l11 y11 z11 st11 hQ11
  subst l11 y11 z11
  obtain ⟨rfl, N11q, e11⟩ := hQ11
  have N_11 := Fr.app N_10 N11q
  refine own_step (fun _ k => st11.trans k) ?_
  show own_Ends p.tables e below _ (T11.setTop (mkF m 93 #[.val (.long q0), .second, .val (.long q1), .second, .val (.long q2), .second, .val (.int p3), .val (.long v0), .second, .val (.long v1), .second, .val (.long v2), .second, .val (.long v3), .second, .val (.ref b5), .unset] [(.int (Int32.ofNat (((([] ++ [v0]) ++ [v1]) ++ [v2]) ++ [v3]).length))]))
  refine own_step (fun _ k => XS.iconst X11.here hx rfl (hb hby at_93) k) ?_
  show own_Ends p.tables e below _ (T11.setTop (mkF m 94 #[.val (.long q0), .second, .val (.long q1), .second, .val (.long q2), .second, .val (.int p3), .val (.long v0), .second, .val (.long v1), .second, .val (.long v2), .second, .val (.long v3), .second, .val (.ref b5), .unset] [(.int (4 : Int32)), (.int (Int32.ofNat (((([] ++ [v0]) ++ [v1]) ++ [v2]) ++ [v3]).length))]))
  refine own_step (fun _ k => XS.icmpNo X11.here hx rfl (hb hby at_94) rfl (teq rfl).2 k) ?_
  show own_Ends p.tables e below _ (T11.setTop (mkF m 97 #[.val (.long q0), .second, .val (.long q1), .second, .val (.long q2), .second, .val (.int p3), .val (.long v0), .second, .val (.long v1), .second, .val (.long v2), .second, .val (.long v3), .second, .val (.ref b5), .unset] []))
  refine own_step (fun _ k => XS.iconst X11.here hx rfl (hb hby at_97) k) ?_
  show own_Ends p.tables e below _ (T11.setTop (mkF m 98 #[.val (.long q0), .second, .val (.long q1), .second, .val (.long q2), .second, .val (.int p3), .val (.long v0), .second, .val (.long v1), .second, .val (.long v2), .second, .val (.long v3), .second, .val (.ref b5), .unset] [(.int (1 : Int32))]))
  refine own_step (fun _ k => XS.goto X11.here hx rfl (pc0 := 98) (pc' := 102) rfl (hb hby at_98) (by decide) (by decide) k) ?_
  show own_Ends p.tables e below _ (T11.setTop (mkF m 102 #[.val (.long q0), .second, .val (.long q1), .second, .val (.long q2), .second, .val (.int p3), .val (.long v0), .second, .val (.long v1), .second, .val (.long v2), .second, .val (.long v3), .second, .val (.ref b5), .unset] [(.int (1 : Int32))]))
  refine own_step (fun _ k => XS.istore X11.here hx rfl (hb hby at_102) rfl (l' := #[.val (.long q0), .second, .val (.long q1), .second, .val (.long q2), .second, .val (.int p3), .val (.long v0), .second, .val (.long v1), .second, .val (.long v2), .second, .val (.long v3), .second, .val (.ref b5), .val (.int (1 : Int32))]) rfl k) ?_
  show own_Ends p.tables e below _ (T11.setTop (mkF m 104 #[.val (.long q0), .second, .val (.long q1), .second, .val (.long q2), .second, .val (.int p3), .val (.long v0), .second, .val (.long v1), .second, .val (.long v2), .second, .val (.long v3), .second, .val (.ref b5), .val (.int (1 : Int32))] []))
  refine own_step (fun _ k => XS.iload X11.here hx rfl (hb hby at_104) rfl k) ?_
  show own_Ends p.tables e below _ (T11.setTop (mkF m 106 #[.val (.long q0), .second, .val (.long q1), .second, .val (.long q2), .second, .val (.int p3), .val (.long v0), .second, .val (.long v1), .second, .val (.long v2), .second, .val (.long v3), .second, .val (.ref b5), .val (.int (1 : Int32))] [(.int (1 : Int32))]))
  refine own_step (fun _ k => XS.ifNo X11.here hx rfl (hb hby at_106) rfl ((if0 _ _).trans (feq (by decide)).1) k) ?_
  show own_Ends p.tables e below _ (T11.setTop (mkF m 109 #[.val (.long q0), .second, .val (.long q1), .second, .val (.long q2), .second, .val (.int p3), .val (.long v0), .second, .val (.long v1), .second, .val (.long v2), .second, .val (.long v3), .second, .val (.ref b5), .val (.int (1 : Int32))] []))
  refine own_step (fun _ k => XS.aload X11.here hx rfl (hb hby at_109) rfl rfl k) ?_
  show own_Ends p.tables e below _ (T11.setTop (mkF m 111 #[.val (.long q0), .second, .val (.long q1), .second, .val (.long q2), .second, .val (.int p3), .val (.long v0), .second, .val (.long v1), .second, .val (.long v2), .second, .val (.long v3), .second, .val (.ref b5), .val (.int (1 : Int32))] [(.ref b5)]))
  refine own_step (fun _ k => XS.iconst X11.here hx rfl (hb hby at_111) k) ?_
  show own_Ends p.tables e below _ (T11.setTop (mkF m 112 #[.val (.long q0), .second, .val (.long q1), .second, .val (.long q2), .second, .val (.int p3), .val (.long v0), .second, .val (.long v1), .second, .val (.long v2), .second, .val (.long v3), .second, .val (.ref b5), .val (.int (1 : Int32))] [(.int (0 : Int32)), (.ref b5)]))
  obtain ⟨cq12, kq12, q12a, q12b, q12c⟩ := isOf hZ e11 C_10.1
  obtain ⟨_, _, ⟨T12, L12, k12, n12⟩, -, X12, ⟨Lc12, hQ12, l12, y12, z12⟩, st12⟩ := X11.virtualBack hx (y := (⟨"com/example/restate/restate/model/LongColumn", "get", "(I)J"⟩ : MethodName)) (z := (⟨"com/example/restate/restate/model/LongColumn", "get", "(I)J"⟩ : MethodName)) hown (mvT hZ (hw _ (List.mem_of_getElem? (i := 56) rfl))) (mvT hZ (hw _ (List.mem_of_getElem? (i := 47) rfl))) (notFace_of_selects (args := #[]) (mvT hZ (hw _ (List.mem_of_getElem? (i := 49) rfl)))) (mvT hZ (hw _ (List.mem_of_getElem? (i := 49) rfl))) (mvT hZ (hw _ (List.mem_of_getElem? (i := 48) rfl))) (by decide) (backOf (W := 0) (own_rm_get l Z aw hw [] b5 0 (((([] ++ [v0]) ++ [v1]) ++ [v2]) ++ [v3]) T10.heap n0 Z_10 C_10 (by simp) (by decide)) hZ (hw _ (List.mem_of_getElem? (i := 50) rfl)) (hw _ (List.mem_of_getElem? (i := 6) rfl)) (by decide) (by decide)) q12a q12c (g := (mkF m 112 #[.val (.long q0), .second, .val (.long q1), .second, .val (.long q2), .second, .val (.int p3), .val (.long v0), .second, .val (.long v1), .second, .val (.long v2), .second, .val (.long v3), .second, .val (.ref b5), .val (.int (1 : Int32))] [(.int (0 : Int32)), (.ref b5)])) rfl (by rw [hml]; rfl) (Steps.refl _) (argsL := [(.int (0 : Int32))]) (rest := []) (lenOf own_pd6 rfl) rfl (by show 2 * 0 + _ ≤ _; exact Nat.le_of_eq rfl) (hb hby at_112) (fun _ _ => ⟨rfl, e11, (by decide : 5 + 0 ≤ _), (by decide : 68 + 0 ≤ _)⟩)
  dsimp only [Pt.U, Pt.locs, Pt.cells, Pt.slots] at X12 l12 y12 z12 st12 hQ12
  subst l12 y12 z12
  obtain ⟨rfl, N12q, e12⟩ := hQ12
  have N_12 := Fr.app N_11 N12q
  refine own_step (fun _ k => st12.trans k) ?_
  show own_Ends p.tables e below _ (T12.setTop (mkF m 115 #[.val (.long q0), .second, .val (.long q1), .second, .val (.long q2), .second, .val (.int p3), .val (.long v0), .second, .val (.long v1), .second, .val (.long v2), .second, .val (.long v3), .second, .val (.ref b5), .val (.int (1 : Int32))] [(.long v0)]))
  refine own_step (fun _ k => XS.lload X12.here hx rfl (hb hby at_115) rfl k) ?_
  show own_Ends p.tables e below _ (T12.setTop (mkF m 117 #[.val (.long q0), .second, .val (.long q1), .second, .val (.long q2), .second, .val (.int p3), .val (.long v0), .second, .val (.long v1), .second, .val (.long v2), .second, .val (.long v3), .second, .val (.ref b5), .val (.int (1 : Int32))] [(.long v0), (.long v0)]))
  refine own_step (fun _ k => XS.lcmp X12.here hx rfl (hb hby at_117) rfl k) ?_
  show own_Ends p.tables e below _ (T12.setTop (mkF m 118 #[.val (.long q0), .second, .val (.long q1), .second, .val (.long q2), .second, .val (.int p3), .val (.long v0), .second, .val (.long v1), .second, .val (.long v2), .second, .val (.long v3), .second, .val (.ref b5), .val (.int (1 : Int32))] [(.int (lcmpW v0 v0))]))
  refine own_step (fun _ k => XS.ifNo X12.here hx rfl (hb hby at_118) rfl ((if0 _ _).trans (teq ((own_lc_eq _ _).mpr rfl)).2) k) ?_
  show own_Ends p.tables e below _ (T12.setTop (mkF m 121 #[.val (.long q0), .second, .val (.long q1), .second, .val (.long q2), .second, .val (.int p3), .val (.long v0), .second, .val (.long v1), .second, .val (.long v2), .second, .val (.long v3), .second, .val (.ref b5), .val (.int (1 : Int32))] []))
  refine own_step (fun _ k => XS.iconst X12.here hx rfl (hb hby at_121) k) ?_
  show own_Ends p.tables e below _ (T12.setTop (mkF m 122 #[.val (.long q0), .second, .val (.long q1), .second, .val (.long q2), .second, .val (.int p3), .val (.long v0), .second, .val (.long v1), .second, .val (.long v2), .second, .val (.long v3), .second, .val (.ref b5), .val (.int (1 : Int32))] [(.int (1 : Int32))]))
  refine own_step (fun _ k => XS.goto X12.here hx rfl (pc0 := 122) (pc' := 126) rfl (hb hby at_122) (by decide) (by decide) k) ?_
  show own_Ends p.tables e below _ (T12.setTop (mkF m 126 #[.val (.long q0), .second, .val (.long q1), .second, .val (.long q2), .second, .val (.int p3), .val (.long v0), .second, .val (.long v1), .second, .val (.long v2), .second, .val (.long v3), .second, .val (.ref b5), .val (.int (1 : Int32))] [(.int (1 : Int32))]))
  refine own_step (fun _ k => XS.istore X12.here hx rfl (hb hby at_126) rfl (l' := #[.val (.long q0), .second, .val (.long q1), .second, .val (.long q2), .second, .val (.int p3), .val (.long v0), .second, .val (.long v1), .second, .val (.long v2), .second, .val (.long v3), .second, .val (.ref b5), .val (.int (1 : Int32))]) rfl k) ?_
  show own_Ends p.tables e below _ (T12.setTop (mkF m 128 #[.val (.long q0), .second, .val (.long q1), .second, .val (.long q2), .second, .val (.int p3), .val (.long v0), .second, .val (.long v1), .second, .val (.long v2), .second, .val (.long v3), .second, .val (.ref b5), .val (.int (1 : Int32))] []))
  refine own_step (fun _ k => XS.iload X12.here hx rfl (hb hby at_128) rfl k) ?_
  show own_Ends p.tables e below _ (T12.setTop (mkF m 130 #[.val (.long q0), .second, .val (.long q1), .second, .val (.long q2), .second, .val (.int p3), .val (.long v0), .second, .val (.long v1), .second, .val (.long v2), .second, .val (.long v3), .second, .val (.ref b5), .val (.int (1 : Int32))] [(.int (1 : Int32))]))
  refine own_step (fun _ k => XS.ifNo X12.here hx rfl (hb hby at_130) rfl ((if0 _ _).trans (feq (by decide)).1) k) ?_
  show own_Ends p.tables e below _ (T12.setTop (mkF m 133 #[.val (.long q0), .second, .val (.long q1), .second, .val (.long q2), .second, .val (.int p3), .val (.long v0), .second, .val (.long v1), .second, .val (.long v2), .second, .val (.long v3), .second, .val (.ref b5), .val (.int (1 : Int32))] []))
  refine own_step (fun _ k => XS.aload X12.here hx rfl (hb hby at_133) rfl rfl k) ?_
  show own_Ends p.tables e below _ (T12.setTop (mkF m 135 #[.val (.long q0), .second, .val (.long q1), .second, .val (.long q2), .second, .val (.int p3), .val (.long v0), .second, .val (.long v1), .second, .val (.long v2), .second, .val (.long v3), .second, .val (.ref b5), .val (.int (1 : Int32))] [(.ref b5)]))
  refine own_step (fun _ k => XS.iconst X12.here hx rfl (hb hby at_135) k) ?_
  show own_Ends p.tables e below _ (T12.setTop (mkF m 136 #[.val (.long q0), .second, .val (.long q1), .second, .val (.long q2), .second, .val (.int p3), .val (.long v0), .second, .val (.long v1), .second, .val (.long v2), .second, .val (.long v3), .second, .val (.ref b5), .val (.int (1 : Int32))] [(.int (1 : Int32)), (.ref b5)]))
  obtain ⟨cq13, kq13, q13a, q13b, q13c⟩ := isOf hZ e12 C_10.1
  obtain ⟨_, _, ⟨T13, L13, k13, n13⟩, -, X13, ⟨Lc13, hQ13, l13, y13, z13⟩, st13⟩ := X12.virtualBack hx (y := (⟨"com/example/restate/restate/model/LongColumn", "get", "(I)J"⟩ : MethodName)) (z := (⟨"com/example/restate/restate/model/LongColumn", "get", "(I)J"⟩ : MethodName)) hown (mvT hZ (hw _ (List.mem_of_getElem? (i := 56) rfl))) (mvT hZ (hw _ (List.mem_of_getElem? (i := 47) rfl))) (notFace_of_selects (args := #[]) (mvT hZ (hw _ (List.mem_of_getElem? (i := 49) rfl)))) (mvT hZ (hw _ (List.mem_of_getElem? (i := 49) rfl))) (mvT hZ (hw _ (List.mem_of_getElem? (i := 48) rfl))) (by decide) (backOf (W := 0) (own_rm_get l Z aw hw [] b5 1 (((([] ++ [v0]) ++ [v1]) ++ [v2]) ++ [v3]) T10.heap n0 Z_10 C_10 (by simp) (by decide)) hZ (hw _ (List.mem_of_getElem? (i := 50) rfl)) (hw _ (List.mem_of_getElem? (i := 6) rfl)) (by decide) (by decide)) q13a q13c (g := (mkF m 136 #[.val (.long q0), .second, .val (.long q1), .second, .val (.long q2), .second, .val (.int p3), .val (.long v0), .second, .val (.long v1), .second, .val (.long v2), .second, .val (.long v3), .second, .val (.ref b5), .val (.int (1 : Int32))] [(.int (1 : Int32)), (.ref b5)])) rfl (by rw [hml]; rfl) (Steps.refl _) (argsL := [(.int (1 : Int32))]) (rest := []) (lenOf own_pd6 rfl) rfl (by show 2 * 0 + _ ≤ _; exact Nat.le_of_eq rfl) (hb hby at_136) (fun _ _ => ⟨rfl, e12, (by decide : 5 + 0 ≤ _), (by decide : 68 + 0 ≤ _)⟩)
  dsimp only [Pt.U, Pt.locs, Pt.cells, Pt.slots] at X13 l13 y13 z13 st13 hQ13
  subst l13 y13 z13
  obtain ⟨rfl, N13q, e13⟩ := hQ13
  have N_13 := Fr.app N_12 N13q
  refine own_step (fun _ k => st13.trans k) ?_
  show own_Ends p.tables e below _ (T13.setTop (mkF m 139 #[.val (.long q0), .second, .val (.long q1), .second, .val (.long q2), .second, .val (.int p3), .val (.long v0), .second, .val (.long v1), .second, .val (.long v2), .second, .val (.long v3), .second, .val (.ref b5), .val (.int (1 : Int32))] [(.long v1)]))
  refine own_step (fun _ k => XS.lload X13.here hx rfl (hb hby at_139) rfl k) ?_
  show own_Ends p.tables e below _ (T13.setTop (mkF m 141 #[.val (.long q0), .second, .val (.long q1), .second, .val (.long q2), .second, .val (.int p3), .val (.long v0), .second, .val (.long v1), .second, .val (.long v2), .second, .val (.long v3), .second, .val (.ref b5), .val (.int (1 : Int32))] [(.long v1), (.long v1)]))
  refine own_step (fun _ k => XS.lcmp X13.here hx rfl (hb hby at_141) rfl k) ?_
  show own_Ends p.tables e below _ (T13.setTop (mkF m 142 #[.val (.long q0), .second, .val (.long q1), .second, .val (.long q2), .second, .val (.int p3), .val (.long v0), .second, .val (.long v1), .second, .val (.long v2), .second, .val (.long v3), .second, .val (.ref b5), .val (.int (1 : Int32))] [(.int (lcmpW v1 v1))]))
  refine own_step (fun _ k => XS.ifNo X13.here hx rfl (hb hby at_142) rfl ((if0 _ _).trans (teq ((own_lc_eq _ _).mpr rfl)).2) k) ?_
  show own_Ends p.tables e below _ (T13.setTop (mkF m 145 #[.val (.long q0), .second, .val (.long q1), .second, .val (.long q2), .second, .val (.int p3), .val (.long v0), .second, .val (.long v1), .second, .val (.long v2), .second, .val (.long v3), .second, .val (.ref b5), .val (.int (1 : Int32))] []))
  refine own_step (fun _ k => XS.iconst X13.here hx rfl (hb hby at_145) k) ?_
  show own_Ends p.tables e below _ (T13.setTop (mkF m 146 #[.val (.long q0), .second, .val (.long q1), .second, .val (.long q2), .second, .val (.int p3), .val (.long v0), .second, .val (.long v1), .second, .val (.long v2), .second, .val (.long v3), .second, .val (.ref b5), .val (.int (1 : Int32))] [(.int (1 : Int32))]))
  refine own_step (fun _ k => XS.goto X13.here hx rfl (pc0 := 146) (pc' := 150) rfl (hb hby at_146) (by decide) (by decide) k) ?_
  show own_Ends p.tables e below _ (T13.setTop (mkF m 150 #[.val (.long q0), .second, .val (.long q1), .second, .val (.long q2), .second, .val (.int p3), .val (.long v0), .second, .val (.long v1), .second, .val (.long v2), .second, .val (.long v3), .second, .val (.ref b5), .val (.int (1 : Int32))] [(.int (1 : Int32))]))
  refine own_step (fun _ k => XS.istore X13.here hx rfl (hb hby at_150) rfl (l' := #[.val (.long q0), .second, .val (.long q1), .second, .val (.long q2), .second, .val (.int p3), .val (.long v0), .second, .val (.long v1), .second, .val (.long v2), .second, .val (.long v3), .second, .val (.ref b5), .val (.int (1 : Int32))]) rfl k) ?_
  show own_Ends p.tables e below _ (T13.setTop (mkF m 152 #[.val (.long q0), .second, .val (.long q1), .second, .val (.long q2), .second, .val (.int p3), .val (.long v0), .second, .val (.long v1), .second, .val (.long v2), .second, .val (.long v3), .second, .val (.ref b5), .val (.int (1 : Int32))] []))
  refine own_step (fun _ k => XS.iload X13.here hx rfl (hb hby at_152) rfl k) ?_
  show own_Ends p.tables e below _ (T13.setTop (mkF m 154 #[.val (.long q0), .second, .val (.long q1), .second, .val (.long q2), .second, .val (.int p3), .val (.long v0), .second, .val (.long v1), .second, .val (.long v2), .second, .val (.long v3), .second, .val (.ref b5), .val (.int (1 : Int32))] [(.int (1 : Int32))]))
  refine own_step (fun _ k => XS.ifNo X13.here hx rfl (hb hby at_154) rfl ((if0 _ _).trans (feq (by decide)).1) k) ?_
  show own_Ends p.tables e below _ (T13.setTop (mkF m 157 #[.val (.long q0), .second, .val (.long q1), .second, .val (.long q2), .second, .val (.int p3), .val (.long v0), .second, .val (.long v1), .second, .val (.long v2), .second, .val (.long v3), .second, .val (.ref b5), .val (.int (1 : Int32))] []))
  refine own_step (fun _ k => XS.aload X13.here hx rfl (hb hby at_157) rfl rfl k) ?_
  show own_Ends p.tables e below _ (T13.setTop (mkF m 159 #[.val (.long q0), .second, .val (.long q1), .second, .val (.long q2), .second, .val (.int p3), .val (.long v0), .second, .val (.long v1), .second, .val (.long v2), .second, .val (.long v3), .second, .val (.ref b5), .val (.int (1 : Int32))] [(.ref b5)]))
  refine own_step (fun _ k => XS.iconst X13.here hx rfl (hb hby at_159) k) ?_
  show own_Ends p.tables e below _ (T13.setTop (mkF m 160 #[.val (.long q0), .second, .val (.long q1), .second, .val (.long q2), .second, .val (.int p3), .val (.long v0), .second, .val (.long v1), .second, .val (.long v2), .second, .val (.long v3), .second, .val (.ref b5), .val (.int (1 : Int32))] [(.int (2 : Int32)), (.ref b5)]))
  obtain ⟨cq14, kq14, q14a, q14b, q14c⟩ := isOf hZ e13 C_10.1
  obtain ⟨_, _, ⟨T14, L14, k14, n14⟩, -, X14, ⟨Lc14, hQ14, l14, y14, z14⟩, st14⟩ := X13.virtualBack hx (y := (⟨"com/example/restate/restate/model/LongColumn", "get", "(I)J"⟩ : MethodName)) (z := (⟨"com/example/restate/restate/model/LongColumn", "get", "(I)J"⟩ : MethodName)) hown (mvT hZ (hw _ (List.mem_of_getElem? (i := 56) rfl))) (mvT hZ (hw _ (List.mem_of_getElem? (i := 47) rfl))) (notFace_of_selects (args := #[]) (mvT hZ (hw _ (List.mem_of_getElem? (i := 49) rfl)))) (mvT hZ (hw _ (List.mem_of_getElem? (i := 49) rfl))) (mvT hZ (hw _ (List.mem_of_getElem? (i := 48) rfl))) (by decide) (backOf (W := 0) (own_rm_get l Z aw hw [] b5 2 (((([] ++ [v0]) ++ [v1]) ++ [v2]) ++ [v3]) T10.heap n0 Z_10 C_10 (by simp) (by decide)) hZ (hw _ (List.mem_of_getElem? (i := 50) rfl)) (hw _ (List.mem_of_getElem? (i := 6) rfl)) (by decide) (by decide)) q14a q14c (g := (mkF m 160 #[.val (.long q0), .second, .val (.long q1), .second, .val (.long q2), .second, .val (.int p3), .val (.long v0), .second, .val (.long v1), .second, .val (.long v2), .second, .val (.long v3), .second, .val (.ref b5), .val (.int (1 : Int32))] [(.int (2 : Int32)), (.ref b5)])) rfl (by rw [hml]; rfl) (Steps.refl _) (argsL := [(.int (2 : Int32))]) (rest := []) (lenOf own_pd6 rfl) rfl (by show 2 * 0 + _ ≤ _; exact Nat.le_of_eq rfl) (hb hby at_160) (fun _ _ => ⟨rfl, e13, (by decide : 5 + 0 ≤ _), (by decide : 68 + 0 ≤ _)⟩)
  dsimp only [Pt.U, Pt.locs, Pt.cells, Pt.slots] at X14 l14 y14 z14 st14 hQ14
  subst l14 y14 z14
  obtain ⟨rfl, N14q, e14⟩ := hQ14
  have N_14 := Fr.app N_13 N14q
  refine own_step (fun _ k => st14.trans k) ?_
  show own_Ends p.tables e below _ (T14.setTop (mkF m 163 #[.val (.long q0), .second, .val (.long q1), .second, .val (.long q2), .second, .val (.int p3), .val (.long v0), .second, .val (.long v1), .second, .val (.long v2), .second, .val (.long v3), .second, .val (.ref b5), .val (.int (1 : Int32))] [(.long v2)]))
  refine own_step (fun _ k => XS.lload X14.here hx rfl (hb hby at_163) rfl k) ?_
  show own_Ends p.tables e below _ (T14.setTop (mkF m 165 #[.val (.long q0), .second, .val (.long q1), .second, .val (.long q2), .second, .val (.int p3), .val (.long v0), .second, .val (.long v1), .second, .val (.long v2), .second, .val (.long v3), .second, .val (.ref b5), .val (.int (1 : Int32))] [(.long v2), (.long v2)]))
  refine own_step (fun _ k => XS.lcmp X14.here hx rfl (hb hby at_165) rfl k) ?_
  show own_Ends p.tables e below _ (T14.setTop (mkF m 166 #[.val (.long q0), .second, .val (.long q1), .second, .val (.long q2), .second, .val (.int p3), .val (.long v0), .second, .val (.long v1), .second, .val (.long v2), .second, .val (.long v3), .second, .val (.ref b5), .val (.int (1 : Int32))] [(.int (lcmpW v2 v2))]))
  refine own_step (fun _ k => XS.ifNo X14.here hx rfl (hb hby at_166) rfl ((if0 _ _).trans (teq ((own_lc_eq _ _).mpr rfl)).2) k) ?_
  show own_Ends p.tables e below _ (T14.setTop (mkF m 169 #[.val (.long q0), .second, .val (.long q1), .second, .val (.long q2), .second, .val (.int p3), .val (.long v0), .second, .val (.long v1), .second, .val (.long v2), .second, .val (.long v3), .second, .val (.ref b5), .val (.int (1 : Int32))] []))
  refine own_step (fun _ k => XS.iconst X14.here hx rfl (hb hby at_169) k) ?_
  show own_Ends p.tables e below _ (T14.setTop (mkF m 170 #[.val (.long q0), .second, .val (.long q1), .second, .val (.long q2), .second, .val (.int p3), .val (.long v0), .second, .val (.long v1), .second, .val (.long v2), .second, .val (.long v3), .second, .val (.ref b5), .val (.int (1 : Int32))] [(.int (1 : Int32))]))
  refine own_step (fun _ k => XS.goto X14.here hx rfl (pc0 := 170) (pc' := 174) rfl (hb hby at_170) (by decide) (by decide) k) ?_
  show own_Ends p.tables e below _ (T14.setTop (mkF m 174 #[.val (.long q0), .second, .val (.long q1), .second, .val (.long q2), .second, .val (.int p3), .val (.long v0), .second, .val (.long v1), .second, .val (.long v2), .second, .val (.long v3), .second, .val (.ref b5), .val (.int (1 : Int32))] [(.int (1 : Int32))]))
  refine own_step (fun _ k => XS.istore X14.here hx rfl (hb hby at_174) rfl (l' := #[.val (.long q0), .second, .val (.long q1), .second, .val (.long q2), .second, .val (.int p3), .val (.long v0), .second, .val (.long v1), .second, .val (.long v2), .second, .val (.long v3), .second, .val (.ref b5), .val (.int (1 : Int32))]) rfl k) ?_
  show own_Ends p.tables e below _ (T14.setTop (mkF m 176 #[.val (.long q0), .second, .val (.long q1), .second, .val (.long q2), .second, .val (.int p3), .val (.long v0), .second, .val (.long v1), .second, .val (.long v2), .second, .val (.long v3), .second, .val (.ref b5), .val (.int (1 : Int32))] []))
  refine own_step (fun _ k => XS.iload X14.here hx rfl (hb hby at_176) rfl k) ?_
  show own_Ends p.tables e below _ (T14.setTop (mkF m 178 #[.val (.long q0), .second, .val (.long q1), .second, .val (.long q2), .second, .val (.int p3), .val (.long v0), .second, .val (.long v1), .second, .val (.long v2), .second, .val (.long v3), .second, .val (.ref b5), .val (.int (1 : Int32))] [(.int (1 : Int32))]))
  refine own_step (fun _ k => XS.ifNo X14.here hx rfl (hb hby at_178) rfl ((if0 _ _).trans (feq (by decide)).1) k) ?_
  show own_Ends p.tables e below _ (T14.setTop (mkF m 181 #[.val (.long q0), .second, .val (.long q1), .second, .val (.long q2), .second, .val (.int p3), .val (.long v0), .second, .val (.long v1), .second, .val (.long v2), .second, .val (.long v3), .second, .val (.ref b5), .val (.int (1 : Int32))] []))
  refine own_step (fun _ k => XS.aload X14.here hx rfl (hb hby at_181) rfl rfl k) ?_
  show own_Ends p.tables e below _ (T14.setTop (mkF m 183 #[.val (.long q0), .second, .val (.long q1), .second, .val (.long q2), .second, .val (.int p3), .val (.long v0), .second, .val (.long v1), .second, .val (.long v2), .second, .val (.long v3), .second, .val (.ref b5), .val (.int (1 : Int32))] [(.ref b5)]))
  refine own_step (fun _ k => XS.iconst X14.here hx rfl (hb hby at_183) k) ?_
  show own_Ends p.tables e below _ (T14.setTop (mkF m 184 #[.val (.long q0), .second, .val (.long q1), .second, .val (.long q2), .second, .val (.int p3), .val (.long v0), .second, .val (.long v1), .second, .val (.long v2), .second, .val (.long v3), .second, .val (.ref b5), .val (.int (1 : Int32))] [(.int (3 : Int32)), (.ref b5)]))
  obtain ⟨cq15, kq15, q15a, q15b, q15c⟩ := isOf hZ e14 C_10.1
  obtain ⟨_, _, ⟨T15, L15, k15, n15⟩, -, X15, ⟨Lc15, hQ15, l15, y15, z15⟩, st15⟩ := X14.virtualBack hx (y := (⟨"com/example/restate/restate/model/LongColumn", "get", "(I)J"⟩ : MethodName)) (z := (⟨"com/example/restate/restate/model/LongColumn", "get", "(I)J"⟩ : MethodName)) hown (mvT hZ (hw _ (List.mem_of_getElem? (i := 56) rfl))) (mvT hZ (hw _ (List.mem_of_getElem? (i := 47) rfl))) (notFace_of_selects (args := #[]) (mvT hZ (hw _ (List.mem_of_getElem? (i := 49) rfl)))) (mvT hZ (hw _ (List.mem_of_getElem? (i := 49) rfl))) (mvT hZ (hw _ (List.mem_of_getElem? (i := 48) rfl))) (by decide) (backOf (W := 0) (own_rm_get l Z aw hw [] b5 3 (((([] ++ [v0]) ++ [v1]) ++ [v2]) ++ [v3]) T10.heap n0 Z_10 C_10 (by simp) (by decide)) hZ (hw _ (List.mem_of_getElem? (i := 50) rfl)) (hw _ (List.mem_of_getElem? (i := 6) rfl)) (by decide) (by decide)) q15a q15c (g := (mkF m 184 #[.val (.long q0), .second, .val (.long q1), .second, .val (.long q2), .second, .val (.int p3), .val (.long v0), .second, .val (.long v1), .second, .val (.long v2), .second, .val (.long v3), .second, .val (.ref b5), .val (.int (1 : Int32))] [(.int (3 : Int32)), (.ref b5)])) rfl (by rw [hml]; rfl) (Steps.refl _) (argsL := [(.int (3 : Int32))]) (rest := []) (lenOf own_pd6 rfl) rfl (by show 2 * 0 + _ ≤ _; exact Nat.le_of_eq rfl) (hb hby at_184) (fun _ _ => ⟨rfl, e14, (by decide : 5 + 0 ≤ _), (by decide : 68 + 0 ≤ _)⟩)
  dsimp only [Pt.U, Pt.locs, Pt.cells, Pt.slots] at X15 l15 y15 z15 st15 hQ15
  subst l15 y15 z15
  obtain ⟨rfl, N15q, e15⟩ := hQ15
  have N_15 := Fr.app N_14 N15q
  refine own_step (fun _ k => st15.trans k) ?_
  show own_Ends p.tables e below _ (T15.setTop (mkF m 187 #[.val (.long q0), .second, .val (.long q1), .second, .val (.long q2), .second, .val (.int p3), .val (.long v0), .second, .val (.long v1), .second, .val (.long v2), .second, .val (.long v3), .second, .val (.ref b5), .val (.int (1 : Int32))] [(.long v3)]))
  refine own_step (fun _ k => XS.lload X15.here hx rfl (hb hby at_187) rfl k) ?_
  show own_Ends p.tables e below _ (T15.setTop (mkF m 189 #[.val (.long q0), .second, .val (.long q1), .second, .val (.long q2), .second, .val (.int p3), .val (.long v0), .second, .val (.long v1), .second, .val (.long v2), .second, .val (.long v3), .second, .val (.ref b5), .val (.int (1 : Int32))] [(.long v3), (.long v3)]))
  refine own_step (fun _ k => XS.lcmp X15.here hx rfl (hb hby at_189) rfl k) ?_
  show own_Ends p.tables e below _ (T15.setTop (mkF m 190 #[.val (.long q0), .second, .val (.long q1), .second, .val (.long q2), .second, .val (.int p3), .val (.long v0), .second, .val (.long v1), .second, .val (.long v2), .second, .val (.long v3), .second, .val (.ref b5), .val (.int (1 : Int32))] [(.int (lcmpW v3 v3))]))
  refine own_step (fun _ k => XS.ifNo X15.here hx rfl (hb hby at_190) rfl ((if0 _ _).trans (teq ((own_lc_eq _ _).mpr rfl)).2) k) ?_
  show own_Ends p.tables e below _ (T15.setTop (mkF m 193 #[.val (.long q0), .second, .val (.long q1), .second, .val (.long q2), .second, .val (.int p3), .val (.long v0), .second, .val (.long v1), .second, .val (.long v2), .second, .val (.long v3), .second, .val (.ref b5), .val (.int (1 : Int32))] []))
  refine own_step (fun _ k => XS.iconst X15.here hx rfl (hb hby at_193) k) ?_
  show own_Ends p.tables e below _ (T15.setTop (mkF m 194 #[.val (.long q0), .second, .val (.long q1), .second, .val (.long q2), .second, .val (.int p3), .val (.long v0), .second, .val (.long v1), .second, .val (.long v2), .second, .val (.long v3), .second, .val (.ref b5), .val (.int (1 : Int32))] [(.int (1 : Int32))]))
  refine own_step (fun _ k => XS.goto X15.here hx rfl (pc0 := 194) (pc' := 198) rfl (hb hby at_194) (by decide) (by decide) k) ?_
  show own_Ends p.tables e below _ (T15.setTop (mkF m 198 #[.val (.long q0), .second, .val (.long q1), .second, .val (.long q2), .second, .val (.int p3), .val (.long v0), .second, .val (.long v1), .second, .val (.long v2), .second, .val (.long v3), .second, .val (.ref b5), .val (.int (1 : Int32))] [(.int (1 : Int32))]))
  refine own_step (fun _ k => XS.istore X15.here hx rfl (hb hby at_198) rfl (l' := #[.val (.long q0), .second, .val (.long q1), .second, .val (.long q2), .second, .val (.int p3), .val (.long v0), .second, .val (.long v1), .second, .val (.long v2), .second, .val (.long v3), .second, .val (.ref b5), .val (.int (1 : Int32))]) rfl k) ?_
  show own_Ends p.tables e below _ (T15.setTop (mkF m 200 #[.val (.long q0), .second, .val (.long q1), .second, .val (.long q2), .second, .val (.int p3), .val (.long v0), .second, .val (.long v1), .second, .val (.long v2), .second, .val (.long v3), .second, .val (.ref b5), .val (.int (1 : Int32))] []))
  refine own_step (fun _ k => XS.iload X15.here hx rfl (hb hby at_200) rfl k) ?_
  show own_Ends p.tables e below _ (T15.setTop (mkF m 202 #[.val (.long q0), .second, .val (.long q1), .second, .val (.long q2), .second, .val (.int p3), .val (.long v0), .second, .val (.long v1), .second, .val (.long v2), .second, .val (.long v3), .second, .val (.ref b5), .val (.int (1 : Int32))] [(.int (1 : Int32))]))
  exact own_retN X15 hx hlk (by decide) (by decide) (t := .boolean) Bd.returns (by simp) (hb hby at_202) (by rw [e15]; exact ⟨rfl, N_15⟩)
set_option maxRecDepth 65536 in
set_option maxHeartbeats 40000000 in
theorem own_comes_1 {Post : Tables → Env → Array Value → State → Outcome → State → Prop} (hpost : ∀ tb e args s v u, (limb_1_1.after args s (.returned v) u = true ∧ limb_1_2.after args s (.returned v) u = true ∧ True) → FrameEnd s (.returned v) u (Jvm.fieldLocs frame_1_writes args s ++ Jvm.arrayLocs frame_1_arrays args s ++ Jvm.staticLocs frame_1_statics s) 16 192 → Post tb e args s (.returned v) u) :
    ArmFor flags0 classFile x code maxLocals ret World_1 tables_1 room_1 Calls_1 rest_1 Pre_1 Post := by
  intro l hfl _ _ p e ha hc hk s m args below hf hA hF happ hP
  obtain ⟨hcalls, hrest, hpre⟩ := hP
  obtain ⟨-, -, -, hnamed, -, -, -, hat⟩ := (Spec.applies_iff hf).mp happ
  obtain ⟨hg, hn⟩ := and_e (Cond.before_iff.mp (show (Jvm.Cond.and given_1 narrow_1).before args s = true from hpre))
  obtain ⟨g0, r0⟩ := and_e hg
  obtain ⟨g1, r1⟩ := and_e r0
  obtain ⟨g2, r2⟩ := and_e r1
  obtain ⟨g3, r3⟩ := and_e r2
  obtain ⟨w0, w1, w2, w3, rfl⟩ : ∃ w0 w1 w2 w3 : Value, args = #[w0, w1, w2, w3] := by
    have hs : args.size = 4 := by simpa [Cond.value, given_1] using g0
    obtain ⟨L⟩ := args
    match L, hs with
    | [w0, w1, w2, w3], _ => exact ⟨w0, w1, w2, w3, rfl⟩
  have hw := fun d (hd : d ∈ tables_1) => atoms_spec (ws := Jvm.Cond.code x code maxLocals ret :: tables_1) hat d (List.mem_cons_of_mem _ hd)
  have hfit : Fit s := fun {y c} hc i hi => by
    obtain ⟨ha, rfl⟩ := Array.getElem?_eq_some_iff.mp hc
    have q := List.all_eq_true.mp ((Array.all_eq_true_iff_forall_mem.mp hF) _ (Array.getElem_mem ha)) i (List.mem_range.mpr hi)
    simpa [Array.getElem?_eq_getElem hi] using q
  obtain ⟨i0, ei0⟩ := isL_v g1
  obtain rfl : w0 = (.long i0) := Option.some.inj ei0
  obtain ⟨i1, ei1⟩ := isL_v g2
  obtain rfl : w1 = (.long i1) := Option.some.inj ei1
  obtain ⟨i2, ei2⟩ := isL_v g3
  obtain rfl : w2 = (.long i2) := Option.some.inj ei2
  obtain ⟨i3, ei3⟩ := is_v r3
  obtain rfl : w3 = (.int i3) := Option.some.inj ei3
  obtain ⟨n, o, h1, h2, h3, _, L, rfl, ⟨rfl, N⟩, hq⟩ := own_rm_law l s _ hw tables_1 i0 i1 i2 i3  s.heap s.heap.size (Nat.le_refl _)  p e ha hc hk s m _ below hf ((Spec.applies_iff_loose hf).mp happ).1 ⟨rfl, State.Warmed39.refl s, rfl⟩ trivial
  refine ⟨n, _, h1, h2, h3, hpost _ _ _ _ _ _ ⟨Cond.after_iff.mpr rfl, Cond.after_iff.mpr (eq_i res_at (Term.int_eval (1)) rfl), trivial⟩ ⟨hq.1, hq.2.1, (hq.2.2.sift fun y hy => Or.inr (N y hy)).mono (by decide) (by decide)⟩⟩
theorem main_1_1 : Claimed_1_1 := own_comes_1 fun _ _ _ _ _ _ h hF => ⟨h.1, hF⟩
theorem main_1_2 : Claimed_1_2 := own_comes_1 fun _ _ _ _ _ _ h hF => ⟨h.2.1, hF⟩
end Jvm.Pilot.@@N@@
namespace Jvm.Pilot.@@N@@
open Jvm Jvm.ClassFile Sem Op Lib Jvm.Free Jvm.Stand Jvm.Pilot.@@N@@.Jvm.D
/-! MADE BY PROGRAM (witnessworld.py) out of the Statement's table words and the real class files: 13 classes; the members and pool entries that the words name. The judged class is class 1, her method 2. -/
namespace start1
open Jvm.ClassFile
def u (s : String) : CpInfo := .utf8 (stringToUtf16 s)
/-- a pool by its gaps: so many unusable entries, then the entry; so many at the end -/
def gap : Nat → List CpInfo → List CpInfo
  | 0, r => r
  | n + 1, r => .unusable :: gap n r
def poolList (es : List (Nat × CpInfo)) (last : Nat) : List CpInfo := es.foldr (fun e r => gap e.1 (e.2 :: r)) (gap last [])
def pool (es : List (Nat × CpInfo)) (last : Nat) : Array CpInfo := ⟨poolList es last⟩
def fileOf (pool : Array CpInfo) (this : Nat) (attrs : Array Attribute := #[]) (ms : Array MethodInfo := #[]) (fl : Nat := 33) (sup : Nat := 0) (ifs : Array Nat := #[]) (fds : Array FieldInfo := #[]) : ClassFile where
  minorVersion := 0
  majorVersion := 65
  constantPool := pool
  accessFlags := fl
  thisClass := this
  superClass := sup
  interfaces := ifs
  fields := fds
  methods := ms
  attributes := attrs
def plain (name : String) (sup : Option ClassId) : Class where
  name := name
  kind := .ordinary
  loader := none
  accessFlags := 33
  super := sup
  interfaces := #[]
  cf := none
  fields := #[]
  methods := #[]
  instanceTypes := #[]
  staticTypes := #[]
  resolved := #[]
  callSites := []
  init := .initialized
  statics := none
  mirror := none

def pool0 : Array CpInfo := pool [(5, u "<init>"), (0, u "()V"), (1, .class_ 10), (1, u "java/lang/Object")] 113

def k0c0 : Code := { maxStack := 0, maxLocals := 1, code := object_method_1_code, exceptionTable := #[], attributes := #[] }
def k0m0 : Method := { name := "<init>", desc := "()V", sig := { parameters := [], returnType := none }, accessFlags := 1, code := some k0c0 }
/-- java/lang/Object -/
def k0 : Class := { plain "java/lang/Object" none with
  accessFlags := 33
  interfaces := #[]
  cf := some (fileOf pool0 8 #[] #[{ accessFlags := 1, nameIndex := 5, descriptorIndex := 6, attributes := #[] }] 33 0 #[] #[])
  fields := #[]
  methods := #[k0m0]
  instanceTypes := #[]
  staticTypes := #[]
  resolved := Array.replicate 124 none
  statics := none }

def pool1 : Array CpInfo := pool [(2, .class_ 4), (0, .nameAndType 5 6), (0, u "java/lang/Object"), (0, u "<init>"), (0, u "()V"), (0, .methodref 8 9), (0, .class_ 10), (0, .nameAndType 11 12), (0, u "com/example/restate/restate/model/LongColumnGetPinLaw"), (0, u "pick"), (0, u "(JJJI)J"), (0, .class_ 14), (0, u "com/example/restate/restate/model/LongColumn"), (0, .methodref 13 3), (0, .methodref 13 17), (0, .nameAndType 18 19), (0, u "add"), (0, u "(J)V"), (0, .methodref 13 21), (0, .nameAndType 22 23), (0, u "size"), (0, u "()I"), (0, .methodref 13 25), (0, .nameAndType 26 27), (0, u "get"), (0, u "(I)J"), (3, u "law"), (0, u "(JJJI)Z")] 2

def k1m0 : Method := { name := "<init>", desc := "()V", sig := { parameters := [], returnType := none }, accessFlags := 1, code := none }
def k1c1 : Code := { maxStack := 2, maxLocals := 8, code := method_2_code, exceptionTable := #[], attributes := #[] }
def k1m1 : Method := { name := "pick", desc := "(JJJI)J", sig := { parameters := [.long, .long, .long, .int], returnType := some .long }, accessFlags := 10, code := some k1c1 }
def k1c2 : Code := { maxStack := 8, maxLocals := 17, code := code, exceptionTable := #[], attributes := #[] }
def k1m2 : Method := { name := "law", desc := "(JJJI)Z", sig := { parameters := [.long, .long, .long, .int], returnType := some .boolean }, accessFlags := 9, code := some k1c2 }
/-- com/example/restate/restate/model/LongColumnGetPinLaw -/
def k1 : Class := { plain "com/example/restate/restate/model/LongColumnGetPinLaw" (some 0) with
  accessFlags := 49
  interfaces := #[]
  cf := some (fileOf pool1 8 #[] #[{ accessFlags := 1, nameIndex := 5, descriptorIndex := 6, attributes := #[] }, { accessFlags := 10, nameIndex := 11, descriptorIndex := 12, attributes := #[] }, { accessFlags := 9, nameIndex := 31, descriptorIndex := 32, attributes := #[] }] 49 2 #[] #[])
  fields := #[]
  methods := #[k1m0, k1m1, k1m2]
  instanceTypes := #[]
  staticTypes := #[]
  resolved := Array.replicate 35 none
  statics := none }

def pool2 : Array CpInfo := pool [(1, .methodref 2 3), (0, .class_ 4), (0, .nameAndType 5 6), (0, u "java/lang/Object"), (0, u "<init>"), (0, u "()V"), (0, .fieldref 8 9), (0, .class_ 10), (0, .nameAndType 11 12), (0, u "com/example/restate/restate/model/LongColumn"), (0, u "size"), (0, u "I"), (0, .fieldref 8 14), (0, .nameAndType 15 16), (0, u "ints"), (0, u "[I"), (0, .fieldref 8 18), (0, .nameAndType 19 20), (0, u "longs"), (0, u "[J"), (0, .fieldref 8 22), (0, .nameAndType 23 24), (0, u "shared"), (0, u "J"), (0, .methodref 8 26), (0, .nameAndType 27 28), (0, u "fitsInt"), (0, u "(J)Z"), (0, .methodref 8 30), (0, .nameAndType 31 32), (0, u "addInt"), (0, u "(I)V"), (0, .methodref 8 34), (0, .nameAndType 35 36), (0, u "addLong"), (0, u "(J)V"), (0, .methodref 8 38), (0, .nameAndType 39 40), (0, u "doubled"), (0, u "(I)I"), (0, .methodref 42 43), (0, .class_ 44), (0, .nameAndType 45 46), (0, u "java/lang/Math"), (0, u "max"), (0, u "(II)I"), (0, .methodref 48 49), (0, .class_ 50), (0, .nameAndType 51 52), (0, u "java/util/Arrays"), (0, u "fill"), (0, u "([IIII)V"), (4, .methodref 8 58), (0, .nameAndType 59 60), (0, u "get"), (0, u "(I)J"), (3, .long 2), (3, .long 2147483639), (1, .methodref 42 71), (0, .nameAndType 72 73), (0, u "min"), (0, u "(JJ)J"), (0, u "FIRST_LENGTH"), (4, u "()I"), (0, u "add")] 5

def k2c0 : Code := { maxStack := 1, maxLocals := 1, code := prog_45_method_1_code, exceptionTable := #[], attributes := #[] }
def k2m0 : Method := { name := "<init>", desc := "()V", sig := { parameters := [], returnType := none }, accessFlags := 0, code := some k2c0 }
def k2c1 : Code := { maxStack := 1, maxLocals := 1, code := prog_45_method_2_code, exceptionTable := #[], attributes := #[] }
def k2m1 : Method := { name := "size", desc := "()I", sig := { parameters := [], returnType := some .int }, accessFlags := 0, code := some k2c1 }
def k2c2 : Code := { maxStack := 4, maxLocals := 4, code := prog_45_method_3_code, exceptionTable := #[], attributes := #[] }
def k2m2 : Method := { name := "add", desc := "(J)V", sig := { parameters := [.long], returnType := none }, accessFlags := 0, code := some k2c2 }
def k2c3 : Code := { maxStack := 4, maxLocals := 2, code := prog_45_method_4_code, exceptionTable := #[], attributes := #[] }
def k2m3 : Method := { name := "fitsInt", desc := "(J)Z", sig := { parameters := [.long], returnType := some .boolean }, accessFlags := 10, code := some k2c3 }
def k2c4 : Code := { maxStack := 5, maxLocals := 2, code := prog_45_method_5_code, exceptionTable := #[], attributes := #[] }
def k2m4 : Method := { name := "addInt", desc := "(I)V", sig := { parameters := [.int], returnType := none }, accessFlags := 2, code := some k2c4 }
def k2c5 : Code := { maxStack := 4, maxLocals := 5, code := prog_45_method_6_code, exceptionTable := #[], attributes := #[] }
def k2m5 : Method := { name := "addLong", desc := "(J)V", sig := { parameters := [.long], returnType := none }, accessFlags := 2, code := some k2c5 }
def k2c6 : Code := { maxStack := 2, maxLocals := 4, code := prog_45_method_7_code, exceptionTable := #[], attributes := #[] }
def k2m6 : Method := { name := "get", desc := "(I)J", sig := { parameters := [.int], returnType := some .long }, accessFlags := 0, code := some k2c6 }
def k2c7 : Code := { maxStack := 4, maxLocals := 1, code := prog_45_method_9_code, exceptionTable := #[], attributes := #[] }
def k2m7 : Method := { name := "doubled", desc := "(I)I", sig := { parameters := [.int], returnType := some .int }, accessFlags := 8, code := some k2c7 }
/-- com/example/restate/restate/model/LongColumn -/
def k2 : Class := { plain "com/example/restate/restate/model/LongColumn" (some 0) with
  accessFlags := 48
  interfaces := #[]
  cf := some (fileOf pool2 8 #[] #[{ accessFlags := 0, nameIndex := 5, descriptorIndex := 6, attributes := #[] }, { accessFlags := 0, nameIndex := 11, descriptorIndex := 79, attributes := #[] }, { accessFlags := 0, nameIndex := 80, descriptorIndex := 36, attributes := #[] }, { accessFlags := 10, nameIndex := 27, descriptorIndex := 28, attributes := #[] }, { accessFlags := 2, nameIndex := 31, descriptorIndex := 32, attributes := #[] }, { accessFlags := 2, nameIndex := 35, descriptorIndex := 36, attributes := #[] }, { accessFlags := 0, nameIndex := 59, descriptorIndex := 60, attributes := #[] }, { accessFlags := 8, nameIndex := 39, descriptorIndex := 40, attributes := #[] }] 48 2 #[] #[{ accessFlags := 26, nameIndex := 74, descriptorIndex := 12, attributes := #[] }, { accessFlags := 2, nameIndex := 11, descriptorIndex := 12, attributes := #[] }, { accessFlags := 2, nameIndex := 23, descriptorIndex := 24, attributes := #[] }, { accessFlags := 2, nameIndex := 15, descriptorIndex := 16, attributes := #[] }, { accessFlags := 2, nameIndex := 19, descriptorIndex := 20, attributes := #[] }])
  fields := #[{ name := "FIRST_LENGTH", type := .int, accessFlags := 26, slot := 0, constantValue := 0 }, { name := "size", type := .int, accessFlags := 2, slot := 0, constantValue := 0 }, { name := "shared", type := .long, accessFlags := 2, slot := 1, constantValue := 0 }, { name := "ints", type := (.array .int), accessFlags := 2, slot := 2, constantValue := 0 }, { name := "longs", type := (.array .long), accessFlags := 2, slot := 3, constantValue := 0 }]
  methods := #[k2m0, k2m1, k2m2, k2m3, k2m4, k2m5, k2m6, k2m7]
  instanceTypes := #[.int, .long, (.array .int), (.array .long)]
  staticTypes := #[.int]
  resolved := Array.replicate 86 none
  statics := none }

def pool3 : Array CpInfo := pool [(1, .class_ 2), (0, u "java/lang/Math"), (1, .class_ 6), (1, u "java/lang/Object"), (0, u "<init>"), (0, u "()V"), (89, .class_ 100), (1, u "java/lang/Math$RandomNumberGeneratorHolder"), (20, u "(JJ)J"), (50, u "negativeZeroFloatBits"), (0, u "J"), (2, u "negativeZeroDoubleBits"), (21, u "max"), (2, u "min"), (43, u "$assertionsDisabled"), (0, u "Z"), (88, u "(II)I"), (2, u "twoToTheDoubleScaleDown"), (0, u "D"), (4, u "twoToTheDoubleScaleUp"), (9, u "E"), (3, u "PI"), (2, u "TAU"), (2, u "DEGREES_TO_RADIANS"), (0, u "RADIANS_TO_DEGREES")] 94

def k3m0 : Method := { name := "<init>", desc := "()V", sig := { parameters := [], returnType := none }, accessFlags := 2, code := none }
def k3c1 : Code := { maxStack := 2, maxLocals := 2, code := jdk_29_method_65_code, exceptionTable := #[], attributes := #[] }
def k3m1 : Method := { name := "max", desc := "(II)I", sig := { parameters := [.int, .int], returnType := some .int }, accessFlags := 9, code := some k3c1 }
def k3c2 : Code := { maxStack := 4, maxLocals := 4, code := jdk_29_method_70_code, exceptionTable := #[], attributes := #[] }
def k3m2 : Method := { name := "min", desc := "(JJ)J", sig := { parameters := [.long, .long], returnType := some .long }, accessFlags := 9, code := some k3c2 }
/-- java/lang/Math -/
def k3 : Class := { plain "java/lang/Math" (some 0) with
  accessFlags := 49
  interfaces := #[]
  cf := some (fileOf pool3 1 #[.nestMembers #[98]] #[{ accessFlags := 2, nameIndex := 7, descriptorIndex := 8, attributes := #[] }, { accessFlags := 9, nameIndex := 198, descriptorIndex := 335, attributes := #[] }, { accessFlags := 9, nameIndex := 201, descriptorIndex := 121, attributes := #[] }] 49 4 #[] #[{ accessFlags := 25, nameIndex := 354, descriptorIndex := 339, attributes := #[] }, { accessFlags := 25, nameIndex := 358, descriptorIndex := 339, attributes := #[] }, { accessFlags := 25, nameIndex := 361, descriptorIndex := 339, attributes := #[] }, { accessFlags := 26, nameIndex := 364, descriptorIndex := 339, attributes := #[] }, { accessFlags := 26, nameIndex := 365, descriptorIndex := 339, attributes := #[] }, { accessFlags := 26, nameIndex := 172, descriptorIndex := 173, attributes := #[] }, { accessFlags := 26, nameIndex := 176, descriptorIndex := 173, attributes := #[] }, { accessFlags := 8, nameIndex := 344, descriptorIndex := 339, attributes := #[] }, { accessFlags := 8, nameIndex := 338, descriptorIndex := 339, attributes := #[] }, { accessFlags := 4120, nameIndex := 245, descriptorIndex := 246, attributes := #[] }])
  fields := #[{ name := "E", type := .double, accessFlags := 25, slot := 0, constantValue := 0 }, { name := "PI", type := .double, accessFlags := 25, slot := 1, constantValue := 0 }, { name := "TAU", type := .double, accessFlags := 25, slot := 2, constantValue := 0 }, { name := "DEGREES_TO_RADIANS", type := .double, accessFlags := 26, slot := 3, constantValue := 0 }, { name := "RADIANS_TO_DEGREES", type := .double, accessFlags := 26, slot := 4, constantValue := 0 }, { name := "negativeZeroFloatBits", type := .long, accessFlags := 26, slot := 5, constantValue := 0 }, { name := "negativeZeroDoubleBits", type := .long, accessFlags := 26, slot := 6, constantValue := 0 }, { name := "twoToTheDoubleScaleUp", type := .double, accessFlags := 8, slot := 7, constantValue := 0 }, { name := "twoToTheDoubleScaleDown", type := .double, accessFlags := 8, slot := 8, constantValue := 0 }, { name := "$assertionsDisabled", type := .boolean, accessFlags := 4120, slot := 9, constantValue := 0 }]
  methods := #[k3m0, k3m1, k3m2]
  instanceTypes := #[]
  staticTypes := #[.double, .double, .double, .double, .double, .long, .long, .double, .double, .boolean]
  resolved := Array.replicate 460 none
  statics := none }

def pool4 : Array CpInfo := pool [(2, .class_ 4), (1, u "java/lang/Object"), (0, u "<init>"), (0, u "()V"), (5, u "([IIII)V"), (0, .methodref 14 15), (0, .class_ 16), (0, .nameAndType 17 18), (0, u "java/util/Arrays"), (0, u "rangeCheck"), (0, u "(III)V"), (55, .class_ 76), (1, u "java/util/Arrays$NaturalOrder"), (36, .class_ 115), (1, u "java/util/Arrays$LegacyMergeSort"), (1, u "Z"), (257, .class_ 376), (0, u "java/util/Arrays$ArrayList"), (68, u "$assertionsDisabled"), (269, u "MIN_ARRAY_SORT_GRAN"), (0, u "I"), (2, u "INSERTIONSORT_THRESHOLD"), (120, u "fill"), (134, .class_ 976), (0, u "java/util/Arrays$ArrayItr")] 52

def k4m0 : Method := { name := "<init>", desc := "()V", sig := { parameters := [], returnType := none }, accessFlags := 2, code := none }
def k4c1 : Code := { maxStack := 4, maxLocals := 3, code := jdk_65_method_30_code, exceptionTable := #[], attributes := #[] }
def k4m1 : Method := { name := "rangeCheck", desc := "(III)V", sig := { parameters := [.int, .int, .int], returnType := none }, accessFlags := 8, code := some k4c1 }
def k4c2 : Code := { maxStack := 3, maxLocals := 5, code := jdk_65_method_104_code, exceptionTable := #[], attributes := #[] }
def k4m2 : Method := { name := "fill", desc := "([IIII)V", sig := { parameters := [(.array .int), .int, .int, .int], returnType := none }, accessFlags := 9, code := some k4c2 }
/-- java/util/Arrays -/
def k4 : Class := { plain "java/util/Arrays" (some 0) with
  accessFlags := 49
  interfaces := #[]
  cf := some (fileOf pool4 14 #[.nestMembers #[975, 375, 113, 74]] #[{ accessFlags := 2, nameIndex := 5, descriptorIndex := 6, attributes := #[] }, { accessFlags := 8, nameIndex := 17, descriptorIndex := 18, attributes := #[] }, { accessFlags := 9, nameIndex := 840, descriptorIndex := 12, attributes := #[] }] 49 2 #[] #[{ accessFlags := 26, nameIndex := 715, descriptorIndex := 716, attributes := #[] }, { accessFlags := 26, nameIndex := 719, descriptorIndex := 716, attributes := #[] }, { accessFlags := 4120, nameIndex := 445, descriptorIndex := 117, attributes := #[] }])
  fields := #[{ name := "MIN_ARRAY_SORT_GRAN", type := .int, accessFlags := 26, slot := 0, constantValue := 0 }, { name := "INSERTIONSORT_THRESHOLD", type := .int, accessFlags := 26, slot := 1, constantValue := 0 }, { name := "$assertionsDisabled", type := .boolean, accessFlags := 4120, slot := 2, constantValue := 0 }]
  methods := #[k4m0, k4m1, k4m2]
  instanceTypes := #[]
  staticTypes := #[.int, .int, .boolean]
  resolved := Array.replicate 1029 none
  statics := none }

def pool5 : Array CpInfo := pool [(1, u "java/lang/Cloneable"), (0, .class_ 1), (0, u "java/lang/Object"), (0, .class_ 3)] 3

/-- java/lang/Cloneable -/
def k5 : Class := { plain "java/lang/Cloneable" (some 0) with
  accessFlags := 1537
  interfaces := #[]
  cf := some (fileOf pool5 2 #[] #[] 1537 4 #[] #[])
  fields := #[]
  methods := #[]
  instanceTypes := #[]
  staticTypes := #[]
  resolved := Array.replicate 8 none
  statics := none }

def pool6 : Array CpInfo := pool [(1, u "java/io/Serializable"), (0, .class_ 1), (0, u "java/lang/Object"), (0, .class_ 3)] 3

/-- java/io/Serializable -/
def k6 : Class := { plain "java/io/Serializable" (some 0) with
  accessFlags := 1537
  interfaces := #[]
  cf := some (fileOf pool6 2 #[] #[] 1537 4 #[] #[])
  fields := #[]
  methods := #[]
  instanceTypes := #[]
  staticTypes := #[]
  resolved := Array.replicate 8 none
  statics := none }

/-- the primitive byte -/
def k7 : Class := { plain "byte" none with kind := .primitive 'B', accessFlags := 0x411 }
/-- [B -/
def k8 : Class := { plain "[B" (some 0) with kind := .array 7 .byte, interfaces := #[5, 6], accessFlags := 1041 }

/-- the primitive int -/
def k9 : Class := { plain "int" none with kind := .primitive 'I', accessFlags := 0x411 }
/-- [I -/
def k10 : Class := { plain "[I" (some 0) with kind := .array 9 .int, interfaces := #[5, 6], accessFlags := 1041 }

/-- the primitive long -/
def k11 : Class := { plain "long" none with kind := .primitive 'J', accessFlags := 0x411 }
/-- [J -/
def k12 : Class := { plain "[J" (some 0) with kind := .array 11 .long, interfaces := #[5, 6], accessFlags := 1041 }

def heap : Heap := #[]
def classes : Array Class := #[k0, k1, k2, k3, k4, k5, k6, k7, k8, k9, k10, k11, k12]
def interned : List (Array UInt16 × Addr) := []
def slotsUsed : Nat := 0
def theMethod : MethodId := ⟨1, 2⟩
def args0 : Array Value := #[.long 5, .long 7, .long 9, .int 3]
def aboutOver (below : List Frame) : State where
  vm := { classes := classes, interned := interned.toArray }
  heap := heap
  slotsUsed := slotsUsed
  threads := #[{ frames := .invoking theMethod args0 :: below }]
def below0 : List Frame := [.native { method := ⟨0, 0⟩, args := #[] }]
def about1 : State := aboutOver below0
def p0 : Program := .bare "" "" ""
def e0 : Env := launch0.env 0 0 0
theorem w_frames : about1.frames = Frame.invoking theMethod args0 :: below0 := rfl
set_option maxRecDepth 65536 in
theorem w_args : argsFit about1.vm theMethod args0 = true := by decide +kernel
set_option maxRecDepth 65536 in
theorem w_heap : heapFits about1 = true := by decide +kernel
set_option maxRecDepth 65536 in
theorem w_runnable : about1.curStatus? = some .runnable := by decide +kernel
set_option maxRecDepth 65536 in
theorem w_alone : about1.alone = true := by decide +kernel
set_option maxRecDepth 65536 in
theorem w_named : about1.methodNamed? x = some theMethod := by decide +kernel
set_option maxRecDepth 65536 in
theorem w_hears : about1.hears theMethod below0 = true := by decide +kernel
set_option maxRecDepth 65536 in
theorem w_ripe : about1.ripe theMethod args0 below0 = true := by decide +kernel
theorem w_running : about1.status = .running := rfl
set_option maxRecDepth 65536 in
theorem w_room : about1.hasRoom e0.platform room_1 = true :=
  launch0.hasRoom_least _ room_1 (by decide +kernel) (by decide +kernel) (by decide +kernel) (by decide +kernel) (by decide +kernel) (by decide +kernel)
theorem allAtoms_all (ts : List Jvm.Cond) (a : Array Jvm.Value) (st : Jvm.State) : (allAtoms ts).before a st = ts.all (fun c => c.before a st) := by
  induction ts with
  | nil => rfl
  | cons c t ih =>
    show (Jvm.Cond.and c (allAtoms t)).before a st = _
    rw [Jvm.Cond.before_and, ih, List.all_cons]
def words1 : List Jvm.Cond := Jvm.Cond.code x code maxLocals ret :: tables_1
/-- a 'code' word, met by the world's own term for the bytes: nothing is compared byte by byte -/
theorem code_word {y : MethodName} {bytes : ByteArray} {mx : Nat} {rt : Option FieldType} {a : Array Value} {s : State} {m : MethodId} {meth : Method} {c : Code} (h1 : s.methodNamed? y = some m) (h2 : s.vm.method? m = some meth) (h3 : meth.code = some c) (h4 : c.code = bytes)
    (h5 : (c.maxLocals == mx && c.exceptionTable.isEmpty && decide (c.maxStack ≤ mostOperands) && decide (meth.sig.returnType = rt) && !meth.locks && decide (parseMethodDescriptor y.desc = some meth.sig)) = true) : (Jvm.Cond.code y bytes mx rt).before a s = true := by
  simp only [Bool.and_eq_true, beq_iff_eq, Bool.not_eq_true', decide_eq_true_eq] at h5
  obtain ⟨⟨⟨⟨⟨g1, g2⟩, g3⟩, g4⟩, g5⟩, g6⟩ := h5
  simp [Cond.before, Cond.holds, Cond.value, h1, h2, h3, h4, g1, g2, g3, g4, g5, g6]
def isCode : Jvm.Cond → Bool
  | .code _ _ _ _ => true
  | _ => false
theorem all_split {L : List Jvm.Cond} {P : Jvm.Cond → Bool} (h1 : L.all (fun c => isCode c || P c) = true) (h2 : ∀ c ∈ L.filter isCode, P c = true) : L.all P = true := by
  refine List.all_eq_true.mpr fun c hc => ?_
  have h := List.all_eq_true.mp h1 c hc
  rcases Bool.eq_false_or_eq_true (isCode c) with hi | hi
  · exact h2 c (List.mem_filter.mpr ⟨hc, hi⟩)
  · simpa [hi] using h
set_option maxRecDepth 65536 in
theorem w_c0 : (Jvm.Cond.code x code maxLocals ret).before args0 about1 = true := code_word (m := ⟨1, 2⟩) (meth := k1m2) (c := k1c2) (by decide +kernel) rfl rfl rfl (by decide +kernel)
set_option maxRecDepth 65536 in
theorem w_c1 : (Jvm.Cond.code ({ cls := "com/example/restate/restate/model/LongColumnGetPinLaw", name := "pick", desc := "(JJJI)J" } : Jvm.MethodName) method_2_code (8 : Nat) (Option.some Jvm.ClassFile.FieldType.long)).before args0 about1 = true := code_word (m := ⟨1, 1⟩) (meth := k1m1) (c := k1c1) (by decide +kernel) rfl rfl rfl (by decide +kernel)
set_option maxRecDepth 65536 in
theorem w_c2 : (Jvm.Cond.code ({ cls := "com/example/restate/restate/model/LongColumn", name := "<init>", desc := "()V" } : Jvm.MethodName) prog_45_method_1_code (1 : Nat) (Option.none : Option Jvm.ClassFile.FieldType)).before args0 about1 = true := code_word (m := ⟨2, 0⟩) (meth := k2m0) (c := k2c0) (by decide +kernel) rfl rfl rfl (by decide +kernel)
set_option maxRecDepth 65536 in
theorem w_c3 : (Jvm.Cond.code ({ cls := "java/lang/Object", name := "<init>", desc := "()V" } : Jvm.MethodName) object_method_1_code (1 : Nat) (Option.none : Option Jvm.ClassFile.FieldType)).before args0 about1 = true := code_word (m := ⟨0, 0⟩) (meth := k0m0) (c := k0c0) (by decide +kernel) rfl rfl rfl (by decide +kernel)
set_option maxRecDepth 65536 in
theorem w_c4 : (Jvm.Cond.code ({ cls := "com/example/restate/restate/model/LongColumn", name := "add", desc := "(J)V" } : Jvm.MethodName) prog_45_method_3_code (4 : Nat) (Option.none : Option Jvm.ClassFile.FieldType)).before args0 about1 = true := code_word (m := ⟨2, 2⟩) (meth := k2m2) (c := k2c2) (by decide +kernel) rfl rfl rfl (by decide +kernel)
set_option maxRecDepth 65536 in
theorem w_c5 : (Jvm.Cond.code ({ cls := "com/example/restate/restate/model/LongColumn", name := "fitsInt", desc := "(J)Z" } : Jvm.MethodName) prog_45_method_4_code (2 : Nat) (Option.some Jvm.ClassFile.FieldType.boolean)).before args0 about1 = true := code_word (m := ⟨2, 3⟩) (meth := k2m3) (c := k2c3) (by decide +kernel) rfl rfl rfl (by decide +kernel)
set_option maxRecDepth 65536 in
theorem w_c6 : (Jvm.Cond.code ({ cls := "com/example/restate/restate/model/LongColumn", name := "addLong", desc := "(J)V" } : Jvm.MethodName) prog_45_method_6_code (5 : Nat) (Option.none : Option Jvm.ClassFile.FieldType)).before args0 about1 = true := code_word (m := ⟨2, 5⟩) (meth := k2m5) (c := k2c5) (by decide +kernel) rfl rfl rfl (by decide +kernel)
set_option maxRecDepth 65536 in
theorem w_c7 : (Jvm.Cond.code ({ cls := "com/example/restate/restate/model/LongColumn", name := "doubled", desc := "(I)I" } : Jvm.MethodName) prog_45_method_9_code (1 : Nat) (Option.some Jvm.ClassFile.FieldType.int)).before args0 about1 = true := code_word (m := ⟨2, 7⟩) (meth := k2m7) (c := k2c7) (by decide +kernel) rfl rfl rfl (by decide +kernel)
set_option maxRecDepth 65536 in
theorem w_c8 : (Jvm.Cond.code ({ cls := "java/lang/Math", name := "min", desc := "(JJ)J" } : Jvm.MethodName) jdk_29_method_70_code (4 : Nat) (Option.some Jvm.ClassFile.FieldType.long)).before args0 about1 = true := code_word (m := ⟨3, 2⟩) (meth := k3m2) (c := k3c2) (by decide +kernel) rfl rfl rfl (by decide +kernel)
set_option maxRecDepth 65536 in
theorem w_c9 : (Jvm.Cond.code ({ cls := "java/lang/Math", name := "max", desc := "(II)I" } : Jvm.MethodName) jdk_29_method_65_code (2 : Nat) (Option.some Jvm.ClassFile.FieldType.int)).before args0 about1 = true := code_word (m := ⟨3, 1⟩) (meth := k3m1) (c := k3c1) (by decide +kernel) rfl rfl rfl (by decide +kernel)
set_option maxRecDepth 65536 in
theorem w_c10 : (Jvm.Cond.code ({ cls := "com/example/restate/restate/model/LongColumn", name := "get", desc := "(I)J" } : Jvm.MethodName) prog_45_method_7_code (4 : Nat) (Option.some Jvm.ClassFile.FieldType.long)).before args0 about1 = true := code_word (m := ⟨2, 6⟩) (meth := k2m6) (c := k2c6) (by decide +kernel) rfl rfl rfl (by decide +kernel)
set_option maxRecDepth 65536 in
theorem w_c11 : (Jvm.Cond.code ({ cls := "com/example/restate/restate/model/LongColumn", name := "size", desc := "()I" } : Jvm.MethodName) prog_45_method_2_code (1 : Nat) (Option.some Jvm.ClassFile.FieldType.int)).before args0 about1 = true := code_word (m := ⟨2, 1⟩) (meth := k2m1) (c := k2c1) (by decide +kernel) rfl rfl rfl (by decide +kernel)
set_option maxRecDepth 65536 in
theorem w_c12 : (Jvm.Cond.code ({ cls := "com/example/restate/restate/model/LongColumn", name := "addInt", desc := "(I)V" } : Jvm.MethodName) prog_45_method_5_code (2 : Nat) (Option.none : Option Jvm.ClassFile.FieldType)).before args0 about1 = true := code_word (m := ⟨2, 4⟩) (meth := k2m4) (c := k2c4) (by decide +kernel) rfl rfl rfl (by decide +kernel)
set_option maxRecDepth 65536 in
theorem w_c13 : (Jvm.Cond.code ({ cls := "java/util/Arrays", name := "fill", desc := "([IIII)V" } : Jvm.MethodName) jdk_65_method_104_code (5 : Nat) (Option.none : Option Jvm.ClassFile.FieldType)).before args0 about1 = true := code_word (m := ⟨4, 2⟩) (meth := k4m2) (c := k4c2) (by decide +kernel) rfl rfl rfl (by decide +kernel)
set_option maxRecDepth 65536 in
theorem w_c14 : (Jvm.Cond.code ({ cls := "java/util/Arrays", name := "rangeCheck", desc := "(III)V" } : Jvm.MethodName) jdk_65_method_30_code (3 : Nat) (Option.none : Option Jvm.ClassFile.FieldType)).before args0 about1 = true := code_word (m := ⟨4, 1⟩) (meth := k4m1) (c := k4c1) (by decide +kernel) rfl rfl rfl (by decide +kernel)
def codes1 : List Jvm.Cond := [Jvm.Cond.code x code maxLocals ret, Jvm.Cond.code ({ cls := "com/example/restate/restate/model/LongColumnGetPinLaw", name := "pick", desc := "(JJJI)J" } : Jvm.MethodName) method_2_code (8 : Nat) (Option.some Jvm.ClassFile.FieldType.long), Jvm.Cond.code ({ cls := "com/example/restate/restate/model/LongColumn", name := "<init>", desc := "()V" } : Jvm.MethodName) prog_45_method_1_code (1 : Nat) (Option.none : Option Jvm.ClassFile.FieldType), Jvm.Cond.code ({ cls := "java/lang/Object", name := "<init>", desc := "()V" } : Jvm.MethodName) object_method_1_code (1 : Nat) (Option.none : Option Jvm.ClassFile.FieldType), Jvm.Cond.code ({ cls := "com/example/restate/restate/model/LongColumn", name := "add", desc := "(J)V" } : Jvm.MethodName) prog_45_method_3_code (4 : Nat) (Option.none : Option Jvm.ClassFile.FieldType), Jvm.Cond.code ({ cls := "com/example/restate/restate/model/LongColumn", name := "fitsInt", desc := "(J)Z" } : Jvm.MethodName) prog_45_method_4_code (2 : Nat) (Option.some Jvm.ClassFile.FieldType.boolean), Jvm.Cond.code ({ cls := "com/example/restate/restate/model/LongColumn", name := "addLong", desc := "(J)V" } : Jvm.MethodName) prog_45_method_6_code (5 : Nat) (Option.none : Option Jvm.ClassFile.FieldType), Jvm.Cond.code ({ cls := "com/example/restate/restate/model/LongColumn", name := "doubled", desc := "(I)I" } : Jvm.MethodName) prog_45_method_9_code (1 : Nat) (Option.some Jvm.ClassFile.FieldType.int), Jvm.Cond.code ({ cls := "java/lang/Math", name := "min", desc := "(JJ)J" } : Jvm.MethodName) jdk_29_method_70_code (4 : Nat) (Option.some Jvm.ClassFile.FieldType.long), Jvm.Cond.code ({ cls := "java/lang/Math", name := "max", desc := "(II)I" } : Jvm.MethodName) jdk_29_method_65_code (2 : Nat) (Option.some Jvm.ClassFile.FieldType.int), Jvm.Cond.code ({ cls := "com/example/restate/restate/model/LongColumn", name := "get", desc := "(I)J" } : Jvm.MethodName) prog_45_method_7_code (4 : Nat) (Option.some Jvm.ClassFile.FieldType.long), Jvm.Cond.code ({ cls := "com/example/restate/restate/model/LongColumn", name := "size", desc := "()I" } : Jvm.MethodName) prog_45_method_2_code (1 : Nat) (Option.some Jvm.ClassFile.FieldType.int), Jvm.Cond.code ({ cls := "com/example/restate/restate/model/LongColumn", name := "addInt", desc := "(I)V" } : Jvm.MethodName) prog_45_method_5_code (2 : Nat) (Option.none : Option Jvm.ClassFile.FieldType), Jvm.Cond.code ({ cls := "java/util/Arrays", name := "fill", desc := "([IIII)V" } : Jvm.MethodName) jdk_65_method_104_code (5 : Nat) (Option.none : Option Jvm.ClassFile.FieldType), Jvm.Cond.code ({ cls := "java/util/Arrays", name := "rangeCheck", desc := "(III)V" } : Jvm.MethodName) jdk_65_method_30_code (3 : Nat) (Option.none : Option Jvm.ClassFile.FieldType)]
set_option maxRecDepth 65536 in
theorem codes_eq : words1.filter isCode = codes1 := rfl
theorem w_codes : ∀ c ∈ words1.filter isCode, c.before args0 about1 = true := by
  rw [codes_eq]
  intro c hc
  simp only [codes1, List.mem_cons, List.not_mem_nil, or_false] at hc
  rcases hc with rfl | rfl | rfl | rfl | rfl | rfl | rfl | rfl | rfl | rfl | rfl | rfl | rfl | rfl | rfl
  · exact w_c0
  · exact w_c1
  · exact w_c2
  · exact w_c3
  · exact w_c4
  · exact w_c5
  · exact w_c6
  · exact w_c7
  · exact w_c8
  · exact w_c9
  · exact w_c10
  · exact w_c11
  · exact w_c12
  · exact w_c13
  · exact w_c14
set_option maxRecDepth 65536 in
theorem w_t1 : (words1.take 24).all (fun c => isCode c || c.before args0 about1) = true := by decide +kernel
set_option maxRecDepth 65536 in
theorem w_t2 : ((words1.drop 24).take 24).all (fun c => isCode c || c.before args0 about1) = true := by decide +kernel
set_option maxRecDepth 65536 in
theorem w_t3 : ((words1.drop 24).drop 24).all (fun c => isCode c || c.before args0 about1) = true := by decide +kernel
theorem w_tables : (allAtoms (Jvm.Cond.code x code maxLocals ret :: tables_1)).before args0 about1 = true := by
  rw [allAtoms_all]
  show words1.all (fun c => c.before args0 about1) = true
  refine all_split ?_ w_codes
  rw [← List.take_append_drop 24 words1, List.all_append, w_t1, ← List.take_append_drop 24 (words1.drop 24), List.all_append, w_t2, w_t3]
  rfl
set_option maxRecDepth 65536 in
theorem w_case : (Jvm.Cond.and given_1 narrow_1).before args0 about1 = true := by decide +kernel
theorem w_applies : (headSpec (Jvm.Cond.code x code maxLocals ret :: tables_1) room_1).applies x e0.platform about1 = true :=
  (Spec.applies_iff w_frames).mpr ⟨w_running, w_runnable, w_alone, w_named, w_hears, w_ripe, w_room, w_tables⟩
theorem atStart : AtStart classFile x code maxLocals ret World_1 tables_1 room_1 Calls_1 rest_1 Pre_1 launch0 p0 e0 about1 theMethod args0 below0 :=
  ⟨lists_1, trivial, launch0.admits_env _ _ _, launch0.least_env, fairChoices_fair.cas, fairChoices_fair.clock, w_frames, w_args, w_heap, w_applies, trivial, trivial, w_case⟩
end start1
theorem witness_1 : WitnessClaimed_1 := ⟨start1.p0, start1.e0, start1.about1, start1.theMethod, start1.args0, start1.below0, start1.atStart⟩
end Jvm.Pilot.@@N@@
