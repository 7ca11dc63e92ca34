import JvmDerived
import JvmDerived.Pilot.@@N@@Statement
import JvmDerived.Pilot.@@N@@Code
set_option linter.unusedVariables false
set_option linter.unusedSimpArgs false
namespace Jvm.RoadKit
open Sem ClassFile Op Lib Jvm.Stand Jvm.Free Jvm.LawKit
section New
variable {p : Program} {l : Launch} {e : Env} {R : Room} {s : State} {m : MethodId} {args : Array Value} {below : List Frame} {meth : Method} {c : Code} {T : State} {locs : List Loc} {cells slots : Nat}
theorem retI (X : Stand p l e R s m args below meth c T locs cells slots) (hx : p.tables.exec = Jvm.exec) {pc : Nat} {Ls : Array Slot} {z : Int32} {rest : List Value} (hret : meth.sig.returnType = some .int) (hd : decode c.code pc = .ok (.ireturn, 1)) {fs : List Frame}
    (hl : ∀ (f : JFrame) (acts : List Action), f.method = m → f.locked = none → f.entered = [] → (doReturn e (T.setTop f) acts (some (.int z))).1 = T.setFrames fs) : Steps p.tables e below (T.setTop (mkF m pc Ls (.int z :: rest))) (T.setFrames fs) := by
  have hm' : T.vm.method? m = some meth := X.method'
  have hn : narrow .int (.int z) = .int z := rfl
  show Steps p.tables e below (T.setTop { method := m, pc := pc, locals := Ls, stack := _ :: rest, locked := none }) _
  jvm_step X.here [X.here.top, hx, hd, hm', hret, hn]
  first | (intro acts; rw [hl _ acts rfl rfl rfl]) | rw [hl _ _ rfl rfl rfl]
  exact Steps.refl _
end New
end Jvm.RoadKit
namespace Jvm.Pilot.@@N@@
open Jvm Jvm.ClassFile Sem Op Lib Jvm.Free Jvm.Stand Jvm.LawKit Jvm.RoadKit Bundle Jvm.Pilot.@@N@@.Jvm.D
/-- the run from U ends within this invocation, with P -/
def own_Fin (tb : Tables) (e : Env) (below : List Frame) (P : Outcome → State → Prop) (U : State) : Prop := ∃ s₂ o, Steps tb e below U s₂ ∧ s₂.status = .running ∧ Ended s₂ below o ∧ P o s₂
theorem own_by {tb : Tables} {e : Env} {below : List Frame} {P : Outcome → State → Prop} {U U' : State} (h : ∀ t, Steps tb e below U' t → Steps tb e below U t) (k : own_Fin tb e below P U') : own_Fin tb e below P U := by
  obtain ⟨t, o, h1, h2⟩ := k
  exact ⟨t, o, h _ h1, h2⟩
section Own
variable {p : Program} {l : Launch} {e : Env} {R : Room} {s : State} {m : MethodId} {args : Array Value} {below : List Frame} {meth : Method} {c : Code} {T : State} {locs : List Loc} {cells slots : Nat} {Z : State} {h h' : Heap} {a b : Addr} {z j x v : Int32} {B : Int32 → Int32}
theorem own_end (X : Stand p l e R s m args below meth c T locs cells slots) (hlk : meth.locks = false) {U : State} {v : Option Value} (hv : meth.sig.returnType = none → v = none) {Qv : Option Value → Heap → List Loc → Prop} {C S : Nat} (hC : cells ≤ C) (hS : slots ≤ S) (hq : Qv v T.heap locs)
    (hst : ∀ fs, (∀ (f : JFrame) (acts : List Action), f.method = m → f.locked = none → f.entered = [] → (doReturn e (T.setTop f) acts v).1 = T.setFrames fs) → Steps p.tables e below U (T.setFrames fs)) :
    own_Fin p.tables e below (fun o t => ∃ v L, o = .returned v ∧ Qv v t.heap L ∧ FrameEnd s o t L C S) U := by
  obtain ⟨fs, hr, hrun, hended, hW, hsame⟩ := X.leave (v := v) hv hlk
  exact ⟨_, _, hst fs hr, hrun, hended, _, _, rfl, hq, ⟨_, rfl⟩, hW, hsame.mono hC hS⟩
theorem own_retN (X : Stand p l e R s m args below meth c T locs cells slots) (hx : p.tables.exec = Jvm.exec) {pc : Nat} {Ls : Array Slot} {z : Int32} {t : FieldType} {rest : List Value} (hret : meth.sig.returnType = some t) (hlk : meth.locks = false) (ht : t = .boolean ∨ t = .byte ∨ t = .char ∨ t = .short)
    (hd : decode c.code pc = .ok (.ireturn, 1)) {Qv : Option Value → Heap → List Loc → Prop} {C S : Nat} (hC : cells ≤ C) (hS : slots ≤ S) (hq : Qv (some (.int (nar t z))) T.heap locs) :
    own_Fin p.tables e below (fun o t => ∃ v L, o = .returned v ∧ Qv v t.heap L ∧ FrameEnd s o t L C S) (T.setTop (mkF m pc Ls (.int z :: rest))) :=
  own_end X hlk (fun q => by rw [hret] at q; cases q) hC hS hq fun fs hr => retN X hx hret ht hd hr
theorem own_retI (X : Stand p l e R s m args below meth c T locs cells slots) (hx : p.tables.exec = Jvm.exec) {pc : Nat} {Ls : Array Slot} {z : Int32} {rest : List Value} (hret : meth.sig.returnType = some .int) (hlk : meth.locks = false)
    (hd : decode c.code pc = .ok (.ireturn, 1)) {Qv : Option Value → Heap → List Loc → Prop} {C S : Nat} (hC : cells ≤ C) (hS : slots ≤ S) (hq : Qv (some (.int z)) T.heap locs) :
    own_Fin p.tables e below (fun o t => ∃ v L, o = .returned v ∧ Qv v t.heap L ∧ FrameEnd s o t L C S) (T.setTop (mkF m pc Ls (.int z :: rest))) :=
  own_end X hlk (fun q => by rw [hret] at q; cases q) hC hS hq fun fs hr => retI X hx hret hd hr
theorem own_retJ (X : Stand p l e R s m args below meth c T locs cells slots) (hx : p.tables.exec = Jvm.exec) {pc : Nat} {Ls : Array Slot} {z : Int64} {rest : List Value} (hret : meth.sig.returnType = some .long) (hlk : meth.locks = false)
    (hd : decode c.code pc = .ok (.lreturn, 1)) {Qv : Option Value → Heap → List Loc → Prop} {C S : Nat} (hC : cells ≤ C) (hS : slots ≤ S) (hq : Qv (some (.long z)) T.heap locs) :
    own_Fin p.tables e below (fun o t => ∃ v L, o = .returned v ∧ Qv v t.heap L ∧ FrameEnd s o t L C S) (T.setTop (mkF m pc Ls (.long z :: rest))) :=
  own_end X hlk (fun q => by rw [hret] at q; cases q) hC hS hq fun fs hr => retOut X hx hret rfl (Or.inr (Or.inl ⟨rfl, rfl, z, rfl⟩)) hd hr
theorem own_retA (X : Stand p l e R s m args below meth c T locs cells slots) (hx : p.tables.exec = Jvm.exec) {pc : Nat} {Ls : Array Slot} {w : Value} {t : FieldType} {rest : List Value} (hret : meth.sig.returnType = some t) (hlk : meth.locks = false) (ht : t.isReference = true) (hw : w.isRef = true)
    (hd : decode c.code pc = .ok (.areturn, 1)) {Qv : Option Value → Heap → List Loc → Prop} {C S : Nat} (hC : cells ≤ C) (hS : slots ≤ S) (hq : Qv (some w) T.heap locs) :
    own_Fin p.tables e below (fun o t => ∃ v L, o = .returned v ∧ Qv v t.heap L ∧ FrameEnd s o t L C S) (T.setTop (mkF m pc Ls (w :: rest))) :=
  own_end X hlk (fun q => by rw [hret] at q; cases q) hC hS hq fun fs hr => retOut X hx hret (by cases t <;> simp [FieldType.isReference] at ht <;> (rcases ref_cases hw with rfl | ⟨z, rfl⟩ <;> rfl)) (Or.inr (Or.inr (Or.inr (Or.inr ⟨rfl, ht, hw⟩)))) hd hr
theorem own_retV (X : Stand p l e R s m args below meth c T locs cells slots) (hx : p.tables.exec = Jvm.exec) {pc : Nat} {Ls : Array Slot} (hret : meth.sig.returnType = none) (hlk : meth.locks = false)
    (hd : decode c.code pc = .ok (.return_, 1)) {Qv : Option Value → Heap → List Loc → Prop} {C S : Nat} (hC : cells ≤ C) (hS : slots ≤ S) (hq : Qv none T.heap locs) :
    own_Fin p.tables e below (fun o t => ∃ v L, o = .returned v ∧ Qv v t.heap L ∧ FrameEnd s o t L C S) (T.setTop (mkF m pc Ls [])) :=
  own_end X hlk (fun _ => rfl) hC hS hq fun fs hr => X.returnOut hx hret hd hr
/-- a byte[] of length z whose j-th byte is B j -/
def own_Byt (Z : State) (h : Heap) (a : Addr) (z : Int32) (B : Int32 → Int32) : Prop := ∃ cl : Cell, Arr Z h a cl .byte ∧ cl.slots.size = z.toNatClampNeg ∧ ¬ z < 0 ∧ ∀ j : Int32, ¬ (j < 0 ∨ cl.slots.size ≤ j.toNatClampNeg) → cl.slots[j.toNatClampNeg]? = some (.int (B j)) ∧ fits .byte (.int (B j)) = true
def own_upd (B : Int32 → Int32) (j v : Int32) : Int32 → Int32 := fun k => if k = j then v else B k
theorem own_Byt.lt (F : own_Byt Z h a z B) : a < h.size := by obtain ⟨c, A, -⟩ := F; exact A.lt
theorem own_Byt.ext (F : own_Byt Z h a z B) (E : Ext h h') : own_Byt Z h' a z B := by obtain ⟨c, A, r⟩ := F; exact ⟨c, A.ext E, r⟩
theorem own_Byt.other (F : own_Byt Z h b z B) {sl : Nat} {w : Value} (W : Wr h h' a sl w) (q : b ≠ a) : own_Byt Z h' b z B := by obtain ⟨c, A, r⟩ := F; exact ⟨c, A.other W q, r⟩
theorem own_Byt.keep {ws : List Addr} (F : own_Byt Z h a z B) (K : Keep h h' ws) (q : a ∉ ws) : own_Byt Z h' a z B := by obtain ⟨c, A, r⟩ := F; exact ⟨c, ⟨K.2.1 a c A.1 q, A.2⟩, r⟩
theorem own_Byt.new {k : ClassId} (A : Arr Z h a (newA k .byte z) .byte) (q : ¬ z < 0) : own_Byt Z h a z (fun _ => (0 : Int32)) :=
  ⟨_, A, sz_new _ _ _, q, fun j hj => by rw [sz_new] at hj; exact ⟨get_new hj, show fits .byte (.int 0) = true from by decide⟩⟩
theorem own_bal (X : Stand p l e R s m args below meth c T locs cells slots) (hx : p.tables.exec = Jvm.exec) (hZ : Z.Warmed39 s.vm) (eT : T.heap = h) (F : own_Byt Z h a z B) (h1 : ¬ j < 0) (h2 : j < z)
    {g : JFrame} (hg : g.method = m) {rest : List Value} (hs : g.stack = .int j :: .ref a :: rest) (hd : decode c.code g.pc = .ok (.baload, 1)) :
    ∀ t, Steps p.tables e below (T.setTop { g with pc := g.pc + 1, stack := .int (B j) :: rest }) t → Steps p.tables e below (T.setTop g) t := by
  obtain ⟨cl, A, S, N, H⟩ := F
  have hin := inb_of S ⟨h1, h2⟩
  exact X.baloadBytes hx (j := j) (v := .int (B j)) (by rw [eT]; exact A.1) (State.isArrayOf_alike hZ.alike A.2.1) A.2.2 hin (H j hin).1 hg hs hd
theorem own_len (X : Stand p l e R s m args below meth c T locs cells slots) (hx : p.tables.exec = Jvm.exec) (hZ : Z.Warmed39 s.vm) (eT : T.heap = h) (F : own_Byt Z h a z B)
    {g : JFrame} (hg : g.method = m) {rest : List Value} (hs : g.stack = .ref a :: rest) (hd : decode c.code g.pc = .ok (.arraylength, 1)) :
    ∀ t, Steps p.tables e below (T.setTop { g with pc := g.pc + 1, stack := .int z :: rest }) t → Steps p.tables e below (T.setTop g) t := by
  obtain ⟨cl, A, S, N, H⟩ := F
  intro t k
  refine X.arraylength hx (by rw [eT]; exact A.1) (State.isArrayOf_alike hZ.alike A.2.1) (g := g) hg hs hd _ ?_
  rw [len_of S N]
  exact k
theorem own_bst (X : Stand p l e R s m args below meth c T locs cells slots) (hx : p.tables.exec = Jvm.exec) (hZ : Z.Warmed39 s.vm) (eT : T.heap = h) (F : own_Byt Z h a z B) (h1 : ¬ j < 0) (h2 : j < z)
    {g : JFrame} (hg : g.method = m) {rest : List Value} (hs : g.stack = .int x :: .int j :: .ref a :: rest) (hd : decode c.code g.pc = .ok (.bastore, 1)) :
    ∃ T' h', Stand p l e R s m args below meth c T' (locs ++ [⟨a, j.toNatClampNeg⟩]) cells slots ∧ T'.heap = h' ∧ own_Byt Z h' a z (own_upd B j (x.toInt8.toInt32)) ∧ Wr h h' a j.toNatClampNeg (.int (nar .byte x)) ∧
      ∀ t, Steps p.tables e below (T'.setTop { g with pc := g.pc + 1, stack := rest }) t → Steps p.tables e below (T.setTop g) t := by
  obtain ⟨cl, A, S, N, H⟩ := F
  have hin := inb_of S ⟨h1, h2⟩
  obtain ⟨T', h', X', e', W, st⟩ := stB X hx hZ eT A (j := j) hin hg hs hd
  refine ⟨T', h', X', e', ⟨_, A.same W, by rw [sz_set]; exact S, N, fun k hk => ?_⟩, W, st⟩
  rw [sz_set] at hk
  by_cases q : k = j
  · rw [get_hit hin q, own_upd, if_pos q]; exact ⟨rfl, fits_nar_byte x⟩
  · rw [get_miss h1 (fun y => hk (Or.inl y)) q, own_upd, if_neg q]; exact H k hk
end Own
theorem own_nar_char (x : Int32) : nar .char (x.toUInt32.toUInt16.toUInt32.toInt32) = x.toUInt32.toUInt16.toUInt32.toInt32 := by
  show x.toUInt32.toUInt16.toUInt32.toInt32.toUInt32.toUInt16.toUInt32.toInt32 = _
  have h1 := c_i2c x
  have h2 := c_i2c (x.toUInt32.toUInt16.toUInt32.toInt32)
  apply Int32.toInt_inj.mp
  omega
theorem own_lt {x y : Int32} : x < y ↔ x.toInt < y.toInt := Int32.lt_iff_toInt_lt
theorem own_eq {x y : Int32} : x = y ↔ x.toInt = y.toInt := Int32.toInt_inj.symm
theorem own_ltL {x y : Int64} : x < y ↔ x.toInt < y.toInt := Int64.lt_iff_toInt_lt
theorem own_eqL {x y : Int64} : x = y ↔ x.toInt = y.toInt := Int64.toInt_inj.symm
theorem own_z : (0 : Int32).toInt = 0 := by decide
theorem own_nn {x : Int32} (h : 0 ≤ x.toInt) : ¬ x < 0 := fun q => by have := own_lt.mp q; rw [own_z] at this; omega
theorem own_ltof {x y : Int32} (h : x.toInt < y.toInt) : x < y := own_lt.mpr h
theorem own_ge {x y : Int32} (h : ¬ x < y) : y.toInt ≤ x.toInt := by rw [own_lt] at h; omega
theorem own_add (x k : Int32) (h1 : -2147483648 ≤ x.toInt + k.toInt) (h2 : x.toInt + k.toInt < 2147483648) : (x + k).toInt = x.toInt + k.toInt := by
  have a := c_iadd x k
  have r := rng32 (x + k)
  omega
theorem own_sub (x k : Int32) (h1 : -2147483648 ≤ x.toInt - k.toInt) (h2 : x.toInt - k.toInt < 2147483648) : (x - k).toInt = x.toInt - k.toInt := by
  have a := c_isub x k
  have r := rng32 (x - k)
  omega
theorem own_clamp {x : Int32} {n : Nat} (h : ¬ x < 0) (q : x.toInt ≤ n) : x.toNatClampNeg ≤ n := by
  have := nat_of h
  omega
section OwnObj
variable {p : Program} {l : Launch} {e : Env} {R : Room} {s : State} {m : MethodId} {args : Array Value} {below : List Frame} {meth : Method} {c : Code} {T : State} {locs : List Loc} {cells slots : Nat} {Z : State} {a0 : Array Value} {h h' : Heap} {a b : Addr} {z j : Int32}
/-- an Object[] of length z -/
def own_Obj (Z : State) (h : Heap) (a : Addr) (z : Int32) : Prop := ∃ cl : Cell, Arr Z h a cl (.object "java/lang/Object") ∧ cl.slots.size = z.toNatClampNeg ∧ ¬ z < 0
theorem own_Obj.ext (F : own_Obj Z h a z) (E : Ext h h') : own_Obj Z h' a z := by obtain ⟨c, A, r⟩ := F; exact ⟨c, A.ext E, r⟩
theorem own_Obj.other (F : own_Obj Z h b z) {sl : Nat} {w : Value} (W : Wr h h' a sl w) (q : b ≠ a) : own_Obj Z h' b z := by obtain ⟨c, A, r⟩ := F; exact ⟨c, A.other W q, r⟩
theorem own_Obj.keep {ws : List Addr} (F : own_Obj Z h a z) (K : Keep h h' ws) (q : a ∉ ws) : own_Obj Z h' a z := by obtain ⟨c, A, r⟩ := F; exact ⟨c, ⟨K.2.1 a c A.1 q, A.2⟩, r⟩
theorem own_Obj.same (F : own_Obj Z h a z) {sl : Nat} {w : Value} (W : Wr h h' a sl w) : own_Obj Z h' a z := by obtain ⟨c, A, r1, r2⟩ := F; exact ⟨_, A.same W, by rw [sz_set]; exact r1, r2⟩
theorem own_Obj.new {k : ClassId} (A : Arr Z h a (newA k (.object "java/lang/Object") z) (.object "java/lang/Object")) (q : ¬ z < 0) : own_Obj Z h a z := ⟨_, A, sz_new _ _ _, q⟩
theorem own_Obj.ne {C : String} {k : Nat} (F : Exa Z h a C) (wi : (Cond.instantiable C k).before a0 Z = true) (G : own_Obj Z h b z) : a ≠ b := by obtain ⟨c, A, -⟩ := G; exact ne_arr F wi A
theorem own_olen (X : Stand p l e R s m args below meth c T locs cells slots) (hx : p.tables.exec = Jvm.exec) (hZ : Z.Warmed39 s.vm) (eT : T.heap = h) (F : own_Obj Z h a z)
    {g : JFrame} (hg : g.method = m) {rest : List Value} (hs : g.stack = .ref a :: rest) (hd : decode c.code g.pc = .ok (.arraylength, 1)) :
    ∀ t, Steps p.tables e below (T.setTop { g with pc := g.pc + 1, stack := .int z :: rest }) t → Steps p.tables e below (T.setTop g) t := by
  obtain ⟨cl, A, S, N⟩ := F
  intro t k
  refine X.arraylength hx (by rw [eT]; exact A.1) (State.isArrayOf_alike hZ.alike A.2.1) (g := g) hg hs hd _ ?_
  rw [len_of S N]
  exact k
theorem own_ost (X : Stand p l e R s m args below meth c T locs cells slots) (hx : p.tables.exec = Jvm.exec) (hZ : Z.Warmed39 s.vm) (eT : T.heap = h) (F : own_Obj Z h a z) (h1 : ¬ j < 0) (h2 : j < z)
    {g : JFrame} (hg : g.method = m) {rest : List Value} (hs : g.stack = .null :: .int j :: .ref a :: rest) (hd : decode c.code g.pc = .ok (.aastore, 1)) :
    ∃ T' h', Stand p l e R s m args below meth c T' (locs ++ [⟨a, j.toNatClampNeg⟩]) cells slots ∧ T'.heap = h' ∧ Wr h h' a j.toNatClampNeg .null ∧ ∀ t, Steps p.tables e below (T'.setTop { g with pc := g.pc + 1, stack := rest }) t → Steps p.tables e below (T.setTop g) t := by
  obtain ⟨cl, A, S, N⟩ := F
  exact stR X hx hZ eT A (inb_of S ⟨h1, h2⟩) rfl (Or.inl rfl) hg hs hd
end OwnObj
theorem d3_0 : decode jdk_22_method_1_code 0 = .ok (.aload_n 0, 1) := by decide +kernel
theorem d3_1 : decode jdk_22_method_1_code 1 = .ok (.invokespecial 1, 3) := by decide +kernel
theorem d3_4 : decode jdk_22_method_1_code 4 = .ok (.return_, 1) := by decide +kernel
theorem pn_java_util_AbstractCollection : plainName "java/util/AbstractCollection" = true := by first | (simp [plainName, overriddenIn]; done) | decide +kernel
theorem ef_3 (m : MethodId) (o0 : Addr) : entryFrame m #[(.ref o0)] 1 = mkF m 0 #[.val (.ref o0)] [] := by first | (simp [entryFrame, mkF, argsToLocals, Value.category]; done) | rfl
def Q3  (h0 : Heap) (n0 : Nat) (v : Option Value) (h : Heap) (L : List Loc) : Prop := v = none ∧ Fr n0 L ∧ h = h0
set_option maxRecDepth 65536 in
set_option maxHeartbeats 40000000 in
theorem rm3 (l : Launch) (Z : State) (a0 : Array Value) (hw : ∀ d ∈ tables_1, d.before a0 Z = true) (ws : List Jvm.Cond) (o0 : Addr)   (h0 : Heap) (n0 : Nat) (Z0 : n0 ≤ h0.size)   :
    MetFree l (⟨"java/util/AbstractCollection", "<init>", "()V"⟩ : MethodName) (head1 (Jvm.Cond.code (⟨"java/util/AbstractCollection", "<init>", "()V"⟩ : MethodName) jdk_22_method_1_code 1 none :: ws) ({ frames := 1, cells := 0, slots := 0, locals := 12 } : Room)) (fun a U => a = #[(.ref o0)] ∧ Z.Warmed39 U.vm ∧ U.heap = h0) (fun _ _ _ _ _ => True) (fun _ U o U' => ∃ v L, o = .returned v ∧ Q3  h0 n0 v U'.heap L ∧ FrameEnd U o U' L ({ frames := 1, cells := 0, slots := 0, locals := 12 } : Room).cells ({ frames := 1, cells := 0, slots := 0, locals := 12 } : Room).slots) := by
  refine MetFree.of_bodySF (plainFor_of_name pn_java_util_AbstractCollection) hisR ?_
  intro p e s m args below meth c s₁ Bd hml0 hP hK
  obtain ⟨rfl, hZ, hh⟩ := hP
  have hx := Bd.exec
  have hby := Bd.bytes
  have hlk : meth.locks = false := BodyLoose.notSynchronized Bd
  have hml : c.maxLocals = 1 := hml0
  have hown : s.vm.findClass "java/util/AbstractCollection" = some m.cls := findClass_of_methodNamed Bd.named
  have hnm := (name_of_methodNamed Bd.named Bd.method).1
  have X0 : Stand p l e ({ frames := 1, cells := 0, slots := 0, locals := 12 } : Room) s m #[(.ref o0)] below meth c s₁ [] 0 0 := Stand.of_body Bd
  have e0 : s₁.heap = h0 := by rw [← hh, Bd.state]; rfl
  have N0 := Fr.nil n0
  refine own_by (U' := s₁.setTop (mkF m 0 #[.val (.ref o0)] [])) (fun t k => castTop (ef_3 m o0) k) ?_
  refine own_by (fun _ k => XS.aloadN X0.here hx rfl (hb hby d3_0) rfl rfl k) ?_
  show own_Fin p.tables e below _ (s₁.setTop (mkF m 1 #[.val (.ref o0)] [(.ref o0)]))
  obtain ⟨T1, X1, e1, st1⟩ := initO X0 hx hZ hown (hw _ (List.mem_of_getElem? (i := 18) rfl)) (hw _ (List.mem_of_getElem? (i := 19) rfl)) (hw _ (List.mem_of_getElem? (i := 20) rfl)) e0 (g := (mkF m 1 #[.val (.ref o0)] [(.ref o0)])) rfl (by rw [hml]; rfl) rfl (hb hby d3_1) (by decide) (W := 0) (by show 2 * 0 + _ ≤ _; exact Nat.le_of_eq rfl) (by decide)
  refine own_by st1 ?_
  show own_Fin p.tables e below _ (T1.setTop (mkF m 4 #[.val (.ref o0)] []))
  exact own_retV X1 hx Bd.returns hlk (hb hby d3_4) (by decide) (by decide) ⟨rfl, N0, e1⟩
theorem d10_0 : decode jdk_71_method_1_code 0 = .ok (.aload_n 0, 1) := by decide +kernel
theorem d10_1 : decode jdk_71_method_1_code 1 = .ok (.invokespecial 1, 3) := by decide +kernel
theorem d10_4 : decode jdk_71_method_1_code 4 = .ok (.return_, 1) := by decide +kernel
theorem pn_java_util_AbstractMap : plainName "java/util/AbstractMap" = true := by first | (simp [plainName, overriddenIn]; done) | decide +kernel
theorem ef_10 (m : MethodId) (o0 : Addr) : entryFrame m #[(.ref o0)] 1 = mkF m 0 #[.val (.ref o0)] [] := by first | (simp [entryFrame, mkF, argsToLocals, Value.category]; done) | rfl
def Q10  (h0 : Heap) (n0 : Nat) (v : Option Value) (h : Heap) (L : List Loc) : Prop := v = none ∧ Fr n0 L ∧ h = h0
set_option maxRecDepth 65536 in
set_option maxHeartbeats 40000000 in
theorem rm10 (l : Launch) (Z : State) (a0 : Array Value) (hw : ∀ d ∈ tables_1, d.before a0 Z = true) (ws : List Jvm.Cond) (o0 : Addr)   (h0 : Heap) (n0 : Nat) (Z0 : n0 ≤ h0.size)   :
    MetFree l (⟨"java/util/AbstractMap", "<init>", "()V"⟩ : MethodName) (head1 (Jvm.Cond.code (⟨"java/util/AbstractMap", "<init>", "()V"⟩ : MethodName) jdk_71_method_1_code 1 none :: ws) ({ frames := 1, cells := 0, slots := 0, locals := 12 } : Room)) (fun a U => a = #[(.ref o0)] ∧ Z.Warmed39 U.vm ∧ U.heap = h0) (fun _ _ _ _ _ => True) (fun _ U o U' => ∃ v L, o = .returned v ∧ Q10  h0 n0 v U'.heap L ∧ FrameEnd U o U' L ({ frames := 1, cells := 0, slots := 0, locals := 12 } : Room).cells ({ frames := 1, cells := 0, slots := 0, locals := 12 } : Room).slots) := by
  refine MetFree.of_bodySF (plainFor_of_name pn_java_util_AbstractMap) hisR ?_
  intro p e s m args below meth c s₁ Bd hml0 hP hK
  obtain ⟨rfl, hZ, hh⟩ := hP
  have hx := Bd.exec
  have hby := Bd.bytes
  have hlk : meth.locks = false := BodyLoose.notSynchronized Bd
  have hml : c.maxLocals = 1 := hml0
  have hown : s.vm.findClass "java/util/AbstractMap" = some m.cls := findClass_of_methodNamed Bd.named
  have hnm := (name_of_methodNamed Bd.named Bd.method).1
  have X0 : Stand p l e ({ frames := 1, cells := 0, slots := 0, locals := 12 } : Room) s m #[(.ref o0)] below meth c s₁ [] 0 0 := Stand.of_body Bd
  have e0 : s₁.heap = h0 := by rw [← hh, Bd.state]; rfl
  have N0 := Fr.nil n0
  refine own_by (U' := s₁.setTop (mkF m 0 #[.val (.ref o0)] [])) (fun t k => castTop (ef_10 m o0) k) ?_
  refine own_by (fun _ k => XS.aloadN X0.here hx rfl (hb hby d10_0) rfl rfl k) ?_
  show own_Fin p.tables e below _ (s₁.setTop (mkF m 1 #[.val (.ref o0)] [(.ref o0)]))
  obtain ⟨T1, X1, e1, st1⟩ := initO X0 hx hZ hown (hw _ (List.mem_of_getElem? (i := 64) rfl)) (hw _ (List.mem_of_getElem? (i := 19) rfl)) (hw _ (List.mem_of_getElem? (i := 20) rfl)) e0 (g := (mkF m 1 #[.val (.ref o0)] [(.ref o0)])) rfl (by rw [hml]; rfl) rfl (hb hby d10_1) (by decide) (W := 0) (by show 2 * 0 + _ ≤ _; exact Nat.le_of_eq rfl) (by decide)
  refine own_by st1 ?_
  show own_Fin p.tables e below _ (T1.setTop (mkF m 4 #[.val (.ref o0)] []))
  exact own_retV X1 hx Bd.returns hlk (hb hby d10_4) (by decide) (by decide) ⟨rfl, N0, e1⟩
theorem d8_0 : decode jdk_91_method_1_code 0 = .ok (.aload_n 0, 1) := by decide +kernel
theorem d8_1 : decode jdk_91_method_1_code 1 = .ok (.invokespecial 1, 3) := by decide +kernel
theorem d8_4 : decode jdk_91_method_1_code 4 = .ok (.return_, 1) := by decide +kernel
theorem pd___V : parseMethodDescriptor "()V" = some ⟨[], none⟩ := by decide +kernel
theorem pn_java_util_AbstractSet : plainName "java/util/AbstractSet" = true := by first | (simp [plainName, overriddenIn]; done) | decide +kernel
theorem ef_8 (m : MethodId) (o0 : Addr) : entryFrame m #[(.ref o0)] 1 = mkF m 0 #[.val (.ref o0)] [] := by first | (simp [entryFrame, mkF, argsToLocals, Value.category]; done) | rfl
def Q8  (h0 : Heap) (n0 : Nat) (v : Option Value) (h : Heap) (L : List Loc) : Prop := v = none ∧ Fr n0 L ∧ h = h0
set_option maxRecDepth 65536 in
set_option maxHeartbeats 40000000 in
theorem rm8 (l : Launch) (Z : State) (a0 : Array Value) (hw : ∀ d ∈ tables_1, d.before a0 Z = true) (ws : List Jvm.Cond) (o0 : Addr)   (h0 : Heap) (n0 : Nat) (Z0 : n0 ≤ h0.size)   :
    MetFree l (⟨"java/util/AbstractSet", "<init>", "()V"⟩ : MethodName) (head1 (Jvm.Cond.code (⟨"java/util/AbstractSet", "<init>", "()V"⟩ : MethodName) jdk_91_method_1_code 1 none :: ws) ({ frames := 2, cells := 0, slots := 0, locals := 24 } : Room)) (fun a U => a = #[(.ref o0)] ∧ Z.Warmed39 U.vm ∧ U.heap = h0) (fun _ _ _ _ _ => True) (fun _ U o U' => ∃ v L, o = .returned v ∧ Q8  h0 n0 v U'.heap L ∧ FrameEnd U o U' L ({ frames := 2, cells := 0, slots := 0, locals := 24 } : Room).cells ({ frames := 2, cells := 0, slots := 0, locals := 24 } : Room).slots) := by
  refine MetFree.of_bodySF (plainFor_of_name pn_java_util_AbstractSet) hisR ?_
  intro p e s m args below meth c s₁ Bd hml0 hP hK
  obtain ⟨rfl, hZ, hh⟩ := hP
  have hx := Bd.exec
  have hby := Bd.bytes
  have hlk : meth.locks = false := BodyLoose.notSynchronized Bd
  have hml : c.maxLocals = 1 := hml0
  have hown : s.vm.findClass "java/util/AbstractSet" = some m.cls := findClass_of_methodNamed Bd.named
  have hnm := (name_of_methodNamed Bd.named Bd.method).1
  have X0 : Stand p l e ({ frames := 2, cells := 0, slots := 0, locals := 24 } : Room) s m #[(.ref o0)] below meth c s₁ [] 0 0 := Stand.of_body Bd
  have e0 : s₁.heap = h0 := by rw [← hh, Bd.state]; rfl
  have N0 := Fr.nil n0
  refine own_by (U' := s₁.setTop (mkF m 0 #[.val (.ref o0)] [])) (fun t k => castTop (ef_8 m o0) k) ?_
  refine own_by (fun _ k => XS.aloadN X0.here hx rfl (hb hby d8_0) rfl rfl k) ?_
  show own_Fin p.tables e below _ (s₁.setTop (mkF m 1 #[.val (.ref o0)] [(.ref o0)]))
  obtain ⟨_, _, ⟨T1, L1, k1, n1⟩, -, X1, ⟨Lc1, hQ1, l1, y1, z1⟩, st1⟩ := X0.specialBack hx (y := (⟨"java/util/AbstractCollection", "<init>", "()V"⟩ : MethodName)) rfl hown (mvT hZ (hw _ (List.mem_of_getElem? (i := 49) rfl))) (mvT hZ (hw _ (List.mem_of_getElem? (i := 13) rfl))) (mvT hZ (hw _ (List.mem_of_getElem? (i := 17) rfl))) (by decide) (backOf (W := 0) (rm3 l Z a0 hw [] o0 h0 n0 Z0 ) hZ (hw _ (List.mem_of_getElem? (i := 17) rfl)) (hw _ (List.mem_of_getElem? (i := 16) rfl)) (by decide) (by decide)) (g := (mkF m 1 #[.val (.ref o0)] [(.ref o0)])) rfl (by rw [hml]; rfl) (Steps.refl _) (a := o0) (argsL := []) (rest := []) (lenOf pd___V rfl) rfl (by show 2 * 0 + _ ≤ _; exact Nat.le_of_eq rfl) (hb hby d8_1) (fun _ _ => ⟨rfl, e0, (by decide : 0 + 0 ≤ _), (by decide : 0 + 0 ≤ _)⟩)
  dsimp only [Pt.U, Pt.locs, Pt.cells, Pt.slots] at X1 l1 y1 z1 st1 hQ1
  subst l1 y1 z1
  obtain ⟨rfl, N1q, e1⟩ := hQ1
  have N1 := Fr.app N0 N1q
  refine own_by (fun _ k => st1.trans k) ?_
  show own_Fin p.tables e below _ (T1.setTop (mkF m 4 #[.val (.ref o0)] []))
  exact own_retV X1 hx Bd.returns hlk (hb hby d8_4) (by decide) (by decide) ⟨rfl, N1, e1⟩
theorem d17_0 : decode jdk_29_method_65_code 0 = .ok (.iload_n 0, 1) := by decide +kernel
theorem d17_1 : decode jdk_29_method_65_code 1 = .ok (.iload_n 1, 1) := by decide +kernel
theorem d17_2 : decode jdk_29_method_65_code 2 = .ok (.if_icmp .lt 7, 3) := by decide +kernel
theorem d17_5 : decode jdk_29_method_65_code 5 = .ok (.iload_n 0, 1) := by decide +kernel
theorem d17_6 : decode jdk_29_method_65_code 6 = .ok (.goto 4, 3) := by decide +kernel
theorem d17_9 : decode jdk_29_method_65_code 9 = .ok (.iload_n 1, 1) := by decide +kernel
theorem d17_10 : decode jdk_29_method_65_code 10 = .ok (.ireturn, 1) := by decide +kernel
theorem ef_17 (m : MethodId) (p0 : Int32) (p1 : Int32) : entryFrame m #[(.int p0), (.int p1)] 2 = mkF m 0 #[.val (.int p0), .val (.int p1)] [] := by first | (simp [entryFrame, mkF, argsToLocals, Value.category]; done) | rfl
def f17 (p0 : Int32) (p1 : Int32) : Int32 :=
  if p0 < p1 then
    p1
  else
    p0
def Q17 (p0 : Int32) (p1 : Int32) (h0 : Heap) (n0 : Nat) (v : Option Value) (h : Heap) (L : List Loc) : Prop := v = some (.int (f17 p0 p1)) ∧ Fr n0 L ∧ h = h0
set_option maxRecDepth 65536 in
set_option maxHeartbeats 40000000 in
theorem rm17 (l : Launch) (Z : State) (a0 : Array Value) (hw : ∀ d ∈ tables_1, d.before a0 Z = true) (ws : List Jvm.Cond) (p0 : Int32) (p1 : Int32)   (h0 : Heap) (n0 : Nat) (Z0 : n0 ≤ h0.size)   :
    MetFree l (⟨"java/lang/Math", "max", "(II)I"⟩ : MethodName) (head1 (Jvm.Cond.code (⟨"java/lang/Math", "max", "(II)I"⟩ : MethodName) jdk_29_method_65_code 2 (some .int) :: ws) ({ frames := 0, cells := 0, slots := 0, locals := 0 } : Room)) (fun a U => a = #[(.int p0), (.int p1)] ∧ Z.Warmed39 U.vm ∧ U.heap = h0) (fun _ _ _ _ _ => True) (fun _ U o U' => ∃ v L, o = .returned v ∧ Q17 p0 p1 h0 n0 v U'.heap L ∧ FrameEnd U o U' L ({ frames := 0, cells := 0, slots := 0, locals := 0 } : Room).cells ({ frames := 0, cells := 0, slots := 0, locals := 0 } : Room).slots) := by
  refine MetFree.of_bodySF (Jvm.Free.JP.mathPlain rfl (by decide +kernel)) hisR ?_
  intro p e s m args below meth c s₁ Bd hml0 hP hK
  obtain ⟨rfl, hZ, hh⟩ := hP
  have hx := Bd.exec
  have hby := Bd.bytes
  have hlk : meth.locks = false := BodyLoose.notSynchronized Bd
  have hml : c.maxLocals = 2 := hml0
  have hown : s.vm.findClass "java/lang/Math" = some m.cls := findClass_of_methodNamed Bd.named
  have hnm := (name_of_methodNamed Bd.named Bd.method).1
  have X0 : Stand p l e ({ frames := 0, cells := 0, slots := 0, locals := 0 } : Room) s m #[(.int p0), (.int p1)] below meth c s₁ [] 0 0 := Stand.of_body Bd
  have e0 : s₁.heap = h0 := by rw [← hh, Bd.state]; rfl
  have N0 := Fr.nil n0
  refine own_by (U' := s₁.setTop (mkF m 0 #[.val (.int p0), .val (.int p1)] [])) (fun t k => castTop (ef_17 m p0 p1) k) ?_
  refine own_by (fun _ k => XS.iloadN X0.here hx rfl (hb hby d17_0) rfl k) ?_
  show own_Fin p.tables e below _ (s₁.setTop (mkF m 1 #[.val (.int p0), .val (.int p1)] [(.int p0)]))
  refine own_by (fun _ k => XS.iloadN X0.here hx rfl (hb hby d17_1) rfl k) ?_
  show own_Fin p.tables e below _ (s₁.setTop (mkF m 2 #[.val (.int p0), .val (.int p1)] [(.int p1), (.int p0)]))
  by_cases hc1 : p0 < p1
  · refine own_by (fun _ k => XS.icmpYes X0.here hx rfl (pc0 := 2) (pc' := 9) rfl (hb hby d17_2) rfl (tlt hc1).1 (by decide) (by decide) k) ?_
    show own_Fin p.tables e below _ (s₁.setTop (mkF m 9 #[.val (.int p0), .val (.int p1)] []))
    refine own_by (fun _ k => XS.iloadN X0.here hx rfl (hb hby d17_9) rfl k) ?_
    show own_Fin p.tables e below _ (s₁.setTop (mkF m 10 #[.val (.int p0), .val (.int p1)] [(.int p1)]))
    have ef : f17 p0 p1 = p1 := by unfold f17; rw [if_pos hc1]
    exact own_retI X0 hx Bd.returns hlk (hb hby d17_10) (by decide) (by decide) ⟨by rw [ef], N0, e0⟩
  · refine own_by (fun _ k => XS.icmpNo X0.here hx rfl (hb hby d17_2) rfl (flt hc1).1 k) ?_
    show own_Fin p.tables e below _ (s₁.setTop (mkF m 5 #[.val (.int p0), .val (.int p1)] []))
    refine own_by (fun _ k => XS.iloadN X0.here hx rfl (hb hby d17_5) rfl k) ?_
    show own_Fin p.tables e below _ (s₁.setTop (mkF m 6 #[.val (.int p0), .val (.int p1)] [(.int p0)]))
    refine own_by (fun _ k => XS.goto X0.here hx rfl (pc0 := 6) (pc' := 10) rfl (hb hby d17_6) (by decide) (by decide) k) ?_
    show own_Fin p.tables e below _ (s₁.setTop (mkF m 10 #[.val (.int p0), .val (.int p1)] [(.int p0)]))
    have ef : f17 p0 p1 = p0 := by unfold f17; rw [if_neg hc1]
    exact own_retI X0 hx Bd.returns hlk (hb hby d17_10) (by decide) (by decide) ⟨by rw [ef], N0, e0⟩
theorem d2_0 : decode jdk_39_method_1_code 0 = .ok (.aload_n 0, 1) := by decide +kernel
theorem d2_1 : decode jdk_39_method_1_code 1 = .ok (.invokespecial 1, 3) := by decide +kernel
theorem d2_4 : decode jdk_39_method_1_code 4 = .ok (.aload_n 0, 1) := by decide +kernel
theorem d2_5 : decode jdk_39_method_1_code 5 = .ok (.iconst 0, 1) := by decide +kernel
theorem d2_6 : decode jdk_39_method_1_code 6 = .ok (.putfield 7, 3) := by decide +kernel
theorem d2_9 : decode jdk_39_method_1_code 9 = .ok (.return_, 1) := by decide +kernel
theorem pn_java_util_AbstractList : plainName "java/util/AbstractList" = true := by first | (simp [plainName, overriddenIn]; done) | decide +kernel
theorem ef_2 (m : MethodId) (o0 : Addr) : entryFrame m #[(.ref o0)] 1 = mkF m 0 #[.val (.ref o0)] [] := by first | (simp [entryFrame, mkF, argsToLocals, Value.category]; done) | rfl
def Q2 (Z : State) (o0 dd : Addr) (h0 : Heap) (n0 : Nat) (v : Option Value) (h : Heap) (L : List Loc) : Prop := v = none ∧ Fr n0 L ∧ Keep h0 h [o0] ∧ Exa Z h o0 "java/util/ArrayList" ∧ Fld Z h o0 "java/util/AbstractList" "modCount" "I" (.int (0 : Int32)) ∧ Fld Z h o0 "java/util/ArrayList" "size" "I" (.int (0 : Int32)) ∧ Fld Z h o0 "java/util/ArrayList" "elementData" "[Ljava/lang/Object;" .null ∧ Sta Z h "java/util/ArrayList" "DEFAULTCAPACITY_EMPTY_ELEMENTDATA" "[Ljava/lang/Object;" (.ref dd)
set_option maxRecDepth 65536 in
set_option maxHeartbeats 40000000 in
theorem rm2 (l : Launch) (Z : State) (a0 : Array Value) (hw : ∀ d ∈ tables_1, d.before a0 Z = true) (ws : List Jvm.Cond) (o0 : Addr)  (dd : Addr) (h0 : Heap) (n0 : Nat) (Z0 : n0 ≤ h0.size)  (E_o0 : Exa Z h0 o0 "java/util/ArrayList") (FM_o0 : Fld Z h0 o0 "java/util/AbstractList" "modCount" "I" (.int (0 : Int32))) (FS_o0 : Fld Z h0 o0 "java/util/ArrayList" "size" "I" (.int (0 : Int32))) (FE_o0 : Fld Z h0 o0 "java/util/ArrayList" "elementData" "[Ljava/lang/Object;" .null) (S_ : Sta Z h0 "java/util/ArrayList" "DEFAULTCAPACITY_EMPTY_ELEMENTDATA" "[Ljava/lang/Object;" (.ref dd)) (g_o0 : n0 ≤ o0) :
    MetFree l (⟨"java/util/AbstractList", "<init>", "()V"⟩ : MethodName) (head1 (Jvm.Cond.code (⟨"java/util/AbstractList", "<init>", "()V"⟩ : MethodName) jdk_39_method_1_code 1 none :: ws) ({ frames := 2, cells := 0, slots := 0, locals := 24 } : Room)) (fun a U => a = #[(.ref o0)] ∧ Z.Warmed39 U.vm ∧ U.heap = h0) (fun _ _ _ _ _ => True) (fun _ U o U' => ∃ v L, o = .returned v ∧ Q2 Z o0 dd h0 n0 v U'.heap L ∧ FrameEnd U o U' L ({ frames := 2, cells := 0, slots := 0, locals := 24 } : Room).cells ({ frames := 2, cells := 0, slots := 0, locals := 24 } : Room).slots) := by
  refine MetFree.of_bodySF (plainFor_of_name pn_java_util_AbstractList) hisR ?_
  intro p e s m args below meth c s₁ Bd hml0 hP hK
  obtain ⟨rfl, hZ, hh⟩ := hP
  have hx := Bd.exec
  have hby := Bd.bytes
  have hlk : meth.locks = false := BodyLoose.notSynchronized Bd
  have hml : c.maxLocals = 1 := hml0
  have hown : s.vm.findClass "java/util/AbstractList" = some m.cls := findClass_of_methodNamed Bd.named
  have hnm := (name_of_methodNamed Bd.named Bd.method).1
  have X0 : Stand p l e ({ frames := 2, cells := 0, slots := 0, locals := 24 } : Room) s m #[(.ref o0)] below meth c s₁ [] 0 0 := Stand.of_body Bd
  have e0 : s₁.heap = h0 := by rw [← hh, Bd.state]; rfl
  have N0 := Fr.nil n0
  refine own_by (U' := s₁.setTop (mkF m 0 #[.val (.ref o0)] [])) (fun t k => castTop (ef_2 m o0) k) ?_
  refine own_by (fun _ k => XS.aloadN X0.here hx rfl (hb hby d2_0) rfl rfl k) ?_
  show own_Fin p.tables e below _ (s₁.setTop (mkF m 1 #[.val (.ref o0)] [(.ref o0)]))
  obtain ⟨_, _, ⟨T1, L1, k1, n1⟩, -, X1, ⟨Lc1, hQ1, l1, y1, z1⟩, st1⟩ := X0.specialBack hx (y := (⟨"java/util/AbstractCollection", "<init>", "()V"⟩ : MethodName)) rfl hown (mvT hZ (hw _ (List.mem_of_getElem? (i := 12) rfl))) (mvT hZ (hw _ (List.mem_of_getElem? (i := 13) rfl))) (mvT hZ (hw _ (List.mem_of_getElem? (i := 17) rfl))) (by decide) (backOf (W := 0) (rm3 l Z a0 hw [] o0 h0 n0 Z0 ) hZ (hw _ (List.mem_of_getElem? (i := 17) rfl)) (hw _ (List.mem_of_getElem? (i := 16) rfl)) (by decide) (by decide)) (g := (mkF m 1 #[.val (.ref o0)] [(.ref o0)])) rfl (by rw [hml]; rfl) (Steps.refl _) (a := o0) (argsL := []) (rest := []) (lenOf pd___V rfl) rfl (by show 2 * 0 + _ ≤ _; exact Nat.le_of_eq rfl) (hb hby d2_1) (fun _ _ => ⟨rfl, e0, (by decide : 0 + 0 ≤ _), (by decide : 0 + 0 ≤ _)⟩)
  dsimp only [Pt.U, Pt.locs, Pt.cells, Pt.slots] at X1 l1 y1 z1 st1 hQ1
  subst l1 y1 z1
  obtain ⟨rfl, N1q, e1⟩ := hQ1
  have N1 := Fr.app N0 N1q
  refine own_by (fun _ k => st1.trans k) ?_
  show own_Fin p.tables e below _ (T1.setTop (mkF m 4 #[.val (.ref o0)] []))
  refine own_by (fun _ k => XS.aloadN X1.here hx rfl (hb hby d2_4) rfl rfl k) ?_
  show own_Fin p.tables e below _ (T1.setTop (mkF m 5 #[.val (.ref o0)] [(.ref o0)]))
  refine own_by (fun _ k => XS.iconst X1.here hx rfl (hb hby d2_5) k) ?_
  show own_Fin p.tables e below _ (T1.setTop (mkF m 6 #[.val (.ref o0)] [(.int (0 : Int32)), (.ref o0)]))
  obtain ⟨T2, h2, X2, e2, W2, st2⟩ := putF X1 hx hZ hown (host := "") (Or.inl (hw _ (List.mem_of_getElem? (i := 21) rfl))) Via.refl e1 FM_o0 E_o0 (Or.inl (hw _ (List.mem_of_getElem? (i := 22) rfl))) (hw _ (List.mem_of_getElem? (i := 1) rfl)) (ty := .int) (by decide) rfl rfl (g := (mkF m 6 #[.val (.ref o0)] [(.int (0 : Int32)), (.ref o0)])) rfl rfl (hb hby d2_6)
  have N2 := Fr.snoc X2 N1 g_o0
  have Z2 : n0 ≤ h2.size := Nat.le_trans Z0 (Keep.of_wr W2).1
  refine own_by st2 ?_
  have Fw2 := FM_o0.same W2
  have K2 : Keep h0 h2 [o0] := (Keep.refl h0 [o0]).wr W2 (Or.inl (List.mem_of_getElem? (i := 0) rfl))
  have S2_0 : Sta Z h2 "java/util/ArrayList" "DEFAULTCAPACITY_EMPTY_ELEMENTDATA" "[Ljava/lang/Object;" (.ref dd) := (S_.wr W2)
  have E2_0 : Exa Z h2 o0 "java/util/ArrayList" := (E_o0.wr W2)
  have F2_1 : Fld Z h2 o0 "java/util/ArrayList" "size" "I" (.int (0 : Int32)) := (FS_o0.other W2 (Or.inr (slot_ne (Or.inl (hw _ (List.mem_of_getElem? (i := 91) rfl))) (Or.inl (hw _ (List.mem_of_getElem? (i := 22) rfl))) (by decide) (t := .int) (t' := .int) (by decide) (by decide))))
  have F2_2 : Fld Z h2 o0 "java/util/ArrayList" "elementData" "[Ljava/lang/Object;" .null := (FE_o0.other W2 (Or.inr (slot_ne (Or.inl (hw _ (List.mem_of_getElem? (i := 25) rfl))) (Or.inl (hw _ (List.mem_of_getElem? (i := 22) rfl))) (by decide) (t := (.array (.object "java/lang/Object"))) (t' := .int) (by decide) (by decide))))
  show own_Fin p.tables e below _ (T2.setTop (mkF m 9 #[.val (.ref o0)] []))
  exact own_retV X2 hx Bd.returns hlk (hb hby d2_9) (by decide) (by decide) (by rw [e2]; exact ⟨rfl, N2, K2, E2_0, Fw2, F2_1, F2_2, S2_0⟩)
theorem d1_0 : decode jdk_38_method_2_code 0 = .ok (.aload_n 0, 1) := by decide +kernel
theorem d1_1 : decode jdk_38_method_2_code 1 = .ok (.invokespecial 1, 3) := by decide +kernel
theorem d1_4 : decode jdk_38_method_2_code 4 = .ok (.aload_n 0, 1) := by decide +kernel
theorem d1_5 : decode jdk_38_method_2_code 5 = .ok (.getstatic 39, 3) := by decide +kernel
theorem d1_8 : decode jdk_38_method_2_code 8 = .ok (.putfield 9, 3) := by decide +kernel
theorem d1_11 : decode jdk_38_method_2_code 11 = .ok (.return_, 1) := by decide +kernel
theorem pn_java_util_ArrayList : plainName "java/util/ArrayList" = true := by first | (simp [plainName, overriddenIn]; done) | decide +kernel
theorem ef_1 (m : MethodId) (o0 : Addr) : entryFrame m #[(.ref o0)] 1 = mkF m 0 #[.val (.ref o0)] [] := by first | (simp [entryFrame, mkF, argsToLocals, Value.category]; done) | rfl
def Q1 (Z : State) (o0 dd : Addr) (h0 : Heap) (n0 : Nat) (v : Option Value) (h : Heap) (L : List Loc) : Prop := v = none ∧ Fr n0 L ∧ Keep h0 h [o0] ∧ Exa Z h o0 "java/util/ArrayList" ∧ Fld Z h o0 "java/util/AbstractList" "modCount" "I" (.int (0 : Int32)) ∧ Fld Z h o0 "java/util/ArrayList" "size" "I" (.int (0 : Int32)) ∧ Fld Z h o0 "java/util/ArrayList" "elementData" "[Ljava/lang/Object;" (.ref dd) ∧ Sta Z h "java/util/ArrayList" "DEFAULTCAPACITY_EMPTY_ELEMENTDATA" "[Ljava/lang/Object;" (.ref dd)
set_option maxRecDepth 65536 in
set_option maxHeartbeats 40000000 in
theorem rm1 (l : Launch) (Z : State) (a0 : Array Value) (hw : ∀ d ∈ tables_1, d.before a0 Z = true) (ws : List Jvm.Cond) (o0 : Addr)  (dd : Addr) (h0 : Heap) (n0 : Nat) (Z0 : n0 ≤ h0.size)  (E_o0 : Exa Z h0 o0 "java/util/ArrayList") (FM_o0 : Fld Z h0 o0 "java/util/AbstractList" "modCount" "I" (.int (0 : Int32))) (FS_o0 : Fld Z h0 o0 "java/util/ArrayList" "size" "I" (.int (0 : Int32))) (FE_o0 : Fld Z h0 o0 "java/util/ArrayList" "elementData" "[Ljava/lang/Object;" .null) (S_ : Sta Z h0 "java/util/ArrayList" "DEFAULTCAPACITY_EMPTY_ELEMENTDATA" "[Ljava/lang/Object;" (.ref dd)) (g_o0 : n0 ≤ o0) :
    MetFree l (⟨"java/util/ArrayList", "<init>", "()V"⟩ : MethodName) (head1 (Jvm.Cond.code (⟨"java/util/ArrayList", "<init>", "()V"⟩ : MethodName) jdk_38_method_2_code 1 none :: ws) ({ frames := 3, cells := 0, slots := 0, locals := 36 } : Room)) (fun a U => a = #[(.ref o0)] ∧ Z.Warmed39 U.vm ∧ U.heap = h0) (fun _ _ _ _ _ => True) (fun _ U o U' => ∃ v L, o = .returned v ∧ Q1 Z o0 dd h0 n0 v U'.heap L ∧ FrameEnd U o U' L ({ frames := 3, cells := 0, slots := 0, locals := 36 } : Room).cells ({ frames := 3, cells := 0, slots := 0, locals := 36 } : Room).slots) := by
  refine MetFree.of_bodySF (plainFor_of_name pn_java_util_ArrayList) hisR ?_
  intro p e s m args below meth c s₁ Bd hml0 hP hK
  obtain ⟨rfl, hZ, hh⟩ := hP
  have hx := Bd.exec
  have hby := Bd.bytes
  have hlk : meth.locks = false := BodyLoose.notSynchronized Bd
  have hml : c.maxLocals = 1 := hml0
  have hown : s.vm.findClass "java/util/ArrayList" = some m.cls := findClass_of_methodNamed Bd.named
  have hnm := (name_of_methodNamed Bd.named Bd.method).1
  have X0 : Stand p l e ({ frames := 3, cells := 0, slots := 0, locals := 36 } : Room) s m #[(.ref o0)] below meth c s₁ [] 0 0 := Stand.of_body Bd
  have e0 : s₁.heap = h0 := by rw [← hh, Bd.state]; rfl
  have N0 := Fr.nil n0
  refine own_by (U' := s₁.setTop (mkF m 0 #[.val (.ref o0)] [])) (fun t k => castTop (ef_1 m o0) k) ?_
  refine own_by (fun _ k => XS.aloadN X0.here hx rfl (hb hby d1_0) rfl rfl k) ?_
  show own_Fin p.tables e below _ (s₁.setTop (mkF m 1 #[.val (.ref o0)] [(.ref o0)]))
  obtain ⟨_, _, ⟨T1, L1, k1, n1⟩, -, X1, ⟨Lc1, hQ1, l1, y1, z1⟩, st1⟩ := X0.specialBack hx (y := (⟨"java/util/AbstractList", "<init>", "()V"⟩ : MethodName)) rfl hown (mvT hZ (hw _ (List.mem_of_getElem? (i := 6) rfl))) (mvT hZ (hw _ (List.mem_of_getElem? (i := 7) rfl))) (mvT hZ (hw _ (List.mem_of_getElem? (i := 11) rfl))) (by decide) (backOf (W := 0) (rm2 l Z a0 hw [] o0 dd h0 n0 Z0 E_o0 FM_o0 FS_o0 FE_o0 S_ g_o0) hZ (hw _ (List.mem_of_getElem? (i := 11) rfl)) (hw _ (List.mem_of_getElem? (i := 10) rfl)) (by decide) (by decide)) (g := (mkF m 1 #[.val (.ref o0)] [(.ref o0)])) rfl (by rw [hml]; rfl) (Steps.refl _) (a := o0) (argsL := []) (rest := []) (lenOf pd___V rfl) rfl (by show 2 * 0 + _ ≤ _; exact Nat.le_of_eq rfl) (hb hby d1_1) (fun _ _ => ⟨rfl, e0, (by decide : 0 + 0 ≤ _), (by decide : 0 + 0 ≤ _)⟩)
  dsimp only [Pt.U, Pt.locs, Pt.cells, Pt.slots] at X1 l1 y1 z1 st1 hQ1
  subst l1 y1 z1
  obtain ⟨rfl, N1q, Kq1, E1_q, FM1, FS1, FE1, S1_q⟩ := hQ1
  have N1 := Fr.app N0 N1q
  have Z1 : n0 ≤ T1.heap.size := Nat.le_trans Z0 Kq1.1
  refine own_by (fun _ k => st1.trans k) ?_
  have K1 := (Keep.refl h0 [o0]).trans Kq1 (allS (Or.inl (List.mem_of_getElem? (i := 0) rfl)) all0)
  show own_Fin p.tables e below _ (T1.setTop (mkF m 4 #[.val (.ref o0)] []))
  refine own_by (fun _ k => XS.aloadN X1.here hx rfl (hb hby d1_4) rfl rfl k) ?_
  show own_Fin p.tables e below _ (T1.setTop (mkF m 5 #[.val (.ref o0)] [(.ref o0)]))
  obtain ⟨T2, X2, e2, st2⟩ := getS2 X1 hx hZ hown (host := "") (Or.inl (hw _ (List.mem_of_getElem? (i := 23) rfl))) Via.refl rfl S1_q (g := (mkF m 5 #[.val (.ref o0)] [(.ref o0)])) rfl (hb hby d1_5)
  refine own_by st2 ?_
  show own_Fin p.tables e below _ (T2.setTop (mkF m 8 #[.val (.ref o0)] [(.ref dd), (.ref o0)]))
  obtain ⟨T3, h3, X3, e3, W3, st3⟩ := putF X2 hx hZ hown (host := "") (Or.inl (hw _ (List.mem_of_getElem? (i := 24) rfl))) Via.refl e2 FE1 E1_q (Or.inl (hw _ (List.mem_of_getElem? (i := 25) rfl))) (hw _ (List.mem_of_getElem? (i := 1) rfl)) (ty := (.array (.object "java/lang/Object"))) (by decide) rfl rfl (g := (mkF m 8 #[.val (.ref o0)] [(.ref dd), (.ref o0)])) rfl rfl (hb hby d1_8)
  have N3 := Fr.snoc X3 N1 g_o0
  have Z3 : n0 ≤ h3.size := Nat.le_trans Z1 (Keep.of_wr W3).1
  refine own_by st3 ?_
  have Fw3 := FE1.same W3
  have K3 : Keep h0 h3 [o0] := K1.wr W3 (Or.inl (List.mem_of_getElem? (i := 0) rfl))
  have S3_0 : Sta Z h3 "java/util/ArrayList" "DEFAULTCAPACITY_EMPTY_ELEMENTDATA" "[Ljava/lang/Object;" (.ref dd) := (S1_q.wr W3)
  have E3_0 : Exa Z h3 o0 "java/util/ArrayList" := (E1_q.wr W3)
  have F3_0 : Fld Z h3 o0 "java/util/AbstractList" "modCount" "I" (.int (0 : Int32)) := (FM1.other W3 (Or.inr (slot_ne (Or.inl (hw _ (List.mem_of_getElem? (i := 22) rfl))) (Or.inl (hw _ (List.mem_of_getElem? (i := 25) rfl))) (by decide) (t := .int) (t' := (.array (.object "java/lang/Object"))) (by decide) (by decide))))
  have F3_1 : Fld Z h3 o0 "java/util/ArrayList" "size" "I" (.int (0 : Int32)) := (FS1.other W3 (Or.inr (slot_ne (Or.inl (hw _ (List.mem_of_getElem? (i := 91) rfl))) (Or.inl (hw _ (List.mem_of_getElem? (i := 25) rfl))) (by decide) (t := .int) (t' := (.array (.object "java/lang/Object"))) (by decide) (by decide))))
  show own_Fin p.tables e below _ (T3.setTop (mkF m 11 #[.val (.ref o0)] []))
  exact own_retV X3 hx Bd.returns hlk (hb hby d1_11) (by decide) (by decide) (by rw [e3]; exact ⟨rfl, N3, K3, E3_0, F3_0, F3_1, Fw3, S3_0⟩)
theorem d16_0 : decode jdk_38_method_6_code 0 = .ok (.aload_n 0, 1) := by decide +kernel
theorem d16_1 : decode jdk_38_method_6_code 1 = .ok (.getfield 9, 3) := by decide +kernel
theorem d16_4 : decode jdk_38_method_6_code 4 = .ok (.arraylength, 1) := by decide +kernel
theorem d16_5 : decode jdk_38_method_6_code 5 = .ok (.istore_n 2, 1) := by decide +kernel
theorem d16_6 : decode jdk_38_method_6_code 6 = .ok (.iload_n 2, 1) := by decide +kernel
theorem d16_7 : decode jdk_38_method_6_code 7 = .ok (.ifCond .gt 13, 3) := by decide +kernel
theorem d16_10 : decode jdk_38_method_6_code 10 = .ok (.aload_n 0, 1) := by decide +kernel
theorem d16_11 : decode jdk_38_method_6_code 11 = .ok (.getfield 9, 3) := by decide +kernel
theorem d16_14 : decode jdk_38_method_6_code 14 = .ok (.getstatic 39, 3) := by decide +kernel
theorem d16_17 : decode jdk_38_method_6_code 17 = .ok (.if_acmp .eq 28, 3) := by decide +kernel
theorem d16_45 : decode jdk_38_method_6_code 45 = .ok (.aload_n 0, 1) := by decide +kernel
theorem d16_46 : decode jdk_38_method_6_code 46 = .ok (.bipush 10, 2) := by decide +kernel
theorem d16_48 : decode jdk_38_method_6_code 48 = .ok (.iload_n 1, 1) := by decide +kernel
theorem d16_49 : decode jdk_38_method_6_code 49 = .ok (.invokestatic 79, 3) := by decide +kernel
theorem d16_52 : decode jdk_38_method_6_code 52 = .ok (.anewarray 7, 3) := by decide +kernel
theorem d16_55 : decode jdk_38_method_6_code 55 = .ok (.dup_x1, 1) := by decide +kernel
theorem d16_56 : decode jdk_38_method_6_code 56 = .ok (.putfield 9, 3) := by decide +kernel
theorem d16_59 : decode jdk_38_method_6_code 59 = .ok (.areturn, 1) := by decide +kernel
theorem pd__II_I : parseMethodDescriptor "(II)I" = some ⟨[.int, .int], some .int⟩ := by decide +kernel
theorem ef_16 (m : MethodId) (o0 : Addr) (p1 : Int32) : entryFrame m #[(.ref o0), (.int p1)] 4 = mkF m 0 #[.val (.ref o0), .val (.int p1), .unset, .unset] [] := by first | (simp [entryFrame, mkF, argsToLocals, Value.category]; done) | rfl
def Q16 (Z : State) (o0 dd : Addr) (mc1 sz1 : Int32) (h0 : Heap) (n0 : Nat) (v : Option Value) (h : Heap) (L : List Loc) : Prop := ∃ b : Addr, v = some (.ref b) ∧ Fr n0 L ∧ n0 ≤ b ∧ n0 ≤ h.size ∧ own_Obj Z h b 10 ∧ Exa Z h o0 "java/util/ArrayList" ∧ Fld Z h o0 "java/util/AbstractList" "modCount" "I" (.int mc1) ∧ Fld Z h o0 "java/util/ArrayList" "size" "I" (.int sz1) ∧ Fld Z h o0 "java/util/ArrayList" "elementData" "[Ljava/lang/Object;" (.ref b) ∧ Sta Z h "java/util/ArrayList" "DEFAULTCAPACITY_EMPTY_ELEMENTDATA" "[Ljava/lang/Object;" (.ref dd)
set_option maxRecDepth 65536 in
set_option maxHeartbeats 40000000 in
theorem rm16 (l : Launch) (Z : State) (a0 : Array Value) (hw : ∀ d ∈ tables_1, d.before a0 Z = true) (ws : List Jvm.Cond) (o0 : Addr) (p1 : Int32)  (dd : Addr) (mc1 sz1 : Int32) (h0 : Heap) (n0 : Nat) (Z0 : n0 ≤ h0.size)  (E_o0 : Exa Z h0 o0 "java/util/ArrayList") (FM_o0 : Fld Z h0 o0 "java/util/AbstractList" "modCount" "I" (.int mc1)) (FS_o0 : Fld Z h0 o0 "java/util/ArrayList" "size" "I" (.int sz1)) (FE_o0 : Fld Z h0 o0 "java/util/ArrayList" "elementData" "[Ljava/lang/Object;" (.ref dd)) (S_ : Sta Z h0 "java/util/ArrayList" "DEFAULTCAPACITY_EMPTY_ELEMENTDATA" "[Ljava/lang/Object;" (.ref dd)) (g_o0 : n0 ≤ o0) (O_dd : own_Obj Z h0 dd 0) (hp : p1 = 1) :
    MetFree l (⟨"java/util/ArrayList", "grow", "(I)[Ljava/lang/Object;"⟩ : MethodName) (head1 (Jvm.Cond.code (⟨"java/util/ArrayList", "grow", "(I)[Ljava/lang/Object;"⟩ : MethodName) jdk_38_method_6_code 4 (some (.array (.object "java/lang/Object"))) :: ws) ({ frames := 1, cells := 1, slots := 10, locals := 14 } : Room)) (fun a U => a = #[(.ref o0), (.int p1)] ∧ Z.Warmed39 U.vm ∧ U.heap = h0) (fun _ _ _ _ _ => True) (fun _ U o U' => ∃ v L, o = .returned v ∧ Q16 Z o0 dd mc1 sz1 h0 n0 v U'.heap L ∧ FrameEnd U o U' L ({ frames := 1, cells := 1, slots := 10, locals := 14 } : Room).cells ({ frames := 1, cells := 1, slots := 10, locals := 14 } : Room).slots) := by
  refine MetFree.of_bodySF (plainFor_of_name pn_java_util_ArrayList) hisR ?_
  intro p e s m args below meth c s₁ Bd hml0 hP hK
  obtain ⟨rfl, hZ, hh⟩ := hP
  have hx := Bd.exec
  have hby := Bd.bytes
  have hlk : meth.locks = false := BodyLoose.notSynchronized Bd
  have hml : c.maxLocals = 4 := hml0
  have hown : s.vm.findClass "java/util/ArrayList" = some m.cls := findClass_of_methodNamed Bd.named
  have hnm := (name_of_methodNamed Bd.named Bd.method).1
  have X0 : Stand p l e ({ frames := 1, cells := 1, slots := 10, locals := 14 } : Room) s m #[(.ref o0), (.int p1)] below meth c s₁ [] 0 0 := Stand.of_body Bd
  have e0 : s₁.heap = h0 := by rw [← hh, Bd.state]; rfl
  have N0 := Fr.nil n0
  refine own_by (U' := s₁.setTop (mkF m 0 #[.val (.ref o0), .val (.int p1), .unset, .unset] [])) (fun t k => castTop (ef_16 m o0 p1) k) ?_
  have hmax : f17 (10 : Int32) p1 = (10 : Int32) := by rw [hp]; decide
  refine own_by (fun _ k => XS.aloadN X0.here hx rfl (hb hby d16_0) rfl rfl k) ?_
  show own_Fin p.tables e below _ (s₁.setTop (mkF m 1 #[.val (.ref o0), .val (.int p1), .unset, .unset] [(.ref o0)]))
  obtain ⟨T1, X1, e1, st1⟩ := getF X0 hx hZ hown (host := "") (Or.inl (hw _ (List.mem_of_getElem? (i := 24) rfl))) Via.refl e0 FE_o0 (g := (mkF m 1 #[.val (.ref o0), .val (.int p1), .unset, .unset] [(.ref o0)])) rfl rfl (hb hby d16_1)
  refine own_by st1 ?_
  show own_Fin p.tables e below _ (T1.setTop (mkF m 4 #[.val (.ref o0), .val (.int p1), .unset, .unset] [(.ref dd)]))
  refine own_by (own_olen X1 hx hZ e1 O_dd (g := (mkF m 4 #[.val (.ref o0), .val (.int p1), .unset, .unset] [(.ref dd)])) rfl rfl (hb hby d16_4)) ?_
  show own_Fin p.tables e below _ (T1.setTop (mkF m 5 #[.val (.ref o0), .val (.int p1), .unset, .unset] [(.int (0 : Int32))]))
  refine own_by (fun _ k => XS.istoreN X1.here hx rfl (hb hby d16_5) rfl (l' := #[.val (.ref o0), .val (.int p1), .val (.int (0 : Int32)), .unset]) rfl k) ?_
  show own_Fin p.tables e below _ (T1.setTop (mkF m 6 #[.val (.ref o0), .val (.int p1), .val (.int (0 : Int32)), .unset] []))
  refine own_by (fun _ k => XS.iloadN X1.here hx rfl (hb hby d16_6) rfl k) ?_
  show own_Fin p.tables e below _ (T1.setTop (mkF m 7 #[.val (.ref o0), .val (.int p1), .val (.int (0 : Int32)), .unset] [(.int (0 : Int32))]))
  refine own_by (fun _ k => XS.ifNo X1.here hx rfl (hb hby d16_7) rfl ((if0 _ _).trans (flt (by decide)).2.2.1) k) ?_
  show own_Fin p.tables e below _ (T1.setTop (mkF m 10 #[.val (.ref o0), .val (.int p1), .val (.int (0 : Int32)), .unset] []))
  refine own_by (fun _ k => XS.aloadN X1.here hx rfl (hb hby d16_10) rfl rfl k) ?_
  show own_Fin p.tables e below _ (T1.setTop (mkF m 11 #[.val (.ref o0), .val (.int p1), .val (.int (0 : Int32)), .unset] [(.ref o0)]))
  obtain ⟨T2, X2, e2, st2⟩ := getF X1 hx hZ hown (host := "") (Or.inl (hw _ (List.mem_of_getElem? (i := 24) rfl))) Via.refl e1 FE_o0 (g := (mkF m 11 #[.val (.ref o0), .val (.int p1), .val (.int (0 : Int32)), .unset] [(.ref o0)])) rfl rfl (hb hby d16_11)
  refine own_by st2 ?_
  show own_Fin p.tables e below _ (T2.setTop (mkF m 14 #[.val (.ref o0), .val (.int p1), .val (.int (0 : Int32)), .unset] [(.ref dd)]))
  obtain ⟨T3, X3, e3, st3⟩ := getS2 X2 hx hZ hown (host := "") (Or.inl (hw _ (List.mem_of_getElem? (i := 23) rfl))) Via.refl e2 S_ (g := (mkF m 14 #[.val (.ref o0), .val (.int p1), .val (.int (0 : Int32)), .unset] [(.ref dd)])) rfl (hb hby d16_14)
  refine own_by st3 ?_
  show own_Fin p.tables e below _ (T3.setTop (mkF m 17 #[.val (.ref o0), .val (.int p1), .val (.int (0 : Int32)), .unset] [(.ref dd), (.ref dd)]))
  refine own_by (fun _ k => Jvm.RoadKit.acmp (g := (mkF m 17 #[.val (.ref o0), .val (.int p1), .val (.int (0 : Int32)), .unset] [(.ref dd), (.ref dd)])) X3 hx rfl rfl rfl (pc0 := 17) (pc' := 45) (same := true) rfl (hb hby d16_17) rfl (decide_eq_true rfl) (by decide) (by decide) k) ?_
  show own_Fin p.tables e below _ (T3.setTop (mkF m 45 #[.val (.ref o0), .val (.int p1), .val (.int (0 : Int32)), .unset] []))
  refine own_by (fun _ k => XS.aloadN X3.here hx rfl (hb hby d16_45) rfl rfl k) ?_
  show own_Fin p.tables e below _ (T3.setTop (mkF m 46 #[.val (.ref o0), .val (.int p1), .val (.int (0 : Int32)), .unset] [(.ref o0)]))
  refine own_by (fun _ k => XS.bipush X3.here hx rfl (hb hby d16_46) k) ?_
  show own_Fin p.tables e below _ (T3.setTop (mkF m 48 #[.val (.ref o0), .val (.int p1), .val (.int (0 : Int32)), .unset] [(.int (10 : Int32)), (.ref o0)]))
  refine own_by (fun _ k => XS.iloadN X3.here hx rfl (hb hby d16_48) rfl k) ?_
  show own_Fin p.tables e below _ (T3.setTop (mkF m 49 #[.val (.ref o0), .val (.int p1), .val (.int (0 : Int32)), .unset] [(.int p1), (.int (10 : Int32)), (.ref o0)]))
  obtain ⟨_, _, ⟨T4, L4, k4, n4⟩, -, X4, ⟨Lc4, hQ4, l4, y4, z4⟩, st4⟩ := Jvm.LawKit.callS X3 hx (y := (⟨"java/lang/Math", "max", "(II)I"⟩ : MethodName)) hown (mvT hZ (hw _ (List.mem_of_getElem? (i := 114) rfl))) (mvT hZ (hw _ (List.mem_of_getElem? (i := 115) rfl))) (mvT hZ (hw _ (List.mem_of_getElem? (i := 116) rfl))) (mvT hZ (hw _ (List.mem_of_getElem? (i := 117) rfl))) (by decide) (backOf (W := 1) (rm17 l Z a0 hw [] (10 : Int32) p1 h0 n0 Z0 ) hZ (hw _ (List.mem_of_getElem? (i := 117) rfl)) (hw _ (List.mem_of_getElem? (i := 116) rfl)) (by decide) (by decide)) (g := (mkF m 49 #[.val (.ref o0), .val (.int p1), .val (.int (0 : Int32)), .unset] [(.int p1), (.int (10 : Int32)), (.ref o0)])) rfl (by rw [hml]; rfl) (argsL := [(.int (10 : Int32)), (.int p1)]) (rest := [(.ref o0)]) (lenOf pd__II_I rfl) rfl (by show 2 * 0 + _ ≤ _; exact Nat.le_of_eq rfl) (hb hby d16_49) (fun _ _ => ⟨rfl, e3, (by decide : 0 + 0 ≤ _), (by decide : 0 + 0 ≤ _)⟩)
  dsimp only [Pt.U, Pt.locs, Pt.cells, Pt.slots] at X4 l4 y4 z4 st4 hQ4
  subst l4 y4 z4
  obtain ⟨rfl, N4q, e4⟩ := hQ4
  have N4 := Fr.app N0 N4q
  refine own_by st4 ?_
  show own_Fin p.tables e below _ (T4.setTop (mkF m 52 #[.val (.ref o0), .val (.int p1), .val (.int (0 : Int32)), .unset] [(.int (f17 (10 : Int32) p1)), (.ref o0)]))
  obtain ⟨T5, h5, k5, X5, e5, E5, A5, Ov5, st5⟩ := newR X4 hx hZ hown (hw _ (List.mem_of_getElem? (i := 118) rfl)) (hw _ (List.mem_of_getElem? (i := 119) rfl)) e4 (g := (mkF m 52 #[.val (.ref o0), .val (.int p1), .val (.int (0 : Int32)), .unset] [(.int (f17 (10 : Int32) p1)), (.ref o0)])) rfl (hb hby d16_52) rfl (by rw [hp]; decide) (cap := 10) (by rw [hp]; decide) (by decide) (by decide) (by decide)
  obtain ⟨b5, g5⟩ : ∃ z, z = h0.size := ⟨_, rfl⟩
  rw [← g5] at A5 st5
  have O5 := own_Obj.new A5 (by rw [hp]; decide)
  have g_b5 : n0 ≤ b5 := Nat.le_trans Z0 (Nat.le_of_eq g5.symm)
  have Z5 : n0 ≤ h5.size := Nat.le_trans Z0 E5.1
  refine own_by st5 ?_
  have O5_0 : own_Obj Z h5 dd (0 : Int32) := (O_dd.ext E5)
  have S5_0 : Sta Z h5 "java/util/ArrayList" "DEFAULTCAPACITY_EMPTY_ELEMENTDATA" "[Ljava/lang/Object;" (.ref dd) := (S_.ext E5)
  have E5_0 : Exa Z h5 o0 "java/util/ArrayList" := (E_o0.ext E5)
  have F5_0 : Fld Z h5 o0 "java/util/AbstractList" "modCount" "I" (.int mc1) := (FM_o0.ext E5)
  have F5_1 : Fld Z h5 o0 "java/util/ArrayList" "size" "I" (.int sz1) := (FS_o0.ext E5)
  have F5_2 : Fld Z h5 o0 "java/util/ArrayList" "elementData" "[Ljava/lang/Object;" (.ref dd) := (FE_o0.ext E5)
  show own_Fin p.tables e below _ (T5.setTop (mkF m 55 #[.val (.ref o0), .val (.int p1), .val (.int (0 : Int32)), .unset] [(.ref b5), (.ref o0)]))
  refine own_by (fun _ k => XS.dupX1 X5.here hx rfl (hb hby d16_55) rfl rfl rfl k) ?_
  show own_Fin p.tables e below _ (T5.setTop (mkF m 56 #[.val (.ref o0), .val (.int p1), .val (.int (0 : Int32)), .unset] [(.ref b5), (.ref o0), (.ref b5)]))
  obtain ⟨T6, h6, X6, e6, W6, st6⟩ := putF X5 hx hZ hown (host := "") (Or.inl (hw _ (List.mem_of_getElem? (i := 24) rfl))) Via.refl e5 F5_2 E5_0 (Or.inl (hw _ (List.mem_of_getElem? (i := 25) rfl))) (hw _ (List.mem_of_getElem? (i := 1) rfl)) (ty := (.array (.object "java/lang/Object"))) (by decide) rfl rfl (g := (mkF m 56 #[.val (.ref o0), .val (.int p1), .val (.int (0 : Int32)), .unset] [(.ref b5), (.ref o0), (.ref b5)])) rfl rfl (hb hby d16_56)
  have N6 := Fr.snoc X6 N4 g_o0
  have Z6 : n0 ≤ h6.size := Nat.le_trans Z5 (Keep.of_wr W6).1
  refine own_by st6 ?_
  have Fw6 := F5_2.same W6
  have O6_0 : own_Obj Z h6 dd (0 : Int32) := (O5_0.other W6 (Ne.symm (own_Obj.ne E5_0 (hw _ (List.mem_of_getElem? (i := 1) rfl)) O5_0)))
  have O6_1 : own_Obj Z h6 b5 (f17 (10 : Int32) p1) := (O5.other W6 (Ne.symm (own_Obj.ne E5_0 (hw _ (List.mem_of_getElem? (i := 1) rfl)) O5)))
  have S6_0 : Sta Z h6 "java/util/ArrayList" "DEFAULTCAPACITY_EMPTY_ELEMENTDATA" "[Ljava/lang/Object;" (.ref dd) := (S5_0.wr W6)
  have E6_0 : Exa Z h6 o0 "java/util/ArrayList" := (E5_0.wr W6)
  have F6_0 : Fld Z h6 o0 "java/util/AbstractList" "modCount" "I" (.int mc1) := (F5_0.other W6 (Or.inr (slot_ne (Or.inl (hw _ (List.mem_of_getElem? (i := 22) rfl))) (Or.inl (hw _ (List.mem_of_getElem? (i := 25) rfl))) (by decide) (t := .int) (t' := (.array (.object "java/lang/Object"))) (by decide) (by decide))))
  have F6_1 : Fld Z h6 o0 "java/util/ArrayList" "size" "I" (.int sz1) := (F5_1.other W6 (Or.inr (slot_ne (Or.inl (hw _ (List.mem_of_getElem? (i := 91) rfl))) (Or.inl (hw _ (List.mem_of_getElem? (i := 25) rfl))) (by decide) (t := .int) (t' := (.array (.object "java/lang/Object"))) (by decide) (by decide))))
  show own_Fin p.tables e below _ (T6.setTop (mkF m 59 #[.val (.ref o0), .val (.int p1), .val (.int (0 : Int32)), .unset] [(.ref b5)]))
  exact own_retA X6 hx Bd.returns hlk rfl rfl (hb hby d16_59) (by decide) (by decide) (by rw [e6]; exact ⟨b5, rfl, N6, g_b5, Z6, (hmax ▸ O6_1), E6_0, F6_0, F6_1, Fw6, S6_0⟩)
theorem d15_0 : decode jdk_38_method_7_code 0 = .ok (.aload_n 0, 1) := by decide +kernel
theorem d15_1 : decode jdk_38_method_7_code 1 = .ok (.aload_n 0, 1) := by decide +kernel
theorem d15_2 : decode jdk_38_method_7_code 2 = .ok (.getfield 48, 3) := by decide +kernel
theorem d15_5 : decode jdk_38_method_7_code 5 = .ok (.iconst 1, 1) := by decide +kernel
theorem d15_6 : decode jdk_38_method_7_code 6 = .ok (.iadd, 1) := by decide +kernel
theorem d15_7 : decode jdk_38_method_7_code 7 = .ok (.invokevirtual 69, 3) := by decide +kernel
theorem d15_10 : decode jdk_38_method_7_code 10 = .ok (.areturn, 1) := by decide +kernel
theorem pd__I__Ljava_lang_Object_ : parseMethodDescriptor "(I)[Ljava/lang/Object;" = some ⟨[.int], some (.array (.object "java/lang/Object"))⟩ := by decide +kernel
theorem ef_15 (m : MethodId) (o0 : Addr) : entryFrame m #[(.ref o0)] 1 = mkF m 0 #[.val (.ref o0)] [] := by first | (simp [entryFrame, mkF, argsToLocals, Value.category]; done) | rfl
def Q15 (Z : State) (o0 dd : Addr) (mc1 sz1 : Int32) (h0 : Heap) (n0 : Nat) (v : Option Value) (h : Heap) (L : List Loc) : Prop := ∃ b : Addr, v = some (.ref b) ∧ Fr n0 L ∧ n0 ≤ b ∧ n0 ≤ h.size ∧ own_Obj Z h b 10 ∧ Exa Z h o0 "java/util/ArrayList" ∧ Fld Z h o0 "java/util/AbstractList" "modCount" "I" (.int mc1) ∧ Fld Z h o0 "java/util/ArrayList" "size" "I" (.int sz1) ∧ Fld Z h o0 "java/util/ArrayList" "elementData" "[Ljava/lang/Object;" (.ref b) ∧ Sta Z h "java/util/ArrayList" "DEFAULTCAPACITY_EMPTY_ELEMENTDATA" "[Ljava/lang/Object;" (.ref dd)
set_option maxRecDepth 65536 in
set_option maxHeartbeats 40000000 in
theorem rm15 (l : Launch) (Z : State) (a0 : Array Value) (hw : ∀ d ∈ tables_1, d.before a0 Z = true) (ws : List Jvm.Cond) (o0 : Addr)  (dd : Addr) (mc1 sz1 : Int32) (h0 : Heap) (n0 : Nat) (Z0 : n0 ≤ h0.size)  (E_o0 : Exa Z h0 o0 "java/util/ArrayList") (FM_o0 : Fld Z h0 o0 "java/util/AbstractList" "modCount" "I" (.int mc1)) (FS_o0 : Fld Z h0 o0 "java/util/ArrayList" "size" "I" (.int sz1)) (FE_o0 : Fld Z h0 o0 "java/util/ArrayList" "elementData" "[Ljava/lang/Object;" (.ref dd)) (S_ : Sta Z h0 "java/util/ArrayList" "DEFAULTCAPACITY_EMPTY_ELEMENTDATA" "[Ljava/lang/Object;" (.ref dd)) (g_o0 : n0 ≤ o0) (O_dd : own_Obj Z h0 dd 0) (hs : sz1 = 0) :
    MetFree l (⟨"java/util/ArrayList", "grow", "()[Ljava/lang/Object;"⟩ : MethodName) (head1 (Jvm.Cond.code (⟨"java/util/ArrayList", "grow", "()[Ljava/lang/Object;"⟩ : MethodName) jdk_38_method_7_code 1 (some (.array (.object "java/lang/Object"))) :: ws) ({ frames := 2, cells := 1, slots := 10, locals := 29 } : Room)) (fun a U => a = #[(.ref o0)] ∧ Z.Warmed39 U.vm ∧ U.heap = h0) (fun _ _ _ _ _ => True) (fun _ U o U' => ∃ v L, o = .returned v ∧ Q15 Z o0 dd mc1 sz1 h0 n0 v U'.heap L ∧ FrameEnd U o U' L ({ frames := 2, cells := 1, slots := 10, locals := 29 } : Room).cells ({ frames := 2, cells := 1, slots := 10, locals := 29 } : Room).slots) := by
  refine MetFree.of_bodySF (plainFor_of_name pn_java_util_ArrayList) hisR ?_
  intro p e s m args below meth c s₁ Bd hml0 hP hK
  obtain ⟨rfl, hZ, hh⟩ := hP
  have hx := Bd.exec
  have hby := Bd.bytes
  have hlk : meth.locks = false := BodyLoose.notSynchronized Bd
  have hml : c.maxLocals = 1 := hml0
  have hown : s.vm.findClass "java/util/ArrayList" = some m.cls := findClass_of_methodNamed Bd.named
  have hnm := (name_of_methodNamed Bd.named Bd.method).1
  have X0 : Stand p l e ({ frames := 2, cells := 1, slots := 10, locals := 29 } : Room) s m #[(.ref o0)] below meth c s₁ [] 0 0 := Stand.of_body Bd
  have e0 : s₁.heap = h0 := by rw [← hh, Bd.state]; rfl
  have N0 := Fr.nil n0
  refine own_by (U' := s₁.setTop (mkF m 0 #[.val (.ref o0)] [])) (fun t k => castTop (ef_15 m o0) k) ?_
  refine own_by (fun _ k => XS.aloadN X0.here hx rfl (hb hby d15_0) rfl rfl k) ?_
  show own_Fin p.tables e below _ (s₁.setTop (mkF m 1 #[.val (.ref o0)] [(.ref o0)]))
  refine own_by (fun _ k => XS.aloadN X0.here hx rfl (hb hby d15_1) rfl rfl k) ?_
  show own_Fin p.tables e below _ (s₁.setTop (mkF m 2 #[.val (.ref o0)] [(.ref o0), (.ref o0)]))
  obtain ⟨T1, X1, e1, st1⟩ := getF X0 hx hZ hown (host := "") (Or.inl (hw _ (List.mem_of_getElem? (i := 90) rfl))) Via.refl e0 FS_o0 (g := (mkF m 2 #[.val (.ref o0)] [(.ref o0), (.ref o0)])) rfl rfl (hb hby d15_2)
  refine own_by st1 ?_
  show own_Fin p.tables e below _ (T1.setTop (mkF m 5 #[.val (.ref o0)] [(.int sz1), (.ref o0)]))
  refine own_by (fun _ k => XS.iconst X1.here hx rfl (hb hby d15_5) k) ?_
  show own_Fin p.tables e below _ (T1.setTop (mkF m 6 #[.val (.ref o0)] [(.int (1 : Int32)), (.int sz1), (.ref o0)]))
  refine own_by (fun _ k => XS.iadd X1.here hx rfl (hb hby d15_6) rfl k) ?_
  show own_Fin p.tables e below _ (T1.setTop (mkF m 7 #[.val (.ref o0)] [(.int (sz1 + (1 : Int32))), (.ref o0)]))
  obtain ⟨cq2, q2, q2'⟩ := E_o0.cell
  obtain ⟨_, _, ⟨T2, L2, k2, n2⟩, -, X2, ⟨Lc2, hQ2, l2, y2, z2⟩, st2⟩ := X1.privateBack hx (y := (⟨"java/util/ArrayList", "grow", "(I)[Ljava/lang/Object;"⟩ : MethodName)) hown (mvT hZ (hw _ (List.mem_of_getElem? (i := 109) rfl))) (mvT hZ (hw _ (List.mem_of_getElem? (i := 110) rfl))) (mvT hZ (hw _ (List.mem_of_getElem? (i := 112) rfl))) (Cond.privateMethod_at (mvP hZ (hw _ (List.mem_of_getElem? (i := 111) rfl)) (args := #[]))) (mvT hZ (hw _ (List.mem_of_getElem? (i := 113) rfl))) (by decide) (backOf (W := 0) (rm16 l Z a0 hw [] o0 (sz1 + (1 : Int32)) dd mc1 sz1 h0 n0 Z0 E_o0 FM_o0 FS_o0 FE_o0 S_ g_o0 O_dd (by rw [hs]; decide)) hZ (hw _ (List.mem_of_getElem? (i := 113) rfl)) (hw _ (List.mem_of_getElem? (i := 2) rfl)) (by decide) (by decide)) (g := (mkF m 7 #[.val (.ref o0)] [(.int (sz1 + (1 : Int32))), (.ref o0)])) rfl (by rw [hml]; rfl) (Steps.refl _) (a := o0) (by rw [e1]; exact q2) q2' (argsL := [(.int (sz1 + (1 : Int32)))]) (rest := []) (lenOf pd__I__Ljava_lang_Object_ rfl) rfl (by show 2 * 0 + _ ≤ _; exact Nat.le_of_eq rfl) (hb hby d15_7) (fun _ _ => ⟨rfl, e1, (by decide : 0 + 1 ≤ _), (by decide : 0 + 10 ≤ _)⟩)
  dsimp only [Pt.U, Pt.locs, Pt.cells, Pt.slots] at X2 l2 y2 z2 st2 hQ2
  subst l2 y2 z2
  obtain ⟨b2, rfl, N2q, g_b2, Z2, O2_q, E2_q, FM2, FS2, FE2, S2_q⟩ := hQ2
  have N2 := Fr.app N0 N2q
  refine own_by (fun _ k => st2.trans k) ?_
  show own_Fin p.tables e below _ (T2.setTop (mkF m 10 #[.val (.ref o0)] [(.ref b2)]))
  exact own_retA X2 hx Bd.returns hlk rfl rfl (hb hby d15_10) (by decide) (by decide) (by exact ⟨b2, rfl, N2, g_b2, Z2, O2_q, E2_q, FM2, FS2, FE2, S2_q⟩)
theorem d14_0 : decode jdk_38_method_24_code 0 = .ok (.iload_n 3, 1) := by decide +kernel
theorem d14_1 : decode jdk_38_method_24_code 1 = .ok (.aload_n 2, 1) := by decide +kernel
theorem d14_2 : decode jdk_38_method_24_code 2 = .ok (.arraylength, 1) := by decide +kernel
theorem d14_3 : decode jdk_38_method_24_code 3 = .ok (.if_icmp .ne 8, 3) := by decide +kernel
theorem d14_6 : decode jdk_38_method_24_code 6 = .ok (.aload_n 0, 1) := by decide +kernel
theorem d14_7 : decode jdk_38_method_24_code 7 = .ok (.invokevirtual 129, 3) := by decide +kernel
theorem d14_10 : decode jdk_38_method_24_code 10 = .ok (.astore_n 2, 1) := by decide +kernel
theorem d14_11 : decode jdk_38_method_24_code 11 = .ok (.aload_n 2, 1) := by decide +kernel
theorem d14_12 : decode jdk_38_method_24_code 12 = .ok (.iload_n 3, 1) := by decide +kernel
theorem d14_13 : decode jdk_38_method_24_code 13 = .ok (.aload_n 1, 1) := by decide +kernel
theorem d14_14 : decode jdk_38_method_24_code 14 = .ok (.aastore, 1) := by decide +kernel
theorem d14_15 : decode jdk_38_method_24_code 15 = .ok (.aload_n 0, 1) := by decide +kernel
theorem d14_16 : decode jdk_38_method_24_code 16 = .ok (.iload_n 3, 1) := by decide +kernel
theorem d14_17 : decode jdk_38_method_24_code 17 = .ok (.iconst 1, 1) := by decide +kernel
theorem d14_18 : decode jdk_38_method_24_code 18 = .ok (.iadd, 1) := by decide +kernel
theorem d14_19 : decode jdk_38_method_24_code 19 = .ok (.putfield 48, 3) := by decide +kernel
theorem d14_22 : decode jdk_38_method_24_code 22 = .ok (.return_, 1) := by decide +kernel
theorem pd____Ljava_lang_Object_ : parseMethodDescriptor "()[Ljava/lang/Object;" = some ⟨[], some (.array (.object "java/lang/Object"))⟩ := by decide +kernel
theorem ef_14 (m : MethodId) (o0 : Addr) (o2 : Addr) (p3 : Int32) : entryFrame m #[(.ref o0), .null, (.ref o2), (.int p3)] 4 = mkF m 0 #[.val (.ref o0), .val .null, .val (.ref o2), .val (.int p3)] [] := by first | (simp [entryFrame, mkF, argsToLocals, Value.category]; done) | rfl
def Q14 (Z : State) (o0 dd : Addr) (mc1 p3 : Int32) (h0 : Heap) (n0 : Nat) (v : Option Value) (h : Heap) (L : List Loc) : Prop := ∃ b : Addr, v = none ∧ Fr n0 L ∧ n0 ≤ b ∧ n0 ≤ h.size ∧ own_Obj Z h b 10 ∧ Exa Z h o0 "java/util/ArrayList" ∧ Fld Z h o0 "java/util/AbstractList" "modCount" "I" (.int mc1) ∧ Fld Z h o0 "java/util/ArrayList" "size" "I" (.int (p3 + (1 : Int32))) ∧ Fld Z h o0 "java/util/ArrayList" "elementData" "[Ljava/lang/Object;" (.ref b) ∧ Sta Z h "java/util/ArrayList" "DEFAULTCAPACITY_EMPTY_ELEMENTDATA" "[Ljava/lang/Object;" (.ref dd)
set_option maxRecDepth 65536 in
set_option maxHeartbeats 40000000 in
theorem rm14 (l : Launch) (Z : State) (a0 : Array Value) (hw : ∀ d ∈ tables_1, d.before a0 Z = true) (ws : List Jvm.Cond) (o0 : Addr) (o2 : Addr) (p3 : Int32)  (dd : Addr) (mc1 : Int32) (h0 : Heap) (n0 : Nat) (Z0 : n0 ≤ h0.size)  (E_o0 : Exa Z h0 o0 "java/util/ArrayList") (FM_o0 : Fld Z h0 o0 "java/util/AbstractList" "modCount" "I" (.int mc1)) (FS_o0 : Fld Z h0 o0 "java/util/ArrayList" "size" "I" (.int p3)) (FE_o0 : Fld Z h0 o0 "java/util/ArrayList" "elementData" "[Ljava/lang/Object;" (.ref o2)) (S_ : Sta Z h0 "java/util/ArrayList" "DEFAULTCAPACITY_EMPTY_ELEMENTDATA" "[Ljava/lang/Object;" (.ref dd)) (g_o0 : n0 ≤ o0) (hcase : (p3 = 0 ∧ o2 = dd ∧ own_Obj Z h0 dd 0) ∨ (own_Obj Z h0 o2 10 ∧ n0 ≤ o2 ∧ ¬ p3 < 0 ∧ p3 < 10)) :
    MetFree l (⟨"java/util/ArrayList", "add", "(Ljava/lang/Object;[Ljava/lang/Object;I)V"⟩ : MethodName) (head1 (Jvm.Cond.code (⟨"java/util/ArrayList", "add", "(Ljava/lang/Object;[Ljava/lang/Object;I)V"⟩ : MethodName) jdk_38_method_24_code 4 none :: ws) ({ frames := 3, cells := 1, slots := 10, locals := 41 } : Room)) (fun a U => a = #[(.ref o0), .null, (.ref o2), (.int p3)] ∧ Z.Warmed39 U.vm ∧ U.heap = h0) (fun _ _ _ _ _ => True) (fun _ U o U' => ∃ v L, o = .returned v ∧ Q14 Z o0 dd mc1 p3 h0 n0 v U'.heap L ∧ FrameEnd U o U' L ({ frames := 3, cells := 1, slots := 10, locals := 41 } : Room).cells ({ frames := 3, cells := 1, slots := 10, locals := 41 } : Room).slots) := by
  refine MetFree.of_bodySF (plainFor_of_name pn_java_util_ArrayList) hisR ?_
  intro p e s m args below meth c s₁ Bd hml0 hP hK
  obtain ⟨rfl, hZ, hh⟩ := hP
  have hx := Bd.exec
  have hby := Bd.bytes
  have hlk : meth.locks = false := BodyLoose.notSynchronized Bd
  have hml : c.maxLocals = 4 := hml0
  have hown : s.vm.findClass "java/util/ArrayList" = some m.cls := findClass_of_methodNamed Bd.named
  have hnm := (name_of_methodNamed Bd.named Bd.method).1
  have X0 : Stand p l e ({ frames := 3, cells := 1, slots := 10, locals := 41 } : Room) s m #[(.ref o0), .null, (.ref o2), (.int p3)] below meth c s₁ [] 0 0 := Stand.of_body Bd
  have e0 : s₁.heap = h0 := by rw [← hh, Bd.state]; rfl
  have N0 := Fr.nil n0
  refine own_by (U' := s₁.setTop (mkF m 0 #[.val (.ref o0), .val .null, .val (.ref o2), .val (.int p3)] [])) (fun t k => castTop (ef_14 m o0 o2 p3) k) ?_
  rcases hcase with ⟨hs, hdd, O_dd⟩ | ⟨O_e, g_o2, hs0, hs10⟩
  · subst hdd
    have hs' := hs
    refine own_by (fun _ k => XS.iloadN X0.here hx rfl (hb hby d14_0) rfl k) ?_
    show own_Fin p.tables e below _ (s₁.setTop (mkF m 1 #[.val (.ref o0), .val .null, .val (.ref o2), .val (.int p3)] [(.int p3)]))
    refine own_by (fun _ k => XS.aloadN X0.here hx rfl (hb hby d14_1) rfl rfl k) ?_
    show own_Fin p.tables e below _ (s₁.setTop (mkF m 2 #[.val (.ref o0), .val .null, .val (.ref o2), .val (.int p3)] [(.ref o2), (.int p3)]))
    refine own_by (own_olen X0 hx hZ e0 O_dd (g := (mkF m 2 #[.val (.ref o0), .val .null, .val (.ref o2), .val (.int p3)] [(.ref o2), (.int p3)])) rfl rfl (hb hby d14_2)) ?_
    show own_Fin p.tables e below _ (s₁.setTop (mkF m 3 #[.val (.ref o0), .val .null, .val (.ref o2), .val (.int p3)] [(.int (0 : Int32)), (.int p3)]))
    by_cases hc1 : p3 = (0 : Int32)
    · refine own_by (fun _ k => XS.icmpNo X0.here hx rfl (hb hby d14_3) rfl (teq hc1).2 k) ?_
      show own_Fin p.tables e below _ (s₁.setTop (mkF m 6 #[.val (.ref o0), .val .null, .val (.ref o2), .val (.int p3)] []))
      refine own_by (fun _ k => XS.aloadN X0.here hx rfl (hb hby d14_6) rfl rfl k) ?_
      show own_Fin p.tables e below _ (s₁.setTop (mkF m 7 #[.val (.ref o0), .val .null, .val (.ref o2), .val (.int p3)] [(.ref o0)]))
      obtain ⟨cq2, q2, q2'⟩ := E_o0.cell
      obtain ⟨_, _, ⟨T2, L2, k2, n2⟩, -, X2, ⟨Lc2, hQ2, l2, y2, z2⟩, st2⟩ := X0.privateBack hx (y := (⟨"java/util/ArrayList", "grow", "()[Ljava/lang/Object;"⟩ : MethodName)) hown (mvT hZ (hw _ (List.mem_of_getElem? (i := 104) rfl))) (mvT hZ (hw _ (List.mem_of_getElem? (i := 105) rfl))) (mvT hZ (hw _ (List.mem_of_getElem? (i := 107) rfl))) (Cond.privateMethod_at (mvP hZ (hw _ (List.mem_of_getElem? (i := 106) rfl)) (args := #[]))) (mvT hZ (hw _ (List.mem_of_getElem? (i := 108) rfl))) (by decide) (backOf (W := 0) (rm15 l Z a0 hw [] o0 o2 mc1 p3 h0 n0 Z0 E_o0 FM_o0 FS_o0 FE_o0 S_ g_o0 O_dd hs) hZ (hw _ (List.mem_of_getElem? (i := 108) rfl)) (hw _ (List.mem_of_getElem? (i := 2) rfl)) (by decide) (by decide)) (g := (mkF m 7 #[.val (.ref o0), .val .null, .val (.ref o2), .val (.int p3)] [(.ref o0)])) rfl (by rw [hml]; rfl) (Steps.refl _) (a := o0) (by rw [e0]; exact q2) q2' (argsL := []) (rest := []) (lenOf pd____Ljava_lang_Object_ rfl) rfl (by show 2 * 0 + _ ≤ _; exact Nat.le_of_eq rfl) (hb hby d14_7) (fun _ _ => ⟨rfl, e0, (by decide : 0 + 1 ≤ _), (by decide : 0 + 10 ≤ _)⟩)
      dsimp only [Pt.U, Pt.locs, Pt.cells, Pt.slots] at X2 l2 y2 z2 st2 hQ2
      subst l2 y2 z2
      obtain ⟨b2, rfl, N2q, g_b2, Z2, O2_q, E2_q, FM2, FS2, FE2, S2_q⟩ := hQ2
      have N2 := Fr.app N0 N2q
      refine own_by (fun _ k => st2.trans k) ?_
      show own_Fin p.tables e below _ (T2.setTop (mkF m 10 #[.val (.ref o0), .val .null, .val (.ref o2), .val (.int p3)] [(.ref b2)]))
      refine own_by (fun _ k => XS.astoreN X2.here hx rfl (hb hby d14_10) rfl rfl (l' := #[.val (.ref o0), .val .null, .val (.ref b2), .val (.int p3)]) rfl k) ?_
      show own_Fin p.tables e below _ (T2.setTop (mkF m 11 #[.val (.ref o0), .val .null, .val (.ref b2), .val (.int p3)] []))
      refine own_by (fun _ k => XS.aloadN X2.here hx rfl (hb hby d14_11) rfl rfl k) ?_
      show own_Fin p.tables e below _ (T2.setTop (mkF m 12 #[.val (.ref o0), .val .null, .val (.ref b2), .val (.int p3)] [(.ref b2)]))
      refine own_by (fun _ k => XS.iloadN X2.here hx rfl (hb hby d14_12) rfl k) ?_
      show own_Fin p.tables e below _ (T2.setTop (mkF m 13 #[.val (.ref o0), .val .null, .val (.ref b2), .val (.int p3)] [(.int p3), (.ref b2)]))
      refine own_by (fun _ k => XS.aloadN X2.here hx rfl (hb hby d14_13) rfl rfl k) ?_
      show own_Fin p.tables e below _ (T2.setTop (mkF m 14 #[.val (.ref o0), .val .null, .val (.ref b2), .val (.int p3)] [.null, (.int p3), (.ref b2)]))
      obtain ⟨T3, h3, X3, e3, W3, st3⟩ := own_ost X2 hx hZ rfl O2_q (j := p3) (by rw [hs]; decide) (by rw [hs]; decide) (g := (mkF m 14 #[.val (.ref o0), .val .null, .val (.ref b2), .val (.int p3)] [.null, (.int p3), (.ref b2)])) rfl rfl (hb hby d14_14)
      have N3 := Fr.snoc X3 N2 g_b2
      have Z3 : n0 ≤ h3.size := Nat.le_trans Z2 (Keep.of_wr W3).1
      refine own_by st3 ?_
      have O3_0 : own_Obj Z h3 b2 (10 : Int32) := (O2_q.same W3)
      have S3_0 : Sta Z h3 "java/util/ArrayList" "DEFAULTCAPACITY_EMPTY_ELEMENTDATA" "[Ljava/lang/Object;" (.ref o2) := (S2_q.wr W3)
      have E3_0 : Exa Z h3 o0 "java/util/ArrayList" := (E2_q.wr W3)
      have F3_0 : Fld Z h3 o0 "java/util/AbstractList" "modCount" "I" (.int mc1) := (FM2.other W3 (Or.inl (own_Obj.ne E2_q (hw _ (List.mem_of_getElem? (i := 1) rfl)) O2_q)))
      have F3_1 : Fld Z h3 o0 "java/util/ArrayList" "size" "I" (.int p3) := (FS2.other W3 (Or.inl (own_Obj.ne E2_q (hw _ (List.mem_of_getElem? (i := 1) rfl)) O2_q)))
      have F3_2 : Fld Z h3 o0 "java/util/ArrayList" "elementData" "[Ljava/lang/Object;" (.ref b2) := (FE2.other W3 (Or.inl (own_Obj.ne E2_q (hw _ (List.mem_of_getElem? (i := 1) rfl)) O2_q)))
      show own_Fin p.tables e below _ (T3.setTop (mkF m 15 #[.val (.ref o0), .val .null, .val (.ref b2), .val (.int p3)] []))
      refine own_by (fun _ k => XS.aloadN X3.here hx rfl (hb hby d14_15) rfl rfl k) ?_
      show own_Fin p.tables e below _ (T3.setTop (mkF m 16 #[.val (.ref o0), .val .null, .val (.ref b2), .val (.int p3)] [(.ref o0)]))
      refine own_by (fun _ k => XS.iloadN X3.here hx rfl (hb hby d14_16) rfl k) ?_
      show own_Fin p.tables e below _ (T3.setTop (mkF m 17 #[.val (.ref o0), .val .null, .val (.ref b2), .val (.int p3)] [(.int p3), (.ref o0)]))
      refine own_by (fun _ k => XS.iconst X3.here hx rfl (hb hby d14_17) k) ?_
      show own_Fin p.tables e below _ (T3.setTop (mkF m 18 #[.val (.ref o0), .val .null, .val (.ref b2), .val (.int p3)] [(.int (1 : Int32)), (.int p3), (.ref o0)]))
      refine own_by (fun _ k => XS.iadd X3.here hx rfl (hb hby d14_18) rfl k) ?_
      show own_Fin p.tables e below _ (T3.setTop (mkF m 19 #[.val (.ref o0), .val .null, .val (.ref b2), .val (.int p3)] [(.int (p3 + (1 : Int32))), (.ref o0)]))
      obtain ⟨T4, h4, X4, e4, W4, st4⟩ := putF X3 hx hZ hown (host := "") (Or.inl (hw _ (List.mem_of_getElem? (i := 90) rfl))) Via.refl e3 F3_1 E3_0 (Or.inl (hw _ (List.mem_of_getElem? (i := 91) rfl))) (hw _ (List.mem_of_getElem? (i := 1) rfl)) (ty := .int) (by decide) rfl rfl (g := (mkF m 19 #[.val (.ref o0), .val .null, .val (.ref b2), .val (.int p3)] [(.int (p3 + (1 : Int32))), (.ref o0)])) rfl rfl (hb hby d14_19)
      have N4 := Fr.snoc X4 N3 g_o0
      have Z4 : n0 ≤ h4.size := Nat.le_trans Z3 (Keep.of_wr W4).1
      refine own_by st4 ?_
      have Fw4 := F3_1.same W4
      have O4_0 : own_Obj Z h4 b2 (10 : Int32) := (O3_0.other W4 (Ne.symm (own_Obj.ne E3_0 (hw _ (List.mem_of_getElem? (i := 1) rfl)) O3_0)))
      have S4_0 : Sta Z h4 "java/util/ArrayList" "DEFAULTCAPACITY_EMPTY_ELEMENTDATA" "[Ljava/lang/Object;" (.ref o2) := (S3_0.wr W4)
      have E4_0 : Exa Z h4 o0 "java/util/ArrayList" := (E3_0.wr W4)
      have F4_0 : Fld Z h4 o0 "java/util/AbstractList" "modCount" "I" (.int mc1) := (F3_0.other W4 (Or.inr (slot_ne (Or.inl (hw _ (List.mem_of_getElem? (i := 22) rfl))) (Or.inl (hw _ (List.mem_of_getElem? (i := 91) rfl))) (by decide) (t := .int) (t' := .int) (by decide) (by decide))))
      have F4_2 : Fld Z h4 o0 "java/util/ArrayList" "elementData" "[Ljava/lang/Object;" (.ref b2) := (F3_2.other W4 (Or.inr (slot_ne (Or.inl (hw _ (List.mem_of_getElem? (i := 25) rfl))) (Or.inl (hw _ (List.mem_of_getElem? (i := 91) rfl))) (by decide) (t := (.array (.object "java/lang/Object"))) (t' := .int) (by decide) (by decide))))
      show own_Fin p.tables e below _ (T4.setTop (mkF m 22 #[.val (.ref o0), .val .null, .val (.ref b2), .val (.int p3)] []))
      exact own_retV X4 hx Bd.returns hlk (hb hby d14_22) (by decide) (by decide) (by rw [e4]; exact ⟨b2, rfl, N4, g_b2, Z4, O4_0, E4_0, F4_0, Fw4, F4_2, S4_0⟩)
    · exact absurd hs hc1
  · refine own_by (fun _ k => XS.iloadN X0.here hx rfl (hb hby d14_0) rfl k) ?_
    show own_Fin p.tables e below _ (s₁.setTop (mkF m 1 #[.val (.ref o0), .val .null, .val (.ref o2), .val (.int p3)] [(.int p3)]))
    refine own_by (fun _ k => XS.aloadN X0.here hx rfl (hb hby d14_1) rfl rfl k) ?_
    show own_Fin p.tables e below _ (s₁.setTop (mkF m 2 #[.val (.ref o0), .val .null, .val (.ref o2), .val (.int p3)] [(.ref o2), (.int p3)]))
    refine own_by (own_olen X0 hx hZ e0 O_e (g := (mkF m 2 #[.val (.ref o0), .val .null, .val (.ref o2), .val (.int p3)] [(.ref o2), (.int p3)])) rfl rfl (hb hby d14_2)) ?_
    show own_Fin p.tables e below _ (s₁.setTop (mkF m 3 #[.val (.ref o0), .val .null, .val (.ref o2), .val (.int p3)] [(.int (10 : Int32)), (.int p3)]))
    by_cases hc5 : p3 = (10 : Int32)
    · exact absurd (hc5 ▸ hs10) (by decide)
    · refine own_by (fun _ k => XS.icmpYes X0.here hx rfl (pc0 := 3) (pc' := 11) rfl (hb hby d14_3) rfl (feq hc5).2 (by decide) (by decide) k) ?_
      show own_Fin p.tables e below _ (s₁.setTop (mkF m 11 #[.val (.ref o0), .val .null, .val (.ref o2), .val (.int p3)] []))
      refine own_by (fun _ k => XS.aloadN X0.here hx rfl (hb hby d14_11) rfl rfl k) ?_
      show own_Fin p.tables e below _ (s₁.setTop (mkF m 12 #[.val (.ref o0), .val .null, .val (.ref o2), .val (.int p3)] [(.ref o2)]))
      refine own_by (fun _ k => XS.iloadN X0.here hx rfl (hb hby d14_12) rfl k) ?_
      show own_Fin p.tables e below _ (s₁.setTop (mkF m 13 #[.val (.ref o0), .val .null, .val (.ref o2), .val (.int p3)] [(.int p3), (.ref o2)]))
      refine own_by (fun _ k => XS.aloadN X0.here hx rfl (hb hby d14_13) rfl rfl k) ?_
      show own_Fin p.tables e below _ (s₁.setTop (mkF m 14 #[.val (.ref o0), .val .null, .val (.ref o2), .val (.int p3)] [.null, (.int p3), (.ref o2)]))
      obtain ⟨T6, h6, X6, e6, W6, st6⟩ := own_ost X0 hx hZ e0 O_e (j := p3) hs0 hs10 (g := (mkF m 14 #[.val (.ref o0), .val .null, .val (.ref o2), .val (.int p3)] [.null, (.int p3), (.ref o2)])) rfl rfl (hb hby d14_14)
      have N6 := Fr.snoc X6 N0 g_o2
      have Z6 : n0 ≤ h6.size := Nat.le_trans Z0 (Keep.of_wr W6).1
      refine own_by st6 ?_
      have O6_0 : own_Obj Z h6 o2 (10 : Int32) := (O_e.same W6)
      have S6_0 : Sta Z h6 "java/util/ArrayList" "DEFAULTCAPACITY_EMPTY_ELEMENTDATA" "[Ljava/lang/Object;" (.ref dd) := (S_.wr W6)
      have E6_0 : Exa Z h6 o0 "java/util/ArrayList" := (E_o0.wr W6)
      have F6_0 : Fld Z h6 o0 "java/util/AbstractList" "modCount" "I" (.int mc1) := (FM_o0.other W6 (Or.inl (own_Obj.ne E_o0 (hw _ (List.mem_of_getElem? (i := 1) rfl)) O_e)))
      have F6_1 : Fld Z h6 o0 "java/util/ArrayList" "size" "I" (.int p3) := (FS_o0.other W6 (Or.inl (own_Obj.ne E_o0 (hw _ (List.mem_of_getElem? (i := 1) rfl)) O_e)))
      have F6_2 : Fld Z h6 o0 "java/util/ArrayList" "elementData" "[Ljava/lang/Object;" (.ref o2) := (FE_o0.other W6 (Or.inl (own_Obj.ne E_o0 (hw _ (List.mem_of_getElem? (i := 1) rfl)) O_e)))
      show own_Fin p.tables e below _ (T6.setTop (mkF m 15 #[.val (.ref o0), .val .null, .val (.ref o2), .val (.int p3)] []))
      refine own_by (fun _ k => XS.aloadN X6.here hx rfl (hb hby d14_15) rfl rfl k) ?_
      show own_Fin p.tables e below _ (T6.setTop (mkF m 16 #[.val (.ref o0), .val .null, .val (.ref o2), .val (.int p3)] [(.ref o0)]))
      refine own_by (fun _ k => XS.iloadN X6.here hx rfl (hb hby d14_16) rfl k) ?_
      show own_Fin p.tables e below _ (T6.setTop (mkF m 17 #[.val (.ref o0), .val .null, .val (.ref o2), .val (.int p3)] [(.int p3), (.ref o0)]))
      refine own_by (fun _ k => XS.iconst X6.here hx rfl (hb hby d14_17) k) ?_
      show own_Fin p.tables e below _ (T6.setTop (mkF m 18 #[.val (.ref o0), .val .null, .val (.ref o2), .val (.int p3)] [(.int (1 : Int32)), (.int p3), (.ref o0)]))
      refine own_by (fun _ k => XS.iadd X6.here hx rfl (hb hby d14_18) rfl k) ?_
      show own_Fin p.tables e below _ (T6.setTop (mkF m 19 #[.val (.ref o0), .val .null, .val (.ref o2), .val (.int p3)] [(.int (p3 + (1 : Int32))), (.ref o0)]))
      obtain ⟨T7, h7, X7, e7, W7, st7⟩ := putF X6 hx hZ hown (host := "") (Or.inl (hw _ (List.mem_of_getElem? (i := 90) rfl))) Via.refl e6 F6_1 E6_0 (Or.inl (hw _ (List.mem_of_getElem? (i := 91) rfl))) (hw _ (List.mem_of_getElem? (i := 1) rfl)) (ty := .int) (by decide) rfl rfl (g := (mkF m 19 #[.val (.ref o0), .val .null, .val (.ref o2), .val (.int p3)] [(.int (p3 + (1 : Int32))), (.ref o0)])) rfl rfl (hb hby d14_19)
      have N7 := Fr.snoc X7 N6 g_o0
      have Z7 : n0 ≤ h7.size := Nat.le_trans Z6 (Keep.of_wr W7).1
      refine own_by st7 ?_
      have Fw7 := F6_1.same W7
      have O7_0 : own_Obj Z h7 o2 (10 : Int32) := (O6_0.other W7 (Ne.symm (own_Obj.ne E6_0 (hw _ (List.mem_of_getElem? (i := 1) rfl)) O6_0)))
      have S7_0 : Sta Z h7 "java/util/ArrayList" "DEFAULTCAPACITY_EMPTY_ELEMENTDATA" "[Ljava/lang/Object;" (.ref dd) := (S6_0.wr W7)
      have E7_0 : Exa Z h7 o0 "java/util/ArrayList" := (E6_0.wr W7)
      have F7_0 : Fld Z h7 o0 "java/util/AbstractList" "modCount" "I" (.int mc1) := (F6_0.other W7 (Or.inr (slot_ne (Or.inl (hw _ (List.mem_of_getElem? (i := 22) rfl))) (Or.inl (hw _ (List.mem_of_getElem? (i := 91) rfl))) (by decide) (t := .int) (t' := .int) (by decide) (by decide))))
      have F7_2 : Fld Z h7 o0 "java/util/ArrayList" "elementData" "[Ljava/lang/Object;" (.ref o2) := (F6_2.other W7 (Or.inr (slot_ne (Or.inl (hw _ (List.mem_of_getElem? (i := 25) rfl))) (Or.inl (hw _ (List.mem_of_getElem? (i := 91) rfl))) (by decide) (t := (.array (.object "java/lang/Object"))) (t' := .int) (by decide) (by decide))))
      show own_Fin p.tables e below _ (T7.setTop (mkF m 22 #[.val (.ref o0), .val .null, .val (.ref o2), .val (.int p3)] []))
      exact own_retV X7 hx Bd.returns hlk (hb hby d14_22) (by decide) (by decide) (by rw [e7]; exact ⟨o2, rfl, N7, g_o2, Z7, O7_0, E7_0, F7_0, Fw7, F7_2, S7_0⟩)
theorem d13_0 : decode jdk_38_method_25_code 0 = .ok (.aload_n 0, 1) := by decide +kernel
theorem d13_1 : decode jdk_38_method_25_code 1 = .ok (.dup, 1) := by decide +kernel
theorem d13_2 : decode jdk_38_method_25_code 2 = .ok (.getfield 63, 3) := by decide +kernel
theorem d13_5 : decode jdk_38_method_25_code 5 = .ok (.iconst 1, 1) := by decide +kernel
theorem d13_6 : decode jdk_38_method_25_code 6 = .ok (.iadd, 1) := by decide +kernel
theorem d13_7 : decode jdk_38_method_25_code 7 = .ok (.putfield 63, 3) := by decide +kernel
theorem d13_10 : decode jdk_38_method_25_code 10 = .ok (.aload_n 0, 1) := by decide +kernel
theorem d13_11 : decode jdk_38_method_25_code 11 = .ok (.aload_n 1, 1) := by decide +kernel
theorem d13_12 : decode jdk_38_method_25_code 12 = .ok (.aload_n 0, 1) := by decide +kernel
theorem d13_13 : decode jdk_38_method_25_code 13 = .ok (.getfield 9, 3) := by decide +kernel
theorem d13_16 : decode jdk_38_method_25_code 16 = .ok (.aload_n 0, 1) := by decide +kernel
theorem d13_17 : decode jdk_38_method_25_code 17 = .ok (.getfield 48, 3) := by decide +kernel
theorem d13_20 : decode jdk_38_method_25_code 20 = .ok (.invokevirtual 131, 3) := by decide +kernel
theorem d13_23 : decode jdk_38_method_25_code 23 = .ok (.iconst 1, 1) := by decide +kernel
theorem d13_24 : decode jdk_38_method_25_code 24 = .ok (.ireturn, 1) := by decide +kernel
theorem pd__Ljava_lang_Object__Ljava_lang_Object_I_V : parseMethodDescriptor "(Ljava/lang/Object;[Ljava/lang/Object;I)V" = some ⟨[(.object "java/lang/Object"), (.array (.object "java/lang/Object")), .int], none⟩ := by decide +kernel
theorem ef_13 (m : MethodId) (o0 : Addr) : entryFrame m #[(.ref o0), .null] 2 = mkF m 0 #[.val (.ref o0), .val .null] [] := by first | (simp [entryFrame, mkF, argsToLocals, Value.category]; done) | rfl
def Q13 (Z : State) (o0 dd el1 : Addr) (mc1 sz1 : Int32) (h0 : Heap) (n0 : Nat) (v : Option Value) (h : Heap) (L : List Loc) : Prop := ∃ (b : Addr) (m2 : Int32), v = some (.int 1) ∧ Fr n0 L ∧ n0 ≤ b ∧ n0 ≤ h.size ∧ own_Obj Z h b 10 ∧ Exa Z h o0 "java/util/ArrayList" ∧ Fld Z h o0 "java/util/AbstractList" "modCount" "I" (.int m2) ∧ Fld Z h o0 "java/util/ArrayList" "size" "I" (.int (sz1 + (1 : Int32))) ∧ Fld Z h o0 "java/util/ArrayList" "elementData" "[Ljava/lang/Object;" (.ref b) ∧ Sta Z h "java/util/ArrayList" "DEFAULTCAPACITY_EMPTY_ELEMENTDATA" "[Ljava/lang/Object;" (.ref dd)
set_option maxRecDepth 65536 in
set_option maxHeartbeats 40000000 in
theorem rm13 (l : Launch) (Z : State) (a0 : Array Value) (hw : ∀ d ∈ tables_1, d.before a0 Z = true) (ws : List Jvm.Cond) (o0 : Addr)  (dd el1 : Addr) (mc1 sz1 : Int32) (h0 : Heap) (n0 : Nat) (Z0 : n0 ≤ h0.size)  (E_o0 : Exa Z h0 o0 "java/util/ArrayList") (FM_o0 : Fld Z h0 o0 "java/util/AbstractList" "modCount" "I" (.int mc1)) (FS_o0 : Fld Z h0 o0 "java/util/ArrayList" "size" "I" (.int sz1)) (FE_o0 : Fld Z h0 o0 "java/util/ArrayList" "elementData" "[Ljava/lang/Object;" (.ref el1)) (S_ : Sta Z h0 "java/util/ArrayList" "DEFAULTCAPACITY_EMPTY_ELEMENTDATA" "[Ljava/lang/Object;" (.ref dd)) (g_o0 : n0 ≤ o0) (hcase : (sz1 = 0 ∧ el1 = dd ∧ own_Obj Z h0 dd 0) ∨ (own_Obj Z h0 el1 10 ∧ n0 ≤ el1 ∧ ¬ sz1 < 0 ∧ sz1 < 10)) :
    MetFree l (⟨"java/util/ArrayList", "add", "(Ljava/lang/Object;)Z"⟩ : MethodName) (head1 (Jvm.Cond.code (⟨"java/util/ArrayList", "add", "(Ljava/lang/Object;)Z"⟩ : MethodName) jdk_38_method_25_code 2 (some .boolean) :: ws) ({ frames := 4, cells := 1, slots := 10, locals := 56 } : Room)) (fun a U => a = #[(.ref o0), .null] ∧ Z.Warmed39 U.vm ∧ U.heap = h0) (fun _ _ _ _ _ => True) (fun _ U o U' => ∃ v L, o = .returned v ∧ Q13 Z o0 dd el1 mc1 sz1 h0 n0 v U'.heap L ∧ FrameEnd U o U' L ({ frames := 4, cells := 1, slots := 10, locals := 56 } : Room).cells ({ frames := 4, cells := 1, slots := 10, locals := 56 } : Room).slots) := by
  refine MetFree.of_bodySF (plainFor_of_name pn_java_util_ArrayList) hisR ?_
  intro p e s m args below meth c s₁ Bd hml0 hP hK
  obtain ⟨rfl, hZ, hh⟩ := hP
  have hx := Bd.exec
  have hby := Bd.bytes
  have hlk : meth.locks = false := BodyLoose.notSynchronized Bd
  have hml : c.maxLocals = 2 := hml0
  have hown : s.vm.findClass "java/util/ArrayList" = some m.cls := findClass_of_methodNamed Bd.named
  have hnm := (name_of_methodNamed Bd.named Bd.method).1
  have X0 : Stand p l e ({ frames := 4, cells := 1, slots := 10, locals := 56 } : Room) s m #[(.ref o0), .null] below meth c s₁ [] 0 0 := Stand.of_body Bd
  have e0 : s₁.heap = h0 := by rw [← hh, Bd.state]; rfl
  have N0 := Fr.nil n0
  refine own_by (U' := s₁.setTop (mkF m 0 #[.val (.ref o0), .val .null] [])) (fun t k => castTop (ef_13 m o0) k) ?_
  refine own_by (fun _ k => XS.aloadN X0.here hx rfl (hb hby d13_0) rfl rfl k) ?_
  show own_Fin p.tables e below _ (s₁.setTop (mkF m 1 #[.val (.ref o0), .val .null] [(.ref o0)]))
  refine own_by (fun _ k => XS.dup X0.here hx rfl (hb hby d13_1) rfl rfl k) ?_
  show own_Fin p.tables e below _ (s₁.setTop (mkF m 2 #[.val (.ref o0), .val .null] [(.ref o0), (.ref o0)]))
  obtain ⟨T1, X1, e1, st1⟩ := getF X0 hx hZ hown (host := "") (Or.inl (hw _ (List.mem_of_getElem? (i := 97) rfl))) (Via.of (hw _ (List.mem_of_getElem? (i := 98) rfl))) e0 FM_o0 (g := (mkF m 2 #[.val (.ref o0), .val .null] [(.ref o0), (.ref o0)])) rfl rfl (hb hby d13_2)
  refine own_by st1 ?_
  show own_Fin p.tables e below _ (T1.setTop (mkF m 5 #[.val (.ref o0), .val .null] [(.int mc1), (.ref o0)]))
  refine own_by (fun _ k => XS.iconst X1.here hx rfl (hb hby d13_5) k) ?_
  show own_Fin p.tables e below _ (T1.setTop (mkF m 6 #[.val (.ref o0), .val .null] [(.int (1 : Int32)), (.int mc1), (.ref o0)]))
  refine own_by (fun _ k => XS.iadd X1.here hx rfl (hb hby d13_6) rfl k) ?_
  show own_Fin p.tables e below _ (T1.setTop (mkF m 7 #[.val (.ref o0), .val .null] [(.int (mc1 + (1 : Int32))), (.ref o0)]))
  obtain ⟨T2, h2, X2, e2, W2, st2⟩ := putF X1 hx hZ hown (host := "") (Or.inl (hw _ (List.mem_of_getElem? (i := 97) rfl))) (Via.of (hw _ (List.mem_of_getElem? (i := 98) rfl))) e1 FM_o0 E_o0 (Or.inl (hw _ (List.mem_of_getElem? (i := 22) rfl))) (hw _ (List.mem_of_getElem? (i := 1) rfl)) (ty := .int) (by decide) rfl rfl (g := (mkF m 7 #[.val (.ref o0), .val .null] [(.int (mc1 + (1 : Int32))), (.ref o0)])) rfl rfl (hb hby d13_7)
  have N2 := Fr.snoc X2 N0 g_o0
  have Z2 : n0 ≤ h2.size := Nat.le_trans Z0 (Keep.of_wr W2).1
  refine own_by st2 ?_
  have Fw2 := FM_o0.same W2
  have S2_0 : Sta Z h2 "java/util/ArrayList" "DEFAULTCAPACITY_EMPTY_ELEMENTDATA" "[Ljava/lang/Object;" (.ref dd) := (S_.wr W2)
  have E2_0 : Exa Z h2 o0 "java/util/ArrayList" := (E_o0.wr W2)
  have F2_1 : Fld Z h2 o0 "java/util/ArrayList" "size" "I" (.int sz1) := (FS_o0.other W2 (Or.inr (slot_ne (Or.inl (hw _ (List.mem_of_getElem? (i := 91) rfl))) (Or.inl (hw _ (List.mem_of_getElem? (i := 22) rfl))) (by decide) (t := .int) (t' := .int) (by decide) (by decide))))
  have F2_2 : Fld Z h2 o0 "java/util/ArrayList" "elementData" "[Ljava/lang/Object;" (.ref el1) := (FE_o0.other W2 (Or.inr (slot_ne (Or.inl (hw _ (List.mem_of_getElem? (i := 25) rfl))) (Or.inl (hw _ (List.mem_of_getElem? (i := 22) rfl))) (by decide) (t := (.array (.object "java/lang/Object"))) (t' := .int) (by decide) (by decide))))
  show own_Fin p.tables e below _ (T2.setTop (mkF m 10 #[.val (.ref o0), .val .null] []))
  refine own_by (fun _ k => XS.aloadN X2.here hx rfl (hb hby d13_10) rfl rfl k) ?_
  show own_Fin p.tables e below _ (T2.setTop (mkF m 11 #[.val (.ref o0), .val .null] [(.ref o0)]))
  refine own_by (fun _ k => XS.aloadN X2.here hx rfl (hb hby d13_11) rfl rfl k) ?_
  show own_Fin p.tables e below _ (T2.setTop (mkF m 12 #[.val (.ref o0), .val .null] [.null, (.ref o0)]))
  refine own_by (fun _ k => XS.aloadN X2.here hx rfl (hb hby d13_12) rfl rfl k) ?_
  show own_Fin p.tables e below _ (T2.setTop (mkF m 13 #[.val (.ref o0), .val .null] [(.ref o0), .null, (.ref o0)]))
  obtain ⟨T3, X3, e3, st3⟩ := getF X2 hx hZ hown (host := "") (Or.inl (hw _ (List.mem_of_getElem? (i := 24) rfl))) Via.refl e2 F2_2 (g := (mkF m 13 #[.val (.ref o0), .val .null] [(.ref o0), .null, (.ref o0)])) rfl rfl (hb hby d13_13)
  refine own_by st3 ?_
  show own_Fin p.tables e below _ (T3.setTop (mkF m 16 #[.val (.ref o0), .val .null] [(.ref el1), .null, (.ref o0)]))
  refine own_by (fun _ k => XS.aloadN X3.here hx rfl (hb hby d13_16) rfl rfl k) ?_
  show own_Fin p.tables e below _ (T3.setTop (mkF m 17 #[.val (.ref o0), .val .null] [(.ref o0), (.ref el1), .null, (.ref o0)]))
  obtain ⟨T4, X4, e4, st4⟩ := getF X3 hx hZ hown (host := "") (Or.inl (hw _ (List.mem_of_getElem? (i := 90) rfl))) Via.refl e3 F2_1 (g := (mkF m 17 #[.val (.ref o0), .val .null] [(.ref o0), (.ref el1), .null, (.ref o0)])) rfl rfl (hb hby d13_17)
  refine own_by st4 ?_
  show own_Fin p.tables e below _ (T4.setTop (mkF m 20 #[.val (.ref o0), .val .null] [(.int sz1), (.ref el1), .null, (.ref o0)]))
  have hcase' : (sz1 = 0 ∧ el1 = dd ∧ own_Obj Z h2 dd 0) ∨ (own_Obj Z h2 el1 10 ∧ n0 ≤ el1 ∧ ¬ sz1 < 0 ∧ sz1 < 10) := hcase.imp (fun q => ⟨q.1, q.2.1, q.2.2.other W2 (Ne.symm (own_Obj.ne E_o0 (hw _ (List.mem_of_getElem? (i := 1) rfl)) q.2.2))⟩) (fun q => ⟨q.1.other W2 (Ne.symm (own_Obj.ne E_o0 (hw _ (List.mem_of_getElem? (i := 1) rfl)) q.1)), q.2⟩)
  obtain ⟨cq5, q5, q5'⟩ := E2_0.cell
  obtain ⟨_, _, ⟨T5, L5, k5, n5⟩, -, X5, ⟨Lc5, hQ5, l5, y5, z5⟩, st5⟩ := X4.privateBack hx (y := (⟨"java/util/ArrayList", "add", "(Ljava/lang/Object;[Ljava/lang/Object;I)V"⟩ : MethodName)) hown (mvT hZ (hw _ (List.mem_of_getElem? (i := 99) rfl))) (mvT hZ (hw _ (List.mem_of_getElem? (i := 100) rfl))) (mvT hZ (hw _ (List.mem_of_getElem? (i := 102) rfl))) (Cond.privateMethod_at (mvP hZ (hw _ (List.mem_of_getElem? (i := 101) rfl)) (args := #[]))) (mvT hZ (hw _ (List.mem_of_getElem? (i := 103) rfl))) (by decide) (backOf (W := 0) (rm14 l Z a0 hw [] o0 el1 sz1 dd (mc1 + (1 : Int32)) h2 n0 Z2 E2_0 Fw2 F2_1 F2_2 S2_0 g_o0 hcase') hZ (hw _ (List.mem_of_getElem? (i := 103) rfl)) (hw _ (List.mem_of_getElem? (i := 2) rfl)) (by decide) (by decide)) (g := (mkF m 20 #[.val (.ref o0), .val .null] [(.int sz1), (.ref el1), .null, (.ref o0)])) rfl (by rw [hml]; rfl) (Steps.refl _) (a := o0) (by rw [e4]; exact q5) q5' (argsL := [.null, (.ref el1), (.int sz1)]) (rest := []) (lenOf pd__Ljava_lang_Object__Ljava_lang_Object_I_V rfl) rfl (by show 2 * 0 + _ ≤ _; exact Nat.le_of_eq rfl) (hb hby d13_20) (fun _ _ => ⟨rfl, e4, (by decide : 0 + 1 ≤ _), (by decide : 0 + 10 ≤ _)⟩)
  dsimp only [Pt.U, Pt.locs, Pt.cells, Pt.slots] at X5 l5 y5 z5 st5 hQ5
  subst l5 y5 z5
  obtain ⟨b5, rfl, N5q, g_b5, Z5, O5_q, E5_q, FM5, FS5, FE5, S5_q⟩ := hQ5
  have N5 := Fr.app N2 N5q
  refine own_by (fun _ k => st5.trans k) ?_
  show own_Fin p.tables e below _ (T5.setTop (mkF m 23 #[.val (.ref o0), .val .null] []))
  refine own_by (fun _ k => XS.iconst X5.here hx rfl (hb hby d13_23) k) ?_
  show own_Fin p.tables e below _ (T5.setTop (mkF m 24 #[.val (.ref o0), .val .null] [(.int (1 : Int32))]))
  exact own_retN X5 hx (t := .boolean) Bd.returns hlk (by simp) (hb hby d13_24) (by decide) (by decide) (by exact ⟨b5, (mc1 + (1 : Int32)), rfl, N5, g_b5, Z5, O5_q, E5_q, FM5, FS5, FE5, S5_q⟩)
theorem own_k1 : (1 : Int32).toInt = 1 := by decide
theorem own_k2 : (2 : Int32).toInt = 2 := by decide
theorem own_k3 : (3 : Int32).toInt = 3 := by decide
theorem own_k4 : (4 : Int32).toInt = 4 := by decide
theorem own_k5 : (5 : Int32).toInt = 5 := by decide
theorem own_k6 : (6 : Int32).toInt = 6 := by decide
theorem own_k7 : (7 : Int32).toInt = 7 := by decide
theorem d5_0 : decode method_3_code 0 = .ok (.iload_n 1, 1) := by decide +kernel
theorem d5_1 : decode method_3_code 1 = .ok (.ifCond .le 9, 3) := by decide +kernel
theorem d5_4 : decode method_3_code 4 = .ok (.aload_n 0, 1) := by decide +kernel
theorem d5_5 : decode method_3_code 5 = .ok (.aconst_null, 1) := by decide +kernel
theorem d5_6 : decode method_3_code 6 = .ok (.invokevirtual 25, 3) := by decide +kernel
theorem d5_9 : decode method_3_code 9 = .ok (.pop, 1) := by decide +kernel
theorem d5_10 : decode method_3_code 10 = .ok (.iload_n 1, 1) := by decide +kernel
theorem d5_11 : decode method_3_code 11 = .ok (.iconst 1, 1) := by decide +kernel
theorem d5_12 : decode method_3_code 12 = .ok (.if_icmp .le 9, 3) := by decide +kernel
theorem d5_15 : decode method_3_code 15 = .ok (.aload_n 0, 1) := by decide +kernel
theorem d5_16 : decode method_3_code 16 = .ok (.aconst_null, 1) := by decide +kernel
theorem d5_17 : decode method_3_code 17 = .ok (.invokevirtual 25, 3) := by decide +kernel
theorem d5_20 : decode method_3_code 20 = .ok (.pop, 1) := by decide +kernel
theorem d5_21 : decode method_3_code 21 = .ok (.iload_n 1, 1) := by decide +kernel
theorem d5_22 : decode method_3_code 22 = .ok (.iconst 2, 1) := by decide +kernel
theorem d5_23 : decode method_3_code 23 = .ok (.if_icmp .le 9, 3) := by decide +kernel
theorem d5_26 : decode method_3_code 26 = .ok (.aload_n 0, 1) := by decide +kernel
theorem d5_27 : decode method_3_code 27 = .ok (.aconst_null, 1) := by decide +kernel
theorem d5_28 : decode method_3_code 28 = .ok (.invokevirtual 25, 3) := by decide +kernel
theorem d5_31 : decode method_3_code 31 = .ok (.pop, 1) := by decide +kernel
theorem d5_32 : decode method_3_code 32 = .ok (.iload_n 1, 1) := by decide +kernel
theorem d5_33 : decode method_3_code 33 = .ok (.iconst 3, 1) := by decide +kernel
theorem d5_34 : decode method_3_code 34 = .ok (.if_icmp .le 9, 3) := by decide +kernel
theorem d5_37 : decode method_3_code 37 = .ok (.aload_n 0, 1) := by decide +kernel
theorem d5_38 : decode method_3_code 38 = .ok (.aconst_null, 1) := by decide +kernel
theorem d5_39 : decode method_3_code 39 = .ok (.invokevirtual 25, 3) := by decide +kernel
theorem d5_42 : decode method_3_code 42 = .ok (.pop, 1) := by decide +kernel
theorem d5_43 : decode method_3_code 43 = .ok (.iload_n 1, 1) := by decide +kernel
theorem d5_44 : decode method_3_code 44 = .ok (.iconst 4, 1) := by decide +kernel
theorem d5_45 : decode method_3_code 45 = .ok (.if_icmp .le 9, 3) := by decide +kernel
theorem d5_48 : decode method_3_code 48 = .ok (.aload_n 0, 1) := by decide +kernel
theorem d5_49 : decode method_3_code 49 = .ok (.aconst_null, 1) := by decide +kernel
theorem d5_50 : decode method_3_code 50 = .ok (.invokevirtual 25, 3) := by decide +kernel
theorem d5_53 : decode method_3_code 53 = .ok (.pop, 1) := by decide +kernel
theorem d5_54 : decode method_3_code 54 = .ok (.iload_n 1, 1) := by decide +kernel
theorem d5_55 : decode method_3_code 55 = .ok (.iconst 5, 1) := by decide +kernel
theorem d5_56 : decode method_3_code 56 = .ok (.if_icmp .le 9, 3) := by decide +kernel
theorem d5_59 : decode method_3_code 59 = .ok (.aload_n 0, 1) := by decide +kernel
theorem d5_60 : decode method_3_code 60 = .ok (.aconst_null, 1) := by decide +kernel
theorem d5_61 : decode method_3_code 61 = .ok (.invokevirtual 25, 3) := by decide +kernel
theorem d5_64 : decode method_3_code 64 = .ok (.pop, 1) := by decide +kernel
theorem d5_65 : decode method_3_code 65 = .ok (.iload_n 1, 1) := by decide +kernel
theorem d5_66 : decode method_3_code 66 = .ok (.bipush 6, 2) := by decide +kernel
theorem d5_68 : decode method_3_code 68 = .ok (.if_icmp .le 9, 3) := by decide +kernel
theorem d5_71 : decode method_3_code 71 = .ok (.aload_n 0, 1) := by decide +kernel
theorem d5_72 : decode method_3_code 72 = .ok (.aconst_null, 1) := by decide +kernel
theorem d5_73 : decode method_3_code 73 = .ok (.invokevirtual 25, 3) := by decide +kernel
theorem d5_76 : decode method_3_code 76 = .ok (.pop, 1) := by decide +kernel
theorem d5_77 : decode method_3_code 77 = .ok (.return_, 1) := by decide +kernel
theorem pd__Ljava_lang_Object__Z : parseMethodDescriptor "(Ljava/lang/Object;)Z" = some ⟨[(.object "java/lang/Object")], some .boolean⟩ := by decide +kernel
theorem pn_com_example_twinshelf_twinshelf_cli_ArgumentReaderHasNextPinLaw : plainName "com/example/twinshelf/twinshelf/cli/ArgumentReaderHasNextPinLaw" = true := by first | (simp [plainName, overriddenIn]; done) | decide +kernel
theorem ef_5 (m : MethodId) (o0 : Addr) (p1 : Int32) : entryFrame m #[(.ref o0), (.int p1)] 2 = mkF m 0 #[.val (.ref o0), .val (.int p1)] [] := by first | (simp [entryFrame, mkF, argsToLocals, Value.category]; done) | rfl
def Q5 (Z : State) (o0 dd : Addr) (p1 : Int32) (h0 : Heap) (n0 : Nat) (v : Option Value) (h : Heap) (L : List Loc) : Prop := v = none ∧ Fr n0 L ∧ n0 ≤ h.size ∧ Exa Z h o0 "java/util/ArrayList" ∧ Fld Z h o0 "java/util/ArrayList" "size" "I" (.int p1)
set_option maxRecDepth 65536 in
set_option maxHeartbeats 40000000 in
theorem rm5 (l : Launch) (Z : State) (a0 : Array Value) (hw : ∀ d ∈ tables_1, d.before a0 Z = true) (ws : List Jvm.Cond) (o0 : Addr) (p1 : Int32)  (dd : Addr) (h0 : Heap) (n0 : Nat) (Z0 : n0 ≤ h0.size)  (E_o0 : Exa Z h0 o0 "java/util/ArrayList") (FM_o0 : Fld Z h0 o0 "java/util/AbstractList" "modCount" "I" (.int (0 : Int32))) (FS_o0 : Fld Z h0 o0 "java/util/ArrayList" "size" "I" (.int (0 : Int32))) (FE_o0 : Fld Z h0 o0 "java/util/ArrayList" "elementData" "[Ljava/lang/Object;" (.ref dd)) (S_ : Sta Z h0 "java/util/ArrayList" "DEFAULTCAPACITY_EMPTY_ELEMENTDATA" "[Ljava/lang/Object;" (.ref dd)) (g_o0 : n0 ≤ o0) (O_dd : own_Obj Z h0 dd 0) (hp0 : 0 ≤ p1.toInt) (hp7 : p1.toInt ≤ 7) :
    MetFree l (⟨"com/example/twinshelf/twinshelf/cli/ArgumentReaderHasNextPinLaw", "fill", "(Ljava/util/ArrayList;I)V"⟩ : MethodName) (head1 (Jvm.Cond.code (⟨"com/example/twinshelf/twinshelf/cli/ArgumentReaderHasNextPinLaw", "fill", "(Ljava/util/ArrayList;I)V"⟩ : MethodName) method_3_code 2 none :: ws) ({ frames := 5, cells := 7, slots := 70, locals := 69 } : Room)) (fun a U => a = #[(.ref o0), (.int p1)] ∧ Z.Warmed39 U.vm ∧ U.heap = h0) (fun _ _ _ _ _ => True) (fun _ U o U' => ∃ v L, o = .returned v ∧ Q5 Z o0 dd p1 h0 n0 v U'.heap L ∧ FrameEnd U o U' L ({ frames := 5, cells := 7, slots := 70, locals := 69 } : Room).cells ({ frames := 5, cells := 7, slots := 70, locals := 69 } : Room).slots) := by
  refine MetFree.of_bodySF (plainFor_of_name pn_com_example_twinshelf_twinshelf_cli_ArgumentReaderHasNextPinLaw) hisR ?_
  intro p e s m args below meth c s₁ Bd hml0 hP hK
  obtain ⟨rfl, hZ, hh⟩ := hP
  have hx := Bd.exec
  have hby := Bd.bytes
  have hlk : meth.locks = false := BodyLoose.notSynchronized Bd
  have hml : c.maxLocals = 2 := hml0
  have hown : s.vm.findClass "com/example/twinshelf/twinshelf/cli/ArgumentReaderHasNextPinLaw" = some m.cls := findClass_of_methodNamed Bd.named
  have hnm := (name_of_methodNamed Bd.named Bd.method).1
  have X0 : Stand p l e ({ frames := 5, cells := 7, slots := 70, locals := 69 } : Room) s m #[(.ref o0), (.int p1)] below meth c s₁ [] 0 0 := Stand.of_body Bd
  have e0 : s₁.heap = h0 := by rw [← hh, Bd.state]; rfl
  have N0 := Fr.nil n0
  refine own_by (U' := s₁.setTop (mkF m 0 #[.val (.ref o0), .val (.int p1)] [])) (fun t k => castTop (ef_5 m o0 p1) k) ?_
  refine own_by (fun _ k => XS.iloadN X0.here hx rfl (hb hby d5_0) rfl k) ?_
  show own_Fin p.tables e below _ (s₁.setTop (mkF m 1 #[.val (.ref o0), .val (.int p1)] [(.int p1)]))
  by_cases hc1 : (0 : Int32) < p1
  · refine own_by (fun _ k => XS.ifNo X0.here hx rfl (hb hby d5_1) rfl ((if0 _ _).trans (tlt hc1).2.2.2) k) ?_
    show own_Fin p.tables e below _ (s₁.setTop (mkF m 4 #[.val (.ref o0), .val (.int p1)] []))
    refine own_by (fun _ k => XS.aloadN X0.here hx rfl (hb hby d5_4) rfl rfl k) ?_
    show own_Fin p.tables e below _ (s₁.setTop (mkF m 5 #[.val (.ref o0), .val (.int p1)] [(.ref o0)]))
    refine own_by (fun _ k => XS.aconstNull X0.here hx rfl (hb hby d5_5) k) ?_
    show own_Fin p.tables e below _ (s₁.setTop (mkF m 6 #[.val (.ref o0), .val (.int p1)] [.null, (.ref o0)]))
    obtain ⟨cq2, kq2, q2a, q2b, q2c⟩ := isOf hZ e0 E_o0
    obtain ⟨_, _, ⟨T2, L2, k2, n2⟩, -, X2, ⟨Lc2, hQ2, l2, y2, z2⟩, st2⟩ := X0.virtualBack hx (y := (⟨"java/util/ArrayList", "add", "(Ljava/lang/Object;)Z"⟩ : MethodName)) (z := (⟨"java/util/ArrayList", "add", "(Ljava/lang/Object;)Z"⟩ : MethodName)) hown (mvT hZ (hw _ (List.mem_of_getElem? (i := 92) rfl))) (mvT hZ (hw _ (List.mem_of_getElem? (i := 93) rfl))) (notFace_of_selects (args := #[]) (mvT hZ (hw _ (List.mem_of_getElem? (i := 95) rfl)))) (mvT hZ (hw _ (List.mem_of_getElem? (i := 95) rfl))) (mvT hZ (hw _ (List.mem_of_getElem? (i := 94) rfl))) (by decide) (backOf (W := 0) (rm13 l Z a0 hw [] o0 dd dd (0 : Int32) (0 : Int32) h0 n0 Z0 E_o0 FM_o0 FS_o0 FE_o0 S_ g_o0 (Or.inl ⟨rfl, rfl, O_dd⟩)) hZ (hw _ (List.mem_of_getElem? (i := 96) rfl)) (hw _ (List.mem_of_getElem? (i := 2) rfl)) (by decide) (by decide)) q2a q2c (g := (mkF m 6 #[.val (.ref o0), .val (.int p1)] [.null, (.ref o0)])) rfl (by rw [hml]; rfl) (Steps.refl _) (argsL := [.null]) (rest := []) (lenOf pd__Ljava_lang_Object__Z rfl) rfl (by show 2 * 0 + _ ≤ _; exact Nat.le_of_eq rfl) (hb hby d5_6) (fun _ _ => ⟨rfl, e0, (by decide : 0 + 1 ≤ _), (by decide : 0 + 10 ≤ _)⟩)
    dsimp only [Pt.U, Pt.locs, Pt.cells, Pt.slots] at X2 l2 y2 z2 st2 hQ2
    subst l2 y2 z2
    obtain ⟨b2, m2, rfl, N2q, g_b2, Z2, O2_q, E2_q, FM2, FS2, FE2, S2_q⟩ := hQ2
    have N2 := Fr.app N0 N2q
    refine own_by (fun _ k => st2.trans k) ?_
    show own_Fin p.tables e below _ (T2.setTop (mkF m 9 #[.val (.ref o0), .val (.int p1)] [(.int (1 : Int32))]))
    refine own_by (fun _ k => XS.pop X2.here hx rfl (hb hby d5_9) rfl rfl k) ?_
    show own_Fin p.tables e below _ (T2.setTop (mkF m 10 #[.val (.ref o0), .val (.int p1)] []))
    refine own_by (fun _ k => XS.iloadN X2.here hx rfl (hb hby d5_10) rfl k) ?_
    show own_Fin p.tables e below _ (T2.setTop (mkF m 11 #[.val (.ref o0), .val (.int p1)] [(.int p1)]))
    refine own_by (fun _ k => XS.iconst X2.here hx rfl (hb hby d5_11) k) ?_
    show own_Fin p.tables e below _ (T2.setTop (mkF m 12 #[.val (.ref o0), .val (.int p1)] [(.int (1 : Int32)), (.int p1)]))
    by_cases hc3 : (1 : Int32) < p1
    · refine own_by (fun _ k => XS.icmpNo X2.here hx rfl (hb hby d5_12) rfl (tlt hc3).2.2.2 k) ?_
      show own_Fin p.tables e below _ (T2.setTop (mkF m 15 #[.val (.ref o0), .val (.int p1)] []))
      refine own_by (fun _ k => XS.aloadN X2.here hx rfl (hb hby d5_15) rfl rfl k) ?_
      show own_Fin p.tables e below _ (T2.setTop (mkF m 16 #[.val (.ref o0), .val (.int p1)] [(.ref o0)]))
      refine own_by (fun _ k => XS.aconstNull X2.here hx rfl (hb hby d5_16) k) ?_
      show own_Fin p.tables e below _ (T2.setTop (mkF m 17 #[.val (.ref o0), .val (.int p1)] [.null, (.ref o0)]))
      obtain ⟨cq4, kq4, q4a, q4b, q4c⟩ := isOf hZ rfl E2_q
      obtain ⟨_, _, ⟨T4, L4, k4, n4⟩, -, X4, ⟨Lc4, hQ4, l4, y4, z4⟩, st4⟩ := X2.virtualBack hx (y := (⟨"java/util/ArrayList", "add", "(Ljava/lang/Object;)Z"⟩ : MethodName)) (z := (⟨"java/util/ArrayList", "add", "(Ljava/lang/Object;)Z"⟩ : MethodName)) hown (mvT hZ (hw _ (List.mem_of_getElem? (i := 92) rfl))) (mvT hZ (hw _ (List.mem_of_getElem? (i := 93) rfl))) (notFace_of_selects (args := #[]) (mvT hZ (hw _ (List.mem_of_getElem? (i := 95) rfl)))) (mvT hZ (hw _ (List.mem_of_getElem? (i := 95) rfl))) (mvT hZ (hw _ (List.mem_of_getElem? (i := 94) rfl))) (by decide) (backOf (W := 0) (rm13 l Z a0 hw [] o0 dd b2 m2 ((0 : Int32) + (1 : Int32)) T2.heap n0 Z2 E2_q FM2 FS2 FE2 S2_q g_o0 (Or.inr ⟨O2_q, g_b2, by decide, by decide⟩)) hZ (hw _ (List.mem_of_getElem? (i := 96) rfl)) (hw _ (List.mem_of_getElem? (i := 2) rfl)) (by decide) (by decide)) q4a q4c (g := (mkF m 17 #[.val (.ref o0), .val (.int p1)] [.null, (.ref o0)])) rfl (by rw [hml]; rfl) (Steps.refl _) (argsL := [.null]) (rest := []) (lenOf pd__Ljava_lang_Object__Z rfl) rfl (by show 2 * 0 + _ ≤ _; exact Nat.le_of_eq rfl) (hb hby d5_17) (fun _ _ => ⟨rfl, rfl, (by decide : 1 + 1 ≤ _), (by decide : 10 + 10 ≤ _)⟩)
      dsimp only [Pt.U, Pt.locs, Pt.cells, Pt.slots] at X4 l4 y4 z4 st4 hQ4
      subst l4 y4 z4
      obtain ⟨b4, m4, rfl, N4q, g_b4, Z4, O4_q, E4_q, FM4, FS4, FE4, S4_q⟩ := hQ4
      have N4 := Fr.app N2 N4q
      refine own_by (fun _ k => st4.trans k) ?_
      show own_Fin p.tables e below _ (T4.setTop (mkF m 20 #[.val (.ref o0), .val (.int p1)] [(.int (1 : Int32))]))
      refine own_by (fun _ k => XS.pop X4.here hx rfl (hb hby d5_20) rfl rfl k) ?_
      show own_Fin p.tables e below _ (T4.setTop (mkF m 21 #[.val (.ref o0), .val (.int p1)] []))
      refine own_by (fun _ k => XS.iloadN X4.here hx rfl (hb hby d5_21) rfl k) ?_
      show own_Fin p.tables e below _ (T4.setTop (mkF m 22 #[.val (.ref o0), .val (.int p1)] [(.int p1)]))
      refine own_by (fun _ k => XS.iconst X4.here hx rfl (hb hby d5_22) k) ?_
      show own_Fin p.tables e below _ (T4.setTop (mkF m 23 #[.val (.ref o0), .val (.int p1)] [(.int (2 : Int32)), (.int p1)]))
      by_cases hc5 : (2 : Int32) < p1
      · refine own_by (fun _ k => XS.icmpNo X4.here hx rfl (hb hby d5_23) rfl (tlt hc5).2.2.2 k) ?_
        show own_Fin p.tables e below _ (T4.setTop (mkF m 26 #[.val (.ref o0), .val (.int p1)] []))
        refine own_by (fun _ k => XS.aloadN X4.here hx rfl (hb hby d5_26) rfl rfl k) ?_
        show own_Fin p.tables e below _ (T4.setTop (mkF m 27 #[.val (.ref o0), .val (.int p1)] [(.ref o0)]))
        refine own_by (fun _ k => XS.aconstNull X4.here hx rfl (hb hby d5_27) k) ?_
        show own_Fin p.tables e below _ (T4.setTop (mkF m 28 #[.val (.ref o0), .val (.int p1)] [.null, (.ref o0)]))
        obtain ⟨cq6, kq6, q6a, q6b, q6c⟩ := isOf hZ rfl E4_q
        obtain ⟨_, _, ⟨T6, L6, k6, n6⟩, -, X6, ⟨Lc6, hQ6, l6, y6, z6⟩, st6⟩ := X4.virtualBack hx (y := (⟨"java/util/ArrayList", "add", "(Ljava/lang/Object;)Z"⟩ : MethodName)) (z := (⟨"java/util/ArrayList", "add", "(Ljava/lang/Object;)Z"⟩ : MethodName)) hown (mvT hZ (hw _ (List.mem_of_getElem? (i := 92) rfl))) (mvT hZ (hw _ (List.mem_of_getElem? (i := 93) rfl))) (notFace_of_selects (args := #[]) (mvT hZ (hw _ (List.mem_of_getElem? (i := 95) rfl)))) (mvT hZ (hw _ (List.mem_of_getElem? (i := 95) rfl))) (mvT hZ (hw _ (List.mem_of_getElem? (i := 94) rfl))) (by decide) (backOf (W := 0) (rm13 l Z a0 hw [] o0 dd b4 m4 (((0 : Int32) + (1 : Int32)) + (1 : Int32)) T4.heap n0 Z4 E4_q FM4 FS4 FE4 S4_q g_o0 (Or.inr ⟨O4_q, g_b4, by decide, by decide⟩)) hZ (hw _ (List.mem_of_getElem? (i := 96) rfl)) (hw _ (List.mem_of_getElem? (i := 2) rfl)) (by decide) (by decide)) q6a q6c (g := (mkF m 28 #[.val (.ref o0), .val (.int p1)] [.null, (.ref o0)])) rfl (by rw [hml]; rfl) (Steps.refl _) (argsL := [.null]) (rest := []) (lenOf pd__Ljava_lang_Object__Z rfl) rfl (by show 2 * 0 + _ ≤ _; exact Nat.le_of_eq rfl) (hb hby d5_28) (fun _ _ => ⟨rfl, rfl, (by decide : 2 + 1 ≤ _), (by decide : 20 + 10 ≤ _)⟩)
        dsimp only [Pt.U, Pt.locs, Pt.cells, Pt.slots] at X6 l6 y6 z6 st6 hQ6
        subst l6 y6 z6
        obtain ⟨b6, m6, rfl, N6q, g_b6, Z6, O6_q, E6_q, FM6, FS6, FE6, S6_q⟩ := hQ6
        have N6 := Fr.app N4 N6q
        refine own_by (fun _ k => st6.trans k) ?_
        show own_Fin p.tables e below _ (T6.setTop (mkF m 31 #[.val (.ref o0), .val (.int p1)] [(.int (1 : Int32))]))
        refine own_by (fun _ k => XS.pop X6.here hx rfl (hb hby d5_31) rfl rfl k) ?_
        show own_Fin p.tables e below _ (T6.setTop (mkF m 32 #[.val (.ref o0), .val (.int p1)] []))
        refine own_by (fun _ k => XS.iloadN X6.here hx rfl (hb hby d5_32) rfl k) ?_
        show own_Fin p.tables e below _ (T6.setTop (mkF m 33 #[.val (.ref o0), .val (.int p1)] [(.int p1)]))
        refine own_by (fun _ k => XS.iconst X6.here hx rfl (hb hby d5_33) k) ?_
        show own_Fin p.tables e below _ (T6.setTop (mkF m 34 #[.val (.ref o0), .val (.int p1)] [(.int (3 : Int32)), (.int p1)]))
        by_cases hc7 : (3 : Int32) < p1
        · refine own_by (fun _ k => XS.icmpNo X6.here hx rfl (hb hby d5_34) rfl (tlt hc7).2.2.2 k) ?_
          show own_Fin p.tables e below _ (T6.setTop (mkF m 37 #[.val (.ref o0), .val (.int p1)] []))
          refine own_by (fun _ k => XS.aloadN X6.here hx rfl (hb hby d5_37) rfl rfl k) ?_
          show own_Fin p.tables e below _ (T6.setTop (mkF m 38 #[.val (.ref o0), .val (.int p1)] [(.ref o0)]))
          refine own_by (fun _ k => XS.aconstNull X6.here hx rfl (hb hby d5_38) k) ?_
          show own_Fin p.tables e below _ (T6.setTop (mkF m 39 #[.val (.ref o0), .val (.int p1)] [.null, (.ref o0)]))
          obtain ⟨cq8, kq8, q8a, q8b, q8c⟩ := isOf hZ rfl E6_q
          obtain ⟨_, _, ⟨T8, L8, k8, n8⟩, -, X8, ⟨Lc8, hQ8, l8, y8, z8⟩, st8⟩ := X6.virtualBack hx (y := (⟨"java/util/ArrayList", "add", "(Ljava/lang/Object;)Z"⟩ : MethodName)) (z := (⟨"java/util/ArrayList", "add", "(Ljava/lang/Object;)Z"⟩ : MethodName)) hown (mvT hZ (hw _ (List.mem_of_getElem? (i := 92) rfl))) (mvT hZ (hw _ (List.mem_of_getElem? (i := 93) rfl))) (notFace_of_selects (args := #[]) (mvT hZ (hw _ (List.mem_of_getElem? (i := 95) rfl)))) (mvT hZ (hw _ (List.mem_of_getElem? (i := 95) rfl))) (mvT hZ (hw _ (List.mem_of_getElem? (i := 94) rfl))) (by decide) (backOf (W := 0) (rm13 l Z a0 hw [] o0 dd b6 m6 ((((0 : Int32) + (1 : Int32)) + (1 : Int32)) + (1 : Int32)) T6.heap n0 Z6 E6_q FM6 FS6 FE6 S6_q g_o0 (Or.inr ⟨O6_q, g_b6, by decide, by decide⟩)) hZ (hw _ (List.mem_of_getElem? (i := 96) rfl)) (hw _ (List.mem_of_getElem? (i := 2) rfl)) (by decide) (by decide)) q8a q8c (g := (mkF m 39 #[.val (.ref o0), .val (.int p1)] [.null, (.ref o0)])) rfl (by rw [hml]; rfl) (Steps.refl _) (argsL := [.null]) (rest := []) (lenOf pd__Ljava_lang_Object__Z rfl) rfl (by show 2 * 0 + _ ≤ _; exact Nat.le_of_eq rfl) (hb hby d5_39) (fun _ _ => ⟨rfl, rfl, (by decide : 3 + 1 ≤ _), (by decide : 30 + 10 ≤ _)⟩)
          dsimp only [Pt.U, Pt.locs, Pt.cells, Pt.slots] at X8 l8 y8 z8 st8 hQ8
          subst l8 y8 z8
          obtain ⟨b8, m8, rfl, N8q, g_b8, Z8, O8_q, E8_q, FM8, FS8, FE8, S8_q⟩ := hQ8
          have N8 := Fr.app N6 N8q
          refine own_by (fun _ k => st8.trans k) ?_
          show own_Fin p.tables e below _ (T8.setTop (mkF m 42 #[.val (.ref o0), .val (.int p1)] [(.int (1 : Int32))]))
          refine own_by (fun _ k => XS.pop X8.here hx rfl (hb hby d5_42) rfl rfl k) ?_
          show own_Fin p.tables e below _ (T8.setTop (mkF m 43 #[.val (.ref o0), .val (.int p1)] []))
          refine own_by (fun _ k => XS.iloadN X8.here hx rfl (hb hby d5_43) rfl k) ?_
          show own_Fin p.tables e below _ (T8.setTop (mkF m 44 #[.val (.ref o0), .val (.int p1)] [(.int p1)]))
          refine own_by (fun _ k => XS.iconst X8.here hx rfl (hb hby d5_44) k) ?_
          show own_Fin p.tables e below _ (T8.setTop (mkF m 45 #[.val (.ref o0), .val (.int p1)] [(.int (4 : Int32)), (.int p1)]))
          by_cases hc9 : (4 : Int32) < p1
          · refine own_by (fun _ k => XS.icmpNo X8.here hx rfl (hb hby d5_45) rfl (tlt hc9).2.2.2 k) ?_
            show own_Fin p.tables e below _ (T8.setTop (mkF m 48 #[.val (.ref o0), .val (.int p1)] []))
            refine own_by (fun _ k => XS.aloadN X8.here hx rfl (hb hby d5_48) rfl rfl k) ?_
            show own_Fin p.tables e below _ (T8.setTop (mkF m 49 #[.val (.ref o0), .val (.int p1)] [(.ref o0)]))
            refine own_by (fun _ k => XS.aconstNull X8.here hx rfl (hb hby d5_49) k) ?_
            show own_Fin p.tables e below _ (T8.setTop (mkF m 50 #[.val (.ref o0), .val (.int p1)] [.null, (.ref o0)]))
            obtain ⟨cq10, kq10, q10a, q10b, q10c⟩ := isOf hZ rfl E8_q
            obtain ⟨_, _, ⟨T10, L10, k10, n10⟩, -, X10, ⟨Lc10, hQ10, l10, y10, z10⟩, st10⟩ := X8.virtualBack hx (y := (⟨"java/util/ArrayList", "add", "(Ljava/lang/Object;)Z"⟩ : MethodName)) (z := (⟨"java/util/ArrayList", "add", "(Ljava/lang/Object;)Z"⟩ : MethodName)) hown (mvT hZ (hw _ (List.mem_of_getElem? (i := 92) rfl))) (mvT hZ (hw _ (List.mem_of_getElem? (i := 93) rfl))) (notFace_of_selects (args := #[]) (mvT hZ (hw _ (List.mem_of_getElem? (i := 95) rfl)))) (mvT hZ (hw _ (List.mem_of_getElem? (i := 95) rfl))) (mvT hZ (hw _ (List.mem_of_getElem? (i := 94) rfl))) (by decide) (backOf (W := 0) (rm13 l Z a0 hw [] o0 dd b8 m8 (((((0 : Int32) + (1 : Int32)) + (1 : Int32)) + (1 : Int32)) + (1 : Int32)) T8.heap n0 Z8 E8_q FM8 FS8 FE8 S8_q g_o0 (Or.inr ⟨O8_q, g_b8, by decide, by decide⟩)) hZ (hw _ (List.mem_of_getElem? (i := 96) rfl)) (hw _ (List.mem_of_getElem? (i := 2) rfl)) (by decide) (by decide)) q10a q10c (g := (mkF m 50 #[.val (.ref o0), .val (.int p1)] [.null, (.ref o0)])) rfl (by rw [hml]; rfl) (Steps.refl _) (argsL := [.null]) (rest := []) (lenOf pd__Ljava_lang_Object__Z rfl) rfl (by show 2 * 0 + _ ≤ _; exact Nat.le_of_eq rfl) (hb hby d5_50) (fun _ _ => ⟨rfl, rfl, (by decide : 4 + 1 ≤ _), (by decide : 40 + 10 ≤ _)⟩)
            dsimp only [Pt.U, Pt.locs, Pt.cells, Pt.slots] at X10 l10 y10 z10 st10 hQ10
            subst l10 y10 z10
            obtain ⟨b10, m10, rfl, N10q, g_b10, Z10, O10_q, E10_q, FM10, FS10, FE10, S10_q⟩ := hQ10
            have N10 := Fr.app N8 N10q
            refine own_by (fun _ k => st10.trans k) ?_
            show own_Fin p.tables e below _ (T10.setTop (mkF m 53 #[.val (.ref o0), .val (.int p1)] [(.int (1 : Int32))]))
            refine own_by (fun _ k => XS.pop X10.here hx rfl (hb hby d5_53) rfl rfl k) ?_
            show own_Fin p.tables e below _ (T10.setTop (mkF m 54 #[.val (.ref o0), .val (.int p1)] []))
            refine own_by (fun _ k => XS.iloadN X10.here hx rfl (hb hby d5_54) rfl k) ?_
            show own_Fin p.tables e below _ (T10.setTop (mkF m 55 #[.val (.ref o0), .val (.int p1)] [(.int p1)]))
            refine own_by (fun _ k => XS.iconst X10.here hx rfl (hb hby d5_55) k) ?_
            show own_Fin p.tables e below _ (T10.setTop (mkF m 56 #[.val (.ref o0), .val (.int p1)] [(.int (5 : Int32)), (.int p1)]))
            by_cases hc11 : (5 : Int32) < p1
            · refine own_by (fun _ k => XS.icmpNo X10.here hx rfl (hb hby d5_56) rfl (tlt hc11).2.2.2 k) ?_
              show own_Fin p.tables e below _ (T10.setTop (mkF m 59 #[.val (.ref o0), .val (.int p1)] []))
              refine own_by (fun _ k => XS.aloadN X10.here hx rfl (hb hby d5_59) rfl rfl k) ?_
              show own_Fin p.tables e below _ (T10.setTop (mkF m 60 #[.val (.ref o0), .val (.int p1)] [(.ref o0)]))
              refine own_by (fun _ k => XS.aconstNull X10.here hx rfl (hb hby d5_60) k) ?_
              show own_Fin p.tables e below _ (T10.setTop (mkF m 61 #[.val (.ref o0), .val (.int p1)] [.null, (.ref o0)]))
              obtain ⟨cq12, kq12, q12a, q12b, q12c⟩ := isOf hZ rfl E10_q
              obtain ⟨_, _, ⟨T12, L12, k12, n12⟩, -, X12, ⟨Lc12, hQ12, l12, y12, z12⟩, st12⟩ := X10.virtualBack hx (y := (⟨"java/util/ArrayList", "add", "(Ljava/lang/Object;)Z"⟩ : MethodName)) (z := (⟨"java/util/ArrayList", "add", "(Ljava/lang/Object;)Z"⟩ : MethodName)) hown (mvT hZ (hw _ (List.mem_of_getElem? (i := 92) rfl))) (mvT hZ (hw _ (List.mem_of_getElem? (i := 93) rfl))) (notFace_of_selects (args := #[]) (mvT hZ (hw _ (List.mem_of_getElem? (i := 95) rfl)))) (mvT hZ (hw _ (List.mem_of_getElem? (i := 95) rfl))) (mvT hZ (hw _ (List.mem_of_getElem? (i := 94) rfl))) (by decide) (backOf (W := 0) (rm13 l Z a0 hw [] o0 dd b10 m10 ((((((0 : Int32) + (1 : Int32)) + (1 : Int32)) + (1 : Int32)) + (1 : Int32)) + (1 : Int32)) T10.heap n0 Z10 E10_q FM10 FS10 FE10 S10_q g_o0 (Or.inr ⟨O10_q, g_b10, by decide, by decide⟩)) hZ (hw _ (List.mem_of_getElem? (i := 96) rfl)) (hw _ (List.mem_of_getElem? (i := 2) rfl)) (by decide) (by decide)) q12a q12c (g := (mkF m 61 #[.val (.ref o0), .val (.int p1)] [.null, (.ref o0)])) rfl (by rw [hml]; rfl) (Steps.refl _) (argsL := [.null]) (rest := []) (lenOf pd__Ljava_lang_Object__Z rfl) rfl (by show 2 * 0 + _ ≤ _; exact Nat.le_of_eq rfl) (hb hby d5_61) (fun _ _ => ⟨rfl, rfl, (by decide : 5 + 1 ≤ _), (by decide : 50 + 10 ≤ _)⟩)
              dsimp only [Pt.U, Pt.locs, Pt.cells, Pt.slots] at X12 l12 y12 z12 st12 hQ12
              subst l12 y12 z12
              obtain ⟨b12, m12, rfl, N12q, g_b12, Z12, O12_q, E12_q, FM12, FS12, FE12, S12_q⟩ := hQ12
              have N12 := Fr.app N10 N12q
              refine own_by (fun _ k => st12.trans k) ?_
              show own_Fin p.tables e below _ (T12.setTop (mkF m 64 #[.val (.ref o0), .val (.int p1)] [(.int (1 : Int32))]))
              refine own_by (fun _ k => XS.pop X12.here hx rfl (hb hby d5_64) rfl rfl k) ?_
              show own_Fin p.tables e below _ (T12.setTop (mkF m 65 #[.val (.ref o0), .val (.int p1)] []))
              refine own_by (fun _ k => XS.iloadN X12.here hx rfl (hb hby d5_65) rfl k) ?_
              show own_Fin p.tables e below _ (T12.setTop (mkF m 66 #[.val (.ref o0), .val (.int p1)] [(.int p1)]))
              refine own_by (fun _ k => XS.bipush X12.here hx rfl (hb hby d5_66) k) ?_
              show own_Fin p.tables e below _ (T12.setTop (mkF m 68 #[.val (.ref o0), .val (.int p1)] [(.int (6 : Int32)), (.int p1)]))
              by_cases hc13 : (6 : Int32) < p1
              · refine own_by (fun _ k => XS.icmpNo X12.here hx rfl (hb hby d5_68) rfl (tlt hc13).2.2.2 k) ?_
                show own_Fin p.tables e below _ (T12.setTop (mkF m 71 #[.val (.ref o0), .val (.int p1)] []))
                refine own_by (fun _ k => XS.aloadN X12.here hx rfl (hb hby d5_71) rfl rfl k) ?_
                show own_Fin p.tables e below _ (T12.setTop (mkF m 72 #[.val (.ref o0), .val (.int p1)] [(.ref o0)]))
                refine own_by (fun _ k => XS.aconstNull X12.here hx rfl (hb hby d5_72) k) ?_
                show own_Fin p.tables e below _ (T12.setTop (mkF m 73 #[.val (.ref o0), .val (.int p1)] [.null, (.ref o0)]))
                obtain ⟨cq14, kq14, q14a, q14b, q14c⟩ := isOf hZ rfl E12_q
                obtain ⟨_, _, ⟨T14, L14, k14, n14⟩, -, X14, ⟨Lc14, hQ14, l14, y14, z14⟩, st14⟩ := X12.virtualBack hx (y := (⟨"java/util/ArrayList", "add", "(Ljava/lang/Object;)Z"⟩ : MethodName)) (z := (⟨"java/util/ArrayList", "add", "(Ljava/lang/Object;)Z"⟩ : MethodName)) hown (mvT hZ (hw _ (List.mem_of_getElem? (i := 92) rfl))) (mvT hZ (hw _ (List.mem_of_getElem? (i := 93) rfl))) (notFace_of_selects (args := #[]) (mvT hZ (hw _ (List.mem_of_getElem? (i := 95) rfl)))) (mvT hZ (hw _ (List.mem_of_getElem? (i := 95) rfl))) (mvT hZ (hw _ (List.mem_of_getElem? (i := 94) rfl))) (by decide) (backOf (W := 0) (rm13 l Z a0 hw [] o0 dd b12 m12 (((((((0 : Int32) + (1 : Int32)) + (1 : Int32)) + (1 : Int32)) + (1 : Int32)) + (1 : Int32)) + (1 : Int32)) T12.heap n0 Z12 E12_q FM12 FS12 FE12 S12_q g_o0 (Or.inr ⟨O12_q, g_b12, by decide, by decide⟩)) hZ (hw _ (List.mem_of_getElem? (i := 96) rfl)) (hw _ (List.mem_of_getElem? (i := 2) rfl)) (by decide) (by decide)) q14a q14c (g := (mkF m 73 #[.val (.ref o0), .val (.int p1)] [.null, (.ref o0)])) rfl (by rw [hml]; rfl) (Steps.refl _) (argsL := [.null]) (rest := []) (lenOf pd__Ljava_lang_Object__Z rfl) rfl (by show 2 * 0 + _ ≤ _; exact Nat.le_of_eq rfl) (hb hby d5_73) (fun _ _ => ⟨rfl, rfl, (by decide : 6 + 1 ≤ _), (by decide : 60 + 10 ≤ _)⟩)
                dsimp only [Pt.U, Pt.locs, Pt.cells, Pt.slots] at X14 l14 y14 z14 st14 hQ14
                subst l14 y14 z14
                obtain ⟨b14, m14, rfl, N14q, g_b14, Z14, O14_q, E14_q, FM14, FS14, FE14, S14_q⟩ := hQ14
                have N14 := Fr.app N12 N14q
                refine own_by (fun _ k => st14.trans k) ?_
                show own_Fin p.tables e below _ (T14.setTop (mkF m 76 #[.val (.ref o0), .val (.int p1)] [(.int (1 : Int32))]))
                refine own_by (fun _ k => XS.pop X14.here hx rfl (hb hby d5_76) rfl rfl k) ?_
                show own_Fin p.tables e below _ (T14.setTop (mkF m 77 #[.val (.ref o0), .val (.int p1)] []))
                have hsz : p1 = ((((((((0 : Int32) + (1 : Int32)) + (1 : Int32)) + (1 : Int32)) + (1 : Int32)) + (1 : Int32)) + (1 : Int32)) + (1 : Int32)) := own_eq.mpr (by have u1 := own_lt.mp hc13; rw [own_k6] at u1; rw [show (((((((((0 : Int32) + (1 : Int32)) + (1 : Int32)) + (1 : Int32)) + (1 : Int32)) + (1 : Int32)) + (1 : Int32)) + (1 : Int32))).toInt = 7 from by decide]; omega)
                exact own_retV X14 hx Bd.returns hlk (hb hby d5_77) (by decide) (by decide) (by exact ⟨rfl, N14, Z14, E14_q, hsz ▸ FS14⟩)
              · refine own_by (fun _ k => XS.icmpYes X12.here hx rfl (pc0 := 68) (pc' := 77) rfl (hb hby d5_68) rfl (flt hc13).2.2.2 (by decide) (by decide) k) ?_
                show own_Fin p.tables e below _ (T12.setTop (mkF m 77 #[.val (.ref o0), .val (.int p1)] []))
                have hsz : p1 = (((((((0 : Int32) + (1 : Int32)) + (1 : Int32)) + (1 : Int32)) + (1 : Int32)) + (1 : Int32)) + (1 : Int32)) := own_eq.mpr (by have u1 := own_lt.mp hc11; rw [own_k5] at u1; have u2 := own_ge hc13; rw [own_k6] at u2; rw [show ((((((((0 : Int32) + (1 : Int32)) + (1 : Int32)) + (1 : Int32)) + (1 : Int32)) + (1 : Int32)) + (1 : Int32))).toInt = 6 from by decide]; omega)
                exact own_retV X12 hx Bd.returns hlk (hb hby d5_77) (by decide) (by decide) (by exact ⟨rfl, N12, Z12, E12_q, hsz ▸ FS12⟩)
            · refine own_by (fun _ k => XS.icmpYes X10.here hx rfl (pc0 := 56) (pc' := 65) rfl (hb hby d5_56) rfl (flt hc11).2.2.2 (by decide) (by decide) k) ?_
              show own_Fin p.tables e below _ (T10.setTop (mkF m 65 #[.val (.ref o0), .val (.int p1)] []))
              refine own_by (fun _ k => XS.iloadN X10.here hx rfl (hb hby d5_65) rfl k) ?_
              show own_Fin p.tables e below _ (T10.setTop (mkF m 66 #[.val (.ref o0), .val (.int p1)] [(.int p1)]))
              refine own_by (fun _ k => XS.bipush X10.here hx rfl (hb hby d5_66) k) ?_
              show own_Fin p.tables e below _ (T10.setTop (mkF m 68 #[.val (.ref o0), .val (.int p1)] [(.int (6 : Int32)), (.int p1)]))
              by_cases hc15 : (6 : Int32) < p1
              · exact absurd (own_lt.mp hc15) (by have := own_ge hc11; rw [own_k5] at this; rw [own_k6]; omega)
              · refine own_by (fun _ k => XS.icmpYes X10.here hx rfl (pc0 := 68) (pc' := 77) rfl (hb hby d5_68) rfl (flt hc15).2.2.2 (by decide) (by decide) k) ?_
                show own_Fin p.tables e below _ (T10.setTop (mkF m 77 #[.val (.ref o0), .val (.int p1)] []))
                have hsz : p1 = ((((((0 : Int32) + (1 : Int32)) + (1 : Int32)) + (1 : Int32)) + (1 : Int32)) + (1 : Int32)) := own_eq.mpr (by have u1 := own_lt.mp hc9; rw [own_k4] at u1; have u2 := own_ge hc11; rw [own_k5] at u2; rw [show (((((((0 : Int32) + (1 : Int32)) + (1 : Int32)) + (1 : Int32)) + (1 : Int32)) + (1 : Int32))).toInt = 5 from by decide]; omega)
                exact own_retV X10 hx Bd.returns hlk (hb hby d5_77) (by decide) (by decide) (by exact ⟨rfl, N10, Z10, E10_q, hsz ▸ FS10⟩)
          · refine own_by (fun _ k => XS.icmpYes X8.here hx rfl (pc0 := 45) (pc' := 54) rfl (hb hby d5_45) rfl (flt hc9).2.2.2 (by decide) (by decide) k) ?_
            show own_Fin p.tables e below _ (T8.setTop (mkF m 54 #[.val (.ref o0), .val (.int p1)] []))
            refine own_by (fun _ k => XS.iloadN X8.here hx rfl (hb hby d5_54) rfl k) ?_
            show own_Fin p.tables e below _ (T8.setTop (mkF m 55 #[.val (.ref o0), .val (.int p1)] [(.int p1)]))
            refine own_by (fun _ k => XS.iconst X8.here hx rfl (hb hby d5_55) k) ?_
            show own_Fin p.tables e below _ (T8.setTop (mkF m 56 #[.val (.ref o0), .val (.int p1)] [(.int (5 : Int32)), (.int p1)]))
            by_cases hc16 : (5 : Int32) < p1
            · exact absurd (own_lt.mp hc16) (by have := own_ge hc9; rw [own_k4] at this; rw [own_k5]; omega)
            · refine own_by (fun _ k => XS.icmpYes X8.here hx rfl (pc0 := 56) (pc' := 65) rfl (hb hby d5_56) rfl (flt hc16).2.2.2 (by decide) (by decide) k) ?_
              show own_Fin p.tables e below _ (T8.setTop (mkF m 65 #[.val (.ref o0), .val (.int p1)] []))
              refine own_by (fun _ k => XS.iloadN X8.here hx rfl (hb hby d5_65) rfl k) ?_
              show own_Fin p.tables e below _ (T8.setTop (mkF m 66 #[.val (.ref o0), .val (.int p1)] [(.int p1)]))
              refine own_by (fun _ k => XS.bipush X8.here hx rfl (hb hby d5_66) k) ?_
              show own_Fin p.tables e below _ (T8.setTop (mkF m 68 #[.val (.ref o0), .val (.int p1)] [(.int (6 : Int32)), (.int p1)]))
              by_cases hc17 : (6 : Int32) < p1
              · exact absurd (own_lt.mp hc17) (by have := own_ge hc9; rw [own_k4] at this; rw [own_k6]; omega)
              · refine own_by (fun _ k => XS.icmpYes X8.here hx rfl (pc0 := 68) (pc' := 77) rfl (hb hby d5_68) rfl (flt hc17).2.2.2 (by decide) (by decide) k) ?_
                show own_Fin p.tables e below _ (T8.setTop (mkF m 77 #[.val (.ref o0), .val (.int p1)] []))
                have hsz : p1 = (((((0 : Int32) + (1 : Int32)) + (1 : Int32)) + (1 : Int32)) + (1 : Int32)) := own_eq.mpr (by have u1 := own_lt.mp hc7; rw [own_k3] at u1; have u2 := own_ge hc9; rw [own_k4] at u2; rw [show ((((((0 : Int32) + (1 : Int32)) + (1 : Int32)) + (1 : Int32)) + (1 : Int32))).toInt = 4 from by decide]; omega)
                exact own_retV X8 hx Bd.returns hlk (hb hby d5_77) (by decide) (by decide) (by exact ⟨rfl, N8, Z8, E8_q, hsz ▸ FS8⟩)
        · refine own_by (fun _ k => XS.icmpYes X6.here hx rfl (pc0 := 34) (pc' := 43) rfl (hb hby d5_34) rfl (flt hc7).2.2.2 (by decide) (by decide) k) ?_
          show own_Fin p.tables e below _ (T6.setTop (mkF m 43 #[.val (.ref o0), .val (.int p1)] []))
          refine own_by (fun _ k => XS.iloadN X6.here hx rfl (hb hby d5_43) rfl k) ?_
          show own_Fin p.tables e below _ (T6.setTop (mkF m 44 #[.val (.ref o0), .val (.int p1)] [(.int p1)]))
          refine own_by (fun _ k => XS.iconst X6.here hx rfl (hb hby d5_44) k) ?_
          show own_Fin p.tables e below _ (T6.setTop (mkF m 45 #[.val (.ref o0), .val (.int p1)] [(.int (4 : Int32)), (.int p1)]))
          by_cases hc18 : (4 : Int32) < p1
          · exact absurd (own_lt.mp hc18) (by have := own_ge hc7; rw [own_k3] at this; rw [own_k4]; omega)
          · refine own_by (fun _ k => XS.icmpYes X6.here hx rfl (pc0 := 45) (pc' := 54) rfl (hb hby d5_45) rfl (flt hc18).2.2.2 (by decide) (by decide) k) ?_
            show own_Fin p.tables e below _ (T6.setTop (mkF m 54 #[.val (.ref o0), .val (.int p1)] []))
            refine own_by (fun _ k => XS.iloadN X6.here hx rfl (hb hby d5_54) rfl k) ?_
            show own_Fin p.tables e below _ (T6.setTop (mkF m 55 #[.val (.ref o0), .val (.int p1)] [(.int p1)]))
            refine own_by (fun _ k => XS.iconst X6.here hx rfl (hb hby d5_55) k) ?_
            show own_Fin p.tables e below _ (T6.setTop (mkF m 56 #[.val (.ref o0), .val (.int p1)] [(.int (5 : Int32)), (.int p1)]))
            by_cases hc19 : (5 : Int32) < p1
            · exact absurd (own_lt.mp hc19) (by have := own_ge hc7; rw [own_k3] at this; rw [own_k5]; omega)
            · refine own_by (fun _ k => XS.icmpYes X6.here hx rfl (pc0 := 56) (pc' := 65) rfl (hb hby d5_56) rfl (flt hc19).2.2.2 (by decide) (by decide) k) ?_
              show own_Fin p.tables e below _ (T6.setTop (mkF m 65 #[.val (.ref o0), .val (.int p1)] []))
              refine own_by (fun _ k => XS.iloadN X6.here hx rfl (hb hby d5_65) rfl k) ?_
              show own_Fin p.tables e below _ (T6.setTop (mkF m 66 #[.val (.ref o0), .val (.int p1)] [(.int p1)]))
              refine own_by (fun _ k => XS.bipush X6.here hx rfl (hb hby d5_66) k) ?_
              show own_Fin p.tables e below _ (T6.setTop (mkF m 68 #[.val (.ref o0), .val (.int p1)] [(.int (6 : Int32)), (.int p1)]))
              by_cases hc20 : (6 : Int32) < p1
              · exact absurd (own_lt.mp hc20) (by have := own_ge hc7; rw [own_k3] at this; rw [own_k6]; omega)
              · refine own_by (fun _ k => XS.icmpYes X6.here hx rfl (pc0 := 68) (pc' := 77) rfl (hb hby d5_68) rfl (flt hc20).2.2.2 (by decide) (by decide) k) ?_
                show own_Fin p.tables e below _ (T6.setTop (mkF m 77 #[.val (.ref o0), .val (.int p1)] []))
                have hsz : p1 = ((((0 : Int32) + (1 : Int32)) + (1 : Int32)) + (1 : Int32)) := own_eq.mpr (by have u1 := own_lt.mp hc5; rw [own_k2] at u1; have u2 := own_ge hc7; rw [own_k3] at u2; rw [show (((((0 : Int32) + (1 : Int32)) + (1 : Int32)) + (1 : Int32))).toInt = 3 from by decide]; omega)
                exact own_retV X6 hx Bd.returns hlk (hb hby d5_77) (by decide) (by decide) (by exact ⟨rfl, N6, Z6, E6_q, hsz ▸ FS6⟩)
      · refine own_by (fun _ k => XS.icmpYes X4.here hx rfl (pc0 := 23) (pc' := 32) rfl (hb hby d5_23) rfl (flt hc5).2.2.2 (by decide) (by decide) k) ?_
        show own_Fin p.tables e below _ (T4.setTop (mkF m 32 #[.val (.ref o0), .val (.int p1)] []))
        refine own_by (fun _ k => XS.iloadN X4.here hx rfl (hb hby d5_32) rfl k) ?_
        show own_Fin p.tables e below _ (T4.setTop (mkF m 33 #[.val (.ref o0), .val (.int p1)] [(.int p1)]))
        refine own_by (fun _ k => XS.iconst X4.here hx rfl (hb hby d5_33) k) ?_
        show own_Fin p.tables e below _ (T4.setTop (mkF m 34 #[.val (.ref o0), .val (.int p1)] [(.int (3 : Int32)), (.int p1)]))
        by_cases hc21 : (3 : Int32) < p1
        · exact absurd (own_lt.mp hc21) (by have := own_ge hc5; rw [own_k2] at this; rw [own_k3]; omega)
        · refine own_by (fun _ k => XS.icmpYes X4.here hx rfl (pc0 := 34) (pc' := 43) rfl (hb hby d5_34) rfl (flt hc21).2.2.2 (by decide) (by decide) k) ?_
          show own_Fin p.tables e below _ (T4.setTop (mkF m 43 #[.val (.ref o0), .val (.int p1)] []))
          refine own_by (fun _ k => XS.iloadN X4.here hx rfl (hb hby d5_43) rfl k) ?_
          show own_Fin p.tables e below _ (T4.setTop (mkF m 44 #[.val (.ref o0), .val (.int p1)] [(.int p1)]))
          refine own_by (fun _ k => XS.iconst X4.here hx rfl (hb hby d5_44) k) ?_
          show own_Fin p.tables e below _ (T4.setTop (mkF m 45 #[.val (.ref o0), .val (.int p1)] [(.int (4 : Int32)), (.int p1)]))
          by_cases hc22 : (4 : Int32) < p1
          · exact absurd (own_lt.mp hc22) (by have := own_ge hc5; rw [own_k2] at this; rw [own_k4]; omega)
          · refine own_by (fun _ k => XS.icmpYes X4.here hx rfl (pc0 := 45) (pc' := 54) rfl (hb hby d5_45) rfl (flt hc22).2.2.2 (by decide) (by decide) k) ?_
            show own_Fin p.tables e below _ (T4.setTop (mkF m 54 #[.val (.ref o0), .val (.int p1)] []))
            refine own_by (fun _ k => XS.iloadN X4.here hx rfl (hb hby d5_54) rfl k) ?_
            show own_Fin p.tables e below _ (T4.setTop (mkF m 55 #[.val (.ref o0), .val (.int p1)] [(.int p1)]))
            refine own_by (fun _ k => XS.iconst X4.here hx rfl (hb hby d5_55) k) ?_
            show own_Fin p.tables e below _ (T4.setTop (mkF m 56 #[.val (.ref o0), .val (.int p1)] [(.int (5 : Int32)), (.int p1)]))
            by_cases hc23 : (5 : Int32) < p1
            · exact absurd (own_lt.mp hc23) (by have := own_ge hc5; rw [own_k2] at this; rw [own_k5]; omega)
            · refine own_by (fun _ k => XS.icmpYes X4.here hx rfl (pc0 := 56) (pc' := 65) rfl (hb hby d5_56) rfl (flt hc23).2.2.2 (by decide) (by decide) k) ?_
              show own_Fin p.tables e below _ (T4.setTop (mkF m 65 #[.val (.ref o0), .val (.int p1)] []))
              refine own_by (fun _ k => XS.iloadN X4.here hx rfl (hb hby d5_65) rfl k) ?_
              show own_Fin p.tables e below _ (T4.setTop (mkF m 66 #[.val (.ref o0), .val (.int p1)] [(.int p1)]))
              refine own_by (fun _ k => XS.bipush X4.here hx rfl (hb hby d5_66) k) ?_
              show own_Fin p.tables e below _ (T4.setTop (mkF m 68 #[.val (.ref o0), .val (.int p1)] [(.int (6 : Int32)), (.int p1)]))
              by_cases hc24 : (6 : Int32) < p1
              · exact absurd (own_lt.mp hc24) (by have := own_ge hc5; rw [own_k2] at this; rw [own_k6]; omega)
              · refine own_by (fun _ k => XS.icmpYes X4.here hx rfl (pc0 := 68) (pc' := 77) rfl (hb hby d5_68) rfl (flt hc24).2.2.2 (by decide) (by decide) k) ?_
                show own_Fin p.tables e below _ (T4.setTop (mkF m 77 #[.val (.ref o0), .val (.int p1)] []))
                have hsz : p1 = (((0 : Int32) + (1 : Int32)) + (1 : Int32)) := own_eq.mpr (by have u1 := own_lt.mp hc3; rw [own_k1] at u1; have u2 := own_ge hc5; rw [own_k2] at u2; rw [show ((((0 : Int32) + (1 : Int32)) + (1 : Int32))).toInt = 2 from by decide]; omega)
                exact own_retV X4 hx Bd.returns hlk (hb hby d5_77) (by decide) (by decide) (by exact ⟨rfl, N4, Z4, E4_q, hsz ▸ FS4⟩)
    · refine own_by (fun _ k => XS.icmpYes X2.here hx rfl (pc0 := 12) (pc' := 21) rfl (hb hby d5_12) rfl (flt hc3).2.2.2 (by decide) (by decide) k) ?_
      show own_Fin p.tables e below _ (T2.setTop (mkF m 21 #[.val (.ref o0), .val (.int p1)] []))
      refine own_by (fun _ k => XS.iloadN X2.here hx rfl (hb hby d5_21) rfl k) ?_
      show own_Fin p.tables e below _ (T2.setTop (mkF m 22 #[.val (.ref o0), .val (.int p1)] [(.int p1)]))
      refine own_by (fun _ k => XS.iconst X2.here hx rfl (hb hby d5_22) k) ?_
      show own_Fin p.tables e below _ (T2.setTop (mkF m 23 #[.val (.ref o0), .val (.int p1)] [(.int (2 : Int32)), (.int p1)]))
      by_cases hc25 : (2 : Int32) < p1
      · exact absurd (own_lt.mp hc25) (by have := own_ge hc3; rw [own_k1] at this; rw [own_k2]; omega)
      · refine own_by (fun _ k => XS.icmpYes X2.here hx rfl (pc0 := 23) (pc' := 32) rfl (hb hby d5_23) rfl (flt hc25).2.2.2 (by decide) (by decide) k) ?_
        show own_Fin p.tables e below _ (T2.setTop (mkF m 32 #[.val (.ref o0), .val (.int p1)] []))
        refine own_by (fun _ k => XS.iloadN X2.here hx rfl (hb hby d5_32) rfl k) ?_
        show own_Fin p.tables e below _ (T2.setTop (mkF m 33 #[.val (.ref o0), .val (.int p1)] [(.int p1)]))
        refine own_by (fun _ k => XS.iconst X2.here hx rfl (hb hby d5_33) k) ?_
        show own_Fin p.tables e below _ (T2.setTop (mkF m 34 #[.val (.ref o0), .val (.int p1)] [(.int (3 : Int32)), (.int p1)]))
        by_cases hc26 : (3 : Int32) < p1
        · exact absurd (own_lt.mp hc26) (by have := own_ge hc3; rw [own_k1] at this; rw [own_k3]; omega)
        · refine own_by (fun _ k => XS.icmpYes X2.here hx rfl (pc0 := 34) (pc' := 43) rfl (hb hby d5_34) rfl (flt hc26).2.2.2 (by decide) (by decide) k) ?_
          show own_Fin p.tables e below _ (T2.setTop (mkF m 43 #[.val (.ref o0), .val (.int p1)] []))
          refine own_by (fun _ k => XS.iloadN X2.here hx rfl (hb hby d5_43) rfl k) ?_
          show own_Fin p.tables e below _ (T2.setTop (mkF m 44 #[.val (.ref o0), .val (.int p1)] [(.int p1)]))
          refine own_by (fun _ k => XS.iconst X2.here hx rfl (hb hby d5_44) k) ?_
          show own_Fin p.tables e below _ (T2.setTop (mkF m 45 #[.val (.ref o0), .val (.int p1)] [(.int (4 : Int32)), (.int p1)]))
          by_cases hc27 : (4 : Int32) < p1
          · exact absurd (own_lt.mp hc27) (by have := own_ge hc3; rw [own_k1] at this; rw [own_k4]; omega)
          · refine own_by (fun _ k => XS.icmpYes X2.here hx rfl (pc0 := 45) (pc' := 54) rfl (hb hby d5_45) rfl (flt hc27).2.2.2 (by decide) (by decide) k) ?_
            show own_Fin p.tables e below _ (T2.setTop (mkF m 54 #[.val (.ref o0), .val (.int p1)] []))
            refine own_by (fun _ k => XS.iloadN X2.here hx rfl (hb hby d5_54) rfl k) ?_
            show own_Fin p.tables e below _ (T2.setTop (mkF m 55 #[.val (.ref o0), .val (.int p1)] [(.int p1)]))
            refine own_by (fun _ k => XS.iconst X2.here hx rfl (hb hby d5_55) k) ?_
            show own_Fin p.tables e below _ (T2.setTop (mkF m 56 #[.val (.ref o0), .val (.int p1)] [(.int (5 : Int32)), (.int p1)]))
            by_cases hc28 : (5 : Int32) < p1
            · exact absurd (own_lt.mp hc28) (by have := own_ge hc3; rw [own_k1] at this; rw [own_k5]; omega)
            · refine own_by (fun _ k => XS.icmpYes X2.here hx rfl (pc0 := 56) (pc' := 65) rfl (hb hby d5_56) rfl (flt hc28).2.2.2 (by decide) (by decide) k) ?_
              show own_Fin p.tables e below _ (T2.setTop (mkF m 65 #[.val (.ref o0), .val (.int p1)] []))
              refine own_by (fun _ k => XS.iloadN X2.here hx rfl (hb hby d5_65) rfl k) ?_
              show own_Fin p.tables e below _ (T2.setTop (mkF m 66 #[.val (.ref o0), .val (.int p1)] [(.int p1)]))
              refine own_by (fun _ k => XS.bipush X2.here hx rfl (hb hby d5_66) k) ?_
              show own_Fin p.tables e below _ (T2.setTop (mkF m 68 #[.val (.ref o0), .val (.int p1)] [(.int (6 : Int32)), (.int p1)]))
              by_cases hc29 : (6 : Int32) < p1
              · exact absurd (own_lt.mp hc29) (by have := own_ge hc3; rw [own_k1] at this; rw [own_k6]; omega)
              · refine own_by (fun _ k => XS.icmpYes X2.here hx rfl (pc0 := 68) (pc' := 77) rfl (hb hby d5_68) rfl (flt hc29).2.2.2 (by decide) (by decide) k) ?_
                show own_Fin p.tables e below _ (T2.setTop (mkF m 77 #[.val (.ref o0), .val (.int p1)] []))
                have hsz : p1 = ((0 : Int32) + (1 : Int32)) := own_eq.mpr (by have u1 := own_lt.mp hc1; rw [own_z] at u1; have u2 := own_ge hc3; rw [own_k1] at u2; rw [show (((0 : Int32) + (1 : Int32))).toInt = 1 from by decide]; omega)
                exact own_retV X2 hx Bd.returns hlk (hb hby d5_77) (by decide) (by decide) (by exact ⟨rfl, N2, Z2, E2_q, hsz ▸ FS2⟩)
  · refine own_by (fun _ k => XS.ifYes X0.here hx rfl (pc0 := 1) (pc' := 10) rfl (hb hby d5_1) rfl ((if0 _ _).trans (flt hc1).2.2.2) (by decide) (by decide) k) ?_
    show own_Fin p.tables e below _ (s₁.setTop (mkF m 10 #[.val (.ref o0), .val (.int p1)] []))
    refine own_by (fun _ k => XS.iloadN X0.here hx rfl (hb hby d5_10) rfl k) ?_
    show own_Fin p.tables e below _ (s₁.setTop (mkF m 11 #[.val (.ref o0), .val (.int p1)] [(.int p1)]))
    refine own_by (fun _ k => XS.iconst X0.here hx rfl (hb hby d5_11) k) ?_
    show own_Fin p.tables e below _ (s₁.setTop (mkF m 12 #[.val (.ref o0), .val (.int p1)] [(.int (1 : Int32)), (.int p1)]))
    by_cases hc30 : (1 : Int32) < p1
    · exact absurd (own_lt.mp hc30) (by have := own_ge hc1; rw [own_z] at this; rw [own_k1]; omega)
    · refine own_by (fun _ k => XS.icmpYes X0.here hx rfl (pc0 := 12) (pc' := 21) rfl (hb hby d5_12) rfl (flt hc30).2.2.2 (by decide) (by decide) k) ?_
      show own_Fin p.tables e below _ (s₁.setTop (mkF m 21 #[.val (.ref o0), .val (.int p1)] []))
      refine own_by (fun _ k => XS.iloadN X0.here hx rfl (hb hby d5_21) rfl k) ?_
      show own_Fin p.tables e below _ (s₁.setTop (mkF m 22 #[.val (.ref o0), .val (.int p1)] [(.int p1)]))
      refine own_by (fun _ k => XS.iconst X0.here hx rfl (hb hby d5_22) k) ?_
      show own_Fin p.tables e below _ (s₁.setTop (mkF m 23 #[.val (.ref o0), .val (.int p1)] [(.int (2 : Int32)), (.int p1)]))
      by_cases hc31 : (2 : Int32) < p1
      · exact absurd (own_lt.mp hc31) (by have := own_ge hc1; rw [own_z] at this; rw [own_k2]; omega)
      · refine own_by (fun _ k => XS.icmpYes X0.here hx rfl (pc0 := 23) (pc' := 32) rfl (hb hby d5_23) rfl (flt hc31).2.2.2 (by decide) (by decide) k) ?_
        show own_Fin p.tables e below _ (s₁.setTop (mkF m 32 #[.val (.ref o0), .val (.int p1)] []))
        refine own_by (fun _ k => XS.iloadN X0.here hx rfl (hb hby d5_32) rfl k) ?_
        show own_Fin p.tables e below _ (s₁.setTop (mkF m 33 #[.val (.ref o0), .val (.int p1)] [(.int p1)]))
        refine own_by (fun _ k => XS.iconst X0.here hx rfl (hb hby d5_33) k) ?_
        show own_Fin p.tables e below _ (s₁.setTop (mkF m 34 #[.val (.ref o0), .val (.int p1)] [(.int (3 : Int32)), (.int p1)]))
        by_cases hc32 : (3 : Int32) < p1
        · exact absurd (own_lt.mp hc32) (by have := own_ge hc1; rw [own_z] at this; rw [own_k3]; omega)
        · refine own_by (fun _ k => XS.icmpYes X0.here hx rfl (pc0 := 34) (pc' := 43) rfl (hb hby d5_34) rfl (flt hc32).2.2.2 (by decide) (by decide) k) ?_
          show own_Fin p.tables e below _ (s₁.setTop (mkF m 43 #[.val (.ref o0), .val (.int p1)] []))
          refine own_by (fun _ k => XS.iloadN X0.here hx rfl (hb hby d5_43) rfl k) ?_
          show own_Fin p.tables e below _ (s₁.setTop (mkF m 44 #[.val (.ref o0), .val (.int p1)] [(.int p1)]))
          refine own_by (fun _ k => XS.iconst X0.here hx rfl (hb hby d5_44) k) ?_
          show own_Fin p.tables e below _ (s₁.setTop (mkF m 45 #[.val (.ref o0), .val (.int p1)] [(.int (4 : Int32)), (.int p1)]))
          by_cases hc33 : (4 : Int32) < p1
          · exact absurd (own_lt.mp hc33) (by have := own_ge hc1; rw [own_z] at this; rw [own_k4]; omega)
          · refine own_by (fun _ k => XS.icmpYes X0.here hx rfl (pc0 := 45) (pc' := 54) rfl (hb hby d5_45) rfl (flt hc33).2.2.2 (by decide) (by decide) k) ?_
            show own_Fin p.tables e below _ (s₁.setTop (mkF m 54 #[.val (.ref o0), .val (.int p1)] []))
            refine own_by (fun _ k => XS.iloadN X0.here hx rfl (hb hby d5_54) rfl k) ?_
            show own_Fin p.tables e below _ (s₁.setTop (mkF m 55 #[.val (.ref o0), .val (.int p1)] [(.int p1)]))
            refine own_by (fun _ k => XS.iconst X0.here hx rfl (hb hby d5_55) k) ?_
            show own_Fin p.tables e below _ (s₁.setTop (mkF m 56 #[.val (.ref o0), .val (.int p1)] [(.int (5 : Int32)), (.int p1)]))
            by_cases hc34 : (5 : Int32) < p1
            · exact absurd (own_lt.mp hc34) (by have := own_ge hc1; rw [own_z] at this; rw [own_k5]; omega)
            · refine own_by (fun _ k => XS.icmpYes X0.here hx rfl (pc0 := 56) (pc' := 65) rfl (hb hby d5_56) rfl (flt hc34).2.2.2 (by decide) (by decide) k) ?_
              show own_Fin p.tables e below _ (s₁.setTop (mkF m 65 #[.val (.ref o0), .val (.int p1)] []))
              refine own_by (fun _ k => XS.iloadN X0.here hx rfl (hb hby d5_65) rfl k) ?_
              show own_Fin p.tables e below _ (s₁.setTop (mkF m 66 #[.val (.ref o0), .val (.int p1)] [(.int p1)]))
              refine own_by (fun _ k => XS.bipush X0.here hx rfl (hb hby d5_66) k) ?_
              show own_Fin p.tables e below _ (s₁.setTop (mkF m 68 #[.val (.ref o0), .val (.int p1)] [(.int (6 : Int32)), (.int p1)]))
              by_cases hc35 : (6 : Int32) < p1
              · exact absurd (own_lt.mp hc35) (by have := own_ge hc1; rw [own_z] at this; rw [own_k6]; omega)
              · refine own_by (fun _ k => XS.icmpYes X0.here hx rfl (pc0 := 68) (pc' := 77) rfl (hb hby d5_68) rfl (flt hc35).2.2.2 (by decide) (by decide) k) ?_
                show own_Fin p.tables e below _ (s₁.setTop (mkF m 77 #[.val (.ref o0), .val (.int p1)] []))
                have hsz : p1 = (0 : Int32) := own_eq.mpr (by have u2 := own_ge hc1; rw [own_z] at u2; rw [show ((0 : Int32)).toInt = 0 from by decide]; omega)
                exact own_retV X0 hx Bd.returns hlk (hb hby d5_77) (by decide) (by decide) (by rw [e0]; exact ⟨rfl, N0, Z0, E_o0, hsz ▸ FS_o0⟩)
theorem d9_0 : decode jdk_69_method_7_code 0 = .ok (.aload_n 0, 1) := by decide +kernel
theorem d9_1 : decode jdk_69_method_7_code 1 = .ok (.invokespecial 43, 3) := by decide +kernel
theorem d9_4 : decode jdk_69_method_7_code 4 = .ok (.aload_n 0, 1) := by decide +kernel
theorem d9_5 : decode jdk_69_method_7_code 5 = .ok (.ldc 92, 2) := by decide +kernel
theorem d9_7 : decode jdk_69_method_7_code 7 = .ok (.putfield 81, 3) := by decide +kernel
theorem d9_10 : decode jdk_69_method_7_code 10 = .ok (.return_, 1) := by decide +kernel
theorem pn_java_util_HashMap : plainName "java/util/HashMap" = true := by first | (simp [plainName, overriddenIn]; done) | decide +kernel
theorem ef_9 (m : MethodId) (o0 : Addr) : entryFrame m #[(.ref o0)] 1 = mkF m 0 #[.val (.ref o0)] [] := by first | (simp [entryFrame, mkF, argsToLocals, Value.category]; done) | rfl
def Q9 (o0 : Addr) (h0 : Heap) (n0 : Nat) (v : Option Value) (h : Heap) (L : List Loc) : Prop := v = none ∧ Fr n0 L ∧ Keep h0 h [o0]
set_option maxRecDepth 65536 in
set_option maxHeartbeats 40000000 in
theorem rm9 (l : Launch) (Z : State) (a0 : Array Value) (hw : ∀ d ∈ tables_1, d.before a0 Z = true) (ws : List Jvm.Cond) (o0 : Addr)   (h0 : Heap) (n0 : Nat) (Z0 : n0 ≤ h0.size)  (E_o0 : Exa Z h0 o0 "java/util/HashMap") (F_o0 : Fld Z h0 o0 "java/util/HashMap" "loadFactor" "F" (.float 0)) (g_o0 : n0 ≤ o0) :
    MetFree l (⟨"java/util/HashMap", "<init>", "()V"⟩ : MethodName) (head1 (Jvm.Cond.code (⟨"java/util/HashMap", "<init>", "()V"⟩ : MethodName) jdk_69_method_7_code 1 none :: ws) ({ frames := 2, cells := 0, slots := 0, locals := 24 } : Room)) (fun a U => a = #[(.ref o0)] ∧ Z.Warmed39 U.vm ∧ U.heap = h0) (fun _ _ _ _ _ => True) (fun _ U o U' => ∃ v L, o = .returned v ∧ Q9 o0 h0 n0 v U'.heap L ∧ FrameEnd U o U' L ({ frames := 2, cells := 0, slots := 0, locals := 24 } : Room).cells ({ frames := 2, cells := 0, slots := 0, locals := 24 } : Room).slots) := by
  refine MetFree.of_bodySF (plainFor_of_name pn_java_util_HashMap) hisR ?_
  intro p e s m args below meth c s₁ Bd hml0 hP hK
  obtain ⟨rfl, hZ, hh⟩ := hP
  have hx := Bd.exec
  have hby := Bd.bytes
  have hlk : meth.locks = false := BodyLoose.notSynchronized Bd
  have hml : c.maxLocals = 1 := hml0
  have hown : s.vm.findClass "java/util/HashMap" = some m.cls := findClass_of_methodNamed Bd.named
  have hnm := (name_of_methodNamed Bd.named Bd.method).1
  have X0 : Stand p l e ({ frames := 2, cells := 0, slots := 0, locals := 24 } : Room) s m #[(.ref o0)] below meth c s₁ [] 0 0 := Stand.of_body Bd
  have e0 : s₁.heap = h0 := by rw [← hh, Bd.state]; rfl
  have N0 := Fr.nil n0
  refine own_by (U' := s₁.setTop (mkF m 0 #[.val (.ref o0)] [])) (fun t k => castTop (ef_9 m o0) k) ?_
  refine own_by (fun _ k => XS.aloadN X0.here hx rfl (hb hby d9_0) rfl rfl k) ?_
  show own_Fin p.tables e below _ (s₁.setTop (mkF m 1 #[.val (.ref o0)] [(.ref o0)]))
  obtain ⟨_, _, ⟨T1, L1, k1, n1⟩, -, X1, ⟨Lc1, hQ1, l1, y1, z1⟩, st1⟩ := X0.specialBack hx (y := (⟨"java/util/AbstractMap", "<init>", "()V"⟩ : MethodName)) rfl hown (mvT hZ (hw _ (List.mem_of_getElem? (i := 58) rfl))) (mvT hZ (hw _ (List.mem_of_getElem? (i := 59) rfl))) (mvT hZ (hw _ (List.mem_of_getElem? (i := 63) rfl))) (by decide) (backOf (W := 0) (rm10 l Z a0 hw [] o0 h0 n0 Z0 ) hZ (hw _ (List.mem_of_getElem? (i := 63) rfl)) (hw _ (List.mem_of_getElem? (i := 62) rfl)) (by decide) (by decide)) (g := (mkF m 1 #[.val (.ref o0)] [(.ref o0)])) rfl (by rw [hml]; rfl) (Steps.refl _) (a := o0) (argsL := []) (rest := []) (lenOf pd___V rfl) rfl (by show 2 * 0 + _ ≤ _; exact Nat.le_of_eq rfl) (hb hby d9_1) (fun _ _ => ⟨rfl, e0, (by decide : 0 + 0 ≤ _), (by decide : 0 + 0 ≤ _)⟩)
  dsimp only [Pt.U, Pt.locs, Pt.cells, Pt.slots] at X1 l1 y1 z1 st1 hQ1
  subst l1 y1 z1
  obtain ⟨rfl, N1q, e1⟩ := hQ1
  have N1 := Fr.app N0 N1q
  refine own_by (fun _ k => st1.trans k) ?_
  show own_Fin p.tables e below _ (T1.setTop (mkF m 4 #[.val (.ref o0)] []))
  refine own_by (fun _ k => XS.aloadN X1.here hx rfl (hb hby d9_4) rfl rfl k) ?_
  show own_Fin p.tables e below _ (T1.setTop (mkF m 5 #[.val (.ref o0)] [(.ref o0)]))
  refine own_by (X1.ldcFloatC hx hown (mvT hZ (hw _ (List.mem_of_getElem? (i := 65) rfl))) (g := (mkF m 5 #[.val (.ref o0)] [(.ref o0)])) rfl (hb hby d9_5)) ?_
  show own_Fin p.tables e below _ (T1.setTop (mkF m 7 #[.val (.ref o0)] [(.float (1061158912 : UInt32)), (.ref o0)]))
  obtain ⟨T2, h2, X2, e2, W2, st2⟩ := putF X1 hx hZ hown (host := "") (Or.inl (hw _ (List.mem_of_getElem? (i := 66) rfl))) Via.refl e1 F_o0 E_o0 (Or.inr ⟨(hw _ (List.mem_of_getElem? (i := 67) rfl)), rfl, hnm⟩) (hw _ (List.mem_of_getElem? (i := 52) rfl)) (ty := .float) (by decide) rfl rfl (g := (mkF m 7 #[.val (.ref o0)] [(.float (1061158912 : UInt32)), (.ref o0)])) rfl rfl (hb hby d9_7)
  have N2 := Fr.snoc X2 N1 g_o0
  have Z2 : n0 ≤ h2.size := Nat.le_trans Z0 (Keep.of_wr W2).1
  refine own_by st2 ?_
  have Fw2 := F_o0.same W2
  have K2 : Keep h0 h2 [o0] := (Keep.refl h0 [o0]).wr W2 (Or.inl (List.mem_of_getElem? (i := 0) rfl))
  have E2_0 : Exa Z h2 o0 "java/util/HashMap" := (E_o0.wr W2)
  show own_Fin p.tables e below _ (T2.setTop (mkF m 10 #[.val (.ref o0)] []))
  exact own_retV X2 hx Bd.returns hlk (hb hby d9_10) (by decide) (by decide) (by rw [e2]; exact ⟨rfl, N2, K2⟩)
theorem d7_0 : decode jdk_93_method_1_code 0 = .ok (.aload_n 0, 1) := by decide +kernel
theorem d7_1 : decode jdk_93_method_1_code 1 = .ok (.invokespecial 1, 3) := by decide +kernel
theorem d7_4 : decode jdk_93_method_1_code 4 = .ok (.aload_n 0, 1) := by decide +kernel
theorem d7_5 : decode jdk_93_method_1_code 5 = .ok (.new 7, 3) := by decide +kernel
theorem d7_8 : decode jdk_93_method_1_code 8 = .ok (.dup, 1) := by decide +kernel
theorem d7_9 : decode jdk_93_method_1_code 9 = .ok (.invokespecial 9, 3) := by decide +kernel
theorem d7_12 : decode jdk_93_method_1_code 12 = .ok (.putfield 10, 3) := by decide +kernel
theorem d7_15 : decode jdk_93_method_1_code 15 = .ok (.return_, 1) := by decide +kernel
theorem pn_java_util_HashSet : plainName "java/util/HashSet" = true := by first | (simp [plainName, overriddenIn]; done) | decide +kernel
theorem ef_7 (m : MethodId) (o0 : Addr) : entryFrame m #[(.ref o0)] 1 = mkF m 0 #[.val (.ref o0)] [] := by first | (simp [entryFrame, mkF, argsToLocals, Value.category]; done) | rfl
def Q7 (o0 : Addr) (h0 : Heap) (n0 : Nat) (v : Option Value) (h : Heap) (L : List Loc) : Prop := v = none ∧ Fr n0 L ∧ Keep h0 h [o0]
set_option maxRecDepth 65536 in
set_option maxHeartbeats 40000000 in
theorem rm7 (l : Launch) (Z : State) (a0 : Array Value) (hw : ∀ d ∈ tables_1, d.before a0 Z = true) (ws : List Jvm.Cond) (o0 : Addr)   (h0 : Heap) (n0 : Nat) (Z0 : n0 ≤ h0.size)  (E_o0 : Exa Z h0 o0 "java/util/HashSet") (F_o0 : Fld Z h0 o0 "java/util/HashSet" "map" "Ljava/util/HashMap;" .null) (g_o0 : n0 ≤ o0) :
    MetFree l (⟨"java/util/HashSet", "<init>", "()V"⟩ : MethodName) (head1 (Jvm.Cond.code (⟨"java/util/HashSet", "<init>", "()V"⟩ : MethodName) jdk_93_method_1_code 1 none :: ws) ({ frames := 3, cells := 1, slots := 8, locals := 38 } : Room)) (fun a U => a = #[(.ref o0)] ∧ Z.Warmed39 U.vm ∧ U.heap = h0) (fun _ _ _ _ _ => True) (fun _ U o U' => ∃ v L, o = .returned v ∧ Q7 o0 h0 n0 v U'.heap L ∧ FrameEnd U o U' L ({ frames := 3, cells := 1, slots := 8, locals := 38 } : Room).cells ({ frames := 3, cells := 1, slots := 8, locals := 38 } : Room).slots) := by
  refine MetFree.of_bodySF (plainFor_of_name pn_java_util_HashSet) hisR ?_
  intro p e s m args below meth c s₁ Bd hml0 hP hK
  obtain ⟨rfl, hZ, hh⟩ := hP
  have hx := Bd.exec
  have hby := Bd.bytes
  have hlk : meth.locks = false := BodyLoose.notSynchronized Bd
  have hml : c.maxLocals = 1 := hml0
  have hown : s.vm.findClass "java/util/HashSet" = some m.cls := findClass_of_methodNamed Bd.named
  have hnm := (name_of_methodNamed Bd.named Bd.method).1
  have X0 : Stand p l e ({ frames := 3, cells := 1, slots := 8, locals := 38 } : Room) s m #[(.ref o0)] below meth c s₁ [] 0 0 := Stand.of_body Bd
  have e0 : s₁.heap = h0 := by rw [← hh, Bd.state]; rfl
  have N0 := Fr.nil n0
  refine own_by (U' := s₁.setTop (mkF m 0 #[.val (.ref o0)] [])) (fun t k => castTop (ef_7 m o0) k) ?_
  refine own_by (fun _ k => XS.aloadN X0.here hx rfl (hb hby d7_0) rfl rfl k) ?_
  show own_Fin p.tables e below _ (s₁.setTop (mkF m 1 #[.val (.ref o0)] [(.ref o0)]))
  obtain ⟨_, _, ⟨T1, L1, k1, n1⟩, -, X1, ⟨Lc1, hQ1, l1, y1, z1⟩, st1⟩ := X0.specialBack hx (y := (⟨"java/util/AbstractSet", "<init>", "()V"⟩ : MethodName)) rfl hown (mvT hZ (hw _ (List.mem_of_getElem? (i := 43) rfl))) (mvT hZ (hw _ (List.mem_of_getElem? (i := 44) rfl))) (mvT hZ (hw _ (List.mem_of_getElem? (i := 48) rfl))) (by decide) (backOf (W := 0) (rm8 l Z a0 hw [] o0 h0 n0 Z0 ) hZ (hw _ (List.mem_of_getElem? (i := 48) rfl)) (hw _ (List.mem_of_getElem? (i := 47) rfl)) (by decide) (by decide)) (g := (mkF m 1 #[.val (.ref o0)] [(.ref o0)])) rfl (by rw [hml]; rfl) (Steps.refl _) (a := o0) (argsL := []) (rest := []) (lenOf pd___V rfl) rfl (by show 2 * 0 + _ ≤ _; exact Nat.le_of_eq rfl) (hb hby d7_1) (fun _ _ => ⟨rfl, e0, (by decide : 0 + 0 ≤ _), (by decide : 0 + 0 ≤ _)⟩)
  dsimp only [Pt.U, Pt.locs, Pt.cells, Pt.slots] at X1 l1 y1 z1 st1 hQ1
  subst l1 y1 z1
  obtain ⟨rfl, N1q, e1⟩ := hQ1
  have N1 := Fr.app N0 N1q
  refine own_by (fun _ k => st1.trans k) ?_
  show own_Fin p.tables e below _ (T1.setTop (mkF m 4 #[.val (.ref o0)] []))
  refine own_by (fun _ k => XS.aloadN X1.here hx rfl (hb hby d7_4) rfl rfl k) ?_
  show own_Fin p.tables e below _ (T1.setTop (mkF m 5 #[.val (.ref o0)] [(.ref o0)]))
  obtain ⟨T2, h2, X2, e2, E2, A2, D2, -, st2⟩ := newO X1 hx hZ hown (hw _ (List.mem_of_getElem? (i := 51) rfl)) (hw _ (List.mem_of_getElem? (i := 52) rfl)) (hw _ (List.mem_of_getElem? (i := 53) rfl)) e1 (g := (mkF m 5 #[.val (.ref o0)] [(.ref o0)])) rfl (hb hby d7_5) (by decide) (by decide)
  obtain ⟨b2, g2⟩ : ∃ z, z = h0.size := ⟨_, rfl⟩
  rw [← g2] at A2 D2 st2
  have g_b2 : n0 ≤ b2 := Nat.le_trans Z0 (Nat.le_of_eq g2.symm)
  have Z2 : n0 ≤ h2.size := Nat.le_trans Z0 E2.1
  refine own_by st2 ?_
  have ne2_o0 : o0 ≠ b2 := Nat.ne_of_lt (Nat.lt_of_lt_of_le E_o0.lt (Nat.le_of_eq g2.symm))
  have sz_b2 : h0.size ≤ b2 := Nat.le_trans (Keep.refl h0 [o0]).1 (Nat.le_of_eq g2.symm)
  have K2 : Keep h0 h2 [o0] := (Keep.refl h0 [o0]).ext E2
  have E2_0 : Exa Z h2 o0 "java/util/HashSet" := (E_o0.ext E2)
  have F2_0 : Fld Z h2 o0 "java/util/HashSet" "map" "Ljava/util/HashMap;" .null := (F_o0.ext E2)
  have F2_loadFactor : Fld Z h2 b2 "java/util/HashMap" "loadFactor" "F" (.float 0) := D2 (Or.inr (hw _ (List.mem_of_getElem? (i := 67) rfl))) (ty := .float) (by decide)
  show own_Fin p.tables e below _ (T2.setTop (mkF m 8 #[.val (.ref o0)] [(.ref b2), (.ref o0)]))
  refine own_by (fun _ k => XS.dup X2.here hx rfl (hb hby d7_8) rfl rfl k) ?_
  show own_Fin p.tables e below _ (T2.setTop (mkF m 9 #[.val (.ref o0)] [(.ref b2), (.ref b2), (.ref o0)]))
  obtain ⟨_, _, ⟨T3, L3, k3, n3⟩, -, X3, ⟨Lc3, hQ3, l3, y3, z3⟩, st3⟩ := X2.specialBack hx (y := (⟨"java/util/HashMap", "<init>", "()V"⟩ : MethodName)) rfl hown (mvT hZ (hw _ (List.mem_of_getElem? (i := 54) rfl))) (mvT hZ (hw _ (List.mem_of_getElem? (i := 55) rfl))) (mvT hZ (hw _ (List.mem_of_getElem? (i := 57) rfl))) (by decide) (backOf (W := 2) (rm9 l Z a0 hw [] b2 h2 n0 Z2 A2 F2_loadFactor g_b2) hZ (hw _ (List.mem_of_getElem? (i := 57) rfl)) (hw _ (List.mem_of_getElem? (i := 53) rfl)) (by decide) (by decide)) (g := (mkF m 9 #[.val (.ref o0)] [(.ref b2), (.ref b2), (.ref o0)])) rfl (by rw [hml]; rfl) (Steps.refl _) (a := b2) (argsL := []) (rest := [(.ref b2), (.ref o0)]) (lenOf pd___V rfl) rfl (by show 2 * 0 + _ ≤ _; exact Nat.le_of_eq rfl) (hb hby d7_9) (fun _ _ => ⟨rfl, e2, (by decide : 1 + 0 ≤ _), (by decide : 8 + 0 ≤ _)⟩)
  dsimp only [Pt.U, Pt.locs, Pt.cells, Pt.slots] at X3 l3 y3 z3 st3 hQ3
  subst l3 y3 z3
  obtain ⟨rfl, N3q, Kq3⟩ := hQ3
  have N3 := Fr.app N1 N3q
  have Z3 : n0 ≤ T3.heap.size := Nat.le_trans Z2 Kq3.1
  have K3 := K2.trans Kq3 (allS (Or.inr sz_b2) all0)
  refine own_by (fun _ k => st3.trans k) ?_
  have Fk3_0 := F2_0.keep Kq3 (ninS ne2_o0 nin0)
  have Ek3_0 := E2_0.keep Kq3
  have Ek3_1 := A2.keep Kq3
  show own_Fin p.tables e below _ (T3.setTop (mkF m 12 #[.val (.ref o0)] [(.ref b2), (.ref o0)]))
  obtain ⟨T4, h4, X4, e4, W4, st4⟩ := putF X3 hx hZ hown (host := "") (Or.inl (hw _ (List.mem_of_getElem? (i := 68) rfl))) Via.refl rfl Fk3_0 Ek3_0 (Or.inl (hw _ (List.mem_of_getElem? (i := 69) rfl))) (hw _ (List.mem_of_getElem? (i := 38) rfl)) (ty := (.object "java/util/HashMap")) (by decide) rfl rfl (g := (mkF m 12 #[.val (.ref o0)] [(.ref b2), (.ref o0)])) rfl rfl (hb hby d7_12)
  have N4 := Fr.snoc X4 N3 g_o0
  have Z4 : n0 ≤ h4.size := Nat.le_trans Z3 (Keep.of_wr W4).1
  refine own_by st4 ?_
  have Fw4 := Fk3_0.same W4
  have K4 : Keep h0 h4 [o0] := K3.wr W4 (Or.inl (List.mem_of_getElem? (i := 0) rfl))
  have E4_0 : Exa Z h4 o0 "java/util/HashSet" := (Ek3_0.wr W4)
  have E4_1 : Exa Z h4 b2 "java/util/HashMap" := (Ek3_1.wr W4)
  show own_Fin p.tables e below _ (T4.setTop (mkF m 15 #[.val (.ref o0)] []))
  exact own_retV X4 hx Bd.returns hlk (hb hby d7_15) (by decide) (by decide) (by rw [e4]; exact ⟨rfl, N4, K4⟩)
theorem d6_0 : decode prog_2_method_1_code 0 = .ok (.aload_n 0, 1) := by decide +kernel
theorem d6_1 : decode prog_2_method_1_code 1 = .ok (.invokespecial 1, 3) := by decide +kernel
theorem d6_4 : decode prog_2_method_1_code 4 = .ok (.aload_n 0, 1) := by decide +kernel
theorem d6_5 : decode prog_2_method_1_code 5 = .ok (.new 7, 3) := by decide +kernel
theorem d6_8 : decode prog_2_method_1_code 8 = .ok (.dup, 1) := by decide +kernel
theorem d6_9 : decode prog_2_method_1_code 9 = .ok (.invokespecial 9, 3) := by decide +kernel
theorem d6_12 : decode prog_2_method_1_code 12 = .ok (.putfield 10, 3) := by decide +kernel
theorem d6_15 : decode prog_2_method_1_code 15 = .ok (.aload_n 0, 1) := by decide +kernel
theorem d6_16 : decode prog_2_method_1_code 16 = .ok (.aload_n 1, 1) := by decide +kernel
theorem d6_17 : decode prog_2_method_1_code 17 = .ok (.putfield 16, 3) := by decide +kernel
theorem d6_20 : decode prog_2_method_1_code 20 = .ok (.return_, 1) := by decide +kernel
theorem pn_com_example_twinshelf_twinshelf_cli_ArgumentReader : plainName "com/example/twinshelf/twinshelf/cli/ArgumentReader" = true := by first | (simp [plainName, overriddenIn]; done) | decide +kernel
theorem ef_6 (m : MethodId) (o0 : Addr) (o1 : Addr) : entryFrame m #[(.ref o0), (.ref o1)] 2 = mkF m 0 #[.val (.ref o0), .val (.ref o1)] [] := by first | (simp [entryFrame, mkF, argsToLocals, Value.category]; done) | rfl
def Q6 (Z : State) (o0 o1 : Addr) (h0 : Heap) (n0 : Nat) (v : Option Value) (h : Heap) (L : List Loc) : Prop := v = none ∧ Fr n0 L ∧ Keep h0 h [o0] ∧ Exa Z h o0 "com/example/twinshelf/twinshelf/cli/ArgumentReader" ∧ Fld Z h o0 "com/example/twinshelf/twinshelf/cli/ArgumentReader" "args" "Ljava/util/List;" (.ref o1) ∧ Fld Z h o0 "com/example/twinshelf/twinshelf/cli/ArgumentReader" "next" "I" (.int (0 : Int32))
set_option maxRecDepth 65536 in
set_option maxHeartbeats 40000000 in
theorem rm6 (l : Launch) (Z : State) (a0 : Array Value) (hw : ∀ d ∈ tables_1, d.before a0 Z = true) (ws : List Jvm.Cond) (o0 : Addr) (o1 : Addr)   (h0 : Heap) (n0 : Nat) (Z0 : n0 ≤ h0.size)  (E_o0 : Exa Z h0 o0 "com/example/twinshelf/twinshelf/cli/ArgumentReader") (FG : Fld Z h0 o0 "com/example/twinshelf/twinshelf/cli/ArgumentReader" "given" "Ljava/util/Set;" .null) (FA : Fld Z h0 o0 "com/example/twinshelf/twinshelf/cli/ArgumentReader" "args" "Ljava/util/List;" .null) (FN : Fld Z h0 o0 "com/example/twinshelf/twinshelf/cli/ArgumentReader" "next" "I" (.int (0 : Int32))) (g_o0 : n0 ≤ o0) :
    MetFree l (⟨"com/example/twinshelf/twinshelf/cli/ArgumentReader", "<init>", "(Ljava/util/List;)V"⟩ : MethodName) (head1 (Jvm.Cond.code (⟨"com/example/twinshelf/twinshelf/cli/ArgumentReader", "<init>", "(Ljava/util/List;)V"⟩ : MethodName) prog_2_method_1_code 2 none :: ws) ({ frames := 4, cells := 2, slots := 9, locals := 52 } : Room)) (fun a U => a = #[(.ref o0), (.ref o1)] ∧ Z.Warmed39 U.vm ∧ U.heap = h0) (fun _ _ _ _ _ => True) (fun _ U o U' => ∃ v L, o = .returned v ∧ Q6 Z o0 o1 h0 n0 v U'.heap L ∧ FrameEnd U o U' L ({ frames := 4, cells := 2, slots := 9, locals := 52 } : Room).cells ({ frames := 4, cells := 2, slots := 9, locals := 52 } : Room).slots) := by
  refine MetFree.of_bodySF (plainFor_of_name pn_com_example_twinshelf_twinshelf_cli_ArgumentReader) hisR ?_
  intro p e s m args below meth c s₁ Bd hml0 hP hK
  obtain ⟨rfl, hZ, hh⟩ := hP
  have hx := Bd.exec
  have hby := Bd.bytes
  have hlk : meth.locks = false := BodyLoose.notSynchronized Bd
  have hml : c.maxLocals = 2 := hml0
  have hown : s.vm.findClass "com/example/twinshelf/twinshelf/cli/ArgumentReader" = some m.cls := findClass_of_methodNamed Bd.named
  have hnm := (name_of_methodNamed Bd.named Bd.method).1
  have X0 : Stand p l e ({ frames := 4, cells := 2, slots := 9, locals := 52 } : Room) s m #[(.ref o0), (.ref o1)] below meth c s₁ [] 0 0 := Stand.of_body Bd
  have e0 : s₁.heap = h0 := by rw [← hh, Bd.state]; rfl
  have N0 := Fr.nil n0
  refine own_by (U' := s₁.setTop (mkF m 0 #[.val (.ref o0), .val (.ref o1)] [])) (fun t k => castTop (ef_6 m o0 o1) k) ?_
  refine own_by (fun _ k => XS.aloadN X0.here hx rfl (hb hby d6_0) rfl rfl k) ?_
  show own_Fin p.tables e below _ (s₁.setTop (mkF m 1 #[.val (.ref o0), .val (.ref o1)] [(.ref o0)]))
  obtain ⟨T1, X1, e1, st1⟩ := initO X0 hx hZ hown (hw _ (List.mem_of_getElem? (i := 36) rfl)) (hw _ (List.mem_of_getElem? (i := 19) rfl)) (hw _ (List.mem_of_getElem? (i := 20) rfl)) e0 (g := (mkF m 1 #[.val (.ref o0), .val (.ref o1)] [(.ref o0)])) rfl (by rw [hml]; rfl) rfl (hb hby d6_1) (by decide) (W := 0) (by show 2 * 0 + _ ≤ _; exact Nat.le_of_eq rfl) (by decide)
  refine own_by st1 ?_
  show own_Fin p.tables e below _ (T1.setTop (mkF m 4 #[.val (.ref o0), .val (.ref o1)] []))
  refine own_by (fun _ k => XS.aloadN X1.here hx rfl (hb hby d6_4) rfl rfl k) ?_
  show own_Fin p.tables e below _ (T1.setTop (mkF m 5 #[.val (.ref o0), .val (.ref o1)] [(.ref o0)]))
  obtain ⟨T2, h2, X2, e2, E2, A2, D2, -, st2⟩ := newO X1 hx hZ hown (hw _ (List.mem_of_getElem? (i := 37) rfl)) (hw _ (List.mem_of_getElem? (i := 38) rfl)) (hw _ (List.mem_of_getElem? (i := 39) rfl)) e1 (g := (mkF m 5 #[.val (.ref o0), .val (.ref o1)] [(.ref o0)])) rfl (hb hby d6_5) (by decide) (by decide)
  obtain ⟨b2, g2⟩ : ∃ z, z = h0.size := ⟨_, rfl⟩
  rw [← g2] at A2 D2 st2
  have g_b2 : n0 ≤ b2 := Nat.le_trans Z0 (Nat.le_of_eq g2.symm)
  have Z2 : n0 ≤ h2.size := Nat.le_trans Z0 E2.1
  refine own_by st2 ?_
  have ne2_o0 : o0 ≠ b2 := Nat.ne_of_lt (Nat.lt_of_lt_of_le E_o0.lt (Nat.le_of_eq g2.symm))
  have sz_b2 : h0.size ≤ b2 := Nat.le_trans (Keep.refl h0 [o0]).1 (Nat.le_of_eq g2.symm)
  have K2 : Keep h0 h2 [o0] := (Keep.refl h0 [o0]).ext E2
  have E2_0 : Exa Z h2 o0 "com/example/twinshelf/twinshelf/cli/ArgumentReader" := (E_o0.ext E2)
  have F2_0 : Fld Z h2 o0 "com/example/twinshelf/twinshelf/cli/ArgumentReader" "given" "Ljava/util/Set;" .null := (FG.ext E2)
  have F2_1 : Fld Z h2 o0 "com/example/twinshelf/twinshelf/cli/ArgumentReader" "args" "Ljava/util/List;" .null := (FA.ext E2)
  have F2_2 : Fld Z h2 o0 "com/example/twinshelf/twinshelf/cli/ArgumentReader" "next" "I" (.int (0 : Int32)) := (FN.ext E2)
  have F2_map : Fld Z h2 b2 "java/util/HashSet" "map" "Ljava/util/HashMap;" .null := D2 (Or.inl (hw _ (List.mem_of_getElem? (i := 69) rfl))) (ty := (.object "java/util/HashMap")) (by decide)
  show own_Fin p.tables e below _ (T2.setTop (mkF m 8 #[.val (.ref o0), .val (.ref o1)] [(.ref b2), (.ref o0)]))
  refine own_by (fun _ k => XS.dup X2.here hx rfl (hb hby d6_8) rfl rfl k) ?_
  show own_Fin p.tables e below _ (T2.setTop (mkF m 9 #[.val (.ref o0), .val (.ref o1)] [(.ref b2), (.ref b2), (.ref o0)]))
  obtain ⟨_, _, ⟨T3, L3, k3, n3⟩, -, X3, ⟨Lc3, hQ3, l3, y3, z3⟩, st3⟩ := X2.specialBack hx (y := (⟨"java/util/HashSet", "<init>", "()V"⟩ : MethodName)) rfl hown (mvT hZ (hw _ (List.mem_of_getElem? (i := 40) rfl))) (mvT hZ (hw _ (List.mem_of_getElem? (i := 41) rfl))) (mvT hZ (hw _ (List.mem_of_getElem? (i := 42) rfl))) (by decide) (backOf (W := 2) (rm7 l Z a0 hw [] b2 h2 n0 Z2 A2 F2_map g_b2) hZ (hw _ (List.mem_of_getElem? (i := 42) rfl)) (hw _ (List.mem_of_getElem? (i := 39) rfl)) (by decide) (by decide)) (g := (mkF m 9 #[.val (.ref o0), .val (.ref o1)] [(.ref b2), (.ref b2), (.ref o0)])) rfl (by rw [hml]; rfl) (Steps.refl _) (a := b2) (argsL := []) (rest := [(.ref b2), (.ref o0)]) (lenOf pd___V rfl) rfl (by show 2 * 0 + _ ≤ _; exact Nat.le_of_eq rfl) (hb hby d6_9) (fun _ _ => ⟨rfl, e2, (by decide : 1 + 1 ≤ _), (by decide : 1 + 8 ≤ _)⟩)
  dsimp only [Pt.U, Pt.locs, Pt.cells, Pt.slots] at X3 l3 y3 z3 st3 hQ3
  subst l3 y3 z3
  obtain ⟨rfl, N3q, Kq3⟩ := hQ3
  have N3 := Fr.app N0 N3q
  have Z3 : n0 ≤ T3.heap.size := Nat.le_trans Z2 Kq3.1
  have K3 := K2.trans Kq3 (allS (Or.inr sz_b2) all0)
  refine own_by (fun _ k => st3.trans k) ?_
  have Fk3_0 := F2_0.keep Kq3 (ninS ne2_o0 nin0)
  have Fk3_1 := F2_1.keep Kq3 (ninS ne2_o0 nin0)
  have Fk3_2 := F2_2.keep Kq3 (ninS ne2_o0 nin0)
  have Ek3_0 := E2_0.keep Kq3
  have Ek3_1 := A2.keep Kq3
  show own_Fin p.tables e below _ (T3.setTop (mkF m 12 #[.val (.ref o0), .val (.ref o1)] [(.ref b2), (.ref o0)]))
  obtain ⟨T4, h4, X4, e4, W4, st4⟩ := putF X3 hx hZ hown (host := "") (Or.inl (hw _ (List.mem_of_getElem? (i := 70) rfl))) Via.refl rfl Fk3_0 Ek3_0 (Or.inr ⟨(hw _ (List.mem_of_getElem? (i := 71) rfl)), rfl, hnm⟩) (hw _ (List.mem_of_getElem? (i := 31) rfl)) (ty := (.object "java/util/Set")) (by decide) rfl rfl (g := (mkF m 12 #[.val (.ref o0), .val (.ref o1)] [(.ref b2), (.ref o0)])) rfl rfl (hb hby d6_12)
  have N4 := Fr.snoc X4 N3 g_o0
  have Z4 : n0 ≤ h4.size := Nat.le_trans Z3 (Keep.of_wr W4).1
  refine own_by st4 ?_
  have Fw4 := Fk3_0.same W4
  have K4 : Keep h0 h4 [o0] := K3.wr W4 (Or.inl (List.mem_of_getElem? (i := 0) rfl))
  have E4_0 : Exa Z h4 o0 "com/example/twinshelf/twinshelf/cli/ArgumentReader" := (Ek3_0.wr W4)
  have E4_1 : Exa Z h4 b2 "java/util/HashSet" := (Ek3_1.wr W4)
  have F4_1 : Fld Z h4 o0 "com/example/twinshelf/twinshelf/cli/ArgumentReader" "args" "Ljava/util/List;" .null := (Fk3_1.other W4 (Or.inr (slot_ne (Or.inr (hw _ (List.mem_of_getElem? (i := 73) rfl))) (Or.inr (hw _ (List.mem_of_getElem? (i := 71) rfl))) (by decide) (t := (.object "java/util/List")) (t' := (.object "java/util/Set")) (by decide) (by decide))))
  have F4_2 : Fld Z h4 o0 "com/example/twinshelf/twinshelf/cli/ArgumentReader" "next" "I" (.int (0 : Int32)) := (Fk3_2.other W4 (Or.inr (slot_ne (Or.inl (hw _ (List.mem_of_getElem? (i := 80) rfl))) (Or.inr (hw _ (List.mem_of_getElem? (i := 71) rfl))) (by decide) (t := .int) (t' := (.object "java/util/Set")) (by decide) (by decide))))
  show own_Fin p.tables e below _ (T4.setTop (mkF m 15 #[.val (.ref o0), .val (.ref o1)] []))
  refine own_by (fun _ k => XS.aloadN X4.here hx rfl (hb hby d6_15) rfl rfl k) ?_
  show own_Fin p.tables e below _ (T4.setTop (mkF m 16 #[.val (.ref o0), .val (.ref o1)] [(.ref o0)]))
  refine own_by (fun _ k => XS.aloadN X4.here hx rfl (hb hby d6_16) rfl rfl k) ?_
  show own_Fin p.tables e below _ (T4.setTop (mkF m 17 #[.val (.ref o0), .val (.ref o1)] [(.ref o1), (.ref o0)]))
  obtain ⟨T5, h5, X5, e5, W5, st5⟩ := putF X4 hx hZ hown (host := "") (Or.inl (hw _ (List.mem_of_getElem? (i := 72) rfl))) Via.refl e4 F4_1 E4_0 (Or.inr ⟨(hw _ (List.mem_of_getElem? (i := 73) rfl)), rfl, hnm⟩) (hw _ (List.mem_of_getElem? (i := 31) rfl)) (ty := (.object "java/util/List")) (by decide) rfl rfl (g := (mkF m 17 #[.val (.ref o0), .val (.ref o1)] [(.ref o1), (.ref o0)])) rfl rfl (hb hby d6_17)
  have N5 := Fr.snoc X5 N4 g_o0
  have Z5 : n0 ≤ h5.size := Nat.le_trans Z4 (Keep.of_wr W5).1
  refine own_by st5 ?_
  have Fw5 := F4_1.same W5
  have K5 : Keep h0 h5 [o0] := K4.wr W5 (Or.inl (List.mem_of_getElem? (i := 0) rfl))
  have E5_0 : Exa Z h5 o0 "com/example/twinshelf/twinshelf/cli/ArgumentReader" := (E4_0.wr W5)
  have E5_1 : Exa Z h5 b2 "java/util/HashSet" := (E4_1.wr W5)
  have F5_0 : Fld Z h5 o0 "com/example/twinshelf/twinshelf/cli/ArgumentReader" "given" "Ljava/util/Set;" (.ref b2) := (Fw4.other W5 (Or.inr (slot_ne (Or.inr (hw _ (List.mem_of_getElem? (i := 71) rfl))) (Or.inr (hw _ (List.mem_of_getElem? (i := 73) rfl))) (by decide) (t := (.object "java/util/Set")) (t' := (.object "java/util/List")) (by decide) (by decide))))
  have F5_2 : Fld Z h5 o0 "com/example/twinshelf/twinshelf/cli/ArgumentReader" "next" "I" (.int (0 : Int32)) := (F4_2.other W5 (Or.inr (slot_ne (Or.inl (hw _ (List.mem_of_getElem? (i := 80) rfl))) (Or.inr (hw _ (List.mem_of_getElem? (i := 73) rfl))) (by decide) (t := .int) (t' := (.object "java/util/List")) (by decide) (by decide))))
  show own_Fin p.tables e below _ (T5.setTop (mkF m 20 #[.val (.ref o0), .val (.ref o1)] []))
  exact own_retV X5 hx Bd.returns hlk (hb hby d6_20) (by decide) (by decide) (by rw [e5]; exact ⟨rfl, N5, K5, E5_0, Fw5, F5_2⟩)
theorem d12_0 : decode jdk_38_method_8_code 0 = .ok (.aload_n 0, 1) := by decide +kernel
theorem d12_1 : decode jdk_38_method_8_code 1 = .ok (.getfield 48, 3) := by decide +kernel
theorem d12_4 : decode jdk_38_method_8_code 4 = .ok (.ireturn, 1) := by decide +kernel
theorem ef_12 (m : MethodId) (o0 : Addr) : entryFrame m #[(.ref o0)] 1 = mkF m 0 #[.val (.ref o0)] [] := by first | (simp [entryFrame, mkF, argsToLocals, Value.category]; done) | rfl
def f12 (sz1 : Int32) : Int32 :=
  sz1
def Q12 (sz1 : Int32) (h0 : Heap) (n0 : Nat) (v : Option Value) (h : Heap) (L : List Loc) : Prop := v = some (.int (f12 sz1)) ∧ Fr n0 L ∧ h = h0
set_option maxRecDepth 65536 in
set_option maxHeartbeats 40000000 in
theorem rm12 (l : Launch) (Z : State) (a0 : Array Value) (hw : ∀ d ∈ tables_1, d.before a0 Z = true) (ws : List Jvm.Cond) (o0 : Addr)  (sz1 : Int32) (h0 : Heap) (n0 : Nat) (Z0 : n0 ≤ h0.size)  (FS_ : Fld Z h0 o0 "java/util/ArrayList" "size" "I" (.int sz1)) :
    MetFree l (⟨"java/util/ArrayList", "size", "()I"⟩ : MethodName) (head1 (Jvm.Cond.code (⟨"java/util/ArrayList", "size", "()I"⟩ : MethodName) jdk_38_method_8_code 1 (some .int) :: ws) ({ frames := 0, cells := 0, slots := 0, locals := 0 } : Room)) (fun a U => a = #[(.ref o0)] ∧ Z.Warmed39 U.vm ∧ U.heap = h0) (fun _ _ _ _ _ => True) (fun _ U o U' => ∃ v L, o = .returned v ∧ Q12 sz1 h0 n0 v U'.heap L ∧ FrameEnd U o U' L ({ frames := 0, cells := 0, slots := 0, locals := 0 } : Room).cells ({ frames := 0, cells := 0, slots := 0, locals := 0 } : Room).slots) := by
  refine MetFree.of_bodySF (plainFor_of_name pn_java_util_ArrayList) hisR ?_
  intro p e s m args below meth c s₁ Bd hml0 hP hK
  obtain ⟨rfl, hZ, hh⟩ := hP
  have hx := Bd.exec
  have hby := Bd.bytes
  have hlk : meth.locks = false := BodyLoose.notSynchronized Bd
  have hml : c.maxLocals = 1 := hml0
  have hown : s.vm.findClass "java/util/ArrayList" = some m.cls := findClass_of_methodNamed Bd.named
  have hnm := (name_of_methodNamed Bd.named Bd.method).1
  have X0 : Stand p l e ({ frames := 0, cells := 0, slots := 0, locals := 0 } : Room) s m #[(.ref o0)] below meth c s₁ [] 0 0 := Stand.of_body Bd
  have e0 : s₁.heap = h0 := by rw [← hh, Bd.state]; rfl
  have N0 := Fr.nil n0
  refine own_by (U' := s₁.setTop (mkF m 0 #[.val (.ref o0)] [])) (fun t k => castTop (ef_12 m o0) k) ?_
  refine own_by (fun _ k => XS.aloadN X0.here hx rfl (hb hby d12_0) rfl rfl k) ?_
  show own_Fin p.tables e below _ (s₁.setTop (mkF m 1 #[.val (.ref o0)] [(.ref o0)]))
  obtain ⟨T1, X1, e1, st1⟩ := getF X0 hx hZ hown (host := "") (Or.inl (hw _ (List.mem_of_getElem? (i := 90) rfl))) Via.refl e0 FS_ (g := (mkF m 1 #[.val (.ref o0)] [(.ref o0)])) rfl rfl (hb hby d12_1)
  refine own_by st1 ?_
  show own_Fin p.tables e below _ (T1.setTop (mkF m 4 #[.val (.ref o0)] [(.int sz1)]))
  have ef : f12 sz1 = sz1 := rfl
  exact own_retI X1 hx Bd.returns hlk (hb hby d12_4) (by decide) (by decide) ⟨by rw [ef], N0, e1⟩
theorem d11_0 : decode prog_2_method_2_code 0 = .ok (.aload_n 0, 1) := by decide +kernel
theorem d11_1 : decode prog_2_method_2_code 1 = .ok (.getfield 20, 3) := by decide +kernel
theorem d11_4 : decode prog_2_method_2_code 4 = .ok (.aload_n 0, 1) := by decide +kernel
theorem d11_5 : decode prog_2_method_2_code 5 = .ok (.getfield 16, 3) := by decide +kernel
theorem d11_8 : decode prog_2_method_2_code 8 = .ok (.invokeinterface 24 1, 5) := by decide +kernel
theorem d11_13 : decode prog_2_method_2_code 13 = .ok (.if_icmp .ge 7, 3) := by decide +kernel
theorem d11_16 : decode prog_2_method_2_code 16 = .ok (.iconst 1, 1) := by decide +kernel
theorem d11_17 : decode prog_2_method_2_code 17 = .ok (.goto 4, 3) := by decide +kernel
theorem d11_20 : decode prog_2_method_2_code 20 = .ok (.iconst 0, 1) := by decide +kernel
theorem d11_21 : decode prog_2_method_2_code 21 = .ok (.ireturn, 1) := by decide +kernel
theorem pd___I : parseMethodDescriptor "()I" = some ⟨[], some .int⟩ := by decide +kernel
theorem ef_11 (m : MethodId) (o0 : Addr) : entryFrame m #[(.ref o0)] 1 = mkF m 0 #[.val (.ref o0)] [] := by first | (simp [entryFrame, mkF, argsToLocals, Value.category]; done) | rfl
def f11 (sz1 : Int32) : Int32 :=
  if (0 : Int32) < (f12 sz1) then
    (1 : Int32)
  else
    (0 : Int32)
def Q11 (sz1 : Int32) (h0 : Heap) (n0 : Nat) (v : Option Value) (h : Heap) (L : List Loc) : Prop := v = some (.int (f11 sz1)) ∧ Fr n0 L ∧ h = h0
set_option maxRecDepth 65536 in
set_option maxHeartbeats 40000000 in
theorem rm11 (l : Launch) (Z : State) (a0 : Array Value) (hw : ∀ d ∈ tables_1, d.before a0 Z = true) (ws : List Jvm.Cond) (o0 : Addr)  (l1 : Addr) (sz1 : Int32) (h0 : Heap) (n0 : Nat) (Z0 : n0 ≤ h0.size)  (E_l : Exa Z h0 l1 "java/util/ArrayList") (FS_ : Fld Z h0 l1 "java/util/ArrayList" "size" "I" (.int sz1)) (FA : Fld Z h0 o0 "com/example/twinshelf/twinshelf/cli/ArgumentReader" "args" "Ljava/util/List;" (.ref l1)) (FN : Fld Z h0 o0 "com/example/twinshelf/twinshelf/cli/ArgumentReader" "next" "I" (.int (0 : Int32))) :
    MetFree l (⟨"com/example/twinshelf/twinshelf/cli/ArgumentReader", "hasNext", "()Z"⟩ : MethodName) (head1 (Jvm.Cond.code (⟨"com/example/twinshelf/twinshelf/cli/ArgumentReader", "hasNext", "()Z"⟩ : MethodName) prog_2_method_2_code 1 (some .boolean) :: ws) ({ frames := 1, cells := 0, slots := 0, locals := 13 } : Room)) (fun a U => a = #[(.ref o0)] ∧ Z.Warmed39 U.vm ∧ U.heap = h0) (fun _ _ _ _ _ => True) (fun _ U o U' => ∃ v L, o = .returned v ∧ Q11 sz1 h0 n0 v U'.heap L ∧ FrameEnd U o U' L ({ frames := 1, cells := 0, slots := 0, locals := 13 } : Room).cells ({ frames := 1, cells := 0, slots := 0, locals := 13 } : Room).slots) := by
  refine MetFree.of_bodySF (plainFor_of_name pn_com_example_twinshelf_twinshelf_cli_ArgumentReader) hisR ?_
  intro p e s m args below meth c s₁ Bd hml0 hP hK
  obtain ⟨rfl, hZ, hh⟩ := hP
  have hx := Bd.exec
  have hby := Bd.bytes
  have hlk : meth.locks = false := BodyLoose.notSynchronized Bd
  have hml : c.maxLocals = 1 := hml0
  have hown : s.vm.findClass "com/example/twinshelf/twinshelf/cli/ArgumentReader" = some m.cls := findClass_of_methodNamed Bd.named
  have hnm := (name_of_methodNamed Bd.named Bd.method).1
  have X0 : Stand p l e ({ frames := 1, cells := 0, slots := 0, locals := 13 } : Room) s m #[(.ref o0)] below meth c s₁ [] 0 0 := Stand.of_body Bd
  have e0 : s₁.heap = h0 := by rw [← hh, Bd.state]; rfl
  have N0 := Fr.nil n0
  refine own_by (U' := s₁.setTop (mkF m 0 #[.val (.ref o0)] [])) (fun t k => castTop (ef_11 m o0) k) ?_
  refine own_by (fun _ k => XS.aloadN X0.here hx rfl (hb hby d11_0) rfl rfl k) ?_
  show own_Fin p.tables e below _ (s₁.setTop (mkF m 1 #[.val (.ref o0)] [(.ref o0)]))
  obtain ⟨T1, X1, e1, st1⟩ := getF X0 hx hZ hown (host := "") (Or.inl (hw _ (List.mem_of_getElem? (i := 79) rfl))) Via.refl e0 FN (g := (mkF m 1 #[.val (.ref o0)] [(.ref o0)])) rfl rfl (hb hby d11_1)
  refine own_by st1 ?_
  show own_Fin p.tables e below _ (T1.setTop (mkF m 4 #[.val (.ref o0)] [(.int (0 : Int32))]))
  refine own_by (fun _ k => XS.aloadN X1.here hx rfl (hb hby d11_4) rfl rfl k) ?_
  show own_Fin p.tables e below _ (T1.setTop (mkF m 5 #[.val (.ref o0)] [(.ref o0), (.int (0 : Int32))]))
  obtain ⟨T2, X2, e2, st2⟩ := getF X1 hx hZ hown (host := "") (Or.inl (hw _ (List.mem_of_getElem? (i := 72) rfl))) Via.refl e1 FA (g := (mkF m 5 #[.val (.ref o0)] [(.ref o0), (.int (0 : Int32))])) rfl rfl (hb hby d11_5)
  refine own_by st2 ?_
  show own_Fin p.tables e below _ (T2.setTop (mkF m 8 #[.val (.ref o0)] [(.ref l1), (.int (0 : Int32))]))
  obtain ⟨cq3, kq3, q3a, q3b, q3c⟩ := isOf hZ e2 E_l
  obtain ⟨_, _, ⟨T3, L3, k3, n3⟩, -, X3, ⟨Lc3, hQ3, l3, y3, z3⟩, st3⟩ := X2.interfaceBack hx (xi := (⟨"java/util/List", "size", "()I"⟩ : MethodName)) (y := (⟨"java/util/ArrayList", "size", "()I"⟩ : MethodName)) hown (mvT hZ (hw _ (List.mem_of_getElem? (i := 81) rfl))) (mvT hZ (hw _ (List.mem_of_getElem? (i := 82) rfl))) (mvT hZ (hw _ (List.mem_of_getElem? (i := 83) rfl))) (mvT hZ (hw _ (List.mem_of_getElem? (i := 84) rfl))) (mvT hZ (hw _ (List.mem_of_getElem? (i := 85) rfl))) (mvT hZ (hw _ (List.mem_of_getElem? (i := 86) rfl))) (mvT hZ (hw _ (List.mem_of_getElem? (i := 87) rfl))) (mvT hZ (hw _ (List.mem_of_getElem? (i := 88) rfl))) (by decide) (backOf (W := 1) (rm12 l Z a0 hw [] l1 sz1 h0 n0 Z0 FS_) hZ (hw _ (List.mem_of_getElem? (i := 89) rfl)) (hw _ (List.mem_of_getElem? (i := 2) rfl)) (by decide) (by decide)) q3a q3b q3c (g := (mkF m 8 #[.val (.ref o0)] [(.ref l1), (.int (0 : Int32))])) rfl (by rw [hml]; rfl) (Steps.refl _) (argsL := []) (rest := [(.int (0 : Int32))]) (lenOf pd___I rfl) rfl (by show 2 * 0 + _ ≤ _; exact Nat.le_of_eq rfl) (hb hby d11_8) (fun _ _ => ⟨rfl, e2, (by decide : 0 + 0 ≤ _), (by decide : 0 + 0 ≤ _)⟩)
  dsimp only [Pt.U, Pt.locs, Pt.cells, Pt.slots] at X3 l3 y3 z3 st3 hQ3
  subst l3 y3 z3
  obtain ⟨rfl, N3q, e3⟩ := hQ3
  have N3 := Fr.app N0 N3q
  refine own_by (fun _ k => st3.trans k) ?_
  show own_Fin p.tables e below _ (T3.setTop (mkF m 13 #[.val (.ref o0)] [(.int (f12 sz1)), (.int (0 : Int32))]))
  by_cases hc4 : (0 : Int32) < (f12 sz1)
  · refine own_by (fun _ k => XS.icmpNo X3.here hx rfl (hb hby d11_13) rfl (tlt hc4).2.1 k) ?_
    show own_Fin p.tables e below _ (T3.setTop (mkF m 16 #[.val (.ref o0)] []))
    refine own_by (fun _ k => XS.iconst X3.here hx rfl (hb hby d11_16) k) ?_
    show own_Fin p.tables e below _ (T3.setTop (mkF m 17 #[.val (.ref o0)] [(.int (1 : Int32))]))
    refine own_by (fun _ k => XS.goto X3.here hx rfl (pc0 := 17) (pc' := 21) rfl (hb hby d11_17) (by decide) (by decide) k) ?_
    show own_Fin p.tables e below _ (T3.setTop (mkF m 21 #[.val (.ref o0)] [(.int (1 : Int32))]))
    have ef : f11 sz1 = (1 : Int32) := by unfold f11; rw [if_pos hc4]
    exact own_retN X3 hx (t := .boolean) Bd.returns hlk (by simp) (hb hby d11_21) (by decide) (by decide) ⟨by rw [ef]; rfl, N3, e3⟩
  · refine own_by (fun _ k => XS.icmpYes X3.here hx rfl (pc0 := 13) (pc' := 20) rfl (hb hby d11_13) rfl (flt hc4).2.1 (by decide) (by decide) k) ?_
    show own_Fin p.tables e below _ (T3.setTop (mkF m 20 #[.val (.ref o0)] []))
    refine own_by (fun _ k => XS.iconst X3.here hx rfl (hb hby d11_20) k) ?_
    show own_Fin p.tables e below _ (T3.setTop (mkF m 21 #[.val (.ref o0)] [(.int (0 : Int32))]))
    have ef : f11 sz1 = (0 : Int32) := by unfold f11; rw [if_neg hc4]
    exact own_retN X3 hx (t := .boolean) Bd.returns hlk (by simp) (hb hby d11_21) (by decide) (by decide) ⟨by rw [ef]; rfl, N3, e3⟩
theorem pd__Ljava_util_ArrayList_I_V : parseMethodDescriptor "(Ljava/util/ArrayList;I)V" = some ⟨[(.object "java/util/ArrayList"), .int], none⟩ := by decide +kernel
theorem pd__Ljava_util_List__V : parseMethodDescriptor "(Ljava/util/List;)V" = some ⟨[(.object "java/util/List")], none⟩ := by decide +kernel
theorem pd___Z : parseMethodDescriptor "()Z" = some ⟨[], some .boolean⟩ := by decide +kernel
theorem ef_0 (m : MethodId) (p0 : Int32) : entryFrame m #[(.int p0)] maxLocals = mkF m 0 #[.val (.int p0), .unset, .unset, .unset, .unset, .unset, .unset] [] := by first | (simp [entryFrame, mkF, argsToLocals, Value.category, maxLocals]; done) | rfl
def f0 (p0 : Int32) : Int32 :=
  if (0 : Int32) < (p0 &&& (7 : Int32)) then
    if (f11 (p0 &&& (7 : Int32))) = (1 : Int32) then
      (1 : Int32)
    else
      (0 : Int32)
  else
    if (f11 (p0 &&& (7 : Int32))) = (0 : Int32) then
      (1 : Int32)
    else
      (0 : Int32)
def Q0 (p0 : Int32) (h0 : Heap) (n0 : Nat) (v : Option Value) (h : Heap) (L : List Loc) : Prop := v = some (.int (f0 p0)) ∧ Fr n0 L
set_option maxRecDepth 65536 in
set_option maxHeartbeats 40000000 in
theorem rm0 (l : Launch) (Z : State) (a0 : Array Value) (hw : ∀ d ∈ tables_1, d.before a0 Z = true) (ws : List Jvm.Cond) (p0 : Int32)  (dd : Addr) (h0 : Heap) (n0 : Nat) (Z0 : n0 ≤ h0.size)  (S_ : Sta Z h0 "java/util/ArrayList" "DEFAULTCAPACITY_EMPTY_ELEMENTDATA" "[Ljava/lang/Object;" (.ref dd)) (O_dd : own_Obj Z h0 dd 0) :
    MetFree l x (head1 (Jvm.Cond.code x code maxLocals ret :: ws) room_1) (fun a U => a = #[(.int p0)] ∧ Z.Warmed39 U.vm ∧ U.heap = h0) (fun _ _ _ _ _ => True) (fun _ U o U' => ∃ v L, o = .returned v ∧ Q0 p0 h0 n0 v U'.heap L ∧ FrameEnd U o U' L 11 85) := by
  refine MetFree.of_bodySF (plainFor_of_name pn_com_example_twinshelf_twinshelf_cli_ArgumentReaderHasNextPinLaw) hisR ?_
  intro p e s m args below meth c s₁ Bd hml0 hP hK
  obtain ⟨rfl, hZ, hh⟩ := hP
  have hx := Bd.exec
  have hby := Bd.bytes
  have hlk : meth.locks = false := BodyLoose.notSynchronized Bd
  have hml : c.maxLocals = 7 := hml0
  have hown : s.vm.findClass "com/example/twinshelf/twinshelf/cli/ArgumentReaderHasNextPinLaw" = some m.cls := findClass_of_methodNamed Bd.named
  have hnm := (name_of_methodNamed Bd.named Bd.method).1
  have X0 : Stand p l e room_1 s m #[(.int p0)] below meth c s₁ [] 0 0 := Stand.of_body Bd
  have e0 : s₁.heap = h0 := by rw [← hh, Bd.state]; rfl
  have N0 := Fr.nil n0
  refine own_by (U' := s₁.setTop (mkF m 0 #[.val (.int p0), .unset, .unset, .unset, .unset, .unset, .unset] [])) (fun t k => castTop (ef_0 m p0) k) ?_
  refine own_by (fun _ k => XS.iloadN X0.here hx rfl (hb hby at_0) rfl k) ?_
  show own_Fin p.tables e below _ (s₁.setTop (mkF m 1 #[.val (.int p0), .unset, .unset, .unset, .unset, .unset, .unset] [(.int p0)]))
  refine own_by (fun _ k => XS.bipush X0.here hx rfl (hb hby at_1) k) ?_
  show own_Fin p.tables e below _ (s₁.setTop (mkF m 3 #[.val (.int p0), .unset, .unset, .unset, .unset, .unset, .unset] [(.int (7 : Int32)), (.int p0)]))
  refine own_by (fun _ k => XS.iand X0.here hx rfl (hb hby at_3) rfl k) ?_
  show own_Fin p.tables e below _ (s₁.setTop (mkF m 4 #[.val (.int p0), .unset, .unset, .unset, .unset, .unset, .unset] [(.int (p0 &&& (7 : Int32)))]))
  refine own_by (fun _ k => XS.istoreN X0.here hx rfl (hb hby at_4) rfl (l' := #[.val (.int p0), .val (.int (p0 &&& (7 : Int32))), .unset, .unset, .unset, .unset, .unset]) rfl k) ?_
  show own_Fin p.tables e below _ (s₁.setTop (mkF m 5 #[.val (.int p0), .val (.int (p0 &&& (7 : Int32))), .unset, .unset, .unset, .unset, .unset] []))
  have hm := c_mask p0 7 3 (by decide) (by decide)
  have hp0 : 0 ≤ (p0 &&& (7 : Int32)).toInt := by omega
  have hp7 : (p0 &&& (7 : Int32)).toInt ≤ 7 := by omega
  obtain ⟨T1, h1, X1, e1, E1, A1, D1, -, st1⟩ := newO X0 hx hZ hown (hw _ (List.mem_of_getElem? (i := 0) rfl)) (hw _ (List.mem_of_getElem? (i := 1) rfl)) (hw _ (List.mem_of_getElem? (i := 2) rfl)) e0 (g := (mkF m 5 #[.val (.int p0), .val (.int (p0 &&& (7 : Int32))), .unset, .unset, .unset, .unset, .unset] [])) rfl (hb hby at_5) (by decide) (by decide)
  obtain ⟨b1, g1⟩ : ∃ z, z = h0.size := ⟨_, rfl⟩
  rw [← g1] at A1 D1 st1
  have g_b1 : n0 ≤ b1 := Nat.le_trans Z0 (Nat.le_of_eq g1.symm)
  have Z1 : n0 ≤ h1.size := Nat.le_trans Z0 E1.1
  refine own_by st1 ?_
  have O1_0 : own_Obj Z h1 dd (0 : Int32) := (O_dd.ext E1)
  have S1_0 : Sta Z h1 "java/util/ArrayList" "DEFAULTCAPACITY_EMPTY_ELEMENTDATA" "[Ljava/lang/Object;" (.ref dd) := (S_.ext E1)
  have F1_modCount : Fld Z h1 b1 "java/util/AbstractList" "modCount" "I" (.int (0 : Int32)) := D1 (Or.inl (hw _ (List.mem_of_getElem? (i := 22) rfl))) (ty := .int) (by decide)
  have F1_elementData : Fld Z h1 b1 "java/util/ArrayList" "elementData" "[Ljava/lang/Object;" .null := D1 (Or.inl (hw _ (List.mem_of_getElem? (i := 25) rfl))) (ty := (.array (.object "java/lang/Object"))) (by decide)
  have F1_size : Fld Z h1 b1 "java/util/ArrayList" "size" "I" (.int (0 : Int32)) := D1 (Or.inl (hw _ (List.mem_of_getElem? (i := 91) rfl))) (ty := .int) (by decide)
  show own_Fin p.tables e below _ (T1.setTop (mkF m 8 #[.val (.int p0), .val (.int (p0 &&& (7 : Int32))), .unset, .unset, .unset, .unset, .unset] [(.ref b1)]))
  refine own_by (fun _ k => XS.dup X1.here hx rfl (hb hby at_8) rfl rfl k) ?_
  show own_Fin p.tables e below _ (T1.setTop (mkF m 9 #[.val (.int p0), .val (.int (p0 &&& (7 : Int32))), .unset, .unset, .unset, .unset, .unset] [(.ref b1), (.ref b1)]))
  obtain ⟨_, _, ⟨T2, L2, k2, n2⟩, -, X2, ⟨Lc2, hQ2, l2, y2, z2⟩, st2⟩ := X1.specialBack hx (y := (⟨"java/util/ArrayList", "<init>", "()V"⟩ : MethodName)) rfl hown (mvT hZ (hw _ (List.mem_of_getElem? (i := 3) rfl))) (mvT hZ (hw _ (List.mem_of_getElem? (i := 4) rfl))) (mvT hZ (hw _ (List.mem_of_getElem? (i := 5) rfl))) (by decide) (backOf (W := 1) (rm1 l Z a0 hw [] b1 dd h1 n0 Z1 A1 F1_modCount F1_size F1_elementData S1_0 g_b1) hZ (hw _ (List.mem_of_getElem? (i := 5) rfl)) (hw _ (List.mem_of_getElem? (i := 2) rfl)) (by decide) (by decide)) (g := (mkF m 9 #[.val (.int p0), .val (.int (p0 &&& (7 : Int32))), .unset, .unset, .unset, .unset, .unset] [(.ref b1), (.ref b1)])) rfl (by rw [hml]; rfl) (Steps.refl _) (a := b1) (argsL := []) (rest := [(.ref b1)]) (lenOf pd___V rfl) rfl (by show 2 * 0 + _ ≤ _; exact Nat.le_of_eq rfl) (hb hby at_9) (fun _ _ => ⟨rfl, e1, (by decide : 1 + 0 ≤ _), (by decide : 3 + 0 ≤ _)⟩)
  dsimp only [Pt.U, Pt.locs, Pt.cells, Pt.slots] at X2 l2 y2 z2 st2 hQ2
  subst l2 y2 z2
  obtain ⟨rfl, N2q, Kq2, E2_q, FM2, FS2, FE2, S2_q⟩ := hQ2
  have N2 := Fr.app N0 N2q
  have Z2 : n0 ≤ T2.heap.size := Nat.le_trans Z1 Kq2.1
  refine own_by (fun _ k => st2.trans k) ?_
  have O2_dd := O1_0.keep Kq2 (ninS (Ne.symm (own_Obj.ne A1 (hw _ (List.mem_of_getElem? (i := 1) rfl)) O1_0)) nin0)
  show own_Fin p.tables e below _ (T2.setTop (mkF m 12 #[.val (.int p0), .val (.int (p0 &&& (7 : Int32))), .unset, .unset, .unset, .unset, .unset] [(.ref b1)]))
  refine own_by (fun _ k => XS.astoreN X2.here hx rfl (hb hby at_12) rfl rfl (l' := #[.val (.int p0), .val (.int (p0 &&& (7 : Int32))), .val (.ref b1), .unset, .unset, .unset, .unset]) rfl k) ?_
  show own_Fin p.tables e below _ (T2.setTop (mkF m 13 #[.val (.int p0), .val (.int (p0 &&& (7 : Int32))), .val (.ref b1), .unset, .unset, .unset, .unset] []))
  refine own_by (fun _ k => XS.aloadN X2.here hx rfl (hb hby at_13) rfl rfl k) ?_
  show own_Fin p.tables e below _ (T2.setTop (mkF m 14 #[.val (.int p0), .val (.int (p0 &&& (7 : Int32))), .val (.ref b1), .unset, .unset, .unset, .unset] [(.ref b1)]))
  refine own_by (fun _ k => XS.iloadN X2.here hx rfl (hb hby at_14) rfl k) ?_
  show own_Fin p.tables e below _ (T2.setTop (mkF m 15 #[.val (.int p0), .val (.int (p0 &&& (7 : Int32))), .val (.ref b1), .unset, .unset, .unset, .unset] [(.int (p0 &&& (7 : Int32))), (.ref b1)]))
  obtain ⟨_, _, ⟨T3, L3, k3, n3⟩, -, X3, ⟨Lc3, hQ3, l3, y3, z3⟩, st3⟩ := Jvm.LawKit.callS X2 hx (y := (⟨"com/example/twinshelf/twinshelf/cli/ArgumentReaderHasNextPinLaw", "fill", "(Ljava/util/ArrayList;I)V"⟩ : MethodName)) hown (mvT hZ (hw _ (List.mem_of_getElem? (i := 26) rfl))) (mvT hZ (hw _ (List.mem_of_getElem? (i := 27) rfl))) (mvT hZ (hw _ (List.mem_of_getElem? (i := 28) rfl))) (mvT hZ (hw _ (List.mem_of_getElem? (i := 29) rfl))) (by decide) (backOf (W := 0) (rm5 l Z a0 hw [] b1 (p0 &&& (7 : Int32)) dd T2.heap n0 Z2 E2_q FM2 FS2 FE2 S2_q g_b1 O2_dd hp0 hp7) hZ (hw _ (List.mem_of_getElem? (i := 29) rfl)) (hw _ (List.mem_of_getElem? (i := 28) rfl)) (by decide) (by decide)) (g := (mkF m 15 #[.val (.int p0), .val (.int (p0 &&& (7 : Int32))), .val (.ref b1), .unset, .unset, .unset, .unset] [(.int (p0 &&& (7 : Int32))), (.ref b1)])) rfl (by rw [hml]; rfl) (argsL := [(.ref b1), (.int (p0 &&& (7 : Int32)))]) (rest := []) (lenOf pd__Ljava_util_ArrayList_I_V rfl) rfl (by show 2 * 0 + _ ≤ _; exact Nat.le_of_eq rfl) (hb hby at_15) (fun _ _ => ⟨rfl, rfl, (by decide : 1 + 7 ≤ _), (by decide : 3 + 70 ≤ _)⟩)
  dsimp only [Pt.U, Pt.locs, Pt.cells, Pt.slots] at X3 l3 y3 z3 st3 hQ3
  subst l3 y3 z3
  obtain ⟨rfl, N3q, Z3, E3_q, FS3⟩ := hQ3
  have N3 := Fr.app N2 N3q
  refine own_by st3 ?_
  show own_Fin p.tables e below _ (T3.setTop (mkF m 18 #[.val (.int p0), .val (.int (p0 &&& (7 : Int32))), .val (.ref b1), .unset, .unset, .unset, .unset] []))
  obtain ⟨T4, h4, X4, e4, E4, A4, D4, -, st4⟩ := newO X3 hx hZ hown (hw _ (List.mem_of_getElem? (i := 30) rfl)) (hw _ (List.mem_of_getElem? (i := 31) rfl)) (hw _ (List.mem_of_getElem? (i := 32) rfl)) rfl (g := (mkF m 18 #[.val (.int p0), .val (.int (p0 &&& (7 : Int32))), .val (.ref b1), .unset, .unset, .unset, .unset] [])) rfl (hb hby at_18) (by decide) (by decide)
  obtain ⟨b4, g4⟩ : ∃ z, z = T3.heap.size := ⟨_, rfl⟩
  rw [← g4] at A4 D4 st4
  have g_b4 : n0 ≤ b4 := Nat.le_trans Z3 (Nat.le_of_eq g4.symm)
  have Z4 : n0 ≤ h4.size := Nat.le_trans Z3 E4.1
  refine own_by st4 ?_
  have ne4_o0 : b1 ≠ b4 := Nat.ne_of_lt (Nat.lt_of_lt_of_le E3_q.lt (Nat.le_of_eq g4.symm))
  have E4_0 : Exa Z h4 b1 "java/util/ArrayList" := (E3_q.ext E4)
  have F4_0 : Fld Z h4 b1 "java/util/ArrayList" "size" "I" (.int (p0 &&& (7 : Int32))) := (FS3.ext E4)
  have F4_given : Fld Z h4 b4 "com/example/twinshelf/twinshelf/cli/ArgumentReader" "given" "Ljava/util/Set;" .null := D4 (Or.inr (hw _ (List.mem_of_getElem? (i := 71) rfl))) (ty := (.object "java/util/Set")) (by decide)
  have F4_args : Fld Z h4 b4 "com/example/twinshelf/twinshelf/cli/ArgumentReader" "args" "Ljava/util/List;" .null := D4 (Or.inr (hw _ (List.mem_of_getElem? (i := 73) rfl))) (ty := (.object "java/util/List")) (by decide)
  have F4_next : Fld Z h4 b4 "com/example/twinshelf/twinshelf/cli/ArgumentReader" "next" "I" (.int (0 : Int32)) := D4 (Or.inl (hw _ (List.mem_of_getElem? (i := 80) rfl))) (ty := .int) (by decide)
  show own_Fin p.tables e below _ (T4.setTop (mkF m 21 #[.val (.int p0), .val (.int (p0 &&& (7 : Int32))), .val (.ref b1), .unset, .unset, .unset, .unset] [(.ref b4)]))
  refine own_by (fun _ k => XS.dup X4.here hx rfl (hb hby at_21) rfl rfl k) ?_
  show own_Fin p.tables e below _ (T4.setTop (mkF m 22 #[.val (.int p0), .val (.int (p0 &&& (7 : Int32))), .val (.ref b1), .unset, .unset, .unset, .unset] [(.ref b4), (.ref b4)]))
  refine own_by (fun _ k => XS.aloadN X4.here hx rfl (hb hby at_22) rfl rfl k) ?_
  show own_Fin p.tables e below _ (T4.setTop (mkF m 23 #[.val (.int p0), .val (.int (p0 &&& (7 : Int32))), .val (.ref b1), .unset, .unset, .unset, .unset] [(.ref b1), (.ref b4), (.ref b4)]))
  obtain ⟨_, _, ⟨T5, L5, k5, n5⟩, -, X5, ⟨Lc5, hQ5, l5, y5, z5⟩, st5⟩ := X4.specialBack hx (y := (⟨"com/example/twinshelf/twinshelf/cli/ArgumentReader", "<init>", "(Ljava/util/List;)V"⟩ : MethodName)) rfl hown (mvT hZ (hw _ (List.mem_of_getElem? (i := 33) rfl))) (mvT hZ (hw _ (List.mem_of_getElem? (i := 34) rfl))) (mvT hZ (hw _ (List.mem_of_getElem? (i := 35) rfl))) (by decide) (backOf (W := 1) (rm6 l Z a0 hw [] b4 b1 h4 n0 Z4 A4 F4_given F4_args F4_next g_b4) hZ (hw _ (List.mem_of_getElem? (i := 35) rfl)) (hw _ (List.mem_of_getElem? (i := 32) rfl)) (by decide) (by decide)) (g := (mkF m 23 #[.val (.int p0), .val (.int (p0 &&& (7 : Int32))), .val (.ref b1), .unset, .unset, .unset, .unset] [(.ref b1), (.ref b4), (.ref b4)])) rfl (by rw [hml]; rfl) (Steps.refl _) (a := b4) (argsL := [(.ref b1)]) (rest := [(.ref b4)]) (lenOf pd__Ljava_util_List__V rfl) rfl (by show 2 * 0 + _ ≤ _; exact Nat.le_of_eq rfl) (hb hby at_23) (fun _ _ => ⟨rfl, e4, (by decide : 9 + 2 ≤ _), (by decide : 76 + 9 ≤ _)⟩)
  dsimp only [Pt.U, Pt.locs, Pt.cells, Pt.slots] at X5 l5 y5 z5 st5 hQ5
  subst l5 y5 z5
  obtain ⟨rfl, N5q, Kq5, Er5, FA5, FN5⟩ := hQ5
  have N5 := Fr.app N3 N5q
  have Z5 : n0 ≤ T5.heap.size := Nat.le_trans Z4 Kq5.1
  refine own_by (fun _ k => st5.trans k) ?_
  have Fk5_0 := F4_0.keep Kq5 (ninS ne4_o0 nin0)
  have Ek5_0 := E4_0.keep Kq5
  show own_Fin p.tables e below _ (T5.setTop (mkF m 26 #[.val (.int p0), .val (.int (p0 &&& (7 : Int32))), .val (.ref b1), .unset, .unset, .unset, .unset] [(.ref b4)]))
  refine own_by (fun _ k => XS.astoreN X5.here hx rfl (hb hby at_26) rfl rfl (l' := #[.val (.int p0), .val (.int (p0 &&& (7 : Int32))), .val (.ref b1), .val (.ref b4), .unset, .unset, .unset]) rfl k) ?_
  show own_Fin p.tables e below _ (T5.setTop (mkF m 27 #[.val (.int p0), .val (.int (p0 &&& (7 : Int32))), .val (.ref b1), .val (.ref b4), .unset, .unset, .unset] []))
  refine own_by (fun _ k => XS.aloadN X5.here hx rfl (hb hby at_27) rfl rfl k) ?_
  show own_Fin p.tables e below _ (T5.setTop (mkF m 28 #[.val (.int p0), .val (.int (p0 &&& (7 : Int32))), .val (.ref b1), .val (.ref b4), .unset, .unset, .unset] [(.ref b4)]))
  obtain ⟨cq6, kq6, q6a, q6b, q6c⟩ := isOf hZ rfl Er5
  obtain ⟨_, _, ⟨T6, L6, k6, n6⟩, -, X6, ⟨Lc6, hQ6, l6, y6, z6⟩, st6⟩ := X5.virtualBack hx (y := (⟨"com/example/twinshelf/twinshelf/cli/ArgumentReader", "hasNext", "()Z"⟩ : MethodName)) (z := (⟨"com/example/twinshelf/twinshelf/cli/ArgumentReader", "hasNext", "()Z"⟩ : MethodName)) hown (mvT hZ (hw _ (List.mem_of_getElem? (i := 74) rfl))) (mvT hZ (hw _ (List.mem_of_getElem? (i := 75) rfl))) (notFace_of_selects (args := #[]) (mvT hZ (hw _ (List.mem_of_getElem? (i := 77) rfl)))) (mvT hZ (hw _ (List.mem_of_getElem? (i := 77) rfl))) (mvT hZ (hw _ (List.mem_of_getElem? (i := 76) rfl))) (by decide) (backOf (W := 0) (rm11 l Z a0 hw [] b4 b1 (p0 &&& (7 : Int32)) T5.heap n0 Z5 Ek5_0 Fk5_0 FA5 FN5) hZ (hw _ (List.mem_of_getElem? (i := 78) rfl)) (hw _ (List.mem_of_getElem? (i := 32) rfl)) (by decide) (by decide)) q6a q6c (g := (mkF m 28 #[.val (.int p0), .val (.int (p0 &&& (7 : Int32))), .val (.ref b1), .val (.ref b4), .unset, .unset, .unset] [(.ref b4)])) rfl (by rw [hml]; rfl) (Steps.refl _) (argsL := []) (rest := []) (lenOf pd___Z rfl) rfl (by show 2 * 0 + _ ≤ _; exact Nat.le_of_eq rfl) (hb hby at_28) (fun _ _ => ⟨rfl, rfl, (by decide : 11 + 0 ≤ _), (by decide : 85 + 0 ≤ _)⟩)
  dsimp only [Pt.U, Pt.locs, Pt.cells, Pt.slots] at X6 l6 y6 z6 st6 hQ6
  subst l6 y6 z6
  obtain ⟨rfl, N6q, e6⟩ := hQ6
  have N6 := Fr.app N5 N6q
  refine own_by (fun _ k => st6.trans k) ?_
  show own_Fin p.tables e below _ (T6.setTop (mkF m 31 #[.val (.int p0), .val (.int (p0 &&& (7 : Int32))), .val (.ref b1), .val (.ref b4), .unset, .unset, .unset] [(.int (f11 (p0 &&& (7 : Int32))))]))
  refine own_by (fun _ k => XS.istore X6.here hx rfl (hb hby at_31) rfl (l' := #[.val (.int p0), .val (.int (p0 &&& (7 : Int32))), .val (.ref b1), .val (.ref b4), .val (.int (f11 (p0 &&& (7 : Int32)))), .unset, .unset]) rfl k) ?_
  show own_Fin p.tables e below _ (T6.setTop (mkF m 33 #[.val (.int p0), .val (.int (p0 &&& (7 : Int32))), .val (.ref b1), .val (.ref b4), .val (.int (f11 (p0 &&& (7 : Int32)))), .unset, .unset] []))
  refine own_by (fun _ k => XS.aloadN X6.here hx rfl (hb hby at_33) rfl rfl k) ?_
  show own_Fin p.tables e below _ (T6.setTop (mkF m 34 #[.val (.int p0), .val (.int (p0 &&& (7 : Int32))), .val (.ref b1), .val (.ref b4), .val (.int (f11 (p0 &&& (7 : Int32)))), .unset, .unset] [(.ref b4)]))
  obtain ⟨cq7, kq7, q7a, q7b, q7c⟩ := isOf hZ e6 Er5
  obtain ⟨_, _, ⟨T7, L7, k7, n7⟩, -, X7, ⟨Lc7, hQ7, l7, y7, z7⟩, st7⟩ := X6.virtualBack hx (y := (⟨"com/example/twinshelf/twinshelf/cli/ArgumentReader", "hasNext", "()Z"⟩ : MethodName)) (z := (⟨"com/example/twinshelf/twinshelf/cli/ArgumentReader", "hasNext", "()Z"⟩ : MethodName)) hown (mvT hZ (hw _ (List.mem_of_getElem? (i := 74) rfl))) (mvT hZ (hw _ (List.mem_of_getElem? (i := 75) rfl))) (notFace_of_selects (args := #[]) (mvT hZ (hw _ (List.mem_of_getElem? (i := 77) rfl)))) (mvT hZ (hw _ (List.mem_of_getElem? (i := 77) rfl))) (mvT hZ (hw _ (List.mem_of_getElem? (i := 76) rfl))) (by decide) (backOf (W := 0) (rm11 l Z a0 hw [] b4 b1 (p0 &&& (7 : Int32)) T5.heap n0 Z5 Ek5_0 Fk5_0 FA5 FN5) hZ (hw _ (List.mem_of_getElem? (i := 78) rfl)) (hw _ (List.mem_of_getElem? (i := 32) rfl)) (by decide) (by decide)) q7a q7c (g := (mkF m 34 #[.val (.int p0), .val (.int (p0 &&& (7 : Int32))), .val (.ref b1), .val (.ref b4), .val (.int (f11 (p0 &&& (7 : Int32)))), .unset, .unset] [(.ref b4)])) rfl (by rw [hml]; rfl) (Steps.refl _) (argsL := []) (rest := []) (lenOf pd___Z rfl) rfl (by show 2 * 0 + _ ≤ _; exact Nat.le_of_eq rfl) (hb hby at_34) (fun _ _ => ⟨rfl, e6, (by decide : 11 + 0 ≤ _), (by decide : 85 + 0 ≤ _)⟩)
  dsimp only [Pt.U, Pt.locs, Pt.cells, Pt.slots] at X7 l7 y7 z7 st7 hQ7
  subst l7 y7 z7
  obtain ⟨rfl, N7q, e7⟩ := hQ7
  have N7 := Fr.app N6 N7q
  refine own_by (fun _ k => st7.trans k) ?_
  show own_Fin p.tables e below _ (T7.setTop (mkF m 37 #[.val (.int p0), .val (.int (p0 &&& (7 : Int32))), .val (.ref b1), .val (.ref b4), .val (.int (f11 (p0 &&& (7 : Int32)))), .unset, .unset] [(.int (f11 (p0 &&& (7 : Int32))))]))
  refine own_by (fun _ k => XS.istore X7.here hx rfl (hb hby at_37) rfl (l' := #[.val (.int p0), .val (.int (p0 &&& (7 : Int32))), .val (.ref b1), .val (.ref b4), .val (.int (f11 (p0 &&& (7 : Int32)))), .val (.int (f11 (p0 &&& (7 : Int32)))), .unset]) rfl k) ?_
  show own_Fin p.tables e below _ (T7.setTop (mkF m 39 #[.val (.int p0), .val (.int (p0 &&& (7 : Int32))), .val (.ref b1), .val (.ref b4), .val (.int (f11 (p0 &&& (7 : Int32)))), .val (.int (f11 (p0 &&& (7 : Int32)))), .unset] []))
  refine own_by (fun _ k => XS.iloadN X7.here hx rfl (hb hby at_39) rfl k) ?_
  show own_Fin p.tables e below _ (T7.setTop (mkF m 40 #[.val (.int p0), .val (.int (p0 &&& (7 : Int32))), .val (.ref b1), .val (.ref b4), .val (.int (f11 (p0 &&& (7 : Int32)))), .val (.int (f11 (p0 &&& (7 : Int32)))), .unset] [(.int (p0 &&& (7 : Int32)))]))
  by_cases hc8 : (0 : Int32) < (p0 &&& (7 : Int32))
  · refine own_by (fun _ k => XS.ifNo X7.here hx rfl (hb hby at_40) rfl ((if0 _ _).trans (tlt hc8).2.2.2) k) ?_
    show own_Fin p.tables e below _ (T7.setTop (mkF m 43 #[.val (.int p0), .val (.int (p0 &&& (7 : Int32))), .val (.ref b1), .val (.ref b4), .val (.int (f11 (p0 &&& (7 : Int32)))), .val (.int (f11 (p0 &&& (7 : Int32)))), .unset] []))
    refine own_by (fun _ k => XS.iconst X7.here hx rfl (hb hby at_43) k) ?_
    show own_Fin p.tables e below _ (T7.setTop (mkF m 44 #[.val (.int p0), .val (.int (p0 &&& (7 : Int32))), .val (.ref b1), .val (.ref b4), .val (.int (f11 (p0 &&& (7 : Int32)))), .val (.int (f11 (p0 &&& (7 : Int32)))), .unset] [(.int (1 : Int32))]))
    refine own_by (fun _ k => XS.goto X7.here hx rfl (pc0 := 44) (pc' := 48) rfl (hb hby at_44) (by decide) (by decide) k) ?_
    show own_Fin p.tables e below _ (T7.setTop (mkF m 48 #[.val (.int p0), .val (.int (p0 &&& (7 : Int32))), .val (.ref b1), .val (.ref b4), .val (.int (f11 (p0 &&& (7 : Int32)))), .val (.int (f11 (p0 &&& (7 : Int32)))), .unset] [(.int (1 : Int32))]))
    refine own_by (fun _ k => XS.istore X7.here hx rfl (hb hby at_48) rfl (l' := #[.val (.int p0), .val (.int (p0 &&& (7 : Int32))), .val (.ref b1), .val (.ref b4), .val (.int (f11 (p0 &&& (7 : Int32)))), .val (.int (f11 (p0 &&& (7 : Int32)))), .val (.int (1 : Int32))]) rfl k) ?_
    show own_Fin p.tables e below _ (T7.setTop (mkF m 50 #[.val (.int p0), .val (.int (p0 &&& (7 : Int32))), .val (.ref b1), .val (.ref b4), .val (.int (f11 (p0 &&& (7 : Int32)))), .val (.int (f11 (p0 &&& (7 : Int32)))), .val (.int (1 : Int32))] []))
    refine own_by (fun _ k => XS.iload X7.here hx rfl (hb hby at_50) rfl k) ?_
    show own_Fin p.tables e below _ (T7.setTop (mkF m 52 #[.val (.int p0), .val (.int (p0 &&& (7 : Int32))), .val (.ref b1), .val (.ref b4), .val (.int (f11 (p0 &&& (7 : Int32)))), .val (.int (f11 (p0 &&& (7 : Int32)))), .val (.int (1 : Int32))] [(.int (f11 (p0 &&& (7 : Int32))))]))
    refine own_by (fun _ k => XS.iload X7.here hx rfl (hb hby at_52) rfl k) ?_
    show own_Fin p.tables e below _ (T7.setTop (mkF m 54 #[.val (.int p0), .val (.int (p0 &&& (7 : Int32))), .val (.ref b1), .val (.ref b4), .val (.int (f11 (p0 &&& (7 : Int32)))), .val (.int (f11 (p0 &&& (7 : Int32)))), .val (.int (1 : Int32))] [(.int (1 : Int32)), (.int (f11 (p0 &&& (7 : Int32))))]))
    by_cases hc9 : (f11 (p0 &&& (7 : Int32))) = (1 : Int32)
    · refine own_by (fun _ k => XS.icmpNo X7.here hx rfl (hb hby at_54) rfl (teq hc9).2 k) ?_
      show own_Fin p.tables e below _ (T7.setTop (mkF m 57 #[.val (.int p0), .val (.int (p0 &&& (7 : Int32))), .val (.ref b1), .val (.ref b4), .val (.int (f11 (p0 &&& (7 : Int32)))), .val (.int (f11 (p0 &&& (7 : Int32)))), .val (.int (1 : Int32))] []))
      refine own_by (fun _ k => XS.iload X7.here hx rfl (hb hby at_57) rfl k) ?_
      show own_Fin p.tables e below _ (T7.setTop (mkF m 59 #[.val (.int p0), .val (.int (p0 &&& (7 : Int32))), .val (.ref b1), .val (.ref b4), .val (.int (f11 (p0 &&& (7 : Int32)))), .val (.int (f11 (p0 &&& (7 : Int32)))), .val (.int (1 : Int32))] [(.int (f11 (p0 &&& (7 : Int32))))]))
      refine own_by (fun _ k => XS.iload X7.here hx rfl (hb hby at_59) rfl k) ?_
      show own_Fin p.tables e below _ (T7.setTop (mkF m 61 #[.val (.int p0), .val (.int (p0 &&& (7 : Int32))), .val (.ref b1), .val (.ref b4), .val (.int (f11 (p0 &&& (7 : Int32)))), .val (.int (f11 (p0 &&& (7 : Int32)))), .val (.int (1 : Int32))] [(.int (1 : Int32)), (.int (f11 (p0 &&& (7 : Int32))))]))
      refine own_by (fun _ k => XS.icmpNo X7.here hx rfl (hb hby at_61) rfl (teq hc9).2 k) ?_
      show own_Fin p.tables e below _ (T7.setTop (mkF m 64 #[.val (.int p0), .val (.int (p0 &&& (7 : Int32))), .val (.ref b1), .val (.ref b4), .val (.int (f11 (p0 &&& (7 : Int32)))), .val (.int (f11 (p0 &&& (7 : Int32)))), .val (.int (1 : Int32))] []))
      refine own_by (fun _ k => XS.iconst X7.here hx rfl (hb hby at_64) k) ?_
      show own_Fin p.tables e below _ (T7.setTop (mkF m 65 #[.val (.int p0), .val (.int (p0 &&& (7 : Int32))), .val (.ref b1), .val (.ref b4), .val (.int (f11 (p0 &&& (7 : Int32)))), .val (.int (f11 (p0 &&& (7 : Int32)))), .val (.int (1 : Int32))] [(.int (1 : Int32))]))
      refine own_by (fun _ k => XS.goto X7.here hx rfl (pc0 := 65) (pc' := 69) rfl (hb hby at_65) (by decide) (by decide) k) ?_
      show own_Fin p.tables e below _ (T7.setTop (mkF m 69 #[.val (.int p0), .val (.int (p0 &&& (7 : Int32))), .val (.ref b1), .val (.ref b4), .val (.int (f11 (p0 &&& (7 : Int32)))), .val (.int (f11 (p0 &&& (7 : Int32)))), .val (.int (1 : Int32))] [(.int (1 : Int32))]))
      have ef : f0 p0 = (1 : Int32) := by unfold f0; rw [if_pos hc8, if_pos hc9]
      exact own_retN X7 hx (t := .boolean) Bd.returns hlk (by simp) (hb hby at_69) (by decide) (by decide) ⟨by rw [ef]; rfl, N7⟩
    · refine own_by (fun _ k => XS.icmpYes X7.here hx rfl (pc0 := 54) (pc' := 68) rfl (hb hby at_54) rfl (feq hc9).2 (by decide) (by decide) k) ?_
      show own_Fin p.tables e below _ (T7.setTop (mkF m 68 #[.val (.int p0), .val (.int (p0 &&& (7 : Int32))), .val (.ref b1), .val (.ref b4), .val (.int (f11 (p0 &&& (7 : Int32)))), .val (.int (f11 (p0 &&& (7 : Int32)))), .val (.int (1 : Int32))] []))
      refine own_by (fun _ k => XS.iconst X7.here hx rfl (hb hby at_68) k) ?_
      show own_Fin p.tables e below _ (T7.setTop (mkF m 69 #[.val (.int p0), .val (.int (p0 &&& (7 : Int32))), .val (.ref b1), .val (.ref b4), .val (.int (f11 (p0 &&& (7 : Int32)))), .val (.int (f11 (p0 &&& (7 : Int32)))), .val (.int (1 : Int32))] [(.int (0 : Int32))]))
      have ef : f0 p0 = (0 : Int32) := by unfold f0; rw [if_pos hc8, if_neg hc9]
      exact own_retN X7 hx (t := .boolean) Bd.returns hlk (by simp) (hb hby at_69) (by decide) (by decide) ⟨by rw [ef]; rfl, N7⟩
  · refine own_by (fun _ k => XS.ifYes X7.here hx rfl (pc0 := 40) (pc' := 47) rfl (hb hby at_40) rfl ((if0 _ _).trans (flt hc8).2.2.2) (by decide) (by decide) k) ?_
    show own_Fin p.tables e below _ (T7.setTop (mkF m 47 #[.val (.int p0), .val (.int (p0 &&& (7 : Int32))), .val (.ref b1), .val (.ref b4), .val (.int (f11 (p0 &&& (7 : Int32)))), .val (.int (f11 (p0 &&& (7 : Int32)))), .unset] []))
    refine own_by (fun _ k => XS.iconst X7.here hx rfl (hb hby at_47) k) ?_
    show own_Fin p.tables e below _ (T7.setTop (mkF m 48 #[.val (.int p0), .val (.int (p0 &&& (7 : Int32))), .val (.ref b1), .val (.ref b4), .val (.int (f11 (p0 &&& (7 : Int32)))), .val (.int (f11 (p0 &&& (7 : Int32)))), .unset] [(.int (0 : Int32))]))
    refine own_by (fun _ k => XS.istore X7.here hx rfl (hb hby at_48) rfl (l' := #[.val (.int p0), .val (.int (p0 &&& (7 : Int32))), .val (.ref b1), .val (.ref b4), .val (.int (f11 (p0 &&& (7 : Int32)))), .val (.int (f11 (p0 &&& (7 : Int32)))), .val (.int (0 : Int32))]) rfl k) ?_
    show own_Fin p.tables e below _ (T7.setTop (mkF m 50 #[.val (.int p0), .val (.int (p0 &&& (7 : Int32))), .val (.ref b1), .val (.ref b4), .val (.int (f11 (p0 &&& (7 : Int32)))), .val (.int (f11 (p0 &&& (7 : Int32)))), .val (.int (0 : Int32))] []))
    refine own_by (fun _ k => XS.iload X7.here hx rfl (hb hby at_50) rfl k) ?_
    show own_Fin p.tables e below _ (T7.setTop (mkF m 52 #[.val (.int p0), .val (.int (p0 &&& (7 : Int32))), .val (.ref b1), .val (.ref b4), .val (.int (f11 (p0 &&& (7 : Int32)))), .val (.int (f11 (p0 &&& (7 : Int32)))), .val (.int (0 : Int32))] [(.int (f11 (p0 &&& (7 : Int32))))]))
    refine own_by (fun _ k => XS.iload X7.here hx rfl (hb hby at_52) rfl k) ?_
    show own_Fin p.tables e below _ (T7.setTop (mkF m 54 #[.val (.int p0), .val (.int (p0 &&& (7 : Int32))), .val (.ref b1), .val (.ref b4), .val (.int (f11 (p0 &&& (7 : Int32)))), .val (.int (f11 (p0 &&& (7 : Int32)))), .val (.int (0 : Int32))] [(.int (0 : Int32)), (.int (f11 (p0 &&& (7 : Int32))))]))
    by_cases hc10 : (f11 (p0 &&& (7 : Int32))) = (0 : Int32)
    · refine own_by (fun _ k => XS.icmpNo X7.here hx rfl (hb hby at_54) rfl (teq hc10).2 k) ?_
      show own_Fin p.tables e below _ (T7.setTop (mkF m 57 #[.val (.int p0), .val (.int (p0 &&& (7 : Int32))), .val (.ref b1), .val (.ref b4), .val (.int (f11 (p0 &&& (7 : Int32)))), .val (.int (f11 (p0 &&& (7 : Int32)))), .val (.int (0 : Int32))] []))
      refine own_by (fun _ k => XS.iload X7.here hx rfl (hb hby at_57) rfl k) ?_
      show own_Fin p.tables e below _ (T7.setTop (mkF m 59 #[.val (.int p0), .val (.int (p0 &&& (7 : Int32))), .val (.ref b1), .val (.ref b4), .val (.int (f11 (p0 &&& (7 : Int32)))), .val (.int (f11 (p0 &&& (7 : Int32)))), .val (.int (0 : Int32))] [(.int (f11 (p0 &&& (7 : Int32))))]))
      refine own_by (fun _ k => XS.iload X7.here hx rfl (hb hby at_59) rfl k) ?_
      show own_Fin p.tables e below _ (T7.setTop (mkF m 61 #[.val (.int p0), .val (.int (p0 &&& (7 : Int32))), .val (.ref b1), .val (.ref b4), .val (.int (f11 (p0 &&& (7 : Int32)))), .val (.int (f11 (p0 &&& (7 : Int32)))), .val (.int (0 : Int32))] [(.int (0 : Int32)), (.int (f11 (p0 &&& (7 : Int32))))]))
      refine own_by (fun _ k => XS.icmpNo X7.here hx rfl (hb hby at_61) rfl (teq hc10).2 k) ?_
      show own_Fin p.tables e below _ (T7.setTop (mkF m 64 #[.val (.int p0), .val (.int (p0 &&& (7 : Int32))), .val (.ref b1), .val (.ref b4), .val (.int (f11 (p0 &&& (7 : Int32)))), .val (.int (f11 (p0 &&& (7 : Int32)))), .val (.int (0 : Int32))] []))
      refine own_by (fun _ k => XS.iconst X7.here hx rfl (hb hby at_64) k) ?_
      show own_Fin p.tables e below _ (T7.setTop (mkF m 65 #[.val (.int p0), .val (.int (p0 &&& (7 : Int32))), .val (.ref b1), .val (.ref b4), .val (.int (f11 (p0 &&& (7 : Int32)))), .val (.int (f11 (p0 &&& (7 : Int32)))), .val (.int (0 : Int32))] [(.int (1 : Int32))]))
      refine own_by (fun _ k => XS.goto X7.here hx rfl (pc0 := 65) (pc' := 69) rfl (hb hby at_65) (by decide) (by decide) k) ?_
      show own_Fin p.tables e below _ (T7.setTop (mkF m 69 #[.val (.int p0), .val (.int (p0 &&& (7 : Int32))), .val (.ref b1), .val (.ref b4), .val (.int (f11 (p0 &&& (7 : Int32)))), .val (.int (f11 (p0 &&& (7 : Int32)))), .val (.int (0 : Int32))] [(.int (1 : Int32))]))
      have ef : f0 p0 = (1 : Int32) := by unfold f0; rw [if_neg hc8, if_pos hc10]
      exact own_retN X7 hx (t := .boolean) Bd.returns hlk (by simp) (hb hby at_69) (by decide) (by decide) ⟨by rw [ef]; rfl, N7⟩
    · refine own_by (fun _ k => XS.icmpYes X7.here hx rfl (pc0 := 54) (pc' := 68) rfl (hb hby at_54) rfl (feq hc10).2 (by decide) (by decide) k) ?_
      show own_Fin p.tables e below _ (T7.setTop (mkF m 68 #[.val (.int p0), .val (.int (p0 &&& (7 : Int32))), .val (.ref b1), .val (.ref b4), .val (.int (f11 (p0 &&& (7 : Int32)))), .val (.int (f11 (p0 &&& (7 : Int32)))), .val (.int (0 : Int32))] []))
      refine own_by (fun _ k => XS.iconst X7.here hx rfl (hb hby at_68) k) ?_
      show own_Fin p.tables e below _ (T7.setTop (mkF m 69 #[.val (.int p0), .val (.int (p0 &&& (7 : Int32))), .val (.ref b1), .val (.ref b4), .val (.int (f11 (p0 &&& (7 : Int32)))), .val (.int (f11 (p0 &&& (7 : Int32)))), .val (.int (0 : Int32))] [(.int (0 : Int32))]))
      have ef : f0 p0 = (0 : Int32) := by unfold f0; rw [if_neg hc8, if_neg hc10]
      exact own_retN X7 hx (t := .boolean) Bd.returns hlk (by simp) (hb hby at_69) (by decide) (by decide) ⟨by rw [ef]; rfl, N7⟩
theorem own_law (p0 : Int32) : f0 p0 = 1 := by
  unfold f0
  generalize p0 &&& 7 = n
  have e11 : ∀ x, f11 x = if (0 : Int32) < x then (1 : Int32) else (0 : Int32) := fun _ => rfl
  rw [e11]
  by_cases h : (0 : Int32) < n
  · simp only [if_pos h]
    simp
  · simp only [if_neg h]
    simp
theorem own_objLen {s : State} {args : Array Value} {t : Term} {dd : Addr} {cd : Cell} (ed : t.eval args s none [] s = some (.ref dd)) (Ad : Arr s s.heap dd cd (.object "java/lang/Object")) (h : (Cond.eq (Term.length t) (Term.int 0)).value args s none s [] = some true) : own_Obj s s.heap dd 0 := by
  have fin := Ad.fin (State.Warmed39.refl s).alike
  refine ⟨cd, Ad, ?_, by decide⟩
  have z0 : ((0 : Int32)).toNatClampNeg = 0 := by decide
  rw [z0]
  by_cases hl : cd.slots.size < 2 ^ 31
  · have q := gotT (Cond.eq_ints (len_f ed fin hl) (Term.int_eval (0))) h
    have u := len_toInt hl
    rw [q, own_z] at u
    omega
  · exfalso
    simp [Cond.value, Term.eval, ed, fin, hl] at h
set_option maxRecDepth 65536 in
set_option maxHeartbeats 40000000 in
theorem comes_1 {Post : Tables → Env → Array Value → State → Outcome → State → Prop} (hpost : ∀ tb e args s v u, (limb_1_1.after args s (.returned v) u = true ∧ limb_1_2.after args s (.returned v) u = true ∧ True) → FrameEnd s (.returned v) u (Jvm.fieldLocs frame_1_writes args s ++ Jvm.arrayLocs frame_1_arrays args s ++ Jvm.staticLocs frame_1_statics s) 24 128 → Post tb e args s (.returned v) u) :
    ArmFor flags0 classFile x code maxLocals ret World_1 tables_1 room_1 Calls_1 rest_1 Pre_1 Post := by
  intro l hfl _ _ p e ha hc hk s m args below hf hA hF happ hP
  obtain ⟨hcalls, hrest, hpre⟩ := hP
  obtain ⟨-, -, -, hnamed, -, -, -, hat⟩ := (Spec.applies_iff hf).mp happ
  obtain ⟨hg, hn⟩ := and_e (Cond.before_iff.mp (show (Jvm.Cond.and given_1 narrow_1).before args s = true from hpre))
  obtain ⟨c0, r0⟩ := and_e hg
  obtain ⟨w0, rfl⟩ : ∃ w0 : Value, args = #[w0] := by
    have hs : args.size = 1 := by simpa [Cond.value, given_1] using c0
    obtain ⟨L⟩ := args
    match L, hs with
    | [w0], _ => exact ⟨w0, rfl⟩
  have hw := fun d (hd : d ∈ tables_1) => atoms_spec (ws := Jvm.Cond.code x code maxLocals ret :: tables_1) hat d (List.mem_cons_of_mem _ hd)
  obtain ⟨i0, ei0⟩ := is_v r0
  obtain rfl : w0 = (.int i0) := Option.some.inj ei0
  obtain ⟨hsets, hown0⟩ := atoms_of _ (rest_1_c_eq ▸ (show rest_1_c.before _ s = true from hrest))
  obtain ⟨dd, ed⟩ := arr_v (Cond.before_iff.mp (hsets _ (List.mem_of_getElem? (i := 6) rfl)))
  have S0 : Sta s s.heap "java/util/ArrayList" "DEFAULTCAPACITY_EMPTY_ELEMENTDATA" "[Ljava/lang/Object;" (.ref dd) := Sta.start ed (Or.inr ⟨(hw _ (List.mem_of_getElem? (i := 2) rfl)), hsets _ (List.mem_of_getElem? (i := 2) rfl)⟩)
  obtain ⟨cd, Ad⟩ := Arr.start ed (Cond.before_iff.mp (hsets _ (List.mem_of_getElem? (i := 6) rfl)))
  have O0 : own_Obj s s.heap dd 0 := own_objLen ed Ad (Cond.before_iff.mp (hsets _ (List.mem_of_getElem? (i := 8) rfl)))
  obtain ⟨n, o, h1, h2, h3, _, L, rfl, ⟨rfl, N⟩, hq⟩ := rm0 l s _ hw tables_1 i0 dd s.heap s.heap.size (Nat.le_refl _) S0 O0 p e ha hc hk s m _ below hf ((Spec.applies_iff_loose hf).mp happ).1 ⟨rfl, State.Warmed39.refl s, rfl⟩ trivial
  refine ⟨n, _, h1, h2, h3, hpost _ _ _ _ _ _ ⟨Cond.after_iff.mpr rfl, Cond.after_iff.mpr (eq_i res_at (Term.int_eval (1)) (congrArg Value.int (own_law i0))), trivial⟩ ⟨hq.1, hq.2.1, (hq.2.2.sift fun y hy => Or.inr (N y hy)).mono (by decide) (by decide)⟩⟩
theorem main_1_1 : Claimed_1_1 := comes_1 fun _ _ _ _ _ _ h hF => ⟨h.1, hF⟩
theorem main_1_2 : Claimed_1_2 := comes_1 fun _ _ _ _ _ _ h hF => ⟨h.2.1, hF⟩
end Jvm.Pilot.@@N@@
namespace Jvm.Pilot.@@N@@
open Jvm Jvm.ClassFile Sem Op Lib Jvm.Free Jvm.Stand Jvm.Pilot.@@N@@.Jvm.D
/-! MADE BY PROGRAM (witnessworld.py) out of the Statement's table words and the real class files: 25 classes; the members and pool entries that the words name. The judged class is class 1, her method 1. -/
namespace start1
open Jvm.ClassFile
def u (s : String) : CpInfo := .utf8 (stringToUtf16 s)
/-- a pool by its gaps: so many unusable entries, then the entry; so many at the end -/
def gap : Nat → List CpInfo → List CpInfo
  | 0, r => r
  | n + 1, r => .unusable :: gap n r
def poolList (es : List (Nat × CpInfo)) (last : Nat) : List CpInfo := es.foldr (fun e r => gap e.1 (e.2 :: r)) (gap last [])
def pool (es : List (Nat × CpInfo)) (last : Nat) : Array CpInfo := ⟨poolList es last⟩
def fileOf (pool : Array CpInfo) (this : Nat) (attrs : Array Attribute := #[]) (ms : Array MethodInfo := #[]) (fl : Nat := 33) (sup : Nat := 0) (ifs : Array Nat := #[]) (fds : Array FieldInfo := #[]) : ClassFile where
  minorVersion := 0
  majorVersion := 65
  constantPool := pool
  accessFlags := fl
  thisClass := this
  superClass := sup
  interfaces := ifs
  fields := fds
  methods := ms
  attributes := attrs
def plain (name : String) (sup : Option ClassId) : Class where
  name := name
  kind := .ordinary
  loader := none
  accessFlags := 33
  super := sup
  interfaces := #[]
  cf := none
  fields := #[]
  methods := #[]
  instanceTypes := #[]
  staticTypes := #[]
  resolved := #[]
  callSites := []
  init := .initialized
  statics := none
  mirror := none

def pool0 : Array CpInfo := pool [(5, u "<init>"), (0, u "()V"), (1, .class_ 10), (1, u "java/lang/Object")] 113

def k0c0 : Code := { maxStack := 0, maxLocals := 1, code := object_method_1_code, exceptionTable := #[], attributes := #[] }
def k0m0 : Method := { name := "<init>", desc := "()V", sig := { parameters := [], returnType := none }, accessFlags := 1, code := some k0c0 }
/-- java/lang/Object -/
def k0 : Class := { plain "java/lang/Object" none with
  accessFlags := 33
  interfaces := #[]
  cf := some (fileOf pool0 8 #[] #[{ accessFlags := 1, nameIndex := 5, descriptorIndex := 6, attributes := #[] }] 33 0 #[] #[])
  fields := #[]
  methods := #[k0m0]
  instanceTypes := #[]
  staticTypes := #[]
  resolved := Array.replicate 124 none
  statics := none }

def pool1 : Array CpInfo := pool [(2, .class_ 4), (0, .nameAndType 5 6), (0, u "java/lang/Object"), (0, u "<init>"), (0, u "()V"), (0, .class_ 8), (0, u "java/util/ArrayList"), (0, .methodref 7 3), (0, .methodref 11 12), (0, .class_ 13), (0, .nameAndType 14 15), (0, u "com/example/twinshelf/twinshelf/cli/ArgumentReaderHasNextPinLaw"), (0, u "fill"), (0, u "(Ljava/util/ArrayList;I)V"), (0, .class_ 17), (0, u "com/example/twinshelf/twinshelf/cli/ArgumentReader"), (0, .methodref 16 19), (0, .nameAndType 5 20), (0, u "(Ljava/util/List;)V"), (0, .methodref 16 22), (0, .nameAndType 23 24), (0, u "hasNext"), (0, u "()Z"), (0, .methodref 7 26), (0, .nameAndType 27 28), (0, u "add"), (0, u "(Ljava/lang/Object;)Z"), (2, u "law"), (0, u "(I)Z")] 5

def k1m0 : Method := { name := "<init>", desc := "()V", sig := { parameters := [], returnType := none }, accessFlags := 1, code := none }
def k1c1 : Code := { maxStack := 3, maxLocals := 7, code := code, exceptionTable := #[], attributes := #[] }
def k1m1 : Method := { name := "law", desc := "(I)Z", sig := { parameters := [.int], returnType := some .boolean }, accessFlags := 9, code := some k1c1 }
def k1c2 : Code := { maxStack := 2, maxLocals := 2, code := method_3_code, exceptionTable := #[], attributes := #[] }
def k1m2 : Method := { name := "fill", desc := "(Ljava/util/ArrayList;I)V", sig := { parameters := [(.object "java/util/ArrayList"), .int], returnType := none }, accessFlags := 10, code := some k1c2 }
/-- com/example/twinshelf/twinshelf/cli/ArgumentReaderHasNextPinLaw -/
def k1 : Class := { plain "com/example/twinshelf/twinshelf/cli/ArgumentReaderHasNextPinLaw" (some 0) with
  accessFlags := 49
  interfaces := #[]
  cf := some (fileOf pool1 11 #[] #[{ accessFlags := 1, nameIndex := 5, descriptorIndex := 6, attributes := #[] }, { accessFlags := 9, nameIndex := 31, descriptorIndex := 32, attributes := #[] }, { accessFlags := 10, nameIndex := 14, descriptorIndex := 15, attributes := #[] }] 49 2 #[] #[])
  fields := #[]
  methods := #[k1m0, k1m1, k1m2]
  instanceTypes := #[]
  staticTypes := #[]
  resolved := Array.replicate 38 none
  statics := none }

def pool2 : Array CpInfo := pool [(8, .class_ 10), (1, u "java/lang/Iterable"), (24, .class_ 36), (0, u "java/lang/Object")] 25

/-- java/lang/Iterable -/
def k2 : Class := { plain "java/lang/Iterable" (some 0) with
  accessFlags := 1537
  interfaces := #[]
  cf := some (fileOf pool2 8 #[] #[] 1537 35 #[] #[])
  fields := #[]
  methods := #[]
  instanceTypes := #[]
  staticTypes := #[]
  resolved := Array.replicate 62 none
  statics := none }

def pool3 : Array CpInfo := pool [(10, .class_ 12), (1, u "java/util/Collection"), (47, .class_ 61), (0, u "java/lang/Object"), (0, .class_ 63), (0, u "java/lang/Iterable")] 51

/-- java/util/Collection -/
def k3 : Class := { plain "java/util/Collection" (some 0) with
  accessFlags := 1537
  interfaces := #[2]
  cf := some (fileOf pool3 10 #[] #[] 1537 60 #[62] #[])
  fields := #[]
  methods := #[]
  instanceTypes := #[]
  staticTypes := #[]
  resolved := Array.replicate 115 none
  statics := none }

def pool4 : Array CpInfo := pool [(1, .methodref 2 3), (0, .class_ 4), (0, .nameAndType 5 6), (0, u "java/lang/Object"), (0, u "<init>"), (0, u "()V"), (1, .class_ 10), (1, u "java/util/AbstractCollection"), (66, .class_ 78), (0, u "java/util/Collection")] 81

def k4c0 : Code := { maxStack := 1, maxLocals := 1, code := jdk_22_method_1_code, exceptionTable := #[], attributes := #[] }
def k4m0 : Method := { name := "<init>", desc := "()V", sig := { parameters := [], returnType := none }, accessFlags := 4, code := some k4c0 }
/-- java/util/AbstractCollection -/
def k4 : Class := { plain "java/util/AbstractCollection" (some 0) with
  accessFlags := 1057
  interfaces := #[3]
  cf := some (fileOf pool4 8 #[] #[{ accessFlags := 4, nameIndex := 5, descriptorIndex := 6, attributes := #[] }] 1057 2 #[77] #[])
  fields := #[]
  methods := #[k4m0]
  instanceTypes := #[]
  staticTypes := #[]
  resolved := Array.replicate 160 none
  statics := none }

def pool5 : Array CpInfo := pool [(8, .class_ 10), (1, u "java/util/SequencedCollection"), (15, .class_ 27), (0, u "java/lang/Object"), (0, .class_ 29), (0, u "java/util/Collection")] 27

/-- java/util/SequencedCollection -/
def k5 : Class := { plain "java/util/SequencedCollection" (some 0) with
  accessFlags := 1537
  interfaces := #[3]
  cf := some (fileOf pool5 8 #[] #[] 1537 26 #[28] #[])
  fields := #[]
  methods := #[]
  instanceTypes := #[]
  staticTypes := #[]
  resolved := Array.replicate 57 none
  statics := none }

def pool6 : Array CpInfo := pool [(8, .class_ 10), (1, u "java/util/List"), (68, u "size"), (0, u "()I"), (22, .class_ 104), (0, u "java/lang/Object"), (15, .class_ 121), (0, u "java/util/SequencedCollection")] 129

def k6m0 : Method := { name := "size", desc := "()I", sig := { parameters := [], returnType := some .int }, accessFlags := 1025, code := none }
/-- java/util/List -/
def k6 : Class := { plain "java/util/List" (some 0) with
  accessFlags := 1537
  interfaces := #[5]
  cf := some (fileOf pool6 8 #[] #[{ accessFlags := 1025, nameIndex := 79, descriptorIndex := 80, attributes := #[] }] 1537 103 #[120] #[])
  fields := #[]
  methods := #[k6m0]
  instanceTypes := #[]
  staticTypes := #[]
  resolved := Array.replicate 251 none
  statics := none }

def pool7 : Array CpInfo := pool [(1, .methodref 2 3), (0, .class_ 4), (0, .nameAndType 5 6), (0, u "java/util/AbstractCollection"), (0, u "<init>"), (0, u "()V"), (0, .fieldref 8 9), (0, .class_ 10), (0, .nameAndType 11 12), (0, u "java/util/AbstractList"), (0, u "modCount"), (0, u "I"), (64, .class_ 78), (0, u "java/util/AbstractList$Itr"), (3, .class_ 83), (0, u "java/util/AbstractList$ListItr"), (9, .class_ 94), (0, u "java/util/AbstractList$RandomAccessSubList"), (3, .class_ 99), (0, u "java/util/AbstractList$SubList"), (33, .class_ 134), (0, u "java/util/List"), (73, .class_ 209), (0, u "java/util/AbstractList$SubList$1"), (0, .class_ 211), (0, u "java/util/AbstractList$RandomAccessSpliterator")] 6

def k7c0 : Code := { maxStack := 2, maxLocals := 1, code := jdk_39_method_1_code, exceptionTable := #[], attributes := #[] }
def k7m0 : Method := { name := "<init>", desc := "()V", sig := { parameters := [], returnType := none }, accessFlags := 4, code := some k7c0 }
/-- java/util/AbstractList -/
def k7 : Class := { plain "java/util/AbstractList" (some 4) with
  accessFlags := 1057
  interfaces := #[6]
  cf := some (fileOf pool7 8 #[.nestMembers #[93, 98, 208, 210, 82, 77]] #[{ accessFlags := 4, nameIndex := 5, descriptorIndex := 6, attributes := #[] }] 1057 2 #[133] #[{ accessFlags := 132, nameIndex := 11, descriptorIndex := 12, attributes := #[] }])
  fields := #[{ name := "modCount", type := .int, accessFlags := 132, slot := 0, constantValue := 0 }]
  methods := #[k7m0]
  instanceTypes := #[.int]
  staticTypes := #[]
  resolved := Array.replicate 218 none
  statics := none }

def pool8 : Array CpInfo := pool [(1, .class_ 2), (0, u "java/util/RandomAccess"), (0, .class_ 4), (0, u "java/lang/Object")] 2

/-- java/util/RandomAccess -/
def k8 : Class := { plain "java/util/RandomAccess" (some 0) with
  accessFlags := 1537
  interfaces := #[]
  cf := some (fileOf pool8 1 #[] #[] 1537 3 #[] #[])
  fields := #[]
  methods := #[]
  instanceTypes := #[]
  staticTypes := #[]
  resolved := Array.replicate 7 none
  statics := none }

def pool9 : Array CpInfo := pool [(1, .class_ 2), (0, u "java/lang/Cloneable"), (0, .class_ 4), (0, u "java/lang/Object")] 2

/-- java/lang/Cloneable -/
def k9 : Class := { plain "java/lang/Cloneable" (some 0) with
  accessFlags := 1537
  interfaces := #[]
  cf := some (fileOf pool9 1 #[] #[] 1537 3 #[] #[])
  fields := #[]
  methods := #[]
  instanceTypes := #[]
  staticTypes := #[]
  resolved := Array.replicate 7 none
  statics := none }

def pool10 : Array CpInfo := pool [(1, .class_ 2), (0, u "java/io/Serializable"), (0, .class_ 4), (0, u "java/lang/Object")] 2

/-- java/io/Serializable -/
def k10 : Class := { plain "java/io/Serializable" (some 0) with
  accessFlags := 1537
  interfaces := #[]
  cf := some (fileOf pool10 1 #[] #[] 1537 3 #[] #[])
  fields := #[]
  methods := #[]
  instanceTypes := #[]
  staticTypes := #[]
  resolved := Array.replicate 7 none
  statics := none }

def pool11 : Array CpInfo := pool [(1, .methodref 2 3), (0, .class_ 4), (0, .nameAndType 5 6), (0, u "java/util/AbstractList"), (0, u "<init>"), (0, u "()V"), (0, .class_ 8), (0, u "java/lang/Object"), (0, .fieldref 10 11), (0, .class_ 12), (0, .nameAndType 13 14), (0, u "java/util/ArrayList"), (0, u "elementData"), (0, u "[Ljava/lang/Object;"), (2, u "EMPTY_ELEMENTDATA"), (21, .fieldref 10 40), (0, .nameAndType 41 14), (0, u "DEFAULTCAPACITY_EMPTY_ELEMENTDATA"), (5, u "()[Ljava/lang/Object;"), (0, .fieldref 10 49), (0, .nameAndType 50 51), (0, u "size"), (0, u "I"), (11, .fieldref 10 64), (0, .nameAndType 65 51), (0, u "modCount"), (3, .methodref 10 70), (0, .nameAndType 71 72), (0, u "grow"), (0, u "(I)[Ljava/lang/Object;"), (6, .methodref 80 81), (0, .class_ 82), (0, .nameAndType 83 84), (0, u "java/lang/Math"), (0, u "max"), (0, u "(II)I"), (11, u "(Ljava/lang/Object;)Z"), (32, .methodref 10 130), (0, .nameAndType 71 47), (0, .methodref 10 132), (0, .nameAndType 133 134), (0, u "add"), (0, u "(Ljava/lang/Object;[Ljava/lang/Object;I)V"), (13, .class_ 149), (0, u "java/util/List"), (36, u "()I"), (75, .class_ 263), (0, u "java/util/ArrayList$ListItr"), (3, .class_ 268), (0, u "java/util/ArrayList$Itr"), (7, .class_ 277), (0, u "java/util/ArrayList$SubList"), (12, .class_ 291), (0, u "java/util/ArrayList$ArrayListSpliterator"), (37, .class_ 330), (0, u "java/util/RandomAccess"), (0, .class_ 332), (0, u "java/lang/Cloneable"), (0, .class_ 334), (0, u "java/io/Serializable"), (0, u "serialVersionUID"), (0, u "J"), (3, u "DEFAULT_CAPACITY"), (159, .class_ 501), (0, u "java/util/ArrayList$SubList$2"), (0, .class_ 503), (0, u "java/util/ArrayList$SubList$1")] 5

def k11c0 : Code := { maxStack := 2, maxLocals := 1, code := jdk_38_method_2_code, exceptionTable := #[], attributes := #[] }
def k11m0 : Method := { name := "<init>", desc := "()V", sig := { parameters := [], returnType := none }, accessFlags := 1, code := some k11c0 }
def k11c1 : Code := { maxStack := 4, maxLocals := 4, code := jdk_38_method_6_code, exceptionTable := #[], attributes := #[] }
def k11m1 : Method := { name := "grow", desc := "(I)[Ljava/lang/Object;", sig := { parameters := [.int], returnType := some (.array (.object "java/lang/Object")) }, accessFlags := 2, code := some k11c1 }
def k11c2 : Code := { maxStack := 3, maxLocals := 1, code := jdk_38_method_7_code, exceptionTable := #[], attributes := #[] }
def k11m2 : Method := { name := "grow", desc := "()[Ljava/lang/Object;", sig := { parameters := [], returnType := some (.array (.object "java/lang/Object")) }, accessFlags := 2, code := some k11c2 }
def k11c3 : Code := { maxStack := 1, maxLocals := 1, code := jdk_38_method_8_code, exceptionTable := #[], attributes := #[] }
def k11m3 : Method := { name := "size", desc := "()I", sig := { parameters := [], returnType := some .int }, accessFlags := 1, code := some k11c3 }
def k11c4 : Code := { maxStack := 3, maxLocals := 4, code := jdk_38_method_24_code, exceptionTable := #[], attributes := #[] }
def k11m4 : Method := { name := "add", desc := "(Ljava/lang/Object;[Ljava/lang/Object;I)V", sig := { parameters := [(.object "java/lang/Object"), (.array (.object "java/lang/Object")), .int], returnType := none }, accessFlags := 2, code := some k11c4 }
def k11c5 : Code := { maxStack := 4, maxLocals := 2, code := jdk_38_method_25_code, exceptionTable := #[], attributes := #[] }
def k11m5 : Method := { name := "add", desc := "(Ljava/lang/Object;)Z", sig := { parameters := [(.object "java/lang/Object")], returnType := some .boolean }, accessFlags := 1, code := some k11c5 }
/-- java/util/ArrayList -/
def k11 : Class := { plain "java/util/ArrayList" (some 7) with
  accessFlags := 33
  interfaces := #[6, 8, 9, 10]
  cf := some (fileOf pool11 10 #[.nestMembers #[290, 276, 500, 502, 262, 267]] #[{ accessFlags := 1, nameIndex := 5, descriptorIndex := 6, attributes := #[] }, { accessFlags := 2, nameIndex := 71, descriptorIndex := 72, attributes := #[] }, { accessFlags := 2, nameIndex := 71, descriptorIndex := 47, attributes := #[] }, { accessFlags := 1, nameIndex := 50, descriptorIndex := 186, attributes := #[] }, { accessFlags := 2, nameIndex := 133, descriptorIndex := 134, attributes := #[] }, { accessFlags := 1, nameIndex := 133, descriptorIndex := 96, attributes := #[] }] 33 2 #[148, 329, 331, 333] #[{ accessFlags := 26, nameIndex := 335, descriptorIndex := 336, attributes := #[] }, { accessFlags := 26, nameIndex := 340, descriptorIndex := 51, attributes := #[] }, { accessFlags := 26, nameIndex := 17, descriptorIndex := 14, attributes := #[] }, { accessFlags := 26, nameIndex := 41, descriptorIndex := 14, attributes := #[] }, { accessFlags := 128, nameIndex := 13, descriptorIndex := 14, attributes := #[] }, { accessFlags := 2, nameIndex := 50, descriptorIndex := 51, attributes := #[] }])
  fields := #[{ name := "serialVersionUID", type := .long, accessFlags := 26, slot := 0, constantValue := 0 }, { name := "DEFAULT_CAPACITY", type := .int, accessFlags := 26, slot := 1, constantValue := 0 }, { name := "EMPTY_ELEMENTDATA", type := (.array (.object "java/lang/Object")), accessFlags := 26, slot := 2, constantValue := 0 }, { name := "DEFAULTCAPACITY_EMPTY_ELEMENTDATA", type := (.array (.object "java/lang/Object")), accessFlags := 26, slot := 3, constantValue := 0 }, { name := "elementData", type := (.array (.object "java/lang/Object")), accessFlags := 128, slot := 1, constantValue := 0 }, { name := "size", type := .int, accessFlags := 2, slot := 2, constantValue := 0 }]
  methods := #[k11m0, k11m1, k11m2, k11m3, k11m4, k11m5]
  instanceTypes := #[.int, (.array (.object "java/lang/Object")), .int]
  staticTypes := #[.long, .int, (.array (.object "java/lang/Object")), (.array (.object "java/lang/Object"))]
  resolved := Array.replicate 509 none
  statics := some 0 }

def pool12 : Array CpInfo := pool [(1, .methodref 2 3), (0, .class_ 4), (0, .nameAndType 5 6), (0, u "java/lang/Object"), (0, u "<init>"), (0, u "()V"), (0, .class_ 8), (0, u "java/util/HashSet"), (0, .methodref 7 3), (0, .fieldref 11 12), (0, .class_ 13), (0, .nameAndType 14 15), (0, u "com/example/twinshelf/twinshelf/cli/ArgumentReader"), (0, u "given"), (0, u "Ljava/util/Set;"), (0, .fieldref 11 17), (0, .nameAndType 18 19), (0, u "args"), (0, u "Ljava/util/List;"), (0, .fieldref 11 21), (0, .nameAndType 22 23), (0, u "next"), (0, u "I"), (0, .interfaceMethodref 25 26), (0, .class_ 27), (0, .nameAndType 28 29), (0, u "java/util/List"), (0, u "size"), (0, u "()I"), (43, u "(Ljava/util/List;)V"), (3, u "hasNext"), (0, u "()Z")] 28

def k12c0 : Code := { maxStack := 3, maxLocals := 2, code := prog_2_method_1_code, exceptionTable := #[], attributes := #[] }
def k12m0 : Method := { name := "<init>", desc := "(Ljava/util/List;)V", sig := { parameters := [(.object "java/util/List")], returnType := none }, accessFlags := 0, code := some k12c0 }
def k12c1 : Code := { maxStack := 2, maxLocals := 1, code := prog_2_method_2_code, exceptionTable := #[], attributes := #[] }
def k12m1 : Method := { name := "hasNext", desc := "()Z", sig := { parameters := [], returnType := some .boolean }, accessFlags := 0, code := some k12c1 }
/-- com/example/twinshelf/twinshelf/cli/ArgumentReader -/
def k12 : Class := { plain "com/example/twinshelf/twinshelf/cli/ArgumentReader" (some 0) with
  accessFlags := 48
  interfaces := #[]
  cf := some (fileOf pool12 11 #[] #[{ accessFlags := 0, nameIndex := 5, descriptorIndex := 73, attributes := #[] }, { accessFlags := 0, nameIndex := 77, descriptorIndex := 78, attributes := #[] }] 48 2 #[] #[{ accessFlags := 18, nameIndex := 18, descriptorIndex := 19, attributes := #[] }, { accessFlags := 18, nameIndex := 14, descriptorIndex := 15, attributes := #[] }, { accessFlags := 2, nameIndex := 22, descriptorIndex := 23, attributes := #[] }])
  fields := #[{ name := "args", type := (.object "java/util/List"), accessFlags := 18, slot := 0, constantValue := 0 }, { name := "given", type := (.object "java/util/Set"), accessFlags := 18, slot := 1, constantValue := 0 }, { name := "next", type := .int, accessFlags := 2, slot := 2, constantValue := 0 }]
  methods := #[k12m0, k12m1]
  instanceTypes := #[(.object "java/util/List"), (.object "java/util/Set"), .int]
  staticTypes := #[]
  resolved := Array.replicate 107 none
  statics := none }

def pool13 : Array CpInfo := pool [(26, .class_ 27), (0, u "java/lang/Object"), (5, .class_ 34), (0, u "java/util/Set"), (1, .class_ 38), (1, u "java/util/Collection")] 105

/-- java/util/Set -/
def k13 : Class := { plain "java/util/Set" (some 0) with
  accessFlags := 1537
  interfaces := #[3]
  cf := some (fileOf pool13 33 #[] #[] 1537 26 #[36] #[])
  fields := #[]
  methods := #[]
  instanceTypes := #[]
  staticTypes := #[]
  resolved := Array.replicate 144 none
  statics := none }

def pool14 : Array CpInfo := pool [(1, .methodref 2 3), (0, .class_ 4), (0, .nameAndType 5 6), (0, u "java/util/AbstractCollection"), (0, u "<init>"), (0, u "()V"), (0, .class_ 8), (0, u "java/util/Set"), (7, .class_ 17), (0, u "java/util/AbstractSet")] 78

def k14c0 : Code := { maxStack := 1, maxLocals := 1, code := jdk_91_method_1_code, exceptionTable := #[], attributes := #[] }
def k14m0 : Method := { name := "<init>", desc := "()V", sig := { parameters := [], returnType := none }, accessFlags := 4, code := some k14c0 }
/-- java/util/AbstractSet -/
def k14 : Class := { plain "java/util/AbstractSet" (some 4) with
  accessFlags := 1057
  interfaces := #[13]
  cf := some (fileOf pool14 16 #[] #[{ accessFlags := 4, nameIndex := 5, descriptorIndex := 6, attributes := #[] }] 1057 2 #[7] #[])
  fields := #[]
  methods := #[k14m0]
  instanceTypes := #[]
  staticTypes := #[]
  resolved := Array.replicate 96 none
  statics := none }

def pool15 : Array CpInfo := pool [(1, .methodref 2 3), (0, .class_ 4), (0, .nameAndType 5 6), (0, u "java/util/AbstractSet"), (0, u "<init>"), (0, u "()V"), (0, .class_ 8), (0, u "java/util/HashMap"), (0, .methodref 7 3), (0, .fieldref 11 12), (0, .class_ 13), (0, .nameAndType 14 15), (0, u "java/util/HashSet"), (0, u "map"), (0, u "Ljava/util/HashMap;"), (34, .class_ 52), (1, u "java/util/Set"), (13, u "PRESENT"), (0, u "Ljava/lang/Object;"), (158, .class_ 227), (0, u "java/lang/Cloneable"), (0, .class_ 229), (0, u "java/io/Serializable"), (0, u "serialVersionUID"), (0, u "J")] 71

def k15c0 : Code := { maxStack := 3, maxLocals := 1, code := jdk_93_method_1_code, exceptionTable := #[], attributes := #[] }
def k15m0 : Method := { name := "<init>", desc := "()V", sig := { parameters := [], returnType := none }, accessFlags := 1, code := some k15c0 }
/-- java/util/HashSet -/
def k15 : Class := { plain "java/util/HashSet" (some 14) with
  accessFlags := 33
  interfaces := #[13, 9, 10]
  cf := some (fileOf pool15 11 #[] #[{ accessFlags := 1, nameIndex := 5, descriptorIndex := 6, attributes := #[] }] 33 2 #[50, 226, 228] #[{ accessFlags := 24, nameIndex := 230, descriptorIndex := 231, attributes := #[] }, { accessFlags := 128, nameIndex := 14, descriptorIndex := 15, attributes := #[] }, { accessFlags := 24, nameIndex := 66, descriptorIndex := 67, attributes := #[] }])
  fields := #[{ name := "serialVersionUID", type := .long, accessFlags := 24, slot := 0, constantValue := 0 }, { name := "map", type := (.object "java/util/HashMap"), accessFlags := 128, slot := 0, constantValue := 0 }, { name := "PRESENT", type := (.object "java/lang/Object"), accessFlags := 24, slot := 1, constantValue := 0 }]
  methods := #[k15m0]
  instanceTypes := #[(.object "java/util/HashMap")]
  staticTypes := #[.long, (.object "java/lang/Object")]
  resolved := Array.replicate 303 none
  statics := none }

def pool16 : Array CpInfo := pool [(2, .class_ 4), (1, u "java/util/Map"), (31, .class_ 37), (0, u "java/util/Map$Entry"), (55, .class_ 94), (0, u "java/lang/Object")] 168

/-- java/util/Map -/
def k16 : Class := { plain "java/util/Map" (some 0) with
  accessFlags := 1537
  interfaces := #[]
  cf := some (fileOf pool16 2 #[.nestMembers #[36]] #[] 1537 93 #[] #[])
  fields := #[]
  methods := #[]
  instanceTypes := #[]
  staticTypes := #[]
  resolved := Array.replicate 263 none
  statics := none }

def pool17 : Array CpInfo := pool [(1, .methodref 2 3), (0, .class_ 4), (0, .nameAndType 5 6), (0, u "java/lang/Object"), (0, u "<init>"), (0, u "()V"), (1, .class_ 10), (1, u "java/util/AbstractMap"), (42, .class_ 54), (0, u "java/util/Map"), (9, u "keySet"), (0, u "Ljava/util/Set;"), (0, .class_ 67), (0, u "java/util/AbstractMap$1"), (5, u "values"), (0, u "Ljava/util/Collection;"), (0, .class_ 76), (0, u "java/util/AbstractMap$2"), (104, .class_ 182), (0, u "java/util/AbstractMap$ViewCollection"), (0, .class_ 184), (0, u "java/util/AbstractMap$SimpleImmutableEntry"), (0, .class_ 186), (0, u "java/util/AbstractMap$SimpleEntry"), (0, .class_ 188), (0, u "java/util/AbstractMap$2$1"), (0, .class_ 190), (0, u "java/util/AbstractMap$1$1")] 5

def k17c0 : Code := { maxStack := 1, maxLocals := 1, code := jdk_71_method_1_code, exceptionTable := #[], attributes := #[] }
def k17m0 : Method := { name := "<init>", desc := "()V", sig := { parameters := [], returnType := none }, accessFlags := 4, code := some k17c0 }
/-- java/util/AbstractMap -/
def k17 : Class := { plain "java/util/AbstractMap" (some 0) with
  accessFlags := 1057
  interfaces := #[16]
  cf := some (fileOf pool17 8 #[.nestMembers #[181, 183, 185, 75, 187, 66, 189]] #[{ accessFlags := 4, nameIndex := 5, descriptorIndex := 6, attributes := #[] }] 1057 2 #[53] #[{ accessFlags := 128, nameIndex := 64, descriptorIndex := 65, attributes := #[] }, { accessFlags := 128, nameIndex := 73, descriptorIndex := 74, attributes := #[] }])
  fields := #[{ name := "keySet", type := (.object "java/util/Set"), accessFlags := 128, slot := 0, constantValue := 0 }, { name := "values", type := (.object "java/util/Collection"), accessFlags := 128, slot := 1, constantValue := 0 }]
  methods := #[k17m0]
  instanceTypes := #[(.object "java/util/Set"), (.object "java/util/Collection")]
  staticTypes := #[]
  resolved := Array.replicate 196 none
  statics := none }

def pool18 : Array CpInfo := pool [(40, .class_ 41), (0, u "java/util/HashMap"), (1, .methodref 44 45), (0, .class_ 46), (0, .nameAndType 47 48), (0, u "java/util/AbstractMap"), (0, u "<init>"), (0, u "()V"), (32, .fieldref 40 82), (0, .nameAndType 83 84), (0, u "loadFactor"), (0, u "F"), (5, u "threshold"), (0, u "I"), (0, .float 1061158912), (8, .class_ 103), (1, u "java/util/Map"), (0, u "size"), (2, u "table"), (0, u "[Ljava/util/HashMap$Node;"), (14, u "entrySet"), (39, .class_ 165), (1, u "java/util/HashMap$Node"), (14, .class_ 181), (0, u "java/util/HashMap$TreeNode"), (22, u "modCount"), (37, u "Ljava/util/Set;"), (0, .class_ 244), (0, u "java/util/HashMap$KeySet"), (18, .class_ 264), (0, u "java/util/HashMap$Values"), (3, .class_ 269), (0, u "java/util/HashMap$EntrySet"), (76, .class_ 348), (1, u "java/util/HashMap$UnsafeHolder"), (43, .class_ 393), (0, u "java/lang/Cloneable"), (0, .class_ 395), (0, u "java/io/Serializable"), (0, u "serialVersionUID"), (0, u "J"), (3, u "DEFAULT_INITIAL_CAPACITY"), (1, u "MAXIMUM_CAPACITY"), (0, u "DEFAULT_LOAD_FACTOR"), (0, u "TREEIFY_THRESHOLD"), (1, u "UNTREEIFY_THRESHOLD"), (1, u "MIN_TREEIFY_CAPACITY"), (186, .class_ 597), (0, u "java/util/HashMap$EntrySpliterator"), (0, .class_ 599), (0, u "java/util/HashMap$ValueSpliterator"), (0, .class_ 601), (0, u "java/util/HashMap$KeySpliterator"), (0, .class_ 603), (0, u "java/util/HashMap$HashMapSpliterator"), (0, .class_ 605), (0, u "java/util/HashMap$EntryIterator"), (0, .class_ 607), (0, u "java/util/HashMap$ValueIterator"), (0, .class_ 609), (0, u "java/util/HashMap$KeyIterator"), (0, .class_ 611), (0, u "java/util/HashMap$HashIterator")] 17

def k18c0 : Code := { maxStack := 2, maxLocals := 1, code := jdk_69_method_7_code, exceptionTable := #[], attributes := #[] }
def k18m0 : Method := { name := "<init>", desc := "()V", sig := { parameters := [], returnType := none }, accessFlags := 1, code := some k18c0 }
/-- java/util/HashMap -/
def k18 : Class := { plain "java/util/HashMap" (some 17) with
  accessFlags := 33
  interfaces := #[16, 9, 10]
  cf := some (fileOf pool18 40 #[.nestMembers #[180, 596, 598, 600, 602, 604, 606, 608, 610, 346, 268, 263, 243, 163]] #[{ accessFlags := 1, nameIndex := 47, descriptorIndex := 48, attributes := #[] }] 33 44 #[101, 392, 394] #[{ accessFlags := 26, nameIndex := 396, descriptorIndex := 397, attributes := #[] }, { accessFlags := 24, nameIndex := 401, descriptorIndex := 91, attributes := #[] }, { accessFlags := 24, nameIndex := 403, descriptorIndex := 91, attributes := #[] }, { accessFlags := 24, nameIndex := 404, descriptorIndex := 84, attributes := #[] }, { accessFlags := 24, nameIndex := 405, descriptorIndex := 91, attributes := #[] }, { accessFlags := 24, nameIndex := 407, descriptorIndex := 91, attributes := #[] }, { accessFlags := 24, nameIndex := 409, descriptorIndex := 91, attributes := #[] }, { accessFlags := 128, nameIndex := 107, descriptorIndex := 108, attributes := #[] }, { accessFlags := 128, nameIndex := 123, descriptorIndex := 242, attributes := #[] }, { accessFlags := 128, nameIndex := 104, descriptorIndex := 91, attributes := #[] }, { accessFlags := 128, nameIndex := 204, descriptorIndex := 91, attributes := #[] }, { accessFlags := 0, nameIndex := 90, descriptorIndex := 91, attributes := #[] }, { accessFlags := 16, nameIndex := 83, descriptorIndex := 84, attributes := #[] }])
  fields := #[{ name := "serialVersionUID", type := .long, accessFlags := 26, slot := 0, constantValue := 0 }, { name := "DEFAULT_INITIAL_CAPACITY", type := .int, accessFlags := 24, slot := 1, constantValue := 0 }, { name := "MAXIMUM_CAPACITY", type := .int, accessFlags := 24, slot := 2, constantValue := 0 }, { name := "DEFAULT_LOAD_FACTOR", type := .float, accessFlags := 24, slot := 3, constantValue := 0 }, { name := "TREEIFY_THRESHOLD", type := .int, accessFlags := 24, slot := 4, constantValue := 0 }, { name := "UNTREEIFY_THRESHOLD", type := .int, accessFlags := 24, slot := 5, constantValue := 0 }, { name := "MIN_TREEIFY_CAPACITY", type := .int, accessFlags := 24, slot := 6, constantValue := 0 }, { name := "table", type := (.array (.object "java/util/HashMap$Node")), accessFlags := 128, slot := 2, constantValue := 0 }, { name := "entrySet", type := (.object "java/util/Set"), accessFlags := 128, slot := 3, constantValue := 0 }, { name := "size", type := .int, accessFlags := 128, slot := 4, constantValue := 0 }, { name := "modCount", type := .int, accessFlags := 128, slot := 5, constantValue := 0 }, { name := "threshold", type := .int, accessFlags := 0, slot := 6, constantValue := 0 }, { name := "loadFactor", type := .float, accessFlags := 16, slot := 7, constantValue := 0 }]
  methods := #[k18m0]
  instanceTypes := #[(.object "java/util/Set"), (.object "java/util/Collection"), (.array (.object "java/util/HashMap$Node")), (.object "java/util/Set"), .int, .int, .int, .float]
  staticTypes := #[.long, .int, .int, .float, .int, .int, .int]
  resolved := Array.replicate 629 none
  statics := none }

def pool19 : Array CpInfo := pool [(1, .class_ 2), (0, u "java/lang/Math"), (1, .class_ 6), (1, u "java/lang/Object"), (0, u "<init>"), (0, u "()V"), (89, .class_ 100), (1, u "java/lang/Math$RandomNumberGeneratorHolder"), (71, u "negativeZeroFloatBits"), (0, u "J"), (2, u "negativeZeroDoubleBits"), (21, u "max"), (46, u "$assertionsDisabled"), (0, u "Z"), (88, u "(II)I"), (2, u "twoToTheDoubleScaleDown"), (0, u "D"), (4, u "twoToTheDoubleScaleUp"), (9, u "E"), (3, u "PI"), (2, u "TAU"), (2, u "DEGREES_TO_RADIANS"), (0, u "RADIANS_TO_DEGREES")] 94

def k19m0 : Method := { name := "<init>", desc := "()V", sig := { parameters := [], returnType := none }, accessFlags := 2, code := none }
def k19c1 : Code := { maxStack := 2, maxLocals := 2, code := jdk_29_method_65_code, exceptionTable := #[], attributes := #[] }
def k19m1 : Method := { name := "max", desc := "(II)I", sig := { parameters := [.int, .int], returnType := some .int }, accessFlags := 9, code := some k19c1 }
/-- java/lang/Math -/
def k19 : Class := { plain "java/lang/Math" (some 0) with
  accessFlags := 49
  interfaces := #[]
  cf := some (fileOf pool19 1 #[.nestMembers #[98]] #[{ accessFlags := 2, nameIndex := 7, descriptorIndex := 8, attributes := #[] }, { accessFlags := 9, nameIndex := 198, descriptorIndex := 335, attributes := #[] }] 49 4 #[] #[{ accessFlags := 25, nameIndex := 354, descriptorIndex := 339, attributes := #[] }, { accessFlags := 25, nameIndex := 358, descriptorIndex := 339, attributes := #[] }, { accessFlags := 25, nameIndex := 361, descriptorIndex := 339, attributes := #[] }, { accessFlags := 26, nameIndex := 364, descriptorIndex := 339, attributes := #[] }, { accessFlags := 26, nameIndex := 365, descriptorIndex := 339, attributes := #[] }, { accessFlags := 26, nameIndex := 172, descriptorIndex := 173, attributes := #[] }, { accessFlags := 26, nameIndex := 176, descriptorIndex := 173, attributes := #[] }, { accessFlags := 8, nameIndex := 344, descriptorIndex := 339, attributes := #[] }, { accessFlags := 8, nameIndex := 338, descriptorIndex := 339, attributes := #[] }, { accessFlags := 4120, nameIndex := 245, descriptorIndex := 246, attributes := #[] }])
  fields := #[{ name := "E", type := .double, accessFlags := 25, slot := 0, constantValue := 0 }, { name := "PI", type := .double, accessFlags := 25, slot := 1, constantValue := 0 }, { name := "TAU", type := .double, accessFlags := 25, slot := 2, constantValue := 0 }, { name := "DEGREES_TO_RADIANS", type := .double, accessFlags := 26, slot := 3, constantValue := 0 }, { name := "RADIANS_TO_DEGREES", type := .double, accessFlags := 26, slot := 4, constantValue := 0 }, { name := "negativeZeroFloatBits", type := .long, accessFlags := 26, slot := 5, constantValue := 0 }, { name := "negativeZeroDoubleBits", type := .long, accessFlags := 26, slot := 6, constantValue := 0 }, { name := "twoToTheDoubleScaleUp", type := .double, accessFlags := 8, slot := 7, constantValue := 0 }, { name := "twoToTheDoubleScaleDown", type := .double, accessFlags := 8, slot := 8, constantValue := 0 }, { name := "$assertionsDisabled", type := .boolean, accessFlags := 4120, slot := 9, constantValue := 0 }]
  methods := #[k19m0, k19m1]
  instanceTypes := #[]
  staticTypes := #[.double, .double, .double, .double, .double, .long, .long, .double, .double, .boolean]
  resolved := Array.replicate 460 none
  statics := none }

/-- the primitive byte -/
def k20 : Class := { plain "byte" none with kind := .primitive 'B', accessFlags := 0x411 }
/-- [B -/
def k21 : Class := { plain "[B" (some 0) with kind := .array 20 .byte, interfaces := #[9, 10], accessFlags := 1041 }

/-- the primitive int -/
def k22 : Class := { plain "int" none with kind := .primitive 'I', accessFlags := 0x411 }
/-- [I -/
def k23 : Class := { plain "[I" (some 0) with kind := .array 22 .int, interfaces := #[9, 10], accessFlags := 1041 }

/-- [Ljava/lang/Object; -/
def k24 : Class := { plain "[Ljava/lang/Object;" (some 0) with kind := .array 0 (.object "java/lang/Object"), interfaces := #[9, 10], accessFlags := 1041 }

def heap : Heap := #[{ cls := 11, slots := #[.long 0, .int 0, .ref 1, .ref 2], vm := .statics 11 },
  { cls := 24, slots := #[], vm := .none },
  { cls := 24, slots := #[], vm := .none }]
def classes : Array Class := #[k0, k1, k2, k3, k4, k5, k6, k7, k8, k9, k10, k11, k12, k13, k14, k15, k16, k17, k18, k19, k20, k21, k22, k23, k24]
def interned : List (Array UInt16 × Addr) := []
def slotsUsed : Nat := 4
def theMethod : MethodId := ⟨1, 1⟩
def args0 : Array Value := #[.int 5]
def aboutOver (below : List Frame) : State where
  vm := { classes := classes, interned := interned.toArray }
  heap := heap
  slotsUsed := slotsUsed
  threads := #[{ frames := .invoking theMethod args0 :: below }]
def below0 : List Frame := [.native { method := ⟨0, 0⟩, args := #[] }]
def about1 : State := aboutOver below0
def p0 : Program := .bare "" "" ""
def e0 : Env := launch0.env 0 0 0
theorem w_frames : about1.frames = Frame.invoking theMethod args0 :: below0 := rfl
set_option maxRecDepth 65536 in
theorem w_args : argsFit about1.vm theMethod args0 = true := by decide +kernel
set_option maxRecDepth 65536 in
theorem w_heap : heapFits about1 = true := by decide +kernel
set_option maxRecDepth 65536 in
theorem w_runnable : about1.curStatus? = some .runnable := by decide +kernel
set_option maxRecDepth 65536 in
theorem w_alone : about1.alone = true := by decide +kernel
set_option maxRecDepth 65536 in
theorem w_named : about1.methodNamed? x = some theMethod := by decide +kernel
set_option maxRecDepth 65536 in
theorem w_hears : about1.hears theMethod below0 = true := by decide +kernel
set_option maxRecDepth 65536 in
theorem w_ripe : about1.ripe theMethod args0 below0 = true := by decide +kernel
theorem w_running : about1.status = .running := rfl
set_option maxRecDepth 65536 in
theorem w_room : about1.hasRoom e0.platform room_1 = true :=
  launch0.hasRoom_least _ room_1 (by decide +kernel) (by decide +kernel) (by decide +kernel) (by decide +kernel) (by decide +kernel) (by decide +kernel)
theorem allAtoms_all (ts : List Jvm.Cond) (a : Array Jvm.Value) (st : Jvm.State) : (allAtoms ts).before a st = ts.all (fun c => c.before a st) := by
  induction ts with
  | nil => rfl
  | cons c t ih =>
    show (Jvm.Cond.and c (allAtoms t)).before a st = _
    rw [Jvm.Cond.before_and, ih, List.all_cons]
def words1 : List Jvm.Cond := Jvm.Cond.code x code maxLocals ret :: tables_1
/-- a 'code' word, met by the world's own term for the bytes: nothing is compared byte by byte -/
theorem code_word {y : MethodName} {bytes : ByteArray} {mx : Nat} {rt : Option FieldType} {a : Array Value} {s : State} {m : MethodId} {meth : Method} {c : Code} (h1 : s.methodNamed? y = some m) (h2 : s.vm.method? m = some meth) (h3 : meth.code = some c) (h4 : c.code = bytes)
    (h5 : (c.maxLocals == mx && c.exceptionTable.isEmpty && decide (c.maxStack ≤ mostOperands) && decide (meth.sig.returnType = rt) && !meth.locks && decide (parseMethodDescriptor y.desc = some meth.sig)) = true) : (Jvm.Cond.code y bytes mx rt).before a s = true := by
  simp only [Bool.and_eq_true, beq_iff_eq, Bool.not_eq_true', decide_eq_true_eq] at h5
  obtain ⟨⟨⟨⟨⟨g1, g2⟩, g3⟩, g4⟩, g5⟩, g6⟩ := h5
  simp [Cond.before, Cond.holds, Cond.value, h1, h2, h3, h4, g1, g2, g3, g4, g5, g6]
def isCode : Jvm.Cond → Bool
  | .code _ _ _ _ => true
  | _ => false
theorem all_split {L : List Jvm.Cond} {P : Jvm.Cond → Bool} (h1 : L.all (fun c => isCode c || P c) = true) (h2 : ∀ c ∈ L.filter isCode, P c = true) : L.all P = true := by
  refine List.all_eq_true.mpr fun c hc => ?_
  have h := List.all_eq_true.mp h1 c hc
  rcases Bool.eq_false_or_eq_true (isCode c) with hi | hi
  · exact h2 c (List.mem_filter.mpr ⟨hc, hi⟩)
  · simpa [hi] using h
set_option maxRecDepth 65536 in
theorem w_c0 : (Jvm.Cond.code x code maxLocals ret).before args0 about1 = true := code_word (m := ⟨1, 1⟩) (meth := k1m1) (c := k1c1) (by decide +kernel) rfl rfl rfl (by decide +kernel)
set_option maxRecDepth 65536 in
theorem w_c1 : (Jvm.Cond.code ({ cls := "java/util/ArrayList", name := "<init>", desc := "()V" } : Jvm.MethodName) jdk_38_method_2_code (1 : Nat) (Option.none : Option Jvm.ClassFile.FieldType)).before args0 about1 = true := code_word (m := ⟨11, 0⟩) (meth := k11m0) (c := k11c0) (by decide +kernel) rfl rfl rfl (by decide +kernel)
set_option maxRecDepth 65536 in
theorem w_c2 : (Jvm.Cond.code ({ cls := "java/util/AbstractList", name := "<init>", desc := "()V" } : Jvm.MethodName) jdk_39_method_1_code (1 : Nat) (Option.none : Option Jvm.ClassFile.FieldType)).before args0 about1 = true := code_word (m := ⟨7, 0⟩) (meth := k7m0) (c := k7c0) (by decide +kernel) rfl rfl rfl (by decide +kernel)
set_option maxRecDepth 65536 in
theorem w_c3 : (Jvm.Cond.code ({ cls := "java/util/AbstractCollection", name := "<init>", desc := "()V" } : Jvm.MethodName) jdk_22_method_1_code (1 : Nat) (Option.none : Option Jvm.ClassFile.FieldType)).before args0 about1 = true := code_word (m := ⟨4, 0⟩) (meth := k4m0) (c := k4c0) (by decide +kernel) rfl rfl rfl (by decide +kernel)
set_option maxRecDepth 65536 in
theorem w_c4 : (Jvm.Cond.code ({ cls := "java/lang/Object", name := "<init>", desc := "()V" } : Jvm.MethodName) object_method_1_code (1 : Nat) (Option.none : Option Jvm.ClassFile.FieldType)).before args0 about1 = true := code_word (m := ⟨0, 0⟩) (meth := k0m0) (c := k0c0) (by decide +kernel) rfl rfl rfl (by decide +kernel)
set_option maxRecDepth 65536 in
theorem w_c5 : (Jvm.Cond.code ({ cls := "com/example/twinshelf/twinshelf/cli/ArgumentReaderHasNextPinLaw", name := "fill", desc := "(Ljava/util/ArrayList;I)V" } : Jvm.MethodName) method_3_code (2 : Nat) (Option.none : Option Jvm.ClassFile.FieldType)).before args0 about1 = true := code_word (m := ⟨1, 2⟩) (meth := k1m2) (c := k1c2) (by decide +kernel) rfl rfl rfl (by decide +kernel)
set_option maxRecDepth 65536 in
theorem w_c6 : (Jvm.Cond.code ({ cls := "com/example/twinshelf/twinshelf/cli/ArgumentReader", name := "<init>", desc := "(Ljava/util/List;)V" } : Jvm.MethodName) prog_2_method_1_code (2 : Nat) (Option.none : Option Jvm.ClassFile.FieldType)).before args0 about1 = true := code_word (m := ⟨12, 0⟩) (meth := k12m0) (c := k12c0) (by decide +kernel) rfl rfl rfl (by decide +kernel)
set_option maxRecDepth 65536 in
theorem w_c7 : (Jvm.Cond.code ({ cls := "java/util/HashSet", name := "<init>", desc := "()V" } : Jvm.MethodName) jdk_93_method_1_code (1 : Nat) (Option.none : Option Jvm.ClassFile.FieldType)).before args0 about1 = true := code_word (m := ⟨15, 0⟩) (meth := k15m0) (c := k15c0) (by decide +kernel) rfl rfl rfl (by decide +kernel)
set_option maxRecDepth 65536 in
theorem w_c8 : (Jvm.Cond.code ({ cls := "java/util/AbstractSet", name := "<init>", desc := "()V" } : Jvm.MethodName) jdk_91_method_1_code (1 : Nat) (Option.none : Option Jvm.ClassFile.FieldType)).before args0 about1 = true := code_word (m := ⟨14, 0⟩) (meth := k14m0) (c := k14c0) (by decide +kernel) rfl rfl rfl (by decide +kernel)
set_option maxRecDepth 65536 in
theorem w_c9 : (Jvm.Cond.code ({ cls := "java/util/HashMap", name := "<init>", desc := "()V" } : Jvm.MethodName) jdk_69_method_7_code (1 : Nat) (Option.none : Option Jvm.ClassFile.FieldType)).before args0 about1 = true := code_word (m := ⟨18, 0⟩) (meth := k18m0) (c := k18c0) (by decide +kernel) rfl rfl rfl (by decide +kernel)
set_option maxRecDepth 65536 in
theorem w_c10 : (Jvm.Cond.code ({ cls := "java/util/AbstractMap", name := "<init>", desc := "()V" } : Jvm.MethodName) jdk_71_method_1_code (1 : Nat) (Option.none : Option Jvm.ClassFile.FieldType)).before args0 about1 = true := code_word (m := ⟨17, 0⟩) (meth := k17m0) (c := k17c0) (by decide +kernel) rfl rfl rfl (by decide +kernel)
set_option maxRecDepth 65536 in
theorem w_c11 : (Jvm.Cond.code ({ cls := "com/example/twinshelf/twinshelf/cli/ArgumentReader", name := "hasNext", desc := "()Z" } : Jvm.MethodName) prog_2_method_2_code (1 : Nat) (Option.some Jvm.ClassFile.FieldType.boolean)).before args0 about1 = true := code_word (m := ⟨12, 1⟩) (meth := k12m1) (c := k12c1) (by decide +kernel) rfl rfl rfl (by decide +kernel)
set_option maxRecDepth 65536 in
theorem w_c12 : (Jvm.Cond.code ({ cls := "java/util/ArrayList", name := "size", desc := "()I" } : Jvm.MethodName) jdk_38_method_8_code (1 : Nat) (Option.some Jvm.ClassFile.FieldType.int)).before args0 about1 = true := code_word (m := ⟨11, 3⟩) (meth := k11m3) (c := k11c3) (by decide +kernel) rfl rfl rfl (by decide +kernel)
set_option maxRecDepth 65536 in
theorem w_c13 : (Jvm.Cond.code ({ cls := "java/util/ArrayList", name := "add", desc := "(Ljava/lang/Object;)Z" } : Jvm.MethodName) jdk_38_method_25_code (2 : Nat) (Option.some Jvm.ClassFile.FieldType.boolean)).before args0 about1 = true := code_word (m := ⟨11, 5⟩) (meth := k11m5) (c := k11c5) (by decide +kernel) rfl rfl rfl (by decide +kernel)
set_option maxRecDepth 65536 in
theorem w_c14 : (Jvm.Cond.code ({ cls := "java/util/ArrayList", name := "add", desc := "(Ljava/lang/Object;[Ljava/lang/Object;I)V" } : Jvm.MethodName) jdk_38_method_24_code (4 : Nat) (Option.none : Option Jvm.ClassFile.FieldType)).before args0 about1 = true := code_word (m := ⟨11, 4⟩) (meth := k11m4) (c := k11c4) (by decide +kernel) rfl rfl rfl (by decide +kernel)
set_option maxRecDepth 65536 in
theorem w_c15 : (Jvm.Cond.code ({ cls := "java/util/ArrayList", name := "grow", desc := "()[Ljava/lang/Object;" } : Jvm.MethodName) jdk_38_method_7_code (1 : Nat) (Option.some (Jvm.ClassFile.FieldType.array (Jvm.ClassFile.FieldType.object "java/lang/Object")))).before args0 about1 = true := code_word (m := ⟨11, 2⟩) (meth := k11m2) (c := k11c2) (by decide +kernel) rfl rfl rfl (by decide +kernel)
set_option maxRecDepth 65536 in
theorem w_c16 : (Jvm.Cond.code ({ cls := "java/util/ArrayList", name := "grow", desc := "(I)[Ljava/lang/Object;" } : Jvm.MethodName) jdk_38_method_6_code (4 : Nat) (Option.some (Jvm.ClassFile.FieldType.array (Jvm.ClassFile.FieldType.object "java/lang/Object")))).before args0 about1 = true := code_word (m := ⟨11, 1⟩) (meth := k11m1) (c := k11c1) (by decide +kernel) rfl rfl rfl (by decide +kernel)
set_option maxRecDepth 65536 in
theorem w_c17 : (Jvm.Cond.code ({ cls := "java/lang/Math", name := "max", desc := "(II)I" } : Jvm.MethodName) jdk_29_method_65_code (2 : Nat) (Option.some Jvm.ClassFile.FieldType.int)).before args0 about1 = true := code_word (m := ⟨19, 1⟩) (meth := k19m1) (c := k19c1) (by decide +kernel) rfl rfl rfl (by decide +kernel)
def codes1 : List Jvm.Cond := [Jvm.Cond.code x code maxLocals ret, Jvm.Cond.code ({ cls := "java/util/ArrayList", name := "<init>", desc := "()V" } : Jvm.MethodName) jdk_38_method_2_code (1 : Nat) (Option.none : Option Jvm.ClassFile.FieldType), Jvm.Cond.code ({ cls := "java/util/AbstractList", name := "<init>", desc := "()V" } : Jvm.MethodName) jdk_39_method_1_code (1 : Nat) (Option.none : Option Jvm.ClassFile.FieldType), Jvm.Cond.code ({ cls := "java/util/AbstractCollection", name := "<init>", desc := "()V" } : Jvm.MethodName) jdk_22_method_1_code (1 : Nat) (Option.none : Option Jvm.ClassFile.FieldType), Jvm.Cond.code ({ cls := "java/lang/Object", name := "<init>", desc := "()V" } : Jvm.MethodName) object_method_1_code (1 : Nat) (Option.none : Option Jvm.ClassFile.FieldType), Jvm.Cond.code ({ cls := "com/example/twinshelf/twinshelf/cli/ArgumentReaderHasNextPinLaw", name := "fill", desc := "(Ljava/util/ArrayList;I)V" } : Jvm.MethodName) method_3_code (2 : Nat) (Option.none : Option Jvm.ClassFile.FieldType), Jvm.Cond.code ({ cls := "com/example/twinshelf/twinshelf/cli/ArgumentReader", name := "<init>", desc := "(Ljava/util/List;)V" } : Jvm.MethodName) prog_2_method_1_code (2 : Nat) (Option.none : Option Jvm.ClassFile.FieldType), Jvm.Cond.code ({ cls := "java/util/HashSet", name := "<init>", desc := "()V" } : Jvm.MethodName) jdk_93_method_1_code (1 : Nat) (Option.none : Option Jvm.ClassFile.FieldType), Jvm.Cond.code ({ cls := "java/util/AbstractSet", name := "<init>", desc := "()V" } : Jvm.MethodName) jdk_91_method_1_code (1 : Nat) (Option.none : Option Jvm.ClassFile.FieldType), Jvm.Cond.code ({ cls := "java/util/HashMap", name := "<init>", desc := "()V" } : Jvm.MethodName) jdk_69_method_7_code (1 : Nat) (Option.none : Option Jvm.ClassFile.FieldType), Jvm.Cond.code ({ cls := "java/util/AbstractMap", name := "<init>", desc := "()V" } : Jvm.MethodName) jdk_71_method_1_code (1 : Nat) (Option.none : Option Jvm.ClassFile.FieldType), Jvm.Cond.code ({ cls := "com/example/twinshelf/twinshelf/cli/ArgumentReader", name := "hasNext", desc := "()Z" } : Jvm.MethodName) prog_2_method_2_code (1 : Nat) (Option.some Jvm.ClassFile.FieldType.boolean), Jvm.Cond.code ({ cls := "java/util/ArrayList", name := "size", desc := "()I" } : Jvm.MethodName) jdk_38_method_8_code (1 : Nat) (Option.some Jvm.ClassFile.FieldType.int), Jvm.Cond.code ({ cls := "java/util/ArrayList", name := "add", desc := "(Ljava/lang/Object;)Z" } : Jvm.MethodName) jdk_38_method_25_code (2 : Nat) (Option.some Jvm.ClassFile.FieldType.boolean), Jvm.Cond.code ({ cls := "java/util/ArrayList", name := "add", desc := "(Ljava/lang/Object;[Ljava/lang/Object;I)V" } : Jvm.MethodName) jdk_38_method_24_code (4 : Nat) (Option.none : Option Jvm.ClassFile.FieldType), Jvm.Cond.code ({ cls := "java/util/ArrayList", name := "grow", desc := "()[Ljava/lang/Object;" } : Jvm.MethodName) jdk_38_method_7_code (1 : Nat) (Option.some (Jvm.ClassFile.FieldType.array (Jvm.ClassFile.FieldType.object "java/lang/Object"))), Jvm.Cond.code ({ cls := "java/util/ArrayList", name := "grow", desc := "(I)[Ljava/lang/Object;" } : Jvm.MethodName) jdk_38_method_6_code (4 : Nat) (Option.some (Jvm.ClassFile.FieldType.array (Jvm.ClassFile.FieldType.object "java/lang/Object"))), Jvm.Cond.code ({ cls := "java/lang/Math", name := "max", desc := "(II)I" } : Jvm.MethodName) jdk_29_method_65_code (2 : Nat) (Option.some Jvm.ClassFile.FieldType.int)]
set_option maxRecDepth 65536 in
theorem codes_eq : words1.filter isCode = codes1 := rfl
theorem w_codes : ∀ c ∈ words1.filter isCode, c.before args0 about1 = true := by
  rw [codes_eq]
  intro c hc
  simp only [codes1, List.mem_cons, List.not_mem_nil, or_false] at hc
  rcases hc with rfl | rfl | rfl | rfl | rfl | rfl | rfl | rfl | rfl | rfl | rfl | rfl | rfl | rfl | rfl | rfl | rfl | rfl
  · exact w_c0
  · exact w_c1
  · exact w_c2
  · exact w_c3
  · exact w_c4
  · exact w_c5
  · exact w_c6
  · exact w_c7
  · exact w_c8
  · exact w_c9
  · exact w_c10
  · exact w_c11
  · exact w_c12
  · exact w_c13
  · exact w_c14
  · exact w_c15
  · exact w_c16
  · exact w_c17
set_option maxRecDepth 65536 in
theorem w_t1 : (words1.take 24).all (fun c => isCode c || c.before args0 about1) = true := by decide +kernel
set_option maxRecDepth 65536 in
theorem w_t2 : ((words1.drop 24).take 24).all (fun c => isCode c || c.before args0 about1) = true := by decide +kernel
set_option maxRecDepth 65536 in
theorem w_t3 : (((words1.drop 24).drop 24).take 24).all (fun c => isCode c || c.before args0 about1) = true := by decide +kernel
set_option maxRecDepth 65536 in
theorem w_t4 : ((((words1.drop 24).drop 24).drop 24).take 24).all (fun c => isCode c || c.before args0 about1) = true := by decide +kernel
set_option maxRecDepth 65536 in
theorem w_t5 : (((((words1.drop 24).drop 24).drop 24).drop 24).take 24).all (fun c => isCode c || c.before args0 about1) = true := by decide +kernel
set_option maxRecDepth 65536 in
theorem w_t6 : (((((words1.drop 24).drop 24).drop 24).drop 24).drop 24).all (fun c => isCode c || c.before args0 about1) = true := by decide +kernel
theorem w_tables : (allAtoms (Jvm.Cond.code x code maxLocals ret :: tables_1)).before args0 about1 = true := by
  rw [allAtoms_all]
  show words1.all (fun c => c.before args0 about1) = true
  refine all_split ?_ w_codes
  rw [← List.take_append_drop 24 words1, List.all_append, w_t1, ← List.take_append_drop 24 (words1.drop 24), List.all_append, w_t2, ← List.take_append_drop 24 ((words1.drop 24).drop 24), List.all_append, w_t3, ← List.take_append_drop 24 (((words1.drop 24).drop 24).drop 24), List.all_append, w_t4, ← List.take_append_drop 24 ((((words1.drop 24).drop 24).drop 24).drop 24), List.all_append, w_t5, w_t6]
  rfl
set_option maxRecDepth 65536 in
theorem w_rest : rest_1_c.before args0 about1 = true := by decide +kernel
set_option maxRecDepth 65536 in
theorem w_case : (Jvm.Cond.and given_1 narrow_1).before args0 about1 = true := by decide +kernel
theorem w_applies : (headSpec (Jvm.Cond.code x code maxLocals ret :: tables_1) room_1).applies x e0.platform about1 = true :=
  (Spec.applies_iff w_frames).mpr ⟨w_running, w_runnable, w_alone, w_named, w_hears, w_ripe, w_room, w_tables⟩
theorem atStart : AtStart classFile x code maxLocals ret World_1 tables_1 room_1 Calls_1 rest_1 Pre_1 launch0 p0 e0 about1 theMethod args0 below0 :=
  ⟨lists_1, trivial, launch0.admits_env _ _ _, launch0.least_env, fairChoices_fair.cas, fairChoices_fair.clock, w_frames, w_args, w_heap, w_applies, trivial, w_rest, w_case⟩
end start1
theorem witness_1 : WitnessClaimed_1 := ⟨start1.p0, start1.e0, start1.about1, start1.theMethod, start1.args0, start1.below0, start1.atStart⟩
end Jvm.Pilot.@@N@@
