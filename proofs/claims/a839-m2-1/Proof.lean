import JvmDerived
import JvmDerived.Pilot.@@N@@Statement
import JvmDerived.Pilot.@@N@@Code
set_option linter.unusedVariables false
set_option linter.unusedSimpArgs false
namespace Jvm.RoadKit
open Sem ClassFile Op Lib Jvm.Stand Jvm.Free Jvm.LawKit
section New
variable {p : Program} {l : Launch} {e : Env} {R : Room} {s : State} {m : MethodId} {args : Array Value} {below : List Frame} {meth : Method} {c : Code} {T : State} {locs : List Loc} {cells slots : Nat}
theorem retI (X : Stand p l e R s m args below meth c T locs cells slots) (hx : p.tables.exec = Jvm.exec) {pc : Nat} {Ls : Array Slot} {z : Int32} {rest : List Value} (hret : meth.sig.returnType = some .int) (hd : decode c.code pc = .ok (.ireturn, 1)) {fs : List Frame}
    (hl : ∀ (f : JFrame) (acts : List Action), f.method = m → f.locked = none → f.entered = [] → (doReturn e (T.setTop f) acts (some (.int z))).1 = T.setFrames fs) : Steps p.tables e below (T.setTop (mkF m pc Ls (.int z :: rest))) (T.setFrames fs) := by
  have hm' : T.vm.method? m = some meth := X.method'
  have hn : narrow .int (.int z) = .int z := rfl
  show Steps p.tables e below (T.setTop { method := m, pc := pc, locals := Ls, stack := _ :: rest, locked := none }) _
  jvm_step X.here [X.here.top, hx, hd, hm', hret, hn]
  first | (intro acts; rw [hl _ acts rfl rfl rfl]) | rw [hl _ _ rfl rfl rfl]
  exact Steps.refl _
end New
end Jvm.RoadKit
namespace Jvm.Pilot.@@N@@
open Jvm Jvm.ClassFile Sem Op Lib Jvm.Free Jvm.Stand Jvm.LawKit Jvm.RoadKit Bundle Jvm.Pilot.@@N@@.Jvm.D
/-- the run from U ends within this invocation, with P -/
def own_Fin (tb : Tables) (e : Env) (below : List Frame) (P : Outcome → State → Prop) (U : State) : Prop := ∃ s₂ o, Steps tb e below U s₂ ∧ s₂.status = .running ∧ Ended s₂ below o ∧ P o s₂
theorem own_by {tb : Tables} {e : Env} {below : List Frame} {P : Outcome → State → Prop} {U U' : State} (h : ∀ t, Steps tb e below U' t → Steps tb e below U t) (k : own_Fin tb e below P U') : own_Fin tb e below P U := by
  obtain ⟨t, o, h1, h2⟩ := k
  exact ⟨t, o, h _ h1, h2⟩
section Own
variable {p : Program} {l : Launch} {e : Env} {R : Room} {s : State} {m : MethodId} {args : Array Value} {below : List Frame} {meth : Method} {c : Code} {T : State} {locs : List Loc} {cells slots : Nat} {Z : State} {h h' : Heap} {a b : Addr} {z j x v : Int32} {B : Int32 → Int32}
theorem own_end (X : Stand p l e R s m args below meth c T locs cells slots) (hlk : meth.locks = false) {U : State} {v : Option Value} (hv : meth.sig.returnType = none → v = none) {Qv : Option Value → Heap → List Loc → Prop} {C S : Nat} (hC : cells ≤ C) (hS : slots ≤ S) (hq : Qv v T.heap locs)
    (hst : ∀ fs, (∀ (f : JFrame) (acts : List Action), f.method = m → f.locked = none → f.entered = [] → (doReturn e (T.setTop f) acts v).1 = T.setFrames fs) → Steps p.tables e below U (T.setFrames fs)) :
    own_Fin p.tables e below (fun o t => ∃ v L, o = .returned v ∧ Qv v t.heap L ∧ FrameEnd s o t L C S) U := by
  obtain ⟨fs, hr, hrun, hended, hW, hsame⟩ := X.leave (v := v) hv hlk
  exact ⟨_, _, hst fs hr, hrun, hended, _, _, rfl, hq, ⟨_, rfl⟩, hW, hsame.mono hC hS⟩
theorem own_retN (X : Stand p l e R s m args below meth c T locs cells slots) (hx : p.tables.exec = Jvm.exec) {pc : Nat} {Ls : Array Slot} {z : Int32} {t : FieldType} {rest : List Value} (hret : meth.sig.returnType = some t) (hlk : meth.locks = false) (ht : t = .boolean ∨ t = .byte ∨ t = .char ∨ t = .short)
    (hd : decode c.code pc = .ok (.ireturn, 1)) {Qv : Option Value → Heap → List Loc → Prop} {C S : Nat} (hC : cells ≤ C) (hS : slots ≤ S) (hq : Qv (some (.int (nar t z))) T.heap locs) :
    own_Fin p.tables e below (fun o t => ∃ v L, o = .returned v ∧ Qv v t.heap L ∧ FrameEnd s o t L C S) (T.setTop (mkF m pc Ls (.int z :: rest))) :=
  own_end X hlk (fun q => by rw [hret] at q; cases q) hC hS hq fun fs hr => retN X hx hret ht hd hr
theorem own_retI (X : Stand p l e R s m args below meth c T locs cells slots) (hx : p.tables.exec = Jvm.exec) {pc : Nat} {Ls : Array Slot} {z : Int32} {rest : List Value} (hret : meth.sig.returnType = some .int) (hlk : meth.locks = false)
    (hd : decode c.code pc = .ok (.ireturn, 1)) {Qv : Option Value → Heap → List Loc → Prop} {C S : Nat} (hC : cells ≤ C) (hS : slots ≤ S) (hq : Qv (some (.int z)) T.heap locs) :
    own_Fin p.tables e below (fun o t => ∃ v L, o = .returned v ∧ Qv v t.heap L ∧ FrameEnd s o t L C S) (T.setTop (mkF m pc Ls (.int z :: rest))) :=
  own_end X hlk (fun q => by rw [hret] at q; cases q) hC hS hq fun fs hr => retI X hx hret hd hr
theorem own_retJ (X : Stand p l e R s m args below meth c T locs cells slots) (hx : p.tables.exec = Jvm.exec) {pc : Nat} {Ls : Array Slot} {z : Int64} {rest : List Value} (hret : meth.sig.returnType = some .long) (hlk : meth.locks = false)
    (hd : decode c.code pc = .ok (.lreturn, 1)) {Qv : Option Value → Heap → List Loc → Prop} {C S : Nat} (hC : cells ≤ C) (hS : slots ≤ S) (hq : Qv (some (.long z)) T.heap locs) :
    own_Fin p.tables e below (fun o t => ∃ v L, o = .returned v ∧ Qv v t.heap L ∧ FrameEnd s o t L C S) (T.setTop (mkF m pc Ls (.long z :: rest))) :=
  own_end X hlk (fun q => by rw [hret] at q; cases q) hC hS hq fun fs hr => retOut X hx hret rfl (Or.inr (Or.inl ⟨rfl, rfl, z, rfl⟩)) hd hr
theorem own_retA (X : Stand p l e R s m args below meth c T locs cells slots) (hx : p.tables.exec = Jvm.exec) {pc : Nat} {Ls : Array Slot} {w : Value} {t : FieldType} {rest : List Value} (hret : meth.sig.returnType = some t) (hlk : meth.locks = false) (ht : t.isReference = true) (hw : w.isRef = true)
    (hd : decode c.code pc = .ok (.areturn, 1)) {Qv : Option Value → Heap → List Loc → Prop} {C S : Nat} (hC : cells ≤ C) (hS : slots ≤ S) (hq : Qv (some w) T.heap locs) :
    own_Fin p.tables e below (fun o t => ∃ v L, o = .returned v ∧ Qv v t.heap L ∧ FrameEnd s o t L C S) (T.setTop (mkF m pc Ls (w :: rest))) :=
  own_end X hlk (fun q => by rw [hret] at q; cases q) hC hS hq fun fs hr => retOut X hx hret (by cases t <;> simp [FieldType.isReference] at ht <;> (rcases ref_cases hw with rfl | ⟨z, rfl⟩ <;> rfl)) (Or.inr (Or.inr (Or.inr (Or.inr ⟨rfl, ht, hw⟩)))) hd hr
theorem own_retV (X : Stand p l e R s m args below meth c T locs cells slots) (hx : p.tables.exec = Jvm.exec) {pc : Nat} {Ls : Array Slot} (hret : meth.sig.returnType = none) (hlk : meth.locks = false)
    (hd : decode c.code pc = .ok (.return_, 1)) {Qv : Option Value → Heap → List Loc → Prop} {C S : Nat} (hC : cells ≤ C) (hS : slots ≤ S) (hq : Qv none T.heap locs) :
    own_Fin p.tables e below (fun o t => ∃ v L, o = .returned v ∧ Qv v t.heap L ∧ FrameEnd s o t L C S) (T.setTop (mkF m pc Ls [])) :=
  own_end X hlk (fun _ => rfl) hC hS hq fun fs hr => X.returnOut hx hret hd hr
/-- a byte[] of length z whose j-th byte is B j -/
def own_Byt (Z : State) (h : Heap) (a : Addr) (z : Int32) (B : Int32 → Int32) : Prop := ∃ cl : Cell, Arr Z h a cl .byte ∧ cl.slots.size = z.toNatClampNeg ∧ ¬ z < 0 ∧ ∀ j : Int32, ¬ (j < 0 ∨ cl.slots.size ≤ j.toNatClampNeg) → cl.slots[j.toNatClampNeg]? = some (.int (B j)) ∧ fits .byte (.int (B j)) = true
def own_upd (B : Int32 → Int32) (j v : Int32) : Int32 → Int32 := fun k => if k = j then v else B k
theorem own_Byt.lt (F : own_Byt Z h a z B) : a < h.size := by obtain ⟨c, A, -⟩ := F; exact A.lt
theorem own_Byt.ext (F : own_Byt Z h a z B) (E : Ext h h') : own_Byt Z h' a z B := by obtain ⟨c, A, r⟩ := F; exact ⟨c, A.ext E, r⟩
theorem own_Byt.other (F : own_Byt Z h b z B) {sl : Nat} {w : Value} (W : Wr h h' a sl w) (q : b ≠ a) : own_Byt Z h' b z B := by obtain ⟨c, A, r⟩ := F; exact ⟨c, A.other W q, r⟩
theorem own_Byt.keep {ws : List Addr} (F : own_Byt Z h a z B) (K : Keep h h' ws) (q : a ∉ ws) : own_Byt Z h' a z B := by obtain ⟨c, A, r⟩ := F; exact ⟨c, ⟨K.2.1 a c A.1 q, A.2⟩, r⟩
theorem own_Byt.new {k : ClassId} (A : Arr Z h a (newA k .byte z) .byte) (q : ¬ z < 0) : own_Byt Z h a z (fun _ => (0 : Int32)) :=
  ⟨_, A, sz_new _ _ _, q, fun j hj => by rw [sz_new] at hj; exact ⟨get_new hj, show fits .byte (.int 0) = true from by decide⟩⟩
theorem own_bal (X : Stand p l e R s m args below meth c T locs cells slots) (hx : p.tables.exec = Jvm.exec) (hZ : Z.Warmed39 s.vm) (eT : T.heap = h) (F : own_Byt Z h a z B) (h1 : ¬ j < 0) (h2 : j < z)
    {g : JFrame} (hg : g.method = m) {rest : List Value} (hs : g.stack = .int j :: .ref a :: rest) (hd : decode c.code g.pc = .ok (.baload, 1)) :
    ∀ t, Steps p.tables e below (T.setTop { g with pc := g.pc + 1, stack := .int (B j) :: rest }) t → Steps p.tables e below (T.setTop g) t := by
  obtain ⟨cl, A, S, N, H⟩ := F
  have hin := inb_of S ⟨h1, h2⟩
  exact X.baloadBytes hx (j := j) (v := .int (B j)) (by rw [eT]; exact A.1) (State.isArrayOf_alike hZ.alike A.2.1) A.2.2 hin (H j hin).1 hg hs hd
theorem own_len (X : Stand p l e R s m args below meth c T locs cells slots) (hx : p.tables.exec = Jvm.exec) (hZ : Z.Warmed39 s.vm) (eT : T.heap = h) (F : own_Byt Z h a z B)
    {g : JFrame} (hg : g.method = m) {rest : List Value} (hs : g.stack = .ref a :: rest) (hd : decode c.code g.pc = .ok (.arraylength, 1)) :
    ∀ t, Steps p.tables e below (T.setTop { g with pc := g.pc + 1, stack := .int z :: rest }) t → Steps p.tables e below (T.setTop g) t := by
  obtain ⟨cl, A, S, N, H⟩ := F
  intro t k
  refine X.arraylength hx (by rw [eT]; exact A.1) (State.isArrayOf_alike hZ.alike A.2.1) (g := g) hg hs hd _ ?_
  rw [len_of S N]
  exact k
theorem own_bst (X : Stand p l e R s m args below meth c T locs cells slots) (hx : p.tables.exec = Jvm.exec) (hZ : Z.Warmed39 s.vm) (eT : T.heap = h) (F : own_Byt Z h a z B) (h1 : ¬ j < 0) (h2 : j < z)
    {g : JFrame} (hg : g.method = m) {rest : List Value} (hs : g.stack = .int x :: .int j :: .ref a :: rest) (hd : decode c.code g.pc = .ok (.bastore, 1)) :
    ∃ T' h', Stand p l e R s m args below meth c T' (locs ++ [⟨a, j.toNatClampNeg⟩]) cells slots ∧ T'.heap = h' ∧ own_Byt Z h' a z (own_upd B j (x.toInt8.toInt32)) ∧ Wr h h' a j.toNatClampNeg (.int (nar .byte x)) ∧
      ∀ t, Steps p.tables e below (T'.setTop { g with pc := g.pc + 1, stack := rest }) t → Steps p.tables e below (T.setTop g) t := by
  obtain ⟨cl, A, S, N, H⟩ := F
  have hin := inb_of S ⟨h1, h2⟩
  obtain ⟨T', h', X', e', W, st⟩ := stB X hx hZ eT A (j := j) hin hg hs hd
  refine ⟨T', h', X', e', ⟨_, A.same W, by rw [sz_set]; exact S, N, fun k hk => ?_⟩, W, st⟩
  rw [sz_set] at hk
  by_cases q : k = j
  · rw [get_hit hin q, own_upd, if_pos q]; exact ⟨rfl, fits_nar_byte x⟩
  · rw [get_miss h1 (fun y => hk (Or.inl y)) q, own_upd, if_neg q]; exact H k hk
end Own
theorem own_nar_char (x : Int32) : nar .char (x.toUInt32.toUInt16.toUInt32.toInt32) = x.toUInt32.toUInt16.toUInt32.toInt32 := by
  show x.toUInt32.toUInt16.toUInt32.toInt32.toUInt32.toUInt16.toUInt32.toInt32 = _
  have h1 := c_i2c x
  have h2 := c_i2c (x.toUInt32.toUInt16.toUInt32.toInt32)
  apply Int32.toInt_inj.mp
  omega
theorem own_lt {x y : Int32} : x < y ↔ x.toInt < y.toInt := Int32.lt_iff_toInt_lt
theorem own_eq {x y : Int32} : x = y ↔ x.toInt = y.toInt := Int32.toInt_inj.symm
theorem own_ltL {x y : Int64} : x < y ↔ x.toInt < y.toInt := Int64.lt_iff_toInt_lt
theorem own_eqL {x y : Int64} : x = y ↔ x.toInt = y.toInt := Int64.toInt_inj.symm
theorem own_z : (0 : Int32).toInt = 0 := by decide
theorem own_nn {x : Int32} (h : 0 ≤ x.toInt) : ¬ x < 0 := fun q => by have := own_lt.mp q; rw [own_z] at this; omega
theorem own_ltof {x y : Int32} (h : x.toInt < y.toInt) : x < y := own_lt.mpr h
theorem own_ge {x y : Int32} (h : ¬ x < y) : y.toInt ≤ x.toInt := by rw [own_lt] at h; omega
theorem own_add (x k : Int32) (h1 : -2147483648 ≤ x.toInt + k.toInt) (h2 : x.toInt + k.toInt < 2147483648) : (x + k).toInt = x.toInt + k.toInt := by
  have a := c_iadd x k
  have r := rng32 (x + k)
  omega
theorem own_sub (x k : Int32) (h1 : -2147483648 ≤ x.toInt - k.toInt) (h2 : x.toInt - k.toInt < 2147483648) : (x - k).toInt = x.toInt - k.toInt := by
  have a := c_isub x k
  have r := rng32 (x - k)
  omega
theorem own_clamp {x : Int32} {n : Nat} (h : ¬ x < 0) (q : x.toInt ≤ n) : x.toNatClampNeg ≤ n := by
  have := nat_of h
  omega
theorem own_l1 : (1 : Int32).toInt = 1 := by decide
theorem own_l2 : (2 : Int32).toInt = 2 := by decide
theorem own_l3 : (3 : Int32).toInt = 3 := by decide
theorem own_l6 : (6 : Int32).toInt = 6 := by decide
theorem own_l7 : (7 : Int32).toInt = 7 := by decide
theorem d5_0 : decode jdk_29_method_65_code 0 = .ok (.iload_n 0, 1) := by decide +kernel
theorem d5_1 : decode jdk_29_method_65_code 1 = .ok (.iload_n 1, 1) := by decide +kernel
theorem d5_2 : decode jdk_29_method_65_code 2 = .ok (.if_icmp .lt 7, 3) := by decide +kernel
theorem d5_5 : decode jdk_29_method_65_code 5 = .ok (.iload_n 0, 1) := by decide +kernel
theorem d5_6 : decode jdk_29_method_65_code 6 = .ok (.goto 4, 3) := by decide +kernel
theorem d5_9 : decode jdk_29_method_65_code 9 = .ok (.iload_n 1, 1) := by decide +kernel
theorem d5_10 : decode jdk_29_method_65_code 10 = .ok (.ireturn, 1) := by decide +kernel
theorem ef_5 (m : MethodId) (p0 : Int32) (p1 : Int32) : entryFrame m #[(.int p0), (.int p1)] 2 = mkF m 0 #[.val (.int p0), .val (.int p1)] [] := by first | (simp [entryFrame, mkF, argsToLocals, Value.category]; done) | rfl
def f5 (p0 : Int32) (p1 : Int32) : Int32 :=
  if p0 < p1 then
    p1
  else
    p0
def Q5 (p0 : Int32) (p1 : Int32) (h0 : Heap) (n0 : Nat) (v : Option Value) (h : Heap) (L : List Loc) : Prop := v = some (.int (f5 p0 p1)) ∧ Fr n0 L ∧ h = h0
set_option maxRecDepth 65536 in
set_option maxHeartbeats 40000000 in
theorem rm5 (l : Launch) (Z : State) (a0 : Array Value) (hw : ∀ d ∈ tables_1, d.before a0 Z = true) (ws : List Jvm.Cond) (p0 : Int32) (p1 : Int32)   (h0 : Heap) (n0 : Nat) (Z0 : n0 ≤ h0.size)   :
    MetFree l (⟨"java/lang/Math", "max", "(II)I"⟩ : MethodName) (head1 (Jvm.Cond.code (⟨"java/lang/Math", "max", "(II)I"⟩ : MethodName) jdk_29_method_65_code 2 (some .int) :: ws) ({ frames := 0, cells := 0, slots := 0, locals := 0 } : Room)) (fun a U => a = #[(.int p0), (.int p1)] ∧ Z.Warmed39 U.vm ∧ U.heap = h0) (fun _ _ _ _ _ => True) (fun _ U o U' => ∃ v L, o = .returned v ∧ Q5 p0 p1 h0 n0 v U'.heap L ∧ FrameEnd U o U' L ({ frames := 0, cells := 0, slots := 0, locals := 0 } : Room).cells ({ frames := 0, cells := 0, slots := 0, locals := 0 } : Room).slots) := by
  refine MetFree.of_bodySF (Jvm.Free.JP.mathPlain rfl (by decide +kernel)) hisR ?_
  intro p e s m args below meth c s₁ Bd hml0 hP hK
  obtain ⟨rfl, hZ, hh⟩ := hP
  have hx := Bd.exec
  have hby := Bd.bytes
  have hlk : meth.locks = false := BodyLoose.notSynchronized Bd
  have hml : c.maxLocals = 2 := hml0
  have hown : s.vm.findClass "java/lang/Math" = some m.cls := findClass_of_methodNamed Bd.named
  have hnm := (name_of_methodNamed Bd.named Bd.method).1
  have X0 : Stand p l e ({ frames := 0, cells := 0, slots := 0, locals := 0 } : Room) s m #[(.int p0), (.int p1)] below meth c s₁ [] 0 0 := Stand.of_body Bd
  have e0 : s₁.heap = h0 := by rw [← hh, Bd.state]; rfl
  have N0 := Fr.nil n0
  refine own_by (U' := s₁.setTop (mkF m 0 #[.val (.int p0), .val (.int p1)] [])) (fun t k => castTop (ef_5 m p0 p1) k) ?_
  refine own_by (fun _ k => XS.iloadN X0.here hx rfl (hb hby d5_0) rfl k) ?_
  show own_Fin p.tables e below _ (s₁.setTop (mkF m 1 #[.val (.int p0), .val (.int p1)] [(.int p0)]))
  refine own_by (fun _ k => XS.iloadN X0.here hx rfl (hb hby d5_1) rfl k) ?_
  show own_Fin p.tables e below _ (s₁.setTop (mkF m 2 #[.val (.int p0), .val (.int p1)] [(.int p1), (.int p0)]))
  by_cases hc1 : p0 < p1
  · refine own_by (fun _ k => XS.icmpYes X0.here hx rfl (pc0 := 2) (pc' := 9) rfl (hb hby d5_2) rfl (tlt hc1).1 (by decide) (by decide) k) ?_
    show own_Fin p.tables e below _ (s₁.setTop (mkF m 9 #[.val (.int p0), .val (.int p1)] []))
    refine own_by (fun _ k => XS.iloadN X0.here hx rfl (hb hby d5_9) rfl k) ?_
    show own_Fin p.tables e below _ (s₁.setTop (mkF m 10 #[.val (.int p0), .val (.int p1)] [(.int p1)]))
    have ef : f5 p0 p1 = p1 := by unfold f5; rw [if_pos hc1]
    exact own_retI X0 hx Bd.returns hlk (hb hby d5_10) (by decide) (by decide) ⟨by rw [ef], N0, e0⟩
  · refine own_by (fun _ k => XS.icmpNo X0.here hx rfl (hb hby d5_2) rfl (flt hc1).1 k) ?_
    show own_Fin p.tables e below _ (s₁.setTop (mkF m 5 #[.val (.int p0), .val (.int p1)] []))
    refine own_by (fun _ k => XS.iloadN X0.here hx rfl (hb hby d5_5) rfl k) ?_
    show own_Fin p.tables e below _ (s₁.setTop (mkF m 6 #[.val (.int p0), .val (.int p1)] [(.int p0)]))
    refine own_by (fun _ k => XS.goto X0.here hx rfl (pc0 := 6) (pc' := 10) rfl (hb hby d5_6) (by decide) (by decide) k) ?_
    show own_Fin p.tables e below _ (s₁.setTop (mkF m 10 #[.val (.int p0), .val (.int p1)] [(.int p0)]))
    have ef : f5 p0 p1 = p0 := by unfold f5; rw [if_neg hc1]
    exact own_retI X0 hx Bd.returns hlk (hb hby d5_10) (by decide) (by decide) ⟨by rw [ef], N0, e0⟩
theorem d1_0 : decode method_3_code 0 = .ok (.iload_n 0, 1) := by decide +kernel
theorem d1_1 : decode method_3_code 1 = .ok (.bipush 7, 2) := by decide +kernel
theorem d1_3 : decode method_3_code 3 = .ok (.iand, 1) := by decide +kernel
theorem d1_4 : decode method_3_code 4 = .ok (.istore_n 1, 1) := by decide +kernel
theorem d1_5 : decode method_3_code 5 = .ok (.iload_n 1, 1) := by decide +kernel
theorem d1_6 : decode method_3_code 6 = .ok (.ifCond .eq 8, 3) := by decide +kernel
theorem d1_9 : decode method_3_code 9 = .ok (.iload_n 1, 1) := by decide +kernel
theorem d1_10 : decode method_3_code 10 = .ok (.iconst 4, 1) := by decide +kernel
theorem d1_11 : decode method_3_code 11 = .ok (.if_icmp .ne 6, 3) := by decide +kernel
theorem d1_14 : decode method_3_code 14 = .ok (.bipush 10, 2) := by decide +kernel
theorem d1_16 : decode method_3_code 16 = .ok (.ireturn, 1) := by decide +kernel
theorem d1_17 : decode method_3_code 17 = .ok (.iload_n 1, 1) := by decide +kernel
theorem d1_18 : decode method_3_code 18 = .ok (.iconst 1, 1) := by decide +kernel
theorem d1_19 : decode method_3_code 19 = .ok (.if_icmp .eq 8, 3) := by decide +kernel
theorem d1_22 : decode method_3_code 22 = .ok (.iload_n 1, 1) := by decide +kernel
theorem d1_23 : decode method_3_code 23 = .ok (.iconst 5, 1) := by decide +kernel
theorem d1_24 : decode method_3_code 24 = .ok (.if_icmp .ne 6, 3) := by decide +kernel
theorem d1_27 : decode method_3_code 27 = .ok (.bipush 13, 2) := by decide +kernel
theorem d1_29 : decode method_3_code 29 = .ok (.ireturn, 1) := by decide +kernel
theorem d1_30 : decode method_3_code 30 = .ok (.iload_n 1, 1) := by decide +kernel
theorem d1_31 : decode method_3_code 31 = .ok (.iconst 2, 1) := by decide +kernel
theorem d1_32 : decode method_3_code 32 = .ok (.if_icmp .ne 6, 3) := by decide +kernel
theorem d1_35 : decode method_3_code 35 = .ok (.bipush 65, 2) := by decide +kernel
theorem d1_37 : decode method_3_code 37 = .ok (.ireturn, 1) := by decide +kernel
theorem d1_38 : decode method_3_code 38 = .ok (.iload_n 1, 1) := by decide +kernel
theorem d1_39 : decode method_3_code 39 = .ok (.iconst 3, 1) := by decide +kernel
theorem d1_40 : decode method_3_code 40 = .ok (.if_icmp .ne 6, 3) := by decide +kernel
theorem d1_43 : decode method_3_code 43 = .ok (.bipush (-118), 2) := by decide +kernel
theorem d1_45 : decode method_3_code 45 = .ok (.ireturn, 1) := by decide +kernel
theorem d1_46 : decode method_3_code 46 = .ok (.iload_n 1, 1) := by decide +kernel
theorem d1_47 : decode method_3_code 47 = .ok (.bipush 6, 2) := by decide +kernel
theorem d1_49 : decode method_3_code 49 = .ok (.if_icmp .ne 6, 3) := by decide +kernel
theorem d1_52 : decode method_3_code 52 = .ok (.bipush (-115), 2) := by decide +kernel
theorem d1_54 : decode method_3_code 54 = .ok (.ireturn, 1) := by decide +kernel
theorem d1_55 : decode method_3_code 55 = .ok (.iconst 0, 1) := by decide +kernel
theorem d1_56 : decode method_3_code 56 = .ok (.ireturn, 1) := by decide +kernel
theorem pn_com_example_agouti_agouti_server_RequestHeadEndPinLaw : plainName "com/example/agouti/agouti/server/RequestHeadEndPinLaw" = true := by first | (simp [plainName, overriddenIn]; done) | decide +kernel
theorem ef_1 (m : MethodId) (p0 : Int32) : entryFrame m #[(.int p0)] 2 = mkF m 0 #[.val (.int p0), .unset] [] := by first | (simp [entryFrame, mkF, argsToLocals, Value.category]; done) | rfl
def f1 (p0 : Int32) : Int32 :=
  if (p0 &&& (7 : Int32)) = (0 : Int32) then
    (10 : Int32)
  else
    if (p0 &&& (7 : Int32)) = (4 : Int32) then
      (10 : Int32)
    else
      if (p0 &&& (7 : Int32)) = (1 : Int32) then
        (13 : Int32)
      else
        if (p0 &&& (7 : Int32)) = (5 : Int32) then
          (13 : Int32)
        else
          if (p0 &&& (7 : Int32)) = (2 : Int32) then
            (65 : Int32)
          else
            if (p0 &&& (7 : Int32)) = (3 : Int32) then
              (-118 : Int32)
            else
              if (p0 &&& (7 : Int32)) = (6 : Int32) then
                (-115 : Int32)
              else
                (0 : Int32)
def Q1 (p0 : Int32) (h0 : Heap) (n0 : Nat) (v : Option Value) (h : Heap) (L : List Loc) : Prop := v = some (.int (f1 p0)) ∧ Fr n0 L ∧ h = h0
set_option maxRecDepth 65536 in
set_option maxHeartbeats 40000000 in
theorem rm1 (l : Launch) (Z : State) (a0 : Array Value) (hw : ∀ d ∈ tables_1, d.before a0 Z = true) (ws : List Jvm.Cond) (p0 : Int32)   (h0 : Heap) (n0 : Nat) (Z0 : n0 ≤ h0.size)   :
    MetFree l (⟨"com/example/agouti/agouti/server/RequestHeadEndPinLaw", "kind", "(I)B"⟩ : MethodName) (head1 (Jvm.Cond.code (⟨"com/example/agouti/agouti/server/RequestHeadEndPinLaw", "kind", "(I)B"⟩ : MethodName) method_3_code 2 (some .byte) :: ws) ({ frames := 0, cells := 0, slots := 0, locals := 0 } : Room)) (fun a U => a = #[(.int p0)] ∧ Z.Warmed39 U.vm ∧ U.heap = h0) (fun _ _ _ _ _ => True) (fun _ U o U' => ∃ v L, o = .returned v ∧ Q1 p0 h0 n0 v U'.heap L ∧ FrameEnd U o U' L ({ frames := 0, cells := 0, slots := 0, locals := 0 } : Room).cells ({ frames := 0, cells := 0, slots := 0, locals := 0 } : Room).slots) := by
  refine MetFree.of_bodySF (plainFor_of_name pn_com_example_agouti_agouti_server_RequestHeadEndPinLaw) hisR ?_
  intro p e s m args below meth c s₁ Bd hml0 hP hK
  obtain ⟨rfl, hZ, hh⟩ := hP
  have hx := Bd.exec
  have hby := Bd.bytes
  have hlk : meth.locks = false := BodyLoose.notSynchronized Bd
  have hml : c.maxLocals = 2 := hml0
  have hown : s.vm.findClass "com/example/agouti/agouti/server/RequestHeadEndPinLaw" = some m.cls := findClass_of_methodNamed Bd.named
  have hnm := (name_of_methodNamed Bd.named Bd.method).1
  have X0 : Stand p l e ({ frames := 0, cells := 0, slots := 0, locals := 0 } : Room) s m #[(.int p0)] below meth c s₁ [] 0 0 := Stand.of_body Bd
  have e0 : s₁.heap = h0 := by rw [← hh, Bd.state]; rfl
  have N0 := Fr.nil n0
  refine own_by (U' := s₁.setTop (mkF m 0 #[.val (.int p0), .unset] [])) (fun t k => castTop (ef_1 m p0) k) ?_
  refine own_by (fun _ k => XS.iloadN X0.here hx rfl (hb hby d1_0) rfl k) ?_
  show own_Fin p.tables e below _ (s₁.setTop (mkF m 1 #[.val (.int p0), .unset] [(.int p0)]))
  refine own_by (fun _ k => XS.bipush X0.here hx rfl (hb hby d1_1) k) ?_
  show own_Fin p.tables e below _ (s₁.setTop (mkF m 3 #[.val (.int p0), .unset] [(.int (7 : Int32)), (.int p0)]))
  refine own_by (fun _ k => XS.iand X0.here hx rfl (hb hby d1_3) rfl k) ?_
  show own_Fin p.tables e below _ (s₁.setTop (mkF m 4 #[.val (.int p0), .unset] [(.int (p0 &&& (7 : Int32)))]))
  refine own_by (fun _ k => XS.istoreN X0.here hx rfl (hb hby d1_4) rfl (l' := #[.val (.int p0), .val (.int (p0 &&& (7 : Int32)))]) rfl k) ?_
  show own_Fin p.tables e below _ (s₁.setTop (mkF m 5 #[.val (.int p0), .val (.int (p0 &&& (7 : Int32)))] []))
  refine own_by (fun _ k => XS.iloadN X0.here hx rfl (hb hby d1_5) rfl k) ?_
  show own_Fin p.tables e below _ (s₁.setTop (mkF m 6 #[.val (.int p0), .val (.int (p0 &&& (7 : Int32)))] [(.int (p0 &&& (7 : Int32)))]))
  by_cases hc1 : (p0 &&& (7 : Int32)) = (0 : Int32)
  · refine own_by (fun _ k => XS.ifYes X0.here hx rfl (pc0 := 6) (pc' := 14) rfl (hb hby d1_6) rfl ((if0 _ _).trans (teq hc1).1) (by decide) (by decide) k) ?_
    show own_Fin p.tables e below _ (s₁.setTop (mkF m 14 #[.val (.int p0), .val (.int (p0 &&& (7 : Int32)))] []))
    refine own_by (fun _ k => XS.bipush X0.here hx rfl (hb hby d1_14) k) ?_
    show own_Fin p.tables e below _ (s₁.setTop (mkF m 16 #[.val (.int p0), .val (.int (p0 &&& (7 : Int32)))] [(.int (10 : Int32))]))
    have ef : f1 p0 = (10 : Int32) := by unfold f1; rw [if_pos hc1]
    exact own_retN X0 hx (t := .byte) Bd.returns hlk (by simp) (hb hby d1_16) (by decide) (by decide) ⟨by rw [ef]; rfl, N0, e0⟩
  · refine own_by (fun _ k => XS.ifNo X0.here hx rfl (hb hby d1_6) rfl ((if0 _ _).trans (feq hc1).1) k) ?_
    show own_Fin p.tables e below _ (s₁.setTop (mkF m 9 #[.val (.int p0), .val (.int (p0 &&& (7 : Int32)))] []))
    refine own_by (fun _ k => XS.iloadN X0.here hx rfl (hb hby d1_9) rfl k) ?_
    show own_Fin p.tables e below _ (s₁.setTop (mkF m 10 #[.val (.int p0), .val (.int (p0 &&& (7 : Int32)))] [(.int (p0 &&& (7 : Int32)))]))
    refine own_by (fun _ k => XS.iconst X0.here hx rfl (hb hby d1_10) k) ?_
    show own_Fin p.tables e below _ (s₁.setTop (mkF m 11 #[.val (.int p0), .val (.int (p0 &&& (7 : Int32)))] [(.int (4 : Int32)), (.int (p0 &&& (7 : Int32)))]))
    by_cases hc2 : (p0 &&& (7 : Int32)) = (4 : Int32)
    · refine own_by (fun _ k => XS.icmpNo X0.here hx rfl (hb hby d1_11) rfl (teq hc2).2 k) ?_
      show own_Fin p.tables e below _ (s₁.setTop (mkF m 14 #[.val (.int p0), .val (.int (p0 &&& (7 : Int32)))] []))
      refine own_by (fun _ k => XS.bipush X0.here hx rfl (hb hby d1_14) k) ?_
      show own_Fin p.tables e below _ (s₁.setTop (mkF m 16 #[.val (.int p0), .val (.int (p0 &&& (7 : Int32)))] [(.int (10 : Int32))]))
      have ef : f1 p0 = (10 : Int32) := by unfold f1; rw [if_neg hc1, if_pos hc2]
      exact own_retN X0 hx (t := .byte) Bd.returns hlk (by simp) (hb hby d1_16) (by decide) (by decide) ⟨by rw [ef]; rfl, N0, e0⟩
    · refine own_by (fun _ k => XS.icmpYes X0.here hx rfl (pc0 := 11) (pc' := 17) rfl (hb hby d1_11) rfl (feq hc2).2 (by decide) (by decide) k) ?_
      show own_Fin p.tables e below _ (s₁.setTop (mkF m 17 #[.val (.int p0), .val (.int (p0 &&& (7 : Int32)))] []))
      refine own_by (fun _ k => XS.iloadN X0.here hx rfl (hb hby d1_17) rfl k) ?_
      show own_Fin p.tables e below _ (s₁.setTop (mkF m 18 #[.val (.int p0), .val (.int (p0 &&& (7 : Int32)))] [(.int (p0 &&& (7 : Int32)))]))
      refine own_by (fun _ k => XS.iconst X0.here hx rfl (hb hby d1_18) k) ?_
      show own_Fin p.tables e below _ (s₁.setTop (mkF m 19 #[.val (.int p0), .val (.int (p0 &&& (7 : Int32)))] [(.int (1 : Int32)), (.int (p0 &&& (7 : Int32)))]))
      by_cases hc3 : (p0 &&& (7 : Int32)) = (1 : Int32)
      · refine own_by (fun _ k => XS.icmpYes X0.here hx rfl (pc0 := 19) (pc' := 27) rfl (hb hby d1_19) rfl (teq hc3).1 (by decide) (by decide) k) ?_
        show own_Fin p.tables e below _ (s₁.setTop (mkF m 27 #[.val (.int p0), .val (.int (p0 &&& (7 : Int32)))] []))
        refine own_by (fun _ k => XS.bipush X0.here hx rfl (hb hby d1_27) k) ?_
        show own_Fin p.tables e below _ (s₁.setTop (mkF m 29 #[.val (.int p0), .val (.int (p0 &&& (7 : Int32)))] [(.int (13 : Int32))]))
        have ef : f1 p0 = (13 : Int32) := by unfold f1; rw [if_neg hc1, if_neg hc2, if_pos hc3]
        exact own_retN X0 hx (t := .byte) Bd.returns hlk (by simp) (hb hby d1_29) (by decide) (by decide) ⟨by rw [ef]; rfl, N0, e0⟩
      · refine own_by (fun _ k => XS.icmpNo X0.here hx rfl (hb hby d1_19) rfl (feq hc3).1 k) ?_
        show own_Fin p.tables e below _ (s₁.setTop (mkF m 22 #[.val (.int p0), .val (.int (p0 &&& (7 : Int32)))] []))
        refine own_by (fun _ k => XS.iloadN X0.here hx rfl (hb hby d1_22) rfl k) ?_
        show own_Fin p.tables e below _ (s₁.setTop (mkF m 23 #[.val (.int p0), .val (.int (p0 &&& (7 : Int32)))] [(.int (p0 &&& (7 : Int32)))]))
        refine own_by (fun _ k => XS.iconst X0.here hx rfl (hb hby d1_23) k) ?_
        show own_Fin p.tables e below _ (s₁.setTop (mkF m 24 #[.val (.int p0), .val (.int (p0 &&& (7 : Int32)))] [(.int (5 : Int32)), (.int (p0 &&& (7 : Int32)))]))
        by_cases hc4 : (p0 &&& (7 : Int32)) = (5 : Int32)
        · refine own_by (fun _ k => XS.icmpNo X0.here hx rfl (hb hby d1_24) rfl (teq hc4).2 k) ?_
          show own_Fin p.tables e below _ (s₁.setTop (mkF m 27 #[.val (.int p0), .val (.int (p0 &&& (7 : Int32)))] []))
          refine own_by (fun _ k => XS.bipush X0.here hx rfl (hb hby d1_27) k) ?_
          show own_Fin p.tables e below _ (s₁.setTop (mkF m 29 #[.val (.int p0), .val (.int (p0 &&& (7 : Int32)))] [(.int (13 : Int32))]))
          have ef : f1 p0 = (13 : Int32) := by unfold f1; rw [if_neg hc1, if_neg hc2, if_neg hc3, if_pos hc4]
          exact own_retN X0 hx (t := .byte) Bd.returns hlk (by simp) (hb hby d1_29) (by decide) (by decide) ⟨by rw [ef]; rfl, N0, e0⟩
        · refine own_by (fun _ k => XS.icmpYes X0.here hx rfl (pc0 := 24) (pc' := 30) rfl (hb hby d1_24) rfl (feq hc4).2 (by decide) (by decide) k) ?_
          show own_Fin p.tables e below _ (s₁.setTop (mkF m 30 #[.val (.int p0), .val (.int (p0 &&& (7 : Int32)))] []))
          refine own_by (fun _ k => XS.iloadN X0.here hx rfl (hb hby d1_30) rfl k) ?_
          show own_Fin p.tables e below _ (s₁.setTop (mkF m 31 #[.val (.int p0), .val (.int (p0 &&& (7 : Int32)))] [(.int (p0 &&& (7 : Int32)))]))
          refine own_by (fun _ k => XS.iconst X0.here hx rfl (hb hby d1_31) k) ?_
          show own_Fin p.tables e below _ (s₁.setTop (mkF m 32 #[.val (.int p0), .val (.int (p0 &&& (7 : Int32)))] [(.int (2 : Int32)), (.int (p0 &&& (7 : Int32)))]))
          by_cases hc5 : (p0 &&& (7 : Int32)) = (2 : Int32)
          · refine own_by (fun _ k => XS.icmpNo X0.here hx rfl (hb hby d1_32) rfl (teq hc5).2 k) ?_
            show own_Fin p.tables e below _ (s₁.setTop (mkF m 35 #[.val (.int p0), .val (.int (p0 &&& (7 : Int32)))] []))
            refine own_by (fun _ k => XS.bipush X0.here hx rfl (hb hby d1_35) k) ?_
            show own_Fin p.tables e below _ (s₁.setTop (mkF m 37 #[.val (.int p0), .val (.int (p0 &&& (7 : Int32)))] [(.int (65 : Int32))]))
            have ef : f1 p0 = (65 : Int32) := by unfold f1; rw [if_neg hc1, if_neg hc2, if_neg hc3, if_neg hc4, if_pos hc5]
            exact own_retN X0 hx (t := .byte) Bd.returns hlk (by simp) (hb hby d1_37) (by decide) (by decide) ⟨by rw [ef]; rfl, N0, e0⟩
          · refine own_by (fun _ k => XS.icmpYes X0.here hx rfl (pc0 := 32) (pc' := 38) rfl (hb hby d1_32) rfl (feq hc5).2 (by decide) (by decide) k) ?_
            show own_Fin p.tables e below _ (s₁.setTop (mkF m 38 #[.val (.int p0), .val (.int (p0 &&& (7 : Int32)))] []))
            refine own_by (fun _ k => XS.iloadN X0.here hx rfl (hb hby d1_38) rfl k) ?_
            show own_Fin p.tables e below _ (s₁.setTop (mkF m 39 #[.val (.int p0), .val (.int (p0 &&& (7 : Int32)))] [(.int (p0 &&& (7 : Int32)))]))
            refine own_by (fun _ k => XS.iconst X0.here hx rfl (hb hby d1_39) k) ?_
            show own_Fin p.tables e below _ (s₁.setTop (mkF m 40 #[.val (.int p0), .val (.int (p0 &&& (7 : Int32)))] [(.int (3 : Int32)), (.int (p0 &&& (7 : Int32)))]))
            by_cases hc6 : (p0 &&& (7 : Int32)) = (3 : Int32)
            · refine own_by (fun _ k => XS.icmpNo X0.here hx rfl (hb hby d1_40) rfl (teq hc6).2 k) ?_
              show own_Fin p.tables e below _ (s₁.setTop (mkF m 43 #[.val (.int p0), .val (.int (p0 &&& (7 : Int32)))] []))
              refine own_by (fun _ k => XS.bipush X0.here hx rfl (hb hby d1_43) k) ?_
              show own_Fin p.tables e below _ (s₁.setTop (mkF m 45 #[.val (.int p0), .val (.int (p0 &&& (7 : Int32)))] [(.int (-118 : Int32))]))
              have ef : f1 p0 = (-118 : Int32) := by unfold f1; rw [if_neg hc1, if_neg hc2, if_neg hc3, if_neg hc4, if_neg hc5, if_pos hc6]
              exact own_retN X0 hx (t := .byte) Bd.returns hlk (by simp) (hb hby d1_45) (by decide) (by decide) ⟨by rw [ef]; rfl, N0, e0⟩
            · refine own_by (fun _ k => XS.icmpYes X0.here hx rfl (pc0 := 40) (pc' := 46) rfl (hb hby d1_40) rfl (feq hc6).2 (by decide) (by decide) k) ?_
              show own_Fin p.tables e below _ (s₁.setTop (mkF m 46 #[.val (.int p0), .val (.int (p0 &&& (7 : Int32)))] []))
              refine own_by (fun _ k => XS.iloadN X0.here hx rfl (hb hby d1_46) rfl k) ?_
              show own_Fin p.tables e below _ (s₁.setTop (mkF m 47 #[.val (.int p0), .val (.int (p0 &&& (7 : Int32)))] [(.int (p0 &&& (7 : Int32)))]))
              refine own_by (fun _ k => XS.bipush X0.here hx rfl (hb hby d1_47) k) ?_
              show own_Fin p.tables e below _ (s₁.setTop (mkF m 49 #[.val (.int p0), .val (.int (p0 &&& (7 : Int32)))] [(.int (6 : Int32)), (.int (p0 &&& (7 : Int32)))]))
              by_cases hc7 : (p0 &&& (7 : Int32)) = (6 : Int32)
              · refine own_by (fun _ k => XS.icmpNo X0.here hx rfl (hb hby d1_49) rfl (teq hc7).2 k) ?_
                show own_Fin p.tables e below _ (s₁.setTop (mkF m 52 #[.val (.int p0), .val (.int (p0 &&& (7 : Int32)))] []))
                refine own_by (fun _ k => XS.bipush X0.here hx rfl (hb hby d1_52) k) ?_
                show own_Fin p.tables e below _ (s₁.setTop (mkF m 54 #[.val (.int p0), .val (.int (p0 &&& (7 : Int32)))] [(.int (-115 : Int32))]))
                have ef : f1 p0 = (-115 : Int32) := by unfold f1; rw [if_neg hc1, if_neg hc2, if_neg hc3, if_neg hc4, if_neg hc5, if_neg hc6, if_pos hc7]
                exact own_retN X0 hx (t := .byte) Bd.returns hlk (by simp) (hb hby d1_54) (by decide) (by decide) ⟨by rw [ef]; rfl, N0, e0⟩
              · refine own_by (fun _ k => XS.icmpYes X0.here hx rfl (pc0 := 49) (pc' := 55) rfl (hb hby d1_49) rfl (feq hc7).2 (by decide) (by decide) k) ?_
                show own_Fin p.tables e below _ (s₁.setTop (mkF m 55 #[.val (.int p0), .val (.int (p0 &&& (7 : Int32)))] []))
                refine own_by (fun _ k => XS.iconst X0.here hx rfl (hb hby d1_55) k) ?_
                show own_Fin p.tables e below _ (s₁.setTop (mkF m 56 #[.val (.int p0), .val (.int (p0 &&& (7 : Int32)))] [(.int (0 : Int32))]))
                have ef : f1 p0 = (0 : Int32) := by unfold f1; rw [if_neg hc1, if_neg hc2, if_neg hc3, if_neg hc4, if_neg hc5, if_neg hc6, if_neg hc7]
                exact own_retN X0 hx (t := .byte) Bd.returns hlk (by simp) (hb hby d1_56) (by decide) (by decide) ⟨by rw [ef]; rfl, N0, e0⟩
theorem d3_0 : decode method_4_code 0 = .ok (.iload_n 1, 1) := by decide +kernel
theorem d3_1 : decode method_4_code 1 = .ok (.iload_n 3, 1) := by decide +kernel
theorem d3_2 : decode method_4_code 2 = .ok (.if_icmp .gt 10, 3) := by decide +kernel
theorem d3_5 : decode method_4_code 5 = .ok (.iload_n 1, 1) := by decide +kernel
theorem d3_6 : decode method_4_code 6 = .ok (.iconst 2, 1) := by decide +kernel
theorem d3_7 : decode method_4_code 7 = .ok (.isub, 1) := by decide +kernel
theorem d3_8 : decode method_4_code 8 = .ok (.iload_n 2, 1) := by decide +kernel
theorem d3_9 : decode method_4_code 9 = .ok (.if_icmp .ge 5, 3) := by decide +kernel
theorem d3_12 : decode method_4_code 12 = .ok (.iconst 0, 1) := by decide +kernel
theorem d3_13 : decode method_4_code 13 = .ok (.ireturn, 1) := by decide +kernel
theorem d3_14 : decode method_4_code 14 = .ok (.aload_n 0, 1) := by decide +kernel
theorem d3_15 : decode method_4_code 15 = .ok (.iload_n 1, 1) := by decide +kernel
theorem d3_16 : decode method_4_code 16 = .ok (.iconst 1, 1) := by decide +kernel
theorem d3_17 : decode method_4_code 17 = .ok (.isub, 1) := by decide +kernel
theorem d3_18 : decode method_4_code 18 = .ok (.baload, 1) := by decide +kernel
theorem d3_19 : decode method_4_code 19 = .ok (.bipush 10, 2) := by decide +kernel
theorem d3_21 : decode method_4_code 21 = .ok (.if_icmp .eq 5, 3) := by decide +kernel
theorem d3_24 : decode method_4_code 24 = .ok (.iconst 0, 1) := by decide +kernel
theorem d3_25 : decode method_4_code 25 = .ok (.ireturn, 1) := by decide +kernel
theorem d3_26 : decode method_4_code 26 = .ok (.aload_n 0, 1) := by decide +kernel
theorem d3_27 : decode method_4_code 27 = .ok (.iload_n 1, 1) := by decide +kernel
theorem d3_28 : decode method_4_code 28 = .ok (.iconst 2, 1) := by decide +kernel
theorem d3_29 : decode method_4_code 29 = .ok (.isub, 1) := by decide +kernel
theorem d3_30 : decode method_4_code 30 = .ok (.baload, 1) := by decide +kernel
theorem d3_31 : decode method_4_code 31 = .ok (.bipush 10, 2) := by decide +kernel
theorem d3_33 : decode method_4_code 33 = .ok (.if_icmp .ne 5, 3) := by decide +kernel
theorem d3_36 : decode method_4_code 36 = .ok (.iconst 1, 1) := by decide +kernel
theorem d3_37 : decode method_4_code 37 = .ok (.ireturn, 1) := by decide +kernel
theorem d3_38 : decode method_4_code 38 = .ok (.aload_n 0, 1) := by decide +kernel
theorem d3_39 : decode method_4_code 39 = .ok (.iload_n 1, 1) := by decide +kernel
theorem d3_40 : decode method_4_code 40 = .ok (.iconst 2, 1) := by decide +kernel
theorem d3_41 : decode method_4_code 41 = .ok (.isub, 1) := by decide +kernel
theorem d3_42 : decode method_4_code 42 = .ok (.baload, 1) := by decide +kernel
theorem d3_43 : decode method_4_code 43 = .ok (.bipush 13, 2) := by decide +kernel
theorem d3_45 : decode method_4_code 45 = .ok (.if_icmp .ne 24, 3) := by decide +kernel
theorem d3_48 : decode method_4_code 48 = .ok (.iload_n 1, 1) := by decide +kernel
theorem d3_49 : decode method_4_code 49 = .ok (.iconst 3, 1) := by decide +kernel
theorem d3_50 : decode method_4_code 50 = .ok (.isub, 1) := by decide +kernel
theorem d3_51 : decode method_4_code 51 = .ok (.iload_n 2, 1) := by decide +kernel
theorem d3_52 : decode method_4_code 52 = .ok (.if_icmp .lt 17, 3) := by decide +kernel
theorem d3_55 : decode method_4_code 55 = .ok (.aload_n 0, 1) := by decide +kernel
theorem d3_56 : decode method_4_code 56 = .ok (.iload_n 1, 1) := by decide +kernel
theorem d3_57 : decode method_4_code 57 = .ok (.iconst 3, 1) := by decide +kernel
theorem d3_58 : decode method_4_code 58 = .ok (.isub, 1) := by decide +kernel
theorem d3_59 : decode method_4_code 59 = .ok (.baload, 1) := by decide +kernel
theorem d3_60 : decode method_4_code 60 = .ok (.bipush 10, 2) := by decide +kernel
theorem d3_62 : decode method_4_code 62 = .ok (.if_icmp .ne 7, 3) := by decide +kernel
theorem d3_65 : decode method_4_code 65 = .ok (.iconst 1, 1) := by decide +kernel
theorem d3_66 : decode method_4_code 66 = .ok (.goto 4, 3) := by decide +kernel
theorem d3_69 : decode method_4_code 69 = .ok (.iconst 0, 1) := by decide +kernel
theorem d3_70 : decode method_4_code 70 = .ok (.ireturn, 1) := by decide +kernel
theorem ef_3 (m : MethodId) (o0 : Addr) (p1 : Int32) (p2 : Int32) (p3 : Int32) : entryFrame m #[(.ref o0), (.int p1), (.int p2), (.int p3)] 4 = mkF m 0 #[.val (.ref o0), .val (.int p1), .val (.int p2), .val (.int p3)] [] := by first | (simp [entryFrame, mkF, argsToLocals, Value.category]; done) | rfl
def f3 (z_o0 : Int32) (B_o0 : Int32 → Int32) (p1 : Int32) (p2 : Int32) (p3 : Int32) : Int32 :=
  if p3 < p1 then
    (0 : Int32)
  else
    if (p1 - (2 : Int32)) < p2 then
      (0 : Int32)
    else
      if (B_o0 (p1 - (1 : Int32))) = (10 : Int32) then
        if (B_o0 (p1 - (2 : Int32))) = (10 : Int32) then
          (1 : Int32)
        else
          if (B_o0 (p1 - (2 : Int32))) = (13 : Int32) then
            if (p1 - (3 : Int32)) < p2 then
              (0 : Int32)
            else
              if (B_o0 (p1 - (3 : Int32))) = (10 : Int32) then
                (1 : Int32)
              else
                (0 : Int32)
          else
            (0 : Int32)
      else
        (0 : Int32)
def Q3 (z_o0 : Int32) (B_o0 : Int32 → Int32) (p1 : Int32) (p2 : Int32) (p3 : Int32) (h0 : Heap) (n0 : Nat) (v : Option Value) (h : Heap) (L : List Loc) : Prop := v = some (.int (f3 z_o0 B_o0 p1 p2 p3)) ∧ Fr n0 L ∧ h = h0
set_option maxRecDepth 65536 in
set_option maxHeartbeats 40000000 in
theorem rm3 (l : Launch) (Z : State) (a0 : Array Value) (hw : ∀ d ∈ tables_1, d.before a0 Z = true) (ws : List Jvm.Cond) (o0 : Addr) (p1 : Int32) (p2 : Int32) (p3 : Int32) (z_o0 : Int32) (B_o0 : Int32 → Int32)  (h0 : Heap) (n0 : Nat) (Z0 : n0 ≤ h0.size) (V_o0 : own_Byt Z h0 o0 z_o0 B_o0) (hz : p3.toInt ≤ z_o0.toInt) (he2 : 2 ≤ p1.toInt) (he6 : p1.toInt ≤ 6) (hf : 0 ≤ p2.toInt) :
    MetFree l (⟨"com/example/agouti/agouti/server/RequestHeadEndPinLaw", "endsAt", "([BIII)Z"⟩ : MethodName) (head1 (Jvm.Cond.code (⟨"com/example/agouti/agouti/server/RequestHeadEndPinLaw", "endsAt", "([BIII)Z"⟩ : MethodName) method_4_code 4 (some .boolean) :: ws) ({ frames := 0, cells := 0, slots := 0, locals := 0 } : Room)) (fun a U => a = #[(.ref o0), (.int p1), (.int p2), (.int p3)] ∧ Z.Warmed39 U.vm ∧ U.heap = h0) (fun _ _ _ _ _ => True) (fun _ U o U' => ∃ v L, o = .returned v ∧ Q3 z_o0 B_o0 p1 p2 p3 h0 n0 v U'.heap L ∧ FrameEnd U o U' L ({ frames := 0, cells := 0, slots := 0, locals := 0 } : Room).cells ({ frames := 0, cells := 0, slots := 0, locals := 0 } : Room).slots) := by
  refine MetFree.of_bodySF (plainFor_of_name pn_com_example_agouti_agouti_server_RequestHeadEndPinLaw) hisR ?_
  intro p e s m args below meth c s₁ Bd hml0 hP hK
  obtain ⟨rfl, hZ, hh⟩ := hP
  have hx := Bd.exec
  have hby := Bd.bytes
  have hlk : meth.locks = false := BodyLoose.notSynchronized Bd
  have hml : c.maxLocals = 4 := hml0
  have hown : s.vm.findClass "com/example/agouti/agouti/server/RequestHeadEndPinLaw" = some m.cls := findClass_of_methodNamed Bd.named
  have hnm := (name_of_methodNamed Bd.named Bd.method).1
  have X0 : Stand p l e ({ frames := 0, cells := 0, slots := 0, locals := 0 } : Room) s m #[(.ref o0), (.int p1), (.int p2), (.int p3)] below meth c s₁ [] 0 0 := Stand.of_body Bd
  have e0 : s₁.heap = h0 := by rw [← hh, Bd.state]; rfl
  have N0 := Fr.nil n0
  refine own_by (U' := s₁.setTop (mkF m 0 #[.val (.ref o0), .val (.int p1), .val (.int p2), .val (.int p3)] [])) (fun t k => castTop (ef_3 m o0 p1 p2 p3) k) ?_
  have s1 : (p1 - (1 : Int32)).toInt = p1.toInt - 1 := by rw [own_sub _ _ (by rw [own_l1]; omega) (by rw [own_l1]; omega), own_l1]
  have s2 : (p1 - (2 : Int32)).toInt = p1.toInt - 2 := by rw [own_sub _ _ (by rw [own_l2]; omega) (by rw [own_l2]; omega), own_l2]
  have s3 : (p1 - (3 : Int32)).toInt = p1.toInt - 3 := by rw [own_sub _ _ (by rw [own_l3]; omega) (by rw [own_l3]; omega), own_l3]
  refine own_by (fun _ k => XS.iloadN X0.here hx rfl (hb hby d3_0) rfl k) ?_
  show own_Fin p.tables e below _ (s₁.setTop (mkF m 1 #[.val (.ref o0), .val (.int p1), .val (.int p2), .val (.int p3)] [(.int p1)]))
  refine own_by (fun _ k => XS.iloadN X0.here hx rfl (hb hby d3_1) rfl k) ?_
  show own_Fin p.tables e below _ (s₁.setTop (mkF m 2 #[.val (.ref o0), .val (.int p1), .val (.int p2), .val (.int p3)] [(.int p3), (.int p1)]))
  by_cases hc1 : p3 < p1
  · refine own_by (fun _ k => XS.icmpYes X0.here hx rfl (pc0 := 2) (pc' := 12) rfl (hb hby d3_2) rfl (tlt hc1).2.2.1 (by decide) (by decide) k) ?_
    show own_Fin p.tables e below _ (s₁.setTop (mkF m 12 #[.val (.ref o0), .val (.int p1), .val (.int p2), .val (.int p3)] []))
    refine own_by (fun _ k => XS.iconst X0.here hx rfl (hb hby d3_12) k) ?_
    show own_Fin p.tables e below _ (s₁.setTop (mkF m 13 #[.val (.ref o0), .val (.int p1), .val (.int p2), .val (.int p3)] [(.int (0 : Int32))]))
    have ef : f3 z_o0 B_o0 p1 p2 p3 = (0 : Int32) := by unfold f3; rw [if_pos hc1]
    exact own_retN X0 hx (t := .boolean) Bd.returns hlk (by simp) (hb hby d3_13) (by decide) (by decide) ⟨by rw [ef]; rfl, N0, e0⟩
  · refine own_by (fun _ k => XS.icmpNo X0.here hx rfl (hb hby d3_2) rfl (flt hc1).2.2.1 k) ?_
    show own_Fin p.tables e below _ (s₁.setTop (mkF m 5 #[.val (.ref o0), .val (.int p1), .val (.int p2), .val (.int p3)] []))
    refine own_by (fun _ k => XS.iloadN X0.here hx rfl (hb hby d3_5) rfl k) ?_
    show own_Fin p.tables e below _ (s₁.setTop (mkF m 6 #[.val (.ref o0), .val (.int p1), .val (.int p2), .val (.int p3)] [(.int p1)]))
    refine own_by (fun _ k => XS.iconst X0.here hx rfl (hb hby d3_6) k) ?_
    show own_Fin p.tables e below _ (s₁.setTop (mkF m 7 #[.val (.ref o0), .val (.int p1), .val (.int p2), .val (.int p3)] [(.int (2 : Int32)), (.int p1)]))
    refine own_by (fun _ k => XS.isub X0.here hx rfl (hb hby d3_7) rfl k) ?_
    show own_Fin p.tables e below _ (s₁.setTop (mkF m 8 #[.val (.ref o0), .val (.int p1), .val (.int p2), .val (.int p3)] [(.int (p1 - (2 : Int32)))]))
    refine own_by (fun _ k => XS.iloadN X0.here hx rfl (hb hby d3_8) rfl k) ?_
    show own_Fin p.tables e below _ (s₁.setTop (mkF m 9 #[.val (.ref o0), .val (.int p1), .val (.int p2), .val (.int p3)] [(.int p2), (.int (p1 - (2 : Int32)))]))
    by_cases hc2 : (p1 - (2 : Int32)) < p2
    · refine own_by (fun _ k => XS.icmpNo X0.here hx rfl (hb hby d3_9) rfl (tlt hc2).2.1 k) ?_
      show own_Fin p.tables e below _ (s₁.setTop (mkF m 12 #[.val (.ref o0), .val (.int p1), .val (.int p2), .val (.int p3)] []))
      refine own_by (fun _ k => XS.iconst X0.here hx rfl (hb hby d3_12) k) ?_
      show own_Fin p.tables e below _ (s₁.setTop (mkF m 13 #[.val (.ref o0), .val (.int p1), .val (.int p2), .val (.int p3)] [(.int (0 : Int32))]))
      have ef : f3 z_o0 B_o0 p1 p2 p3 = (0 : Int32) := by unfold f3; rw [if_neg hc1, if_pos hc2]
      exact own_retN X0 hx (t := .boolean) Bd.returns hlk (by simp) (hb hby d3_13) (by decide) (by decide) ⟨by rw [ef]; rfl, N0, e0⟩
    · refine own_by (fun _ k => XS.icmpYes X0.here hx rfl (pc0 := 9) (pc' := 14) rfl (hb hby d3_9) rfl (flt hc2).2.1 (by decide) (by decide) k) ?_
      show own_Fin p.tables e below _ (s₁.setTop (mkF m 14 #[.val (.ref o0), .val (.int p1), .val (.int p2), .val (.int p3)] []))
      refine own_by (fun _ k => XS.aloadN X0.here hx rfl (hb hby d3_14) rfl rfl k) ?_
      show own_Fin p.tables e below _ (s₁.setTop (mkF m 15 #[.val (.ref o0), .val (.int p1), .val (.int p2), .val (.int p3)] [(.ref o0)]))
      refine own_by (fun _ k => XS.iloadN X0.here hx rfl (hb hby d3_15) rfl k) ?_
      show own_Fin p.tables e below _ (s₁.setTop (mkF m 16 #[.val (.ref o0), .val (.int p1), .val (.int p2), .val (.int p3)] [(.int p1), (.ref o0)]))
      refine own_by (fun _ k => XS.iconst X0.here hx rfl (hb hby d3_16) k) ?_
      show own_Fin p.tables e below _ (s₁.setTop (mkF m 17 #[.val (.ref o0), .val (.int p1), .val (.int p2), .val (.int p3)] [(.int (1 : Int32)), (.int p1), (.ref o0)]))
      refine own_by (fun _ k => XS.isub X0.here hx rfl (hb hby d3_17) rfl k) ?_
      show own_Fin p.tables e below _ (s₁.setTop (mkF m 18 #[.val (.ref o0), .val (.int p1), .val (.int p2), .val (.int p3)] [(.int (p1 - (1 : Int32))), (.ref o0)]))
      refine own_by (own_bal X0 hx hZ e0 V_o0 (j := (p1 - (1 : Int32))) (own_nn (by omega)) (own_ltof (by have := own_ge hc1; omega)) (g := (mkF m 18 #[.val (.ref o0), .val (.int p1), .val (.int p2), .val (.int p3)] [(.int (p1 - (1 : Int32))), (.ref o0)])) rfl rfl (hb hby d3_18)) ?_
      show own_Fin p.tables e below _ (s₁.setTop (mkF m 19 #[.val (.ref o0), .val (.int p1), .val (.int p2), .val (.int p3)] [(.int (B_o0 (p1 - (1 : Int32))))]))
      refine own_by (fun _ k => XS.bipush X0.here hx rfl (hb hby d3_19) k) ?_
      show own_Fin p.tables e below _ (s₁.setTop (mkF m 21 #[.val (.ref o0), .val (.int p1), .val (.int p2), .val (.int p3)] [(.int (10 : Int32)), (.int (B_o0 (p1 - (1 : Int32))))]))
      by_cases hc3 : (B_o0 (p1 - (1 : Int32))) = (10 : Int32)
      · refine own_by (fun _ k => XS.icmpYes X0.here hx rfl (pc0 := 21) (pc' := 26) rfl (hb hby d3_21) rfl (teq hc3).1 (by decide) (by decide) k) ?_
        show own_Fin p.tables e below _ (s₁.setTop (mkF m 26 #[.val (.ref o0), .val (.int p1), .val (.int p2), .val (.int p3)] []))
        refine own_by (fun _ k => XS.aloadN X0.here hx rfl (hb hby d3_26) rfl rfl k) ?_
        show own_Fin p.tables e below _ (s₁.setTop (mkF m 27 #[.val (.ref o0), .val (.int p1), .val (.int p2), .val (.int p3)] [(.ref o0)]))
        refine own_by (fun _ k => XS.iloadN X0.here hx rfl (hb hby d3_27) rfl k) ?_
        show own_Fin p.tables e below _ (s₁.setTop (mkF m 28 #[.val (.ref o0), .val (.int p1), .val (.int p2), .val (.int p3)] [(.int p1), (.ref o0)]))
        refine own_by (fun _ k => XS.iconst X0.here hx rfl (hb hby d3_28) k) ?_
        show own_Fin p.tables e below _ (s₁.setTop (mkF m 29 #[.val (.ref o0), .val (.int p1), .val (.int p2), .val (.int p3)] [(.int (2 : Int32)), (.int p1), (.ref o0)]))
        refine own_by (fun _ k => XS.isub X0.here hx rfl (hb hby d3_29) rfl k) ?_
        show own_Fin p.tables e below _ (s₁.setTop (mkF m 30 #[.val (.ref o0), .val (.int p1), .val (.int p2), .val (.int p3)] [(.int (p1 - (2 : Int32))), (.ref o0)]))
        refine own_by (own_bal X0 hx hZ e0 V_o0 (j := (p1 - (2 : Int32))) (own_nn (by omega)) (own_ltof (by have := own_ge hc1; omega)) (g := (mkF m 30 #[.val (.ref o0), .val (.int p1), .val (.int p2), .val (.int p3)] [(.int (p1 - (2 : Int32))), (.ref o0)])) rfl rfl (hb hby d3_30)) ?_
        show own_Fin p.tables e below _ (s₁.setTop (mkF m 31 #[.val (.ref o0), .val (.int p1), .val (.int p2), .val (.int p3)] [(.int (B_o0 (p1 - (2 : Int32))))]))
        refine own_by (fun _ k => XS.bipush X0.here hx rfl (hb hby d3_31) k) ?_
        show own_Fin p.tables e below _ (s₁.setTop (mkF m 33 #[.val (.ref o0), .val (.int p1), .val (.int p2), .val (.int p3)] [(.int (10 : Int32)), (.int (B_o0 (p1 - (2 : Int32))))]))
        by_cases hc4 : (B_o0 (p1 - (2 : Int32))) = (10 : Int32)
        · refine own_by (fun _ k => XS.icmpNo X0.here hx rfl (hb hby d3_33) rfl (teq hc4).2 k) ?_
          show own_Fin p.tables e below _ (s₁.setTop (mkF m 36 #[.val (.ref o0), .val (.int p1), .val (.int p2), .val (.int p3)] []))
          refine own_by (fun _ k => XS.iconst X0.here hx rfl (hb hby d3_36) k) ?_
          show own_Fin p.tables e below _ (s₁.setTop (mkF m 37 #[.val (.ref o0), .val (.int p1), .val (.int p2), .val (.int p3)] [(.int (1 : Int32))]))
          have ef : f3 z_o0 B_o0 p1 p2 p3 = (1 : Int32) := by unfold f3; rw [if_neg hc1, if_neg hc2, if_pos hc3, if_pos hc4]
          exact own_retN X0 hx (t := .boolean) Bd.returns hlk (by simp) (hb hby d3_37) (by decide) (by decide) ⟨by rw [ef]; rfl, N0, e0⟩
        · refine own_by (fun _ k => XS.icmpYes X0.here hx rfl (pc0 := 33) (pc' := 38) rfl (hb hby d3_33) rfl (feq hc4).2 (by decide) (by decide) k) ?_
          show own_Fin p.tables e below _ (s₁.setTop (mkF m 38 #[.val (.ref o0), .val (.int p1), .val (.int p2), .val (.int p3)] []))
          refine own_by (fun _ k => XS.aloadN X0.here hx rfl (hb hby d3_38) rfl rfl k) ?_
          show own_Fin p.tables e below _ (s₁.setTop (mkF m 39 #[.val (.ref o0), .val (.int p1), .val (.int p2), .val (.int p3)] [(.ref o0)]))
          refine own_by (fun _ k => XS.iloadN X0.here hx rfl (hb hby d3_39) rfl k) ?_
          show own_Fin p.tables e below _ (s₁.setTop (mkF m 40 #[.val (.ref o0), .val (.int p1), .val (.int p2), .val (.int p3)] [(.int p1), (.ref o0)]))
          refine own_by (fun _ k => XS.iconst X0.here hx rfl (hb hby d3_40) k) ?_
          show own_Fin p.tables e below _ (s₁.setTop (mkF m 41 #[.val (.ref o0), .val (.int p1), .val (.int p2), .val (.int p3)] [(.int (2 : Int32)), (.int p1), (.ref o0)]))
          refine own_by (fun _ k => XS.isub X0.here hx rfl (hb hby d3_41) rfl k) ?_
          show own_Fin p.tables e below _ (s₁.setTop (mkF m 42 #[.val (.ref o0), .val (.int p1), .val (.int p2), .val (.int p3)] [(.int (p1 - (2 : Int32))), (.ref o0)]))
          refine own_by (own_bal X0 hx hZ e0 V_o0 (j := (p1 - (2 : Int32))) (own_nn (by omega)) (own_ltof (by have := own_ge hc1; omega)) (g := (mkF m 42 #[.val (.ref o0), .val (.int p1), .val (.int p2), .val (.int p3)] [(.int (p1 - (2 : Int32))), (.ref o0)])) rfl rfl (hb hby d3_42)) ?_
          show own_Fin p.tables e below _ (s₁.setTop (mkF m 43 #[.val (.ref o0), .val (.int p1), .val (.int p2), .val (.int p3)] [(.int (B_o0 (p1 - (2 : Int32))))]))
          refine own_by (fun _ k => XS.bipush X0.here hx rfl (hb hby d3_43) k) ?_
          show own_Fin p.tables e below _ (s₁.setTop (mkF m 45 #[.val (.ref o0), .val (.int p1), .val (.int p2), .val (.int p3)] [(.int (13 : Int32)), (.int (B_o0 (p1 - (2 : Int32))))]))
          by_cases hc5 : (B_o0 (p1 - (2 : Int32))) = (13 : Int32)
          · refine own_by (fun _ k => XS.icmpNo X0.here hx rfl (hb hby d3_45) rfl (teq hc5).2 k) ?_
            show own_Fin p.tables e below _ (s₁.setTop (mkF m 48 #[.val (.ref o0), .val (.int p1), .val (.int p2), .val (.int p3)] []))
            refine own_by (fun _ k => XS.iloadN X0.here hx rfl (hb hby d3_48) rfl k) ?_
            show own_Fin p.tables e below _ (s₁.setTop (mkF m 49 #[.val (.ref o0), .val (.int p1), .val (.int p2), .val (.int p3)] [(.int p1)]))
            refine own_by (fun _ k => XS.iconst X0.here hx rfl (hb hby d3_49) k) ?_
            show own_Fin p.tables e below _ (s₁.setTop (mkF m 50 #[.val (.ref o0), .val (.int p1), .val (.int p2), .val (.int p3)] [(.int (3 : Int32)), (.int p1)]))
            refine own_by (fun _ k => XS.isub X0.here hx rfl (hb hby d3_50) rfl k) ?_
            show own_Fin p.tables e below _ (s₁.setTop (mkF m 51 #[.val (.ref o0), .val (.int p1), .val (.int p2), .val (.int p3)] [(.int (p1 - (3 : Int32)))]))
            refine own_by (fun _ k => XS.iloadN X0.here hx rfl (hb hby d3_51) rfl k) ?_
            show own_Fin p.tables e below _ (s₁.setTop (mkF m 52 #[.val (.ref o0), .val (.int p1), .val (.int p2), .val (.int p3)] [(.int p2), (.int (p1 - (3 : Int32)))]))
            by_cases hc6 : (p1 - (3 : Int32)) < p2
            · refine own_by (fun _ k => XS.icmpYes X0.here hx rfl (pc0 := 52) (pc' := 69) rfl (hb hby d3_52) rfl (tlt hc6).1 (by decide) (by decide) k) ?_
              show own_Fin p.tables e below _ (s₁.setTop (mkF m 69 #[.val (.ref o0), .val (.int p1), .val (.int p2), .val (.int p3)] []))
              refine own_by (fun _ k => XS.iconst X0.here hx rfl (hb hby d3_69) k) ?_
              show own_Fin p.tables e below _ (s₁.setTop (mkF m 70 #[.val (.ref o0), .val (.int p1), .val (.int p2), .val (.int p3)] [(.int (0 : Int32))]))
              have ef : f3 z_o0 B_o0 p1 p2 p3 = (0 : Int32) := by unfold f3; rw [if_neg hc1, if_neg hc2, if_pos hc3, if_neg hc4, if_pos hc5, if_pos hc6]
              exact own_retN X0 hx (t := .boolean) Bd.returns hlk (by simp) (hb hby d3_70) (by decide) (by decide) ⟨by rw [ef]; rfl, N0, e0⟩
            · refine own_by (fun _ k => XS.icmpNo X0.here hx rfl (hb hby d3_52) rfl (flt hc6).1 k) ?_
              show own_Fin p.tables e below _ (s₁.setTop (mkF m 55 #[.val (.ref o0), .val (.int p1), .val (.int p2), .val (.int p3)] []))
              refine own_by (fun _ k => XS.aloadN X0.here hx rfl (hb hby d3_55) rfl rfl k) ?_
              show own_Fin p.tables e below _ (s₁.setTop (mkF m 56 #[.val (.ref o0), .val (.int p1), .val (.int p2), .val (.int p3)] [(.ref o0)]))
              refine own_by (fun _ k => XS.iloadN X0.here hx rfl (hb hby d3_56) rfl k) ?_
              show own_Fin p.tables e below _ (s₁.setTop (mkF m 57 #[.val (.ref o0), .val (.int p1), .val (.int p2), .val (.int p3)] [(.int p1), (.ref o0)]))
              refine own_by (fun _ k => XS.iconst X0.here hx rfl (hb hby d3_57) k) ?_
              show own_Fin p.tables e below _ (s₁.setTop (mkF m 58 #[.val (.ref o0), .val (.int p1), .val (.int p2), .val (.int p3)] [(.int (3 : Int32)), (.int p1), (.ref o0)]))
              refine own_by (fun _ k => XS.isub X0.here hx rfl (hb hby d3_58) rfl k) ?_
              show own_Fin p.tables e below _ (s₁.setTop (mkF m 59 #[.val (.ref o0), .val (.int p1), .val (.int p2), .val (.int p3)] [(.int (p1 - (3 : Int32))), (.ref o0)]))
              refine own_by (own_bal X0 hx hZ e0 V_o0 (j := (p1 - (3 : Int32))) (own_nn (by have := own_ge hc6; omega)) (own_ltof (by have := own_ge hc1; omega)) (g := (mkF m 59 #[.val (.ref o0), .val (.int p1), .val (.int p2), .val (.int p3)] [(.int (p1 - (3 : Int32))), (.ref o0)])) rfl rfl (hb hby d3_59)) ?_
              show own_Fin p.tables e below _ (s₁.setTop (mkF m 60 #[.val (.ref o0), .val (.int p1), .val (.int p2), .val (.int p3)] [(.int (B_o0 (p1 - (3 : Int32))))]))
              refine own_by (fun _ k => XS.bipush X0.here hx rfl (hb hby d3_60) k) ?_
              show own_Fin p.tables e below _ (s₁.setTop (mkF m 62 #[.val (.ref o0), .val (.int p1), .val (.int p2), .val (.int p3)] [(.int (10 : Int32)), (.int (B_o0 (p1 - (3 : Int32))))]))
              by_cases hc7 : (B_o0 (p1 - (3 : Int32))) = (10 : Int32)
              · refine own_by (fun _ k => XS.icmpNo X0.here hx rfl (hb hby d3_62) rfl (teq hc7).2 k) ?_
                show own_Fin p.tables e below _ (s₁.setTop (mkF m 65 #[.val (.ref o0), .val (.int p1), .val (.int p2), .val (.int p3)] []))
                refine own_by (fun _ k => XS.iconst X0.here hx rfl (hb hby d3_65) k) ?_
                show own_Fin p.tables e below _ (s₁.setTop (mkF m 66 #[.val (.ref o0), .val (.int p1), .val (.int p2), .val (.int p3)] [(.int (1 : Int32))]))
                refine own_by (fun _ k => XS.goto X0.here hx rfl (pc0 := 66) (pc' := 70) rfl (hb hby d3_66) (by decide) (by decide) k) ?_
                show own_Fin p.tables e below _ (s₁.setTop (mkF m 70 #[.val (.ref o0), .val (.int p1), .val (.int p2), .val (.int p3)] [(.int (1 : Int32))]))
                have ef : f3 z_o0 B_o0 p1 p2 p3 = (1 : Int32) := by unfold f3; rw [if_neg hc1, if_neg hc2, if_pos hc3, if_neg hc4, if_pos hc5, if_neg hc6, if_pos hc7]
                exact own_retN X0 hx (t := .boolean) Bd.returns hlk (by simp) (hb hby d3_70) (by decide) (by decide) ⟨by rw [ef]; rfl, N0, e0⟩
              · refine own_by (fun _ k => XS.icmpYes X0.here hx rfl (pc0 := 62) (pc' := 69) rfl (hb hby d3_62) rfl (feq hc7).2 (by decide) (by decide) k) ?_
                show own_Fin p.tables e below _ (s₁.setTop (mkF m 69 #[.val (.ref o0), .val (.int p1), .val (.int p2), .val (.int p3)] []))
                refine own_by (fun _ k => XS.iconst X0.here hx rfl (hb hby d3_69) k) ?_
                show own_Fin p.tables e below _ (s₁.setTop (mkF m 70 #[.val (.ref o0), .val (.int p1), .val (.int p2), .val (.int p3)] [(.int (0 : Int32))]))
                have ef : f3 z_o0 B_o0 p1 p2 p3 = (0 : Int32) := by unfold f3; rw [if_neg hc1, if_neg hc2, if_pos hc3, if_neg hc4, if_pos hc5, if_neg hc6, if_neg hc7]
                exact own_retN X0 hx (t := .boolean) Bd.returns hlk (by simp) (hb hby d3_70) (by decide) (by decide) ⟨by rw [ef]; rfl, N0, e0⟩
          · refine own_by (fun _ k => XS.icmpYes X0.here hx rfl (pc0 := 45) (pc' := 69) rfl (hb hby d3_45) rfl (feq hc5).2 (by decide) (by decide) k) ?_
            show own_Fin p.tables e below _ (s₁.setTop (mkF m 69 #[.val (.ref o0), .val (.int p1), .val (.int p2), .val (.int p3)] []))
            refine own_by (fun _ k => XS.iconst X0.here hx rfl (hb hby d3_69) k) ?_
            show own_Fin p.tables e below _ (s₁.setTop (mkF m 70 #[.val (.ref o0), .val (.int p1), .val (.int p2), .val (.int p3)] [(.int (0 : Int32))]))
            have ef : f3 z_o0 B_o0 p1 p2 p3 = (0 : Int32) := by unfold f3; rw [if_neg hc1, if_neg hc2, if_pos hc3, if_neg hc4, if_neg hc5]
            exact own_retN X0 hx (t := .boolean) Bd.returns hlk (by simp) (hb hby d3_70) (by decide) (by decide) ⟨by rw [ef]; rfl, N0, e0⟩
      · refine own_by (fun _ k => XS.icmpNo X0.here hx rfl (hb hby d3_21) rfl (feq hc3).1 k) ?_
        show own_Fin p.tables e below _ (s₁.setTop (mkF m 24 #[.val (.ref o0), .val (.int p1), .val (.int p2), .val (.int p3)] []))
        refine own_by (fun _ k => XS.iconst X0.here hx rfl (hb hby d3_24) k) ?_
        show own_Fin p.tables e below _ (s₁.setTop (mkF m 25 #[.val (.ref o0), .val (.int p1), .val (.int p2), .val (.int p3)] [(.int (0 : Int32))]))
        have ef : f3 z_o0 B_o0 p1 p2 p3 = (0 : Int32) := by unfold f3; rw [if_neg hc1, if_neg hc2, if_neg hc3]
        exact own_retN X0 hx (t := .boolean) Bd.returns hlk (by simp) (hb hby d3_25) (by decide) (by decide) ⟨by rw [ef]; rfl, N0, e0⟩
theorem d2_0 : decode method_5_code 0 = .ok (.aload_n 0, 1) := by decide +kernel
theorem d2_1 : decode method_5_code 1 = .ok (.iconst 2, 1) := by decide +kernel
theorem d2_2 : decode method_5_code 2 = .ok (.iload_n 1, 1) := by decide +kernel
theorem d2_3 : decode method_5_code 3 = .ok (.iload_n 2, 1) := by decide +kernel
theorem d2_4 : decode method_5_code 4 = .ok (.invokestatic 24, 3) := by decide +kernel
theorem d2_7 : decode method_5_code 7 = .ok (.ifCond .eq 5, 3) := by decide +kernel
theorem d2_10 : decode method_5_code 10 = .ok (.iconst 2, 1) := by decide +kernel
theorem d2_11 : decode method_5_code 11 = .ok (.ireturn, 1) := by decide +kernel
theorem d2_12 : decode method_5_code 12 = .ok (.aload_n 0, 1) := by decide +kernel
theorem d2_13 : decode method_5_code 13 = .ok (.iconst 3, 1) := by decide +kernel
theorem d2_14 : decode method_5_code 14 = .ok (.iload_n 1, 1) := by decide +kernel
theorem d2_15 : decode method_5_code 15 = .ok (.iload_n 2, 1) := by decide +kernel
theorem d2_16 : decode method_5_code 16 = .ok (.invokestatic 24, 3) := by decide +kernel
theorem d2_19 : decode method_5_code 19 = .ok (.ifCond .eq 5, 3) := by decide +kernel
theorem d2_22 : decode method_5_code 22 = .ok (.iconst 3, 1) := by decide +kernel
theorem d2_23 : decode method_5_code 23 = .ok (.ireturn, 1) := by decide +kernel
theorem d2_24 : decode method_5_code 24 = .ok (.aload_n 0, 1) := by decide +kernel
theorem d2_25 : decode method_5_code 25 = .ok (.iconst 4, 1) := by decide +kernel
theorem d2_26 : decode method_5_code 26 = .ok (.iload_n 1, 1) := by decide +kernel
theorem d2_27 : decode method_5_code 27 = .ok (.iload_n 2, 1) := by decide +kernel
theorem d2_28 : decode method_5_code 28 = .ok (.invokestatic 24, 3) := by decide +kernel
theorem d2_31 : decode method_5_code 31 = .ok (.ifCond .eq 5, 3) := by decide +kernel
theorem d2_34 : decode method_5_code 34 = .ok (.iconst 4, 1) := by decide +kernel
theorem d2_35 : decode method_5_code 35 = .ok (.ireturn, 1) := by decide +kernel
theorem d2_36 : decode method_5_code 36 = .ok (.aload_n 0, 1) := by decide +kernel
theorem d2_37 : decode method_5_code 37 = .ok (.iconst 5, 1) := by decide +kernel
theorem d2_38 : decode method_5_code 38 = .ok (.iload_n 1, 1) := by decide +kernel
theorem d2_39 : decode method_5_code 39 = .ok (.iload_n 2, 1) := by decide +kernel
theorem d2_40 : decode method_5_code 40 = .ok (.invokestatic 24, 3) := by decide +kernel
theorem d2_43 : decode method_5_code 43 = .ok (.ifCond .eq 5, 3) := by decide +kernel
theorem d2_46 : decode method_5_code 46 = .ok (.iconst 5, 1) := by decide +kernel
theorem d2_47 : decode method_5_code 47 = .ok (.ireturn, 1) := by decide +kernel
theorem d2_48 : decode method_5_code 48 = .ok (.aload_n 0, 1) := by decide +kernel
theorem d2_49 : decode method_5_code 49 = .ok (.bipush 6, 2) := by decide +kernel
theorem d2_51 : decode method_5_code 51 = .ok (.iload_n 1, 1) := by decide +kernel
theorem d2_52 : decode method_5_code 52 = .ok (.iload_n 2, 1) := by decide +kernel
theorem d2_53 : decode method_5_code 53 = .ok (.invokestatic 24, 3) := by decide +kernel
theorem d2_56 : decode method_5_code 56 = .ok (.ifCond .eq 6, 3) := by decide +kernel
theorem d2_59 : decode method_5_code 59 = .ok (.bipush 6, 2) := by decide +kernel
theorem d2_61 : decode method_5_code 61 = .ok (.ireturn, 1) := by decide +kernel
theorem d2_62 : decode method_5_code 62 = .ok (.iconst (-1), 1) := by decide +kernel
theorem d2_63 : decode method_5_code 63 = .ok (.ireturn, 1) := by decide +kernel
theorem pd___BIII_Z : parseMethodDescriptor "([BIII)Z" = some ⟨[(.array .byte), .int, .int, .int], some .boolean⟩ := by decide +kernel
theorem ef_2 (m : MethodId) (o0 : Addr) (p1 : Int32) (p2 : Int32) : entryFrame m #[(.ref o0), (.int p1), (.int p2)] 3 = mkF m 0 #[.val (.ref o0), .val (.int p1), .val (.int p2)] [] := by first | (simp [entryFrame, mkF, argsToLocals, Value.category]; done) | rfl
def f2 (z_o0 : Int32) (B_o0 : Int32 → Int32) (p1 : Int32) (p2 : Int32) : Int32 :=
  if (f3 z_o0 B_o0 (2 : Int32) p1 p2) = (0 : Int32) then
    if (f3 z_o0 B_o0 (3 : Int32) p1 p2) = (0 : Int32) then
      if (f3 z_o0 B_o0 (4 : Int32) p1 p2) = (0 : Int32) then
        if (f3 z_o0 B_o0 (5 : Int32) p1 p2) = (0 : Int32) then
          if (f3 z_o0 B_o0 (6 : Int32) p1 p2) = (0 : Int32) then
            (-1 : Int32)
          else
            (6 : Int32)
        else
          (5 : Int32)
      else
        (4 : Int32)
    else
      (3 : Int32)
  else
    (2 : Int32)
def Q2 (z_o0 : Int32) (B_o0 : Int32 → Int32) (p1 : Int32) (p2 : Int32) (h0 : Heap) (n0 : Nat) (v : Option Value) (h : Heap) (L : List Loc) : Prop := v = some (.int (f2 z_o0 B_o0 p1 p2)) ∧ Fr n0 L ∧ h = h0
set_option maxRecDepth 65536 in
set_option maxHeartbeats 40000000 in
theorem rm2 (l : Launch) (Z : State) (a0 : Array Value) (hw : ∀ d ∈ tables_1, d.before a0 Z = true) (ws : List Jvm.Cond) (o0 : Addr) (p1 : Int32) (p2 : Int32) (z_o0 : Int32) (B_o0 : Int32 → Int32)  (h0 : Heap) (n0 : Nat) (Z0 : n0 ≤ h0.size) (V_o0 : own_Byt Z h0 o0 z_o0 B_o0) (hz : p2.toInt ≤ z_o0.toInt) (hf : 0 ≤ p1.toInt) :
    MetFree l (⟨"com/example/agouti/agouti/server/RequestHeadEndPinLaw", "ref", "([BII)I"⟩ : MethodName) (head1 (Jvm.Cond.code (⟨"com/example/agouti/agouti/server/RequestHeadEndPinLaw", "ref", "([BII)I"⟩ : MethodName) method_5_code 3 (some .int) :: ws) ({ frames := 1, cells := 0, slots := 0, locals := 15 } : Room)) (fun a U => a = #[(.ref o0), (.int p1), (.int p2)] ∧ Z.Warmed39 U.vm ∧ U.heap = h0) (fun _ _ _ _ _ => True) (fun _ U o U' => ∃ v L, o = .returned v ∧ Q2 z_o0 B_o0 p1 p2 h0 n0 v U'.heap L ∧ FrameEnd U o U' L ({ frames := 1, cells := 0, slots := 0, locals := 15 } : Room).cells ({ frames := 1, cells := 0, slots := 0, locals := 15 } : Room).slots) := by
  refine MetFree.of_bodySF (plainFor_of_name pn_com_example_agouti_agouti_server_RequestHeadEndPinLaw) hisR ?_
  intro p e s m args below meth c s₁ Bd hml0 hP hK
  obtain ⟨rfl, hZ, hh⟩ := hP
  have hx := Bd.exec
  have hby := Bd.bytes
  have hlk : meth.locks = false := BodyLoose.notSynchronized Bd
  have hml : c.maxLocals = 3 := hml0
  have hown : s.vm.findClass "com/example/agouti/agouti/server/RequestHeadEndPinLaw" = some m.cls := findClass_of_methodNamed Bd.named
  have hnm := (name_of_methodNamed Bd.named Bd.method).1
  have X0 : Stand p l e ({ frames := 1, cells := 0, slots := 0, locals := 15 } : Room) s m #[(.ref o0), (.int p1), (.int p2)] below meth c s₁ [] 0 0 := Stand.of_body Bd
  have e0 : s₁.heap = h0 := by rw [← hh, Bd.state]; rfl
  have N0 := Fr.nil n0
  refine own_by (U' := s₁.setTop (mkF m 0 #[.val (.ref o0), .val (.int p1), .val (.int p2)] [])) (fun t k => castTop (ef_2 m o0 p1 p2) k) ?_
  refine own_by (fun _ k => XS.aloadN X0.here hx rfl (hb hby d2_0) rfl rfl k) ?_
  show own_Fin p.tables e below _ (s₁.setTop (mkF m 1 #[.val (.ref o0), .val (.int p1), .val (.int p2)] [(.ref o0)]))
  refine own_by (fun _ k => XS.iconst X0.here hx rfl (hb hby d2_1) k) ?_
  show own_Fin p.tables e below _ (s₁.setTop (mkF m 2 #[.val (.ref o0), .val (.int p1), .val (.int p2)] [(.int (2 : Int32)), (.ref o0)]))
  refine own_by (fun _ k => XS.iloadN X0.here hx rfl (hb hby d2_2) rfl k) ?_
  show own_Fin p.tables e below _ (s₁.setTop (mkF m 3 #[.val (.ref o0), .val (.int p1), .val (.int p2)] [(.int p1), (.int (2 : Int32)), (.ref o0)]))
  refine own_by (fun _ k => XS.iloadN X0.here hx rfl (hb hby d2_3) rfl k) ?_
  show own_Fin p.tables e below _ (s₁.setTop (mkF m 4 #[.val (.ref o0), .val (.int p1), .val (.int p2)] [(.int p2), (.int p1), (.int (2 : Int32)), (.ref o0)]))
  obtain ⟨_, _, ⟨T1, L1, k1, n1⟩, -, X1, ⟨Lc1, hQ1, l1, y1, z1⟩, st1⟩ := Jvm.LawKit.callS X0 hx (y := (⟨"com/example/agouti/agouti/server/RequestHeadEndPinLaw", "endsAt", "([BIII)Z"⟩ : MethodName)) hown (mvT hZ (hw _ (List.mem_of_getElem? (i := 9) rfl))) (mvT hZ (hw _ (List.mem_of_getElem? (i := 10) rfl))) (mvT hZ (hw _ (List.mem_of_getElem? (i := 3) rfl))) (mvT hZ (hw _ (List.mem_of_getElem? (i := 11) rfl))) (by decide) (backOf (W := 0) (rm3 l Z a0 hw [] o0 (2 : Int32) p1 p2 z_o0 (B_o0) h0 n0 Z0 V_o0 hz (by decide) (by decide) hf) hZ (hw _ (List.mem_of_getElem? (i := 11) rfl)) (hw _ (List.mem_of_getElem? (i := 3) rfl)) (by decide) (by decide)) (g := (mkF m 4 #[.val (.ref o0), .val (.int p1), .val (.int p2)] [(.int p2), (.int p1), (.int (2 : Int32)), (.ref o0)])) rfl (by rw [hml]; rfl) (argsL := [(.ref o0), (.int (2 : Int32)), (.int p1), (.int p2)]) (rest := []) (lenOf pd___BIII_Z rfl) rfl (by show 2 * 0 + _ ≤ _; exact Nat.le_of_eq rfl) (hb hby d2_4) (fun _ _ => ⟨rfl, e0, (by decide : 0 + 0 ≤ _), (by decide : 0 + 0 ≤ _)⟩)
  dsimp only [Pt.U, Pt.locs, Pt.cells, Pt.slots] at X1 l1 y1 z1 st1 hQ1
  subst l1 y1 z1
  obtain ⟨rfl, N1q, e1⟩ := hQ1
  have N1 := Fr.app N0 N1q
  refine own_by st1 ?_
  show own_Fin p.tables e below _ (T1.setTop (mkF m 7 #[.val (.ref o0), .val (.int p1), .val (.int p2)] [(.int (f3 z_o0 B_o0 (2 : Int32) p1 p2))]))
  by_cases hc2 : (f3 z_o0 B_o0 (2 : Int32) p1 p2) = (0 : Int32)
  · refine own_by (fun _ k => XS.ifYes X1.here hx rfl (pc0 := 7) (pc' := 12) rfl (hb hby d2_7) rfl ((if0 _ _).trans (teq hc2).1) (by decide) (by decide) k) ?_
    show own_Fin p.tables e below _ (T1.setTop (mkF m 12 #[.val (.ref o0), .val (.int p1), .val (.int p2)] []))
    refine own_by (fun _ k => XS.aloadN X1.here hx rfl (hb hby d2_12) rfl rfl k) ?_
    show own_Fin p.tables e below _ (T1.setTop (mkF m 13 #[.val (.ref o0), .val (.int p1), .val (.int p2)] [(.ref o0)]))
    refine own_by (fun _ k => XS.iconst X1.here hx rfl (hb hby d2_13) k) ?_
    show own_Fin p.tables e below _ (T1.setTop (mkF m 14 #[.val (.ref o0), .val (.int p1), .val (.int p2)] [(.int (3 : Int32)), (.ref o0)]))
    refine own_by (fun _ k => XS.iloadN X1.here hx rfl (hb hby d2_14) rfl k) ?_
    show own_Fin p.tables e below _ (T1.setTop (mkF m 15 #[.val (.ref o0), .val (.int p1), .val (.int p2)] [(.int p1), (.int (3 : Int32)), (.ref o0)]))
    refine own_by (fun _ k => XS.iloadN X1.here hx rfl (hb hby d2_15) rfl k) ?_
    show own_Fin p.tables e below _ (T1.setTop (mkF m 16 #[.val (.ref o0), .val (.int p1), .val (.int p2)] [(.int p2), (.int p1), (.int (3 : Int32)), (.ref o0)]))
    obtain ⟨_, _, ⟨T3, L3, k3, n3⟩, -, X3, ⟨Lc3, hQ3, l3, y3, z3⟩, st3⟩ := Jvm.LawKit.callS X1 hx (y := (⟨"com/example/agouti/agouti/server/RequestHeadEndPinLaw", "endsAt", "([BIII)Z"⟩ : MethodName)) hown (mvT hZ (hw _ (List.mem_of_getElem? (i := 9) rfl))) (mvT hZ (hw _ (List.mem_of_getElem? (i := 10) rfl))) (mvT hZ (hw _ (List.mem_of_getElem? (i := 3) rfl))) (mvT hZ (hw _ (List.mem_of_getElem? (i := 11) rfl))) (by decide) (backOf (W := 0) (rm3 l Z a0 hw [] o0 (3 : Int32) p1 p2 z_o0 (B_o0) h0 n0 Z0 V_o0 hz (by decide) (by decide) hf) hZ (hw _ (List.mem_of_getElem? (i := 11) rfl)) (hw _ (List.mem_of_getElem? (i := 3) rfl)) (by decide) (by decide)) (g := (mkF m 16 #[.val (.ref o0), .val (.int p1), .val (.int p2)] [(.int p2), (.int p1), (.int (3 : Int32)), (.ref o0)])) rfl (by rw [hml]; rfl) (argsL := [(.ref o0), (.int (3 : Int32)), (.int p1), (.int p2)]) (rest := []) (lenOf pd___BIII_Z rfl) rfl (by show 2 * 0 + _ ≤ _; exact Nat.le_of_eq rfl) (hb hby d2_16) (fun _ _ => ⟨rfl, e1, (by decide : 0 + 0 ≤ _), (by decide : 0 + 0 ≤ _)⟩)
    dsimp only [Pt.U, Pt.locs, Pt.cells, Pt.slots] at X3 l3 y3 z3 st3 hQ3
    subst l3 y3 z3
    obtain ⟨rfl, N3q, e3⟩ := hQ3
    have N3 := Fr.app N1 N3q
    refine own_by st3 ?_
    show own_Fin p.tables e below _ (T3.setTop (mkF m 19 #[.val (.ref o0), .val (.int p1), .val (.int p2)] [(.int (f3 z_o0 B_o0 (3 : Int32) p1 p2))]))
    by_cases hc4 : (f3 z_o0 B_o0 (3 : Int32) p1 p2) = (0 : Int32)
    · refine own_by (fun _ k => XS.ifYes X3.here hx rfl (pc0 := 19) (pc' := 24) rfl (hb hby d2_19) rfl ((if0 _ _).trans (teq hc4).1) (by decide) (by decide) k) ?_
      show own_Fin p.tables e below _ (T3.setTop (mkF m 24 #[.val (.ref o0), .val (.int p1), .val (.int p2)] []))
      refine own_by (fun _ k => XS.aloadN X3.here hx rfl (hb hby d2_24) rfl rfl k) ?_
      show own_Fin p.tables e below _ (T3.setTop (mkF m 25 #[.val (.ref o0), .val (.int p1), .val (.int p2)] [(.ref o0)]))
      refine own_by (fun _ k => XS.iconst X3.here hx rfl (hb hby d2_25) k) ?_
      show own_Fin p.tables e below _ (T3.setTop (mkF m 26 #[.val (.ref o0), .val (.int p1), .val (.int p2)] [(.int (4 : Int32)), (.ref o0)]))
      refine own_by (fun _ k => XS.iloadN X3.here hx rfl (hb hby d2_26) rfl k) ?_
      show own_Fin p.tables e below _ (T3.setTop (mkF m 27 #[.val (.ref o0), .val (.int p1), .val (.int p2)] [(.int p1), (.int (4 : Int32)), (.ref o0)]))
      refine own_by (fun _ k => XS.iloadN X3.here hx rfl (hb hby d2_27) rfl k) ?_
      show own_Fin p.tables e below _ (T3.setTop (mkF m 28 #[.val (.ref o0), .val (.int p1), .val (.int p2)] [(.int p2), (.int p1), (.int (4 : Int32)), (.ref o0)]))
      obtain ⟨_, _, ⟨T5, L5, k5, n5⟩, -, X5, ⟨Lc5, hQ5, l5, y5, z5⟩, st5⟩ := Jvm.LawKit.callS X3 hx (y := (⟨"com/example/agouti/agouti/server/RequestHeadEndPinLaw", "endsAt", "([BIII)Z"⟩ : MethodName)) hown (mvT hZ (hw _ (List.mem_of_getElem? (i := 9) rfl))) (mvT hZ (hw _ (List.mem_of_getElem? (i := 10) rfl))) (mvT hZ (hw _ (List.mem_of_getElem? (i := 3) rfl))) (mvT hZ (hw _ (List.mem_of_getElem? (i := 11) rfl))) (by decide) (backOf (W := 0) (rm3 l Z a0 hw [] o0 (4 : Int32) p1 p2 z_o0 (B_o0) h0 n0 Z0 V_o0 hz (by decide) (by decide) hf) hZ (hw _ (List.mem_of_getElem? (i := 11) rfl)) (hw _ (List.mem_of_getElem? (i := 3) rfl)) (by decide) (by decide)) (g := (mkF m 28 #[.val (.ref o0), .val (.int p1), .val (.int p2)] [(.int p2), (.int p1), (.int (4 : Int32)), (.ref o0)])) rfl (by rw [hml]; rfl) (argsL := [(.ref o0), (.int (4 : Int32)), (.int p1), (.int p2)]) (rest := []) (lenOf pd___BIII_Z rfl) rfl (by show 2 * 0 + _ ≤ _; exact Nat.le_of_eq rfl) (hb hby d2_28) (fun _ _ => ⟨rfl, e3, (by decide : 0 + 0 ≤ _), (by decide : 0 + 0 ≤ _)⟩)
      dsimp only [Pt.U, Pt.locs, Pt.cells, Pt.slots] at X5 l5 y5 z5 st5 hQ5
      subst l5 y5 z5
      obtain ⟨rfl, N5q, e5⟩ := hQ5
      have N5 := Fr.app N3 N5q
      refine own_by st5 ?_
      show own_Fin p.tables e below _ (T5.setTop (mkF m 31 #[.val (.ref o0), .val (.int p1), .val (.int p2)] [(.int (f3 z_o0 B_o0 (4 : Int32) p1 p2))]))
      by_cases hc6 : (f3 z_o0 B_o0 (4 : Int32) p1 p2) = (0 : Int32)
      · refine own_by (fun _ k => XS.ifYes X5.here hx rfl (pc0 := 31) (pc' := 36) rfl (hb hby d2_31) rfl ((if0 _ _).trans (teq hc6).1) (by decide) (by decide) k) ?_
        show own_Fin p.tables e below _ (T5.setTop (mkF m 36 #[.val (.ref o0), .val (.int p1), .val (.int p2)] []))
        refine own_by (fun _ k => XS.aloadN X5.here hx rfl (hb hby d2_36) rfl rfl k) ?_
        show own_Fin p.tables e below _ (T5.setTop (mkF m 37 #[.val (.ref o0), .val (.int p1), .val (.int p2)] [(.ref o0)]))
        refine own_by (fun _ k => XS.iconst X5.here hx rfl (hb hby d2_37) k) ?_
        show own_Fin p.tables e below _ (T5.setTop (mkF m 38 #[.val (.ref o0), .val (.int p1), .val (.int p2)] [(.int (5 : Int32)), (.ref o0)]))
        refine own_by (fun _ k => XS.iloadN X5.here hx rfl (hb hby d2_38) rfl k) ?_
        show own_Fin p.tables e below _ (T5.setTop (mkF m 39 #[.val (.ref o0), .val (.int p1), .val (.int p2)] [(.int p1), (.int (5 : Int32)), (.ref o0)]))
        refine own_by (fun _ k => XS.iloadN X5.here hx rfl (hb hby d2_39) rfl k) ?_
        show own_Fin p.tables e below _ (T5.setTop (mkF m 40 #[.val (.ref o0), .val (.int p1), .val (.int p2)] [(.int p2), (.int p1), (.int (5 : Int32)), (.ref o0)]))
        obtain ⟨_, _, ⟨T7, L7, k7, n7⟩, -, X7, ⟨Lc7, hQ7, l7, y7, z7⟩, st7⟩ := Jvm.LawKit.callS X5 hx (y := (⟨"com/example/agouti/agouti/server/RequestHeadEndPinLaw", "endsAt", "([BIII)Z"⟩ : MethodName)) hown (mvT hZ (hw _ (List.mem_of_getElem? (i := 9) rfl))) (mvT hZ (hw _ (List.mem_of_getElem? (i := 10) rfl))) (mvT hZ (hw _ (List.mem_of_getElem? (i := 3) rfl))) (mvT hZ (hw _ (List.mem_of_getElem? (i := 11) rfl))) (by decide) (backOf (W := 0) (rm3 l Z a0 hw [] o0 (5 : Int32) p1 p2 z_o0 (B_o0) h0 n0 Z0 V_o0 hz (by decide) (by decide) hf) hZ (hw _ (List.mem_of_getElem? (i := 11) rfl)) (hw _ (List.mem_of_getElem? (i := 3) rfl)) (by decide) (by decide)) (g := (mkF m 40 #[.val (.ref o0), .val (.int p1), .val (.int p2)] [(.int p2), (.int p1), (.int (5 : Int32)), (.ref o0)])) rfl (by rw [hml]; rfl) (argsL := [(.ref o0), (.int (5 : Int32)), (.int p1), (.int p2)]) (rest := []) (lenOf pd___BIII_Z rfl) rfl (by show 2 * 0 + _ ≤ _; exact Nat.le_of_eq rfl) (hb hby d2_40) (fun _ _ => ⟨rfl, e5, (by decide : 0 + 0 ≤ _), (by decide : 0 + 0 ≤ _)⟩)
        dsimp only [Pt.U, Pt.locs, Pt.cells, Pt.slots] at X7 l7 y7 z7 st7 hQ7
        subst l7 y7 z7
        obtain ⟨rfl, N7q, e7⟩ := hQ7
        have N7 := Fr.app N5 N7q
        refine own_by st7 ?_
        show own_Fin p.tables e below _ (T7.setTop (mkF m 43 #[.val (.ref o0), .val (.int p1), .val (.int p2)] [(.int (f3 z_o0 B_o0 (5 : Int32) p1 p2))]))
        by_cases hc8 : (f3 z_o0 B_o0 (5 : Int32) p1 p2) = (0 : Int32)
        · refine own_by (fun _ k => XS.ifYes X7.here hx rfl (pc0 := 43) (pc' := 48) rfl (hb hby d2_43) rfl ((if0 _ _).trans (teq hc8).1) (by decide) (by decide) k) ?_
          show own_Fin p.tables e below _ (T7.setTop (mkF m 48 #[.val (.ref o0), .val (.int p1), .val (.int p2)] []))
          refine own_by (fun _ k => XS.aloadN X7.here hx rfl (hb hby d2_48) rfl rfl k) ?_
          show own_Fin p.tables e below _ (T7.setTop (mkF m 49 #[.val (.ref o0), .val (.int p1), .val (.int p2)] [(.ref o0)]))
          refine own_by (fun _ k => XS.bipush X7.here hx rfl (hb hby d2_49) k) ?_
          show own_Fin p.tables e below _ (T7.setTop (mkF m 51 #[.val (.ref o0), .val (.int p1), .val (.int p2)] [(.int (6 : Int32)), (.ref o0)]))
          refine own_by (fun _ k => XS.iloadN X7.here hx rfl (hb hby d2_51) rfl k) ?_
          show own_Fin p.tables e below _ (T7.setTop (mkF m 52 #[.val (.ref o0), .val (.int p1), .val (.int p2)] [(.int p1), (.int (6 : Int32)), (.ref o0)]))
          refine own_by (fun _ k => XS.iloadN X7.here hx rfl (hb hby d2_52) rfl k) ?_
          show own_Fin p.tables e below _ (T7.setTop (mkF m 53 #[.val (.ref o0), .val (.int p1), .val (.int p2)] [(.int p2), (.int p1), (.int (6 : Int32)), (.ref o0)]))
          obtain ⟨_, _, ⟨T9, L9, k9, n9⟩, -, X9, ⟨Lc9, hQ9, l9, y9, z9⟩, st9⟩ := Jvm.LawKit.callS X7 hx (y := (⟨"com/example/agouti/agouti/server/RequestHeadEndPinLaw", "endsAt", "([BIII)Z"⟩ : MethodName)) hown (mvT hZ (hw _ (List.mem_of_getElem? (i := 9) rfl))) (mvT hZ (hw _ (List.mem_of_getElem? (i := 10) rfl))) (mvT hZ (hw _ (List.mem_of_getElem? (i := 3) rfl))) (mvT hZ (hw _ (List.mem_of_getElem? (i := 11) rfl))) (by decide) (backOf (W := 0) (rm3 l Z a0 hw [] o0 (6 : Int32) p1 p2 z_o0 (B_o0) h0 n0 Z0 V_o0 hz (by decide) (by decide) hf) hZ (hw _ (List.mem_of_getElem? (i := 11) rfl)) (hw _ (List.mem_of_getElem? (i := 3) rfl)) (by decide) (by decide)) (g := (mkF m 53 #[.val (.ref o0), .val (.int p1), .val (.int p2)] [(.int p2), (.int p1), (.int (6 : Int32)), (.ref o0)])) rfl (by rw [hml]; rfl) (argsL := [(.ref o0), (.int (6 : Int32)), (.int p1), (.int p2)]) (rest := []) (lenOf pd___BIII_Z rfl) rfl (by show 2 * 0 + _ ≤ _; exact Nat.le_of_eq rfl) (hb hby d2_53) (fun _ _ => ⟨rfl, e7, (by decide : 0 + 0 ≤ _), (by decide : 0 + 0 ≤ _)⟩)
          dsimp only [Pt.U, Pt.locs, Pt.cells, Pt.slots] at X9 l9 y9 z9 st9 hQ9
          subst l9 y9 z9
          obtain ⟨rfl, N9q, e9⟩ := hQ9
          have N9 := Fr.app N7 N9q
          refine own_by st9 ?_
          show own_Fin p.tables e below _ (T9.setTop (mkF m 56 #[.val (.ref o0), .val (.int p1), .val (.int p2)] [(.int (f3 z_o0 B_o0 (6 : Int32) p1 p2))]))
          by_cases hc10 : (f3 z_o0 B_o0 (6 : Int32) p1 p2) = (0 : Int32)
          · refine own_by (fun _ k => XS.ifYes X9.here hx rfl (pc0 := 56) (pc' := 62) rfl (hb hby d2_56) rfl ((if0 _ _).trans (teq hc10).1) (by decide) (by decide) k) ?_
            show own_Fin p.tables e below _ (T9.setTop (mkF m 62 #[.val (.ref o0), .val (.int p1), .val (.int p2)] []))
            refine own_by (fun _ k => XS.iconst X9.here hx rfl (hb hby d2_62) k) ?_
            show own_Fin p.tables e below _ (T9.setTop (mkF m 63 #[.val (.ref o0), .val (.int p1), .val (.int p2)] [(.int (-1 : Int32))]))
            have ef : f2 z_o0 B_o0 p1 p2 = (-1 : Int32) := by unfold f2; rw [if_pos hc2, if_pos hc4, if_pos hc6, if_pos hc8, if_pos hc10]
            exact own_retI X9 hx Bd.returns hlk (hb hby d2_63) (by decide) (by decide) ⟨by rw [ef], N9, e9⟩
          · refine own_by (fun _ k => XS.ifNo X9.here hx rfl (hb hby d2_56) rfl ((if0 _ _).trans (feq hc10).1) k) ?_
            show own_Fin p.tables e below _ (T9.setTop (mkF m 59 #[.val (.ref o0), .val (.int p1), .val (.int p2)] []))
            refine own_by (fun _ k => XS.bipush X9.here hx rfl (hb hby d2_59) k) ?_
            show own_Fin p.tables e below _ (T9.setTop (mkF m 61 #[.val (.ref o0), .val (.int p1), .val (.int p2)] [(.int (6 : Int32))]))
            have ef : f2 z_o0 B_o0 p1 p2 = (6 : Int32) := by unfold f2; rw [if_pos hc2, if_pos hc4, if_pos hc6, if_pos hc8, if_neg hc10]
            exact own_retI X9 hx Bd.returns hlk (hb hby d2_61) (by decide) (by decide) ⟨by rw [ef], N9, e9⟩
        · refine own_by (fun _ k => XS.ifNo X7.here hx rfl (hb hby d2_43) rfl ((if0 _ _).trans (feq hc8).1) k) ?_
          show own_Fin p.tables e below _ (T7.setTop (mkF m 46 #[.val (.ref o0), .val (.int p1), .val (.int p2)] []))
          refine own_by (fun _ k => XS.iconst X7.here hx rfl (hb hby d2_46) k) ?_
          show own_Fin p.tables e below _ (T7.setTop (mkF m 47 #[.val (.ref o0), .val (.int p1), .val (.int p2)] [(.int (5 : Int32))]))
          have ef : f2 z_o0 B_o0 p1 p2 = (5 : Int32) := by unfold f2; rw [if_pos hc2, if_pos hc4, if_pos hc6, if_neg hc8]
          exact own_retI X7 hx Bd.returns hlk (hb hby d2_47) (by decide) (by decide) ⟨by rw [ef], N7, e7⟩
      · refine own_by (fun _ k => XS.ifNo X5.here hx rfl (hb hby d2_31) rfl ((if0 _ _).trans (feq hc6).1) k) ?_
        show own_Fin p.tables e below _ (T5.setTop (mkF m 34 #[.val (.ref o0), .val (.int p1), .val (.int p2)] []))
        refine own_by (fun _ k => XS.iconst X5.here hx rfl (hb hby d2_34) k) ?_
        show own_Fin p.tables e below _ (T5.setTop (mkF m 35 #[.val (.ref o0), .val (.int p1), .val (.int p2)] [(.int (4 : Int32))]))
        have ef : f2 z_o0 B_o0 p1 p2 = (4 : Int32) := by unfold f2; rw [if_pos hc2, if_pos hc4, if_neg hc6]
        exact own_retI X5 hx Bd.returns hlk (hb hby d2_35) (by decide) (by decide) ⟨by rw [ef], N5, e5⟩
    · refine own_by (fun _ k => XS.ifNo X3.here hx rfl (hb hby d2_19) rfl ((if0 _ _).trans (feq hc4).1) k) ?_
      show own_Fin p.tables e below _ (T3.setTop (mkF m 22 #[.val (.ref o0), .val (.int p1), .val (.int p2)] []))
      refine own_by (fun _ k => XS.iconst X3.here hx rfl (hb hby d2_22) k) ?_
      show own_Fin p.tables e below _ (T3.setTop (mkF m 23 #[.val (.ref o0), .val (.int p1), .val (.int p2)] [(.int (3 : Int32))]))
      have ef : f2 z_o0 B_o0 p1 p2 = (3 : Int32) := by unfold f2; rw [if_pos hc2, if_neg hc4]
      exact own_retI X3 hx Bd.returns hlk (hb hby d2_23) (by decide) (by decide) ⟨by rw [ef], N3, e3⟩
  · refine own_by (fun _ k => XS.ifNo X1.here hx rfl (hb hby d2_7) rfl ((if0 _ _).trans (feq hc2).1) k) ?_
    show own_Fin p.tables e below _ (T1.setTop (mkF m 10 #[.val (.ref o0), .val (.int p1), .val (.int p2)] []))
    refine own_by (fun _ k => XS.iconst X1.here hx rfl (hb hby d2_10) k) ?_
    show own_Fin p.tables e below _ (T1.setTop (mkF m 11 #[.val (.ref o0), .val (.int p1), .val (.int p2)] [(.int (2 : Int32))]))
    have ef : f2 z_o0 B_o0 p1 p2 = (2 : Int32) := by unfold f2; rw [if_neg hc2]
    exact own_retI X1 hx Bd.returns hlk (hb hby d2_11) (by decide) (by decide) ⟨by rw [ef], N1, e1⟩
def own_scan (B : Int32 → Int32) (to : Int32) : Nat → Int32 → Int32
  | 0, _ => (-1 : Int32)
  | n + 1, i =>
    if i < (to - (1 : Int32)) then
      if (B i) = (10 : Int32) then
        if (B (i + (1 : Int32))) = (10 : Int32) then
          (i + (2 : Int32))
        else
          if (B (i + (1 : Int32))) = (13 : Int32) then
            if (i + (2 : Int32)) < to then
              if (B (i + (2 : Int32))) = (10 : Int32) then
                (i + (3 : Int32))
              else
                own_scan B to n (i + (1 : Int32))
            else
              own_scan B to n (i + (1 : Int32))
          else
            own_scan B to n (i + (1 : Int32))
      else
        own_scan B to n (i + (1 : Int32))
    else
      (-1 : Int32)
def f4 (z_o0 : Int32) (B_o0 : Int32 → Int32) (p1 p2 p3 : Int32) : Int32 := own_scan B_o0 p3 8 (f5 p1 (p2 - (2 : Int32)))
theorem own_max (x y t : Int32) (h0 : 0 ≤ x.toInt) (h1 : x.toInt ≤ t.toInt) (h2 : y.toInt ≤ t.toInt) : 0 ≤ (f5 x y).toInt ∧ (f5 x y).toInt ≤ t.toInt := by
  unfold f5
  split
  · rename_i q
    rw [own_lt] at q
    omega
  · omega
theorem d4_0 : decode prog_53_method_2_code 0 = .ok (.iload_n 1, 1) := by decide +kernel
theorem d4_1 : decode prog_53_method_2_code 1 = .ok (.iload_n 2, 1) := by decide +kernel
theorem d4_2 : decode prog_53_method_2_code 2 = .ok (.iconst 2, 1) := by decide +kernel
theorem d4_3 : decode prog_53_method_2_code 3 = .ok (.isub, 1) := by decide +kernel
theorem d4_4 : decode prog_53_method_2_code 4 = .ok (.invokestatic 103, 3) := by decide +kernel
theorem d4_7 : decode prog_53_method_2_code 7 = .ok (.istore 4, 2) := by decide +kernel
theorem d4_9 : decode prog_53_method_2_code 9 = .ok (.iload 4, 2) := by decide +kernel
theorem d4_11 : decode prog_53_method_2_code 11 = .ok (.iload_n 3, 1) := by decide +kernel
theorem d4_12 : decode prog_53_method_2_code 12 = .ok (.iconst 1, 1) := by decide +kernel
theorem d4_13 : decode prog_53_method_2_code 13 = .ok (.isub, 1) := by decide +kernel
theorem d4_14 : decode prog_53_method_2_code 14 = .ok (.if_icmp .ge 69, 3) := by decide +kernel
theorem d4_17 : decode prog_53_method_2_code 17 = .ok (.aload_n 0, 1) := by decide +kernel
theorem d4_18 : decode prog_53_method_2_code 18 = .ok (.iload 4, 2) := by decide +kernel
theorem d4_20 : decode prog_53_method_2_code 20 = .ok (.baload, 1) := by decide +kernel
theorem d4_21 : decode prog_53_method_2_code 21 = .ok (.bipush 10, 2) := by decide +kernel
theorem d4_23 : decode prog_53_method_2_code 23 = .ok (.if_icmp .ne 54, 3) := by decide +kernel
theorem d4_26 : decode prog_53_method_2_code 26 = .ok (.aload_n 0, 1) := by decide +kernel
theorem d4_27 : decode prog_53_method_2_code 27 = .ok (.iload 4, 2) := by decide +kernel
theorem d4_29 : decode prog_53_method_2_code 29 = .ok (.iconst 1, 1) := by decide +kernel
theorem d4_30 : decode prog_53_method_2_code 30 = .ok (.iadd, 1) := by decide +kernel
theorem d4_31 : decode prog_53_method_2_code 31 = .ok (.baload, 1) := by decide +kernel
theorem d4_32 : decode prog_53_method_2_code 32 = .ok (.bipush 10, 2) := by decide +kernel
theorem d4_34 : decode prog_53_method_2_code 34 = .ok (.if_icmp .ne 8, 3) := by decide +kernel
theorem d4_37 : decode prog_53_method_2_code 37 = .ok (.iload 4, 2) := by decide +kernel
theorem d4_39 : decode prog_53_method_2_code 39 = .ok (.iconst 2, 1) := by decide +kernel
theorem d4_40 : decode prog_53_method_2_code 40 = .ok (.iadd, 1) := by decide +kernel
theorem d4_41 : decode prog_53_method_2_code 41 = .ok (.ireturn, 1) := by decide +kernel
theorem d4_42 : decode prog_53_method_2_code 42 = .ok (.aload_n 0, 1) := by decide +kernel
theorem d4_43 : decode prog_53_method_2_code 43 = .ok (.iload 4, 2) := by decide +kernel
theorem d4_45 : decode prog_53_method_2_code 45 = .ok (.iconst 1, 1) := by decide +kernel
theorem d4_46 : decode prog_53_method_2_code 46 = .ok (.iadd, 1) := by decide +kernel
theorem d4_47 : decode prog_53_method_2_code 47 = .ok (.baload, 1) := by decide +kernel
theorem d4_48 : decode prog_53_method_2_code 48 = .ok (.bipush 13, 2) := by decide +kernel
theorem d4_50 : decode prog_53_method_2_code 50 = .ok (.if_icmp .ne 27, 3) := by decide +kernel
theorem d4_53 : decode prog_53_method_2_code 53 = .ok (.iload 4, 2) := by decide +kernel
theorem d4_55 : decode prog_53_method_2_code 55 = .ok (.iconst 2, 1) := by decide +kernel
theorem d4_56 : decode prog_53_method_2_code 56 = .ok (.iadd, 1) := by decide +kernel
theorem d4_57 : decode prog_53_method_2_code 57 = .ok (.iload_n 3, 1) := by decide +kernel
theorem d4_58 : decode prog_53_method_2_code 58 = .ok (.if_icmp .ge 19, 3) := by decide +kernel
theorem d4_61 : decode prog_53_method_2_code 61 = .ok (.aload_n 0, 1) := by decide +kernel
theorem d4_62 : decode prog_53_method_2_code 62 = .ok (.iload 4, 2) := by decide +kernel
theorem d4_64 : decode prog_53_method_2_code 64 = .ok (.iconst 2, 1) := by decide +kernel
theorem d4_65 : decode prog_53_method_2_code 65 = .ok (.iadd, 1) := by decide +kernel
theorem d4_66 : decode prog_53_method_2_code 66 = .ok (.baload, 1) := by decide +kernel
theorem d4_67 : decode prog_53_method_2_code 67 = .ok (.bipush 10, 2) := by decide +kernel
theorem d4_69 : decode prog_53_method_2_code 69 = .ok (.if_icmp .ne 8, 3) := by decide +kernel
theorem d4_72 : decode prog_53_method_2_code 72 = .ok (.iload 4, 2) := by decide +kernel
theorem d4_74 : decode prog_53_method_2_code 74 = .ok (.iconst 3, 1) := by decide +kernel
theorem d4_75 : decode prog_53_method_2_code 75 = .ok (.iadd, 1) := by decide +kernel
theorem d4_76 : decode prog_53_method_2_code 76 = .ok (.ireturn, 1) := by decide +kernel
theorem d4_77 : decode prog_53_method_2_code 77 = .ok (.iinc 4 1, 3) := by decide +kernel
theorem d4_80 : decode prog_53_method_2_code 80 = .ok (.goto (-71), 3) := by decide +kernel
theorem d4_83 : decode prog_53_method_2_code 83 = .ok (.iconst (-1), 1) := by decide +kernel
theorem d4_84 : decode prog_53_method_2_code 84 = .ok (.ireturn, 1) := by decide +kernel
theorem pd__II_I : parseMethodDescriptor "(II)I" = some ⟨[.int, .int], some .int⟩ := by decide +kernel
theorem pn_com_example_agouti_agouti_server_RequestHead : plainName "com/example/agouti/agouti/server/RequestHead" = true := by first | (simp [plainName, overriddenIn]; done) | decide +kernel
theorem ef_4 (m : MethodId) (o0 : Addr) (p1 : Int32) (p2 : Int32) (p3 : Int32) : entryFrame m #[(.ref o0), (.int p1), (.int p2), (.int p3)] 5 = mkF m 0 #[.val (.ref o0), .val (.int p1), .val (.int p2), .val (.int p3), .unset] [] := by first | (simp [entryFrame, mkF, argsToLocals, Value.category]; done) | rfl
def Q4 (z_o0 : Int32) (B_o0 : Int32 → Int32) (p1 : Int32) (p2 : Int32) (p3 : Int32) (h0 : Heap) (n0 : Nat) (v : Option Value) (h : Heap) (L : List Loc) : Prop := v = some (.int (f4 z_o0 B_o0 p1 p2 p3)) ∧ Fr n0 L ∧ h = h0
set_option maxRecDepth 65536 in
set_option maxHeartbeats 40000000 in
theorem rm4 (l : Launch) (Z : State) (a0 : Array Value) (hw : ∀ d ∈ tables_1, d.before a0 Z = true) (ws : List Jvm.Cond) (o0 : Addr) (p1 : Int32) (p2 : Int32) (p3 : Int32) (z_o0 : Int32) (B_o0 : Int32 → Int32)  (h0 : Heap) (n0 : Nat) (Z0 : n0 ≤ h0.size) (V_o0 : own_Byt Z h0 o0 z_o0 B_o0) (hz : p3.toInt ≤ z_o0.toInt) (hf : 0 ≤ p1.toInt) (hfr : p1.toInt ≤ p3.toInt) (hs0 : 0 ≤ p2.toInt) (hs : p2.toInt ≤ p3.toInt) (ht : p3.toInt ≤ 6) :
    MetFree l (⟨"com/example/agouti/agouti/server/RequestHead", "end", "([BIII)I"⟩ : MethodName) (head1 (Jvm.Cond.code (⟨"com/example/agouti/agouti/server/RequestHead", "end", "([BIII)I"⟩ : MethodName) prog_53_method_2_code 5 (some .int) :: ws) ({ frames := 1, cells := 0, slots := 0, locals := 13 } : Room)) (fun a U => a = #[(.ref o0), (.int p1), (.int p2), (.int p3)] ∧ Z.Warmed39 U.vm ∧ U.heap = h0) (fun _ _ _ _ _ => True) (fun _ U o U' => ∃ v L, o = .returned v ∧ Q4 z_o0 B_o0 p1 p2 p3 h0 n0 v U'.heap L ∧ FrameEnd U o U' L ({ frames := 1, cells := 0, slots := 0, locals := 13 } : Room).cells ({ frames := 1, cells := 0, slots := 0, locals := 13 } : Room).slots) := by
  refine MetFree.of_bodySF (plainFor_of_name pn_com_example_agouti_agouti_server_RequestHead) hisR ?_
  intro p e s m args below meth c s₁ Bd hml0 hP hK
  obtain ⟨rfl, hZ, hh⟩ := hP
  have hx := Bd.exec
  have hby := Bd.bytes
  have hlk : meth.locks = false := BodyLoose.notSynchronized Bd
  have hml : c.maxLocals = 5 := hml0
  have hown : s.vm.findClass "com/example/agouti/agouti/server/RequestHead" = some m.cls := findClass_of_methodNamed Bd.named
  have hnm := (name_of_methodNamed Bd.named Bd.method).1
  have X0 : Stand p l e ({ frames := 1, cells := 0, slots := 0, locals := 13 } : Room) s m #[(.ref o0), (.int p1), (.int p2), (.int p3)] below meth c s₁ [] 0 0 := Stand.of_body Bd
  have e0 : s₁.heap = h0 := by rw [← hh, Bd.state]; rfl
  have N0 := Fr.nil n0
  refine own_by (U' := s₁.setTop (mkF m 0 #[.val (.ref o0), .val (.int p1), .val (.int p2), .val (.int p3), .unset] [])) (fun t k => castTop (ef_4 m o0 p1 p2 p3) k) ?_
  refine own_by (fun _ k => XS.iloadN X0.here hx rfl (hb hby d4_0) rfl k) ?_
  show own_Fin p.tables e below _ (s₁.setTop (mkF m 1 #[.val (.ref o0), .val (.int p1), .val (.int p2), .val (.int p3), .unset] [(.int p1)]))
  refine own_by (fun _ k => XS.iloadN X0.here hx rfl (hb hby d4_1) rfl k) ?_
  show own_Fin p.tables e below _ (s₁.setTop (mkF m 2 #[.val (.ref o0), .val (.int p1), .val (.int p2), .val (.int p3), .unset] [(.int p2), (.int p1)]))
  refine own_by (fun _ k => XS.iconst X0.here hx rfl (hb hby d4_2) k) ?_
  show own_Fin p.tables e below _ (s₁.setTop (mkF m 3 #[.val (.ref o0), .val (.int p1), .val (.int p2), .val (.int p3), .unset] [(.int (2 : Int32)), (.int p2), (.int p1)]))
  refine own_by (fun _ k => XS.isub X0.here hx rfl (hb hby d4_3) rfl k) ?_
  show own_Fin p.tables e below _ (s₁.setTop (mkF m 4 #[.val (.ref o0), .val (.int p1), .val (.int p2), .val (.int p3), .unset] [(.int (p2 - (2 : Int32))), (.int p1)]))
  obtain ⟨_, _, ⟨T1, L1, k1, n1⟩, -, X1, ⟨Lc1, hQ1, l1, y1, z1⟩, st1⟩ := Jvm.LawKit.callS X0 hx (y := (⟨"java/lang/Math", "max", "(II)I"⟩ : MethodName)) hown (mvT hZ (hw _ (List.mem_of_getElem? (i := 16) rfl))) (mvT hZ (hw _ (List.mem_of_getElem? (i := 17) rfl))) (mvT hZ (hw _ (List.mem_of_getElem? (i := 18) rfl))) (mvT hZ (hw _ (List.mem_of_getElem? (i := 19) rfl))) (by decide) (backOf (W := 0) (rm5 l Z a0 hw [] p1 (p2 - (2 : Int32)) h0 n0 Z0 ) hZ (hw _ (List.mem_of_getElem? (i := 19) rfl)) (hw _ (List.mem_of_getElem? (i := 18) rfl)) (by decide) (by decide)) (g := (mkF m 4 #[.val (.ref o0), .val (.int p1), .val (.int p2), .val (.int p3), .unset] [(.int (p2 - (2 : Int32))), (.int p1)])) rfl (by rw [hml]; rfl) (argsL := [(.int p1), (.int (p2 - (2 : Int32)))]) (rest := []) (lenOf pd__II_I rfl) rfl (by show 2 * 0 + _ ≤ _; exact Nat.le_of_eq rfl) (hb hby d4_4) (fun _ _ => ⟨rfl, e0, (by decide : 0 + 0 ≤ _), (by decide : 0 + 0 ≤ _)⟩)
  dsimp only [Pt.U, Pt.locs, Pt.cells, Pt.slots] at X1 l1 y1 z1 st1 hQ1
  subst l1 y1 z1
  obtain ⟨rfl, N1q, e1⟩ := hQ1
  have N1 := Fr.app N0 N1q
  refine own_by st1 ?_
  show own_Fin p.tables e below _ (T1.setTop (mkF m 7 #[.val (.ref o0), .val (.int p1), .val (.int p2), .val (.int p3), .unset] [(.int (f5 p1 (p2 - (2 : Int32))))]))
  refine own_by (fun _ k => XS.istore X1.here hx rfl (hb hby d4_7) rfl (l' := #[.val (.ref o0), .val (.int p1), .val (.int p2), .val (.int p3), .val (.int (f5 p1 (p2 - (2 : Int32))))]) rfl k) ?_
  show own_Fin p.tables e below _ (T1.setTop (mkF m 9 #[.val (.ref o0), .val (.int p1), .val (.int p2), .val (.int p3), .val (.int (f5 p1 (p2 - (2 : Int32))))] []))
  have loop : ∀ (n : Nat) (i : Int32), 0 ≤ i.toInt → i.toInt ≤ p3.toInt → p3.toInt - i.toInt < n → own_scan B_o0 p3 n i = f4 z_o0 B_o0 p1 p2 p3 → own_Fin p.tables e below (fun o t => ∃ v L, o = .returned v ∧ Q4 z_o0 B_o0 p1 p2 p3 h0 n0 v t.heap L ∧ FrameEnd s o t L ({ frames := 1, cells := 0, slots := 0, locals := 13 } : Room).cells ({ frames := 1, cells := 0, slots := 0, locals := 13 } : Room).slots) (T1.setTop (mkF m 9 #[.val (.ref o0), .val (.int p1), .val (.int p2), .val (.int p3), .val (.int i)] [])) := by
    intro n
    induction n with
    | zero => intro i hi hle hn hR; exact absurd hn (by omega)
    | succ n ih =>
      intro i hi hle hn hR
      have s1 : (p3 - (1 : Int32)).toInt = p3.toInt - 1 := by rw [own_sub _ _ (by rw [own_l1]; omega) (by rw [own_l1]; omega), own_l1]
      have a1 : (i + (1 : Int32)).toInt = i.toInt + 1 := by rw [own_add _ _ (by rw [own_l1]; omega) (by rw [own_l1]; omega), own_l1]
      have a2 : (i + (2 : Int32)).toInt = i.toInt + 2 := by rw [own_add _ _ (by rw [own_l2]; omega) (by rw [own_l2]; omega), own_l2]
      refine own_by (fun _ k => XS.iload X1.here hx rfl (hb hby d4_9) rfl k) ?_
      show own_Fin p.tables e below _ (T1.setTop (mkF m 11 #[.val (.ref o0), .val (.int p1), .val (.int p2), .val (.int p3), .val (.int i)] [(.int i)]))
      refine own_by (fun _ k => XS.iloadN X1.here hx rfl (hb hby d4_11) rfl k) ?_
      show own_Fin p.tables e below _ (T1.setTop (mkF m 12 #[.val (.ref o0), .val (.int p1), .val (.int p2), .val (.int p3), .val (.int i)] [(.int p3), (.int i)]))
      refine own_by (fun _ k => XS.iconst X1.here hx rfl (hb hby d4_12) k) ?_
      show own_Fin p.tables e below _ (T1.setTop (mkF m 13 #[.val (.ref o0), .val (.int p1), .val (.int p2), .val (.int p3), .val (.int i)] [(.int (1 : Int32)), (.int p3), (.int i)]))
      refine own_by (fun _ k => XS.isub X1.here hx rfl (hb hby d4_13) rfl k) ?_
      show own_Fin p.tables e below _ (T1.setTop (mkF m 14 #[.val (.ref o0), .val (.int p1), .val (.int p2), .val (.int p3), .val (.int i)] [(.int (p3 - (1 : Int32))), (.int i)]))
      by_cases hc2 : i < (p3 - (1 : Int32))
      · refine own_by (fun _ k => XS.icmpNo X1.here hx rfl (hb hby d4_14) rfl (tlt hc2).2.1 k) ?_
        show own_Fin p.tables e below _ (T1.setTop (mkF m 17 #[.val (.ref o0), .val (.int p1), .val (.int p2), .val (.int p3), .val (.int i)] []))
        refine own_by (fun _ k => XS.aloadN X1.here hx rfl (hb hby d4_17) rfl rfl k) ?_
        show own_Fin p.tables e below _ (T1.setTop (mkF m 18 #[.val (.ref o0), .val (.int p1), .val (.int p2), .val (.int p3), .val (.int i)] [(.ref o0)]))
        refine own_by (fun _ k => XS.iload X1.here hx rfl (hb hby d4_18) rfl k) ?_
        show own_Fin p.tables e below _ (T1.setTop (mkF m 20 #[.val (.ref o0), .val (.int p1), .val (.int p2), .val (.int p3), .val (.int i)] [(.int i), (.ref o0)]))
        refine own_by (own_bal X1 hx hZ e1 V_o0 (j := i) (own_nn hi) (own_ltof (by have := own_lt.mp hc2; omega)) (g := (mkF m 20 #[.val (.ref o0), .val (.int p1), .val (.int p2), .val (.int p3), .val (.int i)] [(.int i), (.ref o0)])) rfl rfl (hb hby d4_20)) ?_
        show own_Fin p.tables e below _ (T1.setTop (mkF m 21 #[.val (.ref o0), .val (.int p1), .val (.int p2), .val (.int p3), .val (.int i)] [(.int (B_o0 i))]))
        refine own_by (fun _ k => XS.bipush X1.here hx rfl (hb hby d4_21) k) ?_
        show own_Fin p.tables e below _ (T1.setTop (mkF m 23 #[.val (.ref o0), .val (.int p1), .val (.int p2), .val (.int p3), .val (.int i)] [(.int (10 : Int32)), (.int (B_o0 i))]))
        by_cases hc3 : (B_o0 i) = (10 : Int32)
        · refine own_by (fun _ k => XS.icmpNo X1.here hx rfl (hb hby d4_23) rfl (teq hc3).2 k) ?_
          show own_Fin p.tables e below _ (T1.setTop (mkF m 26 #[.val (.ref o0), .val (.int p1), .val (.int p2), .val (.int p3), .val (.int i)] []))
          refine own_by (fun _ k => XS.aloadN X1.here hx rfl (hb hby d4_26) rfl rfl k) ?_
          show own_Fin p.tables e below _ (T1.setTop (mkF m 27 #[.val (.ref o0), .val (.int p1), .val (.int p2), .val (.int p3), .val (.int i)] [(.ref o0)]))
          refine own_by (fun _ k => XS.iload X1.here hx rfl (hb hby d4_27) rfl k) ?_
          show own_Fin p.tables e below _ (T1.setTop (mkF m 29 #[.val (.ref o0), .val (.int p1), .val (.int p2), .val (.int p3), .val (.int i)] [(.int i), (.ref o0)]))
          refine own_by (fun _ k => XS.iconst X1.here hx rfl (hb hby d4_29) k) ?_
          show own_Fin p.tables e below _ (T1.setTop (mkF m 30 #[.val (.ref o0), .val (.int p1), .val (.int p2), .val (.int p3), .val (.int i)] [(.int (1 : Int32)), (.int i), (.ref o0)]))
          refine own_by (fun _ k => XS.iadd X1.here hx rfl (hb hby d4_30) rfl k) ?_
          show own_Fin p.tables e below _ (T1.setTop (mkF m 31 #[.val (.ref o0), .val (.int p1), .val (.int p2), .val (.int p3), .val (.int i)] [(.int (i + (1 : Int32))), (.ref o0)]))
          refine own_by (own_bal X1 hx hZ e1 V_o0 (j := (i + (1 : Int32))) (own_nn (by omega)) (own_ltof (by have := own_lt.mp hc2; omega)) (g := (mkF m 31 #[.val (.ref o0), .val (.int p1), .val (.int p2), .val (.int p3), .val (.int i)] [(.int (i + (1 : Int32))), (.ref o0)])) rfl rfl (hb hby d4_31)) ?_
          show own_Fin p.tables e below _ (T1.setTop (mkF m 32 #[.val (.ref o0), .val (.int p1), .val (.int p2), .val (.int p3), .val (.int i)] [(.int (B_o0 (i + (1 : Int32))))]))
          refine own_by (fun _ k => XS.bipush X1.here hx rfl (hb hby d4_32) k) ?_
          show own_Fin p.tables e below _ (T1.setTop (mkF m 34 #[.val (.ref o0), .val (.int p1), .val (.int p2), .val (.int p3), .val (.int i)] [(.int (10 : Int32)), (.int (B_o0 (i + (1 : Int32))))]))
          by_cases hc4 : (B_o0 (i + (1 : Int32))) = (10 : Int32)
          · refine own_by (fun _ k => XS.icmpNo X1.here hx rfl (hb hby d4_34) rfl (teq hc4).2 k) ?_
            show own_Fin p.tables e below _ (T1.setTop (mkF m 37 #[.val (.ref o0), .val (.int p1), .val (.int p2), .val (.int p3), .val (.int i)] []))
            refine own_by (fun _ k => XS.iload X1.here hx rfl (hb hby d4_37) rfl k) ?_
            show own_Fin p.tables e below _ (T1.setTop (mkF m 39 #[.val (.ref o0), .val (.int p1), .val (.int p2), .val (.int p3), .val (.int i)] [(.int i)]))
            refine own_by (fun _ k => XS.iconst X1.here hx rfl (hb hby d4_39) k) ?_
            show own_Fin p.tables e below _ (T1.setTop (mkF m 40 #[.val (.ref o0), .val (.int p1), .val (.int p2), .val (.int p3), .val (.int i)] [(.int (2 : Int32)), (.int i)]))
            refine own_by (fun _ k => XS.iadd X1.here hx rfl (hb hby d4_40) rfl k) ?_
            show own_Fin p.tables e below _ (T1.setTop (mkF m 41 #[.val (.ref o0), .val (.int p1), .val (.int p2), .val (.int p3), .val (.int i)] [(.int (i + (2 : Int32)))]))
            have es : own_scan B_o0 p3 (n + 1) i = (i + (2 : Int32)) := by rw [own_scan, if_pos hc2, if_pos hc3, if_pos hc4]
            have ef := hR.symm.trans es
            exact own_retI X1 hx Bd.returns hlk (hb hby d4_41) (by decide) (by decide) ⟨by rw [ef], N1, e1⟩
          · refine own_by (fun _ k => XS.icmpYes X1.here hx rfl (pc0 := 34) (pc' := 42) rfl (hb hby d4_34) rfl (feq hc4).2 (by decide) (by decide) k) ?_
            show own_Fin p.tables e below _ (T1.setTop (mkF m 42 #[.val (.ref o0), .val (.int p1), .val (.int p2), .val (.int p3), .val (.int i)] []))
            refine own_by (fun _ k => XS.aloadN X1.here hx rfl (hb hby d4_42) rfl rfl k) ?_
            show own_Fin p.tables e below _ (T1.setTop (mkF m 43 #[.val (.ref o0), .val (.int p1), .val (.int p2), .val (.int p3), .val (.int i)] [(.ref o0)]))
            refine own_by (fun _ k => XS.iload X1.here hx rfl (hb hby d4_43) rfl k) ?_
            show own_Fin p.tables e below _ (T1.setTop (mkF m 45 #[.val (.ref o0), .val (.int p1), .val (.int p2), .val (.int p3), .val (.int i)] [(.int i), (.ref o0)]))
            refine own_by (fun _ k => XS.iconst X1.here hx rfl (hb hby d4_45) k) ?_
            show own_Fin p.tables e below _ (T1.setTop (mkF m 46 #[.val (.ref o0), .val (.int p1), .val (.int p2), .val (.int p3), .val (.int i)] [(.int (1 : Int32)), (.int i), (.ref o0)]))
            refine own_by (fun _ k => XS.iadd X1.here hx rfl (hb hby d4_46) rfl k) ?_
            show own_Fin p.tables e below _ (T1.setTop (mkF m 47 #[.val (.ref o0), .val (.int p1), .val (.int p2), .val (.int p3), .val (.int i)] [(.int (i + (1 : Int32))), (.ref o0)]))
            refine own_by (own_bal X1 hx hZ e1 V_o0 (j := (i + (1 : Int32))) (own_nn (by omega)) (own_ltof (by have := own_lt.mp hc2; omega)) (g := (mkF m 47 #[.val (.ref o0), .val (.int p1), .val (.int p2), .val (.int p3), .val (.int i)] [(.int (i + (1 : Int32))), (.ref o0)])) rfl rfl (hb hby d4_47)) ?_
            show own_Fin p.tables e below _ (T1.setTop (mkF m 48 #[.val (.ref o0), .val (.int p1), .val (.int p2), .val (.int p3), .val (.int i)] [(.int (B_o0 (i + (1 : Int32))))]))
            refine own_by (fun _ k => XS.bipush X1.here hx rfl (hb hby d4_48) k) ?_
            show own_Fin p.tables e below _ (T1.setTop (mkF m 50 #[.val (.ref o0), .val (.int p1), .val (.int p2), .val (.int p3), .val (.int i)] [(.int (13 : Int32)), (.int (B_o0 (i + (1 : Int32))))]))
            by_cases hc5 : (B_o0 (i + (1 : Int32))) = (13 : Int32)
            · refine own_by (fun _ k => XS.icmpNo X1.here hx rfl (hb hby d4_50) rfl (teq hc5).2 k) ?_
              show own_Fin p.tables e below _ (T1.setTop (mkF m 53 #[.val (.ref o0), .val (.int p1), .val (.int p2), .val (.int p3), .val (.int i)] []))
              refine own_by (fun _ k => XS.iload X1.here hx rfl (hb hby d4_53) rfl k) ?_
              show own_Fin p.tables e below _ (T1.setTop (mkF m 55 #[.val (.ref o0), .val (.int p1), .val (.int p2), .val (.int p3), .val (.int i)] [(.int i)]))
              refine own_by (fun _ k => XS.iconst X1.here hx rfl (hb hby d4_55) k) ?_
              show own_Fin p.tables e below _ (T1.setTop (mkF m 56 #[.val (.ref o0), .val (.int p1), .val (.int p2), .val (.int p3), .val (.int i)] [(.int (2 : Int32)), (.int i)]))
              refine own_by (fun _ k => XS.iadd X1.here hx rfl (hb hby d4_56) rfl k) ?_
              show own_Fin p.tables e below _ (T1.setTop (mkF m 57 #[.val (.ref o0), .val (.int p1), .val (.int p2), .val (.int p3), .val (.int i)] [(.int (i + (2 : Int32)))]))
              refine own_by (fun _ k => XS.iloadN X1.here hx rfl (hb hby d4_57) rfl k) ?_
              show own_Fin p.tables e below _ (T1.setTop (mkF m 58 #[.val (.ref o0), .val (.int p1), .val (.int p2), .val (.int p3), .val (.int i)] [(.int p3), (.int (i + (2 : Int32)))]))
              by_cases hc6 : (i + (2 : Int32)) < p3
              · refine own_by (fun _ k => XS.icmpNo X1.here hx rfl (hb hby d4_58) rfl (tlt hc6).2.1 k) ?_
                show own_Fin p.tables e below _ (T1.setTop (mkF m 61 #[.val (.ref o0), .val (.int p1), .val (.int p2), .val (.int p3), .val (.int i)] []))
                refine own_by (fun _ k => XS.aloadN X1.here hx rfl (hb hby d4_61) rfl rfl k) ?_
                show own_Fin p.tables e below _ (T1.setTop (mkF m 62 #[.val (.ref o0), .val (.int p1), .val (.int p2), .val (.int p3), .val (.int i)] [(.ref o0)]))
                refine own_by (fun _ k => XS.iload X1.here hx rfl (hb hby d4_62) rfl k) ?_
                show own_Fin p.tables e below _ (T1.setTop (mkF m 64 #[.val (.ref o0), .val (.int p1), .val (.int p2), .val (.int p3), .val (.int i)] [(.int i), (.ref o0)]))
                refine own_by (fun _ k => XS.iconst X1.here hx rfl (hb hby d4_64) k) ?_
                show own_Fin p.tables e below _ (T1.setTop (mkF m 65 #[.val (.ref o0), .val (.int p1), .val (.int p2), .val (.int p3), .val (.int i)] [(.int (2 : Int32)), (.int i), (.ref o0)]))
                refine own_by (fun _ k => XS.iadd X1.here hx rfl (hb hby d4_65) rfl k) ?_
                show own_Fin p.tables e below _ (T1.setTop (mkF m 66 #[.val (.ref o0), .val (.int p1), .val (.int p2), .val (.int p3), .val (.int i)] [(.int (i + (2 : Int32))), (.ref o0)]))
                refine own_by (own_bal X1 hx hZ e1 V_o0 (j := (i + (2 : Int32))) (own_nn (by omega)) (own_ltof (by have := own_lt.mp hc6; omega)) (g := (mkF m 66 #[.val (.ref o0), .val (.int p1), .val (.int p2), .val (.int p3), .val (.int i)] [(.int (i + (2 : Int32))), (.ref o0)])) rfl rfl (hb hby d4_66)) ?_
                show own_Fin p.tables e below _ (T1.setTop (mkF m 67 #[.val (.ref o0), .val (.int p1), .val (.int p2), .val (.int p3), .val (.int i)] [(.int (B_o0 (i + (2 : Int32))))]))
                refine own_by (fun _ k => XS.bipush X1.here hx rfl (hb hby d4_67) k) ?_
                show own_Fin p.tables e below _ (T1.setTop (mkF m 69 #[.val (.ref o0), .val (.int p1), .val (.int p2), .val (.int p3), .val (.int i)] [(.int (10 : Int32)), (.int (B_o0 (i + (2 : Int32))))]))
                by_cases hc7 : (B_o0 (i + (2 : Int32))) = (10 : Int32)
                · refine own_by (fun _ k => XS.icmpNo X1.here hx rfl (hb hby d4_69) rfl (teq hc7).2 k) ?_
                  show own_Fin p.tables e below _ (T1.setTop (mkF m 72 #[.val (.ref o0), .val (.int p1), .val (.int p2), .val (.int p3), .val (.int i)] []))
                  refine own_by (fun _ k => XS.iload X1.here hx rfl (hb hby d4_72) rfl k) ?_
                  show own_Fin p.tables e below _ (T1.setTop (mkF m 74 #[.val (.ref o0), .val (.int p1), .val (.int p2), .val (.int p3), .val (.int i)] [(.int i)]))
                  refine own_by (fun _ k => XS.iconst X1.here hx rfl (hb hby d4_74) k) ?_
                  show own_Fin p.tables e below _ (T1.setTop (mkF m 75 #[.val (.ref o0), .val (.int p1), .val (.int p2), .val (.int p3), .val (.int i)] [(.int (3 : Int32)), (.int i)]))
                  refine own_by (fun _ k => XS.iadd X1.here hx rfl (hb hby d4_75) rfl k) ?_
                  show own_Fin p.tables e below _ (T1.setTop (mkF m 76 #[.val (.ref o0), .val (.int p1), .val (.int p2), .val (.int p3), .val (.int i)] [(.int (i + (3 : Int32)))]))
                  have es : own_scan B_o0 p3 (n + 1) i = (i + (3 : Int32)) := by rw [own_scan, if_pos hc2, if_pos hc3, if_neg hc4, if_pos hc5, if_pos hc6, if_pos hc7]
                  have ef := hR.symm.trans es
                  exact own_retI X1 hx Bd.returns hlk (hb hby d4_76) (by decide) (by decide) ⟨by rw [ef], N1, e1⟩
                · refine own_by (fun _ k => XS.icmpYes X1.here hx rfl (pc0 := 69) (pc' := 77) rfl (hb hby d4_69) rfl (feq hc7).2 (by decide) (by decide) k) ?_
                  show own_Fin p.tables e below _ (T1.setTop (mkF m 77 #[.val (.ref o0), .val (.int p1), .val (.int p2), .val (.int p3), .val (.int i)] []))
                  refine own_by (fun _ k => XS.iinc X1.here hx rfl (hb hby d4_77) rfl (l' := #[.val (.ref o0), .val (.int p1), .val (.int p2), .val (.int p3), .val (.int (i + (1 : Int32)))]) rfl k) ?_
                  show own_Fin p.tables e below _ (T1.setTop (mkF m 80 #[.val (.ref o0), .val (.int p1), .val (.int p2), .val (.int p3), .val (.int (i + (1 : Int32)))] []))
                  refine own_by (fun _ k => XS.goto X1.here hx rfl (pc0 := 80) (pc' := 9) rfl (hb hby d4_80) (by decide) (by decide) k) ?_
                  show own_Fin p.tables e below _ (T1.setTop (mkF m 9 #[.val (.ref o0), .val (.int p1), .val (.int p2), .val (.int p3), .val (.int (i + (1 : Int32)))] []))
                  have es : own_scan B_o0 p3 (n + 1) i = own_scan B_o0 p3 n (i + (1 : Int32)) := by rw [own_scan, if_pos hc2, if_pos hc3, if_neg hc4, if_pos hc5, if_pos hc6, if_neg hc7]
                  exact ih (i + (1 : Int32)) (by omega) (by have := own_lt.mp hc2; omega) (by omega) (es.symm.trans hR)
              · refine own_by (fun _ k => XS.icmpYes X1.here hx rfl (pc0 := 58) (pc' := 77) rfl (hb hby d4_58) rfl (flt hc6).2.1 (by decide) (by decide) k) ?_
                show own_Fin p.tables e below _ (T1.setTop (mkF m 77 #[.val (.ref o0), .val (.int p1), .val (.int p2), .val (.int p3), .val (.int i)] []))
                refine own_by (fun _ k => XS.iinc X1.here hx rfl (hb hby d4_77) rfl (l' := #[.val (.ref o0), .val (.int p1), .val (.int p2), .val (.int p3), .val (.int (i + (1 : Int32)))]) rfl k) ?_
                show own_Fin p.tables e below _ (T1.setTop (mkF m 80 #[.val (.ref o0), .val (.int p1), .val (.int p2), .val (.int p3), .val (.int (i + (1 : Int32)))] []))
                refine own_by (fun _ k => XS.goto X1.here hx rfl (pc0 := 80) (pc' := 9) rfl (hb hby d4_80) (by decide) (by decide) k) ?_
                show own_Fin p.tables e below _ (T1.setTop (mkF m 9 #[.val (.ref o0), .val (.int p1), .val (.int p2), .val (.int p3), .val (.int (i + (1 : Int32)))] []))
                have es : own_scan B_o0 p3 (n + 1) i = own_scan B_o0 p3 n (i + (1 : Int32)) := by rw [own_scan, if_pos hc2, if_pos hc3, if_neg hc4, if_pos hc5, if_neg hc6]
                exact ih (i + (1 : Int32)) (by omega) (by have := own_lt.mp hc2; omega) (by omega) (es.symm.trans hR)
            · refine own_by (fun _ k => XS.icmpYes X1.here hx rfl (pc0 := 50) (pc' := 77) rfl (hb hby d4_50) rfl (feq hc5).2 (by decide) (by decide) k) ?_
              show own_Fin p.tables e below _ (T1.setTop (mkF m 77 #[.val (.ref o0), .val (.int p1), .val (.int p2), .val (.int p3), .val (.int i)] []))
              refine own_by (fun _ k => XS.iinc X1.here hx rfl (hb hby d4_77) rfl (l' := #[.val (.ref o0), .val (.int p1), .val (.int p2), .val (.int p3), .val (.int (i + (1 : Int32)))]) rfl k) ?_
              show own_Fin p.tables e below _ (T1.setTop (mkF m 80 #[.val (.ref o0), .val (.int p1), .val (.int p2), .val (.int p3), .val (.int (i + (1 : Int32)))] []))
              refine own_by (fun _ k => XS.goto X1.here hx rfl (pc0 := 80) (pc' := 9) rfl (hb hby d4_80) (by decide) (by decide) k) ?_
              show own_Fin p.tables e below _ (T1.setTop (mkF m 9 #[.val (.ref o0), .val (.int p1), .val (.int p2), .val (.int p3), .val (.int (i + (1 : Int32)))] []))
              have es : own_scan B_o0 p3 (n + 1) i = own_scan B_o0 p3 n (i + (1 : Int32)) := by rw [own_scan, if_pos hc2, if_pos hc3, if_neg hc4, if_neg hc5]
              exact ih (i + (1 : Int32)) (by omega) (by have := own_lt.mp hc2; omega) (by omega) (es.symm.trans hR)
        · refine own_by (fun _ k => XS.icmpYes X1.here hx rfl (pc0 := 23) (pc' := 77) rfl (hb hby d4_23) rfl (feq hc3).2 (by decide) (by decide) k) ?_
          show own_Fin p.tables e below _ (T1.setTop (mkF m 77 #[.val (.ref o0), .val (.int p1), .val (.int p2), .val (.int p3), .val (.int i)] []))
          refine own_by (fun _ k => XS.iinc X1.here hx rfl (hb hby d4_77) rfl (l' := #[.val (.ref o0), .val (.int p1), .val (.int p2), .val (.int p3), .val (.int (i + (1 : Int32)))]) rfl k) ?_
          show own_Fin p.tables e below _ (T1.setTop (mkF m 80 #[.val (.ref o0), .val (.int p1), .val (.int p2), .val (.int p3), .val (.int (i + (1 : Int32)))] []))
          refine own_by (fun _ k => XS.goto X1.here hx rfl (pc0 := 80) (pc' := 9) rfl (hb hby d4_80) (by decide) (by decide) k) ?_
          show own_Fin p.tables e below _ (T1.setTop (mkF m 9 #[.val (.ref o0), .val (.int p1), .val (.int p2), .val (.int p3), .val (.int (i + (1 : Int32)))] []))
          have es : own_scan B_o0 p3 (n + 1) i = own_scan B_o0 p3 n (i + (1 : Int32)) := by rw [own_scan, if_pos hc2, if_neg hc3]
          exact ih (i + (1 : Int32)) (by omega) (by have := own_lt.mp hc2; omega) (by omega) (es.symm.trans hR)
      · refine own_by (fun _ k => XS.icmpYes X1.here hx rfl (pc0 := 14) (pc' := 83) rfl (hb hby d4_14) rfl (flt hc2).2.1 (by decide) (by decide) k) ?_
        show own_Fin p.tables e below _ (T1.setTop (mkF m 83 #[.val (.ref o0), .val (.int p1), .val (.int p2), .val (.int p3), .val (.int i)] []))
        refine own_by (fun _ k => XS.iconst X1.here hx rfl (hb hby d4_83) k) ?_
        show own_Fin p.tables e below _ (T1.setTop (mkF m 84 #[.val (.ref o0), .val (.int p1), .val (.int p2), .val (.int p3), .val (.int i)] [(.int (-1 : Int32))]))
        have es : own_scan B_o0 p3 (n + 1) i = (-1 : Int32) := by rw [own_scan, if_neg hc2]
        have ef := hR.symm.trans es
        exact own_retI X1 hx Bd.returns hlk (hb hby d4_84) (by decide) (by decide) ⟨by rw [ef], N1, e1⟩
  exact loop 8 _ (own_max p1 _ p3 hf hfr (by rw [own_sub _ _ (by rw [own_l2]; omega) (by rw [own_l2]; omega), own_l2]; omega)).1 (own_max p1 _ p3 hf hfr (by rw [own_sub _ _ (by rw [own_l2]; omega) (by rw [own_l2]; omega), own_l2]; omega)).2 (by have := (own_max p1 (p2 - (2 : Int32)) p3 hf hfr (by rw [own_sub _ _ (by rw [own_l2]; omega) (by rw [own_l2]; omega), own_l2]; omega)).1; omega) rfl
def own_B0 (p0 : Int32) : Int32 → Int32 := (own_upd (own_upd (own_upd (own_upd (own_upd (own_upd (fun _ => (0 : Int32)) (0 : Int32) ((f1 p0).toInt8.toInt32)) (1 : Int32) ((f1 ((p0.toUInt32 >>> ((3 : Int32) &&& 31).toUInt32).toInt32)).toInt8.toInt32)) (2 : Int32) ((f1 ((p0.toUInt32 >>> ((6 : Int32) &&& 31).toUInt32).toInt32)).toInt8.toInt32)) (3 : Int32) ((f1 ((p0.toUInt32 >>> ((9 : Int32) &&& 31).toUInt32).toInt32)).toInt8.toInt32)) (4 : Int32) ((f1 ((p0.toUInt32 >>> ((12 : Int32) &&& 31).toUInt32).toInt32)).toInt8.toInt32)) (5 : Int32) ((f1 ((p0.toUInt32 >>> ((15 : Int32) &&& 31).toUInt32).toInt32)).toInt8.toInt32))
def own_to (x : Int32) : Int32 := (x &&& (2147483647 : Int32)) % (7 : Int32)
def own_fr (x y : Int32) : Int32 := (x &&& (2147483647 : Int32)) % ((own_to y) + (1 : Int32))
theorem own_r1 (x : Int32) : 0 ≤ (own_to x).toInt ∧ (own_to x).toInt ≤ 6 := by
  have m3 := c_mask x 2147483647 31 (by decide) (by decide)
  have i3 := (c_irem (x &&& (2147483647 : Int32)) (7 : Int32) 7 (by decide)).1 (by omega)
  unfold own_to
  omega
theorem own_t1 (x : Int32) : ((own_to x) + (1 : Int32)).toInt = (own_to x).toInt + 1 := by
  have h := own_r1 x
  rw [own_add _ _ (by rw [own_l1]; omega) (by rw [own_l1]; omega), own_l1]
theorem own_nz (x : Int32) : ¬ (own_to x) + (1 : Int32) = 0 := fun q => by
  have h := own_r1 x
  have t := own_t1 x
  have := congrArg Int32.toInt q
  rw [own_z] at this
  omega
theorem own_r2 (x y : Int32) : 0 ≤ (own_fr x y).toInt ∧ (own_fr x y).toInt ≤ (own_to y).toInt := by
  have h := own_r1 y
  have t := own_t1 y
  have m1 := c_mask x 2147483647 31 (by decide) (by decide)
  have i1 := (c_iremV (x &&& (2147483647 : Int32)) ((own_to y) + (1 : Int32))).1 (by omega) (by omega)
  unfold own_fr
  omega
theorem pd__I_B : parseMethodDescriptor "(I)B" = some ⟨[.int], some .byte⟩ := by decide +kernel
theorem pd___BII_I : parseMethodDescriptor "([BII)I" = some ⟨[(.array .byte), .int, .int], some .int⟩ := by decide +kernel
theorem pd___BIII_I : parseMethodDescriptor "([BIII)I" = some ⟨[(.array .byte), .int, .int, .int], some .int⟩ := by decide +kernel
theorem ef_0 (m : MethodId) (p0 : Int32) (p1 : Int32) (p2 : Int32) (p3 : Int32) : entryFrame m #[(.int p0), (.int p1), (.int p2), (.int p3)] maxLocals = mkF m 0 #[.val (.int p0), .val (.int p1), .val (.int p2), .val (.int p3), .unset, .unset, .unset, .unset, .unset, .unset, .unset, .unset] [] := by first | (simp [entryFrame, mkF, argsToLocals, Value.category, maxLocals]; done) | rfl
def f0 (p0 : Int32) (p1 : Int32) (p2 : Int32) (p3 : Int32) : Int32 :=
  if (own_fr p1 p3) < (6 : Int32) then
    if (f4 (6 : Int32) (own_upd (own_B0 p0) (own_fr p1 p3) ((65 : Int32).toInt8.toInt32)) (own_fr p1 p3) (own_fr p1 p3) (own_to p3)) = (f2 (6 : Int32) (own_upd (own_B0 p0) (own_fr p1 p3) ((65 : Int32).toInt8.toInt32)) (own_fr p1 p3) (own_to p3)) then
      if (f2 (6 : Int32) (own_upd (own_B0 p0) (own_fr p1 p3) ((65 : Int32).toInt8.toInt32)) (own_fr p1 p3) (own_fr p2 p3)) = (-1 : Int32) then
        if (f4 (6 : Int32) (own_upd (own_B0 p0) (own_fr p1 p3) ((65 : Int32).toInt8.toInt32)) (own_fr p1 p3) (own_fr p2 p3) (own_to p3)) = (f2 (6 : Int32) (own_upd (own_B0 p0) (own_fr p1 p3) ((65 : Int32).toInt8.toInt32)) (own_fr p1 p3) (own_to p3)) then
          (1 : Int32)
        else
          (0 : Int32)
      else
        (1 : Int32)
    else
      if (f2 (6 : Int32) (own_upd (own_B0 p0) (own_fr p1 p3) ((65 : Int32).toInt8.toInt32)) (own_fr p1 p3) (own_fr p2 p3)) = (-1 : Int32) then
        if (f4 (6 : Int32) (own_upd (own_B0 p0) (own_fr p1 p3) ((65 : Int32).toInt8.toInt32)) (own_fr p1 p3) (own_fr p2 p3) (own_to p3)) = (f2 (6 : Int32) (own_upd (own_B0 p0) (own_fr p1 p3) ((65 : Int32).toInt8.toInt32)) (own_fr p1 p3) (own_to p3)) then
          (0 : Int32)
        else
          (0 : Int32)
      else
        (0 : Int32)
  else
    if (f4 (6 : Int32) (own_B0 p0) (own_fr p1 p3) (own_fr p1 p3) (own_to p3)) = (f2 (6 : Int32) (own_B0 p0) (own_fr p1 p3) (own_to p3)) then
      if (f2 (6 : Int32) (own_B0 p0) (own_fr p1 p3) (own_fr p2 p3)) = (-1 : Int32) then
        if (f4 (6 : Int32) (own_B0 p0) (own_fr p1 p3) (own_fr p2 p3) (own_to p3)) = (f2 (6 : Int32) (own_B0 p0) (own_fr p1 p3) (own_to p3)) then
          (1 : Int32)
        else
          (0 : Int32)
      else
        (1 : Int32)
    else
      if (f2 (6 : Int32) (own_B0 p0) (own_fr p1 p3) (own_fr p2 p3)) = (-1 : Int32) then
        if (f4 (6 : Int32) (own_B0 p0) (own_fr p1 p3) (own_fr p2 p3) (own_to p3)) = (f2 (6 : Int32) (own_B0 p0) (own_fr p1 p3) (own_to p3)) then
          (0 : Int32)
        else
          (0 : Int32)
      else
        (0 : Int32)
def Q0 (p0 : Int32) (p1 : Int32) (p2 : Int32) (p3 : Int32) (h0 : Heap) (n0 : Nat) (v : Option Value) (h : Heap) (L : List Loc) : Prop := v = some (.int (f0 p0 p1 p2 p3)) ∧ Fr n0 L
set_option maxRecDepth 65536 in
set_option maxHeartbeats 40000000 in
theorem rm0 (l : Launch) (Z : State) (a0 : Array Value) (hw : ∀ d ∈ tables_1, d.before a0 Z = true) (ws : List Jvm.Cond) (p0 : Int32) (p1 : Int32) (p2 : Int32) (p3 : Int32)   (h0 : Heap) (n0 : Nat) (Z0 : n0 ≤ h0.size)   :
    MetFree l x (head1 (Jvm.Cond.code x code maxLocals ret :: ws) room_1) (fun a U => a = #[(.int p0), (.int p1), (.int p2), (.int p3)] ∧ Z.Warmed39 U.vm ∧ U.heap = h0) (fun _ _ _ _ _ => True) (fun _ U o U' => ∃ v L, o = .returned v ∧ Q0 p0 p1 p2 p3 h0 n0 v U'.heap L ∧ FrameEnd U o U' L 1 6) := by
  refine MetFree.of_bodySF (plainFor_of_name pn_com_example_agouti_agouti_server_RequestHeadEndPinLaw) hisR ?_
  intro p e s m args below meth c s₁ Bd hml0 hP hK
  obtain ⟨rfl, hZ, hh⟩ := hP
  have hx := Bd.exec
  have hby := Bd.bytes
  have hlk : meth.locks = false := BodyLoose.notSynchronized Bd
  have hml : c.maxLocals = 12 := hml0
  have hown : s.vm.findClass "com/example/agouti/agouti/server/RequestHeadEndPinLaw" = some m.cls := findClass_of_methodNamed Bd.named
  have hnm := (name_of_methodNamed Bd.named Bd.method).1
  have X0 : Stand p l e room_1 s m #[(.int p0), (.int p1), (.int p2), (.int p3)] below meth c s₁ [] 0 0 := Stand.of_body Bd
  have e0 : s₁.heap = h0 := by rw [← hh, Bd.state]; rfl
  have N0 := Fr.nil n0
  refine own_by (U' := s₁.setTop (mkF m 0 #[.val (.int p0), .val (.int p1), .val (.int p2), .val (.int p3), .unset, .unset, .unset, .unset, .unset, .unset, .unset, .unset] [])) (fun t k => castTop (ef_0 m p0 p1 p2 p3) k) ?_
  refine own_by (fun _ k => XS.bipush X0.here hx rfl (hb hby at_0) k) ?_
  show own_Fin p.tables e below _ (s₁.setTop (mkF m 2 #[.val (.int p0), .val (.int p1), .val (.int p2), .val (.int p3), .unset, .unset, .unset, .unset, .unset, .unset, .unset, .unset] [(.int (6 : Int32))]))
  obtain ⟨T1, h1, k1, X1, e1, E1, A1, st1⟩ := newP X0 hx hZ (hw _ (List.mem_of_getElem? (i := 0) rfl)) e0 (g := (mkF m 2 #[.val (.int p0), .val (.int p1), .val (.int p2), .val (.int p3), .unset, .unset, .unset, .unset, .unset, .unset, .unset, .unset] [(.int (6 : Int32))])) rfl (hb hby at_2) rfl (by decide) (cap := 6) (by decide) (by decide) (by decide) (by decide)
  obtain ⟨b1, g1⟩ : ∃ z, z = h0.size := ⟨_, rfl⟩
  rw [← g1] at A1 st1
  have V1 := own_Byt.new A1 (by decide)
  have g_b1 : n0 ≤ b1 := Nat.le_trans Z0 (Nat.le_of_eq g1.symm)
  have Z1 : n0 ≤ h1.size := Nat.le_trans Z0 E1.1
  refine own_by st1 ?_
  show own_Fin p.tables e below _ (T1.setTop (mkF m 4 #[.val (.int p0), .val (.int p1), .val (.int p2), .val (.int p3), .unset, .unset, .unset, .unset, .unset, .unset, .unset, .unset] [(.ref b1)]))
  refine own_by (fun _ k => XS.astore X1.here hx rfl (hb hby at_4) rfl rfl (l' := #[.val (.int p0), .val (.int p1), .val (.int p2), .val (.int p3), .val (.ref b1), .unset, .unset, .unset, .unset, .unset, .unset, .unset]) rfl k) ?_
  show own_Fin p.tables e below _ (T1.setTop (mkF m 6 #[.val (.int p0), .val (.int p1), .val (.int p2), .val (.int p3), .val (.ref b1), .unset, .unset, .unset, .unset, .unset, .unset, .unset] []))
  refine own_by (fun _ k => XS.aload X1.here hx rfl (hb hby at_6) rfl rfl k) ?_
  show own_Fin p.tables e below _ (T1.setTop (mkF m 8 #[.val (.int p0), .val (.int p1), .val (.int p2), .val (.int p3), .val (.ref b1), .unset, .unset, .unset, .unset, .unset, .unset, .unset] [(.ref b1)]))
  refine own_by (fun _ k => XS.iconst X1.here hx rfl (hb hby at_8) k) ?_
  show own_Fin p.tables e below _ (T1.setTop (mkF m 9 #[.val (.int p0), .val (.int p1), .val (.int p2), .val (.int p3), .val (.ref b1), .unset, .unset, .unset, .unset, .unset, .unset, .unset] [(.int (0 : Int32)), (.ref b1)]))
  refine own_by (fun _ k => XS.iloadN X1.here hx rfl (hb hby at_9) rfl k) ?_
  show own_Fin p.tables e below _ (T1.setTop (mkF m 10 #[.val (.int p0), .val (.int p1), .val (.int p2), .val (.int p3), .val (.ref b1), .unset, .unset, .unset, .unset, .unset, .unset, .unset] [(.int p0), (.int (0 : Int32)), (.ref b1)]))
  obtain ⟨_, _, ⟨T2, L2, k2, n2⟩, -, X2, ⟨Lc2, hQ2, l2, y2, z2⟩, st2⟩ := Jvm.LawKit.callS X1 hx (y := (⟨"com/example/agouti/agouti/server/RequestHeadEndPinLaw", "kind", "(I)B"⟩ : MethodName)) hown (mvT hZ (hw _ (List.mem_of_getElem? (i := 1) rfl))) (mvT hZ (hw _ (List.mem_of_getElem? (i := 2) rfl))) (mvT hZ (hw _ (List.mem_of_getElem? (i := 3) rfl))) (mvT hZ (hw _ (List.mem_of_getElem? (i := 4) rfl))) (by decide) (backOf (W := 2) (rm1 l Z a0 hw [] p0 h1 n0 Z1 ) hZ (hw _ (List.mem_of_getElem? (i := 4) rfl)) (hw _ (List.mem_of_getElem? (i := 3) rfl)) (by decide) (by decide)) (g := (mkF m 10 #[.val (.int p0), .val (.int p1), .val (.int p2), .val (.int p3), .val (.ref b1), .unset, .unset, .unset, .unset, .unset, .unset, .unset] [(.int p0), (.int (0 : Int32)), (.ref b1)])) rfl (by rw [hml]; rfl) (argsL := [(.int p0)]) (rest := [(.int (0 : Int32)), (.ref b1)]) (lenOf pd__I_B rfl) rfl (by show 2 * 0 + _ ≤ _; exact Nat.le_of_eq rfl) (hb hby at_10) (fun _ _ => ⟨rfl, e1, (by decide : 1 + 0 ≤ _), (by decide : 6 + 0 ≤ _)⟩)
  dsimp only [Pt.U, Pt.locs, Pt.cells, Pt.slots] at X2 l2 y2 z2 st2 hQ2
  subst l2 y2 z2
  obtain ⟨rfl, N2q, e2⟩ := hQ2
  have N2 := Fr.app N0 N2q
  refine own_by st2 ?_
  show own_Fin p.tables e below _ (T2.setTop (mkF m 13 #[.val (.int p0), .val (.int p1), .val (.int p2), .val (.int p3), .val (.ref b1), .unset, .unset, .unset, .unset, .unset, .unset, .unset] [(.int (f1 p0)), (.int (0 : Int32)), (.ref b1)]))
  obtain ⟨T3, h3, X3, e3, V3, W3, st3⟩ := own_bst X2 hx hZ e2 V1 (j := (0 : Int32)) (by decide) (by decide) (g := (mkF m 13 #[.val (.int p0), .val (.int p1), .val (.int p2), .val (.int p3), .val (.ref b1), .unset, .unset, .unset, .unset, .unset, .unset, .unset] [(.int (f1 p0)), (.int (0 : Int32)), (.ref b1)])) rfl rfl (hb hby at_13)
  have N3 := Fr.snoc X3 N2 g_b1
  have Z3 : n0 ≤ h3.size := Nat.le_trans Z1 (Keep.of_wr W3).1
  refine own_by st3 ?_
  show own_Fin p.tables e below _ (T3.setTop (mkF m 14 #[.val (.int p0), .val (.int p1), .val (.int p2), .val (.int p3), .val (.ref b1), .unset, .unset, .unset, .unset, .unset, .unset, .unset] []))
  refine own_by (fun _ k => XS.aload X3.here hx rfl (hb hby at_14) rfl rfl k) ?_
  show own_Fin p.tables e below _ (T3.setTop (mkF m 16 #[.val (.int p0), .val (.int p1), .val (.int p2), .val (.int p3), .val (.ref b1), .unset, .unset, .unset, .unset, .unset, .unset, .unset] [(.ref b1)]))
  refine own_by (fun _ k => XS.iconst X3.here hx rfl (hb hby at_16) k) ?_
  show own_Fin p.tables e below _ (T3.setTop (mkF m 17 #[.val (.int p0), .val (.int p1), .val (.int p2), .val (.int p3), .val (.ref b1), .unset, .unset, .unset, .unset, .unset, .unset, .unset] [(.int (1 : Int32)), (.ref b1)]))
  refine own_by (fun _ k => XS.iloadN X3.here hx rfl (hb hby at_17) rfl k) ?_
  show own_Fin p.tables e below _ (T3.setTop (mkF m 18 #[.val (.int p0), .val (.int p1), .val (.int p2), .val (.int p3), .val (.ref b1), .unset, .unset, .unset, .unset, .unset, .unset, .unset] [(.int p0), (.int (1 : Int32)), (.ref b1)]))
  refine own_by (fun _ k => XS.iconst X3.here hx rfl (hb hby at_18) k) ?_
  show own_Fin p.tables e below _ (T3.setTop (mkF m 19 #[.val (.int p0), .val (.int p1), .val (.int p2), .val (.int p3), .val (.ref b1), .unset, .unset, .unset, .unset, .unset, .unset, .unset] [(.int (3 : Int32)), (.int p0), (.int (1 : Int32)), (.ref b1)]))
  refine own_by (fun _ k => XS.iushr X3.here hx rfl (hb hby at_19) rfl k) ?_
  show own_Fin p.tables e below _ (T3.setTop (mkF m 20 #[.val (.int p0), .val (.int p1), .val (.int p2), .val (.int p3), .val (.ref b1), .unset, .unset, .unset, .unset, .unset, .unset, .unset] [(.int ((p0.toUInt32 >>> ((3 : Int32) &&& 31).toUInt32).toInt32)), (.int (1 : Int32)), (.ref b1)]))
  obtain ⟨_, _, ⟨T4, L4, k4, n4⟩, -, X4, ⟨Lc4, hQ4, l4, y4, z4⟩, st4⟩ := Jvm.LawKit.callS X3 hx (y := (⟨"com/example/agouti/agouti/server/RequestHeadEndPinLaw", "kind", "(I)B"⟩ : MethodName)) hown (mvT hZ (hw _ (List.mem_of_getElem? (i := 1) rfl))) (mvT hZ (hw _ (List.mem_of_getElem? (i := 2) rfl))) (mvT hZ (hw _ (List.mem_of_getElem? (i := 3) rfl))) (mvT hZ (hw _ (List.mem_of_getElem? (i := 4) rfl))) (by decide) (backOf (W := 2) (rm1 l Z a0 hw [] ((p0.toUInt32 >>> ((3 : Int32) &&& 31).toUInt32).toInt32) h3 n0 Z3 ) hZ (hw _ (List.mem_of_getElem? (i := 4) rfl)) (hw _ (List.mem_of_getElem? (i := 3) rfl)) (by decide) (by decide)) (g := (mkF m 20 #[.val (.int p0), .val (.int p1), .val (.int p2), .val (.int p3), .val (.ref b1), .unset, .unset, .unset, .unset, .unset, .unset, .unset] [(.int ((p0.toUInt32 >>> ((3 : Int32) &&& 31).toUInt32).toInt32)), (.int (1 : Int32)), (.ref b1)])) rfl (by rw [hml]; rfl) (argsL := [(.int ((p0.toUInt32 >>> ((3 : Int32) &&& 31).toUInt32).toInt32))]) (rest := [(.int (1 : Int32)), (.ref b1)]) (lenOf pd__I_B rfl) rfl (by show 2 * 0 + _ ≤ _; exact Nat.le_of_eq rfl) (hb hby at_20) (fun _ _ => ⟨rfl, e3, (by decide : 1 + 0 ≤ _), (by decide : 6 + 0 ≤ _)⟩)
  dsimp only [Pt.U, Pt.locs, Pt.cells, Pt.slots] at X4 l4 y4 z4 st4 hQ4
  subst l4 y4 z4
  obtain ⟨rfl, N4q, e4⟩ := hQ4
  have N4 := Fr.app N3 N4q
  refine own_by st4 ?_
  show own_Fin p.tables e below _ (T4.setTop (mkF m 23 #[.val (.int p0), .val (.int p1), .val (.int p2), .val (.int p3), .val (.ref b1), .unset, .unset, .unset, .unset, .unset, .unset, .unset] [(.int (f1 ((p0.toUInt32 >>> ((3 : Int32) &&& 31).toUInt32).toInt32))), (.int (1 : Int32)), (.ref b1)]))
  obtain ⟨T5, h5, X5, e5, V5, W5, st5⟩ := own_bst X4 hx hZ e4 V3 (j := (1 : Int32)) (by decide) (by decide) (g := (mkF m 23 #[.val (.int p0), .val (.int p1), .val (.int p2), .val (.int p3), .val (.ref b1), .unset, .unset, .unset, .unset, .unset, .unset, .unset] [(.int (f1 ((p0.toUInt32 >>> ((3 : Int32) &&& 31).toUInt32).toInt32))), (.int (1 : Int32)), (.ref b1)])) rfl rfl (hb hby at_23)
  have N5 := Fr.snoc X5 N4 g_b1
  have Z5 : n0 ≤ h5.size := Nat.le_trans Z3 (Keep.of_wr W5).1
  refine own_by st5 ?_
  show own_Fin p.tables e below _ (T5.setTop (mkF m 24 #[.val (.int p0), .val (.int p1), .val (.int p2), .val (.int p3), .val (.ref b1), .unset, .unset, .unset, .unset, .unset, .unset, .unset] []))
  refine own_by (fun _ k => XS.aload X5.here hx rfl (hb hby at_24) rfl rfl k) ?_
  show own_Fin p.tables e below _ (T5.setTop (mkF m 26 #[.val (.int p0), .val (.int p1), .val (.int p2), .val (.int p3), .val (.ref b1), .unset, .unset, .unset, .unset, .unset, .unset, .unset] [(.ref b1)]))
  refine own_by (fun _ k => XS.iconst X5.here hx rfl (hb hby at_26) k) ?_
  show own_Fin p.tables e below _ (T5.setTop (mkF m 27 #[.val (.int p0), .val (.int p1), .val (.int p2), .val (.int p3), .val (.ref b1), .unset, .unset, .unset, .unset, .unset, .unset, .unset] [(.int (2 : Int32)), (.ref b1)]))
  refine own_by (fun _ k => XS.iloadN X5.here hx rfl (hb hby at_27) rfl k) ?_
  show own_Fin p.tables e below _ (T5.setTop (mkF m 28 #[.val (.int p0), .val (.int p1), .val (.int p2), .val (.int p3), .val (.ref b1), .unset, .unset, .unset, .unset, .unset, .unset, .unset] [(.int p0), (.int (2 : Int32)), (.ref b1)]))
  refine own_by (fun _ k => XS.bipush X5.here hx rfl (hb hby at_28) k) ?_
  show own_Fin p.tables e below _ (T5.setTop (mkF m 30 #[.val (.int p0), .val (.int p1), .val (.int p2), .val (.int p3), .val (.ref b1), .unset, .unset, .unset, .unset, .unset, .unset, .unset] [(.int (6 : Int32)), (.int p0), (.int (2 : Int32)), (.ref b1)]))
  refine own_by (fun _ k => XS.iushr X5.here hx rfl (hb hby at_30) rfl k) ?_
  show own_Fin p.tables e below _ (T5.setTop (mkF m 31 #[.val (.int p0), .val (.int p1), .val (.int p2), .val (.int p3), .val (.ref b1), .unset, .unset, .unset, .unset, .unset, .unset, .unset] [(.int ((p0.toUInt32 >>> ((6 : Int32) &&& 31).toUInt32).toInt32)), (.int (2 : Int32)), (.ref b1)]))
  obtain ⟨_, _, ⟨T6, L6, k6, n6⟩, -, X6, ⟨Lc6, hQ6, l6, y6, z6⟩, st6⟩ := Jvm.LawKit.callS X5 hx (y := (⟨"com/example/agouti/agouti/server/RequestHeadEndPinLaw", "kind", "(I)B"⟩ : MethodName)) hown (mvT hZ (hw _ (List.mem_of_getElem? (i := 1) rfl))) (mvT hZ (hw _ (List.mem_of_getElem? (i := 2) rfl))) (mvT hZ (hw _ (List.mem_of_getElem? (i := 3) rfl))) (mvT hZ (hw _ (List.mem_of_getElem? (i := 4) rfl))) (by decide) (backOf (W := 2) (rm1 l Z a0 hw [] ((p0.toUInt32 >>> ((6 : Int32) &&& 31).toUInt32).toInt32) h5 n0 Z5 ) hZ (hw _ (List.mem_of_getElem? (i := 4) rfl)) (hw _ (List.mem_of_getElem? (i := 3) rfl)) (by decide) (by decide)) (g := (mkF m 31 #[.val (.int p0), .val (.int p1), .val (.int p2), .val (.int p3), .val (.ref b1), .unset, .unset, .unset, .unset, .unset, .unset, .unset] [(.int ((p0.toUInt32 >>> ((6 : Int32) &&& 31).toUInt32).toInt32)), (.int (2 : Int32)), (.ref b1)])) rfl (by rw [hml]; rfl) (argsL := [(.int ((p0.toUInt32 >>> ((6 : Int32) &&& 31).toUInt32).toInt32))]) (rest := [(.int (2 : Int32)), (.ref b1)]) (lenOf pd__I_B rfl) rfl (by show 2 * 0 + _ ≤ _; exact Nat.le_of_eq rfl) (hb hby at_31) (fun _ _ => ⟨rfl, e5, (by decide : 1 + 0 ≤ _), (by decide : 6 + 0 ≤ _)⟩)
  dsimp only [Pt.U, Pt.locs, Pt.cells, Pt.slots] at X6 l6 y6 z6 st6 hQ6
  subst l6 y6 z6
  obtain ⟨rfl, N6q, e6⟩ := hQ6
  have N6 := Fr.app N5 N6q
  refine own_by st6 ?_
  show own_Fin p.tables e below _ (T6.setTop (mkF m 34 #[.val (.int p0), .val (.int p1), .val (.int p2), .val (.int p3), .val (.ref b1), .unset, .unset, .unset, .unset, .unset, .unset, .unset] [(.int (f1 ((p0.toUInt32 >>> ((6 : Int32) &&& 31).toUInt32).toInt32))), (.int (2 : Int32)), (.ref b1)]))
  obtain ⟨T7, h7, X7, e7, V7, W7, st7⟩ := own_bst X6 hx hZ e6 V5 (j := (2 : Int32)) (by decide) (by decide) (g := (mkF m 34 #[.val (.int p0), .val (.int p1), .val (.int p2), .val (.int p3), .val (.ref b1), .unset, .unset, .unset, .unset, .unset, .unset, .unset] [(.int (f1 ((p0.toUInt32 >>> ((6 : Int32) &&& 31).toUInt32).toInt32))), (.int (2 : Int32)), (.ref b1)])) rfl rfl (hb hby at_34)
  have N7 := Fr.snoc X7 N6 g_b1
  have Z7 : n0 ≤ h7.size := Nat.le_trans Z5 (Keep.of_wr W7).1
  refine own_by st7 ?_
  show own_Fin p.tables e below _ (T7.setTop (mkF m 35 #[.val (.int p0), .val (.int p1), .val (.int p2), .val (.int p3), .val (.ref b1), .unset, .unset, .unset, .unset, .unset, .unset, .unset] []))
  refine own_by (fun _ k => XS.aload X7.here hx rfl (hb hby at_35) rfl rfl k) ?_
  show own_Fin p.tables e below _ (T7.setTop (mkF m 37 #[.val (.int p0), .val (.int p1), .val (.int p2), .val (.int p3), .val (.ref b1), .unset, .unset, .unset, .unset, .unset, .unset, .unset] [(.ref b1)]))
  refine own_by (fun _ k => XS.iconst X7.here hx rfl (hb hby at_37) k) ?_
  show own_Fin p.tables e below _ (T7.setTop (mkF m 38 #[.val (.int p0), .val (.int p1), .val (.int p2), .val (.int p3), .val (.ref b1), .unset, .unset, .unset, .unset, .unset, .unset, .unset] [(.int (3 : Int32)), (.ref b1)]))
  refine own_by (fun _ k => XS.iloadN X7.here hx rfl (hb hby at_38) rfl k) ?_
  show own_Fin p.tables e below _ (T7.setTop (mkF m 39 #[.val (.int p0), .val (.int p1), .val (.int p2), .val (.int p3), .val (.ref b1), .unset, .unset, .unset, .unset, .unset, .unset, .unset] [(.int p0), (.int (3 : Int32)), (.ref b1)]))
  refine own_by (fun _ k => XS.bipush X7.here hx rfl (hb hby at_39) k) ?_
  show own_Fin p.tables e below _ (T7.setTop (mkF m 41 #[.val (.int p0), .val (.int p1), .val (.int p2), .val (.int p3), .val (.ref b1), .unset, .unset, .unset, .unset, .unset, .unset, .unset] [(.int (9 : Int32)), (.int p0), (.int (3 : Int32)), (.ref b1)]))
  refine own_by (fun _ k => XS.iushr X7.here hx rfl (hb hby at_41) rfl k) ?_
  show own_Fin p.tables e below _ (T7.setTop (mkF m 42 #[.val (.int p0), .val (.int p1), .val (.int p2), .val (.int p3), .val (.ref b1), .unset, .unset, .unset, .unset, .unset, .unset, .unset] [(.int ((p0.toUInt32 >>> ((9 : Int32) &&& 31).toUInt32).toInt32)), (.int (3 : Int32)), (.ref b1)]))
  obtain ⟨_, _, ⟨T8, L8, k8, n8⟩, -, X8, ⟨Lc8, hQ8, l8, y8, z8⟩, st8⟩ := Jvm.LawKit.callS X7 hx (y := (⟨"com/example/agouti/agouti/server/RequestHeadEndPinLaw", "kind", "(I)B"⟩ : MethodName)) hown (mvT hZ (hw _ (List.mem_of_getElem? (i := 1) rfl))) (mvT hZ (hw _ (List.mem_of_getElem? (i := 2) rfl))) (mvT hZ (hw _ (List.mem_of_getElem? (i := 3) rfl))) (mvT hZ (hw _ (List.mem_of_getElem? (i := 4) rfl))) (by decide) (backOf (W := 2) (rm1 l Z a0 hw [] ((p0.toUInt32 >>> ((9 : Int32) &&& 31).toUInt32).toInt32) h7 n0 Z7 ) hZ (hw _ (List.mem_of_getElem? (i := 4) rfl)) (hw _ (List.mem_of_getElem? (i := 3) rfl)) (by decide) (by decide)) (g := (mkF m 42 #[.val (.int p0), .val (.int p1), .val (.int p2), .val (.int p3), .val (.ref b1), .unset, .unset, .unset, .unset, .unset, .unset, .unset] [(.int ((p0.toUInt32 >>> ((9 : Int32) &&& 31).toUInt32).toInt32)), (.int (3 : Int32)), (.ref b1)])) rfl (by rw [hml]; rfl) (argsL := [(.int ((p0.toUInt32 >>> ((9 : Int32) &&& 31).toUInt32).toInt32))]) (rest := [(.int (3 : Int32)), (.ref b1)]) (lenOf pd__I_B rfl) rfl (by show 2 * 0 + _ ≤ _; exact Nat.le_of_eq rfl) (hb hby at_42) (fun _ _ => ⟨rfl, e7, (by decide : 1 + 0 ≤ _), (by decide : 6 + 0 ≤ _)⟩)
  dsimp only [Pt.U, Pt.locs, Pt.cells, Pt.slots] at X8 l8 y8 z8 st8 hQ8
  subst l8 y8 z8
  obtain ⟨rfl, N8q, e8⟩ := hQ8
  have N8 := Fr.app N7 N8q
  refine own_by st8 ?_
  show own_Fin p.tables e below _ (T8.setTop (mkF m 45 #[.val (.int p0), .val (.int p1), .val (.int p2), .val (.int p3), .val (.ref b1), .unset, .unset, .unset, .unset, .unset, .unset, .unset] [(.int (f1 ((p0.toUInt32 >>> ((9 : Int32) &&& 31).toUInt32).toInt32))), (.int (3 : Int32)), (.ref b1)]))
  obtain ⟨T9, h9, X9, e9, V9, W9, st9⟩ := own_bst X8 hx hZ e8 V7 (j := (3 : Int32)) (by decide) (by decide) (g := (mkF m 45 #[.val (.int p0), .val (.int p1), .val (.int p2), .val (.int p3), .val (.ref b1), .unset, .unset, .unset, .unset, .unset, .unset, .unset] [(.int (f1 ((p0.toUInt32 >>> ((9 : Int32) &&& 31).toUInt32).toInt32))), (.int (3 : Int32)), (.ref b1)])) rfl rfl (hb hby at_45)
  have N9 := Fr.snoc X9 N8 g_b1
  have Z9 : n0 ≤ h9.size := Nat.le_trans Z7 (Keep.of_wr W9).1
  refine own_by st9 ?_
  show own_Fin p.tables e below _ (T9.setTop (mkF m 46 #[.val (.int p0), .val (.int p1), .val (.int p2), .val (.int p3), .val (.ref b1), .unset, .unset, .unset, .unset, .unset, .unset, .unset] []))
  refine own_by (fun _ k => XS.aload X9.here hx rfl (hb hby at_46) rfl rfl k) ?_
  show own_Fin p.tables e below _ (T9.setTop (mkF m 48 #[.val (.int p0), .val (.int p1), .val (.int p2), .val (.int p3), .val (.ref b1), .unset, .unset, .unset, .unset, .unset, .unset, .unset] [(.ref b1)]))
  refine own_by (fun _ k => XS.iconst X9.here hx rfl (hb hby at_48) k) ?_
  show own_Fin p.tables e below _ (T9.setTop (mkF m 49 #[.val (.int p0), .val (.int p1), .val (.int p2), .val (.int p3), .val (.ref b1), .unset, .unset, .unset, .unset, .unset, .unset, .unset] [(.int (4 : Int32)), (.ref b1)]))
  refine own_by (fun _ k => XS.iloadN X9.here hx rfl (hb hby at_49) rfl k) ?_
  show own_Fin p.tables e below _ (T9.setTop (mkF m 50 #[.val (.int p0), .val (.int p1), .val (.int p2), .val (.int p3), .val (.ref b1), .unset, .unset, .unset, .unset, .unset, .unset, .unset] [(.int p0), (.int (4 : Int32)), (.ref b1)]))
  refine own_by (fun _ k => XS.bipush X9.here hx rfl (hb hby at_50) k) ?_
  show own_Fin p.tables e below _ (T9.setTop (mkF m 52 #[.val (.int p0), .val (.int p1), .val (.int p2), .val (.int p3), .val (.ref b1), .unset, .unset, .unset, .unset, .unset, .unset, .unset] [(.int (12 : Int32)), (.int p0), (.int (4 : Int32)), (.ref b1)]))
  refine own_by (fun _ k => XS.iushr X9.here hx rfl (hb hby at_52) rfl k) ?_
  show own_Fin p.tables e below _ (T9.setTop (mkF m 53 #[.val (.int p0), .val (.int p1), .val (.int p2), .val (.int p3), .val (.ref b1), .unset, .unset, .unset, .unset, .unset, .unset, .unset] [(.int ((p0.toUInt32 >>> ((12 : Int32) &&& 31).toUInt32).toInt32)), (.int (4 : Int32)), (.ref b1)]))
  obtain ⟨_, _, ⟨T10, L10, k10, n10⟩, -, X10, ⟨Lc10, hQ10, l10, y10, z10⟩, st10⟩ := Jvm.LawKit.callS X9 hx (y := (⟨"com/example/agouti/agouti/server/RequestHeadEndPinLaw", "kind", "(I)B"⟩ : MethodName)) hown (mvT hZ (hw _ (List.mem_of_getElem? (i := 1) rfl))) (mvT hZ (hw _ (List.mem_of_getElem? (i := 2) rfl))) (mvT hZ (hw _ (List.mem_of_getElem? (i := 3) rfl))) (mvT hZ (hw _ (List.mem_of_getElem? (i := 4) rfl))) (by decide) (backOf (W := 2) (rm1 l Z a0 hw [] ((p0.toUInt32 >>> ((12 : Int32) &&& 31).toUInt32).toInt32) h9 n0 Z9 ) hZ (hw _ (List.mem_of_getElem? (i := 4) rfl)) (hw _ (List.mem_of_getElem? (i := 3) rfl)) (by decide) (by decide)) (g := (mkF m 53 #[.val (.int p0), .val (.int p1), .val (.int p2), .val (.int p3), .val (.ref b1), .unset, .unset, .unset, .unset, .unset, .unset, .unset] [(.int ((p0.toUInt32 >>> ((12 : Int32) &&& 31).toUInt32).toInt32)), (.int (4 : Int32)), (.ref b1)])) rfl (by rw [hml]; rfl) (argsL := [(.int ((p0.toUInt32 >>> ((12 : Int32) &&& 31).toUInt32).toInt32))]) (rest := [(.int (4 : Int32)), (.ref b1)]) (lenOf pd__I_B rfl) rfl (by show 2 * 0 + _ ≤ _; exact Nat.le_of_eq rfl) (hb hby at_53) (fun _ _ => ⟨rfl, e9, (by decide : 1 + 0 ≤ _), (by decide : 6 + 0 ≤ _)⟩)
  dsimp only [Pt.U, Pt.locs, Pt.cells, Pt.slots] at X10 l10 y10 z10 st10 hQ10
  subst l10 y10 z10
  obtain ⟨rfl, N10q, e10⟩ := hQ10
  have N10 := Fr.app N9 N10q
  refine own_by st10 ?_
  show own_Fin p.tables e below _ (T10.setTop (mkF m 56 #[.val (.int p0), .val (.int p1), .val (.int p2), .val (.int p3), .val (.ref b1), .unset, .unset, .unset, .unset, .unset, .unset, .unset] [(.int (f1 ((p0.toUInt32 >>> ((12 : Int32) &&& 31).toUInt32).toInt32))), (.int (4 : Int32)), (.ref b1)]))
  obtain ⟨T11, h11, X11, e11, V11, W11, st11⟩ := own_bst X10 hx hZ e10 V9 (j := (4 : Int32)) (by decide) (by decide) (g := (mkF m 56 #[.val (.int p0), .val (.int p1), .val (.int p2), .val (.int p3), .val (.ref b1), .unset, .unset, .unset, .unset, .unset, .unset, .unset] [(.int (f1 ((p0.toUInt32 >>> ((12 : Int32) &&& 31).toUInt32).toInt32))), (.int (4 : Int32)), (.ref b1)])) rfl rfl (hb hby at_56)
  have N11 := Fr.snoc X11 N10 g_b1
  have Z11 : n0 ≤ h11.size := Nat.le_trans Z9 (Keep.of_wr W11).1
  refine own_by st11 ?_
  show own_Fin p.tables e below _ (T11.setTop (mkF m 57 #[.val (.int p0), .val (.int p1), .val (.int p2), .val (.int p3), .val (.ref b1), .unset, .unset, .unset, .unset, .unset, .unset, .unset] []))
  refine own_by (fun _ k => XS.aload X11.here hx rfl (hb hby at_57) rfl rfl k) ?_
  show own_Fin p.tables e below _ (T11.setTop (mkF m 59 #[.val (.int p0), .val (.int p1), .val (.int p2), .val (.int p3), .val (.ref b1), .unset, .unset, .unset, .unset, .unset, .unset, .unset] [(.ref b1)]))
  refine own_by (fun _ k => XS.iconst X11.here hx rfl (hb hby at_59) k) ?_
  show own_Fin p.tables e below _ (T11.setTop (mkF m 60 #[.val (.int p0), .val (.int p1), .val (.int p2), .val (.int p3), .val (.ref b1), .unset, .unset, .unset, .unset, .unset, .unset, .unset] [(.int (5 : Int32)), (.ref b1)]))
  refine own_by (fun _ k => XS.iloadN X11.here hx rfl (hb hby at_60) rfl k) ?_
  show own_Fin p.tables e below _ (T11.setTop (mkF m 61 #[.val (.int p0), .val (.int p1), .val (.int p2), .val (.int p3), .val (.ref b1), .unset, .unset, .unset, .unset, .unset, .unset, .unset] [(.int p0), (.int (5 : Int32)), (.ref b1)]))
  refine own_by (fun _ k => XS.bipush X11.here hx rfl (hb hby at_61) k) ?_
  show own_Fin p.tables e below _ (T11.setTop (mkF m 63 #[.val (.int p0), .val (.int p1), .val (.int p2), .val (.int p3), .val (.ref b1), .unset, .unset, .unset, .unset, .unset, .unset, .unset] [(.int (15 : Int32)), (.int p0), (.int (5 : Int32)), (.ref b1)]))
  refine own_by (fun _ k => XS.iushr X11.here hx rfl (hb hby at_63) rfl k) ?_
  show own_Fin p.tables e below _ (T11.setTop (mkF m 64 #[.val (.int p0), .val (.int p1), .val (.int p2), .val (.int p3), .val (.ref b1), .unset, .unset, .unset, .unset, .unset, .unset, .unset] [(.int ((p0.toUInt32 >>> ((15 : Int32) &&& 31).toUInt32).toInt32)), (.int (5 : Int32)), (.ref b1)]))
  obtain ⟨_, _, ⟨T12, L12, k12, n12⟩, -, X12, ⟨Lc12, hQ12, l12, y12, z12⟩, st12⟩ := Jvm.LawKit.callS X11 hx (y := (⟨"com/example/agouti/agouti/server/RequestHeadEndPinLaw", "kind", "(I)B"⟩ : MethodName)) hown (mvT hZ (hw _ (List.mem_of_getElem? (i := 1) rfl))) (mvT hZ (hw _ (List.mem_of_getElem? (i := 2) rfl))) (mvT hZ (hw _ (List.mem_of_getElem? (i := 3) rfl))) (mvT hZ (hw _ (List.mem_of_getElem? (i := 4) rfl))) (by decide) (backOf (W := 2) (rm1 l Z a0 hw [] ((p0.toUInt32 >>> ((15 : Int32) &&& 31).toUInt32).toInt32) h11 n0 Z11 ) hZ (hw _ (List.mem_of_getElem? (i := 4) rfl)) (hw _ (List.mem_of_getElem? (i := 3) rfl)) (by decide) (by decide)) (g := (mkF m 64 #[.val (.int p0), .val (.int p1), .val (.int p2), .val (.int p3), .val (.ref b1), .unset, .unset, .unset, .unset, .unset, .unset, .unset] [(.int ((p0.toUInt32 >>> ((15 : Int32) &&& 31).toUInt32).toInt32)), (.int (5 : Int32)), (.ref b1)])) rfl (by rw [hml]; rfl) (argsL := [(.int ((p0.toUInt32 >>> ((15 : Int32) &&& 31).toUInt32).toInt32))]) (rest := [(.int (5 : Int32)), (.ref b1)]) (lenOf pd__I_B rfl) rfl (by show 2 * 0 + _ ≤ _; exact Nat.le_of_eq rfl) (hb hby at_64) (fun _ _ => ⟨rfl, e11, (by decide : 1 + 0 ≤ _), (by decide : 6 + 0 ≤ _)⟩)
  dsimp only [Pt.U, Pt.locs, Pt.cells, Pt.slots] at X12 l12 y12 z12 st12 hQ12
  subst l12 y12 z12
  obtain ⟨rfl, N12q, e12⟩ := hQ12
  have N12 := Fr.app N11 N12q
  refine own_by st12 ?_
  show own_Fin p.tables e below _ (T12.setTop (mkF m 67 #[.val (.int p0), .val (.int p1), .val (.int p2), .val (.int p3), .val (.ref b1), .unset, .unset, .unset, .unset, .unset, .unset, .unset] [(.int (f1 ((p0.toUInt32 >>> ((15 : Int32) &&& 31).toUInt32).toInt32))), (.int (5 : Int32)), (.ref b1)]))
  obtain ⟨T13, h13, X13, e13, V13, W13, st13⟩ := own_bst X12 hx hZ e12 V11 (j := (5 : Int32)) (by decide) (by decide) (g := (mkF m 67 #[.val (.int p0), .val (.int p1), .val (.int p2), .val (.int p3), .val (.ref b1), .unset, .unset, .unset, .unset, .unset, .unset, .unset] [(.int (f1 ((p0.toUInt32 >>> ((15 : Int32) &&& 31).toUInt32).toInt32))), (.int (5 : Int32)), (.ref b1)])) rfl rfl (hb hby at_67)
  have N13 := Fr.snoc X13 N12 g_b1
  have Z13 : n0 ≤ h13.size := Nat.le_trans Z11 (Keep.of_wr W13).1
  refine own_by st13 ?_
  show own_Fin p.tables e below _ (T13.setTop (mkF m 68 #[.val (.int p0), .val (.int p1), .val (.int p2), .val (.int p3), .val (.ref b1), .unset, .unset, .unset, .unset, .unset, .unset, .unset] []))
  have Vb : own_Byt Z h13 b1 (6 : Int32) (own_B0 p0) := V13
  refine own_by (fun _ k => XS.iloadN X13.here hx rfl (hb hby at_68) rfl k) ?_
  show own_Fin p.tables e below _ (T13.setTop (mkF m 69 #[.val (.int p0), .val (.int p1), .val (.int p2), .val (.int p3), .val (.ref b1), .unset, .unset, .unset, .unset, .unset, .unset, .unset] [(.int p3)]))
  refine own_by (X13.ldcInt hx hown (mvT hZ (hw _ (List.mem_of_getElem? (i := 5) rfl))) (g := (mkF m 69 #[.val (.int p0), .val (.int p1), .val (.int p2), .val (.int p3), .val (.ref b1), .unset, .unset, .unset, .unset, .unset, .unset, .unset] [(.int p3)])) rfl (hb hby at_69)) ?_
  show own_Fin p.tables e below _ (T13.setTop (mkF m 71 #[.val (.int p0), .val (.int p1), .val (.int p2), .val (.int p3), .val (.ref b1), .unset, .unset, .unset, .unset, .unset, .unset, .unset] [(.int (2147483647 : Int32)), (.int p3)]))
  refine own_by (fun _ k => XS.iand X13.here hx rfl (hb hby at_71) rfl k) ?_
  show own_Fin p.tables e below _ (T13.setTop (mkF m 72 #[.val (.int p0), .val (.int p1), .val (.int p2), .val (.int p3), .val (.ref b1), .unset, .unset, .unset, .unset, .unset, .unset, .unset] [(.int (p3 &&& (2147483647 : Int32)))]))
  refine own_by (fun _ k => XS.bipush X13.here hx rfl (hb hby at_72) k) ?_
  show own_Fin p.tables e below _ (T13.setTop (mkF m 74 #[.val (.int p0), .val (.int p1), .val (.int p2), .val (.int p3), .val (.ref b1), .unset, .unset, .unset, .unset, .unset, .unset, .unset] [(.int (7 : Int32)), (.int (p3 &&& (2147483647 : Int32)))]))
  refine own_by (fun _ k => iremM X13 hx rfl (hb hby at_74) rfl (by decide) k) ?_
  show own_Fin p.tables e below _ (T13.setTop (mkF m 75 #[.val (.int p0), .val (.int p1), .val (.int p2), .val (.int p3), .val (.ref b1), .unset, .unset, .unset, .unset, .unset, .unset, .unset] [(.int ((p3 &&& (2147483647 : Int32)) % (7 : Int32)))]))
  refine own_by (fun _ k => XS.istore X13.here hx rfl (hb hby at_75) rfl (l' := #[.val (.int p0), .val (.int p1), .val (.int p2), .val (.int p3), .val (.ref b1), .val (.int ((p3 &&& (2147483647 : Int32)) % (7 : Int32))), .unset, .unset, .unset, .unset, .unset, .unset]) rfl k) ?_
  show own_Fin p.tables e below _ (T13.setTop (mkF m 77 #[.val (.int p0), .val (.int p1), .val (.int p2), .val (.int p3), .val (.ref b1), .val (.int ((p3 &&& (2147483647 : Int32)) % (7 : Int32))), .unset, .unset, .unset, .unset, .unset, .unset] []))
  show own_Fin p.tables e below _ (T13.setTop (mkF m 77 #[.val (.int p0), .val (.int p1), .val (.int p2), .val (.int p3), .val (.ref b1), .val (.int (own_to p3)), .unset, .unset, .unset, .unset, .unset, .unset] []))
  have r3 := own_r1 p3
  refine own_by (fun _ k => XS.iloadN X13.here hx rfl (hb hby at_77) rfl k) ?_
  show own_Fin p.tables e below _ (T13.setTop (mkF m 78 #[.val (.int p0), .val (.int p1), .val (.int p2), .val (.int p3), .val (.ref b1), .val (.int (own_to p3)), .unset, .unset, .unset, .unset, .unset, .unset] [(.int p1)]))
  refine own_by (X13.ldcInt hx hown (mvT hZ (hw _ (List.mem_of_getElem? (i := 5) rfl))) (g := (mkF m 78 #[.val (.int p0), .val (.int p1), .val (.int p2), .val (.int p3), .val (.ref b1), .val (.int (own_to p3)), .unset, .unset, .unset, .unset, .unset, .unset] [(.int p1)])) rfl (hb hby at_78)) ?_
  show own_Fin p.tables e below _ (T13.setTop (mkF m 80 #[.val (.int p0), .val (.int p1), .val (.int p2), .val (.int p3), .val (.ref b1), .val (.int (own_to p3)), .unset, .unset, .unset, .unset, .unset, .unset] [(.int (2147483647 : Int32)), (.int p1)]))
  refine own_by (fun _ k => XS.iand X13.here hx rfl (hb hby at_80) rfl k) ?_
  show own_Fin p.tables e below _ (T13.setTop (mkF m 81 #[.val (.int p0), .val (.int p1), .val (.int p2), .val (.int p3), .val (.ref b1), .val (.int (own_to p3)), .unset, .unset, .unset, .unset, .unset, .unset] [(.int (p1 &&& (2147483647 : Int32)))]))
  refine own_by (fun _ k => XS.iload X13.here hx rfl (hb hby at_81) rfl k) ?_
  show own_Fin p.tables e below _ (T13.setTop (mkF m 83 #[.val (.int p0), .val (.int p1), .val (.int p2), .val (.int p3), .val (.ref b1), .val (.int (own_to p3)), .unset, .unset, .unset, .unset, .unset, .unset] [(.int (own_to p3)), (.int (p1 &&& (2147483647 : Int32)))]))
  refine own_by (fun _ k => XS.iconst X13.here hx rfl (hb hby at_83) k) ?_
  show own_Fin p.tables e below _ (T13.setTop (mkF m 84 #[.val (.int p0), .val (.int p1), .val (.int p2), .val (.int p3), .val (.ref b1), .val (.int (own_to p3)), .unset, .unset, .unset, .unset, .unset, .unset] [(.int (1 : Int32)), (.int (own_to p3)), (.int (p1 &&& (2147483647 : Int32)))]))
  refine own_by (fun _ k => XS.iadd X13.here hx rfl (hb hby at_84) rfl k) ?_
  show own_Fin p.tables e below _ (T13.setTop (mkF m 85 #[.val (.int p0), .val (.int p1), .val (.int p2), .val (.int p3), .val (.ref b1), .val (.int (own_to p3)), .unset, .unset, .unset, .unset, .unset, .unset] [(.int ((own_to p3) + (1 : Int32))), (.int (p1 &&& (2147483647 : Int32)))]))
  refine own_by (fun _ k => iremM X13 hx rfl (hb hby at_85) rfl (own_nz p3) k) ?_
  show own_Fin p.tables e below _ (T13.setTop (mkF m 86 #[.val (.int p0), .val (.int p1), .val (.int p2), .val (.int p3), .val (.ref b1), .val (.int (own_to p3)), .unset, .unset, .unset, .unset, .unset, .unset] [(.int ((p1 &&& (2147483647 : Int32)) % ((own_to p3) + (1 : Int32))))]))
  refine own_by (fun _ k => XS.istore X13.here hx rfl (hb hby at_86) rfl (l' := #[.val (.int p0), .val (.int p1), .val (.int p2), .val (.int p3), .val (.ref b1), .val (.int (own_to p3)), .val (.int ((p1 &&& (2147483647 : Int32)) % ((own_to p3) + (1 : Int32)))), .unset, .unset, .unset, .unset, .unset]) rfl k) ?_
  show own_Fin p.tables e below _ (T13.setTop (mkF m 88 #[.val (.int p0), .val (.int p1), .val (.int p2), .val (.int p3), .val (.ref b1), .val (.int (own_to p3)), .val (.int ((p1 &&& (2147483647 : Int32)) % ((own_to p3) + (1 : Int32)))), .unset, .unset, .unset, .unset, .unset] []))
  show own_Fin p.tables e below _ (T13.setTop (mkF m 88 #[.val (.int p0), .val (.int p1), .val (.int p2), .val (.int p3), .val (.ref b1), .val (.int (own_to p3)), .val (.int (own_fr p1 p3)), .unset, .unset, .unset, .unset, .unset] []))
  have r1 := own_r2 p1 p3
  refine own_by (fun _ k => XS.iloadN X13.here hx rfl (hb hby at_88) rfl k) ?_
  show own_Fin p.tables e below _ (T13.setTop (mkF m 89 #[.val (.int p0), .val (.int p1), .val (.int p2), .val (.int p3), .val (.ref b1), .val (.int (own_to p3)), .val (.int (own_fr p1 p3)), .unset, .unset, .unset, .unset, .unset] [(.int p2)]))
  refine own_by (X13.ldcInt hx hown (mvT hZ (hw _ (List.mem_of_getElem? (i := 5) rfl))) (g := (mkF m 89 #[.val (.int p0), .val (.int p1), .val (.int p2), .val (.int p3), .val (.ref b1), .val (.int (own_to p3)), .val (.int (own_fr p1 p3)), .unset, .unset, .unset, .unset, .unset] [(.int p2)])) rfl (hb hby at_89)) ?_
  show own_Fin p.tables e below _ (T13.setTop (mkF m 91 #[.val (.int p0), .val (.int p1), .val (.int p2), .val (.int p3), .val (.ref b1), .val (.int (own_to p3)), .val (.int (own_fr p1 p3)), .unset, .unset, .unset, .unset, .unset] [(.int (2147483647 : Int32)), (.int p2)]))
  refine own_by (fun _ k => XS.iand X13.here hx rfl (hb hby at_91) rfl k) ?_
  show own_Fin p.tables e below _ (T13.setTop (mkF m 92 #[.val (.int p0), .val (.int p1), .val (.int p2), .val (.int p3), .val (.ref b1), .val (.int (own_to p3)), .val (.int (own_fr p1 p3)), .unset, .unset, .unset, .unset, .unset] [(.int (p2 &&& (2147483647 : Int32)))]))
  refine own_by (fun _ k => XS.iload X13.here hx rfl (hb hby at_92) rfl k) ?_
  show own_Fin p.tables e below _ (T13.setTop (mkF m 94 #[.val (.int p0), .val (.int p1), .val (.int p2), .val (.int p3), .val (.ref b1), .val (.int (own_to p3)), .val (.int (own_fr p1 p3)), .unset, .unset, .unset, .unset, .unset] [(.int (own_to p3)), (.int (p2 &&& (2147483647 : Int32)))]))
  refine own_by (fun _ k => XS.iconst X13.here hx rfl (hb hby at_94) k) ?_
  show own_Fin p.tables e below _ (T13.setTop (mkF m 95 #[.val (.int p0), .val (.int p1), .val (.int p2), .val (.int p3), .val (.ref b1), .val (.int (own_to p3)), .val (.int (own_fr p1 p3)), .unset, .unset, .unset, .unset, .unset] [(.int (1 : Int32)), (.int (own_to p3)), (.int (p2 &&& (2147483647 : Int32)))]))
  refine own_by (fun _ k => XS.iadd X13.here hx rfl (hb hby at_95) rfl k) ?_
  show own_Fin p.tables e below _ (T13.setTop (mkF m 96 #[.val (.int p0), .val (.int p1), .val (.int p2), .val (.int p3), .val (.ref b1), .val (.int (own_to p3)), .val (.int (own_fr p1 p3)), .unset, .unset, .unset, .unset, .unset] [(.int ((own_to p3) + (1 : Int32))), (.int (p2 &&& (2147483647 : Int32)))]))
  refine own_by (fun _ k => iremM X13 hx rfl (hb hby at_96) rfl (own_nz p3) k) ?_
  show own_Fin p.tables e below _ (T13.setTop (mkF m 97 #[.val (.int p0), .val (.int p1), .val (.int p2), .val (.int p3), .val (.ref b1), .val (.int (own_to p3)), .val (.int (own_fr p1 p3)), .unset, .unset, .unset, .unset, .unset] [(.int ((p2 &&& (2147483647 : Int32)) % ((own_to p3) + (1 : Int32))))]))
  refine own_by (fun _ k => XS.istore X13.here hx rfl (hb hby at_97) rfl (l' := #[.val (.int p0), .val (.int p1), .val (.int p2), .val (.int p3), .val (.ref b1), .val (.int (own_to p3)), .val (.int (own_fr p1 p3)), .val (.int ((p2 &&& (2147483647 : Int32)) % ((own_to p3) + (1 : Int32)))), .unset, .unset, .unset, .unset]) rfl k) ?_
  show own_Fin p.tables e below _ (T13.setTop (mkF m 99 #[.val (.int p0), .val (.int p1), .val (.int p2), .val (.int p3), .val (.ref b1), .val (.int (own_to p3)), .val (.int (own_fr p1 p3)), .val (.int ((p2 &&& (2147483647 : Int32)) % ((own_to p3) + (1 : Int32)))), .unset, .unset, .unset, .unset] []))
  show own_Fin p.tables e below _ (T13.setTop (mkF m 99 #[.val (.int p0), .val (.int p1), .val (.int p2), .val (.int p3), .val (.ref b1), .val (.int (own_to p3)), .val (.int (own_fr p1 p3)), .val (.int (own_fr p2 p3)), .unset, .unset, .unset, .unset] []))
  have r2 := own_r2 p2 p3
  refine own_by (fun _ k => XS.iload X13.here hx rfl (hb hby at_99) rfl k) ?_
  show own_Fin p.tables e below _ (T13.setTop (mkF m 101 #[.val (.int p0), .val (.int p1), .val (.int p2), .val (.int p3), .val (.ref b1), .val (.int (own_to p3)), .val (.int (own_fr p1 p3)), .val (.int (own_fr p2 p3)), .unset, .unset, .unset, .unset] [(.int (own_fr p1 p3))]))
  refine own_by (fun _ k => XS.bipush X13.here hx rfl (hb hby at_101) k) ?_
  show own_Fin p.tables e below _ (T13.setTop (mkF m 103 #[.val (.int p0), .val (.int p1), .val (.int p2), .val (.int p3), .val (.ref b1), .val (.int (own_to p3)), .val (.int (own_fr p1 p3)), .val (.int (own_fr p2 p3)), .unset, .unset, .unset, .unset] [(.int (6 : Int32)), (.int (own_fr p1 p3))]))
  by_cases hc14 : (own_fr p1 p3) < (6 : Int32)
  · refine own_by (fun _ k => XS.icmpNo X13.here hx rfl (hb hby at_103) rfl (tlt hc14).2.1 k) ?_
    show own_Fin p.tables e below _ (T13.setTop (mkF m 106 #[.val (.int p0), .val (.int p1), .val (.int p2), .val (.int p3), .val (.ref b1), .val (.int (own_to p3)), .val (.int (own_fr p1 p3)), .val (.int (own_fr p2 p3)), .unset, .unset, .unset, .unset] []))
    refine own_by (fun _ k => XS.aload X13.here hx rfl (hb hby at_106) rfl rfl k) ?_
    show own_Fin p.tables e below _ (T13.setTop (mkF m 108 #[.val (.int p0), .val (.int p1), .val (.int p2), .val (.int p3), .val (.ref b1), .val (.int (own_to p3)), .val (.int (own_fr p1 p3)), .val (.int (own_fr p2 p3)), .unset, .unset, .unset, .unset] [(.ref b1)]))
    refine own_by (fun _ k => XS.iload X13.here hx rfl (hb hby at_108) rfl k) ?_
    show own_Fin p.tables e below _ (T13.setTop (mkF m 110 #[.val (.int p0), .val (.int p1), .val (.int p2), .val (.int p3), .val (.ref b1), .val (.int (own_to p3)), .val (.int (own_fr p1 p3)), .val (.int (own_fr p2 p3)), .unset, .unset, .unset, .unset] [(.int (own_fr p1 p3)), (.ref b1)]))
    refine own_by (fun _ k => XS.bipush X13.here hx rfl (hb hby at_110) k) ?_
    show own_Fin p.tables e below _ (T13.setTop (mkF m 112 #[.val (.int p0), .val (.int p1), .val (.int p2), .val (.int p3), .val (.ref b1), .val (.int (own_to p3)), .val (.int (own_fr p1 p3)), .val (.int (own_fr p2 p3)), .unset, .unset, .unset, .unset] [(.int (65 : Int32)), (.int (own_fr p1 p3)), (.ref b1)]))
    obtain ⟨T15, h15, X15, e15, V15, W15, st15⟩ := own_bst X13 hx hZ e13 Vb (j := (own_fr p1 p3)) (own_nn (by omega)) hc14 (g := (mkF m 112 #[.val (.int p0), .val (.int p1), .val (.int p2), .val (.int p3), .val (.ref b1), .val (.int (own_to p3)), .val (.int (own_fr p1 p3)), .val (.int (own_fr p2 p3)), .unset, .unset, .unset, .unset] [(.int (65 : Int32)), (.int (own_fr p1 p3)), (.ref b1)])) rfl rfl (hb hby at_112)
    have N15 := Fr.snoc X15 N13 g_b1
    have Z15 : n0 ≤ h15.size := Nat.le_trans Z13 (Keep.of_wr W15).1
    refine own_by st15 ?_
    show own_Fin p.tables e below _ (T15.setTop (mkF m 113 #[.val (.int p0), .val (.int p1), .val (.int p2), .val (.int p3), .val (.ref b1), .val (.int (own_to p3)), .val (.int (own_fr p1 p3)), .val (.int (own_fr p2 p3)), .unset, .unset, .unset, .unset] []))
    refine own_by (fun _ k => XS.aload X15.here hx rfl (hb hby at_113) rfl rfl k) ?_
    show own_Fin p.tables e below _ (T15.setTop (mkF m 115 #[.val (.int p0), .val (.int p1), .val (.int p2), .val (.int p3), .val (.ref b1), .val (.int (own_to p3)), .val (.int (own_fr p1 p3)), .val (.int (own_fr p2 p3)), .unset, .unset, .unset, .unset] [(.ref b1)]))
    refine own_by (fun _ k => XS.iload X15.here hx rfl (hb hby at_115) rfl k) ?_
    show own_Fin p.tables e below _ (T15.setTop (mkF m 117 #[.val (.int p0), .val (.int p1), .val (.int p2), .val (.int p3), .val (.ref b1), .val (.int (own_to p3)), .val (.int (own_fr p1 p3)), .val (.int (own_fr p2 p3)), .unset, .unset, .unset, .unset] [(.int (own_fr p1 p3)), (.ref b1)]))
    refine own_by (fun _ k => XS.iload X15.here hx rfl (hb hby at_117) rfl k) ?_
    show own_Fin p.tables e below _ (T15.setTop (mkF m 119 #[.val (.int p0), .val (.int p1), .val (.int p2), .val (.int p3), .val (.ref b1), .val (.int (own_to p3)), .val (.int (own_fr p1 p3)), .val (.int (own_fr p2 p3)), .unset, .unset, .unset, .unset] [(.int (own_to p3)), (.int (own_fr p1 p3)), (.ref b1)]))
    obtain ⟨_, _, ⟨T16, L16, k16, n16⟩, -, X16, ⟨Lc16, hQ16, l16, y16, z16⟩, st16⟩ := Jvm.LawKit.callS X15 hx (y := (⟨"com/example/agouti/agouti/server/RequestHeadEndPinLaw", "ref", "([BII)I"⟩ : MethodName)) hown (mvT hZ (hw _ (List.mem_of_getElem? (i := 6) rfl))) (mvT hZ (hw _ (List.mem_of_getElem? (i := 7) rfl))) (mvT hZ (hw _ (List.mem_of_getElem? (i := 3) rfl))) (mvT hZ (hw _ (List.mem_of_getElem? (i := 8) rfl))) (by decide) (backOf (W := 0) (rm2 l Z a0 hw [] b1 (own_fr p1 p3) (own_to p3) (6 : Int32) ((own_upd (own_B0 p0) (own_fr p1 p3) ((65 : Int32).toInt8.toInt32))) h15 n0 Z15 V15 (by rw [own_l6]; omega) (by omega)) hZ (hw _ (List.mem_of_getElem? (i := 8) rfl)) (hw _ (List.mem_of_getElem? (i := 3) rfl)) (by decide) (by decide)) (g := (mkF m 119 #[.val (.int p0), .val (.int p1), .val (.int p2), .val (.int p3), .val (.ref b1), .val (.int (own_to p3)), .val (.int (own_fr p1 p3)), .val (.int (own_fr p2 p3)), .unset, .unset, .unset, .unset] [(.int (own_to p3)), (.int (own_fr p1 p3)), (.ref b1)])) rfl (by rw [hml]; rfl) (argsL := [(.ref b1), (.int (own_fr p1 p3)), (.int (own_to p3))]) (rest := []) (lenOf pd___BII_I rfl) rfl (by show 2 * 0 + _ ≤ _; exact Nat.le_of_eq rfl) (hb hby at_119) (fun _ _ => ⟨rfl, e15, (by decide : 1 + 0 ≤ _), (by decide : 6 + 0 ≤ _)⟩)
    dsimp only [Pt.U, Pt.locs, Pt.cells, Pt.slots] at X16 l16 y16 z16 st16 hQ16
    subst l16 y16 z16
    obtain ⟨rfl, N16q, e16⟩ := hQ16
    have N16 := Fr.app N15 N16q
    refine own_by st16 ?_
    show own_Fin p.tables e below _ (T16.setTop (mkF m 122 #[.val (.int p0), .val (.int p1), .val (.int p2), .val (.int p3), .val (.ref b1), .val (.int (own_to p3)), .val (.int (own_fr p1 p3)), .val (.int (own_fr p2 p3)), .unset, .unset, .unset, .unset] [(.int (f2 (6 : Int32) (own_upd (own_B0 p0) (own_fr p1 p3) ((65 : Int32).toInt8.toInt32)) (own_fr p1 p3) (own_to p3)))]))
    refine own_by (fun _ k => XS.istore X16.here hx rfl (hb hby at_122) rfl (l' := #[.val (.int p0), .val (.int p1), .val (.int p2), .val (.int p3), .val (.ref b1), .val (.int (own_to p3)), .val (.int (own_fr p1 p3)), .val (.int (own_fr p2 p3)), .val (.int (f2 (6 : Int32) (own_upd (own_B0 p0) (own_fr p1 p3) ((65 : Int32).toInt8.toInt32)) (own_fr p1 p3) (own_to p3))), .unset, .unset, .unset]) rfl k) ?_
    show own_Fin p.tables e below _ (T16.setTop (mkF m 124 #[.val (.int p0), .val (.int p1), .val (.int p2), .val (.int p3), .val (.ref b1), .val (.int (own_to p3)), .val (.int (own_fr p1 p3)), .val (.int (own_fr p2 p3)), .val (.int (f2 (6 : Int32) (own_upd (own_B0 p0) (own_fr p1 p3) ((65 : Int32).toInt8.toInt32)) (own_fr p1 p3) (own_to p3))), .unset, .unset, .unset] []))
    refine own_by (fun _ k => XS.aload X16.here hx rfl (hb hby at_124) rfl rfl k) ?_
    show own_Fin p.tables e below _ (T16.setTop (mkF m 126 #[.val (.int p0), .val (.int p1), .val (.int p2), .val (.int p3), .val (.ref b1), .val (.int (own_to p3)), .val (.int (own_fr p1 p3)), .val (.int (own_fr p2 p3)), .val (.int (f2 (6 : Int32) (own_upd (own_B0 p0) (own_fr p1 p3) ((65 : Int32).toInt8.toInt32)) (own_fr p1 p3) (own_to p3))), .unset, .unset, .unset] [(.ref b1)]))
    refine own_by (fun _ k => XS.iload X16.here hx rfl (hb hby at_126) rfl k) ?_
    show own_Fin p.tables e below _ (T16.setTop (mkF m 128 #[.val (.int p0), .val (.int p1), .val (.int p2), .val (.int p3), .val (.ref b1), .val (.int (own_to p3)), .val (.int (own_fr p1 p3)), .val (.int (own_fr p2 p3)), .val (.int (f2 (6 : Int32) (own_upd (own_B0 p0) (own_fr p1 p3) ((65 : Int32).toInt8.toInt32)) (own_fr p1 p3) (own_to p3))), .unset, .unset, .unset] [(.int (own_fr p1 p3)), (.ref b1)]))
    refine own_by (fun _ k => XS.iload X16.here hx rfl (hb hby at_128) rfl k) ?_
    show own_Fin p.tables e below _ (T16.setTop (mkF m 130 #[.val (.int p0), .val (.int p1), .val (.int p2), .val (.int p3), .val (.ref b1), .val (.int (own_to p3)), .val (.int (own_fr p1 p3)), .val (.int (own_fr p2 p3)), .val (.int (f2 (6 : Int32) (own_upd (own_B0 p0) (own_fr p1 p3) ((65 : Int32).toInt8.toInt32)) (own_fr p1 p3) (own_to p3))), .unset, .unset, .unset] [(.int (own_fr p1 p3)), (.int (own_fr p1 p3)), (.ref b1)]))
    refine own_by (fun _ k => XS.iload X16.here hx rfl (hb hby at_130) rfl k) ?_
    show own_Fin p.tables e below _ (T16.setTop (mkF m 132 #[.val (.int p0), .val (.int p1), .val (.int p2), .val (.int p3), .val (.ref b1), .val (.int (own_to p3)), .val (.int (own_fr p1 p3)), .val (.int (own_fr p2 p3)), .val (.int (f2 (6 : Int32) (own_upd (own_B0 p0) (own_fr p1 p3) ((65 : Int32).toInt8.toInt32)) (own_fr p1 p3) (own_to p3))), .unset, .unset, .unset] [(.int (own_to p3)), (.int (own_fr p1 p3)), (.int (own_fr p1 p3)), (.ref b1)]))
    obtain ⟨_, _, ⟨T17, L17, k17, n17⟩, -, X17, ⟨Lc17, hQ17, l17, y17, z17⟩, st17⟩ := Jvm.LawKit.callS X16 hx (y := (⟨"com/example/agouti/agouti/server/RequestHead", "end", "([BIII)I"⟩ : MethodName)) hown (mvT hZ (hw _ (List.mem_of_getElem? (i := 12) rfl))) (mvT hZ (hw _ (List.mem_of_getElem? (i := 13) rfl))) (mvT hZ (hw _ (List.mem_of_getElem? (i := 14) rfl))) (mvT hZ (hw _ (List.mem_of_getElem? (i := 15) rfl))) (by decide) (backOf (W := 0) (rm4 l Z a0 hw [] b1 (own_fr p1 p3) (own_fr p1 p3) (own_to p3) (6 : Int32) ((own_upd (own_B0 p0) (own_fr p1 p3) ((65 : Int32).toInt8.toInt32))) h15 n0 Z15 V15 (by rw [own_l6]; omega) (by omega) (by omega) (by omega) (by omega) (by omega)) hZ (hw _ (List.mem_of_getElem? (i := 15) rfl)) (hw _ (List.mem_of_getElem? (i := 14) rfl)) (by decide) (by decide)) (g := (mkF m 132 #[.val (.int p0), .val (.int p1), .val (.int p2), .val (.int p3), .val (.ref b1), .val (.int (own_to p3)), .val (.int (own_fr p1 p3)), .val (.int (own_fr p2 p3)), .val (.int (f2 (6 : Int32) (own_upd (own_B0 p0) (own_fr p1 p3) ((65 : Int32).toInt8.toInt32)) (own_fr p1 p3) (own_to p3))), .unset, .unset, .unset] [(.int (own_to p3)), (.int (own_fr p1 p3)), (.int (own_fr p1 p3)), (.ref b1)])) rfl (by rw [hml]; rfl) (argsL := [(.ref b1), (.int (own_fr p1 p3)), (.int (own_fr p1 p3)), (.int (own_to p3))]) (rest := []) (lenOf pd___BIII_I rfl) rfl (by show 2 * 0 + _ ≤ _; exact Nat.le_of_eq rfl) (hb hby at_132) (fun _ _ => ⟨rfl, e16, (by decide : 1 + 0 ≤ _), (by decide : 6 + 0 ≤ _)⟩)
    dsimp only [Pt.U, Pt.locs, Pt.cells, Pt.slots] at X17 l17 y17 z17 st17 hQ17
    subst l17 y17 z17
    obtain ⟨rfl, N17q, e17⟩ := hQ17
    have N17 := Fr.app N16 N17q
    refine own_by st17 ?_
    show own_Fin p.tables e below _ (T17.setTop (mkF m 135 #[.val (.int p0), .val (.int p1), .val (.int p2), .val (.int p3), .val (.ref b1), .val (.int (own_to p3)), .val (.int (own_fr p1 p3)), .val (.int (own_fr p2 p3)), .val (.int (f2 (6 : Int32) (own_upd (own_B0 p0) (own_fr p1 p3) ((65 : Int32).toInt8.toInt32)) (own_fr p1 p3) (own_to p3))), .unset, .unset, .unset] [(.int (f4 (6 : Int32) (own_upd (own_B0 p0) (own_fr p1 p3) ((65 : Int32).toInt8.toInt32)) (own_fr p1 p3) (own_fr p1 p3) (own_to p3)))]))
    refine own_by (fun _ k => XS.iload X17.here hx rfl (hb hby at_135) rfl k) ?_
    show own_Fin p.tables e below _ (T17.setTop (mkF m 137 #[.val (.int p0), .val (.int p1), .val (.int p2), .val (.int p3), .val (.ref b1), .val (.int (own_to p3)), .val (.int (own_fr p1 p3)), .val (.int (own_fr p2 p3)), .val (.int (f2 (6 : Int32) (own_upd (own_B0 p0) (own_fr p1 p3) ((65 : Int32).toInt8.toInt32)) (own_fr p1 p3) (own_to p3))), .unset, .unset, .unset] [(.int (f2 (6 : Int32) (own_upd (own_B0 p0) (own_fr p1 p3) ((65 : Int32).toInt8.toInt32)) (own_fr p1 p3) (own_to p3))), (.int (f4 (6 : Int32) (own_upd (own_B0 p0) (own_fr p1 p3) ((65 : Int32).toInt8.toInt32)) (own_fr p1 p3) (own_fr p1 p3) (own_to p3)))]))
    by_cases hc18 : (f4 (6 : Int32) (own_upd (own_B0 p0) (own_fr p1 p3) ((65 : Int32).toInt8.toInt32)) (own_fr p1 p3) (own_fr p1 p3) (own_to p3)) = (f2 (6 : Int32) (own_upd (own_B0 p0) (own_fr p1 p3) ((65 : Int32).toInt8.toInt32)) (own_fr p1 p3) (own_to p3))
    · refine own_by (fun _ k => XS.icmpNo X17.here hx rfl (hb hby at_137) rfl (teq hc18).2 k) ?_
      show own_Fin p.tables e below _ (T17.setTop (mkF m 140 #[.val (.int p0), .val (.int p1), .val (.int p2), .val (.int p3), .val (.ref b1), .val (.int (own_to p3)), .val (.int (own_fr p1 p3)), .val (.int (own_fr p2 p3)), .val (.int (f2 (6 : Int32) (own_upd (own_B0 p0) (own_fr p1 p3) ((65 : Int32).toInt8.toInt32)) (own_fr p1 p3) (own_to p3))), .unset, .unset, .unset] []))
      refine own_by (fun _ k => XS.iconst X17.here hx rfl (hb hby at_140) k) ?_
      show own_Fin p.tables e below _ (T17.setTop (mkF m 141 #[.val (.int p0), .val (.int p1), .val (.int p2), .val (.int p3), .val (.ref b1), .val (.int (own_to p3)), .val (.int (own_fr p1 p3)), .val (.int (own_fr p2 p3)), .val (.int (f2 (6 : Int32) (own_upd (own_B0 p0) (own_fr p1 p3) ((65 : Int32).toInt8.toInt32)) (own_fr p1 p3) (own_to p3))), .unset, .unset, .unset] [(.int (1 : Int32))]))
      refine own_by (fun _ k => XS.goto X17.here hx rfl (pc0 := 141) (pc' := 145) rfl (hb hby at_141) (by decide) (by decide) k) ?_
      show own_Fin p.tables e below _ (T17.setTop (mkF m 145 #[.val (.int p0), .val (.int p1), .val (.int p2), .val (.int p3), .val (.ref b1), .val (.int (own_to p3)), .val (.int (own_fr p1 p3)), .val (.int (own_fr p2 p3)), .val (.int (f2 (6 : Int32) (own_upd (own_B0 p0) (own_fr p1 p3) ((65 : Int32).toInt8.toInt32)) (own_fr p1 p3) (own_to p3))), .unset, .unset, .unset] [(.int (1 : Int32))]))
      refine own_by (fun _ k => XS.istore X17.here hx rfl (hb hby at_145) rfl (l' := #[.val (.int p0), .val (.int p1), .val (.int p2), .val (.int p3), .val (.ref b1), .val (.int (own_to p3)), .val (.int (own_fr p1 p3)), .val (.int (own_fr p2 p3)), .val (.int (f2 (6 : Int32) (own_upd (own_B0 p0) (own_fr p1 p3) ((65 : Int32).toInt8.toInt32)) (own_fr p1 p3) (own_to p3))), .val (.int (1 : Int32)), .unset, .unset]) rfl k) ?_
      show own_Fin p.tables e below _ (T17.setTop (mkF m 147 #[.val (.int p0), .val (.int p1), .val (.int p2), .val (.int p3), .val (.ref b1), .val (.int (own_to p3)), .val (.int (own_fr p1 p3)), .val (.int (own_fr p2 p3)), .val (.int (f2 (6 : Int32) (own_upd (own_B0 p0) (own_fr p1 p3) ((65 : Int32).toInt8.toInt32)) (own_fr p1 p3) (own_to p3))), .val (.int (1 : Int32)), .unset, .unset] []))
      refine own_by (fun _ k => XS.aload X17.here hx rfl (hb hby at_147) rfl rfl k) ?_
      show own_Fin p.tables e below _ (T17.setTop (mkF m 149 #[.val (.int p0), .val (.int p1), .val (.int p2), .val (.int p3), .val (.ref b1), .val (.int (own_to p3)), .val (.int (own_fr p1 p3)), .val (.int (own_fr p2 p3)), .val (.int (f2 (6 : Int32) (own_upd (own_B0 p0) (own_fr p1 p3) ((65 : Int32).toInt8.toInt32)) (own_fr p1 p3) (own_to p3))), .val (.int (1 : Int32)), .unset, .unset] [(.ref b1)]))
      refine own_by (fun _ k => XS.iload X17.here hx rfl (hb hby at_149) rfl k) ?_
      show own_Fin p.tables e below _ (T17.setTop (mkF m 151 #[.val (.int p0), .val (.int p1), .val (.int p2), .val (.int p3), .val (.ref b1), .val (.int (own_to p3)), .val (.int (own_fr p1 p3)), .val (.int (own_fr p2 p3)), .val (.int (f2 (6 : Int32) (own_upd (own_B0 p0) (own_fr p1 p3) ((65 : Int32).toInt8.toInt32)) (own_fr p1 p3) (own_to p3))), .val (.int (1 : Int32)), .unset, .unset] [(.int (own_fr p1 p3)), (.ref b1)]))
      refine own_by (fun _ k => XS.iload X17.here hx rfl (hb hby at_151) rfl k) ?_
      show own_Fin p.tables e below _ (T17.setTop (mkF m 153 #[.val (.int p0), .val (.int p1), .val (.int p2), .val (.int p3), .val (.ref b1), .val (.int (own_to p3)), .val (.int (own_fr p1 p3)), .val (.int (own_fr p2 p3)), .val (.int (f2 (6 : Int32) (own_upd (own_B0 p0) (own_fr p1 p3) ((65 : Int32).toInt8.toInt32)) (own_fr p1 p3) (own_to p3))), .val (.int (1 : Int32)), .unset, .unset] [(.int (own_fr p2 p3)), (.int (own_fr p1 p3)), (.ref b1)]))
      obtain ⟨_, _, ⟨T19, L19, k19, n19⟩, -, X19, ⟨Lc19, hQ19, l19, y19, z19⟩, st19⟩ := Jvm.LawKit.callS X17 hx (y := (⟨"com/example/agouti/agouti/server/RequestHeadEndPinLaw", "ref", "([BII)I"⟩ : MethodName)) hown (mvT hZ (hw _ (List.mem_of_getElem? (i := 6) rfl))) (mvT hZ (hw _ (List.mem_of_getElem? (i := 7) rfl))) (mvT hZ (hw _ (List.mem_of_getElem? (i := 3) rfl))) (mvT hZ (hw _ (List.mem_of_getElem? (i := 8) rfl))) (by decide) (backOf (W := 0) (rm2 l Z a0 hw [] b1 (own_fr p1 p3) (own_fr p2 p3) (6 : Int32) ((own_upd (own_B0 p0) (own_fr p1 p3) ((65 : Int32).toInt8.toInt32))) h15 n0 Z15 V15 (by rw [own_l6]; omega) (by omega)) hZ (hw _ (List.mem_of_getElem? (i := 8) rfl)) (hw _ (List.mem_of_getElem? (i := 3) rfl)) (by decide) (by decide)) (g := (mkF m 153 #[.val (.int p0), .val (.int p1), .val (.int p2), .val (.int p3), .val (.ref b1), .val (.int (own_to p3)), .val (.int (own_fr p1 p3)), .val (.int (own_fr p2 p3)), .val (.int (f2 (6 : Int32) (own_upd (own_B0 p0) (own_fr p1 p3) ((65 : Int32).toInt8.toInt32)) (own_fr p1 p3) (own_to p3))), .val (.int (1 : Int32)), .unset, .unset] [(.int (own_fr p2 p3)), (.int (own_fr p1 p3)), (.ref b1)])) rfl (by rw [hml]; rfl) (argsL := [(.ref b1), (.int (own_fr p1 p3)), (.int (own_fr p2 p3))]) (rest := []) (lenOf pd___BII_I rfl) rfl (by show 2 * 0 + _ ≤ _; exact Nat.le_of_eq rfl) (hb hby at_153) (fun _ _ => ⟨rfl, e17, (by decide : 1 + 0 ≤ _), (by decide : 6 + 0 ≤ _)⟩)
      dsimp only [Pt.U, Pt.locs, Pt.cells, Pt.slots] at X19 l19 y19 z19 st19 hQ19
      subst l19 y19 z19
      obtain ⟨rfl, N19q, e19⟩ := hQ19
      have N19 := Fr.app N17 N19q
      refine own_by st19 ?_
      show own_Fin p.tables e below _ (T19.setTop (mkF m 156 #[.val (.int p0), .val (.int p1), .val (.int p2), .val (.int p3), .val (.ref b1), .val (.int (own_to p3)), .val (.int (own_fr p1 p3)), .val (.int (own_fr p2 p3)), .val (.int (f2 (6 : Int32) (own_upd (own_B0 p0) (own_fr p1 p3) ((65 : Int32).toInt8.toInt32)) (own_fr p1 p3) (own_to p3))), .val (.int (1 : Int32)), .unset, .unset] [(.int (f2 (6 : Int32) (own_upd (own_B0 p0) (own_fr p1 p3) ((65 : Int32).toInt8.toInt32)) (own_fr p1 p3) (own_fr p2 p3)))]))
      refine own_by (fun _ k => XS.iconst X19.here hx rfl (hb hby at_156) k) ?_
      show own_Fin p.tables e below _ (T19.setTop (mkF m 157 #[.val (.int p0), .val (.int p1), .val (.int p2), .val (.int p3), .val (.ref b1), .val (.int (own_to p3)), .val (.int (own_fr p1 p3)), .val (.int (own_fr p2 p3)), .val (.int (f2 (6 : Int32) (own_upd (own_B0 p0) (own_fr p1 p3) ((65 : Int32).toInt8.toInt32)) (own_fr p1 p3) (own_to p3))), .val (.int (1 : Int32)), .unset, .unset] [(.int (-1 : Int32)), (.int (f2 (6 : Int32) (own_upd (own_B0 p0) (own_fr p1 p3) ((65 : Int32).toInt8.toInt32)) (own_fr p1 p3) (own_fr p2 p3)))]))
      by_cases hc20 : (f2 (6 : Int32) (own_upd (own_B0 p0) (own_fr p1 p3) ((65 : Int32).toInt8.toInt32)) (own_fr p1 p3) (own_fr p2 p3)) = (-1 : Int32)
      · refine own_by (fun _ k => XS.icmpNo X19.here hx rfl (hb hby at_157) rfl (teq hc20).2 k) ?_
        show own_Fin p.tables e below _ (T19.setTop (mkF m 160 #[.val (.int p0), .val (.int p1), .val (.int p2), .val (.int p3), .val (.ref b1), .val (.int (own_to p3)), .val (.int (own_fr p1 p3)), .val (.int (own_fr p2 p3)), .val (.int (f2 (6 : Int32) (own_upd (own_B0 p0) (own_fr p1 p3) ((65 : Int32).toInt8.toInt32)) (own_fr p1 p3) (own_to p3))), .val (.int (1 : Int32)), .unset, .unset] []))
        refine own_by (fun _ k => XS.iconst X19.here hx rfl (hb hby at_160) k) ?_
        show own_Fin p.tables e below _ (T19.setTop (mkF m 161 #[.val (.int p0), .val (.int p1), .val (.int p2), .val (.int p3), .val (.ref b1), .val (.int (own_to p3)), .val (.int (own_fr p1 p3)), .val (.int (own_fr p2 p3)), .val (.int (f2 (6 : Int32) (own_upd (own_B0 p0) (own_fr p1 p3) ((65 : Int32).toInt8.toInt32)) (own_fr p1 p3) (own_to p3))), .val (.int (1 : Int32)), .unset, .unset] [(.int (1 : Int32))]))
        refine own_by (fun _ k => XS.goto X19.here hx rfl (pc0 := 161) (pc' := 165) rfl (hb hby at_161) (by decide) (by decide) k) ?_
        show own_Fin p.tables e below _ (T19.setTop (mkF m 165 #[.val (.int p0), .val (.int p1), .val (.int p2), .val (.int p3), .val (.ref b1), .val (.int (own_to p3)), .val (.int (own_fr p1 p3)), .val (.int (own_fr p2 p3)), .val (.int (f2 (6 : Int32) (own_upd (own_B0 p0) (own_fr p1 p3) ((65 : Int32).toInt8.toInt32)) (own_fr p1 p3) (own_to p3))), .val (.int (1 : Int32)), .unset, .unset] [(.int (1 : Int32))]))
        refine own_by (fun _ k => XS.istore X19.here hx rfl (hb hby at_165) rfl (l' := #[.val (.int p0), .val (.int p1), .val (.int p2), .val (.int p3), .val (.ref b1), .val (.int (own_to p3)), .val (.int (own_fr p1 p3)), .val (.int (own_fr p2 p3)), .val (.int (f2 (6 : Int32) (own_upd (own_B0 p0) (own_fr p1 p3) ((65 : Int32).toInt8.toInt32)) (own_fr p1 p3) (own_to p3))), .val (.int (1 : Int32)), .val (.int (1 : Int32)), .unset]) rfl k) ?_
        show own_Fin p.tables e below _ (T19.setTop (mkF m 167 #[.val (.int p0), .val (.int p1), .val (.int p2), .val (.int p3), .val (.ref b1), .val (.int (own_to p3)), .val (.int (own_fr p1 p3)), .val (.int (own_fr p2 p3)), .val (.int (f2 (6 : Int32) (own_upd (own_B0 p0) (own_fr p1 p3) ((65 : Int32).toInt8.toInt32)) (own_fr p1 p3) (own_to p3))), .val (.int (1 : Int32)), .val (.int (1 : Int32)), .unset] []))
        refine own_by (fun _ k => XS.iload X19.here hx rfl (hb hby at_167) rfl k) ?_
        show own_Fin p.tables e below _ (T19.setTop (mkF m 169 #[.val (.int p0), .val (.int p1), .val (.int p2), .val (.int p3), .val (.ref b1), .val (.int (own_to p3)), .val (.int (own_fr p1 p3)), .val (.int (own_fr p2 p3)), .val (.int (f2 (6 : Int32) (own_upd (own_B0 p0) (own_fr p1 p3) ((65 : Int32).toInt8.toInt32)) (own_fr p1 p3) (own_to p3))), .val (.int (1 : Int32)), .val (.int (1 : Int32)), .unset] [(.int (1 : Int32))]))
        refine own_by (fun _ k => XS.ifNo X19.here hx rfl (hb hby at_169) rfl ((if0 _ _).trans (feq (by decide)).1) k) ?_
        show own_Fin p.tables e below _ (T19.setTop (mkF m 172 #[.val (.int p0), .val (.int p1), .val (.int p2), .val (.int p3), .val (.ref b1), .val (.int (own_to p3)), .val (.int (own_fr p1 p3)), .val (.int (own_fr p2 p3)), .val (.int (f2 (6 : Int32) (own_upd (own_B0 p0) (own_fr p1 p3) ((65 : Int32).toInt8.toInt32)) (own_fr p1 p3) (own_to p3))), .val (.int (1 : Int32)), .val (.int (1 : Int32)), .unset] []))
        refine own_by (fun _ k => XS.aload X19.here hx rfl (hb hby at_172) rfl rfl k) ?_
        show own_Fin p.tables e below _ (T19.setTop (mkF m 174 #[.val (.int p0), .val (.int p1), .val (.int p2), .val (.int p3), .val (.ref b1), .val (.int (own_to p3)), .val (.int (own_fr p1 p3)), .val (.int (own_fr p2 p3)), .val (.int (f2 (6 : Int32) (own_upd (own_B0 p0) (own_fr p1 p3) ((65 : Int32).toInt8.toInt32)) (own_fr p1 p3) (own_to p3))), .val (.int (1 : Int32)), .val (.int (1 : Int32)), .unset] [(.ref b1)]))
        refine own_by (fun _ k => XS.iload X19.here hx rfl (hb hby at_174) rfl k) ?_
        show own_Fin p.tables e below _ (T19.setTop (mkF m 176 #[.val (.int p0), .val (.int p1), .val (.int p2), .val (.int p3), .val (.ref b1), .val (.int (own_to p3)), .val (.int (own_fr p1 p3)), .val (.int (own_fr p2 p3)), .val (.int (f2 (6 : Int32) (own_upd (own_B0 p0) (own_fr p1 p3) ((65 : Int32).toInt8.toInt32)) (own_fr p1 p3) (own_to p3))), .val (.int (1 : Int32)), .val (.int (1 : Int32)), .unset] [(.int (own_fr p1 p3)), (.ref b1)]))
        refine own_by (fun _ k => XS.iload X19.here hx rfl (hb hby at_176) rfl k) ?_
        show own_Fin p.tables e below _ (T19.setTop (mkF m 178 #[.val (.int p0), .val (.int p1), .val (.int p2), .val (.int p3), .val (.ref b1), .val (.int (own_to p3)), .val (.int (own_fr p1 p3)), .val (.int (own_fr p2 p3)), .val (.int (f2 (6 : Int32) (own_upd (own_B0 p0) (own_fr p1 p3) ((65 : Int32).toInt8.toInt32)) (own_fr p1 p3) (own_to p3))), .val (.int (1 : Int32)), .val (.int (1 : Int32)), .unset] [(.int (own_fr p2 p3)), (.int (own_fr p1 p3)), (.ref b1)]))
        refine own_by (fun _ k => XS.iload X19.here hx rfl (hb hby at_178) rfl k) ?_
        show own_Fin p.tables e below _ (T19.setTop (mkF m 180 #[.val (.int p0), .val (.int p1), .val (.int p2), .val (.int p3), .val (.ref b1), .val (.int (own_to p3)), .val (.int (own_fr p1 p3)), .val (.int (own_fr p2 p3)), .val (.int (f2 (6 : Int32) (own_upd (own_B0 p0) (own_fr p1 p3) ((65 : Int32).toInt8.toInt32)) (own_fr p1 p3) (own_to p3))), .val (.int (1 : Int32)), .val (.int (1 : Int32)), .unset] [(.int (own_to p3)), (.int (own_fr p2 p3)), (.int (own_fr p1 p3)), (.ref b1)]))
        obtain ⟨_, _, ⟨T21, L21, k21, n21⟩, -, X21, ⟨Lc21, hQ21, l21, y21, z21⟩, st21⟩ := Jvm.LawKit.callS X19 hx (y := (⟨"com/example/agouti/agouti/server/RequestHead", "end", "([BIII)I"⟩ : MethodName)) hown (mvT hZ (hw _ (List.mem_of_getElem? (i := 12) rfl))) (mvT hZ (hw _ (List.mem_of_getElem? (i := 13) rfl))) (mvT hZ (hw _ (List.mem_of_getElem? (i := 14) rfl))) (mvT hZ (hw _ (List.mem_of_getElem? (i := 15) rfl))) (by decide) (backOf (W := 0) (rm4 l Z a0 hw [] b1 (own_fr p1 p3) (own_fr p2 p3) (own_to p3) (6 : Int32) ((own_upd (own_B0 p0) (own_fr p1 p3) ((65 : Int32).toInt8.toInt32))) h15 n0 Z15 V15 (by rw [own_l6]; omega) (by omega) (by omega) (by omega) (by omega) (by omega)) hZ (hw _ (List.mem_of_getElem? (i := 15) rfl)) (hw _ (List.mem_of_getElem? (i := 14) rfl)) (by decide) (by decide)) (g := (mkF m 180 #[.val (.int p0), .val (.int p1), .val (.int p2), .val (.int p3), .val (.ref b1), .val (.int (own_to p3)), .val (.int (own_fr p1 p3)), .val (.int (own_fr p2 p3)), .val (.int (f2 (6 : Int32) (own_upd (own_B0 p0) (own_fr p1 p3) ((65 : Int32).toInt8.toInt32)) (own_fr p1 p3) (own_to p3))), .val (.int (1 : Int32)), .val (.int (1 : Int32)), .unset] [(.int (own_to p3)), (.int (own_fr p2 p3)), (.int (own_fr p1 p3)), (.ref b1)])) rfl (by rw [hml]; rfl) (argsL := [(.ref b1), (.int (own_fr p1 p3)), (.int (own_fr p2 p3)), (.int (own_to p3))]) (rest := []) (lenOf pd___BIII_I rfl) rfl (by show 2 * 0 + _ ≤ _; exact Nat.le_of_eq rfl) (hb hby at_180) (fun _ _ => ⟨rfl, e19, (by decide : 1 + 0 ≤ _), (by decide : 6 + 0 ≤ _)⟩)
        dsimp only [Pt.U, Pt.locs, Pt.cells, Pt.slots] at X21 l21 y21 z21 st21 hQ21
        subst l21 y21 z21
        obtain ⟨rfl, N21q, e21⟩ := hQ21
        have N21 := Fr.app N19 N21q
        refine own_by st21 ?_
        show own_Fin p.tables e below _ (T21.setTop (mkF m 183 #[.val (.int p0), .val (.int p1), .val (.int p2), .val (.int p3), .val (.ref b1), .val (.int (own_to p3)), .val (.int (own_fr p1 p3)), .val (.int (own_fr p2 p3)), .val (.int (f2 (6 : Int32) (own_upd (own_B0 p0) (own_fr p1 p3) ((65 : Int32).toInt8.toInt32)) (own_fr p1 p3) (own_to p3))), .val (.int (1 : Int32)), .val (.int (1 : Int32)), .unset] [(.int (f4 (6 : Int32) (own_upd (own_B0 p0) (own_fr p1 p3) ((65 : Int32).toInt8.toInt32)) (own_fr p1 p3) (own_fr p2 p3) (own_to p3)))]))
        refine own_by (fun _ k => XS.iload X21.here hx rfl (hb hby at_183) rfl k) ?_
        show own_Fin p.tables e below _ (T21.setTop (mkF m 185 #[.val (.int p0), .val (.int p1), .val (.int p2), .val (.int p3), .val (.ref b1), .val (.int (own_to p3)), .val (.int (own_fr p1 p3)), .val (.int (own_fr p2 p3)), .val (.int (f2 (6 : Int32) (own_upd (own_B0 p0) (own_fr p1 p3) ((65 : Int32).toInt8.toInt32)) (own_fr p1 p3) (own_to p3))), .val (.int (1 : Int32)), .val (.int (1 : Int32)), .unset] [(.int (f2 (6 : Int32) (own_upd (own_B0 p0) (own_fr p1 p3) ((65 : Int32).toInt8.toInt32)) (own_fr p1 p3) (own_to p3))), (.int (f4 (6 : Int32) (own_upd (own_B0 p0) (own_fr p1 p3) ((65 : Int32).toInt8.toInt32)) (own_fr p1 p3) (own_fr p2 p3) (own_to p3)))]))
        by_cases hc22 : (f4 (6 : Int32) (own_upd (own_B0 p0) (own_fr p1 p3) ((65 : Int32).toInt8.toInt32)) (own_fr p1 p3) (own_fr p2 p3) (own_to p3)) = (f2 (6 : Int32) (own_upd (own_B0 p0) (own_fr p1 p3) ((65 : Int32).toInt8.toInt32)) (own_fr p1 p3) (own_to p3))
        · refine own_by (fun _ k => XS.icmpNo X21.here hx rfl (hb hby at_185) rfl (teq hc22).2 k) ?_
          show own_Fin p.tables e below _ (T21.setTop (mkF m 188 #[.val (.int p0), .val (.int p1), .val (.int p2), .val (.int p3), .val (.ref b1), .val (.int (own_to p3)), .val (.int (own_fr p1 p3)), .val (.int (own_fr p2 p3)), .val (.int (f2 (6 : Int32) (own_upd (own_B0 p0) (own_fr p1 p3) ((65 : Int32).toInt8.toInt32)) (own_fr p1 p3) (own_to p3))), .val (.int (1 : Int32)), .val (.int (1 : Int32)), .unset] []))
          refine own_by (fun _ k => XS.iconst X21.here hx rfl (hb hby at_188) k) ?_
          show own_Fin p.tables e below _ (T21.setTop (mkF m 189 #[.val (.int p0), .val (.int p1), .val (.int p2), .val (.int p3), .val (.ref b1), .val (.int (own_to p3)), .val (.int (own_fr p1 p3)), .val (.int (own_fr p2 p3)), .val (.int (f2 (6 : Int32) (own_upd (own_B0 p0) (own_fr p1 p3) ((65 : Int32).toInt8.toInt32)) (own_fr p1 p3) (own_to p3))), .val (.int (1 : Int32)), .val (.int (1 : Int32)), .unset] [(.int (1 : Int32))]))
          refine own_by (fun _ k => XS.goto X21.here hx rfl (pc0 := 189) (pc' := 193) rfl (hb hby at_189) (by decide) (by decide) k) ?_
          show own_Fin p.tables e below _ (T21.setTop (mkF m 193 #[.val (.int p0), .val (.int p1), .val (.int p2), .val (.int p3), .val (.ref b1), .val (.int (own_to p3)), .val (.int (own_fr p1 p3)), .val (.int (own_fr p2 p3)), .val (.int (f2 (6 : Int32) (own_upd (own_B0 p0) (own_fr p1 p3) ((65 : Int32).toInt8.toInt32)) (own_fr p1 p3) (own_to p3))), .val (.int (1 : Int32)), .val (.int (1 : Int32)), .unset] [(.int (1 : Int32))]))
          refine own_by (fun _ k => XS.istore X21.here hx rfl (hb hby at_193) rfl (l' := #[.val (.int p0), .val (.int p1), .val (.int p2), .val (.int p3), .val (.ref b1), .val (.int (own_to p3)), .val (.int (own_fr p1 p3)), .val (.int (own_fr p2 p3)), .val (.int (f2 (6 : Int32) (own_upd (own_B0 p0) (own_fr p1 p3) ((65 : Int32).toInt8.toInt32)) (own_fr p1 p3) (own_to p3))), .val (.int (1 : Int32)), .val (.int (1 : Int32)), .val (.int (1 : Int32))]) rfl k) ?_
          show own_Fin p.tables e below _ (T21.setTop (mkF m 195 #[.val (.int p0), .val (.int p1), .val (.int p2), .val (.int p3), .val (.ref b1), .val (.int (own_to p3)), .val (.int (own_fr p1 p3)), .val (.int (own_fr p2 p3)), .val (.int (f2 (6 : Int32) (own_upd (own_B0 p0) (own_fr p1 p3) ((65 : Int32).toInt8.toInt32)) (own_fr p1 p3) (own_to p3))), .val (.int (1 : Int32)), .val (.int (1 : Int32)), .val (.int (1 : Int32))] []))
          refine own_by (fun _ k => XS.iload X21.here hx rfl (hb hby at_195) rfl k) ?_
          show own_Fin p.tables e below _ (T21.setTop (mkF m 197 #[.val (.int p0), .val (.int p1), .val (.int p2), .val (.int p3), .val (.ref b1), .val (.int (own_to p3)), .val (.int (own_fr p1 p3)), .val (.int (own_fr p2 p3)), .val (.int (f2 (6 : Int32) (own_upd (own_B0 p0) (own_fr p1 p3) ((65 : Int32).toInt8.toInt32)) (own_fr p1 p3) (own_to p3))), .val (.int (1 : Int32)), .val (.int (1 : Int32)), .val (.int (1 : Int32))] [(.int (1 : Int32))]))
          refine own_by (fun _ k => XS.ifNo X21.here hx rfl (hb hby at_197) rfl ((if0 _ _).trans (feq (by decide)).1) k) ?_
          show own_Fin p.tables e below _ (T21.setTop (mkF m 200 #[.val (.int p0), .val (.int p1), .val (.int p2), .val (.int p3), .val (.ref b1), .val (.int (own_to p3)), .val (.int (own_fr p1 p3)), .val (.int (own_fr p2 p3)), .val (.int (f2 (6 : Int32) (own_upd (own_B0 p0) (own_fr p1 p3) ((65 : Int32).toInt8.toInt32)) (own_fr p1 p3) (own_to p3))), .val (.int (1 : Int32)), .val (.int (1 : Int32)), .val (.int (1 : Int32))] []))
          refine own_by (fun _ k => XS.iload X21.here hx rfl (hb hby at_200) rfl k) ?_
          show own_Fin p.tables e below _ (T21.setTop (mkF m 202 #[.val (.int p0), .val (.int p1), .val (.int p2), .val (.int p3), .val (.ref b1), .val (.int (own_to p3)), .val (.int (own_fr p1 p3)), .val (.int (own_fr p2 p3)), .val (.int (f2 (6 : Int32) (own_upd (own_B0 p0) (own_fr p1 p3) ((65 : Int32).toInt8.toInt32)) (own_fr p1 p3) (own_to p3))), .val (.int (1 : Int32)), .val (.int (1 : Int32)), .val (.int (1 : Int32))] [(.int (1 : Int32))]))
          refine own_by (fun _ k => XS.ifNo X21.here hx rfl (hb hby at_202) rfl ((if0 _ _).trans (feq (by decide)).1) k) ?_
          show own_Fin p.tables e below _ (T21.setTop (mkF m 205 #[.val (.int p0), .val (.int p1), .val (.int p2), .val (.int p3), .val (.ref b1), .val (.int (own_to p3)), .val (.int (own_fr p1 p3)), .val (.int (own_fr p2 p3)), .val (.int (f2 (6 : Int32) (own_upd (own_B0 p0) (own_fr p1 p3) ((65 : Int32).toInt8.toInt32)) (own_fr p1 p3) (own_to p3))), .val (.int (1 : Int32)), .val (.int (1 : Int32)), .val (.int (1 : Int32))] []))
          refine own_by (fun _ k => XS.iconst X21.here hx rfl (hb hby at_205) k) ?_
          show own_Fin p.tables e below _ (T21.setTop (mkF m 206 #[.val (.int p0), .val (.int p1), .val (.int p2), .val (.int p3), .val (.ref b1), .val (.int (own_to p3)), .val (.int (own_fr p1 p3)), .val (.int (own_fr p2 p3)), .val (.int (f2 (6 : Int32) (own_upd (own_B0 p0) (own_fr p1 p3) ((65 : Int32).toInt8.toInt32)) (own_fr p1 p3) (own_to p3))), .val (.int (1 : Int32)), .val (.int (1 : Int32)), .val (.int (1 : Int32))] [(.int (1 : Int32))]))
          refine own_by (fun _ k => XS.goto X21.here hx rfl (pc0 := 206) (pc' := 210) rfl (hb hby at_206) (by decide) (by decide) k) ?_
          show own_Fin p.tables e below _ (T21.setTop (mkF m 210 #[.val (.int p0), .val (.int p1), .val (.int p2), .val (.int p3), .val (.ref b1), .val (.int (own_to p3)), .val (.int (own_fr p1 p3)), .val (.int (own_fr p2 p3)), .val (.int (f2 (6 : Int32) (own_upd (own_B0 p0) (own_fr p1 p3) ((65 : Int32).toInt8.toInt32)) (own_fr p1 p3) (own_to p3))), .val (.int (1 : Int32)), .val (.int (1 : Int32)), .val (.int (1 : Int32))] [(.int (1 : Int32))]))
          have ef : f0 p0 p1 p2 p3 = (1 : Int32) := by unfold f0; rw [if_pos hc14, if_pos hc18, if_pos hc20, if_pos hc22]
          exact own_retN X21 hx (t := .boolean) Bd.returns hlk (by simp) (hb hby at_210) (by decide) (by decide) ⟨by rw [ef]; rfl, N21⟩
        · refine own_by (fun _ k => XS.icmpYes X21.here hx rfl (pc0 := 185) (pc' := 192) rfl (hb hby at_185) rfl (feq hc22).2 (by decide) (by decide) k) ?_
          show own_Fin p.tables e below _ (T21.setTop (mkF m 192 #[.val (.int p0), .val (.int p1), .val (.int p2), .val (.int p3), .val (.ref b1), .val (.int (own_to p3)), .val (.int (own_fr p1 p3)), .val (.int (own_fr p2 p3)), .val (.int (f2 (6 : Int32) (own_upd (own_B0 p0) (own_fr p1 p3) ((65 : Int32).toInt8.toInt32)) (own_fr p1 p3) (own_to p3))), .val (.int (1 : Int32)), .val (.int (1 : Int32)), .unset] []))
          refine own_by (fun _ k => XS.iconst X21.here hx rfl (hb hby at_192) k) ?_
          show own_Fin p.tables e below _ (T21.setTop (mkF m 193 #[.val (.int p0), .val (.int p1), .val (.int p2), .val (.int p3), .val (.ref b1), .val (.int (own_to p3)), .val (.int (own_fr p1 p3)), .val (.int (own_fr p2 p3)), .val (.int (f2 (6 : Int32) (own_upd (own_B0 p0) (own_fr p1 p3) ((65 : Int32).toInt8.toInt32)) (own_fr p1 p3) (own_to p3))), .val (.int (1 : Int32)), .val (.int (1 : Int32)), .unset] [(.int (0 : Int32))]))
          refine own_by (fun _ k => XS.istore X21.here hx rfl (hb hby at_193) rfl (l' := #[.val (.int p0), .val (.int p1), .val (.int p2), .val (.int p3), .val (.ref b1), .val (.int (own_to p3)), .val (.int (own_fr p1 p3)), .val (.int (own_fr p2 p3)), .val (.int (f2 (6 : Int32) (own_upd (own_B0 p0) (own_fr p1 p3) ((65 : Int32).toInt8.toInt32)) (own_fr p1 p3) (own_to p3))), .val (.int (1 : Int32)), .val (.int (1 : Int32)), .val (.int (0 : Int32))]) rfl k) ?_
          show own_Fin p.tables e below _ (T21.setTop (mkF m 195 #[.val (.int p0), .val (.int p1), .val (.int p2), .val (.int p3), .val (.ref b1), .val (.int (own_to p3)), .val (.int (own_fr p1 p3)), .val (.int (own_fr p2 p3)), .val (.int (f2 (6 : Int32) (own_upd (own_B0 p0) (own_fr p1 p3) ((65 : Int32).toInt8.toInt32)) (own_fr p1 p3) (own_to p3))), .val (.int (1 : Int32)), .val (.int (1 : Int32)), .val (.int (0 : Int32))] []))
          refine own_by (fun _ k => XS.iload X21.here hx rfl (hb hby at_195) rfl k) ?_
          show own_Fin p.tables e below _ (T21.setTop (mkF m 197 #[.val (.int p0), .val (.int p1), .val (.int p2), .val (.int p3), .val (.ref b1), .val (.int (own_to p3)), .val (.int (own_fr p1 p3)), .val (.int (own_fr p2 p3)), .val (.int (f2 (6 : Int32) (own_upd (own_B0 p0) (own_fr p1 p3) ((65 : Int32).toInt8.toInt32)) (own_fr p1 p3) (own_to p3))), .val (.int (1 : Int32)), .val (.int (1 : Int32)), .val (.int (0 : Int32))] [(.int (1 : Int32))]))
          refine own_by (fun _ k => XS.ifNo X21.here hx rfl (hb hby at_197) rfl ((if0 _ _).trans (feq (by decide)).1) k) ?_
          show own_Fin p.tables e below _ (T21.setTop (mkF m 200 #[.val (.int p0), .val (.int p1), .val (.int p2), .val (.int p3), .val (.ref b1), .val (.int (own_to p3)), .val (.int (own_fr p1 p3)), .val (.int (own_fr p2 p3)), .val (.int (f2 (6 : Int32) (own_upd (own_B0 p0) (own_fr p1 p3) ((65 : Int32).toInt8.toInt32)) (own_fr p1 p3) (own_to p3))), .val (.int (1 : Int32)), .val (.int (1 : Int32)), .val (.int (0 : Int32))] []))
          refine own_by (fun _ k => XS.iload X21.here hx rfl (hb hby at_200) rfl k) ?_
          show own_Fin p.tables e below _ (T21.setTop (mkF m 202 #[.val (.int p0), .val (.int p1), .val (.int p2), .val (.int p3), .val (.ref b1), .val (.int (own_to p3)), .val (.int (own_fr p1 p3)), .val (.int (own_fr p2 p3)), .val (.int (f2 (6 : Int32) (own_upd (own_B0 p0) (own_fr p1 p3) ((65 : Int32).toInt8.toInt32)) (own_fr p1 p3) (own_to p3))), .val (.int (1 : Int32)), .val (.int (1 : Int32)), .val (.int (0 : Int32))] [(.int (0 : Int32))]))
          refine own_by (fun _ k => XS.ifYes X21.here hx rfl (pc0 := 202) (pc' := 209) rfl (hb hby at_202) rfl ((if0 _ _).trans (teq (by decide)).1) (by decide) (by decide) k) ?_
          show own_Fin p.tables e below _ (T21.setTop (mkF m 209 #[.val (.int p0), .val (.int p1), .val (.int p2), .val (.int p3), .val (.ref b1), .val (.int (own_to p3)), .val (.int (own_fr p1 p3)), .val (.int (own_fr p2 p3)), .val (.int (f2 (6 : Int32) (own_upd (own_B0 p0) (own_fr p1 p3) ((65 : Int32).toInt8.toInt32)) (own_fr p1 p3) (own_to p3))), .val (.int (1 : Int32)), .val (.int (1 : Int32)), .val (.int (0 : Int32))] []))
          refine own_by (fun _ k => XS.iconst X21.here hx rfl (hb hby at_209) k) ?_
          show own_Fin p.tables e below _ (T21.setTop (mkF m 210 #[.val (.int p0), .val (.int p1), .val (.int p2), .val (.int p3), .val (.ref b1), .val (.int (own_to p3)), .val (.int (own_fr p1 p3)), .val (.int (own_fr p2 p3)), .val (.int (f2 (6 : Int32) (own_upd (own_B0 p0) (own_fr p1 p3) ((65 : Int32).toInt8.toInt32)) (own_fr p1 p3) (own_to p3))), .val (.int (1 : Int32)), .val (.int (1 : Int32)), .val (.int (0 : Int32))] [(.int (0 : Int32))]))
          have ef : f0 p0 p1 p2 p3 = (0 : Int32) := by unfold f0; rw [if_pos hc14, if_pos hc18, if_pos hc20, if_neg hc22]
          exact own_retN X21 hx (t := .boolean) Bd.returns hlk (by simp) (hb hby at_210) (by decide) (by decide) ⟨by rw [ef]; rfl, N21⟩
      · refine own_by (fun _ k => XS.icmpYes X19.here hx rfl (pc0 := 157) (pc' := 164) rfl (hb hby at_157) rfl (feq hc20).2 (by decide) (by decide) k) ?_
        show own_Fin p.tables e below _ (T19.setTop (mkF m 164 #[.val (.int p0), .val (.int p1), .val (.int p2), .val (.int p3), .val (.ref b1), .val (.int (own_to p3)), .val (.int (own_fr p1 p3)), .val (.int (own_fr p2 p3)), .val (.int (f2 (6 : Int32) (own_upd (own_B0 p0) (own_fr p1 p3) ((65 : Int32).toInt8.toInt32)) (own_fr p1 p3) (own_to p3))), .val (.int (1 : Int32)), .unset, .unset] []))
        refine own_by (fun _ k => XS.iconst X19.here hx rfl (hb hby at_164) k) ?_
        show own_Fin p.tables e below _ (T19.setTop (mkF m 165 #[.val (.int p0), .val (.int p1), .val (.int p2), .val (.int p3), .val (.ref b1), .val (.int (own_to p3)), .val (.int (own_fr p1 p3)), .val (.int (own_fr p2 p3)), .val (.int (f2 (6 : Int32) (own_upd (own_B0 p0) (own_fr p1 p3) ((65 : Int32).toInt8.toInt32)) (own_fr p1 p3) (own_to p3))), .val (.int (1 : Int32)), .unset, .unset] [(.int (0 : Int32))]))
        refine own_by (fun _ k => XS.istore X19.here hx rfl (hb hby at_165) rfl (l' := #[.val (.int p0), .val (.int p1), .val (.int p2), .val (.int p3), .val (.ref b1), .val (.int (own_to p3)), .val (.int (own_fr p1 p3)), .val (.int (own_fr p2 p3)), .val (.int (f2 (6 : Int32) (own_upd (own_B0 p0) (own_fr p1 p3) ((65 : Int32).toInt8.toInt32)) (own_fr p1 p3) (own_to p3))), .val (.int (1 : Int32)), .val (.int (0 : Int32)), .unset]) rfl k) ?_
        show own_Fin p.tables e below _ (T19.setTop (mkF m 167 #[.val (.int p0), .val (.int p1), .val (.int p2), .val (.int p3), .val (.ref b1), .val (.int (own_to p3)), .val (.int (own_fr p1 p3)), .val (.int (own_fr p2 p3)), .val (.int (f2 (6 : Int32) (own_upd (own_B0 p0) (own_fr p1 p3) ((65 : Int32).toInt8.toInt32)) (own_fr p1 p3) (own_to p3))), .val (.int (1 : Int32)), .val (.int (0 : Int32)), .unset] []))
        refine own_by (fun _ k => XS.iload X19.here hx rfl (hb hby at_167) rfl k) ?_
        show own_Fin p.tables e below _ (T19.setTop (mkF m 169 #[.val (.int p0), .val (.int p1), .val (.int p2), .val (.int p3), .val (.ref b1), .val (.int (own_to p3)), .val (.int (own_fr p1 p3)), .val (.int (own_fr p2 p3)), .val (.int (f2 (6 : Int32) (own_upd (own_B0 p0) (own_fr p1 p3) ((65 : Int32).toInt8.toInt32)) (own_fr p1 p3) (own_to p3))), .val (.int (1 : Int32)), .val (.int (0 : Int32)), .unset] [(.int (0 : Int32))]))
        refine own_by (fun _ k => XS.ifYes X19.here hx rfl (pc0 := 169) (pc' := 188) rfl (hb hby at_169) rfl ((if0 _ _).trans (teq (by decide)).1) (by decide) (by decide) k) ?_
        show own_Fin p.tables e below _ (T19.setTop (mkF m 188 #[.val (.int p0), .val (.int p1), .val (.int p2), .val (.int p3), .val (.ref b1), .val (.int (own_to p3)), .val (.int (own_fr p1 p3)), .val (.int (own_fr p2 p3)), .val (.int (f2 (6 : Int32) (own_upd (own_B0 p0) (own_fr p1 p3) ((65 : Int32).toInt8.toInt32)) (own_fr p1 p3) (own_to p3))), .val (.int (1 : Int32)), .val (.int (0 : Int32)), .unset] []))
        refine own_by (fun _ k => XS.iconst X19.here hx rfl (hb hby at_188) k) ?_
        show own_Fin p.tables e below _ (T19.setTop (mkF m 189 #[.val (.int p0), .val (.int p1), .val (.int p2), .val (.int p3), .val (.ref b1), .val (.int (own_to p3)), .val (.int (own_fr p1 p3)), .val (.int (own_fr p2 p3)), .val (.int (f2 (6 : Int32) (own_upd (own_B0 p0) (own_fr p1 p3) ((65 : Int32).toInt8.toInt32)) (own_fr p1 p3) (own_to p3))), .val (.int (1 : Int32)), .val (.int (0 : Int32)), .unset] [(.int (1 : Int32))]))
        refine own_by (fun _ k => XS.goto X19.here hx rfl (pc0 := 189) (pc' := 193) rfl (hb hby at_189) (by decide) (by decide) k) ?_
        show own_Fin p.tables e below _ (T19.setTop (mkF m 193 #[.val (.int p0), .val (.int p1), .val (.int p2), .val (.int p3), .val (.ref b1), .val (.int (own_to p3)), .val (.int (own_fr p1 p3)), .val (.int (own_fr p2 p3)), .val (.int (f2 (6 : Int32) (own_upd (own_B0 p0) (own_fr p1 p3) ((65 : Int32).toInt8.toInt32)) (own_fr p1 p3) (own_to p3))), .val (.int (1 : Int32)), .val (.int (0 : Int32)), .unset] [(.int (1 : Int32))]))
        refine own_by (fun _ k => XS.istore X19.here hx rfl (hb hby at_193) rfl (l' := #[.val (.int p0), .val (.int p1), .val (.int p2), .val (.int p3), .val (.ref b1), .val (.int (own_to p3)), .val (.int (own_fr p1 p3)), .val (.int (own_fr p2 p3)), .val (.int (f2 (6 : Int32) (own_upd (own_B0 p0) (own_fr p1 p3) ((65 : Int32).toInt8.toInt32)) (own_fr p1 p3) (own_to p3))), .val (.int (1 : Int32)), .val (.int (0 : Int32)), .val (.int (1 : Int32))]) rfl k) ?_
        show own_Fin p.tables e below _ (T19.setTop (mkF m 195 #[.val (.int p0), .val (.int p1), .val (.int p2), .val (.int p3), .val (.ref b1), .val (.int (own_to p3)), .val (.int (own_fr p1 p3)), .val (.int (own_fr p2 p3)), .val (.int (f2 (6 : Int32) (own_upd (own_B0 p0) (own_fr p1 p3) ((65 : Int32).toInt8.toInt32)) (own_fr p1 p3) (own_to p3))), .val (.int (1 : Int32)), .val (.int (0 : Int32)), .val (.int (1 : Int32))] []))
        refine own_by (fun _ k => XS.iload X19.here hx rfl (hb hby at_195) rfl k) ?_
        show own_Fin p.tables e below _ (T19.setTop (mkF m 197 #[.val (.int p0), .val (.int p1), .val (.int p2), .val (.int p3), .val (.ref b1), .val (.int (own_to p3)), .val (.int (own_fr p1 p3)), .val (.int (own_fr p2 p3)), .val (.int (f2 (6 : Int32) (own_upd (own_B0 p0) (own_fr p1 p3) ((65 : Int32).toInt8.toInt32)) (own_fr p1 p3) (own_to p3))), .val (.int (1 : Int32)), .val (.int (0 : Int32)), .val (.int (1 : Int32))] [(.int (1 : Int32))]))
        refine own_by (fun _ k => XS.ifNo X19.here hx rfl (hb hby at_197) rfl ((if0 _ _).trans (feq (by decide)).1) k) ?_
        show own_Fin p.tables e below _ (T19.setTop (mkF m 200 #[.val (.int p0), .val (.int p1), .val (.int p2), .val (.int p3), .val (.ref b1), .val (.int (own_to p3)), .val (.int (own_fr p1 p3)), .val (.int (own_fr p2 p3)), .val (.int (f2 (6 : Int32) (own_upd (own_B0 p0) (own_fr p1 p3) ((65 : Int32).toInt8.toInt32)) (own_fr p1 p3) (own_to p3))), .val (.int (1 : Int32)), .val (.int (0 : Int32)), .val (.int (1 : Int32))] []))
        refine own_by (fun _ k => XS.iload X19.here hx rfl (hb hby at_200) rfl k) ?_
        show own_Fin p.tables e below _ (T19.setTop (mkF m 202 #[.val (.int p0), .val (.int p1), .val (.int p2), .val (.int p3), .val (.ref b1), .val (.int (own_to p3)), .val (.int (own_fr p1 p3)), .val (.int (own_fr p2 p3)), .val (.int (f2 (6 : Int32) (own_upd (own_B0 p0) (own_fr p1 p3) ((65 : Int32).toInt8.toInt32)) (own_fr p1 p3) (own_to p3))), .val (.int (1 : Int32)), .val (.int (0 : Int32)), .val (.int (1 : Int32))] [(.int (1 : Int32))]))
        refine own_by (fun _ k => XS.ifNo X19.here hx rfl (hb hby at_202) rfl ((if0 _ _).trans (feq (by decide)).1) k) ?_
        show own_Fin p.tables e below _ (T19.setTop (mkF m 205 #[.val (.int p0), .val (.int p1), .val (.int p2), .val (.int p3), .val (.ref b1), .val (.int (own_to p3)), .val (.int (own_fr p1 p3)), .val (.int (own_fr p2 p3)), .val (.int (f2 (6 : Int32) (own_upd (own_B0 p0) (own_fr p1 p3) ((65 : Int32).toInt8.toInt32)) (own_fr p1 p3) (own_to p3))), .val (.int (1 : Int32)), .val (.int (0 : Int32)), .val (.int (1 : Int32))] []))
        refine own_by (fun _ k => XS.iconst X19.here hx rfl (hb hby at_205) k) ?_
        show own_Fin p.tables e below _ (T19.setTop (mkF m 206 #[.val (.int p0), .val (.int p1), .val (.int p2), .val (.int p3), .val (.ref b1), .val (.int (own_to p3)), .val (.int (own_fr p1 p3)), .val (.int (own_fr p2 p3)), .val (.int (f2 (6 : Int32) (own_upd (own_B0 p0) (own_fr p1 p3) ((65 : Int32).toInt8.toInt32)) (own_fr p1 p3) (own_to p3))), .val (.int (1 : Int32)), .val (.int (0 : Int32)), .val (.int (1 : Int32))] [(.int (1 : Int32))]))
        refine own_by (fun _ k => XS.goto X19.here hx rfl (pc0 := 206) (pc' := 210) rfl (hb hby at_206) (by decide) (by decide) k) ?_
        show own_Fin p.tables e below _ (T19.setTop (mkF m 210 #[.val (.int p0), .val (.int p1), .val (.int p2), .val (.int p3), .val (.ref b1), .val (.int (own_to p3)), .val (.int (own_fr p1 p3)), .val (.int (own_fr p2 p3)), .val (.int (f2 (6 : Int32) (own_upd (own_B0 p0) (own_fr p1 p3) ((65 : Int32).toInt8.toInt32)) (own_fr p1 p3) (own_to p3))), .val (.int (1 : Int32)), .val (.int (0 : Int32)), .val (.int (1 : Int32))] [(.int (1 : Int32))]))
        have ef : f0 p0 p1 p2 p3 = (1 : Int32) := by unfold f0; rw [if_pos hc14, if_pos hc18, if_neg hc20]
        exact own_retN X19 hx (t := .boolean) Bd.returns hlk (by simp) (hb hby at_210) (by decide) (by decide) ⟨by rw [ef]; rfl, N19⟩
    · refine own_by (fun _ k => XS.icmpYes X17.here hx rfl (pc0 := 137) (pc' := 144) rfl (hb hby at_137) rfl (feq hc18).2 (by decide) (by decide) k) ?_
      show own_Fin p.tables e below _ (T17.setTop (mkF m 144 #[.val (.int p0), .val (.int p1), .val (.int p2), .val (.int p3), .val (.ref b1), .val (.int (own_to p3)), .val (.int (own_fr p1 p3)), .val (.int (own_fr p2 p3)), .val (.int (f2 (6 : Int32) (own_upd (own_B0 p0) (own_fr p1 p3) ((65 : Int32).toInt8.toInt32)) (own_fr p1 p3) (own_to p3))), .unset, .unset, .unset] []))
      refine own_by (fun _ k => XS.iconst X17.here hx rfl (hb hby at_144) k) ?_
      show own_Fin p.tables e below _ (T17.setTop (mkF m 145 #[.val (.int p0), .val (.int p1), .val (.int p2), .val (.int p3), .val (.ref b1), .val (.int (own_to p3)), .val (.int (own_fr p1 p3)), .val (.int (own_fr p2 p3)), .val (.int (f2 (6 : Int32) (own_upd (own_B0 p0) (own_fr p1 p3) ((65 : Int32).toInt8.toInt32)) (own_fr p1 p3) (own_to p3))), .unset, .unset, .unset] [(.int (0 : Int32))]))
      refine own_by (fun _ k => XS.istore X17.here hx rfl (hb hby at_145) rfl (l' := #[.val (.int p0), .val (.int p1), .val (.int p2), .val (.int p3), .val (.ref b1), .val (.int (own_to p3)), .val (.int (own_fr p1 p3)), .val (.int (own_fr p2 p3)), .val (.int (f2 (6 : Int32) (own_upd (own_B0 p0) (own_fr p1 p3) ((65 : Int32).toInt8.toInt32)) (own_fr p1 p3) (own_to p3))), .val (.int (0 : Int32)), .unset, .unset]) rfl k) ?_
      show own_Fin p.tables e below _ (T17.setTop (mkF m 147 #[.val (.int p0), .val (.int p1), .val (.int p2), .val (.int p3), .val (.ref b1), .val (.int (own_to p3)), .val (.int (own_fr p1 p3)), .val (.int (own_fr p2 p3)), .val (.int (f2 (6 : Int32) (own_upd (own_B0 p0) (own_fr p1 p3) ((65 : Int32).toInt8.toInt32)) (own_fr p1 p3) (own_to p3))), .val (.int (0 : Int32)), .unset, .unset] []))
      refine own_by (fun _ k => XS.aload X17.here hx rfl (hb hby at_147) rfl rfl k) ?_
      show own_Fin p.tables e below _ (T17.setTop (mkF m 149 #[.val (.int p0), .val (.int p1), .val (.int p2), .val (.int p3), .val (.ref b1), .val (.int (own_to p3)), .val (.int (own_fr p1 p3)), .val (.int (own_fr p2 p3)), .val (.int (f2 (6 : Int32) (own_upd (own_B0 p0) (own_fr p1 p3) ((65 : Int32).toInt8.toInt32)) (own_fr p1 p3) (own_to p3))), .val (.int (0 : Int32)), .unset, .unset] [(.ref b1)]))
      refine own_by (fun _ k => XS.iload X17.here hx rfl (hb hby at_149) rfl k) ?_
      show own_Fin p.tables e below _ (T17.setTop (mkF m 151 #[.val (.int p0), .val (.int p1), .val (.int p2), .val (.int p3), .val (.ref b1), .val (.int (own_to p3)), .val (.int (own_fr p1 p3)), .val (.int (own_fr p2 p3)), .val (.int (f2 (6 : Int32) (own_upd (own_B0 p0) (own_fr p1 p3) ((65 : Int32).toInt8.toInt32)) (own_fr p1 p3) (own_to p3))), .val (.int (0 : Int32)), .unset, .unset] [(.int (own_fr p1 p3)), (.ref b1)]))
      refine own_by (fun _ k => XS.iload X17.here hx rfl (hb hby at_151) rfl k) ?_
      show own_Fin p.tables e below _ (T17.setTop (mkF m 153 #[.val (.int p0), .val (.int p1), .val (.int p2), .val (.int p3), .val (.ref b1), .val (.int (own_to p3)), .val (.int (own_fr p1 p3)), .val (.int (own_fr p2 p3)), .val (.int (f2 (6 : Int32) (own_upd (own_B0 p0) (own_fr p1 p3) ((65 : Int32).toInt8.toInt32)) (own_fr p1 p3) (own_to p3))), .val (.int (0 : Int32)), .unset, .unset] [(.int (own_fr p2 p3)), (.int (own_fr p1 p3)), (.ref b1)]))
      obtain ⟨_, _, ⟨T23, L23, k23, n23⟩, -, X23, ⟨Lc23, hQ23, l23, y23, z23⟩, st23⟩ := Jvm.LawKit.callS X17 hx (y := (⟨"com/example/agouti/agouti/server/RequestHeadEndPinLaw", "ref", "([BII)I"⟩ : MethodName)) hown (mvT hZ (hw _ (List.mem_of_getElem? (i := 6) rfl))) (mvT hZ (hw _ (List.mem_of_getElem? (i := 7) rfl))) (mvT hZ (hw _ (List.mem_of_getElem? (i := 3) rfl))) (mvT hZ (hw _ (List.mem_of_getElem? (i := 8) rfl))) (by decide) (backOf (W := 0) (rm2 l Z a0 hw [] b1 (own_fr p1 p3) (own_fr p2 p3) (6 : Int32) ((own_upd (own_B0 p0) (own_fr p1 p3) ((65 : Int32).toInt8.toInt32))) h15 n0 Z15 V15 (by rw [own_l6]; omega) (by omega)) hZ (hw _ (List.mem_of_getElem? (i := 8) rfl)) (hw _ (List.mem_of_getElem? (i := 3) rfl)) (by decide) (by decide)) (g := (mkF m 153 #[.val (.int p0), .val (.int p1), .val (.int p2), .val (.int p3), .val (.ref b1), .val (.int (own_to p3)), .val (.int (own_fr p1 p3)), .val (.int (own_fr p2 p3)), .val (.int (f2 (6 : Int32) (own_upd (own_B0 p0) (own_fr p1 p3) ((65 : Int32).toInt8.toInt32)) (own_fr p1 p3) (own_to p3))), .val (.int (0 : Int32)), .unset, .unset] [(.int (own_fr p2 p3)), (.int (own_fr p1 p3)), (.ref b1)])) rfl (by rw [hml]; rfl) (argsL := [(.ref b1), (.int (own_fr p1 p3)), (.int (own_fr p2 p3))]) (rest := []) (lenOf pd___BII_I rfl) rfl (by show 2 * 0 + _ ≤ _; exact Nat.le_of_eq rfl) (hb hby at_153) (fun _ _ => ⟨rfl, e17, (by decide : 1 + 0 ≤ _), (by decide : 6 + 0 ≤ _)⟩)
      dsimp only [Pt.U, Pt.locs, Pt.cells, Pt.slots] at X23 l23 y23 z23 st23 hQ23
      subst l23 y23 z23
      obtain ⟨rfl, N23q, e23⟩ := hQ23
      have N23 := Fr.app N17 N23q
      refine own_by st23 ?_
      show own_Fin p.tables e below _ (T23.setTop (mkF m 156 #[.val (.int p0), .val (.int p1), .val (.int p2), .val (.int p3), .val (.ref b1), .val (.int (own_to p3)), .val (.int (own_fr p1 p3)), .val (.int (own_fr p2 p3)), .val (.int (f2 (6 : Int32) (own_upd (own_B0 p0) (own_fr p1 p3) ((65 : Int32).toInt8.toInt32)) (own_fr p1 p3) (own_to p3))), .val (.int (0 : Int32)), .unset, .unset] [(.int (f2 (6 : Int32) (own_upd (own_B0 p0) (own_fr p1 p3) ((65 : Int32).toInt8.toInt32)) (own_fr p1 p3) (own_fr p2 p3)))]))
      refine own_by (fun _ k => XS.iconst X23.here hx rfl (hb hby at_156) k) ?_
      show own_Fin p.tables e below _ (T23.setTop (mkF m 157 #[.val (.int p0), .val (.int p1), .val (.int p2), .val (.int p3), .val (.ref b1), .val (.int (own_to p3)), .val (.int (own_fr p1 p3)), .val (.int (own_fr p2 p3)), .val (.int (f2 (6 : Int32) (own_upd (own_B0 p0) (own_fr p1 p3) ((65 : Int32).toInt8.toInt32)) (own_fr p1 p3) (own_to p3))), .val (.int (0 : Int32)), .unset, .unset] [(.int (-1 : Int32)), (.int (f2 (6 : Int32) (own_upd (own_B0 p0) (own_fr p1 p3) ((65 : Int32).toInt8.toInt32)) (own_fr p1 p3) (own_fr p2 p3)))]))
      by_cases hc24 : (f2 (6 : Int32) (own_upd (own_B0 p0) (own_fr p1 p3) ((65 : Int32).toInt8.toInt32)) (own_fr p1 p3) (own_fr p2 p3)) = (-1 : Int32)
      · refine own_by (fun _ k => XS.icmpNo X23.here hx rfl (hb hby at_157) rfl (teq hc24).2 k) ?_
        show own_Fin p.tables e below _ (T23.setTop (mkF m 160 #[.val (.int p0), .val (.int p1), .val (.int p2), .val (.int p3), .val (.ref b1), .val (.int (own_to p3)), .val (.int (own_fr p1 p3)), .val (.int (own_fr p2 p3)), .val (.int (f2 (6 : Int32) (own_upd (own_B0 p0) (own_fr p1 p3) ((65 : Int32).toInt8.toInt32)) (own_fr p1 p3) (own_to p3))), .val (.int (0 : Int32)), .unset, .unset] []))
        refine own_by (fun _ k => XS.iconst X23.here hx rfl (hb hby at_160) k) ?_
        show own_Fin p.tables e below _ (T23.setTop (mkF m 161 #[.val (.int p0), .val (.int p1), .val (.int p2), .val (.int p3), .val (.ref b1), .val (.int (own_to p3)), .val (.int (own_fr p1 p3)), .val (.int (own_fr p2 p3)), .val (.int (f2 (6 : Int32) (own_upd (own_B0 p0) (own_fr p1 p3) ((65 : Int32).toInt8.toInt32)) (own_fr p1 p3) (own_to p3))), .val (.int (0 : Int32)), .unset, .unset] [(.int (1 : Int32))]))
        refine own_by (fun _ k => XS.goto X23.here hx rfl (pc0 := 161) (pc' := 165) rfl (hb hby at_161) (by decide) (by decide) k) ?_
        show own_Fin p.tables e below _ (T23.setTop (mkF m 165 #[.val (.int p0), .val (.int p1), .val (.int p2), .val (.int p3), .val (.ref b1), .val (.int (own_to p3)), .val (.int (own_fr p1 p3)), .val (.int (own_fr p2 p3)), .val (.int (f2 (6 : Int32) (own_upd (own_B0 p0) (own_fr p1 p3) ((65 : Int32).toInt8.toInt32)) (own_fr p1 p3) (own_to p3))), .val (.int (0 : Int32)), .unset, .unset] [(.int (1 : Int32))]))
        refine own_by (fun _ k => XS.istore X23.here hx rfl (hb hby at_165) rfl (l' := #[.val (.int p0), .val (.int p1), .val (.int p2), .val (.int p3), .val (.ref b1), .val (.int (own_to p3)), .val (.int (own_fr p1 p3)), .val (.int (own_fr p2 p3)), .val (.int (f2 (6 : Int32) (own_upd (own_B0 p0) (own_fr p1 p3) ((65 : Int32).toInt8.toInt32)) (own_fr p1 p3) (own_to p3))), .val (.int (0 : Int32)), .val (.int (1 : Int32)), .unset]) rfl k) ?_
        show own_Fin p.tables e below _ (T23.setTop (mkF m 167 #[.val (.int p0), .val (.int p1), .val (.int p2), .val (.int p3), .val (.ref b1), .val (.int (own_to p3)), .val (.int (own_fr p1 p3)), .val (.int (own_fr p2 p3)), .val (.int (f2 (6 : Int32) (own_upd (own_B0 p0) (own_fr p1 p3) ((65 : Int32).toInt8.toInt32)) (own_fr p1 p3) (own_to p3))), .val (.int (0 : Int32)), .val (.int (1 : Int32)), .unset] []))
        refine own_by (fun _ k => XS.iload X23.here hx rfl (hb hby at_167) rfl k) ?_
        show own_Fin p.tables e below _ (T23.setTop (mkF m 169 #[.val (.int p0), .val (.int p1), .val (.int p2), .val (.int p3), .val (.ref b1), .val (.int (own_to p3)), .val (.int (own_fr p1 p3)), .val (.int (own_fr p2 p3)), .val (.int (f2 (6 : Int32) (own_upd (own_B0 p0) (own_fr p1 p3) ((65 : Int32).toInt8.toInt32)) (own_fr p1 p3) (own_to p3))), .val (.int (0 : Int32)), .val (.int (1 : Int32)), .unset] [(.int (1 : Int32))]))
        refine own_by (fun _ k => XS.ifNo X23.here hx rfl (hb hby at_169) rfl ((if0 _ _).trans (feq (by decide)).1) k) ?_
        show own_Fin p.tables e below _ (T23.setTop (mkF m 172 #[.val (.int p0), .val (.int p1), .val (.int p2), .val (.int p3), .val (.ref b1), .val (.int (own_to p3)), .val (.int (own_fr p1 p3)), .val (.int (own_fr p2 p3)), .val (.int (f2 (6 : Int32) (own_upd (own_B0 p0) (own_fr p1 p3) ((65 : Int32).toInt8.toInt32)) (own_fr p1 p3) (own_to p3))), .val (.int (0 : Int32)), .val (.int (1 : Int32)), .unset] []))
        refine own_by (fun _ k => XS.aload X23.here hx rfl (hb hby at_172) rfl rfl k) ?_
        show own_Fin p.tables e below _ (T23.setTop (mkF m 174 #[.val (.int p0), .val (.int p1), .val (.int p2), .val (.int p3), .val (.ref b1), .val (.int (own_to p3)), .val (.int (own_fr p1 p3)), .val (.int (own_fr p2 p3)), .val (.int (f2 (6 : Int32) (own_upd (own_B0 p0) (own_fr p1 p3) ((65 : Int32).toInt8.toInt32)) (own_fr p1 p3) (own_to p3))), .val (.int (0 : Int32)), .val (.int (1 : Int32)), .unset] [(.ref b1)]))
        refine own_by (fun _ k => XS.iload X23.here hx rfl (hb hby at_174) rfl k) ?_
        show own_Fin p.tables e below _ (T23.setTop (mkF m 176 #[.val (.int p0), .val (.int p1), .val (.int p2), .val (.int p3), .val (.ref b1), .val (.int (own_to p3)), .val (.int (own_fr p1 p3)), .val (.int (own_fr p2 p3)), .val (.int (f2 (6 : Int32) (own_upd (own_B0 p0) (own_fr p1 p3) ((65 : Int32).toInt8.toInt32)) (own_fr p1 p3) (own_to p3))), .val (.int (0 : Int32)), .val (.int (1 : Int32)), .unset] [(.int (own_fr p1 p3)), (.ref b1)]))
        refine own_by (fun _ k => XS.iload X23.here hx rfl (hb hby at_176) rfl k) ?_
        show own_Fin p.tables e below _ (T23.setTop (mkF m 178 #[.val (.int p0), .val (.int p1), .val (.int p2), .val (.int p3), .val (.ref b1), .val (.int (own_to p3)), .val (.int (own_fr p1 p3)), .val (.int (own_fr p2 p3)), .val (.int (f2 (6 : Int32) (own_upd (own_B0 p0) (own_fr p1 p3) ((65 : Int32).toInt8.toInt32)) (own_fr p1 p3) (own_to p3))), .val (.int (0 : Int32)), .val (.int (1 : Int32)), .unset] [(.int (own_fr p2 p3)), (.int (own_fr p1 p3)), (.ref b1)]))
        refine own_by (fun _ k => XS.iload X23.here hx rfl (hb hby at_178) rfl k) ?_
        show own_Fin p.tables e below _ (T23.setTop (mkF m 180 #[.val (.int p0), .val (.int p1), .val (.int p2), .val (.int p3), .val (.ref b1), .val (.int (own_to p3)), .val (.int (own_fr p1 p3)), .val (.int (own_fr p2 p3)), .val (.int (f2 (6 : Int32) (own_upd (own_B0 p0) (own_fr p1 p3) ((65 : Int32).toInt8.toInt32)) (own_fr p1 p3) (own_to p3))), .val (.int (0 : Int32)), .val (.int (1 : Int32)), .unset] [(.int (own_to p3)), (.int (own_fr p2 p3)), (.int (own_fr p1 p3)), (.ref b1)]))
        obtain ⟨_, _, ⟨T25, L25, k25, n25⟩, -, X25, ⟨Lc25, hQ25, l25, y25, z25⟩, st25⟩ := Jvm.LawKit.callS X23 hx (y := (⟨"com/example/agouti/agouti/server/RequestHead", "end", "([BIII)I"⟩ : MethodName)) hown (mvT hZ (hw _ (List.mem_of_getElem? (i := 12) rfl))) (mvT hZ (hw _ (List.mem_of_getElem? (i := 13) rfl))) (mvT hZ (hw _ (List.mem_of_getElem? (i := 14) rfl))) (mvT hZ (hw _ (List.mem_of_getElem? (i := 15) rfl))) (by decide) (backOf (W := 0) (rm4 l Z a0 hw [] b1 (own_fr p1 p3) (own_fr p2 p3) (own_to p3) (6 : Int32) ((own_upd (own_B0 p0) (own_fr p1 p3) ((65 : Int32).toInt8.toInt32))) h15 n0 Z15 V15 (by rw [own_l6]; omega) (by omega) (by omega) (by omega) (by omega) (by omega)) hZ (hw _ (List.mem_of_getElem? (i := 15) rfl)) (hw _ (List.mem_of_getElem? (i := 14) rfl)) (by decide) (by decide)) (g := (mkF m 180 #[.val (.int p0), .val (.int p1), .val (.int p2), .val (.int p3), .val (.ref b1), .val (.int (own_to p3)), .val (.int (own_fr p1 p3)), .val (.int (own_fr p2 p3)), .val (.int (f2 (6 : Int32) (own_upd (own_B0 p0) (own_fr p1 p3) ((65 : Int32).toInt8.toInt32)) (own_fr p1 p3) (own_to p3))), .val (.int (0 : Int32)), .val (.int (1 : Int32)), .unset] [(.int (own_to p3)), (.int (own_fr p2 p3)), (.int (own_fr p1 p3)), (.ref b1)])) rfl (by rw [hml]; rfl) (argsL := [(.ref b1), (.int (own_fr p1 p3)), (.int (own_fr p2 p3)), (.int (own_to p3))]) (rest := []) (lenOf pd___BIII_I rfl) rfl (by show 2 * 0 + _ ≤ _; exact Nat.le_of_eq rfl) (hb hby at_180) (fun _ _ => ⟨rfl, e23, (by decide : 1 + 0 ≤ _), (by decide : 6 + 0 ≤ _)⟩)
        dsimp only [Pt.U, Pt.locs, Pt.cells, Pt.slots] at X25 l25 y25 z25 st25 hQ25
        subst l25 y25 z25
        obtain ⟨rfl, N25q, e25⟩ := hQ25
        have N25 := Fr.app N23 N25q
        refine own_by st25 ?_
        show own_Fin p.tables e below _ (T25.setTop (mkF m 183 #[.val (.int p0), .val (.int p1), .val (.int p2), .val (.int p3), .val (.ref b1), .val (.int (own_to p3)), .val (.int (own_fr p1 p3)), .val (.int (own_fr p2 p3)), .val (.int (f2 (6 : Int32) (own_upd (own_B0 p0) (own_fr p1 p3) ((65 : Int32).toInt8.toInt32)) (own_fr p1 p3) (own_to p3))), .val (.int (0 : Int32)), .val (.int (1 : Int32)), .unset] [(.int (f4 (6 : Int32) (own_upd (own_B0 p0) (own_fr p1 p3) ((65 : Int32).toInt8.toInt32)) (own_fr p1 p3) (own_fr p2 p3) (own_to p3)))]))
        refine own_by (fun _ k => XS.iload X25.here hx rfl (hb hby at_183) rfl k) ?_
        show own_Fin p.tables e below _ (T25.setTop (mkF m 185 #[.val (.int p0), .val (.int p1), .val (.int p2), .val (.int p3), .val (.ref b1), .val (.int (own_to p3)), .val (.int (own_fr p1 p3)), .val (.int (own_fr p2 p3)), .val (.int (f2 (6 : Int32) (own_upd (own_B0 p0) (own_fr p1 p3) ((65 : Int32).toInt8.toInt32)) (own_fr p1 p3) (own_to p3))), .val (.int (0 : Int32)), .val (.int (1 : Int32)), .unset] [(.int (f2 (6 : Int32) (own_upd (own_B0 p0) (own_fr p1 p3) ((65 : Int32).toInt8.toInt32)) (own_fr p1 p3) (own_to p3))), (.int (f4 (6 : Int32) (own_upd (own_B0 p0) (own_fr p1 p3) ((65 : Int32).toInt8.toInt32)) (own_fr p1 p3) (own_fr p2 p3) (own_to p3)))]))
        by_cases hc26 : (f4 (6 : Int32) (own_upd (own_B0 p0) (own_fr p1 p3) ((65 : Int32).toInt8.toInt32)) (own_fr p1 p3) (own_fr p2 p3) (own_to p3)) = (f2 (6 : Int32) (own_upd (own_B0 p0) (own_fr p1 p3) ((65 : Int32).toInt8.toInt32)) (own_fr p1 p3) (own_to p3))
        · refine own_by (fun _ k => XS.icmpNo X25.here hx rfl (hb hby at_185) rfl (teq hc26).2 k) ?_
          show own_Fin p.tables e below _ (T25.setTop (mkF m 188 #[.val (.int p0), .val (.int p1), .val (.int p2), .val (.int p3), .val (.ref b1), .val (.int (own_to p3)), .val (.int (own_fr p1 p3)), .val (.int (own_fr p2 p3)), .val (.int (f2 (6 : Int32) (own_upd (own_B0 p0) (own_fr p1 p3) ((65 : Int32).toInt8.toInt32)) (own_fr p1 p3) (own_to p3))), .val (.int (0 : Int32)), .val (.int (1 : Int32)), .unset] []))
          refine own_by (fun _ k => XS.iconst X25.here hx rfl (hb hby at_188) k) ?_
          show own_Fin p.tables e below _ (T25.setTop (mkF m 189 #[.val (.int p0), .val (.int p1), .val (.int p2), .val (.int p3), .val (.ref b1), .val (.int (own_to p3)), .val (.int (own_fr p1 p3)), .val (.int (own_fr p2 p3)), .val (.int (f2 (6 : Int32) (own_upd (own_B0 p0) (own_fr p1 p3) ((65 : Int32).toInt8.toInt32)) (own_fr p1 p3) (own_to p3))), .val (.int (0 : Int32)), .val (.int (1 : Int32)), .unset] [(.int (1 : Int32))]))
          refine own_by (fun _ k => XS.goto X25.here hx rfl (pc0 := 189) (pc' := 193) rfl (hb hby at_189) (by decide) (by decide) k) ?_
          show own_Fin p.tables e below _ (T25.setTop (mkF m 193 #[.val (.int p0), .val (.int p1), .val (.int p2), .val (.int p3), .val (.ref b1), .val (.int (own_to p3)), .val (.int (own_fr p1 p3)), .val (.int (own_fr p2 p3)), .val (.int (f2 (6 : Int32) (own_upd (own_B0 p0) (own_fr p1 p3) ((65 : Int32).toInt8.toInt32)) (own_fr p1 p3) (own_to p3))), .val (.int (0 : Int32)), .val (.int (1 : Int32)), .unset] [(.int (1 : Int32))]))
          refine own_by (fun _ k => XS.istore X25.here hx rfl (hb hby at_193) rfl (l' := #[.val (.int p0), .val (.int p1), .val (.int p2), .val (.int p3), .val (.ref b1), .val (.int (own_to p3)), .val (.int (own_fr p1 p3)), .val (.int (own_fr p2 p3)), .val (.int (f2 (6 : Int32) (own_upd (own_B0 p0) (own_fr p1 p3) ((65 : Int32).toInt8.toInt32)) (own_fr p1 p3) (own_to p3))), .val (.int (0 : Int32)), .val (.int (1 : Int32)), .val (.int (1 : Int32))]) rfl k) ?_
          show own_Fin p.tables e below _ (T25.setTop (mkF m 195 #[.val (.int p0), .val (.int p1), .val (.int p2), .val (.int p3), .val (.ref b1), .val (.int (own_to p3)), .val (.int (own_fr p1 p3)), .val (.int (own_fr p2 p3)), .val (.int (f2 (6 : Int32) (own_upd (own_B0 p0) (own_fr p1 p3) ((65 : Int32).toInt8.toInt32)) (own_fr p1 p3) (own_to p3))), .val (.int (0 : Int32)), .val (.int (1 : Int32)), .val (.int (1 : Int32))] []))
          refine own_by (fun _ k => XS.iload X25.here hx rfl (hb hby at_195) rfl k) ?_
          show own_Fin p.tables e below _ (T25.setTop (mkF m 197 #[.val (.int p0), .val (.int p1), .val (.int p2), .val (.int p3), .val (.ref b1), .val (.int (own_to p3)), .val (.int (own_fr p1 p3)), .val (.int (own_fr p2 p3)), .val (.int (f2 (6 : Int32) (own_upd (own_B0 p0) (own_fr p1 p3) ((65 : Int32).toInt8.toInt32)) (own_fr p1 p3) (own_to p3))), .val (.int (0 : Int32)), .val (.int (1 : Int32)), .val (.int (1 : Int32))] [(.int (0 : Int32))]))
          refine own_by (fun _ k => XS.ifYes X25.here hx rfl (pc0 := 197) (pc' := 209) rfl (hb hby at_197) rfl ((if0 _ _).trans (teq (by decide)).1) (by decide) (by decide) k) ?_
          show own_Fin p.tables e below _ (T25.setTop (mkF m 209 #[.val (.int p0), .val (.int p1), .val (.int p2), .val (.int p3), .val (.ref b1), .val (.int (own_to p3)), .val (.int (own_fr p1 p3)), .val (.int (own_fr p2 p3)), .val (.int (f2 (6 : Int32) (own_upd (own_B0 p0) (own_fr p1 p3) ((65 : Int32).toInt8.toInt32)) (own_fr p1 p3) (own_to p3))), .val (.int (0 : Int32)), .val (.int (1 : Int32)), .val (.int (1 : Int32))] []))
          refine own_by (fun _ k => XS.iconst X25.here hx rfl (hb hby at_209) k) ?_
          show own_Fin p.tables e below _ (T25.setTop (mkF m 210 #[.val (.int p0), .val (.int p1), .val (.int p2), .val (.int p3), .val (.ref b1), .val (.int (own_to p3)), .val (.int (own_fr p1 p3)), .val (.int (own_fr p2 p3)), .val (.int (f2 (6 : Int32) (own_upd (own_B0 p0) (own_fr p1 p3) ((65 : Int32).toInt8.toInt32)) (own_fr p1 p3) (own_to p3))), .val (.int (0 : Int32)), .val (.int (1 : Int32)), .val (.int (1 : Int32))] [(.int (0 : Int32))]))
          have ef : f0 p0 p1 p2 p3 = (0 : Int32) := by unfold f0; rw [if_pos hc14, if_neg hc18, if_pos hc24, if_pos hc26]
          exact own_retN X25 hx (t := .boolean) Bd.returns hlk (by simp) (hb hby at_210) (by decide) (by decide) ⟨by rw [ef]; rfl, N25⟩
        · refine own_by (fun _ k => XS.icmpYes X25.here hx rfl (pc0 := 185) (pc' := 192) rfl (hb hby at_185) rfl (feq hc26).2 (by decide) (by decide) k) ?_
          show own_Fin p.tables e below _ (T25.setTop (mkF m 192 #[.val (.int p0), .val (.int p1), .val (.int p2), .val (.int p3), .val (.ref b1), .val (.int (own_to p3)), .val (.int (own_fr p1 p3)), .val (.int (own_fr p2 p3)), .val (.int (f2 (6 : Int32) (own_upd (own_B0 p0) (own_fr p1 p3) ((65 : Int32).toInt8.toInt32)) (own_fr p1 p3) (own_to p3))), .val (.int (0 : Int32)), .val (.int (1 : Int32)), .unset] []))
          refine own_by (fun _ k => XS.iconst X25.here hx rfl (hb hby at_192) k) ?_
          show own_Fin p.tables e below _ (T25.setTop (mkF m 193 #[.val (.int p0), .val (.int p1), .val (.int p2), .val (.int p3), .val (.ref b1), .val (.int (own_to p3)), .val (.int (own_fr p1 p3)), .val (.int (own_fr p2 p3)), .val (.int (f2 (6 : Int32) (own_upd (own_B0 p0) (own_fr p1 p3) ((65 : Int32).toInt8.toInt32)) (own_fr p1 p3) (own_to p3))), .val (.int (0 : Int32)), .val (.int (1 : Int32)), .unset] [(.int (0 : Int32))]))
          refine own_by (fun _ k => XS.istore X25.here hx rfl (hb hby at_193) rfl (l' := #[.val (.int p0), .val (.int p1), .val (.int p2), .val (.int p3), .val (.ref b1), .val (.int (own_to p3)), .val (.int (own_fr p1 p3)), .val (.int (own_fr p2 p3)), .val (.int (f2 (6 : Int32) (own_upd (own_B0 p0) (own_fr p1 p3) ((65 : Int32).toInt8.toInt32)) (own_fr p1 p3) (own_to p3))), .val (.int (0 : Int32)), .val (.int (1 : Int32)), .val (.int (0 : Int32))]) rfl k) ?_
          show own_Fin p.tables e below _ (T25.setTop (mkF m 195 #[.val (.int p0), .val (.int p1), .val (.int p2), .val (.int p3), .val (.ref b1), .val (.int (own_to p3)), .val (.int (own_fr p1 p3)), .val (.int (own_fr p2 p3)), .val (.int (f2 (6 : Int32) (own_upd (own_B0 p0) (own_fr p1 p3) ((65 : Int32).toInt8.toInt32)) (own_fr p1 p3) (own_to p3))), .val (.int (0 : Int32)), .val (.int (1 : Int32)), .val (.int (0 : Int32))] []))
          refine own_by (fun _ k => XS.iload X25.here hx rfl (hb hby at_195) rfl k) ?_
          show own_Fin p.tables e below _ (T25.setTop (mkF m 197 #[.val (.int p0), .val (.int p1), .val (.int p2), .val (.int p3), .val (.ref b1), .val (.int (own_to p3)), .val (.int (own_fr p1 p3)), .val (.int (own_fr p2 p3)), .val (.int (f2 (6 : Int32) (own_upd (own_B0 p0) (own_fr p1 p3) ((65 : Int32).toInt8.toInt32)) (own_fr p1 p3) (own_to p3))), .val (.int (0 : Int32)), .val (.int (1 : Int32)), .val (.int (0 : Int32))] [(.int (0 : Int32))]))
          refine own_by (fun _ k => XS.ifYes X25.here hx rfl (pc0 := 197) (pc' := 209) rfl (hb hby at_197) rfl ((if0 _ _).trans (teq (by decide)).1) (by decide) (by decide) k) ?_
          show own_Fin p.tables e below _ (T25.setTop (mkF m 209 #[.val (.int p0), .val (.int p1), .val (.int p2), .val (.int p3), .val (.ref b1), .val (.int (own_to p3)), .val (.int (own_fr p1 p3)), .val (.int (own_fr p2 p3)), .val (.int (f2 (6 : Int32) (own_upd (own_B0 p0) (own_fr p1 p3) ((65 : Int32).toInt8.toInt32)) (own_fr p1 p3) (own_to p3))), .val (.int (0 : Int32)), .val (.int (1 : Int32)), .val (.int (0 : Int32))] []))
          refine own_by (fun _ k => XS.iconst X25.here hx rfl (hb hby at_209) k) ?_
          show own_Fin p.tables e below _ (T25.setTop (mkF m 210 #[.val (.int p0), .val (.int p1), .val (.int p2), .val (.int p3), .val (.ref b1), .val (.int (own_to p3)), .val (.int (own_fr p1 p3)), .val (.int (own_fr p2 p3)), .val (.int (f2 (6 : Int32) (own_upd (own_B0 p0) (own_fr p1 p3) ((65 : Int32).toInt8.toInt32)) (own_fr p1 p3) (own_to p3))), .val (.int (0 : Int32)), .val (.int (1 : Int32)), .val (.int (0 : Int32))] [(.int (0 : Int32))]))
          have ef : f0 p0 p1 p2 p3 = (0 : Int32) := by unfold f0; rw [if_pos hc14, if_neg hc18, if_pos hc24, if_neg hc26]
          exact own_retN X25 hx (t := .boolean) Bd.returns hlk (by simp) (hb hby at_210) (by decide) (by decide) ⟨by rw [ef]; rfl, N25⟩
      · refine own_by (fun _ k => XS.icmpYes X23.here hx rfl (pc0 := 157) (pc' := 164) rfl (hb hby at_157) rfl (feq hc24).2 (by decide) (by decide) k) ?_
        show own_Fin p.tables e below _ (T23.setTop (mkF m 164 #[.val (.int p0), .val (.int p1), .val (.int p2), .val (.int p3), .val (.ref b1), .val (.int (own_to p3)), .val (.int (own_fr p1 p3)), .val (.int (own_fr p2 p3)), .val (.int (f2 (6 : Int32) (own_upd (own_B0 p0) (own_fr p1 p3) ((65 : Int32).toInt8.toInt32)) (own_fr p1 p3) (own_to p3))), .val (.int (0 : Int32)), .unset, .unset] []))
        refine own_by (fun _ k => XS.iconst X23.here hx rfl (hb hby at_164) k) ?_
        show own_Fin p.tables e below _ (T23.setTop (mkF m 165 #[.val (.int p0), .val (.int p1), .val (.int p2), .val (.int p3), .val (.ref b1), .val (.int (own_to p3)), .val (.int (own_fr p1 p3)), .val (.int (own_fr p2 p3)), .val (.int (f2 (6 : Int32) (own_upd (own_B0 p0) (own_fr p1 p3) ((65 : Int32).toInt8.toInt32)) (own_fr p1 p3) (own_to p3))), .val (.int (0 : Int32)), .unset, .unset] [(.int (0 : Int32))]))
        refine own_by (fun _ k => XS.istore X23.here hx rfl (hb hby at_165) rfl (l' := #[.val (.int p0), .val (.int p1), .val (.int p2), .val (.int p3), .val (.ref b1), .val (.int (own_to p3)), .val (.int (own_fr p1 p3)), .val (.int (own_fr p2 p3)), .val (.int (f2 (6 : Int32) (own_upd (own_B0 p0) (own_fr p1 p3) ((65 : Int32).toInt8.toInt32)) (own_fr p1 p3) (own_to p3))), .val (.int (0 : Int32)), .val (.int (0 : Int32)), .unset]) rfl k) ?_
        show own_Fin p.tables e below _ (T23.setTop (mkF m 167 #[.val (.int p0), .val (.int p1), .val (.int p2), .val (.int p3), .val (.ref b1), .val (.int (own_to p3)), .val (.int (own_fr p1 p3)), .val (.int (own_fr p2 p3)), .val (.int (f2 (6 : Int32) (own_upd (own_B0 p0) (own_fr p1 p3) ((65 : Int32).toInt8.toInt32)) (own_fr p1 p3) (own_to p3))), .val (.int (0 : Int32)), .val (.int (0 : Int32)), .unset] []))
        refine own_by (fun _ k => XS.iload X23.here hx rfl (hb hby at_167) rfl k) ?_
        show own_Fin p.tables e below _ (T23.setTop (mkF m 169 #[.val (.int p0), .val (.int p1), .val (.int p2), .val (.int p3), .val (.ref b1), .val (.int (own_to p3)), .val (.int (own_fr p1 p3)), .val (.int (own_fr p2 p3)), .val (.int (f2 (6 : Int32) (own_upd (own_B0 p0) (own_fr p1 p3) ((65 : Int32).toInt8.toInt32)) (own_fr p1 p3) (own_to p3))), .val (.int (0 : Int32)), .val (.int (0 : Int32)), .unset] [(.int (0 : Int32))]))
        refine own_by (fun _ k => XS.ifYes X23.here hx rfl (pc0 := 169) (pc' := 188) rfl (hb hby at_169) rfl ((if0 _ _).trans (teq (by decide)).1) (by decide) (by decide) k) ?_
        show own_Fin p.tables e below _ (T23.setTop (mkF m 188 #[.val (.int p0), .val (.int p1), .val (.int p2), .val (.int p3), .val (.ref b1), .val (.int (own_to p3)), .val (.int (own_fr p1 p3)), .val (.int (own_fr p2 p3)), .val (.int (f2 (6 : Int32) (own_upd (own_B0 p0) (own_fr p1 p3) ((65 : Int32).toInt8.toInt32)) (own_fr p1 p3) (own_to p3))), .val (.int (0 : Int32)), .val (.int (0 : Int32)), .unset] []))
        refine own_by (fun _ k => XS.iconst X23.here hx rfl (hb hby at_188) k) ?_
        show own_Fin p.tables e below _ (T23.setTop (mkF m 189 #[.val (.int p0), .val (.int p1), .val (.int p2), .val (.int p3), .val (.ref b1), .val (.int (own_to p3)), .val (.int (own_fr p1 p3)), .val (.int (own_fr p2 p3)), .val (.int (f2 (6 : Int32) (own_upd (own_B0 p0) (own_fr p1 p3) ((65 : Int32).toInt8.toInt32)) (own_fr p1 p3) (own_to p3))), .val (.int (0 : Int32)), .val (.int (0 : Int32)), .unset] [(.int (1 : Int32))]))
        refine own_by (fun _ k => XS.goto X23.here hx rfl (pc0 := 189) (pc' := 193) rfl (hb hby at_189) (by decide) (by decide) k) ?_
        show own_Fin p.tables e below _ (T23.setTop (mkF m 193 #[.val (.int p0), .val (.int p1), .val (.int p2), .val (.int p3), .val (.ref b1), .val (.int (own_to p3)), .val (.int (own_fr p1 p3)), .val (.int (own_fr p2 p3)), .val (.int (f2 (6 : Int32) (own_upd (own_B0 p0) (own_fr p1 p3) ((65 : Int32).toInt8.toInt32)) (own_fr p1 p3) (own_to p3))), .val (.int (0 : Int32)), .val (.int (0 : Int32)), .unset] [(.int (1 : Int32))]))
        refine own_by (fun _ k => XS.istore X23.here hx rfl (hb hby at_193) rfl (l' := #[.val (.int p0), .val (.int p1), .val (.int p2), .val (.int p3), .val (.ref b1), .val (.int (own_to p3)), .val (.int (own_fr p1 p3)), .val (.int (own_fr p2 p3)), .val (.int (f2 (6 : Int32) (own_upd (own_B0 p0) (own_fr p1 p3) ((65 : Int32).toInt8.toInt32)) (own_fr p1 p3) (own_to p3))), .val (.int (0 : Int32)), .val (.int (0 : Int32)), .val (.int (1 : Int32))]) rfl k) ?_
        show own_Fin p.tables e below _ (T23.setTop (mkF m 195 #[.val (.int p0), .val (.int p1), .val (.int p2), .val (.int p3), .val (.ref b1), .val (.int (own_to p3)), .val (.int (own_fr p1 p3)), .val (.int (own_fr p2 p3)), .val (.int (f2 (6 : Int32) (own_upd (own_B0 p0) (own_fr p1 p3) ((65 : Int32).toInt8.toInt32)) (own_fr p1 p3) (own_to p3))), .val (.int (0 : Int32)), .val (.int (0 : Int32)), .val (.int (1 : Int32))] []))
        refine own_by (fun _ k => XS.iload X23.here hx rfl (hb hby at_195) rfl k) ?_
        show own_Fin p.tables e below _ (T23.setTop (mkF m 197 #[.val (.int p0), .val (.int p1), .val (.int p2), .val (.int p3), .val (.ref b1), .val (.int (own_to p3)), .val (.int (own_fr p1 p3)), .val (.int (own_fr p2 p3)), .val (.int (f2 (6 : Int32) (own_upd (own_B0 p0) (own_fr p1 p3) ((65 : Int32).toInt8.toInt32)) (own_fr p1 p3) (own_to p3))), .val (.int (0 : Int32)), .val (.int (0 : Int32)), .val (.int (1 : Int32))] [(.int (0 : Int32))]))
        refine own_by (fun _ k => XS.ifYes X23.here hx rfl (pc0 := 197) (pc' := 209) rfl (hb hby at_197) rfl ((if0 _ _).trans (teq (by decide)).1) (by decide) (by decide) k) ?_
        show own_Fin p.tables e below _ (T23.setTop (mkF m 209 #[.val (.int p0), .val (.int p1), .val (.int p2), .val (.int p3), .val (.ref b1), .val (.int (own_to p3)), .val (.int (own_fr p1 p3)), .val (.int (own_fr p2 p3)), .val (.int (f2 (6 : Int32) (own_upd (own_B0 p0) (own_fr p1 p3) ((65 : Int32).toInt8.toInt32)) (own_fr p1 p3) (own_to p3))), .val (.int (0 : Int32)), .val (.int (0 : Int32)), .val (.int (1 : Int32))] []))
        refine own_by (fun _ k => XS.iconst X23.here hx rfl (hb hby at_209) k) ?_
        show own_Fin p.tables e below _ (T23.setTop (mkF m 210 #[.val (.int p0), .val (.int p1), .val (.int p2), .val (.int p3), .val (.ref b1), .val (.int (own_to p3)), .val (.int (own_fr p1 p3)), .val (.int (own_fr p2 p3)), .val (.int (f2 (6 : Int32) (own_upd (own_B0 p0) (own_fr p1 p3) ((65 : Int32).toInt8.toInt32)) (own_fr p1 p3) (own_to p3))), .val (.int (0 : Int32)), .val (.int (0 : Int32)), .val (.int (1 : Int32))] [(.int (0 : Int32))]))
        have ef : f0 p0 p1 p2 p3 = (0 : Int32) := by unfold f0; rw [if_pos hc14, if_neg hc18, if_neg hc24]
        exact own_retN X23 hx (t := .boolean) Bd.returns hlk (by simp) (hb hby at_210) (by decide) (by decide) ⟨by rw [ef]; rfl, N23⟩
  · refine own_by (fun _ k => XS.icmpYes X13.here hx rfl (pc0 := 103) (pc' := 113) rfl (hb hby at_103) rfl (flt hc14).2.1 (by decide) (by decide) k) ?_
    show own_Fin p.tables e below _ (T13.setTop (mkF m 113 #[.val (.int p0), .val (.int p1), .val (.int p2), .val (.int p3), .val (.ref b1), .val (.int (own_to p3)), .val (.int (own_fr p1 p3)), .val (.int (own_fr p2 p3)), .unset, .unset, .unset, .unset] []))
    refine own_by (fun _ k => XS.aload X13.here hx rfl (hb hby at_113) rfl rfl k) ?_
    show own_Fin p.tables e below _ (T13.setTop (mkF m 115 #[.val (.int p0), .val (.int p1), .val (.int p2), .val (.int p3), .val (.ref b1), .val (.int (own_to p3)), .val (.int (own_fr p1 p3)), .val (.int (own_fr p2 p3)), .unset, .unset, .unset, .unset] [(.ref b1)]))
    refine own_by (fun _ k => XS.iload X13.here hx rfl (hb hby at_115) rfl k) ?_
    show own_Fin p.tables e below _ (T13.setTop (mkF m 117 #[.val (.int p0), .val (.int p1), .val (.int p2), .val (.int p3), .val (.ref b1), .val (.int (own_to p3)), .val (.int (own_fr p1 p3)), .val (.int (own_fr p2 p3)), .unset, .unset, .unset, .unset] [(.int (own_fr p1 p3)), (.ref b1)]))
    refine own_by (fun _ k => XS.iload X13.here hx rfl (hb hby at_117) rfl k) ?_
    show own_Fin p.tables e below _ (T13.setTop (mkF m 119 #[.val (.int p0), .val (.int p1), .val (.int p2), .val (.int p3), .val (.ref b1), .val (.int (own_to p3)), .val (.int (own_fr p1 p3)), .val (.int (own_fr p2 p3)), .unset, .unset, .unset, .unset] [(.int (own_to p3)), (.int (own_fr p1 p3)), (.ref b1)]))
    obtain ⟨_, _, ⟨T27, L27, k27, n27⟩, -, X27, ⟨Lc27, hQ27, l27, y27, z27⟩, st27⟩ := Jvm.LawKit.callS X13 hx (y := (⟨"com/example/agouti/agouti/server/RequestHeadEndPinLaw", "ref", "([BII)I"⟩ : MethodName)) hown (mvT hZ (hw _ (List.mem_of_getElem? (i := 6) rfl))) (mvT hZ (hw _ (List.mem_of_getElem? (i := 7) rfl))) (mvT hZ (hw _ (List.mem_of_getElem? (i := 3) rfl))) (mvT hZ (hw _ (List.mem_of_getElem? (i := 8) rfl))) (by decide) (backOf (W := 0) (rm2 l Z a0 hw [] b1 (own_fr p1 p3) (own_to p3) (6 : Int32) ((own_B0 p0)) h13 n0 Z13 Vb (by rw [own_l6]; omega) (by omega)) hZ (hw _ (List.mem_of_getElem? (i := 8) rfl)) (hw _ (List.mem_of_getElem? (i := 3) rfl)) (by decide) (by decide)) (g := (mkF m 119 #[.val (.int p0), .val (.int p1), .val (.int p2), .val (.int p3), .val (.ref b1), .val (.int (own_to p3)), .val (.int (own_fr p1 p3)), .val (.int (own_fr p2 p3)), .unset, .unset, .unset, .unset] [(.int (own_to p3)), (.int (own_fr p1 p3)), (.ref b1)])) rfl (by rw [hml]; rfl) (argsL := [(.ref b1), (.int (own_fr p1 p3)), (.int (own_to p3))]) (rest := []) (lenOf pd___BII_I rfl) rfl (by show 2 * 0 + _ ≤ _; exact Nat.le_of_eq rfl) (hb hby at_119) (fun _ _ => ⟨rfl, e13, (by decide : 1 + 0 ≤ _), (by decide : 6 + 0 ≤ _)⟩)
    dsimp only [Pt.U, Pt.locs, Pt.cells, Pt.slots] at X27 l27 y27 z27 st27 hQ27
    subst l27 y27 z27
    obtain ⟨rfl, N27q, e27⟩ := hQ27
    have N27 := Fr.app N13 N27q
    refine own_by st27 ?_
    show own_Fin p.tables e below _ (T27.setTop (mkF m 122 #[.val (.int p0), .val (.int p1), .val (.int p2), .val (.int p3), .val (.ref b1), .val (.int (own_to p3)), .val (.int (own_fr p1 p3)), .val (.int (own_fr p2 p3)), .unset, .unset, .unset, .unset] [(.int (f2 (6 : Int32) (own_B0 p0) (own_fr p1 p3) (own_to p3)))]))
    refine own_by (fun _ k => XS.istore X27.here hx rfl (hb hby at_122) rfl (l' := #[.val (.int p0), .val (.int p1), .val (.int p2), .val (.int p3), .val (.ref b1), .val (.int (own_to p3)), .val (.int (own_fr p1 p3)), .val (.int (own_fr p2 p3)), .val (.int (f2 (6 : Int32) (own_B0 p0) (own_fr p1 p3) (own_to p3))), .unset, .unset, .unset]) rfl k) ?_
    show own_Fin p.tables e below _ (T27.setTop (mkF m 124 #[.val (.int p0), .val (.int p1), .val (.int p2), .val (.int p3), .val (.ref b1), .val (.int (own_to p3)), .val (.int (own_fr p1 p3)), .val (.int (own_fr p2 p3)), .val (.int (f2 (6 : Int32) (own_B0 p0) (own_fr p1 p3) (own_to p3))), .unset, .unset, .unset] []))
    refine own_by (fun _ k => XS.aload X27.here hx rfl (hb hby at_124) rfl rfl k) ?_
    show own_Fin p.tables e below _ (T27.setTop (mkF m 126 #[.val (.int p0), .val (.int p1), .val (.int p2), .val (.int p3), .val (.ref b1), .val (.int (own_to p3)), .val (.int (own_fr p1 p3)), .val (.int (own_fr p2 p3)), .val (.int (f2 (6 : Int32) (own_B0 p0) (own_fr p1 p3) (own_to p3))), .unset, .unset, .unset] [(.ref b1)]))
    refine own_by (fun _ k => XS.iload X27.here hx rfl (hb hby at_126) rfl k) ?_
    show own_Fin p.tables e below _ (T27.setTop (mkF m 128 #[.val (.int p0), .val (.int p1), .val (.int p2), .val (.int p3), .val (.ref b1), .val (.int (own_to p3)), .val (.int (own_fr p1 p3)), .val (.int (own_fr p2 p3)), .val (.int (f2 (6 : Int32) (own_B0 p0) (own_fr p1 p3) (own_to p3))), .unset, .unset, .unset] [(.int (own_fr p1 p3)), (.ref b1)]))
    refine own_by (fun _ k => XS.iload X27.here hx rfl (hb hby at_128) rfl k) ?_
    show own_Fin p.tables e below _ (T27.setTop (mkF m 130 #[.val (.int p0), .val (.int p1), .val (.int p2), .val (.int p3), .val (.ref b1), .val (.int (own_to p3)), .val (.int (own_fr p1 p3)), .val (.int (own_fr p2 p3)), .val (.int (f2 (6 : Int32) (own_B0 p0) (own_fr p1 p3) (own_to p3))), .unset, .unset, .unset] [(.int (own_fr p1 p3)), (.int (own_fr p1 p3)), (.ref b1)]))
    refine own_by (fun _ k => XS.iload X27.here hx rfl (hb hby at_130) rfl k) ?_
    show own_Fin p.tables e below _ (T27.setTop (mkF m 132 #[.val (.int p0), .val (.int p1), .val (.int p2), .val (.int p3), .val (.ref b1), .val (.int (own_to p3)), .val (.int (own_fr p1 p3)), .val (.int (own_fr p2 p3)), .val (.int (f2 (6 : Int32) (own_B0 p0) (own_fr p1 p3) (own_to p3))), .unset, .unset, .unset] [(.int (own_to p3)), (.int (own_fr p1 p3)), (.int (own_fr p1 p3)), (.ref b1)]))
    obtain ⟨_, _, ⟨T28, L28, k28, n28⟩, -, X28, ⟨Lc28, hQ28, l28, y28, z28⟩, st28⟩ := Jvm.LawKit.callS X27 hx (y := (⟨"com/example/agouti/agouti/server/RequestHead", "end", "([BIII)I"⟩ : MethodName)) hown (mvT hZ (hw _ (List.mem_of_getElem? (i := 12) rfl))) (mvT hZ (hw _ (List.mem_of_getElem? (i := 13) rfl))) (mvT hZ (hw _ (List.mem_of_getElem? (i := 14) rfl))) (mvT hZ (hw _ (List.mem_of_getElem? (i := 15) rfl))) (by decide) (backOf (W := 0) (rm4 l Z a0 hw [] b1 (own_fr p1 p3) (own_fr p1 p3) (own_to p3) (6 : Int32) ((own_B0 p0)) h13 n0 Z13 Vb (by rw [own_l6]; omega) (by omega) (by omega) (by omega) (by omega) (by omega)) hZ (hw _ (List.mem_of_getElem? (i := 15) rfl)) (hw _ (List.mem_of_getElem? (i := 14) rfl)) (by decide) (by decide)) (g := (mkF m 132 #[.val (.int p0), .val (.int p1), .val (.int p2), .val (.int p3), .val (.ref b1), .val (.int (own_to p3)), .val (.int (own_fr p1 p3)), .val (.int (own_fr p2 p3)), .val (.int (f2 (6 : Int32) (own_B0 p0) (own_fr p1 p3) (own_to p3))), .unset, .unset, .unset] [(.int (own_to p3)), (.int (own_fr p1 p3)), (.int (own_fr p1 p3)), (.ref b1)])) rfl (by rw [hml]; rfl) (argsL := [(.ref b1), (.int (own_fr p1 p3)), (.int (own_fr p1 p3)), (.int (own_to p3))]) (rest := []) (lenOf pd___BIII_I rfl) rfl (by show 2 * 0 + _ ≤ _; exact Nat.le_of_eq rfl) (hb hby at_132) (fun _ _ => ⟨rfl, e27, (by decide : 1 + 0 ≤ _), (by decide : 6 + 0 ≤ _)⟩)
    dsimp only [Pt.U, Pt.locs, Pt.cells, Pt.slots] at X28 l28 y28 z28 st28 hQ28
    subst l28 y28 z28
    obtain ⟨rfl, N28q, e28⟩ := hQ28
    have N28 := Fr.app N27 N28q
    refine own_by st28 ?_
    show own_Fin p.tables e below _ (T28.setTop (mkF m 135 #[.val (.int p0), .val (.int p1), .val (.int p2), .val (.int p3), .val (.ref b1), .val (.int (own_to p3)), .val (.int (own_fr p1 p3)), .val (.int (own_fr p2 p3)), .val (.int (f2 (6 : Int32) (own_B0 p0) (own_fr p1 p3) (own_to p3))), .unset, .unset, .unset] [(.int (f4 (6 : Int32) (own_B0 p0) (own_fr p1 p3) (own_fr p1 p3) (own_to p3)))]))
    refine own_by (fun _ k => XS.iload X28.here hx rfl (hb hby at_135) rfl k) ?_
    show own_Fin p.tables e below _ (T28.setTop (mkF m 137 #[.val (.int p0), .val (.int p1), .val (.int p2), .val (.int p3), .val (.ref b1), .val (.int (own_to p3)), .val (.int (own_fr p1 p3)), .val (.int (own_fr p2 p3)), .val (.int (f2 (6 : Int32) (own_B0 p0) (own_fr p1 p3) (own_to p3))), .unset, .unset, .unset] [(.int (f2 (6 : Int32) (own_B0 p0) (own_fr p1 p3) (own_to p3))), (.int (f4 (6 : Int32) (own_B0 p0) (own_fr p1 p3) (own_fr p1 p3) (own_to p3)))]))
    by_cases hc29 : (f4 (6 : Int32) (own_B0 p0) (own_fr p1 p3) (own_fr p1 p3) (own_to p3)) = (f2 (6 : Int32) (own_B0 p0) (own_fr p1 p3) (own_to p3))
    · refine own_by (fun _ k => XS.icmpNo X28.here hx rfl (hb hby at_137) rfl (teq hc29).2 k) ?_
      show own_Fin p.tables e below _ (T28.setTop (mkF m 140 #[.val (.int p0), .val (.int p1), .val (.int p2), .val (.int p3), .val (.ref b1), .val (.int (own_to p3)), .val (.int (own_fr p1 p3)), .val (.int (own_fr p2 p3)), .val (.int (f2 (6 : Int32) (own_B0 p0) (own_fr p1 p3) (own_to p3))), .unset, .unset, .unset] []))
      refine own_by (fun _ k => XS.iconst X28.here hx rfl (hb hby at_140) k) ?_
      show own_Fin p.tables e below _ (T28.setTop (mkF m 141 #[.val (.int p0), .val (.int p1), .val (.int p2), .val (.int p3), .val (.ref b1), .val (.int (own_to p3)), .val (.int (own_fr p1 p3)), .val (.int (own_fr p2 p3)), .val (.int (f2 (6 : Int32) (own_B0 p0) (own_fr p1 p3) (own_to p3))), .unset, .unset, .unset] [(.int (1 : Int32))]))
      refine own_by (fun _ k => XS.goto X28.here hx rfl (pc0 := 141) (pc' := 145) rfl (hb hby at_141) (by decide) (by decide) k) ?_
      show own_Fin p.tables e below _ (T28.setTop (mkF m 145 #[.val (.int p0), .val (.int p1), .val (.int p2), .val (.int p3), .val (.ref b1), .val (.int (own_to p3)), .val (.int (own_fr p1 p3)), .val (.int (own_fr p2 p3)), .val (.int (f2 (6 : Int32) (own_B0 p0) (own_fr p1 p3) (own_to p3))), .unset, .unset, .unset] [(.int (1 : Int32))]))
      refine own_by (fun _ k => XS.istore X28.here hx rfl (hb hby at_145) rfl (l' := #[.val (.int p0), .val (.int p1), .val (.int p2), .val (.int p3), .val (.ref b1), .val (.int (own_to p3)), .val (.int (own_fr p1 p3)), .val (.int (own_fr p2 p3)), .val (.int (f2 (6 : Int32) (own_B0 p0) (own_fr p1 p3) (own_to p3))), .val (.int (1 : Int32)), .unset, .unset]) rfl k) ?_
      show own_Fin p.tables e below _ (T28.setTop (mkF m 147 #[.val (.int p0), .val (.int p1), .val (.int p2), .val (.int p3), .val (.ref b1), .val (.int (own_to p3)), .val (.int (own_fr p1 p3)), .val (.int (own_fr p2 p3)), .val (.int (f2 (6 : Int32) (own_B0 p0) (own_fr p1 p3) (own_to p3))), .val (.int (1 : Int32)), .unset, .unset] []))
      refine own_by (fun _ k => XS.aload X28.here hx rfl (hb hby at_147) rfl rfl k) ?_
      show own_Fin p.tables e below _ (T28.setTop (mkF m 149 #[.val (.int p0), .val (.int p1), .val (.int p2), .val (.int p3), .val (.ref b1), .val (.int (own_to p3)), .val (.int (own_fr p1 p3)), .val (.int (own_fr p2 p3)), .val (.int (f2 (6 : Int32) (own_B0 p0) (own_fr p1 p3) (own_to p3))), .val (.int (1 : Int32)), .unset, .unset] [(.ref b1)]))
      refine own_by (fun _ k => XS.iload X28.here hx rfl (hb hby at_149) rfl k) ?_
      show own_Fin p.tables e below _ (T28.setTop (mkF m 151 #[.val (.int p0), .val (.int p1), .val (.int p2), .val (.int p3), .val (.ref b1), .val (.int (own_to p3)), .val (.int (own_fr p1 p3)), .val (.int (own_fr p2 p3)), .val (.int (f2 (6 : Int32) (own_B0 p0) (own_fr p1 p3) (own_to p3))), .val (.int (1 : Int32)), .unset, .unset] [(.int (own_fr p1 p3)), (.ref b1)]))
      refine own_by (fun _ k => XS.iload X28.here hx rfl (hb hby at_151) rfl k) ?_
      show own_Fin p.tables e below _ (T28.setTop (mkF m 153 #[.val (.int p0), .val (.int p1), .val (.int p2), .val (.int p3), .val (.ref b1), .val (.int (own_to p3)), .val (.int (own_fr p1 p3)), .val (.int (own_fr p2 p3)), .val (.int (f2 (6 : Int32) (own_B0 p0) (own_fr p1 p3) (own_to p3))), .val (.int (1 : Int32)), .unset, .unset] [(.int (own_fr p2 p3)), (.int (own_fr p1 p3)), (.ref b1)]))
      obtain ⟨_, _, ⟨T30, L30, k30, n30⟩, -, X30, ⟨Lc30, hQ30, l30, y30, z30⟩, st30⟩ := Jvm.LawKit.callS X28 hx (y := (⟨"com/example/agouti/agouti/server/RequestHeadEndPinLaw", "ref", "([BII)I"⟩ : MethodName)) hown (mvT hZ (hw _ (List.mem_of_getElem? (i := 6) rfl))) (mvT hZ (hw _ (List.mem_of_getElem? (i := 7) rfl))) (mvT hZ (hw _ (List.mem_of_getElem? (i := 3) rfl))) (mvT hZ (hw _ (List.mem_of_getElem? (i := 8) rfl))) (by decide) (backOf (W := 0) (rm2 l Z a0 hw [] b1 (own_fr p1 p3) (own_fr p2 p3) (6 : Int32) ((own_B0 p0)) h13 n0 Z13 Vb (by rw [own_l6]; omega) (by omega)) hZ (hw _ (List.mem_of_getElem? (i := 8) rfl)) (hw _ (List.mem_of_getElem? (i := 3) rfl)) (by decide) (by decide)) (g := (mkF m 153 #[.val (.int p0), .val (.int p1), .val (.int p2), .val (.int p3), .val (.ref b1), .val (.int (own_to p3)), .val (.int (own_fr p1 p3)), .val (.int (own_fr p2 p3)), .val (.int (f2 (6 : Int32) (own_B0 p0) (own_fr p1 p3) (own_to p3))), .val (.int (1 : Int32)), .unset, .unset] [(.int (own_fr p2 p3)), (.int (own_fr p1 p3)), (.ref b1)])) rfl (by rw [hml]; rfl) (argsL := [(.ref b1), (.int (own_fr p1 p3)), (.int (own_fr p2 p3))]) (rest := []) (lenOf pd___BII_I rfl) rfl (by show 2 * 0 + _ ≤ _; exact Nat.le_of_eq rfl) (hb hby at_153) (fun _ _ => ⟨rfl, e28, (by decide : 1 + 0 ≤ _), (by decide : 6 + 0 ≤ _)⟩)
      dsimp only [Pt.U, Pt.locs, Pt.cells, Pt.slots] at X30 l30 y30 z30 st30 hQ30
      subst l30 y30 z30
      obtain ⟨rfl, N30q, e30⟩ := hQ30
      have N30 := Fr.app N28 N30q
      refine own_by st30 ?_
      show own_Fin p.tables e below _ (T30.setTop (mkF m 156 #[.val (.int p0), .val (.int p1), .val (.int p2), .val (.int p3), .val (.ref b1), .val (.int (own_to p3)), .val (.int (own_fr p1 p3)), .val (.int (own_fr p2 p3)), .val (.int (f2 (6 : Int32) (own_B0 p0) (own_fr p1 p3) (own_to p3))), .val (.int (1 : Int32)), .unset, .unset] [(.int (f2 (6 : Int32) (own_B0 p0) (own_fr p1 p3) (own_fr p2 p3)))]))
      refine own_by (fun _ k => XS.iconst X30.here hx rfl (hb hby at_156) k) ?_
      show own_Fin p.tables e below _ (T30.setTop (mkF m 157 #[.val (.int p0), .val (.int p1), .val (.int p2), .val (.int p3), .val (.ref b1), .val (.int (own_to p3)), .val (.int (own_fr p1 p3)), .val (.int (own_fr p2 p3)), .val (.int (f2 (6 : Int32) (own_B0 p0) (own_fr p1 p3) (own_to p3))), .val (.int (1 : Int32)), .unset, .unset] [(.int (-1 : Int32)), (.int (f2 (6 : Int32) (own_B0 p0) (own_fr p1 p3) (own_fr p2 p3)))]))
      by_cases hc31 : (f2 (6 : Int32) (own_B0 p0) (own_fr p1 p3) (own_fr p2 p3)) = (-1 : Int32)
      · refine own_by (fun _ k => XS.icmpNo X30.here hx rfl (hb hby at_157) rfl (teq hc31).2 k) ?_
        show own_Fin p.tables e below _ (T30.setTop (mkF m 160 #[.val (.int p0), .val (.int p1), .val (.int p2), .val (.int p3), .val (.ref b1), .val (.int (own_to p3)), .val (.int (own_fr p1 p3)), .val (.int (own_fr p2 p3)), .val (.int (f2 (6 : Int32) (own_B0 p0) (own_fr p1 p3) (own_to p3))), .val (.int (1 : Int32)), .unset, .unset] []))
        refine own_by (fun _ k => XS.iconst X30.here hx rfl (hb hby at_160) k) ?_
        show own_Fin p.tables e below _ (T30.setTop (mkF m 161 #[.val (.int p0), .val (.int p1), .val (.int p2), .val (.int p3), .val (.ref b1), .val (.int (own_to p3)), .val (.int (own_fr p1 p3)), .val (.int (own_fr p2 p3)), .val (.int (f2 (6 : Int32) (own_B0 p0) (own_fr p1 p3) (own_to p3))), .val (.int (1 : Int32)), .unset, .unset] [(.int (1 : Int32))]))
        refine own_by (fun _ k => XS.goto X30.here hx rfl (pc0 := 161) (pc' := 165) rfl (hb hby at_161) (by decide) (by decide) k) ?_
        show own_Fin p.tables e below _ (T30.setTop (mkF m 165 #[.val (.int p0), .val (.int p1), .val (.int p2), .val (.int p3), .val (.ref b1), .val (.int (own_to p3)), .val (.int (own_fr p1 p3)), .val (.int (own_fr p2 p3)), .val (.int (f2 (6 : Int32) (own_B0 p0) (own_fr p1 p3) (own_to p3))), .val (.int (1 : Int32)), .unset, .unset] [(.int (1 : Int32))]))
        refine own_by (fun _ k => XS.istore X30.here hx rfl (hb hby at_165) rfl (l' := #[.val (.int p0), .val (.int p1), .val (.int p2), .val (.int p3), .val (.ref b1), .val (.int (own_to p3)), .val (.int (own_fr p1 p3)), .val (.int (own_fr p2 p3)), .val (.int (f2 (6 : Int32) (own_B0 p0) (own_fr p1 p3) (own_to p3))), .val (.int (1 : Int32)), .val (.int (1 : Int32)), .unset]) rfl k) ?_
        show own_Fin p.tables e below _ (T30.setTop (mkF m 167 #[.val (.int p0), .val (.int p1), .val (.int p2), .val (.int p3), .val (.ref b1), .val (.int (own_to p3)), .val (.int (own_fr p1 p3)), .val (.int (own_fr p2 p3)), .val (.int (f2 (6 : Int32) (own_B0 p0) (own_fr p1 p3) (own_to p3))), .val (.int (1 : Int32)), .val (.int (1 : Int32)), .unset] []))
        refine own_by (fun _ k => XS.iload X30.here hx rfl (hb hby at_167) rfl k) ?_
        show own_Fin p.tables e below _ (T30.setTop (mkF m 169 #[.val (.int p0), .val (.int p1), .val (.int p2), .val (.int p3), .val (.ref b1), .val (.int (own_to p3)), .val (.int (own_fr p1 p3)), .val (.int (own_fr p2 p3)), .val (.int (f2 (6 : Int32) (own_B0 p0) (own_fr p1 p3) (own_to p3))), .val (.int (1 : Int32)), .val (.int (1 : Int32)), .unset] [(.int (1 : Int32))]))
        refine own_by (fun _ k => XS.ifNo X30.here hx rfl (hb hby at_169) rfl ((if0 _ _).trans (feq (by decide)).1) k) ?_
        show own_Fin p.tables e below _ (T30.setTop (mkF m 172 #[.val (.int p0), .val (.int p1), .val (.int p2), .val (.int p3), .val (.ref b1), .val (.int (own_to p3)), .val (.int (own_fr p1 p3)), .val (.int (own_fr p2 p3)), .val (.int (f2 (6 : Int32) (own_B0 p0) (own_fr p1 p3) (own_to p3))), .val (.int (1 : Int32)), .val (.int (1 : Int32)), .unset] []))
        refine own_by (fun _ k => XS.aload X30.here hx rfl (hb hby at_172) rfl rfl k) ?_
        show own_Fin p.tables e below _ (T30.setTop (mkF m 174 #[.val (.int p0), .val (.int p1), .val (.int p2), .val (.int p3), .val (.ref b1), .val (.int (own_to p3)), .val (.int (own_fr p1 p3)), .val (.int (own_fr p2 p3)), .val (.int (f2 (6 : Int32) (own_B0 p0) (own_fr p1 p3) (own_to p3))), .val (.int (1 : Int32)), .val (.int (1 : Int32)), .unset] [(.ref b1)]))
        refine own_by (fun _ k => XS.iload X30.here hx rfl (hb hby at_174) rfl k) ?_
        show own_Fin p.tables e below _ (T30.setTop (mkF m 176 #[.val (.int p0), .val (.int p1), .val (.int p2), .val (.int p3), .val (.ref b1), .val (.int (own_to p3)), .val (.int (own_fr p1 p3)), .val (.int (own_fr p2 p3)), .val (.int (f2 (6 : Int32) (own_B0 p0) (own_fr p1 p3) (own_to p3))), .val (.int (1 : Int32)), .val (.int (1 : Int32)), .unset] [(.int (own_fr p1 p3)), (.ref b1)]))
        refine own_by (fun _ k => XS.iload X30.here hx rfl (hb hby at_176) rfl k) ?_
        show own_Fin p.tables e below _ (T30.setTop (mkF m 178 #[.val (.int p0), .val (.int p1), .val (.int p2), .val (.int p3), .val (.ref b1), .val (.int (own_to p3)), .val (.int (own_fr p1 p3)), .val (.int (own_fr p2 p3)), .val (.int (f2 (6 : Int32) (own_B0 p0) (own_fr p1 p3) (own_to p3))), .val (.int (1 : Int32)), .val (.int (1 : Int32)), .unset] [(.int (own_fr p2 p3)), (.int (own_fr p1 p3)), (.ref b1)]))
        refine own_by (fun _ k => XS.iload X30.here hx rfl (hb hby at_178) rfl k) ?_
        show own_Fin p.tables e below _ (T30.setTop (mkF m 180 #[.val (.int p0), .val (.int p1), .val (.int p2), .val (.int p3), .val (.ref b1), .val (.int (own_to p3)), .val (.int (own_fr p1 p3)), .val (.int (own_fr p2 p3)), .val (.int (f2 (6 : Int32) (own_B0 p0) (own_fr p1 p3) (own_to p3))), .val (.int (1 : Int32)), .val (.int (1 : Int32)), .unset] [(.int (own_to p3)), (.int (own_fr p2 p3)), (.int (own_fr p1 p3)), (.ref b1)]))
        obtain ⟨_, _, ⟨T32, L32, k32, n32⟩, -, X32, ⟨Lc32, hQ32, l32, y32, z32⟩, st32⟩ := Jvm.LawKit.callS X30 hx (y := (⟨"com/example/agouti/agouti/server/RequestHead", "end", "([BIII)I"⟩ : MethodName)) hown (mvT hZ (hw _ (List.mem_of_getElem? (i := 12) rfl))) (mvT hZ (hw _ (List.mem_of_getElem? (i := 13) rfl))) (mvT hZ (hw _ (List.mem_of_getElem? (i := 14) rfl))) (mvT hZ (hw _ (List.mem_of_getElem? (i := 15) rfl))) (by decide) (backOf (W := 0) (rm4 l Z a0 hw [] b1 (own_fr p1 p3) (own_fr p2 p3) (own_to p3) (6 : Int32) ((own_B0 p0)) h13 n0 Z13 Vb (by rw [own_l6]; omega) (by omega) (by omega) (by omega) (by omega) (by omega)) hZ (hw _ (List.mem_of_getElem? (i := 15) rfl)) (hw _ (List.mem_of_getElem? (i := 14) rfl)) (by decide) (by decide)) (g := (mkF m 180 #[.val (.int p0), .val (.int p1), .val (.int p2), .val (.int p3), .val (.ref b1), .val (.int (own_to p3)), .val (.int (own_fr p1 p3)), .val (.int (own_fr p2 p3)), .val (.int (f2 (6 : Int32) (own_B0 p0) (own_fr p1 p3) (own_to p3))), .val (.int (1 : Int32)), .val (.int (1 : Int32)), .unset] [(.int (own_to p3)), (.int (own_fr p2 p3)), (.int (own_fr p1 p3)), (.ref b1)])) rfl (by rw [hml]; rfl) (argsL := [(.ref b1), (.int (own_fr p1 p3)), (.int (own_fr p2 p3)), (.int (own_to p3))]) (rest := []) (lenOf pd___BIII_I rfl) rfl (by show 2 * 0 + _ ≤ _; exact Nat.le_of_eq rfl) (hb hby at_180) (fun _ _ => ⟨rfl, e30, (by decide : 1 + 0 ≤ _), (by decide : 6 + 0 ≤ _)⟩)
        dsimp only [Pt.U, Pt.locs, Pt.cells, Pt.slots] at X32 l32 y32 z32 st32 hQ32
        subst l32 y32 z32
        obtain ⟨rfl, N32q, e32⟩ := hQ32
        have N32 := Fr.app N30 N32q
        refine own_by st32 ?_
        show own_Fin p.tables e below _ (T32.setTop (mkF m 183 #[.val (.int p0), .val (.int p1), .val (.int p2), .val (.int p3), .val (.ref b1), .val (.int (own_to p3)), .val (.int (own_fr p1 p3)), .val (.int (own_fr p2 p3)), .val (.int (f2 (6 : Int32) (own_B0 p0) (own_fr p1 p3) (own_to p3))), .val (.int (1 : Int32)), .val (.int (1 : Int32)), .unset] [(.int (f4 (6 : Int32) (own_B0 p0) (own_fr p1 p3) (own_fr p2 p3) (own_to p3)))]))
        refine own_by (fun _ k => XS.iload X32.here hx rfl (hb hby at_183) rfl k) ?_
        show own_Fin p.tables e below _ (T32.setTop (mkF m 185 #[.val (.int p0), .val (.int p1), .val (.int p2), .val (.int p3), .val (.ref b1), .val (.int (own_to p3)), .val (.int (own_fr p1 p3)), .val (.int (own_fr p2 p3)), .val (.int (f2 (6 : Int32) (own_B0 p0) (own_fr p1 p3) (own_to p3))), .val (.int (1 : Int32)), .val (.int (1 : Int32)), .unset] [(.int (f2 (6 : Int32) (own_B0 p0) (own_fr p1 p3) (own_to p3))), (.int (f4 (6 : Int32) (own_B0 p0) (own_fr p1 p3) (own_fr p2 p3) (own_to p3)))]))
        by_cases hc33 : (f4 (6 : Int32) (own_B0 p0) (own_fr p1 p3) (own_fr p2 p3) (own_to p3)) = (f2 (6 : Int32) (own_B0 p0) (own_fr p1 p3) (own_to p3))
        · refine own_by (fun _ k => XS.icmpNo X32.here hx rfl (hb hby at_185) rfl (teq hc33).2 k) ?_
          show own_Fin p.tables e below _ (T32.setTop (mkF m 188 #[.val (.int p0), .val (.int p1), .val (.int p2), .val (.int p3), .val (.ref b1), .val (.int (own_to p3)), .val (.int (own_fr p1 p3)), .val (.int (own_fr p2 p3)), .val (.int (f2 (6 : Int32) (own_B0 p0) (own_fr p1 p3) (own_to p3))), .val (.int (1 : Int32)), .val (.int (1 : Int32)), .unset] []))
          refine own_by (fun _ k => XS.iconst X32.here hx rfl (hb hby at_188) k) ?_
          show own_Fin p.tables e below _ (T32.setTop (mkF m 189 #[.val (.int p0), .val (.int p1), .val (.int p2), .val (.int p3), .val (.ref b1), .val (.int (own_to p3)), .val (.int (own_fr p1 p3)), .val (.int (own_fr p2 p3)), .val (.int (f2 (6 : Int32) (own_B0 p0) (own_fr p1 p3) (own_to p3))), .val (.int (1 : Int32)), .val (.int (1 : Int32)), .unset] [(.int (1 : Int32))]))
          refine own_by (fun _ k => XS.goto X32.here hx rfl (pc0 := 189) (pc' := 193) rfl (hb hby at_189) (by decide) (by decide) k) ?_
          show own_Fin p.tables e below _ (T32.setTop (mkF m 193 #[.val (.int p0), .val (.int p1), .val (.int p2), .val (.int p3), .val (.ref b1), .val (.int (own_to p3)), .val (.int (own_fr p1 p3)), .val (.int (own_fr p2 p3)), .val (.int (f2 (6 : Int32) (own_B0 p0) (own_fr p1 p3) (own_to p3))), .val (.int (1 : Int32)), .val (.int (1 : Int32)), .unset] [(.int (1 : Int32))]))
          refine own_by (fun _ k => XS.istore X32.here hx rfl (hb hby at_193) rfl (l' := #[.val (.int p0), .val (.int p1), .val (.int p2), .val (.int p3), .val (.ref b1), .val (.int (own_to p3)), .val (.int (own_fr p1 p3)), .val (.int (own_fr p2 p3)), .val (.int (f2 (6 : Int32) (own_B0 p0) (own_fr p1 p3) (own_to p3))), .val (.int (1 : Int32)), .val (.int (1 : Int32)), .val (.int (1 : Int32))]) rfl k) ?_
          show own_Fin p.tables e below _ (T32.setTop (mkF m 195 #[.val (.int p0), .val (.int p1), .val (.int p2), .val (.int p3), .val (.ref b1), .val (.int (own_to p3)), .val (.int (own_fr p1 p3)), .val (.int (own_fr p2 p3)), .val (.int (f2 (6 : Int32) (own_B0 p0) (own_fr p1 p3) (own_to p3))), .val (.int (1 : Int32)), .val (.int (1 : Int32)), .val (.int (1 : Int32))] []))
          refine own_by (fun _ k => XS.iload X32.here hx rfl (hb hby at_195) rfl k) ?_
          show own_Fin p.tables e below _ (T32.setTop (mkF m 197 #[.val (.int p0), .val (.int p1), .val (.int p2), .val (.int p3), .val (.ref b1), .val (.int (own_to p3)), .val (.int (own_fr p1 p3)), .val (.int (own_fr p2 p3)), .val (.int (f2 (6 : Int32) (own_B0 p0) (own_fr p1 p3) (own_to p3))), .val (.int (1 : Int32)), .val (.int (1 : Int32)), .val (.int (1 : Int32))] [(.int (1 : Int32))]))
          refine own_by (fun _ k => XS.ifNo X32.here hx rfl (hb hby at_197) rfl ((if0 _ _).trans (feq (by decide)).1) k) ?_
          show own_Fin p.tables e below _ (T32.setTop (mkF m 200 #[.val (.int p0), .val (.int p1), .val (.int p2), .val (.int p3), .val (.ref b1), .val (.int (own_to p3)), .val (.int (own_fr p1 p3)), .val (.int (own_fr p2 p3)), .val (.int (f2 (6 : Int32) (own_B0 p0) (own_fr p1 p3) (own_to p3))), .val (.int (1 : Int32)), .val (.int (1 : Int32)), .val (.int (1 : Int32))] []))
          refine own_by (fun _ k => XS.iload X32.here hx rfl (hb hby at_200) rfl k) ?_
          show own_Fin p.tables e below _ (T32.setTop (mkF m 202 #[.val (.int p0), .val (.int p1), .val (.int p2), .val (.int p3), .val (.ref b1), .val (.int (own_to p3)), .val (.int (own_fr p1 p3)), .val (.int (own_fr p2 p3)), .val (.int (f2 (6 : Int32) (own_B0 p0) (own_fr p1 p3) (own_to p3))), .val (.int (1 : Int32)), .val (.int (1 : Int32)), .val (.int (1 : Int32))] [(.int (1 : Int32))]))
          refine own_by (fun _ k => XS.ifNo X32.here hx rfl (hb hby at_202) rfl ((if0 _ _).trans (feq (by decide)).1) k) ?_
          show own_Fin p.tables e below _ (T32.setTop (mkF m 205 #[.val (.int p0), .val (.int p1), .val (.int p2), .val (.int p3), .val (.ref b1), .val (.int (own_to p3)), .val (.int (own_fr p1 p3)), .val (.int (own_fr p2 p3)), .val (.int (f2 (6 : Int32) (own_B0 p0) (own_fr p1 p3) (own_to p3))), .val (.int (1 : Int32)), .val (.int (1 : Int32)), .val (.int (1 : Int32))] []))
          refine own_by (fun _ k => XS.iconst X32.here hx rfl (hb hby at_205) k) ?_
          show own_Fin p.tables e below _ (T32.setTop (mkF m 206 #[.val (.int p0), .val (.int p1), .val (.int p2), .val (.int p3), .val (.ref b1), .val (.int (own_to p3)), .val (.int (own_fr p1 p3)), .val (.int (own_fr p2 p3)), .val (.int (f2 (6 : Int32) (own_B0 p0) (own_fr p1 p3) (own_to p3))), .val (.int (1 : Int32)), .val (.int (1 : Int32)), .val (.int (1 : Int32))] [(.int (1 : Int32))]))
          refine own_by (fun _ k => XS.goto X32.here hx rfl (pc0 := 206) (pc' := 210) rfl (hb hby at_206) (by decide) (by decide) k) ?_
          show own_Fin p.tables e below _ (T32.setTop (mkF m 210 #[.val (.int p0), .val (.int p1), .val (.int p2), .val (.int p3), .val (.ref b1), .val (.int (own_to p3)), .val (.int (own_fr p1 p3)), .val (.int (own_fr p2 p3)), .val (.int (f2 (6 : Int32) (own_B0 p0) (own_fr p1 p3) (own_to p3))), .val (.int (1 : Int32)), .val (.int (1 : Int32)), .val (.int (1 : Int32))] [(.int (1 : Int32))]))
          have ef : f0 p0 p1 p2 p3 = (1 : Int32) := by unfold f0; rw [if_neg hc14, if_pos hc29, if_pos hc31, if_pos hc33]
          exact own_retN X32 hx (t := .boolean) Bd.returns hlk (by simp) (hb hby at_210) (by decide) (by decide) ⟨by rw [ef]; rfl, N32⟩
        · refine own_by (fun _ k => XS.icmpYes X32.here hx rfl (pc0 := 185) (pc' := 192) rfl (hb hby at_185) rfl (feq hc33).2 (by decide) (by decide) k) ?_
          show own_Fin p.tables e below _ (T32.setTop (mkF m 192 #[.val (.int p0), .val (.int p1), .val (.int p2), .val (.int p3), .val (.ref b1), .val (.int (own_to p3)), .val (.int (own_fr p1 p3)), .val (.int (own_fr p2 p3)), .val (.int (f2 (6 : Int32) (own_B0 p0) (own_fr p1 p3) (own_to p3))), .val (.int (1 : Int32)), .val (.int (1 : Int32)), .unset] []))
          refine own_by (fun _ k => XS.iconst X32.here hx rfl (hb hby at_192) k) ?_
          show own_Fin p.tables e below _ (T32.setTop (mkF m 193 #[.val (.int p0), .val (.int p1), .val (.int p2), .val (.int p3), .val (.ref b1), .val (.int (own_to p3)), .val (.int (own_fr p1 p3)), .val (.int (own_fr p2 p3)), .val (.int (f2 (6 : Int32) (own_B0 p0) (own_fr p1 p3) (own_to p3))), .val (.int (1 : Int32)), .val (.int (1 : Int32)), .unset] [(.int (0 : Int32))]))
          refine own_by (fun _ k => XS.istore X32.here hx rfl (hb hby at_193) rfl (l' := #[.val (.int p0), .val (.int p1), .val (.int p2), .val (.int p3), .val (.ref b1), .val (.int (own_to p3)), .val (.int (own_fr p1 p3)), .val (.int (own_fr p2 p3)), .val (.int (f2 (6 : Int32) (own_B0 p0) (own_fr p1 p3) (own_to p3))), .val (.int (1 : Int32)), .val (.int (1 : Int32)), .val (.int (0 : Int32))]) rfl k) ?_
          show own_Fin p.tables e below _ (T32.setTop (mkF m 195 #[.val (.int p0), .val (.int p1), .val (.int p2), .val (.int p3), .val (.ref b1), .val (.int (own_to p3)), .val (.int (own_fr p1 p3)), .val (.int (own_fr p2 p3)), .val (.int (f2 (6 : Int32) (own_B0 p0) (own_fr p1 p3) (own_to p3))), .val (.int (1 : Int32)), .val (.int (1 : Int32)), .val (.int (0 : Int32))] []))
          refine own_by (fun _ k => XS.iload X32.here hx rfl (hb hby at_195) rfl k) ?_
          show own_Fin p.tables e below _ (T32.setTop (mkF m 197 #[.val (.int p0), .val (.int p1), .val (.int p2), .val (.int p3), .val (.ref b1), .val (.int (own_to p3)), .val (.int (own_fr p1 p3)), .val (.int (own_fr p2 p3)), .val (.int (f2 (6 : Int32) (own_B0 p0) (own_fr p1 p3) (own_to p3))), .val (.int (1 : Int32)), .val (.int (1 : Int32)), .val (.int (0 : Int32))] [(.int (1 : Int32))]))
          refine own_by (fun _ k => XS.ifNo X32.here hx rfl (hb hby at_197) rfl ((if0 _ _).trans (feq (by decide)).1) k) ?_
          show own_Fin p.tables e below _ (T32.setTop (mkF m 200 #[.val (.int p0), .val (.int p1), .val (.int p2), .val (.int p3), .val (.ref b1), .val (.int (own_to p3)), .val (.int (own_fr p1 p3)), .val (.int (own_fr p2 p3)), .val (.int (f2 (6 : Int32) (own_B0 p0) (own_fr p1 p3) (own_to p3))), .val (.int (1 : Int32)), .val (.int (1 : Int32)), .val (.int (0 : Int32))] []))
          refine own_by (fun _ k => XS.iload X32.here hx rfl (hb hby at_200) rfl k) ?_
          show own_Fin p.tables e below _ (T32.setTop (mkF m 202 #[.val (.int p0), .val (.int p1), .val (.int p2), .val (.int p3), .val (.ref b1), .val (.int (own_to p3)), .val (.int (own_fr p1 p3)), .val (.int (own_fr p2 p3)), .val (.int (f2 (6 : Int32) (own_B0 p0) (own_fr p1 p3) (own_to p3))), .val (.int (1 : Int32)), .val (.int (1 : Int32)), .val (.int (0 : Int32))] [(.int (0 : Int32))]))
          refine own_by (fun _ k => XS.ifYes X32.here hx rfl (pc0 := 202) (pc' := 209) rfl (hb hby at_202) rfl ((if0 _ _).trans (teq (by decide)).1) (by decide) (by decide) k) ?_
          show own_Fin p.tables e below _ (T32.setTop (mkF m 209 #[.val (.int p0), .val (.int p1), .val (.int p2), .val (.int p3), .val (.ref b1), .val (.int (own_to p3)), .val (.int (own_fr p1 p3)), .val (.int (own_fr p2 p3)), .val (.int (f2 (6 : Int32) (own_B0 p0) (own_fr p1 p3) (own_to p3))), .val (.int (1 : Int32)), .val (.int (1 : Int32)), .val (.int (0 : Int32))] []))
          refine own_by (fun _ k => XS.iconst X32.here hx rfl (hb hby at_209) k) ?_
          show own_Fin p.tables e below _ (T32.setTop (mkF m 210 #[.val (.int p0), .val (.int p1), .val (.int p2), .val (.int p3), .val (.ref b1), .val (.int (own_to p3)), .val (.int (own_fr p1 p3)), .val (.int (own_fr p2 p3)), .val (.int (f2 (6 : Int32) (own_B0 p0) (own_fr p1 p3) (own_to p3))), .val (.int (1 : Int32)), .val (.int (1 : Int32)), .val (.int (0 : Int32))] [(.int (0 : Int32))]))
          have ef : f0 p0 p1 p2 p3 = (0 : Int32) := by unfold f0; rw [if_neg hc14, if_pos hc29, if_pos hc31, if_neg hc33]
          exact own_retN X32 hx (t := .boolean) Bd.returns hlk (by simp) (hb hby at_210) (by decide) (by decide) ⟨by rw [ef]; rfl, N32⟩
      · refine own_by (fun _ k => XS.icmpYes X30.here hx rfl (pc0 := 157) (pc' := 164) rfl (hb hby at_157) rfl (feq hc31).2 (by decide) (by decide) k) ?_
        show own_Fin p.tables e below _ (T30.setTop (mkF m 164 #[.val (.int p0), .val (.int p1), .val (.int p2), .val (.int p3), .val (.ref b1), .val (.int (own_to p3)), .val (.int (own_fr p1 p3)), .val (.int (own_fr p2 p3)), .val (.int (f2 (6 : Int32) (own_B0 p0) (own_fr p1 p3) (own_to p3))), .val (.int (1 : Int32)), .unset, .unset] []))
        refine own_by (fun _ k => XS.iconst X30.here hx rfl (hb hby at_164) k) ?_
        show own_Fin p.tables e below _ (T30.setTop (mkF m 165 #[.val (.int p0), .val (.int p1), .val (.int p2), .val (.int p3), .val (.ref b1), .val (.int (own_to p3)), .val (.int (own_fr p1 p3)), .val (.int (own_fr p2 p3)), .val (.int (f2 (6 : Int32) (own_B0 p0) (own_fr p1 p3) (own_to p3))), .val (.int (1 : Int32)), .unset, .unset] [(.int (0 : Int32))]))
        refine own_by (fun _ k => XS.istore X30.here hx rfl (hb hby at_165) rfl (l' := #[.val (.int p0), .val (.int p1), .val (.int p2), .val (.int p3), .val (.ref b1), .val (.int (own_to p3)), .val (.int (own_fr p1 p3)), .val (.int (own_fr p2 p3)), .val (.int (f2 (6 : Int32) (own_B0 p0) (own_fr p1 p3) (own_to p3))), .val (.int (1 : Int32)), .val (.int (0 : Int32)), .unset]) rfl k) ?_
        show own_Fin p.tables e below _ (T30.setTop (mkF m 167 #[.val (.int p0), .val (.int p1), .val (.int p2), .val (.int p3), .val (.ref b1), .val (.int (own_to p3)), .val (.int (own_fr p1 p3)), .val (.int (own_fr p2 p3)), .val (.int (f2 (6 : Int32) (own_B0 p0) (own_fr p1 p3) (own_to p3))), .val (.int (1 : Int32)), .val (.int (0 : Int32)), .unset] []))
        refine own_by (fun _ k => XS.iload X30.here hx rfl (hb hby at_167) rfl k) ?_
        show own_Fin p.tables e below _ (T30.setTop (mkF m 169 #[.val (.int p0), .val (.int p1), .val (.int p2), .val (.int p3), .val (.ref b1), .val (.int (own_to p3)), .val (.int (own_fr p1 p3)), .val (.int (own_fr p2 p3)), .val (.int (f2 (6 : Int32) (own_B0 p0) (own_fr p1 p3) (own_to p3))), .val (.int (1 : Int32)), .val (.int (0 : Int32)), .unset] [(.int (0 : Int32))]))
        refine own_by (fun _ k => XS.ifYes X30.here hx rfl (pc0 := 169) (pc' := 188) rfl (hb hby at_169) rfl ((if0 _ _).trans (teq (by decide)).1) (by decide) (by decide) k) ?_
        show own_Fin p.tables e below _ (T30.setTop (mkF m 188 #[.val (.int p0), .val (.int p1), .val (.int p2), .val (.int p3), .val (.ref b1), .val (.int (own_to p3)), .val (.int (own_fr p1 p3)), .val (.int (own_fr p2 p3)), .val (.int (f2 (6 : Int32) (own_B0 p0) (own_fr p1 p3) (own_to p3))), .val (.int (1 : Int32)), .val (.int (0 : Int32)), .unset] []))
        refine own_by (fun _ k => XS.iconst X30.here hx rfl (hb hby at_188) k) ?_
        show own_Fin p.tables e below _ (T30.setTop (mkF m 189 #[.val (.int p0), .val (.int p1), .val (.int p2), .val (.int p3), .val (.ref b1), .val (.int (own_to p3)), .val (.int (own_fr p1 p3)), .val (.int (own_fr p2 p3)), .val (.int (f2 (6 : Int32) (own_B0 p0) (own_fr p1 p3) (own_to p3))), .val (.int (1 : Int32)), .val (.int (0 : Int32)), .unset] [(.int (1 : Int32))]))
        refine own_by (fun _ k => XS.goto X30.here hx rfl (pc0 := 189) (pc' := 193) rfl (hb hby at_189) (by decide) (by decide) k) ?_
        show own_Fin p.tables e below _ (T30.setTop (mkF m 193 #[.val (.int p0), .val (.int p1), .val (.int p2), .val (.int p3), .val (.ref b1), .val (.int (own_to p3)), .val (.int (own_fr p1 p3)), .val (.int (own_fr p2 p3)), .val (.int (f2 (6 : Int32) (own_B0 p0) (own_fr p1 p3) (own_to p3))), .val (.int (1 : Int32)), .val (.int (0 : Int32)), .unset] [(.int (1 : Int32))]))
        refine own_by (fun _ k => XS.istore X30.here hx rfl (hb hby at_193) rfl (l' := #[.val (.int p0), .val (.int p1), .val (.int p2), .val (.int p3), .val (.ref b1), .val (.int (own_to p3)), .val (.int (own_fr p1 p3)), .val (.int (own_fr p2 p3)), .val (.int (f2 (6 : Int32) (own_B0 p0) (own_fr p1 p3) (own_to p3))), .val (.int (1 : Int32)), .val (.int (0 : Int32)), .val (.int (1 : Int32))]) rfl k) ?_
        show own_Fin p.tables e below _ (T30.setTop (mkF m 195 #[.val (.int p0), .val (.int p1), .val (.int p2), .val (.int p3), .val (.ref b1), .val (.int (own_to p3)), .val (.int (own_fr p1 p3)), .val (.int (own_fr p2 p3)), .val (.int (f2 (6 : Int32) (own_B0 p0) (own_fr p1 p3) (own_to p3))), .val (.int (1 : Int32)), .val (.int (0 : Int32)), .val (.int (1 : Int32))] []))
        refine own_by (fun _ k => XS.iload X30.here hx rfl (hb hby at_195) rfl k) ?_
        show own_Fin p.tables e below _ (T30.setTop (mkF m 197 #[.val (.int p0), .val (.int p1), .val (.int p2), .val (.int p3), .val (.ref b1), .val (.int (own_to p3)), .val (.int (own_fr p1 p3)), .val (.int (own_fr p2 p3)), .val (.int (f2 (6 : Int32) (own_B0 p0) (own_fr p1 p3) (own_to p3))), .val (.int (1 : Int32)), .val (.int (0 : Int32)), .val (.int (1 : Int32))] [(.int (1 : Int32))]))
        refine own_by (fun _ k => XS.ifNo X30.here hx rfl (hb hby at_197) rfl ((if0 _ _).trans (feq (by decide)).1) k) ?_
        show own_Fin p.tables e below _ (T30.setTop (mkF m 200 #[.val (.int p0), .val (.int p1), .val (.int p2), .val (.int p3), .val (.ref b1), .val (.int (own_to p3)), .val (.int (own_fr p1 p3)), .val (.int (own_fr p2 p3)), .val (.int (f2 (6 : Int32) (own_B0 p0) (own_fr p1 p3) (own_to p3))), .val (.int (1 : Int32)), .val (.int (0 : Int32)), .val (.int (1 : Int32))] []))
        refine own_by (fun _ k => XS.iload X30.here hx rfl (hb hby at_200) rfl k) ?_
        show own_Fin p.tables e below _ (T30.setTop (mkF m 202 #[.val (.int p0), .val (.int p1), .val (.int p2), .val (.int p3), .val (.ref b1), .val (.int (own_to p3)), .val (.int (own_fr p1 p3)), .val (.int (own_fr p2 p3)), .val (.int (f2 (6 : Int32) (own_B0 p0) (own_fr p1 p3) (own_to p3))), .val (.int (1 : Int32)), .val (.int (0 : Int32)), .val (.int (1 : Int32))] [(.int (1 : Int32))]))
        refine own_by (fun _ k => XS.ifNo X30.here hx rfl (hb hby at_202) rfl ((if0 _ _).trans (feq (by decide)).1) k) ?_
        show own_Fin p.tables e below _ (T30.setTop (mkF m 205 #[.val (.int p0), .val (.int p1), .val (.int p2), .val (.int p3), .val (.ref b1), .val (.int (own_to p3)), .val (.int (own_fr p1 p3)), .val (.int (own_fr p2 p3)), .val (.int (f2 (6 : Int32) (own_B0 p0) (own_fr p1 p3) (own_to p3))), .val (.int (1 : Int32)), .val (.int (0 : Int32)), .val (.int (1 : Int32))] []))
        refine own_by (fun _ k => XS.iconst X30.here hx rfl (hb hby at_205) k) ?_
        show own_Fin p.tables e below _ (T30.setTop (mkF m 206 #[.val (.int p0), .val (.int p1), .val (.int p2), .val (.int p3), .val (.ref b1), .val (.int (own_to p3)), .val (.int (own_fr p1 p3)), .val (.int (own_fr p2 p3)), .val (.int (f2 (6 : Int32) (own_B0 p0) (own_fr p1 p3) (own_to p3))), .val (.int (1 : Int32)), .val (.int (0 : Int32)), .val (.int (1 : Int32))] [(.int (1 : Int32))]))
        refine own_by (fun _ k => XS.goto X30.here hx rfl (pc0 := 206) (pc' := 210) rfl (hb hby at_206) (by decide) (by decide) k) ?_
        show own_Fin p.tables e below _ (T30.setTop (mkF m 210 #[.val (.int p0), .val (.int p1), .val (.int p2), .val (.int p3), .val (.ref b1), .val (.int (own_to p3)), .val (.int (own_fr p1 p3)), .val (.int (own_fr p2 p3)), .val (.int (f2 (6 : Int32) (own_B0 p0) (own_fr p1 p3) (own_to p3))), .val (.int (1 : Int32)), .val (.int (0 : Int32)), .val (.int (1 : Int32))] [(.int (1 : Int32))]))
        have ef : f0 p0 p1 p2 p3 = (1 : Int32) := by unfold f0; rw [if_neg hc14, if_pos hc29, if_neg hc31]
        exact own_retN X30 hx (t := .boolean) Bd.returns hlk (by simp) (hb hby at_210) (by decide) (by decide) ⟨by rw [ef]; rfl, N30⟩
    · refine own_by (fun _ k => XS.icmpYes X28.here hx rfl (pc0 := 137) (pc' := 144) rfl (hb hby at_137) rfl (feq hc29).2 (by decide) (by decide) k) ?_
      show own_Fin p.tables e below _ (T28.setTop (mkF m 144 #[.val (.int p0), .val (.int p1), .val (.int p2), .val (.int p3), .val (.ref b1), .val (.int (own_to p3)), .val (.int (own_fr p1 p3)), .val (.int (own_fr p2 p3)), .val (.int (f2 (6 : Int32) (own_B0 p0) (own_fr p1 p3) (own_to p3))), .unset, .unset, .unset] []))
      refine own_by (fun _ k => XS.iconst X28.here hx rfl (hb hby at_144) k) ?_
      show own_Fin p.tables e below _ (T28.setTop (mkF m 145 #[.val (.int p0), .val (.int p1), .val (.int p2), .val (.int p3), .val (.ref b1), .val (.int (own_to p3)), .val (.int (own_fr p1 p3)), .val (.int (own_fr p2 p3)), .val (.int (f2 (6 : Int32) (own_B0 p0) (own_fr p1 p3) (own_to p3))), .unset, .unset, .unset] [(.int (0 : Int32))]))
      refine own_by (fun _ k => XS.istore X28.here hx rfl (hb hby at_145) rfl (l' := #[.val (.int p0), .val (.int p1), .val (.int p2), .val (.int p3), .val (.ref b1), .val (.int (own_to p3)), .val (.int (own_fr p1 p3)), .val (.int (own_fr p2 p3)), .val (.int (f2 (6 : Int32) (own_B0 p0) (own_fr p1 p3) (own_to p3))), .val (.int (0 : Int32)), .unset, .unset]) rfl k) ?_
      show own_Fin p.tables e below _ (T28.setTop (mkF m 147 #[.val (.int p0), .val (.int p1), .val (.int p2), .val (.int p3), .val (.ref b1), .val (.int (own_to p3)), .val (.int (own_fr p1 p3)), .val (.int (own_fr p2 p3)), .val (.int (f2 (6 : Int32) (own_B0 p0) (own_fr p1 p3) (own_to p3))), .val (.int (0 : Int32)), .unset, .unset] []))
      refine own_by (fun _ k => XS.aload X28.here hx rfl (hb hby at_147) rfl rfl k) ?_
      show own_Fin p.tables e below _ (T28.setTop (mkF m 149 #[.val (.int p0), .val (.int p1), .val (.int p2), .val (.int p3), .val (.ref b1), .val (.int (own_to p3)), .val (.int (own_fr p1 p3)), .val (.int (own_fr p2 p3)), .val (.int (f2 (6 : Int32) (own_B0 p0) (own_fr p1 p3) (own_to p3))), .val (.int (0 : Int32)), .unset, .unset] [(.ref b1)]))
      refine own_by (fun _ k => XS.iload X28.here hx rfl (hb hby at_149) rfl k) ?_
      show own_Fin p.tables e below _ (T28.setTop (mkF m 151 #[.val (.int p0), .val (.int p1), .val (.int p2), .val (.int p3), .val (.ref b1), .val (.int (own_to p3)), .val (.int (own_fr p1 p3)), .val (.int (own_fr p2 p3)), .val (.int (f2 (6 : Int32) (own_B0 p0) (own_fr p1 p3) (own_to p3))), .val (.int (0 : Int32)), .unset, .unset] [(.int (own_fr p1 p3)), (.ref b1)]))
      refine own_by (fun _ k => XS.iload X28.here hx rfl (hb hby at_151) rfl k) ?_
      show own_Fin p.tables e below _ (T28.setTop (mkF m 153 #[.val (.int p0), .val (.int p1), .val (.int p2), .val (.int p3), .val (.ref b1), .val (.int (own_to p3)), .val (.int (own_fr p1 p3)), .val (.int (own_fr p2 p3)), .val (.int (f2 (6 : Int32) (own_B0 p0) (own_fr p1 p3) (own_to p3))), .val (.int (0 : Int32)), .unset, .unset] [(.int (own_fr p2 p3)), (.int (own_fr p1 p3)), (.ref b1)]))
      obtain ⟨_, _, ⟨T34, L34, k34, n34⟩, -, X34, ⟨Lc34, hQ34, l34, y34, z34⟩, st34⟩ := Jvm.LawKit.callS X28 hx (y := (⟨"com/example/agouti/agouti/server/RequestHeadEndPinLaw", "ref", "([BII)I"⟩ : MethodName)) hown (mvT hZ (hw _ (List.mem_of_getElem? (i := 6) rfl))) (mvT hZ (hw _ (List.mem_of_getElem? (i := 7) rfl))) (mvT hZ (hw _ (List.mem_of_getElem? (i := 3) rfl))) (mvT hZ (hw _ (List.mem_of_getElem? (i := 8) rfl))) (by decide) (backOf (W := 0) (rm2 l Z a0 hw [] b1 (own_fr p1 p3) (own_fr p2 p3) (6 : Int32) ((own_B0 p0)) h13 n0 Z13 Vb (by rw [own_l6]; omega) (by omega)) hZ (hw _ (List.mem_of_getElem? (i := 8) rfl)) (hw _ (List.mem_of_getElem? (i := 3) rfl)) (by decide) (by decide)) (g := (mkF m 153 #[.val (.int p0), .val (.int p1), .val (.int p2), .val (.int p3), .val (.ref b1), .val (.int (own_to p3)), .val (.int (own_fr p1 p3)), .val (.int (own_fr p2 p3)), .val (.int (f2 (6 : Int32) (own_B0 p0) (own_fr p1 p3) (own_to p3))), .val (.int (0 : Int32)), .unset, .unset] [(.int (own_fr p2 p3)), (.int (own_fr p1 p3)), (.ref b1)])) rfl (by rw [hml]; rfl) (argsL := [(.ref b1), (.int (own_fr p1 p3)), (.int (own_fr p2 p3))]) (rest := []) (lenOf pd___BII_I rfl) rfl (by show 2 * 0 + _ ≤ _; exact Nat.le_of_eq rfl) (hb hby at_153) (fun _ _ => ⟨rfl, e28, (by decide : 1 + 0 ≤ _), (by decide : 6 + 0 ≤ _)⟩)
      dsimp only [Pt.U, Pt.locs, Pt.cells, Pt.slots] at X34 l34 y34 z34 st34 hQ34
      subst l34 y34 z34
      obtain ⟨rfl, N34q, e34⟩ := hQ34
      have N34 := Fr.app N28 N34q
      refine own_by st34 ?_
      show own_Fin p.tables e below _ (T34.setTop (mkF m 156 #[.val (.int p0), .val (.int p1), .val (.int p2), .val (.int p3), .val (.ref b1), .val (.int (own_to p3)), .val (.int (own_fr p1 p3)), .val (.int (own_fr p2 p3)), .val (.int (f2 (6 : Int32) (own_B0 p0) (own_fr p1 p3) (own_to p3))), .val (.int (0 : Int32)), .unset, .unset] [(.int (f2 (6 : Int32) (own_B0 p0) (own_fr p1 p3) (own_fr p2 p3)))]))
      refine own_by (fun _ k => XS.iconst X34.here hx rfl (hb hby at_156) k) ?_
      show own_Fin p.tables e below _ (T34.setTop (mkF m 157 #[.val (.int p0), .val (.int p1), .val (.int p2), .val (.int p3), .val (.ref b1), .val (.int (own_to p3)), .val (.int (own_fr p1 p3)), .val (.int (own_fr p2 p3)), .val (.int (f2 (6 : Int32) (own_B0 p0) (own_fr p1 p3) (own_to p3))), .val (.int (0 : Int32)), .unset, .unset] [(.int (-1 : Int32)), (.int (f2 (6 : Int32) (own_B0 p0) (own_fr p1 p3) (own_fr p2 p3)))]))
      by_cases hc35 : (f2 (6 : Int32) (own_B0 p0) (own_fr p1 p3) (own_fr p2 p3)) = (-1 : Int32)
      · refine own_by (fun _ k => XS.icmpNo X34.here hx rfl (hb hby at_157) rfl (teq hc35).2 k) ?_
        show own_Fin p.tables e below _ (T34.setTop (mkF m 160 #[.val (.int p0), .val (.int p1), .val (.int p2), .val (.int p3), .val (.ref b1), .val (.int (own_to p3)), .val (.int (own_fr p1 p3)), .val (.int (own_fr p2 p3)), .val (.int (f2 (6 : Int32) (own_B0 p0) (own_fr p1 p3) (own_to p3))), .val (.int (0 : Int32)), .unset, .unset] []))
        refine own_by (fun _ k => XS.iconst X34.here hx rfl (hb hby at_160) k) ?_
        show own_Fin p.tables e below _ (T34.setTop (mkF m 161 #[.val (.int p0), .val (.int p1), .val (.int p2), .val (.int p3), .val (.ref b1), .val (.int (own_to p3)), .val (.int (own_fr p1 p3)), .val (.int (own_fr p2 p3)), .val (.int (f2 (6 : Int32) (own_B0 p0) (own_fr p1 p3) (own_to p3))), .val (.int (0 : Int32)), .unset, .unset] [(.int (1 : Int32))]))
        refine own_by (fun _ k => XS.goto X34.here hx rfl (pc0 := 161) (pc' := 165) rfl (hb hby at_161) (by decide) (by decide) k) ?_
        show own_Fin p.tables e below _ (T34.setTop (mkF m 165 #[.val (.int p0), .val (.int p1), .val (.int p2), .val (.int p3), .val (.ref b1), .val (.int (own_to p3)), .val (.int (own_fr p1 p3)), .val (.int (own_fr p2 p3)), .val (.int (f2 (6 : Int32) (own_B0 p0) (own_fr p1 p3) (own_to p3))), .val (.int (0 : Int32)), .unset, .unset] [(.int (1 : Int32))]))
        refine own_by (fun _ k => XS.istore X34.here hx rfl (hb hby at_165) rfl (l' := #[.val (.int p0), .val (.int p1), .val (.int p2), .val (.int p3), .val (.ref b1), .val (.int (own_to p3)), .val (.int (own_fr p1 p3)), .val (.int (own_fr p2 p3)), .val (.int (f2 (6 : Int32) (own_B0 p0) (own_fr p1 p3) (own_to p3))), .val (.int (0 : Int32)), .val (.int (1 : Int32)), .unset]) rfl k) ?_
        show own_Fin p.tables e below _ (T34.setTop (mkF m 167 #[.val (.int p0), .val (.int p1), .val (.int p2), .val (.int p3), .val (.ref b1), .val (.int (own_to p3)), .val (.int (own_fr p1 p3)), .val (.int (own_fr p2 p3)), .val (.int (f2 (6 : Int32) (own_B0 p0) (own_fr p1 p3) (own_to p3))), .val (.int (0 : Int32)), .val (.int (1 : Int32)), .unset] []))
        refine own_by (fun _ k => XS.iload X34.here hx rfl (hb hby at_167) rfl k) ?_
        show own_Fin p.tables e below _ (T34.setTop (mkF m 169 #[.val (.int p0), .val (.int p1), .val (.int p2), .val (.int p3), .val (.ref b1), .val (.int (own_to p3)), .val (.int (own_fr p1 p3)), .val (.int (own_fr p2 p3)), .val (.int (f2 (6 : Int32) (own_B0 p0) (own_fr p1 p3) (own_to p3))), .val (.int (0 : Int32)), .val (.int (1 : Int32)), .unset] [(.int (1 : Int32))]))
        refine own_by (fun _ k => XS.ifNo X34.here hx rfl (hb hby at_169) rfl ((if0 _ _).trans (feq (by decide)).1) k) ?_
        show own_Fin p.tables e below _ (T34.setTop (mkF m 172 #[.val (.int p0), .val (.int p1), .val (.int p2), .val (.int p3), .val (.ref b1), .val (.int (own_to p3)), .val (.int (own_fr p1 p3)), .val (.int (own_fr p2 p3)), .val (.int (f2 (6 : Int32) (own_B0 p0) (own_fr p1 p3) (own_to p3))), .val (.int (0 : Int32)), .val (.int (1 : Int32)), .unset] []))
        refine own_by (fun _ k => XS.aload X34.here hx rfl (hb hby at_172) rfl rfl k) ?_
        show own_Fin p.tables e below _ (T34.setTop (mkF m 174 #[.val (.int p0), .val (.int p1), .val (.int p2), .val (.int p3), .val (.ref b1), .val (.int (own_to p3)), .val (.int (own_fr p1 p3)), .val (.int (own_fr p2 p3)), .val (.int (f2 (6 : Int32) (own_B0 p0) (own_fr p1 p3) (own_to p3))), .val (.int (0 : Int32)), .val (.int (1 : Int32)), .unset] [(.ref b1)]))
        refine own_by (fun _ k => XS.iload X34.here hx rfl (hb hby at_174) rfl k) ?_
        show own_Fin p.tables e below _ (T34.setTop (mkF m 176 #[.val (.int p0), .val (.int p1), .val (.int p2), .val (.int p3), .val (.ref b1), .val (.int (own_to p3)), .val (.int (own_fr p1 p3)), .val (.int (own_fr p2 p3)), .val (.int (f2 (6 : Int32) (own_B0 p0) (own_fr p1 p3) (own_to p3))), .val (.int (0 : Int32)), .val (.int (1 : Int32)), .unset] [(.int (own_fr p1 p3)), (.ref b1)]))
        refine own_by (fun _ k => XS.iload X34.here hx rfl (hb hby at_176) rfl k) ?_
        show own_Fin p.tables e below _ (T34.setTop (mkF m 178 #[.val (.int p0), .val (.int p1), .val (.int p2), .val (.int p3), .val (.ref b1), .val (.int (own_to p3)), .val (.int (own_fr p1 p3)), .val (.int (own_fr p2 p3)), .val (.int (f2 (6 : Int32) (own_B0 p0) (own_fr p1 p3) (own_to p3))), .val (.int (0 : Int32)), .val (.int (1 : Int32)), .unset] [(.int (own_fr p2 p3)), (.int (own_fr p1 p3)), (.ref b1)]))
        refine own_by (fun _ k => XS.iload X34.here hx rfl (hb hby at_178) rfl k) ?_
        show own_Fin p.tables e below _ (T34.setTop (mkF m 180 #[.val (.int p0), .val (.int p1), .val (.int p2), .val (.int p3), .val (.ref b1), .val (.int (own_to p3)), .val (.int (own_fr p1 p3)), .val (.int (own_fr p2 p3)), .val (.int (f2 (6 : Int32) (own_B0 p0) (own_fr p1 p3) (own_to p3))), .val (.int (0 : Int32)), .val (.int (1 : Int32)), .unset] [(.int (own_to p3)), (.int (own_fr p2 p3)), (.int (own_fr p1 p3)), (.ref b1)]))
        obtain ⟨_, _, ⟨T36, L36, k36, n36⟩, -, X36, ⟨Lc36, hQ36, l36, y36, z36⟩, st36⟩ := Jvm.LawKit.callS X34 hx (y := (⟨"com/example/agouti/agouti/server/RequestHead", "end", "([BIII)I"⟩ : MethodName)) hown (mvT hZ (hw _ (List.mem_of_getElem? (i := 12) rfl))) (mvT hZ (hw _ (List.mem_of_getElem? (i := 13) rfl))) (mvT hZ (hw _ (List.mem_of_getElem? (i := 14) rfl))) (mvT hZ (hw _ (List.mem_of_getElem? (i := 15) rfl))) (by decide) (backOf (W := 0) (rm4 l Z a0 hw [] b1 (own_fr p1 p3) (own_fr p2 p3) (own_to p3) (6 : Int32) ((own_B0 p0)) h13 n0 Z13 Vb (by rw [own_l6]; omega) (by omega) (by omega) (by omega) (by omega) (by omega)) hZ (hw _ (List.mem_of_getElem? (i := 15) rfl)) (hw _ (List.mem_of_getElem? (i := 14) rfl)) (by decide) (by decide)) (g := (mkF m 180 #[.val (.int p0), .val (.int p1), .val (.int p2), .val (.int p3), .val (.ref b1), .val (.int (own_to p3)), .val (.int (own_fr p1 p3)), .val (.int (own_fr p2 p3)), .val (.int (f2 (6 : Int32) (own_B0 p0) (own_fr p1 p3) (own_to p3))), .val (.int (0 : Int32)), .val (.int (1 : Int32)), .unset] [(.int (own_to p3)), (.int (own_fr p2 p3)), (.int (own_fr p1 p3)), (.ref b1)])) rfl (by rw [hml]; rfl) (argsL := [(.ref b1), (.int (own_fr p1 p3)), (.int (own_fr p2 p3)), (.int (own_to p3))]) (rest := []) (lenOf pd___BIII_I rfl) rfl (by show 2 * 0 + _ ≤ _; exact Nat.le_of_eq rfl) (hb hby at_180) (fun _ _ => ⟨rfl, e34, (by decide : 1 + 0 ≤ _), (by decide : 6 + 0 ≤ _)⟩)
        dsimp only [Pt.U, Pt.locs, Pt.cells, Pt.slots] at X36 l36 y36 z36 st36 hQ36
        subst l36 y36 z36
        obtain ⟨rfl, N36q, e36⟩ := hQ36
        have N36 := Fr.app N34 N36q
        refine own_by st36 ?_
        show own_Fin p.tables e below _ (T36.setTop (mkF m 183 #[.val (.int p0), .val (.int p1), .val (.int p2), .val (.int p3), .val (.ref b1), .val (.int (own_to p3)), .val (.int (own_fr p1 p3)), .val (.int (own_fr p2 p3)), .val (.int (f2 (6 : Int32) (own_B0 p0) (own_fr p1 p3) (own_to p3))), .val (.int (0 : Int32)), .val (.int (1 : Int32)), .unset] [(.int (f4 (6 : Int32) (own_B0 p0) (own_fr p1 p3) (own_fr p2 p3) (own_to p3)))]))
        refine own_by (fun _ k => XS.iload X36.here hx rfl (hb hby at_183) rfl k) ?_
        show own_Fin p.tables e below _ (T36.setTop (mkF m 185 #[.val (.int p0), .val (.int p1), .val (.int p2), .val (.int p3), .val (.ref b1), .val (.int (own_to p3)), .val (.int (own_fr p1 p3)), .val (.int (own_fr p2 p3)), .val (.int (f2 (6 : Int32) (own_B0 p0) (own_fr p1 p3) (own_to p3))), .val (.int (0 : Int32)), .val (.int (1 : Int32)), .unset] [(.int (f2 (6 : Int32) (own_B0 p0) (own_fr p1 p3) (own_to p3))), (.int (f4 (6 : Int32) (own_B0 p0) (own_fr p1 p3) (own_fr p2 p3) (own_to p3)))]))
        by_cases hc37 : (f4 (6 : Int32) (own_B0 p0) (own_fr p1 p3) (own_fr p2 p3) (own_to p3)) = (f2 (6 : Int32) (own_B0 p0) (own_fr p1 p3) (own_to p3))
        · refine own_by (fun _ k => XS.icmpNo X36.here hx rfl (hb hby at_185) rfl (teq hc37).2 k) ?_
          show own_Fin p.tables e below _ (T36.setTop (mkF m 188 #[.val (.int p0), .val (.int p1), .val (.int p2), .val (.int p3), .val (.ref b1), .val (.int (own_to p3)), .val (.int (own_fr p1 p3)), .val (.int (own_fr p2 p3)), .val (.int (f2 (6 : Int32) (own_B0 p0) (own_fr p1 p3) (own_to p3))), .val (.int (0 : Int32)), .val (.int (1 : Int32)), .unset] []))
          refine own_by (fun _ k => XS.iconst X36.here hx rfl (hb hby at_188) k) ?_
          show own_Fin p.tables e below _ (T36.setTop (mkF m 189 #[.val (.int p0), .val (.int p1), .val (.int p2), .val (.int p3), .val (.ref b1), .val (.int (own_to p3)), .val (.int (own_fr p1 p3)), .val (.int (own_fr p2 p3)), .val (.int (f2 (6 : Int32) (own_B0 p0) (own_fr p1 p3) (own_to p3))), .val (.int (0 : Int32)), .val (.int (1 : Int32)), .unset] [(.int (1 : Int32))]))
          refine own_by (fun _ k => XS.goto X36.here hx rfl (pc0 := 189) (pc' := 193) rfl (hb hby at_189) (by decide) (by decide) k) ?_
          show own_Fin p.tables e below _ (T36.setTop (mkF m 193 #[.val (.int p0), .val (.int p1), .val (.int p2), .val (.int p3), .val (.ref b1), .val (.int (own_to p3)), .val (.int (own_fr p1 p3)), .val (.int (own_fr p2 p3)), .val (.int (f2 (6 : Int32) (own_B0 p0) (own_fr p1 p3) (own_to p3))), .val (.int (0 : Int32)), .val (.int (1 : Int32)), .unset] [(.int (1 : Int32))]))
          refine own_by (fun _ k => XS.istore X36.here hx rfl (hb hby at_193) rfl (l' := #[.val (.int p0), .val (.int p1), .val (.int p2), .val (.int p3), .val (.ref b1), .val (.int (own_to p3)), .val (.int (own_fr p1 p3)), .val (.int (own_fr p2 p3)), .val (.int (f2 (6 : Int32) (own_B0 p0) (own_fr p1 p3) (own_to p3))), .val (.int (0 : Int32)), .val (.int (1 : Int32)), .val (.int (1 : Int32))]) rfl k) ?_
          show own_Fin p.tables e below _ (T36.setTop (mkF m 195 #[.val (.int p0), .val (.int p1), .val (.int p2), .val (.int p3), .val (.ref b1), .val (.int (own_to p3)), .val (.int (own_fr p1 p3)), .val (.int (own_fr p2 p3)), .val (.int (f2 (6 : Int32) (own_B0 p0) (own_fr p1 p3) (own_to p3))), .val (.int (0 : Int32)), .val (.int (1 : Int32)), .val (.int (1 : Int32))] []))
          refine own_by (fun _ k => XS.iload X36.here hx rfl (hb hby at_195) rfl k) ?_
          show own_Fin p.tables e below _ (T36.setTop (mkF m 197 #[.val (.int p0), .val (.int p1), .val (.int p2), .val (.int p3), .val (.ref b1), .val (.int (own_to p3)), .val (.int (own_fr p1 p3)), .val (.int (own_fr p2 p3)), .val (.int (f2 (6 : Int32) (own_B0 p0) (own_fr p1 p3) (own_to p3))), .val (.int (0 : Int32)), .val (.int (1 : Int32)), .val (.int (1 : Int32))] [(.int (0 : Int32))]))
          refine own_by (fun _ k => XS.ifYes X36.here hx rfl (pc0 := 197) (pc' := 209) rfl (hb hby at_197) rfl ((if0 _ _).trans (teq (by decide)).1) (by decide) (by decide) k) ?_
          show own_Fin p.tables e below _ (T36.setTop (mkF m 209 #[.val (.int p0), .val (.int p1), .val (.int p2), .val (.int p3), .val (.ref b1), .val (.int (own_to p3)), .val (.int (own_fr p1 p3)), .val (.int (own_fr p2 p3)), .val (.int (f2 (6 : Int32) (own_B0 p0) (own_fr p1 p3) (own_to p3))), .val (.int (0 : Int32)), .val (.int (1 : Int32)), .val (.int (1 : Int32))] []))
          refine own_by (fun _ k => XS.iconst X36.here hx rfl (hb hby at_209) k) ?_
          show own_Fin p.tables e below _ (T36.setTop (mkF m 210 #[.val (.int p0), .val (.int p1), .val (.int p2), .val (.int p3), .val (.ref b1), .val (.int (own_to p3)), .val (.int (own_fr p1 p3)), .val (.int (own_fr p2 p3)), .val (.int (f2 (6 : Int32) (own_B0 p0) (own_fr p1 p3) (own_to p3))), .val (.int (0 : Int32)), .val (.int (1 : Int32)), .val (.int (1 : Int32))] [(.int (0 : Int32))]))
          have ef : f0 p0 p1 p2 p3 = (0 : Int32) := by unfold f0; rw [if_neg hc14, if_neg hc29, if_pos hc35, if_pos hc37]
          exact own_retN X36 hx (t := .boolean) Bd.returns hlk (by simp) (hb hby at_210) (by decide) (by decide) ⟨by rw [ef]; rfl, N36⟩
        · refine own_by (fun _ k => XS.icmpYes X36.here hx rfl (pc0 := 185) (pc' := 192) rfl (hb hby at_185) rfl (feq hc37).2 (by decide) (by decide) k) ?_
          show own_Fin p.tables e below _ (T36.setTop (mkF m 192 #[.val (.int p0), .val (.int p1), .val (.int p2), .val (.int p3), .val (.ref b1), .val (.int (own_to p3)), .val (.int (own_fr p1 p3)), .val (.int (own_fr p2 p3)), .val (.int (f2 (6 : Int32) (own_B0 p0) (own_fr p1 p3) (own_to p3))), .val (.int (0 : Int32)), .val (.int (1 : Int32)), .unset] []))
          refine own_by (fun _ k => XS.iconst X36.here hx rfl (hb hby at_192) k) ?_
          show own_Fin p.tables e below _ (T36.setTop (mkF m 193 #[.val (.int p0), .val (.int p1), .val (.int p2), .val (.int p3), .val (.ref b1), .val (.int (own_to p3)), .val (.int (own_fr p1 p3)), .val (.int (own_fr p2 p3)), .val (.int (f2 (6 : Int32) (own_B0 p0) (own_fr p1 p3) (own_to p3))), .val (.int (0 : Int32)), .val (.int (1 : Int32)), .unset] [(.int (0 : Int32))]))
          refine own_by (fun _ k => XS.istore X36.here hx rfl (hb hby at_193) rfl (l' := #[.val (.int p0), .val (.int p1), .val (.int p2), .val (.int p3), .val (.ref b1), .val (.int (own_to p3)), .val (.int (own_fr p1 p3)), .val (.int (own_fr p2 p3)), .val (.int (f2 (6 : Int32) (own_B0 p0) (own_fr p1 p3) (own_to p3))), .val (.int (0 : Int32)), .val (.int (1 : Int32)), .val (.int (0 : Int32))]) rfl k) ?_
          show own_Fin p.tables e below _ (T36.setTop (mkF m 195 #[.val (.int p0), .val (.int p1), .val (.int p2), .val (.int p3), .val (.ref b1), .val (.int (own_to p3)), .val (.int (own_fr p1 p3)), .val (.int (own_fr p2 p3)), .val (.int (f2 (6 : Int32) (own_B0 p0) (own_fr p1 p3) (own_to p3))), .val (.int (0 : Int32)), .val (.int (1 : Int32)), .val (.int (0 : Int32))] []))
          refine own_by (fun _ k => XS.iload X36.here hx rfl (hb hby at_195) rfl k) ?_
          show own_Fin p.tables e below _ (T36.setTop (mkF m 197 #[.val (.int p0), .val (.int p1), .val (.int p2), .val (.int p3), .val (.ref b1), .val (.int (own_to p3)), .val (.int (own_fr p1 p3)), .val (.int (own_fr p2 p3)), .val (.int (f2 (6 : Int32) (own_B0 p0) (own_fr p1 p3) (own_to p3))), .val (.int (0 : Int32)), .val (.int (1 : Int32)), .val (.int (0 : Int32))] [(.int (0 : Int32))]))
          refine own_by (fun _ k => XS.ifYes X36.here hx rfl (pc0 := 197) (pc' := 209) rfl (hb hby at_197) rfl ((if0 _ _).trans (teq (by decide)).1) (by decide) (by decide) k) ?_
          show own_Fin p.tables e below _ (T36.setTop (mkF m 209 #[.val (.int p0), .val (.int p1), .val (.int p2), .val (.int p3), .val (.ref b1), .val (.int (own_to p3)), .val (.int (own_fr p1 p3)), .val (.int (own_fr p2 p3)), .val (.int (f2 (6 : Int32) (own_B0 p0) (own_fr p1 p3) (own_to p3))), .val (.int (0 : Int32)), .val (.int (1 : Int32)), .val (.int (0 : Int32))] []))
          refine own_by (fun _ k => XS.iconst X36.here hx rfl (hb hby at_209) k) ?_
          show own_Fin p.tables e below _ (T36.setTop (mkF m 210 #[.val (.int p0), .val (.int p1), .val (.int p2), .val (.int p3), .val (.ref b1), .val (.int (own_to p3)), .val (.int (own_fr p1 p3)), .val (.int (own_fr p2 p3)), .val (.int (f2 (6 : Int32) (own_B0 p0) (own_fr p1 p3) (own_to p3))), .val (.int (0 : Int32)), .val (.int (1 : Int32)), .val (.int (0 : Int32))] [(.int (0 : Int32))]))
          have ef : f0 p0 p1 p2 p3 = (0 : Int32) := by unfold f0; rw [if_neg hc14, if_neg hc29, if_pos hc35, if_neg hc37]
          exact own_retN X36 hx (t := .boolean) Bd.returns hlk (by simp) (hb hby at_210) (by decide) (by decide) ⟨by rw [ef]; rfl, N36⟩
      · refine own_by (fun _ k => XS.icmpYes X34.here hx rfl (pc0 := 157) (pc' := 164) rfl (hb hby at_157) rfl (feq hc35).2 (by decide) (by decide) k) ?_
        show own_Fin p.tables e below _ (T34.setTop (mkF m 164 #[.val (.int p0), .val (.int p1), .val (.int p2), .val (.int p3), .val (.ref b1), .val (.int (own_to p3)), .val (.int (own_fr p1 p3)), .val (.int (own_fr p2 p3)), .val (.int (f2 (6 : Int32) (own_B0 p0) (own_fr p1 p3) (own_to p3))), .val (.int (0 : Int32)), .unset, .unset] []))
        refine own_by (fun _ k => XS.iconst X34.here hx rfl (hb hby at_164) k) ?_
        show own_Fin p.tables e below _ (T34.setTop (mkF m 165 #[.val (.int p0), .val (.int p1), .val (.int p2), .val (.int p3), .val (.ref b1), .val (.int (own_to p3)), .val (.int (own_fr p1 p3)), .val (.int (own_fr p2 p3)), .val (.int (f2 (6 : Int32) (own_B0 p0) (own_fr p1 p3) (own_to p3))), .val (.int (0 : Int32)), .unset, .unset] [(.int (0 : Int32))]))
        refine own_by (fun _ k => XS.istore X34.here hx rfl (hb hby at_165) rfl (l' := #[.val (.int p0), .val (.int p1), .val (.int p2), .val (.int p3), .val (.ref b1), .val (.int (own_to p3)), .val (.int (own_fr p1 p3)), .val (.int (own_fr p2 p3)), .val (.int (f2 (6 : Int32) (own_B0 p0) (own_fr p1 p3) (own_to p3))), .val (.int (0 : Int32)), .val (.int (0 : Int32)), .unset]) rfl k) ?_
        show own_Fin p.tables e below _ (T34.setTop (mkF m 167 #[.val (.int p0), .val (.int p1), .val (.int p2), .val (.int p3), .val (.ref b1), .val (.int (own_to p3)), .val (.int (own_fr p1 p3)), .val (.int (own_fr p2 p3)), .val (.int (f2 (6 : Int32) (own_B0 p0) (own_fr p1 p3) (own_to p3))), .val (.int (0 : Int32)), .val (.int (0 : Int32)), .unset] []))
        refine own_by (fun _ k => XS.iload X34.here hx rfl (hb hby at_167) rfl k) ?_
        show own_Fin p.tables e below _ (T34.setTop (mkF m 169 #[.val (.int p0), .val (.int p1), .val (.int p2), .val (.int p3), .val (.ref b1), .val (.int (own_to p3)), .val (.int (own_fr p1 p3)), .val (.int (own_fr p2 p3)), .val (.int (f2 (6 : Int32) (own_B0 p0) (own_fr p1 p3) (own_to p3))), .val (.int (0 : Int32)), .val (.int (0 : Int32)), .unset] [(.int (0 : Int32))]))
        refine own_by (fun _ k => XS.ifYes X34.here hx rfl (pc0 := 169) (pc' := 188) rfl (hb hby at_169) rfl ((if0 _ _).trans (teq (by decide)).1) (by decide) (by decide) k) ?_
        show own_Fin p.tables e below _ (T34.setTop (mkF m 188 #[.val (.int p0), .val (.int p1), .val (.int p2), .val (.int p3), .val (.ref b1), .val (.int (own_to p3)), .val (.int (own_fr p1 p3)), .val (.int (own_fr p2 p3)), .val (.int (f2 (6 : Int32) (own_B0 p0) (own_fr p1 p3) (own_to p3))), .val (.int (0 : Int32)), .val (.int (0 : Int32)), .unset] []))
        refine own_by (fun _ k => XS.iconst X34.here hx rfl (hb hby at_188) k) ?_
        show own_Fin p.tables e below _ (T34.setTop (mkF m 189 #[.val (.int p0), .val (.int p1), .val (.int p2), .val (.int p3), .val (.ref b1), .val (.int (own_to p3)), .val (.int (own_fr p1 p3)), .val (.int (own_fr p2 p3)), .val (.int (f2 (6 : Int32) (own_B0 p0) (own_fr p1 p3) (own_to p3))), .val (.int (0 : Int32)), .val (.int (0 : Int32)), .unset] [(.int (1 : Int32))]))
        refine own_by (fun _ k => XS.goto X34.here hx rfl (pc0 := 189) (pc' := 193) rfl (hb hby at_189) (by decide) (by decide) k) ?_
        show own_Fin p.tables e below _ (T34.setTop (mkF m 193 #[.val (.int p0), .val (.int p1), .val (.int p2), .val (.int p3), .val (.ref b1), .val (.int (own_to p3)), .val (.int (own_fr p1 p3)), .val (.int (own_fr p2 p3)), .val (.int (f2 (6 : Int32) (own_B0 p0) (own_fr p1 p3) (own_to p3))), .val (.int (0 : Int32)), .val (.int (0 : Int32)), .unset] [(.int (1 : Int32))]))
        refine own_by (fun _ k => XS.istore X34.here hx rfl (hb hby at_193) rfl (l' := #[.val (.int p0), .val (.int p1), .val (.int p2), .val (.int p3), .val (.ref b1), .val (.int (own_to p3)), .val (.int (own_fr p1 p3)), .val (.int (own_fr p2 p3)), .val (.int (f2 (6 : Int32) (own_B0 p0) (own_fr p1 p3) (own_to p3))), .val (.int (0 : Int32)), .val (.int (0 : Int32)), .val (.int (1 : Int32))]) rfl k) ?_
        show own_Fin p.tables e below _ (T34.setTop (mkF m 195 #[.val (.int p0), .val (.int p1), .val (.int p2), .val (.int p3), .val (.ref b1), .val (.int (own_to p3)), .val (.int (own_fr p1 p3)), .val (.int (own_fr p2 p3)), .val (.int (f2 (6 : Int32) (own_B0 p0) (own_fr p1 p3) (own_to p3))), .val (.int (0 : Int32)), .val (.int (0 : Int32)), .val (.int (1 : Int32))] []))
        refine own_by (fun _ k => XS.iload X34.here hx rfl (hb hby at_195) rfl k) ?_
        show own_Fin p.tables e below _ (T34.setTop (mkF m 197 #[.val (.int p0), .val (.int p1), .val (.int p2), .val (.int p3), .val (.ref b1), .val (.int (own_to p3)), .val (.int (own_fr p1 p3)), .val (.int (own_fr p2 p3)), .val (.int (f2 (6 : Int32) (own_B0 p0) (own_fr p1 p3) (own_to p3))), .val (.int (0 : Int32)), .val (.int (0 : Int32)), .val (.int (1 : Int32))] [(.int (0 : Int32))]))
        refine own_by (fun _ k => XS.ifYes X34.here hx rfl (pc0 := 197) (pc' := 209) rfl (hb hby at_197) rfl ((if0 _ _).trans (teq (by decide)).1) (by decide) (by decide) k) ?_
        show own_Fin p.tables e below _ (T34.setTop (mkF m 209 #[.val (.int p0), .val (.int p1), .val (.int p2), .val (.int p3), .val (.ref b1), .val (.int (own_to p3)), .val (.int (own_fr p1 p3)), .val (.int (own_fr p2 p3)), .val (.int (f2 (6 : Int32) (own_B0 p0) (own_fr p1 p3) (own_to p3))), .val (.int (0 : Int32)), .val (.int (0 : Int32)), .val (.int (1 : Int32))] []))
        refine own_by (fun _ k => XS.iconst X34.here hx rfl (hb hby at_209) k) ?_
        show own_Fin p.tables e below _ (T34.setTop (mkF m 210 #[.val (.int p0), .val (.int p1), .val (.int p2), .val (.int p3), .val (.ref b1), .val (.int (own_to p3)), .val (.int (own_fr p1 p3)), .val (.int (own_fr p2 p3)), .val (.int (f2 (6 : Int32) (own_B0 p0) (own_fr p1 p3) (own_to p3))), .val (.int (0 : Int32)), .val (.int (0 : Int32)), .val (.int (1 : Int32))] [(.int (0 : Int32))]))
        have ef : f0 p0 p1 p2 p3 = (0 : Int32) := by unfold f0; rw [if_neg hc14, if_neg hc29, if_neg hc35]
        exact own_retN X34 hx (t := .boolean) Bd.returns hlk (by simp) (hb hby at_210) (by decide) (by decide) ⟨by rw [ef]; rfl, N34⟩
theorem own_fin (n : Nat) (v : Int32) (h0 : 0 ≤ v.toInt) (h1 : v.toInt < n) (hn : n ≤ 65536) : ∃ k : Fin n, v = Int32.ofNat k.1 := by
  refine ⟨⟨v.toInt.toNat, by omega⟩, ?_⟩
  apply Int32.toInt_inj.mp
  rw [Int32.toInt_ofNat_of_lt (by show v.toInt.toNat < 2 ^ 31; omega)]
  show v.toInt = ((v.toInt.toNat : Nat) : Int)
  omega
set_option maxHeartbeats 4000000 in
theorem own_A_0_0 (B : Int32 → Int32) : f4 6 B 0 0 0 = f2 6 B 0 0 := by
  simp [f4, f2, f3, f5, own_scan]
set_option maxHeartbeats 4000000 in
theorem own_A_1_0 (B : Int32 → Int32) : f4 6 B 0 0 1 = f2 6 B 0 1 := by
  simp [f4, f2, f3, f5, own_scan]
set_option maxHeartbeats 4000000 in
theorem own_A_1_1 (B : Int32 → Int32) : f4 6 B 1 1 1 = f2 6 B 1 1 := by
  simp [f4, f2, f3, f5, own_scan]
set_option maxHeartbeats 4000000 in
theorem own_A_2_0 (B : Int32 → Int32) : f4 6 B 0 0 2 = f2 6 B 0 2 := by
  by_cases h0 : B 0 = 10 <;> by_cases h1 : B 1 = 10 <;> simp [f4, f2, f3, f5, own_scan, h0, h1]
set_option maxHeartbeats 4000000 in
theorem own_A_2_1 (B : Int32 → Int32) : f4 6 B 1 1 2 = f2 6 B 1 2 := by
  simp [f4, f2, f3, f5, own_scan]
set_option maxHeartbeats 4000000 in
theorem own_A_2_2 (B : Int32 → Int32) : f4 6 B 2 2 2 = f2 6 B 2 2 := by
  simp [f4, f2, f3, f5, own_scan]
set_option maxHeartbeats 4000000 in
theorem own_A_3_0 (B : Int32 → Int32) : f4 6 B 0 0 3 = f2 6 B 0 3 := by
  by_cases h0 : B 0 = 10 <;> by_cases h1 : B 1 = 10 <;> by_cases h2 : B 2 = 10 <;> simp [f4, f2, f3, f5, own_scan, h0, h1, h2] <;> (repeat' split) <;> simp_all
set_option maxHeartbeats 4000000 in
theorem own_A_3_1 (B : Int32 → Int32) : f4 6 B 1 1 3 = f2 6 B 1 3 := by
  by_cases h1 : B 1 = 10 <;> by_cases h2 : B 2 = 10 <;> simp [f4, f2, f3, f5, own_scan, h1, h2]
set_option maxHeartbeats 4000000 in
theorem own_A_3_2 (B : Int32 → Int32) : f4 6 B 2 2 3 = f2 6 B 2 3 := by
  simp [f4, f2, f3, f5, own_scan]
set_option maxHeartbeats 4000000 in
theorem own_A_3_3 (B : Int32 → Int32) : f4 6 B 3 3 3 = f2 6 B 3 3 := by
  simp [f4, f2, f3, f5, own_scan]
set_option maxHeartbeats 4000000 in
theorem own_A_4_0 (B : Int32 → Int32) : f4 6 B 0 0 4 = f2 6 B 0 4 := by
  by_cases h0 : B 0 = 10 <;> by_cases h1 : B 1 = 10 <;> by_cases h2 : B 2 = 10 <;> by_cases h3 : B 3 = 10 <;> simp [f4, f2, f3, f5, own_scan, h0, h1, h2, h3] <;> (repeat' split) <;> simp_all
set_option maxHeartbeats 4000000 in
theorem own_A_4_1 (B : Int32 → Int32) : f4 6 B 1 1 4 = f2 6 B 1 4 := by
  by_cases h1 : B 1 = 10 <;> by_cases h2 : B 2 = 10 <;> by_cases h3 : B 3 = 10 <;> simp [f4, f2, f3, f5, own_scan, h1, h2, h3] <;> (repeat' split) <;> simp_all
set_option maxHeartbeats 4000000 in
theorem own_A_4_2 (B : Int32 → Int32) : f4 6 B 2 2 4 = f2 6 B 2 4 := by
  by_cases h2 : B 2 = 10 <;> by_cases h3 : B 3 = 10 <;> simp [f4, f2, f3, f5, own_scan, h2, h3]
set_option maxHeartbeats 4000000 in
theorem own_A_4_3 (B : Int32 → Int32) : f4 6 B 3 3 4 = f2 6 B 3 4 := by
  simp [f4, f2, f3, f5, own_scan]
set_option maxHeartbeats 4000000 in
theorem own_A_4_4 (B : Int32 → Int32) : f4 6 B 4 4 4 = f2 6 B 4 4 := by
  simp [f4, f2, f3, f5, own_scan]
set_option maxHeartbeats 4000000 in
theorem own_A_5_0 (B : Int32 → Int32) : f4 6 B 0 0 5 = f2 6 B 0 5 := by
  by_cases h0 : B 0 = 10 <;> by_cases h1 : B 1 = 10 <;> by_cases h2 : B 2 = 10 <;> by_cases h3 : B 3 = 10 <;> by_cases h4 : B 4 = 10 <;> simp [f4, f2, f3, f5, own_scan, h0, h1, h2, h3, h4] <;> (repeat' split) <;> simp_all
set_option maxHeartbeats 4000000 in
theorem own_A_5_1 (B : Int32 → Int32) : f4 6 B 1 1 5 = f2 6 B 1 5 := by
  by_cases h1 : B 1 = 10 <;> by_cases h2 : B 2 = 10 <;> by_cases h3 : B 3 = 10 <;> by_cases h4 : B 4 = 10 <;> simp [f4, f2, f3, f5, own_scan, h1, h2, h3, h4] <;> (repeat' split) <;> simp_all
set_option maxHeartbeats 4000000 in
theorem own_A_5_2 (B : Int32 → Int32) : f4 6 B 2 2 5 = f2 6 B 2 5 := by
  by_cases h2 : B 2 = 10 <;> by_cases h3 : B 3 = 10 <;> by_cases h4 : B 4 = 10 <;> simp [f4, f2, f3, f5, own_scan, h2, h3, h4] <;> (repeat' split) <;> simp_all
set_option maxHeartbeats 4000000 in
theorem own_A_5_3 (B : Int32 → Int32) : f4 6 B 3 3 5 = f2 6 B 3 5 := by
  by_cases h3 : B 3 = 10 <;> by_cases h4 : B 4 = 10 <;> simp [f4, f2, f3, f5, own_scan, h3, h4]
set_option maxHeartbeats 4000000 in
theorem own_A_5_4 (B : Int32 → Int32) : f4 6 B 4 4 5 = f2 6 B 4 5 := by
  simp [f4, f2, f3, f5, own_scan]
set_option maxHeartbeats 4000000 in
theorem own_A_5_5 (B : Int32 → Int32) : f4 6 B 5 5 5 = f2 6 B 5 5 := by
  simp [f4, f2, f3, f5, own_scan]
set_option maxHeartbeats 4000000 in
theorem own_A_6_0 (B : Int32 → Int32) : f4 6 B 0 0 6 = f2 6 B 0 6 := by
  by_cases h0 : B 0 = 10 <;> by_cases h1 : B 1 = 10 <;> by_cases h2 : B 2 = 10 <;> by_cases h3 : B 3 = 10 <;> by_cases h4 : B 4 = 10 <;> by_cases h5 : B 5 = 10 <;> simp [f4, f2, f3, f5, own_scan, h0, h1, h2, h3, h4, h5] <;> (repeat' split) <;> simp_all
set_option maxHeartbeats 4000000 in
theorem own_A_6_1 (B : Int32 → Int32) : f4 6 B 1 1 6 = f2 6 B 1 6 := by
  by_cases h1 : B 1 = 10 <;> by_cases h2 : B 2 = 10 <;> by_cases h3 : B 3 = 10 <;> by_cases h4 : B 4 = 10 <;> by_cases h5 : B 5 = 10 <;> simp [f4, f2, f3, f5, own_scan, h1, h2, h3, h4, h5] <;> (repeat' split) <;> simp_all
set_option maxHeartbeats 4000000 in
theorem own_A_6_2 (B : Int32 → Int32) : f4 6 B 2 2 6 = f2 6 B 2 6 := by
  by_cases h2 : B 2 = 10 <;> by_cases h3 : B 3 = 10 <;> by_cases h4 : B 4 = 10 <;> by_cases h5 : B 5 = 10 <;> simp [f4, f2, f3, f5, own_scan, h2, h3, h4, h5] <;> (repeat' split) <;> simp_all
set_option maxHeartbeats 4000000 in
theorem own_A_6_3 (B : Int32 → Int32) : f4 6 B 3 3 6 = f2 6 B 3 6 := by
  by_cases h3 : B 3 = 10 <;> by_cases h4 : B 4 = 10 <;> by_cases h5 : B 5 = 10 <;> simp [f4, f2, f3, f5, own_scan, h3, h4, h5] <;> (repeat' split) <;> simp_all
set_option maxHeartbeats 4000000 in
theorem own_A_6_4 (B : Int32 → Int32) : f4 6 B 4 4 6 = f2 6 B 4 6 := by
  by_cases h4 : B 4 = 10 <;> by_cases h5 : B 5 = 10 <;> simp [f4, f2, f3, f5, own_scan, h4, h5]
set_option maxHeartbeats 4000000 in
theorem own_A_6_5 (B : Int32 → Int32) : f4 6 B 5 5 6 = f2 6 B 5 6 := by
  simp [f4, f2, f3, f5, own_scan]
set_option maxHeartbeats 4000000 in
theorem own_A_6_6 (B : Int32 → Int32) : f4 6 B 6 6 6 = f2 6 B 6 6 := by
  simp [f4, f2, f3, f5, own_scan]
set_option maxHeartbeats 4000000 in
theorem own_S_3_0_3 (B : Int32 → Int32) (q : f2 6 B 0 3 = -1) : f4 6 B 0 3 3 = f4 6 B 0 0 3 := by
  revert q
  by_cases h0 : B 0 = 10 <;> by_cases h1 : B 1 = 10 <;> by_cases h2 : B 2 = 10 <;> simp [f2, f3, f4, f5, own_scan, h0, h1, h2] <;> (repeat' split) <;> simp_all
set_option maxHeartbeats 4000000 in
theorem own_S_4_0_3 (B : Int32 → Int32) (q : f2 6 B 0 3 = -1) : f4 6 B 0 3 4 = f4 6 B 0 0 4 := by
  revert q
  by_cases h0 : B 0 = 10 <;> by_cases h1 : B 1 = 10 <;> by_cases h2 : B 2 = 10 <;> by_cases h3 : B 3 = 10 <;> simp [f2, f3, f4, f5, own_scan, h0, h1, h2, h3] <;> (repeat' split) <;> simp_all
set_option maxHeartbeats 4000000 in
theorem own_S_4_0_4 (B : Int32 → Int32) (q : f2 6 B 0 4 = -1) : f4 6 B 0 4 4 = f4 6 B 0 0 4 := by
  revert q
  by_cases h0 : B 0 = 10 <;> by_cases h1 : B 1 = 10 <;> by_cases h2 : B 2 = 10 <;> by_cases h3 : B 3 = 10 <;> simp [f2, f3, f4, f5, own_scan, h0, h1, h2, h3] <;> (repeat' split) <;> simp_all
set_option maxHeartbeats 4000000 in
theorem own_S_4_1_4 (B : Int32 → Int32) (q : f2 6 B 1 4 = -1) : f4 6 B 1 4 4 = f4 6 B 1 1 4 := by
  revert q
  by_cases h1 : B 1 = 10 <;> by_cases h2 : B 2 = 10 <;> by_cases h3 : B 3 = 10 <;> simp [f2, f3, f4, f5, own_scan, h1, h2, h3] <;> (repeat' split) <;> simp_all
set_option maxHeartbeats 4000000 in
theorem own_S_5_0_3 (B : Int32 → Int32) (q : f2 6 B 0 3 = -1) : f4 6 B 0 3 5 = f4 6 B 0 0 5 := by
  revert q
  by_cases h0 : B 0 = 10 <;> by_cases h1 : B 1 = 10 <;> by_cases h2 : B 2 = 10 <;> by_cases h3 : B 3 = 10 <;> by_cases h4 : B 4 = 10 <;> simp [f2, f3, f4, f5, own_scan, h0, h1, h2, h3, h4] <;> (repeat' split) <;> simp_all
set_option maxHeartbeats 4000000 in
theorem own_S_5_0_4 (B : Int32 → Int32) (q : f2 6 B 0 4 = -1) : f4 6 B 0 4 5 = f4 6 B 0 0 5 := by
  revert q
  by_cases h0 : B 0 = 10 <;> by_cases h1 : B 1 = 10 <;> by_cases h2 : B 2 = 10 <;> by_cases h3 : B 3 = 10 <;> by_cases h4 : B 4 = 10 <;> simp [f2, f3, f4, f5, own_scan, h0, h1, h2, h3, h4] <;> (repeat' split) <;> simp_all
set_option maxHeartbeats 4000000 in
theorem own_S_5_0_5 (B : Int32 → Int32) (q : f2 6 B 0 5 = -1) : f4 6 B 0 5 5 = f4 6 B 0 0 5 := by
  revert q
  by_cases h0 : B 0 = 10 <;> by_cases h1 : B 1 = 10 <;> by_cases h2 : B 2 = 10 <;> by_cases h3 : B 3 = 10 <;> by_cases h4 : B 4 = 10 <;> simp [f2, f3, f4, f5, own_scan, h0, h1, h2, h3, h4] <;> (repeat' split) <;> simp_all
set_option maxHeartbeats 4000000 in
theorem own_S_5_1_4 (B : Int32 → Int32) (q : f2 6 B 1 4 = -1) : f4 6 B 1 4 5 = f4 6 B 1 1 5 := by
  revert q
  by_cases h1 : B 1 = 10 <;> by_cases h2 : B 2 = 10 <;> by_cases h3 : B 3 = 10 <;> by_cases h4 : B 4 = 10 <;> simp [f2, f3, f4, f5, own_scan, h1, h2, h3, h4] <;> (repeat' split) <;> simp_all
set_option maxHeartbeats 4000000 in
theorem own_S_5_1_5 (B : Int32 → Int32) (q : f2 6 B 1 5 = -1) : f4 6 B 1 5 5 = f4 6 B 1 1 5 := by
  revert q
  by_cases h1 : B 1 = 10 <;> by_cases h2 : B 2 = 10 <;> by_cases h3 : B 3 = 10 <;> by_cases h4 : B 4 = 10 <;> simp [f2, f3, f4, f5, own_scan, h1, h2, h3, h4] <;> (repeat' split) <;> simp_all
set_option maxHeartbeats 4000000 in
theorem own_S_5_2_5 (B : Int32 → Int32) (q : f2 6 B 2 5 = -1) : f4 6 B 2 5 5 = f4 6 B 2 2 5 := by
  revert q
  by_cases h2 : B 2 = 10 <;> by_cases h3 : B 3 = 10 <;> by_cases h4 : B 4 = 10 <;> simp [f2, f3, f4, f5, own_scan, h2, h3, h4] <;> (repeat' split) <;> simp_all
set_option maxHeartbeats 4000000 in
theorem own_S_6_0_3 (B : Int32 → Int32) (q : f2 6 B 0 3 = -1) : f4 6 B 0 3 6 = f4 6 B 0 0 6 := by
  revert q
  by_cases h0 : B 0 = 10 <;> by_cases h1 : B 1 = 10 <;> by_cases h2 : B 2 = 10 <;> by_cases h3 : B 3 = 10 <;> by_cases h4 : B 4 = 10 <;> by_cases h5 : B 5 = 10 <;> simp [f2, f3, f4, f5, own_scan, h0, h1, h2, h3, h4, h5] <;> (repeat' split) <;> simp_all
set_option maxHeartbeats 4000000 in
theorem own_S_6_0_4 (B : Int32 → Int32) (q : f2 6 B 0 4 = -1) : f4 6 B 0 4 6 = f4 6 B 0 0 6 := by
  revert q
  by_cases h0 : B 0 = 10 <;> by_cases h1 : B 1 = 10 <;> by_cases h2 : B 2 = 10 <;> by_cases h3 : B 3 = 10 <;> by_cases h4 : B 4 = 10 <;> by_cases h5 : B 5 = 10 <;> simp [f2, f3, f4, f5, own_scan, h0, h1, h2, h3, h4, h5] <;> (repeat' split) <;> simp_all
set_option maxHeartbeats 4000000 in
theorem own_S_6_0_5 (B : Int32 → Int32) (q : f2 6 B 0 5 = -1) : f4 6 B 0 5 6 = f4 6 B 0 0 6 := by
  revert q
  by_cases h0 : B 0 = 10 <;> by_cases h1 : B 1 = 10 <;> by_cases h2 : B 2 = 10 <;> by_cases h3 : B 3 = 10 <;> by_cases h4 : B 4 = 10 <;> by_cases h5 : B 5 = 10 <;> simp [f2, f3, f4, f5, own_scan, h0, h1, h2, h3, h4, h5] <;> (repeat' split) <;> simp_all
set_option maxHeartbeats 4000000 in
theorem own_S_6_0_6 (B : Int32 → Int32) (q : f2 6 B 0 6 = -1) : f4 6 B 0 6 6 = f4 6 B 0 0 6 := by
  revert q
  by_cases h0 : B 0 = 10 <;> by_cases h1 : B 1 = 10 <;> by_cases h2 : B 2 = 10 <;> by_cases h3 : B 3 = 10 <;> by_cases h4 : B 4 = 10 <;> by_cases h5 : B 5 = 10 <;> simp [f2, f3, f4, f5, own_scan, h0, h1, h2, h3, h4, h5] <;> (repeat' split) <;> simp_all
set_option maxHeartbeats 4000000 in
theorem own_S_6_1_4 (B : Int32 → Int32) (q : f2 6 B 1 4 = -1) : f4 6 B 1 4 6 = f4 6 B 1 1 6 := by
  revert q
  by_cases h1 : B 1 = 10 <;> by_cases h2 : B 2 = 10 <;> by_cases h3 : B 3 = 10 <;> by_cases h4 : B 4 = 10 <;> by_cases h5 : B 5 = 10 <;> simp [f2, f3, f4, f5, own_scan, h1, h2, h3, h4, h5] <;> (repeat' split) <;> simp_all
set_option maxHeartbeats 4000000 in
theorem own_S_6_1_5 (B : Int32 → Int32) (q : f2 6 B 1 5 = -1) : f4 6 B 1 5 6 = f4 6 B 1 1 6 := by
  revert q
  by_cases h1 : B 1 = 10 <;> by_cases h2 : B 2 = 10 <;> by_cases h3 : B 3 = 10 <;> by_cases h4 : B 4 = 10 <;> by_cases h5 : B 5 = 10 <;> simp [f2, f3, f4, f5, own_scan, h1, h2, h3, h4, h5] <;> (repeat' split) <;> simp_all
set_option maxHeartbeats 4000000 in
theorem own_S_6_1_6 (B : Int32 → Int32) (q : f2 6 B 1 6 = -1) : f4 6 B 1 6 6 = f4 6 B 1 1 6 := by
  revert q
  by_cases h1 : B 1 = 10 <;> by_cases h2 : B 2 = 10 <;> by_cases h3 : B 3 = 10 <;> by_cases h4 : B 4 = 10 <;> by_cases h5 : B 5 = 10 <;> simp [f2, f3, f4, f5, own_scan, h1, h2, h3, h4, h5] <;> (repeat' split) <;> simp_all
set_option maxHeartbeats 4000000 in
theorem own_S_6_2_5 (B : Int32 → Int32) (q : f2 6 B 2 5 = -1) : f4 6 B 2 5 6 = f4 6 B 2 2 6 := by
  revert q
  by_cases h2 : B 2 = 10 <;> by_cases h3 : B 3 = 10 <;> by_cases h4 : B 4 = 10 <;> by_cases h5 : B 5 = 10 <;> simp [f2, f3, f4, f5, own_scan, h2, h3, h4, h5] <;> (repeat' split) <;> simp_all
set_option maxHeartbeats 4000000 in
theorem own_S_6_2_6 (B : Int32 → Int32) (q : f2 6 B 2 6 = -1) : f4 6 B 2 6 6 = f4 6 B 2 2 6 := by
  revert q
  by_cases h2 : B 2 = 10 <;> by_cases h3 : B 3 = 10 <;> by_cases h4 : B 4 = 10 <;> by_cases h5 : B 5 = 10 <;> simp [f2, f3, f4, f5, own_scan, h2, h3, h4, h5] <;> (repeat' split) <;> simp_all
set_option maxHeartbeats 4000000 in
theorem own_S_6_3_6 (B : Int32 → Int32) (q : f2 6 B 3 6 = -1) : f4 6 B 3 6 6 = f4 6 B 3 3 6 := by
  revert q
  by_cases h3 : B 3 = 10 <;> by_cases h4 : B 4 = 10 <;> by_cases h5 : B 5 = 10 <;> simp [f2, f3, f4, f5, own_scan, h3, h4, h5] <;> (repeat' split) <;> simp_all
theorem own_A (B : Int32 → Int32) (to fr : Int32) (h : (to, fr) ∈ [((0 : Int32), (0 : Int32)), ((1 : Int32), (0 : Int32)), ((1 : Int32), (1 : Int32)), ((2 : Int32), (0 : Int32)), ((2 : Int32), (1 : Int32)), ((2 : Int32), (2 : Int32)), ((3 : Int32), (0 : Int32)), ((3 : Int32), (1 : Int32)), ((3 : Int32), (2 : Int32)), ((3 : Int32), (3 : Int32)), ((4 : Int32), (0 : Int32)), ((4 : Int32), (1 : Int32)), ((4 : Int32), (2 : Int32)), ((4 : Int32), (3 : Int32)), ((4 : Int32), (4 : Int32)), ((5 : Int32), (0 : Int32)), ((5 : Int32), (1 : Int32)), ((5 : Int32), (2 : Int32)), ((5 : Int32), (3 : Int32)), ((5 : Int32), (4 : Int32)), ((5 : Int32), (5 : Int32)), ((6 : Int32), (0 : Int32)), ((6 : Int32), (1 : Int32)), ((6 : Int32), (2 : Int32)), ((6 : Int32), (3 : Int32)), ((6 : Int32), (4 : Int32)), ((6 : Int32), (5 : Int32)), ((6 : Int32), (6 : Int32))]) : f4 6 B fr fr to = f2 6 B fr to := by
  simp only [List.mem_cons, List.not_mem_nil, or_false, Prod.mk.injEq] at h
  rcases h with ⟨rfl, rfl⟩ | ⟨rfl, rfl⟩ | ⟨rfl, rfl⟩ | ⟨rfl, rfl⟩ | ⟨rfl, rfl⟩ | ⟨rfl, rfl⟩ | ⟨rfl, rfl⟩ | ⟨rfl, rfl⟩ | ⟨rfl, rfl⟩ | ⟨rfl, rfl⟩ | ⟨rfl, rfl⟩ | ⟨rfl, rfl⟩ | ⟨rfl, rfl⟩ | ⟨rfl, rfl⟩ | ⟨rfl, rfl⟩ | ⟨rfl, rfl⟩ | ⟨rfl, rfl⟩ | ⟨rfl, rfl⟩ | ⟨rfl, rfl⟩ | ⟨rfl, rfl⟩ | ⟨rfl, rfl⟩ | ⟨rfl, rfl⟩ | ⟨rfl, rfl⟩ | ⟨rfl, rfl⟩ | ⟨rfl, rfl⟩ | ⟨rfl, rfl⟩ | ⟨rfl, rfl⟩ | ⟨rfl, rfl⟩
  · exact own_A_0_0 B
  · exact own_A_1_0 B
  · exact own_A_1_1 B
  · exact own_A_2_0 B
  · exact own_A_2_1 B
  · exact own_A_2_2 B
  · exact own_A_3_0 B
  · exact own_A_3_1 B
  · exact own_A_3_2 B
  · exact own_A_3_3 B
  · exact own_A_4_0 B
  · exact own_A_4_1 B
  · exact own_A_4_2 B
  · exact own_A_4_3 B
  · exact own_A_4_4 B
  · exact own_A_5_0 B
  · exact own_A_5_1 B
  · exact own_A_5_2 B
  · exact own_A_5_3 B
  · exact own_A_5_4 B
  · exact own_A_5_5 B
  · exact own_A_6_0 B
  · exact own_A_6_1 B
  · exact own_A_6_2 B
  · exact own_A_6_3 B
  · exact own_A_6_4 B
  · exact own_A_6_5 B
  · exact own_A_6_6 B
theorem own_S (B : Int32 → Int32) (to fr sc : Int32) (h : (to, fr, sc) ∈ [((3 : Int32), (0 : Int32), (3 : Int32)), ((4 : Int32), (0 : Int32), (3 : Int32)), ((4 : Int32), (0 : Int32), (4 : Int32)), ((4 : Int32), (1 : Int32), (4 : Int32)), ((5 : Int32), (0 : Int32), (3 : Int32)), ((5 : Int32), (0 : Int32), (4 : Int32)), ((5 : Int32), (0 : Int32), (5 : Int32)), ((5 : Int32), (1 : Int32), (4 : Int32)), ((5 : Int32), (1 : Int32), (5 : Int32)), ((5 : Int32), (2 : Int32), (5 : Int32)), ((6 : Int32), (0 : Int32), (3 : Int32)), ((6 : Int32), (0 : Int32), (4 : Int32)), ((6 : Int32), (0 : Int32), (5 : Int32)), ((6 : Int32), (0 : Int32), (6 : Int32)), ((6 : Int32), (1 : Int32), (4 : Int32)), ((6 : Int32), (1 : Int32), (5 : Int32)), ((6 : Int32), (1 : Int32), (6 : Int32)), ((6 : Int32), (2 : Int32), (5 : Int32)), ((6 : Int32), (2 : Int32), (6 : Int32)), ((6 : Int32), (3 : Int32), (6 : Int32))]) (q : f2 6 B fr sc = -1) : f4 6 B fr sc to = f4 6 B fr fr to := by
  simp only [List.mem_cons, List.not_mem_nil, or_false, Prod.mk.injEq] at h
  rcases h with ⟨rfl, rfl, rfl⟩ | ⟨rfl, rfl, rfl⟩ | ⟨rfl, rfl, rfl⟩ | ⟨rfl, rfl, rfl⟩ | ⟨rfl, rfl, rfl⟩ | ⟨rfl, rfl, rfl⟩ | ⟨rfl, rfl, rfl⟩ | ⟨rfl, rfl, rfl⟩ | ⟨rfl, rfl, rfl⟩ | ⟨rfl, rfl, rfl⟩ | ⟨rfl, rfl, rfl⟩ | ⟨rfl, rfl, rfl⟩ | ⟨rfl, rfl, rfl⟩ | ⟨rfl, rfl, rfl⟩ | ⟨rfl, rfl, rfl⟩ | ⟨rfl, rfl, rfl⟩ | ⟨rfl, rfl, rfl⟩ | ⟨rfl, rfl, rfl⟩ | ⟨rfl, rfl, rfl⟩ | ⟨rfl, rfl, rfl⟩
  · exact own_S_3_0_3 B q
  · exact own_S_4_0_3 B q
  · exact own_S_4_0_4 B q
  · exact own_S_4_1_4 B q
  · exact own_S_5_0_3 B q
  · exact own_S_5_0_4 B q
  · exact own_S_5_0_5 B q
  · exact own_S_5_1_4 B q
  · exact own_S_5_1_5 B q
  · exact own_S_5_2_5 B q
  · exact own_S_6_0_3 B q
  · exact own_S_6_0_4 B q
  · exact own_S_6_0_5 B q
  · exact own_S_6_0_6 B q
  · exact own_S_6_1_4 B q
  · exact own_S_6_1_5 B q
  · exact own_S_6_1_6 B q
  · exact own_S_6_2_5 B q
  · exact own_S_6_2_6 B q
  · exact own_S_6_3_6 B q
theorem own_P : ∀ (i j : Fin 7), j.1 ≤ i.1 → (Int32.ofNat i.1, Int32.ofNat j.1) ∈ [((0 : Int32), (0 : Int32)), ((1 : Int32), (0 : Int32)), ((1 : Int32), (1 : Int32)), ((2 : Int32), (0 : Int32)), ((2 : Int32), (1 : Int32)), ((2 : Int32), (2 : Int32)), ((3 : Int32), (0 : Int32)), ((3 : Int32), (1 : Int32)), ((3 : Int32), (2 : Int32)), ((3 : Int32), (3 : Int32)), ((4 : Int32), (0 : Int32)), ((4 : Int32), (1 : Int32)), ((4 : Int32), (2 : Int32)), ((4 : Int32), (3 : Int32)), ((4 : Int32), (4 : Int32)), ((5 : Int32), (0 : Int32)), ((5 : Int32), (1 : Int32)), ((5 : Int32), (2 : Int32)), ((5 : Int32), (3 : Int32)), ((5 : Int32), (4 : Int32)), ((5 : Int32), (5 : Int32)), ((6 : Int32), (0 : Int32)), ((6 : Int32), (1 : Int32)), ((6 : Int32), (2 : Int32)), ((6 : Int32), (3 : Int32)), ((6 : Int32), (4 : Int32)), ((6 : Int32), (5 : Int32)), ((6 : Int32), (6 : Int32))] := by decide +kernel
theorem own_Qb : ∀ (i j k : Fin 7), (!(decide (j.1 ≤ i.1) && decide (k.1 ≤ i.1)) || ([((3 : Int32), (0 : Int32), (3 : Int32)), ((4 : Int32), (0 : Int32), (3 : Int32)), ((4 : Int32), (0 : Int32), (4 : Int32)), ((4 : Int32), (1 : Int32), (4 : Int32)), ((5 : Int32), (0 : Int32), (3 : Int32)), ((5 : Int32), (0 : Int32), (4 : Int32)), ((5 : Int32), (0 : Int32), (5 : Int32)), ((5 : Int32), (1 : Int32), (4 : Int32)), ((5 : Int32), (1 : Int32), (5 : Int32)), ((5 : Int32), (2 : Int32), (5 : Int32)), ((6 : Int32), (0 : Int32), (3 : Int32)), ((6 : Int32), (0 : Int32), (4 : Int32)), ((6 : Int32), (0 : Int32), (5 : Int32)), ((6 : Int32), (0 : Int32), (6 : Int32)), ((6 : Int32), (1 : Int32), (4 : Int32)), ((6 : Int32), (1 : Int32), (5 : Int32)), ((6 : Int32), (1 : Int32), (6 : Int32)), ((6 : Int32), (2 : Int32), (5 : Int32)), ((6 : Int32), (2 : Int32), (6 : Int32)), ((6 : Int32), (3 : Int32), (6 : Int32))].contains (Int32.ofNat i.1, Int32.ofNat j.1, Int32.ofNat k.1) || decide (f5 (Int32.ofNat j.1) (Int32.ofNat k.1 - 2) = Int32.ofNat j.1))) = true := by decide +kernel
theorem own_Q (i j k : Fin 7) (h1 : j.1 ≤ i.1) (h2 : k.1 ≤ i.1) : (Int32.ofNat i.1, Int32.ofNat j.1, Int32.ofNat k.1) ∈ [((3 : Int32), (0 : Int32), (3 : Int32)), ((4 : Int32), (0 : Int32), (3 : Int32)), ((4 : Int32), (0 : Int32), (4 : Int32)), ((4 : Int32), (1 : Int32), (4 : Int32)), ((5 : Int32), (0 : Int32), (3 : Int32)), ((5 : Int32), (0 : Int32), (4 : Int32)), ((5 : Int32), (0 : Int32), (5 : Int32)), ((5 : Int32), (1 : Int32), (4 : Int32)), ((5 : Int32), (1 : Int32), (5 : Int32)), ((5 : Int32), (2 : Int32), (5 : Int32)), ((6 : Int32), (0 : Int32), (3 : Int32)), ((6 : Int32), (0 : Int32), (4 : Int32)), ((6 : Int32), (0 : Int32), (5 : Int32)), ((6 : Int32), (0 : Int32), (6 : Int32)), ((6 : Int32), (1 : Int32), (4 : Int32)), ((6 : Int32), (1 : Int32), (5 : Int32)), ((6 : Int32), (1 : Int32), (6 : Int32)), ((6 : Int32), (2 : Int32), (5 : Int32)), ((6 : Int32), (2 : Int32), (6 : Int32)), ((6 : Int32), (3 : Int32), (6 : Int32))] ∨ f5 (Int32.ofNat j.1) (Int32.ofNat k.1 - 2) = Int32.ofNat j.1 := by
  have q := own_Qb i j k
  rw [decide_eq_true h1, decide_eq_true h2] at q
  simp only [Bool.and_self, Bool.not_true, Bool.false_or, Bool.or_eq_true] at q
  rcases q with u | u
  · exact Or.inl (List.contains_iff_mem.mp u)
  · exact Or.inr (of_decide_eq_true u)
theorem own_N : ∀ k : Fin 7, (Int32.ofNat k.1).toInt = k.1 := by decide +kernel
theorem own_F : ∀ j : Fin 7, f5 (Int32.ofNat j.1) (Int32.ofNat j.1 - 2) = Int32.ofNat j.1 := by decide +kernel
theorem own_core (B : Int32 → Int32) (to fr sc : Int32) (h0 : 0 ≤ to.toInt) (h1 : to.toInt ≤ 6) (h2 : 0 ≤ fr.toInt) (h3 : fr.toInt ≤ to.toInt) (h4 : 0 ≤ sc.toInt) (h5 : sc.toInt ≤ to.toInt) :
    f4 6 B fr fr to = f2 6 B fr to ∧ (f2 6 B fr sc = -1 → f4 6 B fr sc to = f2 6 B fr to) := by
  obtain ⟨i, rfl⟩ := own_fin 7 to (by omega) (by omega) (by decide)
  obtain ⟨j, rfl⟩ := own_fin 7 fr (by omega) (by omega) (by decide)
  obtain ⟨k, rfl⟩ := own_fin 7 sc (by omega) (by omega) (by decide)
  rw [own_N] at *
  have a := own_A B _ _ (own_P i j (by rw [own_N] at *; omega))
  refine ⟨a, fun q => ?_⟩
  rw [← a]
  rcases own_Q i j k (by rw [own_N] at *; omega) (by rw [own_N] at *; omega) with u | u
  · exact own_S B _ _ _ u q
  · unfold f4
    rw [u, own_F]
theorem own_law (p0 p1 p2 p3 : Int32) : f0 p0 p1 p2 p3 = 1 := by
  have r3 := own_r1 p3
  have r1 := own_r2 p1 p3
  have r2 := own_r2 p2 p3
  unfold f0
  generalize own_to p3 = to at *
  generalize own_fr p1 p3 = fr at *
  generalize own_fr p2 p3 = sc at *
  have k := fun B => own_core B to fr sc (by omega) (by omega) (by omega) (by omega) (by omega) (by omega)
  generalize own_upd (own_B0 p0) _ _ = B1
  generalize own_B0 p0 = B2
  obtain ⟨k1, k2⟩ := k B1
  obtain ⟨k3, k4⟩ := k B2
  repeat' split
  all_goals first | rfl | (exfalso; simp_all; done)
set_option maxRecDepth 65536 in
set_option maxHeartbeats 40000000 in
theorem comes_1 {Post : Tables → Env → Array Value → State → Outcome → State → Prop} (hpost : ∀ tb e args s v u, (limb_1_1.after args s (.returned v) u = true ∧ limb_1_2.after args s (.returned v) u = true ∧ True) → FrameEnd s (.returned v) u (Jvm.fieldLocs frame_1_writes args s ++ Jvm.arrayLocs frame_1_arrays args s ++ Jvm.staticLocs frame_1_statics s) 16 128 → Post tb e args s (.returned v) u) :
    ArmFor flags0 classFile x code maxLocals ret World_1 tables_1 room_1 Calls_1 rest_1 Pre_1 Post := by
  intro l hfl _ _ p e ha hc hk s m args below hf hA hF happ hP
  obtain ⟨hcalls, hrest, hpre⟩ := hP
  obtain ⟨-, -, -, hnamed, -, -, -, hat⟩ := (Spec.applies_iff hf).mp happ
  obtain ⟨hg, hn⟩ := and_e (Cond.before_iff.mp (show (Jvm.Cond.and given_1 narrow_1).before args s = true from hpre))
  obtain ⟨c0, r0⟩ := and_e hg
  obtain ⟨c1, r1⟩ := and_e r0
  obtain ⟨c2, r2⟩ := and_e r1
  obtain ⟨c3, r3⟩ := and_e r2
  obtain ⟨w0, w1, w2, w3, rfl⟩ : ∃ w0 w1 w2 w3 : Value, args = #[w0, w1, w2, w3] := by
    have hs : args.size = 4 := by simpa [Cond.value, given_1] using c0
    obtain ⟨L⟩ := args
    match L, hs with
    | [w0, w1, w2, w3], _ => exact ⟨w0, w1, w2, w3, rfl⟩
  have hw := fun d (hd : d ∈ tables_1) => atoms_spec (ws := Jvm.Cond.code x code maxLocals ret :: tables_1) hat d (List.mem_cons_of_mem _ hd)
  obtain ⟨i0, ei0⟩ := is_v c1
  obtain rfl : w0 = (.int i0) := Option.some.inj ei0
  obtain ⟨i1, ei1⟩ := is_v c2
  obtain rfl : w1 = (.int i1) := Option.some.inj ei1
  obtain ⟨i2, ei2⟩ := is_v c3
  obtain rfl : w2 = (.int i2) := Option.some.inj ei2
  obtain ⟨i3, ei3⟩ := is_v r3
  obtain rfl : w3 = (.int i3) := Option.some.inj ei3
  obtain ⟨n, o, h1, h2, h3, _, L, rfl, ⟨rfl, N⟩, hq⟩ := rm0 l s _ hw tables_1 i0 i1 i2 i3 s.heap s.heap.size (Nat.le_refl _)  p e ha hc hk s m _ below hf ((Spec.applies_iff_loose hf).mp happ).1 ⟨rfl, State.Warmed39.refl s, rfl⟩ trivial
  refine ⟨n, _, h1, h2, h3, hpost _ _ _ _ _ _ ⟨Cond.after_iff.mpr rfl, Cond.after_iff.mpr (eq_i res_at (Term.int_eval (1)) (congrArg Value.int (own_law i0 i1 i2 i3))), trivial⟩ ⟨hq.1, hq.2.1, (hq.2.2.sift fun y hy => Or.inr (N y hy)).mono (by decide) (by decide)⟩⟩
theorem main_1_1 : Claimed_1_1 := comes_1 fun _ _ _ _ _ _ h hF => ⟨h.1, hF⟩
theorem main_1_2 : Claimed_1_2 := comes_1 fun _ _ _ _ _ _ h hF => ⟨h.2.1, hF⟩
end Jvm.Pilot.@@N@@
namespace Jvm.Pilot.@@N@@
open Jvm Jvm.ClassFile Sem Op Lib Jvm.Free Jvm.Stand Jvm.Pilot.@@N@@.Jvm.D
/-! MADE BY PROGRAM (witnessworld.py) out of the Statement's table words and the real class files: 10 classes; the members and pool entries that the words name. The judged class is class 1, her method 1. -/
namespace start1
open Jvm.ClassFile
def u (s : String) : CpInfo := .utf8 (stringToUtf16 s)
/-- a pool by its gaps: so many unusable entries, then the entry; so many at the end -/
def gap : Nat → List CpInfo → List CpInfo
  | 0, r => r
  | n + 1, r => .unusable :: gap n r
def poolList (es : List (Nat × CpInfo)) (last : Nat) : List CpInfo := es.foldr (fun e r => gap e.1 (e.2 :: r)) (gap last [])
def pool (es : List (Nat × CpInfo)) (last : Nat) : Array CpInfo := ⟨poolList es last⟩
def fileOf (pool : Array CpInfo) (this : Nat) (attrs : Array Attribute := #[]) (ms : Array MethodInfo := #[]) (fl : Nat := 33) (sup : Nat := 0) (ifs : Array Nat := #[]) (fds : Array FieldInfo := #[]) : ClassFile where
  minorVersion := 0
  majorVersion := 65
  constantPool := pool
  accessFlags := fl
  thisClass := this
  superClass := sup
  interfaces := ifs
  fields := fds
  methods := ms
  attributes := attrs
def plain (name : String) (sup : Option ClassId) : Class where
  name := name
  kind := .ordinary
  loader := none
  accessFlags := 33
  super := sup
  interfaces := #[]
  cf := none
  fields := #[]
  methods := #[]
  instanceTypes := #[]
  staticTypes := #[]
  resolved := #[]
  callSites := []
  init := .initialized
  statics := none
  mirror := none

def pool0 : Array CpInfo := pool [(5, u "<init>"), (0, u "()V"), (1, .class_ 10), (1, u "java/lang/Object")] 113

def k0m0 : Method := { name := "<init>", desc := "()V", sig := { parameters := [], returnType := none }, accessFlags := 1, code := none }
/-- java/lang/Object -/
def k0 : Class := { plain "java/lang/Object" none with
  accessFlags := 33
  interfaces := #[]
  cf := some (fileOf pool0 8 #[] #[{ accessFlags := 1, nameIndex := 5, descriptorIndex := 6, attributes := #[] }] 33 0 #[] #[])
  fields := #[]
  methods := #[k0m0]
  instanceTypes := #[]
  staticTypes := #[]
  resolved := Array.replicate 124 none
  statics := none }

def pool1 : Array CpInfo := pool [(2, .class_ 4), (1, u "java/lang/Object"), (0, u "<init>"), (0, u "()V"), (0, .methodref 8 9), (0, .class_ 10), (0, .nameAndType 11 12), (0, u "com/example/agouti/agouti/server/RequestHeadEndPinLaw"), (0, u "kind"), (0, u "(I)B"), (0, .integer 2147483647), (0, .methodref 8 15), (0, .nameAndType 16 17), (0, u "ref"), (0, u "([BII)I"), (0, .methodref 19 20), (0, .class_ 21), (0, .nameAndType 22 23), (0, u "com/example/agouti/agouti/server/RequestHead"), (0, u "end"), (0, u "([BIII)I"), (0, .methodref 8 25), (0, .nameAndType 26 27), (0, u "endsAt"), (0, u "([BIII)Z"), (2, u "law"), (0, u "(IIII)Z")] 5

def k1m0 : Method := { name := "<init>", desc := "()V", sig := { parameters := [], returnType := none }, accessFlags := 1, code := none }
def k1c1 : Code := { maxStack := 4, maxLocals := 12, code := code, exceptionTable := #[], attributes := #[] }
def k1m1 : Method := { name := "law", desc := "(IIII)Z", sig := { parameters := [.int, .int, .int, .int], returnType := some .boolean }, accessFlags := 9, code := some k1c1 }
def k1c2 : Code := { maxStack := 2, maxLocals := 2, code := method_3_code, exceptionTable := #[], attributes := #[] }
def k1m2 : Method := { name := "kind", desc := "(I)B", sig := { parameters := [.int], returnType := some .byte }, accessFlags := 10, code := some k1c2 }
def k1c3 : Code := { maxStack := 3, maxLocals := 4, code := method_4_code, exceptionTable := #[], attributes := #[] }
def k1m3 : Method := { name := "endsAt", desc := "([BIII)Z", sig := { parameters := [(.array .byte), .int, .int, .int], returnType := some .boolean }, accessFlags := 10, code := some k1c3 }
def k1c4 : Code := { maxStack := 4, maxLocals := 3, code := method_5_code, exceptionTable := #[], attributes := #[] }
def k1m4 : Method := { name := "ref", desc := "([BII)I", sig := { parameters := [(.array .byte), .int, .int], returnType := some .int }, accessFlags := 10, code := some k1c4 }
/-- com/example/agouti/agouti/server/RequestHeadEndPinLaw -/
def k1 : Class := { plain "com/example/agouti/agouti/server/RequestHeadEndPinLaw" (some 0) with
  accessFlags := 49
  interfaces := #[]
  cf := some (fileOf pool1 8 #[] #[{ accessFlags := 1, nameIndex := 5, descriptorIndex := 6, attributes := #[] }, { accessFlags := 9, nameIndex := 30, descriptorIndex := 31, attributes := #[] }, { accessFlags := 10, nameIndex := 11, descriptorIndex := 12, attributes := #[] }, { accessFlags := 10, nameIndex := 26, descriptorIndex := 27, attributes := #[] }, { accessFlags := 10, nameIndex := 16, descriptorIndex := 17, attributes := #[] }] 49 2 #[] #[])
  fields := #[]
  methods := #[k1m0, k1m1, k1m2, k1m3, k1m4]
  instanceTypes := #[]
  staticTypes := #[]
  resolved := Array.replicate 37 none
  statics := none }

def pool2 : Array CpInfo := pool [(2, .class_ 4), (1, u "java/lang/Object"), (3, .class_ 10), (1, u "com/example/agouti/agouti/server/RequestHead"), (0, u "method"), (0, u "Ljava/lang/String;"), (2, u "uri"), (0, u "Ljava/net/URI;"), (2, u "http11"), (0, u "Z"), (8, u "headers"), (0, u "Ljava/util/Map;"), (37, u "contentLength"), (3, u "J"), (8, u "chunked"), (21, .methodref 104 105), (0, .class_ 106), (0, .nameAndType 107 108), (0, u "java/lang/Math"), (0, u "max"), (0, u "(II)I"), (70, u "TOKEN"), (0, u "[Z"), (6, u "VERSION"), (0, u "Ljava/util/regex/Pattern;"), (87, u "LENGTH"), (66, u "MAX_BYTES"), (0, u "I"), (2, u "MAX_FIELDS"), (8, u "end"), (0, u "([BIII)I")] 47

def k2c0 : Code := { maxStack := 3, maxLocals := 5, code := prog_53_method_2_code, exceptionTable := #[], attributes := #[] }
def k2m0 : Method := { name := "end", desc := "([BIII)I", sig := { parameters := [(.array .byte), .int, .int, .int], returnType := some .int }, accessFlags := 8, code := some k2c0 }
/-- com/example/agouti/agouti/server/RequestHead -/
def k2 : Class := { plain "com/example/agouti/agouti/server/RequestHead" (some 0) with
  accessFlags := 32
  interfaces := #[]
  cf := some (fileOf pool2 8 #[] #[{ accessFlags := 8, nameIndex := 356, descriptorIndex := 357, attributes := #[] }] 32 2 #[] #[{ accessFlags := 24, nameIndex := 343, descriptorIndex := 344, attributes := #[] }, { accessFlags := 26, nameIndex := 347, descriptorIndex := 344, attributes := #[] }, { accessFlags := 26, nameIndex := 179, descriptorIndex := 180, attributes := #[] }, { accessFlags := 26, nameIndex := 187, descriptorIndex := 188, attributes := #[] }, { accessFlags := 26, nameIndex := 276, descriptorIndex := 188, attributes := #[] }, { accessFlags := 18, nameIndex := 11, descriptorIndex := 12, attributes := #[] }, { accessFlags := 18, nameIndex := 15, descriptorIndex := 16, attributes := #[] }, { accessFlags := 18, nameIndex := 19, descriptorIndex := 20, attributes := #[] }, { accessFlags := 18, nameIndex := 29, descriptorIndex := 30, attributes := #[] }, { accessFlags := 18, nameIndex := 68, descriptorIndex := 72, attributes := #[] }, { accessFlags := 18, nameIndex := 81, descriptorIndex := 20, attributes := #[] }])
  fields := #[{ name := "MAX_BYTES", type := .int, accessFlags := 24, slot := 0, constantValue := 0 }, { name := "MAX_FIELDS", type := .int, accessFlags := 26, slot := 1, constantValue := 0 }, { name := "TOKEN", type := (.array .boolean), accessFlags := 26, slot := 2, constantValue := 0 }, { name := "VERSION", type := (.object "java/util/regex/Pattern"), accessFlags := 26, slot := 3, constantValue := 0 }, { name := "LENGTH", type := (.object "java/util/regex/Pattern"), accessFlags := 26, slot := 4, constantValue := 0 }, { name := "method", type := (.object "java/lang/String"), accessFlags := 18, slot := 0, constantValue := 0 }, { name := "uri", type := (.object "java/net/URI"), accessFlags := 18, slot := 1, constantValue := 0 }, { name := "http11", type := .boolean, accessFlags := 18, slot := 2, constantValue := 0 }, { name := "headers", type := (.object "java/util/Map"), accessFlags := 18, slot := 3, constantValue := 0 }, { name := "contentLength", type := .long, accessFlags := 18, slot := 4, constantValue := 0 }, { name := "chunked", type := .boolean, accessFlags := 18, slot := 5, constantValue := 0 }]
  methods := #[k2m0]
  instanceTypes := #[(.object "java/lang/String"), (.object "java/net/URI"), .boolean, (.object "java/util/Map"), .long, .boolean]
  staticTypes := #[.int, .int, (.array .boolean), (.object "java/util/regex/Pattern"), (.object "java/util/regex/Pattern")]
  resolved := Array.replicate 405 none
  statics := none }

def pool3 : Array CpInfo := pool [(1, .class_ 2), (0, u "java/lang/Math"), (1, .class_ 6), (1, u "java/lang/Object"), (0, u "<init>"), (0, u "()V"), (89, .class_ 100), (1, u "java/lang/Math$RandomNumberGeneratorHolder"), (71, u "negativeZeroFloatBits"), (0, u "J"), (2, u "negativeZeroDoubleBits"), (21, u "max"), (46, u "$assertionsDisabled"), (0, u "Z"), (88, u "(II)I"), (2, u "twoToTheDoubleScaleDown"), (0, u "D"), (4, u "twoToTheDoubleScaleUp"), (9, u "E"), (3, u "PI"), (2, u "TAU"), (2, u "DEGREES_TO_RADIANS"), (0, u "RADIANS_TO_DEGREES")] 94

def k3m0 : Method := { name := "<init>", desc := "()V", sig := { parameters := [], returnType := none }, accessFlags := 2, code := none }
def k3c1 : Code := { maxStack := 2, maxLocals := 2, code := jdk_29_method_65_code, exceptionTable := #[], attributes := #[] }
def k3m1 : Method := { name := "max", desc := "(II)I", sig := { parameters := [.int, .int], returnType := some .int }, accessFlags := 9, code := some k3c1 }
/-- java/lang/Math -/
def k3 : Class := { plain "java/lang/Math" (some 0) with
  accessFlags := 49
  interfaces := #[]
  cf := some (fileOf pool3 1 #[.nestMembers #[98]] #[{ accessFlags := 2, nameIndex := 7, descriptorIndex := 8, attributes := #[] }, { accessFlags := 9, nameIndex := 198, descriptorIndex := 335, attributes := #[] }] 49 4 #[] #[{ accessFlags := 25, nameIndex := 354, descriptorIndex := 339, attributes := #[] }, { accessFlags := 25, nameIndex := 358, descriptorIndex := 339, attributes := #[] }, { accessFlags := 25, nameIndex := 361, descriptorIndex := 339, attributes := #[] }, { accessFlags := 26, nameIndex := 364, descriptorIndex := 339, attributes := #[] }, { accessFlags := 26, nameIndex := 365, descriptorIndex := 339, attributes := #[] }, { accessFlags := 26, nameIndex := 172, descriptorIndex := 173, attributes := #[] }, { accessFlags := 26, nameIndex := 176, descriptorIndex := 173, attributes := #[] }, { accessFlags := 8, nameIndex := 344, descriptorIndex := 339, attributes := #[] }, { accessFlags := 8, nameIndex := 338, descriptorIndex := 339, attributes := #[] }, { accessFlags := 4120, nameIndex := 245, descriptorIndex := 246, attributes := #[] }])
  fields := #[{ name := "E", type := .double, accessFlags := 25, slot := 0, constantValue := 0 }, { name := "PI", type := .double, accessFlags := 25, slot := 1, constantValue := 0 }, { name := "TAU", type := .double, accessFlags := 25, slot := 2, constantValue := 0 }, { name := "DEGREES_TO_RADIANS", type := .double, accessFlags := 26, slot := 3, constantValue := 0 }, { name := "RADIANS_TO_DEGREES", type := .double, accessFlags := 26, slot := 4, constantValue := 0 }, { name := "negativeZeroFloatBits", type := .long, accessFlags := 26, slot := 5, constantValue := 0 }, { name := "negativeZeroDoubleBits", type := .long, accessFlags := 26, slot := 6, constantValue := 0 }, { name := "twoToTheDoubleScaleUp", type := .double, accessFlags := 8, slot := 7, constantValue := 0 }, { name := "twoToTheDoubleScaleDown", type := .double, accessFlags := 8, slot := 8, constantValue := 0 }, { name := "$assertionsDisabled", type := .boolean, accessFlags := 4120, slot := 9, constantValue := 0 }]
  methods := #[k3m0, k3m1]
  instanceTypes := #[]
  staticTypes := #[.double, .double, .double, .double, .double, .long, .long, .double, .double, .boolean]
  resolved := Array.replicate 460 none
  statics := none }

def pool4 : Array CpInfo := pool [(1, u "java/lang/Cloneable"), (0, .class_ 1), (0, u "java/lang/Object"), (0, .class_ 3)] 3

/-- java/lang/Cloneable -/
def k4 : Class := { plain "java/lang/Cloneable" (some 0) with
  accessFlags := 1537
  interfaces := #[]
  cf := some (fileOf pool4 2 #[] #[] 1537 4 #[] #[])
  fields := #[]
  methods := #[]
  instanceTypes := #[]
  staticTypes := #[]
  resolved := Array.replicate 8 none
  statics := none }

def pool5 : Array CpInfo := pool [(1, u "java/io/Serializable"), (0, .class_ 1), (0, u "java/lang/Object"), (0, .class_ 3)] 3

/-- java/io/Serializable -/
def k5 : Class := { plain "java/io/Serializable" (some 0) with
  accessFlags := 1537
  interfaces := #[]
  cf := some (fileOf pool5 2 #[] #[] 1537 4 #[] #[])
  fields := #[]
  methods := #[]
  instanceTypes := #[]
  staticTypes := #[]
  resolved := Array.replicate 8 none
  statics := none }

/-- the primitive byte -/
def k6 : Class := { plain "byte" none with kind := .primitive 'B', accessFlags := 0x411 }
/-- [B -/
def k7 : Class := { plain "[B" (some 0) with kind := .array 6 .byte, interfaces := #[4, 5], accessFlags := 1041 }

/-- the primitive int -/
def k8 : Class := { plain "int" none with kind := .primitive 'I', accessFlags := 0x411 }
/-- [I -/
def k9 : Class := { plain "[I" (some 0) with kind := .array 8 .int, interfaces := #[4, 5], accessFlags := 1041 }

def heap : Heap := #[]
def classes : Array Class := #[k0, k1, k2, k3, k4, k5, k6, k7, k8, k9]
def interned : List (Array UInt16 × Addr) := []
def slotsUsed : Nat := 0
def theMethod : MethodId := ⟨1, 1⟩
def args0 : Array Value := #[.int 5, .int 7, .int 9, .int 11]
def aboutOver (below : List Frame) : State where
  vm := { classes := classes, interned := interned.toArray }
  heap := heap
  slotsUsed := slotsUsed
  threads := #[{ frames := .invoking theMethod args0 :: below }]
def below0 : List Frame := [.native { method := ⟨0, 0⟩, args := #[] }]
def about1 : State := aboutOver below0
def p0 : Program := .bare "" "" ""
def e0 : Env := launch0.env 0 0 0
theorem w_frames : about1.frames = Frame.invoking theMethod args0 :: below0 := rfl
set_option maxRecDepth 65536 in
theorem w_args : argsFit about1.vm theMethod args0 = true := by decide +kernel
set_option maxRecDepth 65536 in
theorem w_heap : heapFits about1 = true := by decide +kernel
set_option maxRecDepth 65536 in
theorem w_runnable : about1.curStatus? = some .runnable := by decide +kernel
set_option maxRecDepth 65536 in
theorem w_alone : about1.alone = true := by decide +kernel
set_option maxRecDepth 65536 in
theorem w_named : about1.methodNamed? x = some theMethod := by decide +kernel
set_option maxRecDepth 65536 in
theorem w_hears : about1.hears theMethod below0 = true := by decide +kernel
set_option maxRecDepth 65536 in
theorem w_ripe : about1.ripe theMethod args0 below0 = true := by decide +kernel
theorem w_running : about1.status = .running := rfl
set_option maxRecDepth 65536 in
theorem w_room : about1.hasRoom e0.platform room_1 = true :=
  launch0.hasRoom_least _ room_1 (by decide +kernel) (by decide +kernel) (by decide +kernel) (by decide +kernel) (by decide +kernel) (by decide +kernel)
theorem allAtoms_all (ts : List Jvm.Cond) (a : Array Jvm.Value) (st : Jvm.State) : (allAtoms ts).before a st = ts.all (fun c => c.before a st) := by
  induction ts with
  | nil => rfl
  | cons c t ih =>
    show (Jvm.Cond.and c (allAtoms t)).before a st = _
    rw [Jvm.Cond.before_and, ih, List.all_cons]
def words1 : List Jvm.Cond := Jvm.Cond.code x code maxLocals ret :: tables_1
/-- a 'code' word, met by the world's own term for the bytes: nothing is compared byte by byte -/
theorem code_word {y : MethodName} {bytes : ByteArray} {mx : Nat} {rt : Option FieldType} {a : Array Value} {s : State} {m : MethodId} {meth : Method} {c : Code} (h1 : s.methodNamed? y = some m) (h2 : s.vm.method? m = some meth) (h3 : meth.code = some c) (h4 : c.code = bytes)
    (h5 : (c.maxLocals == mx && c.exceptionTable.isEmpty && decide (c.maxStack ≤ mostOperands) && decide (meth.sig.returnType = rt) && !meth.locks && decide (parseMethodDescriptor y.desc = some meth.sig)) = true) : (Jvm.Cond.code y bytes mx rt).before a s = true := by
  simp only [Bool.and_eq_true, beq_iff_eq, Bool.not_eq_true', decide_eq_true_eq] at h5
  obtain ⟨⟨⟨⟨⟨g1, g2⟩, g3⟩, g4⟩, g5⟩, g6⟩ := h5
  simp [Cond.before, Cond.holds, Cond.value, h1, h2, h3, h4, g1, g2, g3, g4, g5, g6]
def isCode : Jvm.Cond → Bool
  | .code _ _ _ _ => true
  | _ => false
theorem all_split {L : List Jvm.Cond} {P : Jvm.Cond → Bool} (h1 : L.all (fun c => isCode c || P c) = true) (h2 : ∀ c ∈ L.filter isCode, P c = true) : L.all P = true := by
  refine List.all_eq_true.mpr fun c hc => ?_
  have h := List.all_eq_true.mp h1 c hc
  rcases Bool.eq_false_or_eq_true (isCode c) with hi | hi
  · exact h2 c (List.mem_filter.mpr ⟨hc, hi⟩)
  · simpa [hi] using h
set_option maxRecDepth 65536 in
theorem w_c0 : (Jvm.Cond.code x code maxLocals ret).before args0 about1 = true := code_word (m := ⟨1, 1⟩) (meth := k1m1) (c := k1c1) (by decide +kernel) rfl rfl rfl (by decide +kernel)
set_option maxRecDepth 65536 in
theorem w_c1 : (Jvm.Cond.code ({ cls := "com/example/agouti/agouti/server/RequestHeadEndPinLaw", name := "kind", desc := "(I)B" } : Jvm.MethodName) method_3_code (2 : Nat) (Option.some Jvm.ClassFile.FieldType.byte)).before args0 about1 = true := code_word (m := ⟨1, 2⟩) (meth := k1m2) (c := k1c2) (by decide +kernel) rfl rfl rfl (by decide +kernel)
set_option maxRecDepth 65536 in
theorem w_c2 : (Jvm.Cond.code ({ cls := "com/example/agouti/agouti/server/RequestHeadEndPinLaw", name := "ref", desc := "([BII)I" } : Jvm.MethodName) method_5_code (3 : Nat) (Option.some Jvm.ClassFile.FieldType.int)).before args0 about1 = true := code_word (m := ⟨1, 4⟩) (meth := k1m4) (c := k1c4) (by decide +kernel) rfl rfl rfl (by decide +kernel)
set_option maxRecDepth 65536 in
theorem w_c3 : (Jvm.Cond.code ({ cls := "com/example/agouti/agouti/server/RequestHeadEndPinLaw", name := "endsAt", desc := "([BIII)Z" } : Jvm.MethodName) method_4_code (4 : Nat) (Option.some Jvm.ClassFile.FieldType.boolean)).before args0 about1 = true := code_word (m := ⟨1, 3⟩) (meth := k1m3) (c := k1c3) (by decide +kernel) rfl rfl rfl (by decide +kernel)
set_option maxRecDepth 65536 in
theorem w_c4 : (Jvm.Cond.code ({ cls := "com/example/agouti/agouti/server/RequestHead", name := "end", desc := "([BIII)I" } : Jvm.MethodName) prog_53_method_2_code (5 : Nat) (Option.some Jvm.ClassFile.FieldType.int)).before args0 about1 = true := code_word (m := ⟨2, 0⟩) (meth := k2m0) (c := k2c0) (by decide +kernel) rfl rfl rfl (by decide +kernel)
set_option maxRecDepth 65536 in
theorem w_c5 : (Jvm.Cond.code ({ cls := "java/lang/Math", name := "max", desc := "(II)I" } : Jvm.MethodName) jdk_29_method_65_code (2 : Nat) (Option.some Jvm.ClassFile.FieldType.int)).before args0 about1 = true := code_word (m := ⟨3, 1⟩) (meth := k3m1) (c := k3c1) (by decide +kernel) rfl rfl rfl (by decide +kernel)
def codes1 : List Jvm.Cond := [Jvm.Cond.code x code maxLocals ret, Jvm.Cond.code ({ cls := "com/example/agouti/agouti/server/RequestHeadEndPinLaw", name := "kind", desc := "(I)B" } : Jvm.MethodName) method_3_code (2 : Nat) (Option.some Jvm.ClassFile.FieldType.byte), Jvm.Cond.code ({ cls := "com/example/agouti/agouti/server/RequestHeadEndPinLaw", name := "ref", desc := "([BII)I" } : Jvm.MethodName) method_5_code (3 : Nat) (Option.some Jvm.ClassFile.FieldType.int), Jvm.Cond.code ({ cls := "com/example/agouti/agouti/server/RequestHeadEndPinLaw", name := "endsAt", desc := "([BIII)Z" } : Jvm.MethodName) method_4_code (4 : Nat) (Option.some Jvm.ClassFile.FieldType.boolean), Jvm.Cond.code ({ cls := "com/example/agouti/agouti/server/RequestHead", name := "end", desc := "([BIII)I" } : Jvm.MethodName) prog_53_method_2_code (5 : Nat) (Option.some Jvm.ClassFile.FieldType.int), Jvm.Cond.code ({ cls := "java/lang/Math", name := "max", desc := "(II)I" } : Jvm.MethodName) jdk_29_method_65_code (2 : Nat) (Option.some Jvm.ClassFile.FieldType.int)]
set_option maxRecDepth 65536 in
theorem codes_eq : words1.filter isCode = codes1 := rfl
theorem w_codes : ∀ c ∈ words1.filter isCode, c.before args0 about1 = true := by
  rw [codes_eq]
  intro c hc
  simp only [codes1, List.mem_cons, List.not_mem_nil, or_false] at hc
  rcases hc with rfl | rfl | rfl | rfl | rfl | rfl
  · exact w_c0
  · exact w_c1
  · exact w_c2
  · exact w_c3
  · exact w_c4
  · exact w_c5
set_option maxRecDepth 65536 in
theorem w_t1 : words1.all (fun c => isCode c || c.before args0 about1) = true := by decide +kernel
theorem w_tables : (allAtoms (Jvm.Cond.code x code maxLocals ret :: tables_1)).before args0 about1 = true := by
  rw [allAtoms_all]
  show words1.all (fun c => c.before args0 about1) = true
  refine all_split ?_ w_codes
  rw [w_t1]
set_option maxRecDepth 65536 in
theorem w_case : (Jvm.Cond.and given_1 narrow_1).before args0 about1 = true := by decide +kernel
theorem w_applies : (headSpec (Jvm.Cond.code x code maxLocals ret :: tables_1) room_1).applies x e0.platform about1 = true :=
  (Spec.applies_iff w_frames).mpr ⟨w_running, w_runnable, w_alone, w_named, w_hears, w_ripe, w_room, w_tables⟩
theorem atStart : AtStart classFile x code maxLocals ret World_1 tables_1 room_1 Calls_1 rest_1 Pre_1 launch0 p0 e0 about1 theMethod args0 below0 :=
  ⟨lists_1, trivial, launch0.admits_env _ _ _, launch0.least_env, fairChoices_fair.cas, fairChoices_fair.clock, w_frames, w_args, w_heap, w_applies, trivial, trivial, w_case⟩
end start1
theorem witness_1 : WitnessClaimed_1 := ⟨start1.p0, start1.e0, start1.about1, start1.theMethod, start1.args0, start1.below0, start1.atStart⟩
end Jvm.Pilot.@@N@@
