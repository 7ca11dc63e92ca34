import JvmDerived
import JvmDerived.Pilot.@@N@@Statement
import JvmDerived.Pilot.@@N@@Code
set_option linter.unusedVariables false
set_option linter.unusedSimpArgs false
namespace Jvm.RoadKit
open Sem ClassFile Op Lib Jvm.Stand Jvm.Free Jvm.LawKit
section New
variable {p : Program} {l : Launch} {e : Env} {R : Room} {s : State} {m : MethodId} {args : Array Value} {below : List Frame} {meth : Method} {c : Code} {T : State} {locs : List Loc} {cells slots : Nat}
theorem retI (X : Stand p l e R s m args below meth c T locs cells slots) (hx : p.tables.exec = Jvm.exec) {pc : Nat} {Ls : Array Slot} {z : Int32} {rest : List Value} (hret : meth.sig.returnType = some .int) (hd : decode c.code pc = .ok (.ireturn, 1)) {fs : List Frame}
    (hl : ∀ (f : JFrame) (acts : List Action), f.method = m → f.locked = none → f.entered = [] → (doReturn e (T.setTop f) acts (some (.int z))).1 = T.setFrames fs) : Steps p.tables e below (T.setTop (mkF m pc Ls (.int z :: rest))) (T.setFrames fs) := by
  have hm' : T.vm.method? m = some meth := X.method'
  have hn : narrow .int (.int z) = .int z := rfl
  show Steps p.tables e below (T.setTop { method := m, pc := pc, locals := Ls, stack := _ :: rest, locked := none }) _
  jvm_step X.here [X.here.top, hx, hd, hm', hret, hn]
  first | (intro acts; rw [hl _ acts rfl rfl rfl]) | rw [hl _ _ rfl rfl rfl]
  exact Steps.refl _
end New
end Jvm.RoadKit
namespace Jvm.Pilot.@@N@@
open Jvm Jvm.ClassFile Sem Op Lib Jvm.Free Jvm.Stand Jvm.LawKit Jvm.RoadKit Bundle Jvm.Pilot.@@N@@.Jvm.D
/-- the run from U ends within this invocation, with P -/
def own_Fin (tb : Tables) (e : Env) (below : List Frame) (P : Outcome → State → Prop) (U : State) : Prop := ∃ s₂ o, Steps tb e below U s₂ ∧ s₂.status = .running ∧ Ended s₂ below o ∧ P o s₂
theorem own_by {tb : Tables} {e : Env} {below : List Frame} {P : Outcome → State → Prop} {U U' : State} (h : ∀ t, Steps tb e below U' t → Steps tb e below U t) (k : own_Fin tb e below P U') : own_Fin tb e below P U := by
  obtain ⟨t, o, h1, h2⟩ := k
  exact ⟨t, o, h _ h1, h2⟩
section Own
variable {p : Program} {l : Launch} {e : Env} {R : Room} {s : State} {m : MethodId} {args : Array Value} {below : List Frame} {meth : Method} {c : Code} {T : State} {locs : List Loc} {cells slots : Nat} {Z : State} {h h' : Heap} {a b : Addr} {z j x v : Int32} {B : Int32 → Int32}
theorem own_end (X : Stand p l e R s m args below meth c T locs cells slots) (hlk : meth.locks = false) {U : State} {v : Option Value} (hv : meth.sig.returnType = none → v = none) {Qv : Option Value → Heap → List Loc → Prop} {C S : Nat} (hC : cells ≤ C) (hS : slots ≤ S) (hq : Qv v T.heap locs)
    (hst : ∀ fs, (∀ (f : JFrame) (acts : List Action), f.method = m → f.locked = none → f.entered = [] → (doReturn e (T.setTop f) acts v).1 = T.setFrames fs) → Steps p.tables e below U (T.setFrames fs)) :
    own_Fin p.tables e below (fun o t => ∃ v L, o = .returned v ∧ Qv v t.heap L ∧ FrameEnd s o t L C S) U := by
  obtain ⟨fs, hr, hrun, hended, hW, hsame⟩ := X.leave (v := v) hv hlk
  exact ⟨_, _, hst fs hr, hrun, hended, _, _, rfl, hq, ⟨_, rfl⟩, hW, hsame.mono hC hS⟩
theorem own_retN (X : Stand p l e R s m args below meth c T locs cells slots) (hx : p.tables.exec = Jvm.exec) {pc : Nat} {Ls : Array Slot} {z : Int32} {t : FieldType} {rest : List Value} (hret : meth.sig.returnType = some t) (hlk : meth.locks = false) (ht : t = .boolean ∨ t = .byte ∨ t = .char ∨ t = .short)
    (hd : decode c.code pc = .ok (.ireturn, 1)) {Qv : Option Value → Heap → List Loc → Prop} {C S : Nat} (hC : cells ≤ C) (hS : slots ≤ S) (hq : Qv (some (.int (nar t z))) T.heap locs) :
    own_Fin p.tables e below (fun o t => ∃ v L, o = .returned v ∧ Qv v t.heap L ∧ FrameEnd s o t L C S) (T.setTop (mkF m pc Ls (.int z :: rest))) :=
  own_end X hlk (fun q => by rw [hret] at q; cases q) hC hS hq fun fs hr => retN X hx hret ht hd hr
theorem own_retI (X : Stand p l e R s m args below meth c T locs cells slots) (hx : p.tables.exec = Jvm.exec) {pc : Nat} {Ls : Array Slot} {z : Int32} {rest : List Value} (hret : meth.sig.returnType = some .int) (hlk : meth.locks = false)
    (hd : decode c.code pc = .ok (.ireturn, 1)) {Qv : Option Value → Heap → List Loc → Prop} {C S : Nat} (hC : cells ≤ C) (hS : slots ≤ S) (hq : Qv (some (.int z)) T.heap locs) :
    own_Fin p.tables e below (fun o t => ∃ v L, o = .returned v ∧ Qv v t.heap L ∧ FrameEnd s o t L C S) (T.setTop (mkF m pc Ls (.int z :: rest))) :=
  own_end X hlk (fun q => by rw [hret] at q; cases q) hC hS hq fun fs hr => retI X hx hret hd hr
theorem own_retJ (X : Stand p l e R s m args below meth c T locs cells slots) (hx : p.tables.exec = Jvm.exec) {pc : Nat} {Ls : Array Slot} {z : Int64} {rest : List Value} (hret : meth.sig.returnType = some .long) (hlk : meth.locks = false)
    (hd : decode c.code pc = .ok (.lreturn, 1)) {Qv : Option Value → Heap → List Loc → Prop} {C S : Nat} (hC : cells ≤ C) (hS : slots ≤ S) (hq : Qv (some (.long z)) T.heap locs) :
    own_Fin p.tables e below (fun o t => ∃ v L, o = .returned v ∧ Qv v t.heap L ∧ FrameEnd s o t L C S) (T.setTop (mkF m pc Ls (.long z :: rest))) :=
  own_end X hlk (fun q => by rw [hret] at q; cases q) hC hS hq fun fs hr => retOut X hx hret rfl (Or.inr (Or.inl ⟨rfl, rfl, z, rfl⟩)) hd hr
theorem own_retA (X : Stand p l e R s m args below meth c T locs cells slots) (hx : p.tables.exec = Jvm.exec) {pc : Nat} {Ls : Array Slot} {w : Value} {t : FieldType} {rest : List Value} (hret : meth.sig.returnType = some t) (hlk : meth.locks = false) (ht : t.isReference = true) (hw : w.isRef = true)
    (hd : decode c.code pc = .ok (.areturn, 1)) {Qv : Option Value → Heap → List Loc → Prop} {C S : Nat} (hC : cells ≤ C) (hS : slots ≤ S) (hq : Qv (some w) T.heap locs) :
    own_Fin p.tables e below (fun o t => ∃ v L, o = .returned v ∧ Qv v t.heap L ∧ FrameEnd s o t L C S) (T.setTop (mkF m pc Ls (w :: rest))) :=
  own_end X hlk (fun q => by rw [hret] at q; cases q) hC hS hq fun fs hr => retOut X hx hret (by cases t <;> simp [FieldType.isReference] at ht <;> (rcases ref_cases hw with rfl | ⟨z, rfl⟩ <;> rfl)) (Or.inr (Or.inr (Or.inr (Or.inr ⟨rfl, ht, hw⟩)))) hd hr
theorem own_retV (X : Stand p l e R s m args below meth c T locs cells slots) (hx : p.tables.exec = Jvm.exec) {pc : Nat} {Ls : Array Slot} (hret : meth.sig.returnType = none) (hlk : meth.locks = false)
    (hd : decode c.code pc = .ok (.return_, 1)) {Qv : Option Value → Heap → List Loc → Prop} {C S : Nat} (hC : cells ≤ C) (hS : slots ≤ S) (hq : Qv none T.heap locs) :
    own_Fin p.tables e below (fun o t => ∃ v L, o = .returned v ∧ Qv v t.heap L ∧ FrameEnd s o t L C S) (T.setTop (mkF m pc Ls [])) :=
  own_end X hlk (fun _ => rfl) hC hS hq fun fs hr => X.returnOut hx hret hd hr
/-- a byte[] of length z whose j-th byte is B j -/
def own_Byt (Z : State) (h : Heap) (a : Addr) (z : Int32) (B : Int32 → Int32) : Prop := ∃ cl : Cell, Arr Z h a cl .byte ∧ cl.slots.size = z.toNatClampNeg ∧ ¬ z < 0 ∧ ∀ j : Int32, ¬ (j < 0 ∨ cl.slots.size ≤ j.toNatClampNeg) → cl.slots[j.toNatClampNeg]? = some (.int (B j)) ∧ fits .byte (.int (B j)) = true
def own_upd (B : Int32 → Int32) (j v : Int32) : Int32 → Int32 := fun k => if k = j then v else B k
theorem own_Byt.lt (F : own_Byt Z h a z B) : a < h.size := by obtain ⟨c, A, -⟩ := F; exact A.lt
theorem own_Byt.ext (F : own_Byt Z h a z B) (E : Ext h h') : own_Byt Z h' a z B := by obtain ⟨c, A, r⟩ := F; exact ⟨c, A.ext E, r⟩
theorem own_Byt.other (F : own_Byt Z h b z B) {sl : Nat} {w : Value} (W : Wr h h' a sl w) (q : b ≠ a) : own_Byt Z h' b z B := by obtain ⟨c, A, r⟩ := F; exact ⟨c, A.other W q, r⟩
theorem own_Byt.keep {ws : List Addr} (F : own_Byt Z h a z B) (K : Keep h h' ws) (q : a ∉ ws) : own_Byt Z h' a z B := by obtain ⟨c, A, r⟩ := F; exact ⟨c, ⟨K.2.1 a c A.1 q, A.2⟩, r⟩
theorem own_Byt.new {k : ClassId} (A : Arr Z h a (newA k .byte z) .byte) (q : ¬ z < 0) : own_Byt Z h a z (fun _ => (0 : Int32)) :=
  ⟨_, A, sz_new _ _ _, q, fun j hj => by rw [sz_new] at hj; exact ⟨get_new hj, show fits .byte (.int 0) = true from by decide⟩⟩
theorem own_bal (X : Stand p l e R s m args below meth c T locs cells slots) (hx : p.tables.exec = Jvm.exec) (hZ : Z.Warmed39 s.vm) (eT : T.heap = h) (F : own_Byt Z h a z B) (h1 : ¬ j < 0) (h2 : j < z)
    {g : JFrame} (hg : g.method = m) {rest : List Value} (hs : g.stack = .int j :: .ref a :: rest) (hd : decode c.code g.pc = .ok (.baload, 1)) :
    ∀ t, Steps p.tables e below (T.setTop { g with pc := g.pc + 1, stack := .int (B j) :: rest }) t → Steps p.tables e below (T.setTop g) t := by
  obtain ⟨cl, A, S, N, H⟩ := F
  have hin := inb_of S ⟨h1, h2⟩
  exact X.baloadBytes hx (j := j) (v := .int (B j)) (by rw [eT]; exact A.1) (State.isArrayOf_alike hZ.alike A.2.1) A.2.2 hin (H j hin).1 hg hs hd
theorem own_len (X : Stand p l e R s m args below meth c T locs cells slots) (hx : p.tables.exec = Jvm.exec) (hZ : Z.Warmed39 s.vm) (eT : T.heap = h) (F : own_Byt Z h a z B)
    {g : JFrame} (hg : g.method = m) {rest : List Value} (hs : g.stack = .ref a :: rest) (hd : decode c.code g.pc = .ok (.arraylength, 1)) :
    ∀ t, Steps p.tables e below (T.setTop { g with pc := g.pc + 1, stack := .int z :: rest }) t → Steps p.tables e below (T.setTop g) t := by
  obtain ⟨cl, A, S, N, H⟩ := F
  intro t k
  refine X.arraylength hx (by rw [eT]; exact A.1) (State.isArrayOf_alike hZ.alike A.2.1) (g := g) hg hs hd _ ?_
  rw [len_of S N]
  exact k
theorem own_bst (X : Stand p l e R s m args below meth c T locs cells slots) (hx : p.tables.exec = Jvm.exec) (hZ : Z.Warmed39 s.vm) (eT : T.heap = h) (F : own_Byt Z h a z B) (h1 : ¬ j < 0) (h2 : j < z)
    {g : JFrame} (hg : g.method = m) {rest : List Value} (hs : g.stack = .int x :: .int j :: .ref a :: rest) (hd : decode c.code g.pc = .ok (.bastore, 1)) :
    ∃ T' h', Stand p l e R s m args below meth c T' (locs ++ [⟨a, j.toNatClampNeg⟩]) cells slots ∧ T'.heap = h' ∧ own_Byt Z h' a z (own_upd B j (x.toInt8.toInt32)) ∧ Wr h h' a j.toNatClampNeg (.int (nar .byte x)) ∧
      ∀ t, Steps p.tables e below (T'.setTop { g with pc := g.pc + 1, stack := rest }) t → Steps p.tables e below (T.setTop g) t := by
  obtain ⟨cl, A, S, N, H⟩ := F
  have hin := inb_of S ⟨h1, h2⟩
  obtain ⟨T', h', X', e', W, st⟩ := stB X hx hZ eT A (j := j) hin hg hs hd
  refine ⟨T', h', X', e', ⟨_, A.same W, by rw [sz_set]; exact S, N, fun k hk => ?_⟩, W, st⟩
  rw [sz_set] at hk
  by_cases q : k = j
  · rw [get_hit hin q, own_upd, if_pos q]; exact ⟨rfl, fits_nar_byte x⟩
  · rw [get_miss h1 (fun y => hk (Or.inl y)) q, own_upd, if_neg q]; exact H k hk
end Own
theorem own_nar_char (x : Int32) : nar .char (x.toUInt32.toUInt16.toUInt32.toInt32) = x.toUInt32.toUInt16.toUInt32.toInt32 := by
  show x.toUInt32.toUInt16.toUInt32.toInt32.toUInt32.toUInt16.toUInt32.toInt32 = _
  have h1 := c_i2c x
  have h2 := c_i2c (x.toUInt32.toUInt16.toUInt32.toInt32)
  apply Int32.toInt_inj.mp
  omega
theorem own_lt {x y : Int32} : x < y ↔ x.toInt < y.toInt := Int32.lt_iff_toInt_lt
theorem own_eq {x y : Int32} : x = y ↔ x.toInt = y.toInt := Int32.toInt_inj.symm
theorem own_ltL {x y : Int64} : x < y ↔ x.toInt < y.toInt := Int64.lt_iff_toInt_lt
theorem own_eqL {x y : Int64} : x = y ↔ x.toInt = y.toInt := Int64.toInt_inj.symm
theorem own_z : (0 : Int32).toInt = 0 := by decide
theorem own_nn {x : Int32} (h : 0 ≤ x.toInt) : ¬ x < 0 := fun q => by have := own_lt.mp q; rw [own_z] at this; omega
theorem own_ltof {x y : Int32} (h : x.toInt < y.toInt) : x < y := own_lt.mpr h
theorem own_ge {x y : Int32} (h : ¬ x < y) : y.toInt ≤ x.toInt := by rw [own_lt] at h; omega
theorem own_add (x k : Int32) (h1 : -2147483648 ≤ x.toInt + k.toInt) (h2 : x.toInt + k.toInt < 2147483648) : (x + k).toInt = x.toInt + k.toInt := by
  have a := c_iadd x k
  have r := rng32 (x + k)
  omega
theorem own_sub (x k : Int32) (h1 : -2147483648 ≤ x.toInt - k.toInt) (h2 : x.toInt - k.toInt < 2147483648) : (x - k).toInt = x.toInt - k.toInt := by
  have a := c_isub x k
  have r := rng32 (x - k)
  omega
theorem own_clamp {x : Int32} {n : Nat} (h : ¬ x < 0) (q : x.toInt ≤ n) : x.toNatClampNeg ≤ n := by
  have := nat_of h
  omega
theorem d1_0 : decode prog_3_method_2_code 0 = .ok (.lload_n 0, 1) := by decide +kernel
theorem d1_1 : decode prog_3_method_2_code 1 = .ok (.bipush 21, 2) := by decide +kernel
theorem d1_3 : decode prog_3_method_2_code 3 = .ok (.lshl, 1) := by decide +kernel
theorem d1_4 : decode prog_3_method_2_code 4 = .ok (.iload_n 2, 1) := by decide +kernel
theorem d1_5 : decode prog_3_method_2_code 5 = .ok (.i2l, 1) := by decide +kernel
theorem d1_6 : decode prog_3_method_2_code 6 = .ok (.bipush 11, 2) := by decide +kernel
theorem d1_8 : decode prog_3_method_2_code 8 = .ok (.lshl, 1) := by decide +kernel
theorem d1_9 : decode prog_3_method_2_code 9 = .ok (.lor, 1) := by decide +kernel
theorem d1_10 : decode prog_3_method_2_code 10 = .ok (.iload_n 3, 1) := by decide +kernel
theorem d1_11 : decode prog_3_method_2_code 11 = .ok (.i2l, 1) := by decide +kernel
theorem d1_12 : decode prog_3_method_2_code 12 = .ok (.lor, 1) := by decide +kernel
theorem d1_13 : decode prog_3_method_2_code 13 = .ok (.lreturn, 1) := by decide +kernel
theorem pn_com_example_glass_shards_glassshards_Id : plainName "com/example/glass_shards/glassshards/Id" = true := by first | (simp [plainName, overriddenIn]; done) | decide +kernel
theorem ef_1 (m : MethodId) (q0 : Int64) (p1 : Int32) (p2 : Int32) : entryFrame m #[(.long q0), (.int p1), (.int p2)] 4 = mkF m 0 #[.val (.long q0), .second, .val (.int p1), .val (.int p2)] [] := by first | (simp [entryFrame, mkF, argsToLocals, Value.category]; done) | rfl
def f1 (q0 : Int64) (p1 : Int32) (p2 : Int32) : Int64 :=
  (((q0 <<< ((21 : Int32) &&& 0x3f).toInt64) ||| ((p1.toInt64) <<< ((11 : Int32) &&& 0x3f).toInt64)) ||| (p2.toInt64))
def Q1 (q0 : Int64) (p1 : Int32) (p2 : Int32) (h0 : Heap) (n0 : Nat) (v : Option Value) (h : Heap) (L : List Loc) : Prop := v = some (.long (f1 q0 p1 p2)) ∧ Fr n0 L ∧ h = h0
set_option maxRecDepth 65536 in
set_option maxHeartbeats 40000000 in
theorem rm1 (l : Launch) (Z : State) (a0 : Array Value) (hw : ∀ d ∈ tables_1, d.before a0 Z = true) (ws : List Jvm.Cond) (q0 : Int64) (p1 : Int32) (p2 : Int32)   (h0 : Heap) (n0 : Nat) (Z0 : n0 ≤ h0.size)   :
    MetFree l (⟨"com/example/glass_shards/glassshards/Id", "value", "(JII)J"⟩ : MethodName) (head1 (Jvm.Cond.code (⟨"com/example/glass_shards/glassshards/Id", "value", "(JII)J"⟩ : MethodName) prog_3_method_2_code 4 (some .long) :: ws) ({ frames := 0, cells := 0, slots := 0, locals := 0 } : Room)) (fun a U => a = #[(.long q0), (.int p1), (.int p2)] ∧ Z.Warmed39 U.vm ∧ U.heap = h0) (fun _ _ _ _ _ => True) (fun _ U o U' => ∃ v L, o = .returned v ∧ Q1 q0 p1 p2 h0 n0 v U'.heap L ∧ FrameEnd U o U' L ({ frames := 0, cells := 0, slots := 0, locals := 0 } : Room).cells ({ frames := 0, cells := 0, slots := 0, locals := 0 } : Room).slots) := by
  refine MetFree.of_bodySF (plainFor_of_name pn_com_example_glass_shards_glassshards_Id) hisR ?_
  intro p e s m args below meth c s₁ Bd hml0 hP hK
  obtain ⟨rfl, hZ, hh⟩ := hP
  have hx := Bd.exec
  have hby := Bd.bytes
  have hlk : meth.locks = false := BodyLoose.notSynchronized Bd
  have hml : c.maxLocals = 4 := hml0
  have hown : s.vm.findClass "com/example/glass_shards/glassshards/Id" = some m.cls := findClass_of_methodNamed Bd.named
  have hnm := (name_of_methodNamed Bd.named Bd.method).1
  have X0 : Stand p l e ({ frames := 0, cells := 0, slots := 0, locals := 0 } : Room) s m #[(.long q0), (.int p1), (.int p2)] below meth c s₁ [] 0 0 := Stand.of_body Bd
  have e0 : s₁.heap = h0 := by rw [← hh, Bd.state]; rfl
  have N0 := Fr.nil n0
  refine own_by (U' := s₁.setTop (mkF m 0 #[.val (.long q0), .second, .val (.int p1), .val (.int p2)] [])) (fun t k => castTop (ef_1 m q0 p1 p2) k) ?_
  refine own_by (fun _ k => XS.lloadN X0.here hx rfl (hb hby d1_0) rfl k) ?_
  show own_Fin p.tables e below _ (s₁.setTop (mkF m 1 #[.val (.long q0), .second, .val (.int p1), .val (.int p2)] [(.long q0)]))
  refine own_by (fun _ k => XS.bipush X0.here hx rfl (hb hby d1_1) k) ?_
  show own_Fin p.tables e below _ (s₁.setTop (mkF m 3 #[.val (.long q0), .second, .val (.int p1), .val (.int p2)] [(.int (21 : Int32)), (.long q0)]))
  refine own_by (fun _ k => XS.lshl X0.here hx rfl (hb hby d1_3) rfl k) ?_
  show own_Fin p.tables e below _ (s₁.setTop (mkF m 4 #[.val (.long q0), .second, .val (.int p1), .val (.int p2)] [(.long (q0 <<< ((21 : Int32) &&& 0x3f).toInt64))]))
  refine own_by (fun _ k => XS.iloadN X0.here hx rfl (hb hby d1_4) rfl k) ?_
  show own_Fin p.tables e below _ (s₁.setTop (mkF m 5 #[.val (.long q0), .second, .val (.int p1), .val (.int p2)] [(.int p1), (.long (q0 <<< ((21 : Int32) &&& 0x3f).toInt64))]))
  refine own_by (fun _ k => XS.i2l X0.here hx rfl (hb hby d1_5) rfl k) ?_
  show own_Fin p.tables e below _ (s₁.setTop (mkF m 6 #[.val (.long q0), .second, .val (.int p1), .val (.int p2)] [(.long (p1.toInt64)), (.long (q0 <<< ((21 : Int32) &&& 0x3f).toInt64))]))
  refine own_by (fun _ k => XS.bipush X0.here hx rfl (hb hby d1_6) k) ?_
  show own_Fin p.tables e below _ (s₁.setTop (mkF m 8 #[.val (.long q0), .second, .val (.int p1), .val (.int p2)] [(.int (11 : Int32)), (.long (p1.toInt64)), (.long (q0 <<< ((21 : Int32) &&& 0x3f).toInt64))]))
  refine own_by (fun _ k => XS.lshl X0.here hx rfl (hb hby d1_8) rfl k) ?_
  show own_Fin p.tables e below _ (s₁.setTop (mkF m 9 #[.val (.long q0), .second, .val (.int p1), .val (.int p2)] [(.long ((p1.toInt64) <<< ((11 : Int32) &&& 0x3f).toInt64)), (.long (q0 <<< ((21 : Int32) &&& 0x3f).toInt64))]))
  refine own_by (fun _ k => XS.lor X0.here hx rfl (hb hby d1_9) rfl k) ?_
  show own_Fin p.tables e below _ (s₁.setTop (mkF m 10 #[.val (.long q0), .second, .val (.int p1), .val (.int p2)] [(.long ((q0 <<< ((21 : Int32) &&& 0x3f).toInt64) ||| ((p1.toInt64) <<< ((11 : Int32) &&& 0x3f).toInt64)))]))
  refine own_by (fun _ k => XS.iloadN X0.here hx rfl (hb hby d1_10) rfl k) ?_
  show own_Fin p.tables e below _ (s₁.setTop (mkF m 11 #[.val (.long q0), .second, .val (.int p1), .val (.int p2)] [(.int p2), (.long ((q0 <<< ((21 : Int32) &&& 0x3f).toInt64) ||| ((p1.toInt64) <<< ((11 : Int32) &&& 0x3f).toInt64)))]))
  refine own_by (fun _ k => XS.i2l X0.here hx rfl (hb hby d1_11) rfl k) ?_
  show own_Fin p.tables e below _ (s₁.setTop (mkF m 12 #[.val (.long q0), .second, .val (.int p1), .val (.int p2)] [(.long (p2.toInt64)), (.long ((q0 <<< ((21 : Int32) &&& 0x3f).toInt64) ||| ((p1.toInt64) <<< ((11 : Int32) &&& 0x3f).toInt64)))]))
  refine own_by (fun _ k => XS.lor X0.here hx rfl (hb hby d1_12) rfl k) ?_
  show own_Fin p.tables e below _ (s₁.setTop (mkF m 13 #[.val (.long q0), .second, .val (.int p1), .val (.int p2)] [(.long (((q0 <<< ((21 : Int32) &&& 0x3f).toInt64) ||| ((p1.toInt64) <<< ((11 : Int32) &&& 0x3f).toInt64)) ||| (p2.toInt64)))]))
  have ef : f1 q0 p1 p2 = (((q0 <<< ((21 : Int32) &&& 0x3f).toInt64) ||| ((p1.toInt64) <<< ((11 : Int32) &&& 0x3f).toInt64)) ||| (p2.toInt64)) := rfl
  exact own_retJ X0 hx Bd.returns hlk (hb hby d1_13) (by decide) (by decide) ⟨by rw [ef], N0, e0⟩
theorem pd__JII_J : parseMethodDescriptor "(JII)J" = some ⟨[.long, .int, .int], some .long⟩ := by decide +kernel
theorem pn_com_example_glass_shards_glassshards_IdValuePinLaw : plainName "com/example/glass_shards/glassshards/IdValuePinLaw" = true := by first | (simp [plainName, overriddenIn]; done) | decide +kernel
theorem ef_0 (m : MethodId) (q0 : Int64) (p1 : Int32) (p2 : Int32) : entryFrame m #[(.long q0), (.int p1), (.int p2)] maxLocals = mkF m 0 #[.val (.long q0), .second, .val (.int p1), .val (.int p2), .unset, .unset, .unset, .unset, .unset, .unset, .unset, .unset] [] := by first | (simp [entryFrame, mkF, argsToLocals, Value.category, maxLocals]; done) | rfl
def f0 (q0 : Int64) (p1 : Int32) (p2 : Int32) : Int32 :=
  if (f1 (q0 &&& (4398046511103 : Int64)) (p1 &&& (1023 : Int32)) (p2 &&& (2047 : Int32))) = ((((q0 &&& (4398046511103 : Int64)) * (2097152 : Int64)) + (((p1 &&& (1023 : Int32)).toInt64) * (2048 : Int64))) + ((p2 &&& (2047 : Int32)).toInt64)) then
    if (f1 (q0 &&& (4398046511103 : Int64)) (p1 &&& (1023 : Int32)) (p2 &&& (2047 : Int32))) < (0 : Int64) then
      (0 : Int32)
    else
      (1 : Int32)
  else
    (0 : Int32)
def Q0 (q0 : Int64) (p1 : Int32) (p2 : Int32) (h0 : Heap) (n0 : Nat) (v : Option Value) (h : Heap) (L : List Loc) : Prop := v = some (.int (f0 q0 p1 p2)) ∧ Fr n0 L
set_option maxRecDepth 65536 in
set_option maxHeartbeats 40000000 in
theorem rm0 (l : Launch) (Z : State) (a0 : Array Value) (hw : ∀ d ∈ tables_1, d.before a0 Z = true) (ws : List Jvm.Cond) (q0 : Int64) (p1 : Int32) (p2 : Int32)   (h0 : Heap) (n0 : Nat) (Z0 : n0 ≤ h0.size)   :
    MetFree l x (head1 (Jvm.Cond.code x code maxLocals ret :: ws) room_1) (fun a U => a = #[(.long q0), (.int p1), (.int p2)] ∧ Z.Warmed39 U.vm ∧ U.heap = h0) (fun _ _ _ _ _ => True) (fun _ U o U' => ∃ v L, o = .returned v ∧ Q0 q0 p1 p2 h0 n0 v U'.heap L ∧ FrameEnd U o U' L 0 0) := by
  refine MetFree.of_bodySF (plainFor_of_name pn_com_example_glass_shards_glassshards_IdValuePinLaw) hisR ?_
  intro p e s m args below meth c s₁ Bd hml0 hP hK
  obtain ⟨rfl, hZ, hh⟩ := hP
  have hx := Bd.exec
  have hby := Bd.bytes
  have hlk : meth.locks = false := BodyLoose.notSynchronized Bd
  have hml : c.maxLocals = 12 := hml0
  have hown : s.vm.findClass "com/example/glass_shards/glassshards/IdValuePinLaw" = some m.cls := findClass_of_methodNamed Bd.named
  have hnm := (name_of_methodNamed Bd.named Bd.method).1
  have X0 : Stand p l e room_1 s m #[(.long q0), (.int p1), (.int p2)] below meth c s₁ [] 0 0 := Stand.of_body Bd
  have e0 : s₁.heap = h0 := by rw [← hh, Bd.state]; rfl
  have N0 := Fr.nil n0
  refine own_by (U' := s₁.setTop (mkF m 0 #[.val (.long q0), .second, .val (.int p1), .val (.int p2), .unset, .unset, .unset, .unset, .unset, .unset, .unset, .unset] [])) (fun t k => castTop (ef_0 m q0 p1 p2) k) ?_
  refine own_by (fun _ k => XS.lloadN X0.here hx rfl (hb hby at_0) rfl k) ?_
  show own_Fin p.tables e below _ (s₁.setTop (mkF m 1 #[.val (.long q0), .second, .val (.int p1), .val (.int p2), .unset, .unset, .unset, .unset, .unset, .unset, .unset, .unset] [(.long q0)]))
  refine own_by (X0.ldc2Long hx hown (mvT hZ (hw _ (List.mem_of_getElem? (i := 0) rfl))) (g := (mkF m 1 #[.val (.long q0), .second, .val (.int p1), .val (.int p2), .unset, .unset, .unset, .unset, .unset, .unset, .unset, .unset] [(.long q0)])) rfl (hb hby at_1)) ?_
  show own_Fin p.tables e below _ (s₁.setTop (mkF m 4 #[.val (.long q0), .second, .val (.int p1), .val (.int p2), .unset, .unset, .unset, .unset, .unset, .unset, .unset, .unset] [(.long (4398046511103 : Int64)), (.long q0)]))
  refine own_by (fun _ k => XS.land X0.here hx rfl (hb hby at_4) rfl k) ?_
  show own_Fin p.tables e below _ (s₁.setTop (mkF m 5 #[.val (.long q0), .second, .val (.int p1), .val (.int p2), .unset, .unset, .unset, .unset, .unset, .unset, .unset, .unset] [(.long (q0 &&& (4398046511103 : Int64)))]))
  refine own_by (fun _ k => XS.lstore X0.here hx rfl (hb hby at_5) rfl (l' := #[.val (.long q0), .second, .val (.int p1), .val (.int p2), .val (.long (q0 &&& (4398046511103 : Int64))), .second, .unset, .unset, .unset, .unset, .unset, .unset]) rfl k) ?_
  show own_Fin p.tables e below _ (s₁.setTop (mkF m 7 #[.val (.long q0), .second, .val (.int p1), .val (.int p2), .val (.long (q0 &&& (4398046511103 : Int64))), .second, .unset, .unset, .unset, .unset, .unset, .unset] []))
  refine own_by (fun _ k => XS.iloadN X0.here hx rfl (hb hby at_7) rfl k) ?_
  show own_Fin p.tables e below _ (s₁.setTop (mkF m 8 #[.val (.long q0), .second, .val (.int p1), .val (.int p2), .val (.long (q0 &&& (4398046511103 : Int64))), .second, .unset, .unset, .unset, .unset, .unset, .unset] [(.int p1)]))
  refine own_by (fun _ k => XS.sipush X0.here hx rfl (hb hby at_8) k) ?_
  show own_Fin p.tables e below _ (s₁.setTop (mkF m 11 #[.val (.long q0), .second, .val (.int p1), .val (.int p2), .val (.long (q0 &&& (4398046511103 : Int64))), .second, .unset, .unset, .unset, .unset, .unset, .unset] [(.int (1023 : Int32)), (.int p1)]))
  refine own_by (fun _ k => XS.iand X0.here hx rfl (hb hby at_11) rfl k) ?_
  show own_Fin p.tables e below _ (s₁.setTop (mkF m 12 #[.val (.long q0), .second, .val (.int p1), .val (.int p2), .val (.long (q0 &&& (4398046511103 : Int64))), .second, .unset, .unset, .unset, .unset, .unset, .unset] [(.int (p1 &&& (1023 : Int32)))]))
  refine own_by (fun _ k => XS.istore X0.here hx rfl (hb hby at_12) rfl (l' := #[.val (.long q0), .second, .val (.int p1), .val (.int p2), .val (.long (q0 &&& (4398046511103 : Int64))), .second, .val (.int (p1 &&& (1023 : Int32))), .unset, .unset, .unset, .unset, .unset]) rfl k) ?_
  show own_Fin p.tables e below _ (s₁.setTop (mkF m 14 #[.val (.long q0), .second, .val (.int p1), .val (.int p2), .val (.long (q0 &&& (4398046511103 : Int64))), .second, .val (.int (p1 &&& (1023 : Int32))), .unset, .unset, .unset, .unset, .unset] []))
  refine own_by (fun _ k => XS.iloadN X0.here hx rfl (hb hby at_14) rfl k) ?_
  show own_Fin p.tables e below _ (s₁.setTop (mkF m 15 #[.val (.long q0), .second, .val (.int p1), .val (.int p2), .val (.long (q0 &&& (4398046511103 : Int64))), .second, .val (.int (p1 &&& (1023 : Int32))), .unset, .unset, .unset, .unset, .unset] [(.int p2)]))
  refine own_by (fun _ k => XS.sipush X0.here hx rfl (hb hby at_15) k) ?_
  show own_Fin p.tables e below _ (s₁.setTop (mkF m 18 #[.val (.long q0), .second, .val (.int p1), .val (.int p2), .val (.long (q0 &&& (4398046511103 : Int64))), .second, .val (.int (p1 &&& (1023 : Int32))), .unset, .unset, .unset, .unset, .unset] [(.int (2047 : Int32)), (.int p2)]))
  refine own_by (fun _ k => XS.iand X0.here hx rfl (hb hby at_18) rfl k) ?_
  show own_Fin p.tables e below _ (s₁.setTop (mkF m 19 #[.val (.long q0), .second, .val (.int p1), .val (.int p2), .val (.long (q0 &&& (4398046511103 : Int64))), .second, .val (.int (p1 &&& (1023 : Int32))), .unset, .unset, .unset, .unset, .unset] [(.int (p2 &&& (2047 : Int32)))]))
  refine own_by (fun _ k => XS.istore X0.here hx rfl (hb hby at_19) rfl (l' := #[.val (.long q0), .second, .val (.int p1), .val (.int p2), .val (.long (q0 &&& (4398046511103 : Int64))), .second, .val (.int (p1 &&& (1023 : Int32))), .val (.int (p2 &&& (2047 : Int32))), .unset, .unset, .unset, .unset]) rfl k) ?_
  show own_Fin p.tables e below _ (s₁.setTop (mkF m 21 #[.val (.long q0), .second, .val (.int p1), .val (.int p2), .val (.long (q0 &&& (4398046511103 : Int64))), .second, .val (.int (p1 &&& (1023 : Int32))), .val (.int (p2 &&& (2047 : Int32))), .unset, .unset, .unset, .unset] []))
  refine own_by (fun _ k => XS.lload X0.here hx rfl (hb hby at_21) rfl k) ?_
  show own_Fin p.tables e below _ (s₁.setTop (mkF m 23 #[.val (.long q0), .second, .val (.int p1), .val (.int p2), .val (.long (q0 &&& (4398046511103 : Int64))), .second, .val (.int (p1 &&& (1023 : Int32))), .val (.int (p2 &&& (2047 : Int32))), .unset, .unset, .unset, .unset] [(.long (q0 &&& (4398046511103 : Int64)))]))
  refine own_by (fun _ k => XS.iload X0.here hx rfl (hb hby at_23) rfl k) ?_
  show own_Fin p.tables e below _ (s₁.setTop (mkF m 25 #[.val (.long q0), .second, .val (.int p1), .val (.int p2), .val (.long (q0 &&& (4398046511103 : Int64))), .second, .val (.int (p1 &&& (1023 : Int32))), .val (.int (p2 &&& (2047 : Int32))), .unset, .unset, .unset, .unset] [(.int (p1 &&& (1023 : Int32))), (.long (q0 &&& (4398046511103 : Int64)))]))
  refine own_by (fun _ k => XS.iload X0.here hx rfl (hb hby at_25) rfl k) ?_
  show own_Fin p.tables e below _ (s₁.setTop (mkF m 27 #[.val (.long q0), .second, .val (.int p1), .val (.int p2), .val (.long (q0 &&& (4398046511103 : Int64))), .second, .val (.int (p1 &&& (1023 : Int32))), .val (.int (p2 &&& (2047 : Int32))), .unset, .unset, .unset, .unset] [(.int (p2 &&& (2047 : Int32))), (.int (p1 &&& (1023 : Int32))), (.long (q0 &&& (4398046511103 : Int64)))]))
  obtain ⟨_, _, ⟨T1, L1, k1, n1⟩, -, X1, ⟨Lc1, hQ1, l1, y1, z1⟩, st1⟩ := Jvm.LawKit.callS X0 hx (y := (⟨"com/example/glass_shards/glassshards/Id", "value", "(JII)J"⟩ : MethodName)) hown (mvT hZ (hw _ (List.mem_of_getElem? (i := 1) rfl))) (mvT hZ (hw _ (List.mem_of_getElem? (i := 2) rfl))) (mvT hZ (hw _ (List.mem_of_getElem? (i := 3) rfl))) (mvT hZ (hw _ (List.mem_of_getElem? (i := 4) rfl))) (by decide) (backOf (W := 0) (rm1 l Z a0 hw [] (q0 &&& (4398046511103 : Int64)) (p1 &&& (1023 : Int32)) (p2 &&& (2047 : Int32)) h0 n0 Z0 ) hZ (hw _ (List.mem_of_getElem? (i := 4) rfl)) (hw _ (List.mem_of_getElem? (i := 3) rfl)) (by decide) (by decide)) (g := (mkF m 27 #[.val (.long q0), .second, .val (.int p1), .val (.int p2), .val (.long (q0 &&& (4398046511103 : Int64))), .second, .val (.int (p1 &&& (1023 : Int32))), .val (.int (p2 &&& (2047 : Int32))), .unset, .unset, .unset, .unset] [(.int (p2 &&& (2047 : Int32))), (.int (p1 &&& (1023 : Int32))), (.long (q0 &&& (4398046511103 : Int64)))])) rfl (by rw [hml]; rfl) (argsL := [(.long (q0 &&& (4398046511103 : Int64))), (.int (p1 &&& (1023 : Int32))), (.int (p2 &&& (2047 : Int32)))]) (rest := []) (lenOf pd__JII_J rfl) rfl (by show 2 * 0 + _ ≤ _; exact Nat.le_of_eq rfl) (hb hby at_27) (fun _ _ => ⟨rfl, e0, (by decide : 0 + 0 ≤ _), (by decide : 0 + 0 ≤ _)⟩)
  dsimp only [Pt.U, Pt.locs, Pt.cells, Pt.slots] at X1 l1 y1 z1 st1 hQ1
  subst l1 y1 z1
  obtain ⟨rfl, N1q, e1⟩ := hQ1
  have N1 := Fr.app N0 N1q
  refine own_by st1 ?_
  show own_Fin p.tables e below _ (T1.setTop (mkF m 30 #[.val (.long q0), .second, .val (.int p1), .val (.int p2), .val (.long (q0 &&& (4398046511103 : Int64))), .second, .val (.int (p1 &&& (1023 : Int32))), .val (.int (p2 &&& (2047 : Int32))), .unset, .unset, .unset, .unset] [(.long (f1 (q0 &&& (4398046511103 : Int64)) (p1 &&& (1023 : Int32)) (p2 &&& (2047 : Int32))))]))
  refine own_by (fun _ k => XS.lstore X1.here hx rfl (hb hby at_30) rfl (l' := #[.val (.long q0), .second, .val (.int p1), .val (.int p2), .val (.long (q0 &&& (4398046511103 : Int64))), .second, .val (.int (p1 &&& (1023 : Int32))), .val (.int (p2 &&& (2047 : Int32))), .val (.long (f1 (q0 &&& (4398046511103 : Int64)) (p1 &&& (1023 : Int32)) (p2 &&& (2047 : Int32)))), .second, .unset, .unset]) rfl k) ?_
  show own_Fin p.tables e below _ (T1.setTop (mkF m 32 #[.val (.long q0), .second, .val (.int p1), .val (.int p2), .val (.long (q0 &&& (4398046511103 : Int64))), .second, .val (.int (p1 &&& (1023 : Int32))), .val (.int (p2 &&& (2047 : Int32))), .val (.long (f1 (q0 &&& (4398046511103 : Int64)) (p1 &&& (1023 : Int32)) (p2 &&& (2047 : Int32)))), .second, .unset, .unset] []))
  refine own_by (fun _ k => XS.lload X1.here hx rfl (hb hby at_32) rfl k) ?_
  show own_Fin p.tables e below _ (T1.setTop (mkF m 34 #[.val (.long q0), .second, .val (.int p1), .val (.int p2), .val (.long (q0 &&& (4398046511103 : Int64))), .second, .val (.int (p1 &&& (1023 : Int32))), .val (.int (p2 &&& (2047 : Int32))), .val (.long (f1 (q0 &&& (4398046511103 : Int64)) (p1 &&& (1023 : Int32)) (p2 &&& (2047 : Int32)))), .second, .unset, .unset] [(.long (q0 &&& (4398046511103 : Int64)))]))
  refine own_by (X1.ldc2Long hx hown (mvT hZ (hw _ (List.mem_of_getElem? (i := 5) rfl))) (g := (mkF m 34 #[.val (.long q0), .second, .val (.int p1), .val (.int p2), .val (.long (q0 &&& (4398046511103 : Int64))), .second, .val (.int (p1 &&& (1023 : Int32))), .val (.int (p2 &&& (2047 : Int32))), .val (.long (f1 (q0 &&& (4398046511103 : Int64)) (p1 &&& (1023 : Int32)) (p2 &&& (2047 : Int32)))), .second, .unset, .unset] [(.long (q0 &&& (4398046511103 : Int64)))])) rfl (hb hby at_34)) ?_
  show own_Fin p.tables e below _ (T1.setTop (mkF m 37 #[.val (.long q0), .second, .val (.int p1), .val (.int p2), .val (.long (q0 &&& (4398046511103 : Int64))), .second, .val (.int (p1 &&& (1023 : Int32))), .val (.int (p2 &&& (2047 : Int32))), .val (.long (f1 (q0 &&& (4398046511103 : Int64)) (p1 &&& (1023 : Int32)) (p2 &&& (2047 : Int32)))), .second, .unset, .unset] [(.long (2097152 : Int64)), (.long (q0 &&& (4398046511103 : Int64)))]))
  refine own_by (fun _ k => XS.lmul X1.here hx rfl (hb hby at_37) rfl k) ?_
  show own_Fin p.tables e below _ (T1.setTop (mkF m 38 #[.val (.long q0), .second, .val (.int p1), .val (.int p2), .val (.long (q0 &&& (4398046511103 : Int64))), .second, .val (.int (p1 &&& (1023 : Int32))), .val (.int (p2 &&& (2047 : Int32))), .val (.long (f1 (q0 &&& (4398046511103 : Int64)) (p1 &&& (1023 : Int32)) (p2 &&& (2047 : Int32)))), .second, .unset, .unset] [(.long ((q0 &&& (4398046511103 : Int64)) * (2097152 : Int64)))]))
  refine own_by (fun _ k => XS.iload X1.here hx rfl (hb hby at_38) rfl k) ?_
  show own_Fin p.tables e below _ (T1.setTop (mkF m 40 #[.val (.long q0), .second, .val (.int p1), .val (.int p2), .val (.long (q0 &&& (4398046511103 : Int64))), .second, .val (.int (p1 &&& (1023 : Int32))), .val (.int (p2 &&& (2047 : Int32))), .val (.long (f1 (q0 &&& (4398046511103 : Int64)) (p1 &&& (1023 : Int32)) (p2 &&& (2047 : Int32)))), .second, .unset, .unset] [(.int (p1 &&& (1023 : Int32))), (.long ((q0 &&& (4398046511103 : Int64)) * (2097152 : Int64)))]))
  refine own_by (fun _ k => XS.i2l X1.here hx rfl (hb hby at_40) rfl k) ?_
  show own_Fin p.tables e below _ (T1.setTop (mkF m 41 #[.val (.long q0), .second, .val (.int p1), .val (.int p2), .val (.long (q0 &&& (4398046511103 : Int64))), .second, .val (.int (p1 &&& (1023 : Int32))), .val (.int (p2 &&& (2047 : Int32))), .val (.long (f1 (q0 &&& (4398046511103 : Int64)) (p1 &&& (1023 : Int32)) (p2 &&& (2047 : Int32)))), .second, .unset, .unset] [(.long ((p1 &&& (1023 : Int32)).toInt64)), (.long ((q0 &&& (4398046511103 : Int64)) * (2097152 : Int64)))]))
  refine own_by (X1.ldc2Long hx hown (mvT hZ (hw _ (List.mem_of_getElem? (i := 6) rfl))) (g := (mkF m 41 #[.val (.long q0), .second, .val (.int p1), .val (.int p2), .val (.long (q0 &&& (4398046511103 : Int64))), .second, .val (.int (p1 &&& (1023 : Int32))), .val (.int (p2 &&& (2047 : Int32))), .val (.long (f1 (q0 &&& (4398046511103 : Int64)) (p1 &&& (1023 : Int32)) (p2 &&& (2047 : Int32)))), .second, .unset, .unset] [(.long ((p1 &&& (1023 : Int32)).toInt64)), (.long ((q0 &&& (4398046511103 : Int64)) * (2097152 : Int64)))])) rfl (hb hby at_41)) ?_
  show own_Fin p.tables e below _ (T1.setTop (mkF m 44 #[.val (.long q0), .second, .val (.int p1), .val (.int p2), .val (.long (q0 &&& (4398046511103 : Int64))), .second, .val (.int (p1 &&& (1023 : Int32))), .val (.int (p2 &&& (2047 : Int32))), .val (.long (f1 (q0 &&& (4398046511103 : Int64)) (p1 &&& (1023 : Int32)) (p2 &&& (2047 : Int32)))), .second, .unset, .unset] [(.long (2048 : Int64)), (.long ((p1 &&& (1023 : Int32)).toInt64)), (.long ((q0 &&& (4398046511103 : Int64)) * (2097152 : Int64)))]))
  refine own_by (fun _ k => XS.lmul X1.here hx rfl (hb hby at_44) rfl k) ?_
  show own_Fin p.tables e below _ (T1.setTop (mkF m 45 #[.val (.long q0), .second, .val (.int p1), .val (.int p2), .val (.long (q0 &&& (4398046511103 : Int64))), .second, .val (.int (p1 &&& (1023 : Int32))), .val (.int (p2 &&& (2047 : Int32))), .val (.long (f1 (q0 &&& (4398046511103 : Int64)) (p1 &&& (1023 : Int32)) (p2 &&& (2047 : Int32)))), .second, .unset, .unset] [(.long (((p1 &&& (1023 : Int32)).toInt64) * (2048 : Int64))), (.long ((q0 &&& (4398046511103 : Int64)) * (2097152 : Int64)))]))
  refine own_by (fun _ k => XS.ladd X1.here hx rfl (hb hby at_45) rfl k) ?_
  show own_Fin p.tables e below _ (T1.setTop (mkF m 46 #[.val (.long q0), .second, .val (.int p1), .val (.int p2), .val (.long (q0 &&& (4398046511103 : Int64))), .second, .val (.int (p1 &&& (1023 : Int32))), .val (.int (p2 &&& (2047 : Int32))), .val (.long (f1 (q0 &&& (4398046511103 : Int64)) (p1 &&& (1023 : Int32)) (p2 &&& (2047 : Int32)))), .second, .unset, .unset] [(.long (((q0 &&& (4398046511103 : Int64)) * (2097152 : Int64)) + (((p1 &&& (1023 : Int32)).toInt64) * (2048 : Int64))))]))
  refine own_by (fun _ k => XS.iload X1.here hx rfl (hb hby at_46) rfl k) ?_
  show own_Fin p.tables e below _ (T1.setTop (mkF m 48 #[.val (.long q0), .second, .val (.int p1), .val (.int p2), .val (.long (q0 &&& (4398046511103 : Int64))), .second, .val (.int (p1 &&& (1023 : Int32))), .val (.int (p2 &&& (2047 : Int32))), .val (.long (f1 (q0 &&& (4398046511103 : Int64)) (p1 &&& (1023 : Int32)) (p2 &&& (2047 : Int32)))), .second, .unset, .unset] [(.int (p2 &&& (2047 : Int32))), (.long (((q0 &&& (4398046511103 : Int64)) * (2097152 : Int64)) + (((p1 &&& (1023 : Int32)).toInt64) * (2048 : Int64))))]))
  refine own_by (fun _ k => XS.i2l X1.here hx rfl (hb hby at_48) rfl k) ?_
  show own_Fin p.tables e below _ (T1.setTop (mkF m 49 #[.val (.long q0), .second, .val (.int p1), .val (.int p2), .val (.long (q0 &&& (4398046511103 : Int64))), .second, .val (.int (p1 &&& (1023 : Int32))), .val (.int (p2 &&& (2047 : Int32))), .val (.long (f1 (q0 &&& (4398046511103 : Int64)) (p1 &&& (1023 : Int32)) (p2 &&& (2047 : Int32)))), .second, .unset, .unset] [(.long ((p2 &&& (2047 : Int32)).toInt64)), (.long (((q0 &&& (4398046511103 : Int64)) * (2097152 : Int64)) + (((p1 &&& (1023 : Int32)).toInt64) * (2048 : Int64))))]))
  refine own_by (fun _ k => XS.ladd X1.here hx rfl (hb hby at_49) rfl k) ?_
  show own_Fin p.tables e below _ (T1.setTop (mkF m 50 #[.val (.long q0), .second, .val (.int p1), .val (.int p2), .val (.long (q0 &&& (4398046511103 : Int64))), .second, .val (.int (p1 &&& (1023 : Int32))), .val (.int (p2 &&& (2047 : Int32))), .val (.long (f1 (q0 &&& (4398046511103 : Int64)) (p1 &&& (1023 : Int32)) (p2 &&& (2047 : Int32)))), .second, .unset, .unset] [(.long ((((q0 &&& (4398046511103 : Int64)) * (2097152 : Int64)) + (((p1 &&& (1023 : Int32)).toInt64) * (2048 : Int64))) + ((p2 &&& (2047 : Int32)).toInt64)))]))
  refine own_by (fun _ k => XS.lstore X1.here hx rfl (hb hby at_50) rfl (l' := #[.val (.long q0), .second, .val (.int p1), .val (.int p2), .val (.long (q0 &&& (4398046511103 : Int64))), .second, .val (.int (p1 &&& (1023 : Int32))), .val (.int (p2 &&& (2047 : Int32))), .val (.long (f1 (q0 &&& (4398046511103 : Int64)) (p1 &&& (1023 : Int32)) (p2 &&& (2047 : Int32)))), .second, .val (.long ((((q0 &&& (4398046511103 : Int64)) * (2097152 : Int64)) + (((p1 &&& (1023 : Int32)).toInt64) * (2048 : Int64))) + ((p2 &&& (2047 : Int32)).toInt64))), .second]) rfl k) ?_
  show own_Fin p.tables e below _ (T1.setTop (mkF m 52 #[.val (.long q0), .second, .val (.int p1), .val (.int p2), .val (.long (q0 &&& (4398046511103 : Int64))), .second, .val (.int (p1 &&& (1023 : Int32))), .val (.int (p2 &&& (2047 : Int32))), .val (.long (f1 (q0 &&& (4398046511103 : Int64)) (p1 &&& (1023 : Int32)) (p2 &&& (2047 : Int32)))), .second, .val (.long ((((q0 &&& (4398046511103 : Int64)) * (2097152 : Int64)) + (((p1 &&& (1023 : Int32)).toInt64) * (2048 : Int64))) + ((p2 &&& (2047 : Int32)).toInt64))), .second] []))
  refine own_by (fun _ k => XS.lload X1.here hx rfl (hb hby at_52) rfl k) ?_
  show own_Fin p.tables e below _ (T1.setTop (mkF m 54 #[.val (.long q0), .second, .val (.int p1), .val (.int p2), .val (.long (q0 &&& (4398046511103 : Int64))), .second, .val (.int (p1 &&& (1023 : Int32))), .val (.int (p2 &&& (2047 : Int32))), .val (.long (f1 (q0 &&& (4398046511103 : Int64)) (p1 &&& (1023 : Int32)) (p2 &&& (2047 : Int32)))), .second, .val (.long ((((q0 &&& (4398046511103 : Int64)) * (2097152 : Int64)) + (((p1 &&& (1023 : Int32)).toInt64) * (2048 : Int64))) + ((p2 &&& (2047 : Int32)).toInt64))), .second] [(.long (f1 (q0 &&& (4398046511103 : Int64)) (p1 &&& (1023 : Int32)) (p2 &&& (2047 : Int32))))]))
  refine own_by (fun _ k => XS.lload X1.here hx rfl (hb hby at_54) rfl k) ?_
  show own_Fin p.tables e below _ (T1.setTop (mkF m 56 #[.val (.long q0), .second, .val (.int p1), .val (.int p2), .val (.long (q0 &&& (4398046511103 : Int64))), .second, .val (.int (p1 &&& (1023 : Int32))), .val (.int (p2 &&& (2047 : Int32))), .val (.long (f1 (q0 &&& (4398046511103 : Int64)) (p1 &&& (1023 : Int32)) (p2 &&& (2047 : Int32)))), .second, .val (.long ((((q0 &&& (4398046511103 : Int64)) * (2097152 : Int64)) + (((p1 &&& (1023 : Int32)).toInt64) * (2048 : Int64))) + ((p2 &&& (2047 : Int32)).toInt64))), .second] [(.long ((((q0 &&& (4398046511103 : Int64)) * (2097152 : Int64)) + (((p1 &&& (1023 : Int32)).toInt64) * (2048 : Int64))) + ((p2 &&& (2047 : Int32)).toInt64))), (.long (f1 (q0 &&& (4398046511103 : Int64)) (p1 &&& (1023 : Int32)) (p2 &&& (2047 : Int32))))]))
  refine own_by (fun _ k => XS.lcmp X1.here hx rfl (hb hby at_56) rfl k) ?_
  show own_Fin p.tables e below _ (T1.setTop (mkF m 57 #[.val (.long q0), .second, .val (.int p1), .val (.int p2), .val (.long (q0 &&& (4398046511103 : Int64))), .second, .val (.int (p1 &&& (1023 : Int32))), .val (.int (p2 &&& (2047 : Int32))), .val (.long (f1 (q0 &&& (4398046511103 : Int64)) (p1 &&& (1023 : Int32)) (p2 &&& (2047 : Int32)))), .second, .val (.long ((((q0 &&& (4398046511103 : Int64)) * (2097152 : Int64)) + (((p1 &&& (1023 : Int32)).toInt64) * (2048 : Int64))) + ((p2 &&& (2047 : Int32)).toInt64))), .second] [(.int (lcmpW (f1 (q0 &&& (4398046511103 : Int64)) (p1 &&& (1023 : Int32)) (p2 &&& (2047 : Int32))) ((((q0 &&& (4398046511103 : Int64)) * (2097152 : Int64)) + (((p1 &&& (1023 : Int32)).toInt64) * (2048 : Int64))) + ((p2 &&& (2047 : Int32)).toInt64))))]))
  by_cases hc2 : (f1 (q0 &&& (4398046511103 : Int64)) (p1 &&& (1023 : Int32)) (p2 &&& (2047 : Int32))) = ((((q0 &&& (4398046511103 : Int64)) * (2097152 : Int64)) + (((p1 &&& (1023 : Int32)).toInt64) * (2048 : Int64))) + ((p2 &&& (2047 : Int32)).toInt64))
  · refine own_by (fun _ k => XS.ifNo X1.here hx rfl (hb hby at_57) rfl ((if0 _ _).trans (teq ((lw_eq _ _).mpr hc2)).2) k) ?_
    show own_Fin p.tables e below _ (T1.setTop (mkF m 60 #[.val (.long q0), .second, .val (.int p1), .val (.int p2), .val (.long (q0 &&& (4398046511103 : Int64))), .second, .val (.int (p1 &&& (1023 : Int32))), .val (.int (p2 &&& (2047 : Int32))), .val (.long (f1 (q0 &&& (4398046511103 : Int64)) (p1 &&& (1023 : Int32)) (p2 &&& (2047 : Int32)))), .second, .val (.long ((((q0 &&& (4398046511103 : Int64)) * (2097152 : Int64)) + (((p1 &&& (1023 : Int32)).toInt64) * (2048 : Int64))) + ((p2 &&& (2047 : Int32)).toInt64))), .second] []))
    refine own_by (fun _ k => XS.lload X1.here hx rfl (hb hby at_60) rfl k) ?_
    show own_Fin p.tables e below _ (T1.setTop (mkF m 62 #[.val (.long q0), .second, .val (.int p1), .val (.int p2), .val (.long (q0 &&& (4398046511103 : Int64))), .second, .val (.int (p1 &&& (1023 : Int32))), .val (.int (p2 &&& (2047 : Int32))), .val (.long (f1 (q0 &&& (4398046511103 : Int64)) (p1 &&& (1023 : Int32)) (p2 &&& (2047 : Int32)))), .second, .val (.long ((((q0 &&& (4398046511103 : Int64)) * (2097152 : Int64)) + (((p1 &&& (1023 : Int32)).toInt64) * (2048 : Int64))) + ((p2 &&& (2047 : Int32)).toInt64))), .second] [(.long (f1 (q0 &&& (4398046511103 : Int64)) (p1 &&& (1023 : Int32)) (p2 &&& (2047 : Int32))))]))
    refine own_by (fun _ k => XS.lconst X1.here hx rfl (hb hby at_62) k) ?_
    show own_Fin p.tables e below _ (T1.setTop (mkF m 63 #[.val (.long q0), .second, .val (.int p1), .val (.int p2), .val (.long (q0 &&& (4398046511103 : Int64))), .second, .val (.int (p1 &&& (1023 : Int32))), .val (.int (p2 &&& (2047 : Int32))), .val (.long (f1 (q0 &&& (4398046511103 : Int64)) (p1 &&& (1023 : Int32)) (p2 &&& (2047 : Int32)))), .second, .val (.long ((((q0 &&& (4398046511103 : Int64)) * (2097152 : Int64)) + (((p1 &&& (1023 : Int32)).toInt64) * (2048 : Int64))) + ((p2 &&& (2047 : Int32)).toInt64))), .second] [(.long (0 : Int64)), (.long (f1 (q0 &&& (4398046511103 : Int64)) (p1 &&& (1023 : Int32)) (p2 &&& (2047 : Int32))))]))
    refine own_by (fun _ k => XS.lcmp X1.here hx rfl (hb hby at_63) rfl k) ?_
    show own_Fin p.tables e below _ (T1.setTop (mkF m 64 #[.val (.long q0), .second, .val (.int p1), .val (.int p2), .val (.long (q0 &&& (4398046511103 : Int64))), .second, .val (.int (p1 &&& (1023 : Int32))), .val (.int (p2 &&& (2047 : Int32))), .val (.long (f1 (q0 &&& (4398046511103 : Int64)) (p1 &&& (1023 : Int32)) (p2 &&& (2047 : Int32)))), .second, .val (.long ((((q0 &&& (4398046511103 : Int64)) * (2097152 : Int64)) + (((p1 &&& (1023 : Int32)).toInt64) * (2048 : Int64))) + ((p2 &&& (2047 : Int32)).toInt64))), .second] [(.int (lcmpW (f1 (q0 &&& (4398046511103 : Int64)) (p1 &&& (1023 : Int32)) (p2 &&& (2047 : Int32))) (0 : Int64)))]))
    by_cases hc3 : (f1 (q0 &&& (4398046511103 : Int64)) (p1 &&& (1023 : Int32)) (p2 &&& (2047 : Int32))) < (0 : Int64)
    · refine own_by (fun _ k => XS.ifYes X1.here hx rfl (pc0 := 64) (pc' := 71) rfl (hb hby at_64) rfl ((if0 _ _).trans (tlt ((lw_lt _ _).mpr hc3)).1) (by decide) (by decide) k) ?_
      show own_Fin p.tables e below _ (T1.setTop (mkF m 71 #[.val (.long q0), .second, .val (.int p1), .val (.int p2), .val (.long (q0 &&& (4398046511103 : Int64))), .second, .val (.int (p1 &&& (1023 : Int32))), .val (.int (p2 &&& (2047 : Int32))), .val (.long (f1 (q0 &&& (4398046511103 : Int64)) (p1 &&& (1023 : Int32)) (p2 &&& (2047 : Int32)))), .second, .val (.long ((((q0 &&& (4398046511103 : Int64)) * (2097152 : Int64)) + (((p1 &&& (1023 : Int32)).toInt64) * (2048 : Int64))) + ((p2 &&& (2047 : Int32)).toInt64))), .second] []))
      refine own_by (fun _ k => XS.iconst X1.here hx rfl (hb hby at_71) k) ?_
      show own_Fin p.tables e below _ (T1.setTop (mkF m 72 #[.val (.long q0), .second, .val (.int p1), .val (.int p2), .val (.long (q0 &&& (4398046511103 : Int64))), .second, .val (.int (p1 &&& (1023 : Int32))), .val (.int (p2 &&& (2047 : Int32))), .val (.long (f1 (q0 &&& (4398046511103 : Int64)) (p1 &&& (1023 : Int32)) (p2 &&& (2047 : Int32)))), .second, .val (.long ((((q0 &&& (4398046511103 : Int64)) * (2097152 : Int64)) + (((p1 &&& (1023 : Int32)).toInt64) * (2048 : Int64))) + ((p2 &&& (2047 : Int32)).toInt64))), .second] [(.int (0 : Int32))]))
      have ef : f0 q0 p1 p2 = (0 : Int32) := by unfold f0; rw [if_pos hc2, if_pos hc3]
      exact own_retN X1 hx (t := .boolean) Bd.returns hlk (by simp) (hb hby at_72) (by decide) (by decide) ⟨by rw [ef]; rfl, N1⟩
    · refine own_by (fun _ k => XS.ifNo X1.here hx rfl (hb hby at_64) rfl ((if0 _ _).trans (flt (fun q => hc3 ((lw_lt _ _).mp q))).1) k) ?_
      show own_Fin p.tables e below _ (T1.setTop (mkF m 67 #[.val (.long q0), .second, .val (.int p1), .val (.int p2), .val (.long (q0 &&& (4398046511103 : Int64))), .second, .val (.int (p1 &&& (1023 : Int32))), .val (.int (p2 &&& (2047 : Int32))), .val (.long (f1 (q0 &&& (4398046511103 : Int64)) (p1 &&& (1023 : Int32)) (p2 &&& (2047 : Int32)))), .second, .val (.long ((((q0 &&& (4398046511103 : Int64)) * (2097152 : Int64)) + (((p1 &&& (1023 : Int32)).toInt64) * (2048 : Int64))) + ((p2 &&& (2047 : Int32)).toInt64))), .second] []))
      refine own_by (fun _ k => XS.iconst X1.here hx rfl (hb hby at_67) k) ?_
      show own_Fin p.tables e below _ (T1.setTop (mkF m 68 #[.val (.long q0), .second, .val (.int p1), .val (.int p2), .val (.long (q0 &&& (4398046511103 : Int64))), .second, .val (.int (p1 &&& (1023 : Int32))), .val (.int (p2 &&& (2047 : Int32))), .val (.long (f1 (q0 &&& (4398046511103 : Int64)) (p1 &&& (1023 : Int32)) (p2 &&& (2047 : Int32)))), .second, .val (.long ((((q0 &&& (4398046511103 : Int64)) * (2097152 : Int64)) + (((p1 &&& (1023 : Int32)).toInt64) * (2048 : Int64))) + ((p2 &&& (2047 : Int32)).toInt64))), .second] [(.int (1 : Int32))]))
      refine own_by (fun _ k => XS.goto X1.here hx rfl (pc0 := 68) (pc' := 72) rfl (hb hby at_68) (by decide) (by decide) k) ?_
      show own_Fin p.tables e below _ (T1.setTop (mkF m 72 #[.val (.long q0), .second, .val (.int p1), .val (.int p2), .val (.long (q0 &&& (4398046511103 : Int64))), .second, .val (.int (p1 &&& (1023 : Int32))), .val (.int (p2 &&& (2047 : Int32))), .val (.long (f1 (q0 &&& (4398046511103 : Int64)) (p1 &&& (1023 : Int32)) (p2 &&& (2047 : Int32)))), .second, .val (.long ((((q0 &&& (4398046511103 : Int64)) * (2097152 : Int64)) + (((p1 &&& (1023 : Int32)).toInt64) * (2048 : Int64))) + ((p2 &&& (2047 : Int32)).toInt64))), .second] [(.int (1 : Int32))]))
      have ef : f0 q0 p1 p2 = (1 : Int32) := by unfold f0; rw [if_pos hc2, if_neg hc3]
      exact own_retN X1 hx (t := .boolean) Bd.returns hlk (by simp) (hb hby at_72) (by decide) (by decide) ⟨by rw [ef]; rfl, N1⟩
  · refine own_by (fun _ k => XS.ifYes X1.here hx rfl (pc0 := 57) (pc' := 71) rfl (hb hby at_57) rfl ((if0 _ _).trans (feq (fun q => hc2 ((lw_eq _ _).mp q))).2) (by decide) (by decide) k) ?_
    show own_Fin p.tables e below _ (T1.setTop (mkF m 71 #[.val (.long q0), .second, .val (.int p1), .val (.int p2), .val (.long (q0 &&& (4398046511103 : Int64))), .second, .val (.int (p1 &&& (1023 : Int32))), .val (.int (p2 &&& (2047 : Int32))), .val (.long (f1 (q0 &&& (4398046511103 : Int64)) (p1 &&& (1023 : Int32)) (p2 &&& (2047 : Int32)))), .second, .val (.long ((((q0 &&& (4398046511103 : Int64)) * (2097152 : Int64)) + (((p1 &&& (1023 : Int32)).toInt64) * (2048 : Int64))) + ((p2 &&& (2047 : Int32)).toInt64))), .second] []))
    refine own_by (fun _ k => XS.iconst X1.here hx rfl (hb hby at_71) k) ?_
    show own_Fin p.tables e below _ (T1.setTop (mkF m 72 #[.val (.long q0), .second, .val (.int p1), .val (.int p2), .val (.long (q0 &&& (4398046511103 : Int64))), .second, .val (.int (p1 &&& (1023 : Int32))), .val (.int (p2 &&& (2047 : Int32))), .val (.long (f1 (q0 &&& (4398046511103 : Int64)) (p1 &&& (1023 : Int32)) (p2 &&& (2047 : Int32)))), .second, .val (.long ((((q0 &&& (4398046511103 : Int64)) * (2097152 : Int64)) + (((p1 &&& (1023 : Int32)).toInt64) * (2048 : Int64))) + ((p2 &&& (2047 : Int32)).toInt64))), .second] [(.int (0 : Int32))]))
    have ef : f0 q0 p1 p2 = (0 : Int32) := by unfold f0; rw [if_neg hc2]
    exact own_retN X1 hx (t := .boolean) Bd.returns hlk (by simp) (hb hby at_72) (by decide) (by decide) ⟨by rw [ef]; rfl, N1⟩
theorem own_shl (x : Int64) (q : Int32) (k : Nat) (hk : q.toBitVec.toNat % 64 = k) (K : Int) (hK : K = (2 ^ k : Nat)) (h1 : -9223372036854775808 ≤ x.toInt * K) (h2 : x.toInt * K < 9223372036854775808) : (x <<< (q &&& 0x3f).toInt64).toInt = x.toInt * K := by
  have a := c_lshl x q k hk
  have r := rng64 (x <<< (q &&& 0x3f).toInt64)
  rw [← hK] at a
  generalize x.toInt * K = t at *
  generalize (x <<< (q &&& 0x3f).toInt64).toInt = u at *
  omega
theorem own_orl (a b : Int64) (k : Nat) (hk : k ≤ 63) (P : Int) (hP : P = (2 ^ k : Nat)) (h0 : a.toInt % P = 0) (h1 : 0 ≤ b.toInt) (h2 : b.toInt < P) (h3 : 0 ≤ a.toInt) (h4 : a.toInt + b.toInt < 9223372036854775808) : (a ||| b).toInt = a.toInt + b.toInt := by
  have o := c_orL a b k hk P hP h0 h1 h2
  have r := rng64 (a ||| b)
  generalize (a ||| b).toInt = u at *
  omega
theorem own_1 (ms : Int64) (sh seq : Int32) (h0 : 0 ≤ ms.toInt) (h1 : ms.toInt < 4398046511104) (h2 : 0 ≤ sh.toInt) (h3 : sh.toInt < 1024) (h4 : 0 ≤ seq.toInt) (h5 : seq.toInt < 2048) :
    (f1 ms sh seq).toInt = ms.toInt * 2097152 + sh.toInt * 2048 + seq.toInt := by
  unfold f1
  have a1 := own_shl ms 21 21 (by decide) 2097152 (by decide) (by omega) (by omega)
  have a2 := own_shl sh.toInt64 11 11 (by decide) 2048 (by decide) (by rw [c_i2l]; omega) (by rw [c_i2l]; omega)
  rw [c_i2l] at a2
  have o1 := own_orl (ms <<< ((21 : Int32) &&& 0x3f).toInt64) (sh.toInt64 <<< ((11 : Int32) &&& 0x3f).toInt64) 21 (by decide) 2097152 (by decide) (by rw [a1]; omega) (by rw [a2]; omega) (by rw [a2]; omega) (by rw [a1]; omega) (by rw [a1, a2]; omega)
  rw [a1, a2] at o1
  have o2 := own_orl ((ms <<< ((21 : Int32) &&& 0x3f).toInt64) ||| (sh.toInt64 <<< ((11 : Int32) &&& 0x3f).toInt64)) seq.toInt64 11 (by decide) 2048 (by decide) (by rw [o1]; omega) (by rw [c_i2l]; omega) (by rw [c_i2l]; omega) (by rw [o1]; omega) (by rw [o1, c_i2l]; omega)
  rw [o1, c_i2l] at o2
  exact o2
theorem own_mulk (x k : Int64) (K : Int) (hk : k.toInt = K) (h1 : -9223372036854775808 ≤ x.toInt * K) (h2 : x.toInt * K < 9223372036854775808) : (x * k).toInt = x.toInt * K := by
  have a := c_lmul x k
  have r := rng64 (x * k)
  rw [hk] at a
  generalize x.toInt * K = t at *
  generalize (x * k).toInt = u at *
  omega
theorem own_addl (x y : Int64) (h1 : -9223372036854775808 ≤ x.toInt + y.toInt) (h2 : x.toInt + y.toInt < 9223372036854775808) : (x + y).toInt = x.toInt + y.toInt := by
  have a := c_ladd x y
  have r := rng64 (x + y)
  generalize (x + y).toInt = u at *
  omega
theorem own_2 (ms : Int64) (sh seq : Int32) (h0 : 0 ≤ ms.toInt) (h1 : ms.toInt < 4398046511104) (h2 : 0 ≤ sh.toInt) (h3 : sh.toInt < 1024) (h4 : 0 ≤ seq.toInt) (h5 : seq.toInt < 2048) :
    ((ms * (2097152 : Int64) + sh.toInt64 * (2048 : Int64)) + seq.toInt64).toInt = ms.toInt * 2097152 + sh.toInt * 2048 + seq.toInt := by
  have b1 := own_mulk ms 2097152 2097152 (by decide) (by omega) (by omega)
  have b2 := own_mulk sh.toInt64 2048 2048 (by decide) (by rw [c_i2l]; omega) (by rw [c_i2l]; omega)
  rw [c_i2l] at b2
  have b3 := own_addl (ms * 2097152) (sh.toInt64 * 2048) (by rw [b1, b2]; omega) (by rw [b1, b2]; omega)
  rw [b1, b2] at b3
  have b4 := own_addl (ms * 2097152 + sh.toInt64 * 2048) seq.toInt64 (by rw [b3, c_i2l]; omega) (by rw [b3, c_i2l]; omega)
  rw [b3, c_i2l] at b4
  exact b4
set_option maxHeartbeats 2000000 in
theorem own_law (q0 : Int64) (p1 p2 : Int32) : f0 q0 p1 p2 = 1 := by
  have m1 := c_maskL q0 4398046511103 42 (by decide) (by decide)
  have m2 := c_mask p1 1023 10 (by decide) (by decide)
  have m3 := c_mask p2 2047 11 (by decide) (by decide)
  unfold f0
  generalize q0 &&& 4398046511103 = ms at *
  generalize p1 &&& 1023 = sh at *
  generalize p2 &&& 2047 = seq at *
  have b1 : 0 ≤ ms.toInt ∧ ms.toInt < 4398046511104 := by clear m2 m3; omega
  have b2 : 0 ≤ sh.toInt ∧ sh.toInt < 1024 := by clear m1 m3; omega
  have b3 : 0 ≤ seq.toInt ∧ seq.toInt < 2048 := by clear m1 m2; omega
  clear m1 m2 m3
  have h := own_1 ms sh seq b1.1 b1.2 b2.1 b2.2 b3.1 b3.2
  have h' := own_2 ms sh seq b1.1 b1.2 b2.1 b2.2 b3.1 b3.2
  have q1 : f1 ms sh seq = (ms * (2097152 : Int64) + sh.toInt64 * (2048 : Int64)) + seq.toInt64 := by
    apply Int64.toInt_inj.mp
    rw [h, h']
  have q2 : ¬ f1 ms sh seq < 0 := by
    rw [own_ltL, h, show (0 : Int64).toInt = 0 from by decide]
    omega
  rw [if_pos q1, if_neg q2]
set_option maxRecDepth 65536 in
set_option maxHeartbeats 40000000 in
theorem comes_1 {Post : Tables → Env → Array Value → State → Outcome → State → Prop} (hpost : ∀ tb e args s v u, (limb_1_1.after args s (.returned v) u = true ∧ limb_1_2.after args s (.returned v) u = true ∧ True) → FrameEnd s (.returned v) u (Jvm.fieldLocs frame_1_writes args s ++ Jvm.arrayLocs frame_1_arrays args s ++ Jvm.staticLocs frame_1_statics s) 0 0 → Post tb e args s (.returned v) u) :
    ArmFor flags0 classFile x code maxLocals ret World_1 tables_1 room_1 Calls_1 rest_1 Pre_1 Post := by
  intro l hfl _ _ p e ha hc hk s m args below hf hA hF happ hP
  obtain ⟨hcalls, hrest, hpre⟩ := hP
  obtain ⟨-, -, -, hnamed, -, -, -, hat⟩ := (Spec.applies_iff hf).mp happ
  obtain ⟨hg, hn⟩ := and_e (Cond.before_iff.mp (show (Jvm.Cond.and given_1 narrow_1).before args s = true from hpre))
  obtain ⟨c0, r0⟩ := and_e hg
  obtain ⟨c1, r1⟩ := and_e r0
  obtain ⟨c2, r2⟩ := and_e r1
  obtain ⟨w0, w1, w2, rfl⟩ : ∃ w0 w1 w2 : Value, args = #[w0, w1, w2] := by
    have hs : args.size = 3 := by simpa [Cond.value, given_1] using c0
    obtain ⟨L⟩ := args
    match L, hs with
    | [w0, w1, w2], _ => exact ⟨w0, w1, w2, rfl⟩
  have hw := fun d (hd : d ∈ tables_1) => atoms_spec (ws := Jvm.Cond.code x code maxLocals ret :: tables_1) hat d (List.mem_cons_of_mem _ hd)
  obtain ⟨i0, ei0⟩ := isL_v c1
  obtain rfl : w0 = (.long i0) := Option.some.inj ei0
  obtain ⟨i1, ei1⟩ := is_v c2
  obtain rfl : w1 = (.int i1) := Option.some.inj ei1
  obtain ⟨i2, ei2⟩ := is_v r2
  obtain rfl : w2 = (.int i2) := Option.some.inj ei2
  obtain ⟨n, o, h1, h2, h3, _, L, rfl, ⟨rfl, N⟩, hq⟩ := rm0 l s _ hw tables_1 i0 i1 i2 s.heap s.heap.size (Nat.le_refl _)  p e ha hc hk s m _ below hf ((Spec.applies_iff_loose hf).mp happ).1 ⟨rfl, State.Warmed39.refl s, rfl⟩ trivial
  refine ⟨n, _, h1, h2, h3, hpost _ _ _ _ _ _ ⟨Cond.after_iff.mpr rfl, Cond.after_iff.mpr (eq_i res_at (Term.int_eval (1)) (congrArg Value.int (own_law i0 i1 i2))), trivial⟩ ⟨hq.1, hq.2.1, (hq.2.2.sift fun y hy => Or.inr (N y hy)).mono (by decide) (by decide)⟩⟩
theorem main_1_1 : Claimed_1_1 := comes_1 fun _ _ _ _ _ _ h hF => ⟨h.1, hF⟩
theorem main_1_2 : Claimed_1_2 := comes_1 fun _ _ _ _ _ _ h hF => ⟨h.2.1, hF⟩
end Jvm.Pilot.@@N@@
namespace Jvm.Pilot.@@N@@
open Jvm Jvm.ClassFile Sem Op Lib Jvm.Free Jvm.Stand Jvm.Pilot.@@N@@.Jvm.D
/-! MADE BY PROGRAM (witnessworld.py) out of the Statement's table words and the real class files: 10 classes; the members and pool entries that the words name. The judged class is class 1, her method 1. -/
namespace start1
open Jvm.ClassFile
def u (s : String) : CpInfo := .utf8 (stringToUtf16 s)
/-- a pool by its gaps: so many unusable entries, then the entry; so many at the end -/
def gap : Nat → List CpInfo → List CpInfo
  | 0, r => r
  | n + 1, r => .unusable :: gap n r
def poolList (es : List (Nat × CpInfo)) (last : Nat) : List CpInfo := es.foldr (fun e r => gap e.1 (e.2 :: r)) (gap last [])
def pool (es : List (Nat × CpInfo)) (last : Nat) : Array CpInfo := ⟨poolList es last⟩
def fileOf (pool : Array CpInfo) (this : Nat) (attrs : Array Attribute := #[]) (ms : Array MethodInfo := #[]) (fl : Nat := 33) (sup : Nat := 0) (ifs : Array Nat := #[]) (fds : Array FieldInfo := #[]) : ClassFile where
  minorVersion := 0
  majorVersion := 65
  constantPool := pool
  accessFlags := fl
  thisClass := this
  superClass := sup
  interfaces := ifs
  fields := fds
  methods := ms
  attributes := attrs
def plain (name : String) (sup : Option ClassId) : Class where
  name := name
  kind := .ordinary
  loader := none
  accessFlags := 33
  super := sup
  interfaces := #[]
  cf := none
  fields := #[]
  methods := #[]
  instanceTypes := #[]
  staticTypes := #[]
  resolved := #[]
  callSites := []
  init := .initialized
  statics := none
  mirror := none

def pool0 : Array CpInfo := pool [(5, u "<init>"), (0, u "()V"), (1, .class_ 10), (1, u "java/lang/Object")] 113

def k0m0 : Method := { name := "<init>", desc := "()V", sig := { parameters := [], returnType := none }, accessFlags := 1, code := none }
/-- java/lang/Object -/
def k0 : Class := { plain "java/lang/Object" none with
  accessFlags := 33
  interfaces := #[]
  cf := some (fileOf pool0 8 #[] #[{ accessFlags := 1, nameIndex := 5, descriptorIndex := 6, attributes := #[] }] 33 0 #[] #[])
  fields := #[]
  methods := #[k0m0]
  instanceTypes := #[]
  staticTypes := #[]
  resolved := Array.replicate 124 none
  statics := none }

def pool1 : Array CpInfo := pool [(2, .class_ 4), (1, u "java/lang/Object"), (0, u "<init>"), (0, u "()V"), (0, .long 4398046511103), (1, .methodref 10 11), (0, .class_ 12), (0, .nameAndType 13 14), (0, u "com/example/glass_shards/glassshards/Id"), (0, u "value"), (0, u "(JII)J"), (0, .long 2097152), (1, .long 2048), (1, .class_ 20), (0, u "com/example/glass_shards/glassshards/IdValuePinLaw"), (2, u "law"), (0, u "(JII)Z")] 3

def k1m0 : Method := { name := "<init>", desc := "()V", sig := { parameters := [], returnType := none }, accessFlags := 1, code := none }
def k1c1 : Code := { maxStack := 6, maxLocals := 12, code := code, exceptionTable := #[], attributes := #[] }
def k1m1 : Method := { name := "law", desc := "(JII)Z", sig := { parameters := [.long, .int, .int], returnType := some .boolean }, accessFlags := 9, code := some k1c1 }
/-- com/example/glass_shards/glassshards/IdValuePinLaw -/
def k1 : Class := { plain "com/example/glass_shards/glassshards/IdValuePinLaw" (some 0) with
  accessFlags := 49
  interfaces := #[]
  cf := some (fileOf pool1 19 #[] #[{ accessFlags := 1, nameIndex := 5, descriptorIndex := 6, attributes := #[] }, { accessFlags := 9, nameIndex := 23, descriptorIndex := 24, attributes := #[] }] 49 2 #[] #[])
  fields := #[]
  methods := #[k1m0, k1m1]
  instanceTypes := #[]
  staticTypes := #[]
  resolved := Array.replicate 28 none
  statics := none }

def pool2 : Array CpInfo := pool [(2, .class_ 4), (1, u "java/lang/Object"), (0, u "<init>"), (0, u "()V"), (0, .class_ 8), (0, u "java/lang/Record")] 13

def k2m0 : Method := { name := "<init>", desc := "()V", sig := { parameters := [], returnType := none }, accessFlags := 4, code := none }
/-- java/lang/Record -/
def k2 : Class := { plain "java/lang/Record" (some 0) with
  accessFlags := 1057
  interfaces := #[]
  cf := some (fileOf pool2 7 #[] #[{ accessFlags := 4, nameIndex := 5, descriptorIndex := 6, attributes := #[] }] 1057 2 #[] #[])
  fields := #[]
  methods := #[k2m0]
  instanceTypes := #[]
  staticTypes := #[]
  resolved := Array.replicate 22 none
  statics := none }

def pool3 : Array CpInfo := pool [(1, .class_ 2), (0, u "com/example/glass_shards/glassshards/Id"), (3, .class_ 8), (1, u "java/lang/Record"), (13, u "value"), (0, u "J"), (2, u "EPOCH"), (0, u "Ljava/time/Instant;"), (24, u "SHARD_BITS"), (0, u "I"), (2, u "SEQUENCE_BITS"), (1, u "SEQUENCES"), (1, u "LAST_MILLISECOND"), (7, u "(JII)J")] 36

def k3c0 : Code := { maxStack := 5, maxLocals := 4, code := prog_3_method_2_code, exceptionTable := #[], attributes := #[] }
def k3m0 : Method := { name := "value", desc := "(JII)J", sig := { parameters := [.long, .int, .int], returnType := some .long }, accessFlags := 8, code := some k3c0 }
/-- com/example/glass_shards/glassshards/Id -/
def k3 : Class := { plain "com/example/glass_shards/glassshards/Id" (some 2) with
  accessFlags := 49
  interfaces := #[]
  cf := some (fileOf pool3 1 #[] #[{ accessFlags := 8, nameIndex := 22, descriptorIndex := 68, attributes := #[] }] 49 6 #[] #[{ accessFlags := 18, nameIndex := 22, descriptorIndex := 23, attributes := #[] }, { accessFlags := 25, nameIndex := 26, descriptorIndex := 27, attributes := #[] }, { accessFlags := 24, nameIndex := 52, descriptorIndex := 53, attributes := #[] }, { accessFlags := 24, nameIndex := 56, descriptorIndex := 53, attributes := #[] }, { accessFlags := 25, nameIndex := 58, descriptorIndex := 53, attributes := #[] }, { accessFlags := 24, nameIndex := 60, descriptorIndex := 23, attributes := #[] }])
  fields := #[{ name := "value", type := .long, accessFlags := 18, slot := 0, constantValue := 0 }, { name := "EPOCH", type := (.object "java/time/Instant"), accessFlags := 25, slot := 0, constantValue := 0 }, { name := "SHARD_BITS", type := .int, accessFlags := 24, slot := 1, constantValue := 0 }, { name := "SEQUENCE_BITS", type := .int, accessFlags := 24, slot := 2, constantValue := 0 }, { name := "SEQUENCES", type := .int, accessFlags := 25, slot := 3, constantValue := 0 }, { name := "LAST_MILLISECOND", type := .long, accessFlags := 24, slot := 4, constantValue := 0 }]
  methods := #[k3m0]
  instanceTypes := #[.long]
  staticTypes := #[(.object "java/time/Instant"), .int, .int, .int, .long]
  resolved := Array.replicate 105 none
  statics := none }

def pool4 : Array CpInfo := pool [(1, u "java/lang/Cloneable"), (0, .class_ 1), (0, u "java/lang/Object"), (0, .class_ 3)] 3

/-- java/lang/Cloneable -/
def k4 : Class := { plain "java/lang/Cloneable" (some 0) with
  accessFlags := 1537
  interfaces := #[]
  cf := some (fileOf pool4 2 #[] #[] 1537 4 #[] #[])
  fields := #[]
  methods := #[]
  instanceTypes := #[]
  staticTypes := #[]
  resolved := Array.replicate 8 none
  statics := none }

def pool5 : Array CpInfo := pool [(1, u "java/io/Serializable"), (0, .class_ 1), (0, u "java/lang/Object"), (0, .class_ 3)] 3

/-- java/io/Serializable -/
def k5 : Class := { plain "java/io/Serializable" (some 0) with
  accessFlags := 1537
  interfaces := #[]
  cf := some (fileOf pool5 2 #[] #[] 1537 4 #[] #[])
  fields := #[]
  methods := #[]
  instanceTypes := #[]
  staticTypes := #[]
  resolved := Array.replicate 8 none
  statics := none }

/-- the primitive byte -/
def k6 : Class := { plain "byte" none with kind := .primitive 'B', accessFlags := 0x411 }
/-- [B -/
def k7 : Class := { plain "[B" (some 0) with kind := .array 6 .byte, interfaces := #[4, 5], accessFlags := 1041 }

/-- the primitive int -/
def k8 : Class := { plain "int" none with kind := .primitive 'I', accessFlags := 0x411 }
/-- [I -/
def k9 : Class := { plain "[I" (some 0) with kind := .array 8 .int, interfaces := #[4, 5], accessFlags := 1041 }

def heap : Heap := #[]
def classes : Array Class := #[k0, k1, k2, k3, k4, k5, k6, k7, k8, k9]
def interned : List (Array UInt16 × Addr) := []
def slotsUsed : Nat := 0
def theMethod : MethodId := ⟨1, 1⟩
def args0 : Array Value := #[.long 5, .int 7, .int 9]
def aboutOver (below : List Frame) : State where
  vm := { classes := classes, interned := interned.toArray }
  heap := heap
  slotsUsed := slotsUsed
  threads := #[{ frames := .invoking theMethod args0 :: below }]
def below0 : List Frame := [.native { method := ⟨0, 0⟩, args := #[] }]
def about1 : State := aboutOver below0
def p0 : Program := .bare "" "" ""
def e0 : Env := launch0.env 0 0 0
theorem w_frames : about1.frames = Frame.invoking theMethod args0 :: below0 := rfl
set_option maxRecDepth 65536 in
theorem w_args : argsFit about1.vm theMethod args0 = true := by decide +kernel
set_option maxRecDepth 65536 in
theorem w_heap : heapFits about1 = true := by decide +kernel
set_option maxRecDepth 65536 in
theorem w_runnable : about1.curStatus? = some .runnable := by decide +kernel
set_option maxRecDepth 65536 in
theorem w_alone : about1.alone = true := by decide +kernel
set_option maxRecDepth 65536 in
theorem w_named : about1.methodNamed? x = some theMethod := by decide +kernel
set_option maxRecDepth 65536 in
theorem w_hears : about1.hears theMethod below0 = true := by decide +kernel
set_option maxRecDepth 65536 in
theorem w_ripe : about1.ripe theMethod args0 below0 = true := by decide +kernel
theorem w_running : about1.status = .running := rfl
set_option maxRecDepth 65536 in
theorem w_room : about1.hasRoom e0.platform room_1 = true :=
  launch0.hasRoom_least _ room_1 (by decide +kernel) (by decide +kernel) (by decide +kernel) (by decide +kernel) (by decide +kernel) (by decide +kernel)
theorem allAtoms_all (ts : List Jvm.Cond) (a : Array Jvm.Value) (st : Jvm.State) : (allAtoms ts).before a st = ts.all (fun c => c.before a st) := by
  induction ts with
  | nil => rfl
  | cons c t ih =>
    show (Jvm.Cond.and c (allAtoms t)).before a st = _
    rw [Jvm.Cond.before_and, ih, List.all_cons]
def words1 : List Jvm.Cond := Jvm.Cond.code x code maxLocals ret :: tables_1
/-- a 'code' word, met by the world's own term for the bytes: nothing is compared byte by byte -/
theorem code_word {y : MethodName} {bytes : ByteArray} {mx : Nat} {rt : Option FieldType} {a : Array Value} {s : State} {m : MethodId} {meth : Method} {c : Code} (h1 : s.methodNamed? y = some m) (h2 : s.vm.method? m = some meth) (h3 : meth.code = some c) (h4 : c.code = bytes)
    (h5 : (c.maxLocals == mx && c.exceptionTable.isEmpty && decide (c.maxStack ≤ mostOperands) && decide (meth.sig.returnType = rt) && !meth.locks && decide (parseMethodDescriptor y.desc = some meth.sig)) = true) : (Jvm.Cond.code y bytes mx rt).before a s = true := by
  simp only [Bool.and_eq_true, beq_iff_eq, Bool.not_eq_true', decide_eq_true_eq] at h5
  obtain ⟨⟨⟨⟨⟨g1, g2⟩, g3⟩, g4⟩, g5⟩, g6⟩ := h5
  simp [Cond.before, Cond.holds, Cond.value, h1, h2, h3, h4, g1, g2, g3, g4, g5, g6]
def isCode : Jvm.Cond → Bool
  | .code _ _ _ _ => true
  | _ => false
theorem all_split {L : List Jvm.Cond} {P : Jvm.Cond → Bool} (h1 : L.all (fun c => isCode c || P c) = true) (h2 : ∀ c ∈ L.filter isCode, P c = true) : L.all P = true := by
  refine List.all_eq_true.mpr fun c hc => ?_
  have h := List.all_eq_true.mp h1 c hc
  rcases Bool.eq_false_or_eq_true (isCode c) with hi | hi
  · exact h2 c (List.mem_filter.mpr ⟨hc, hi⟩)
  · simpa [hi] using h
set_option maxRecDepth 65536 in
theorem w_c0 : (Jvm.Cond.code x code maxLocals ret).before args0 about1 = true := code_word (m := ⟨1, 1⟩) (meth := k1m1) (c := k1c1) (by decide +kernel) rfl rfl rfl (by decide +kernel)
set_option maxRecDepth 65536 in
theorem w_c1 : (Jvm.Cond.code ({ cls := "com/example/glass_shards/glassshards/Id", name := "value", desc := "(JII)J" } : Jvm.MethodName) prog_3_method_2_code (4 : Nat) (Option.some Jvm.ClassFile.FieldType.long)).before args0 about1 = true := code_word (m := ⟨3, 0⟩) (meth := k3m0) (c := k3c0) (by decide +kernel) rfl rfl rfl (by decide +kernel)
def codes1 : List Jvm.Cond := [Jvm.Cond.code x code maxLocals ret, Jvm.Cond.code ({ cls := "com/example/glass_shards/glassshards/Id", name := "value", desc := "(JII)J" } : Jvm.MethodName) prog_3_method_2_code (4 : Nat) (Option.some Jvm.ClassFile.FieldType.long)]
set_option maxRecDepth 65536 in
theorem codes_eq : words1.filter isCode = codes1 := rfl
theorem w_codes : ∀ c ∈ words1.filter isCode, c.before args0 about1 = true := by
  rw [codes_eq]
  intro c hc
  simp only [codes1, List.mem_cons, List.not_mem_nil, or_false] at hc
  rcases hc with rfl | rfl
  · exact w_c0
  · exact w_c1
set_option maxRecDepth 65536 in
theorem w_t1 : words1.all (fun c => isCode c || c.before args0 about1) = true := by decide +kernel
theorem w_tables : (allAtoms (Jvm.Cond.code x code maxLocals ret :: tables_1)).before args0 about1 = true := by
  rw [allAtoms_all]
  show words1.all (fun c => c.before args0 about1) = true
  refine all_split ?_ w_codes
  rw [w_t1]
set_option maxRecDepth 65536 in
theorem w_case : (Jvm.Cond.and given_1 narrow_1).before args0 about1 = true := by decide +kernel
theorem w_applies : (headSpec (Jvm.Cond.code x code maxLocals ret :: tables_1) room_1).applies x e0.platform about1 = true :=
  (Spec.applies_iff w_frames).mpr ⟨w_running, w_runnable, w_alone, w_named, w_hears, w_ripe, w_room, w_tables⟩
theorem atStart : AtStart classFile x code maxLocals ret World_1 tables_1 room_1 Calls_1 rest_1 Pre_1 launch0 p0 e0 about1 theMethod args0 below0 :=
  ⟨lists_1, trivial, launch0.admits_env _ _ _, launch0.least_env, fairChoices_fair.cas, fairChoices_fair.clock, w_frames, w_args, w_heap, w_applies, trivial, trivial, w_case⟩
end start1
theorem witness_1 : WitnessClaimed_1 := ⟨start1.p0, start1.e0, start1.about1, start1.theMethod, start1.args0, start1.below0, start1.atStart⟩
end Jvm.Pilot.@@N@@
