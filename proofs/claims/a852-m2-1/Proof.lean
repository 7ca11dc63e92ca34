import JvmDerived
import JvmDerived.Pilot.@@N@@Statement
import JvmDerived.Pilot.@@N@@Code
set_option linter.unusedVariables false
set_option linter.unusedSimpArgs false
namespace Jvm.RoadKit
open Sem ClassFile Op Lib Jvm.Stand Jvm.Free Jvm.LawKit
section New
variable {p : Program} {l : Launch} {e : Env} {R : Room} {s : State} {m : MethodId} {args : Array Value} {below : List Frame} {meth : Method} {c : Code} {T : State} {locs : List Loc} {cells slots : Nat}
theorem retI (X : Stand p l e R s m args below meth c T locs cells slots) (hx : p.tables.exec = Jvm.exec) {pc : Nat} {Ls : Array Slot} {z : Int32} {rest : List Value} (hret : meth.sig.returnType = some .int) (hd : decode c.code pc = .ok (.ireturn, 1)) {fs : List Frame}
    (hl : ∀ (f : JFrame) (acts : List Action), f.method = m → f.locked = none → f.entered = [] → (doReturn e (T.setTop f) acts (some (.int z))).1 = T.setFrames fs) : Steps p.tables e below (T.setTop (mkF m pc Ls (.int z :: rest))) (T.setFrames fs) := by
  have hm' : T.vm.method? m = some meth := X.method'
  have hn : narrow .int (.int z) = .int z := rfl
  show Steps p.tables e below (T.setTop { method := m, pc := pc, locals := Ls, stack := _ :: rest, locked := none }) _
  jvm_step X.here [X.here.top, hx, hd, hm', hret, hn]
  first | (intro acts; rw [hl _ acts rfl rfl rfl]) | rw [hl _ _ rfl rfl rfl]
  exact Steps.refl _
end New
end Jvm.RoadKit
namespace Jvm.Pilot.@@N@@
open Jvm Jvm.ClassFile Sem Op Lib Jvm.Free Jvm.Stand Jvm.LawKit Jvm.RoadKit Bundle Jvm.Pilot.@@N@@.Jvm.D
/-- the run from U ends within this invocation, with P -/
def own_Fin (tb : Tables) (e : Env) (below : List Frame) (P : Outcome → State → Prop) (U : State) : Prop := ∃ s₂ o, Steps tb e below U s₂ ∧ s₂.status = .running ∧ Ended s₂ below o ∧ P o s₂
theorem own_by {tb : Tables} {e : Env} {below : List Frame} {P : Outcome → State → Prop} {U U' : State} (h : ∀ t, Steps tb e below U' t → Steps tb e below U t) (k : own_Fin tb e below P U') : own_Fin tb e below P U := by
  obtain ⟨t, o, h1, h2⟩ := k
  exact ⟨t, o, h _ h1, h2⟩
section Own
variable {p : Program} {l : Launch} {e : Env} {R : Room} {s : State} {m : MethodId} {args : Array Value} {below : List Frame} {meth : Method} {c : Code} {T : State} {locs : List Loc} {cells slots : Nat} {Z : State} {h h' : Heap} {a b : Addr} {z j x v : Int32} {B : Int32 → Int32}
theorem own_end (X : Stand p l e R s m args below meth c T locs cells slots) (hlk : meth.locks = false) {U : State} {v : Option Value} (hv : meth.sig.returnType = none → v = none) {Qv : Option Value → Heap → List Loc → Prop} {C S : Nat} (hC : cells ≤ C) (hS : slots ≤ S) (hq : Qv v T.heap locs)
    (hst : ∀ fs, (∀ (f : JFrame) (acts : List Action), f.method = m → f.locked = none → f.entered = [] → (doReturn e (T.setTop f) acts v).1 = T.setFrames fs) → Steps p.tables e below U (T.setFrames fs)) :
    own_Fin p.tables e below (fun o t => ∃ v L, o = .returned v ∧ Qv v t.heap L ∧ FrameEnd s o t L C S) U := by
  obtain ⟨fs, hr, hrun, hended, hW, hsame⟩ := X.leave (v := v) hv hlk
  exact ⟨_, _, hst fs hr, hrun, hended, _, _, rfl, hq, ⟨_, rfl⟩, hW, hsame.mono hC hS⟩
theorem own_retN (X : Stand p l e R s m args below meth c T locs cells slots) (hx : p.tables.exec = Jvm.exec) {pc : Nat} {Ls : Array Slot} {z : Int32} {t : FieldType} {rest : List Value} (hret : meth.sig.returnType = some t) (hlk : meth.locks = false) (ht : t = .boolean ∨ t = .byte ∨ t = .char ∨ t = .short)
    (hd : decode c.code pc = .ok (.ireturn, 1)) {Qv : Option Value → Heap → List Loc → Prop} {C S : Nat} (hC : cells ≤ C) (hS : slots ≤ S) (hq : Qv (some (.int (nar t z))) T.heap locs) :
    own_Fin p.tables e below (fun o t => ∃ v L, o = .returned v ∧ Qv v t.heap L ∧ FrameEnd s o t L C S) (T.setTop (mkF m pc Ls (.int z :: rest))) :=
  own_end X hlk (fun q => by rw [hret] at q; cases q) hC hS hq fun fs hr => retN X hx hret ht hd hr
theorem own_retI (X : Stand p l e R s m args below meth c T locs cells slots) (hx : p.tables.exec = Jvm.exec) {pc : Nat} {Ls : Array Slot} {z : Int32} {rest : List Value} (hret : meth.sig.returnType = some .int) (hlk : meth.locks = false)
    (hd : decode c.code pc = .ok (.ireturn, 1)) {Qv : Option Value → Heap → List Loc → Prop} {C S : Nat} (hC : cells ≤ C) (hS : slots ≤ S) (hq : Qv (some (.int z)) T.heap locs) :
    own_Fin p.tables e below (fun o t => ∃ v L, o = .returned v ∧ Qv v t.heap L ∧ FrameEnd s o t L C S) (T.setTop (mkF m pc Ls (.int z :: rest))) :=
  own_end X hlk (fun q => by rw [hret] at q; cases q) hC hS hq fun fs hr => retI X hx hret hd hr
theorem own_retJ (X : Stand p l e R s m args below meth c T locs cells slots) (hx : p.tables.exec = Jvm.exec) {pc : Nat} {Ls : Array Slot} {z : Int64} {rest : List Value} (hret : meth.sig.returnType = some .long) (hlk : meth.locks = false)
    (hd : decode c.code pc = .ok (.lreturn, 1)) {Qv : Option Value → Heap → List Loc → Prop} {C S : Nat} (hC : cells ≤ C) (hS : slots ≤ S) (hq : Qv (some (.long z)) T.heap locs) :
    own_Fin p.tables e below (fun o t => ∃ v L, o = .returned v ∧ Qv v t.heap L ∧ FrameEnd s o t L C S) (T.setTop (mkF m pc Ls (.long z :: rest))) :=
  own_end X hlk (fun q => by rw [hret] at q; cases q) hC hS hq fun fs hr => retOut X hx hret rfl (Or.inr (Or.inl ⟨rfl, rfl, z, rfl⟩)) hd hr
theorem own_retA (X : Stand p l e R s m args below meth c T locs cells slots) (hx : p.tables.exec = Jvm.exec) {pc : Nat} {Ls : Array Slot} {w : Value} {t : FieldType} {rest : List Value} (hret : meth.sig.returnType = some t) (hlk : meth.locks = false) (ht : t.isReference = true) (hw : w.isRef = true)
    (hd : decode c.code pc = .ok (.areturn, 1)) {Qv : Option Value → Heap → List Loc → Prop} {C S : Nat} (hC : cells ≤ C) (hS : slots ≤ S) (hq : Qv (some w) T.heap locs) :
    own_Fin p.tables e below (fun o t => ∃ v L, o = .returned v ∧ Qv v t.heap L ∧ FrameEnd s o t L C S) (T.setTop (mkF m pc Ls (w :: rest))) :=
  own_end X hlk (fun q => by rw [hret] at q; cases q) hC hS hq fun fs hr => retOut X hx hret (by cases t <;> simp [FieldType.isReference] at ht <;> (rcases ref_cases hw with rfl | ⟨z, rfl⟩ <;> rfl)) (Or.inr (Or.inr (Or.inr (Or.inr ⟨rfl, ht, hw⟩)))) hd hr
theorem own_retV (X : Stand p l e R s m args below meth c T locs cells slots) (hx : p.tables.exec = Jvm.exec) {pc : Nat} {Ls : Array Slot} (hret : meth.sig.returnType = none) (hlk : meth.locks = false)
    (hd : decode c.code pc = .ok (.return_, 1)) {Qv : Option Value → Heap → List Loc → Prop} {C S : Nat} (hC : cells ≤ C) (hS : slots ≤ S) (hq : Qv none T.heap locs) :
    own_Fin p.tables e below (fun o t => ∃ v L, o = .returned v ∧ Qv v t.heap L ∧ FrameEnd s o t L C S) (T.setTop (mkF m pc Ls [])) :=
  own_end X hlk (fun _ => rfl) hC hS hq fun fs hr => X.returnOut hx hret hd hr
/-- a byte[] of length z whose j-th byte is B j -/
def own_Byt (Z : State) (h : Heap) (a : Addr) (z : Int32) (B : Int32 → Int32) : Prop := ∃ cl : Cell, Arr Z h a cl .byte ∧ cl.slots.size = z.toNatClampNeg ∧ ¬ z < 0 ∧ ∀ j : Int32, ¬ (j < 0 ∨ cl.slots.size ≤ j.toNatClampNeg) → cl.slots[j.toNatClampNeg]? = some (.int (B j)) ∧ fits .byte (.int (B j)) = true
def own_upd (B : Int32 → Int32) (j v : Int32) : Int32 → Int32 := fun k => if k = j then v else B k
theorem own_Byt.lt (F : own_Byt Z h a z B) : a < h.size := by obtain ⟨c, A, -⟩ := F; exact A.lt
theorem own_Byt.ext (F : own_Byt Z h a z B) (E : Ext h h') : own_Byt Z h' a z B := by obtain ⟨c, A, r⟩ := F; exact ⟨c, A.ext E, r⟩
theorem own_Byt.other (F : own_Byt Z h b z B) {sl : Nat} {w : Value} (W : Wr h h' a sl w) (q : b ≠ a) : own_Byt Z h' b z B := by obtain ⟨c, A, r⟩ := F; exact ⟨c, A.other W q, r⟩
theorem own_Byt.keep {ws : List Addr} (F : own_Byt Z h a z B) (K : Keep h h' ws) (q : a ∉ ws) : own_Byt Z h' a z B := by obtain ⟨c, A, r⟩ := F; exact ⟨c, ⟨K.2.1 a c A.1 q, A.2⟩, r⟩
theorem own_Byt.new {k : ClassId} (A : Arr Z h a (newA k .byte z) .byte) (q : ¬ z < 0) : own_Byt Z h a z (fun _ => (0 : Int32)) :=
  ⟨_, A, sz_new _ _ _, q, fun j hj => by rw [sz_new] at hj; exact ⟨get_new hj, show fits .byte (.int 0) = true from by decide⟩⟩
theorem own_bal (X : Stand p l e R s m args below meth c T locs cells slots) (hx : p.tables.exec = Jvm.exec) (hZ : Z.Warmed39 s.vm) (eT : T.heap = h) (F : own_Byt Z h a z B) (h1 : ¬ j < 0) (h2 : j < z)
    {g : JFrame} (hg : g.method = m) {rest : List Value} (hs : g.stack = .int j :: .ref a :: rest) (hd : decode c.code g.pc = .ok (.baload, 1)) :
    ∀ t, Steps p.tables e below (T.setTop { g with pc := g.pc + 1, stack := .int (B j) :: rest }) t → Steps p.tables e below (T.setTop g) t := by
  obtain ⟨cl, A, S, N, H⟩ := F
  have hin := inb_of S ⟨h1, h2⟩
  exact X.baloadBytes hx (j := j) (v := .int (B j)) (by rw [eT]; exact A.1) (State.isArrayOf_alike hZ.alike A.2.1) A.2.2 hin (H j hin).1 hg hs hd
theorem own_len (X : Stand p l e R s m args below meth c T locs cells slots) (hx : p.tables.exec = Jvm.exec) (hZ : Z.Warmed39 s.vm) (eT : T.heap = h) (F : own_Byt Z h a z B)
    {g : JFrame} (hg : g.method = m) {rest : List Value} (hs : g.stack = .ref a :: rest) (hd : decode c.code g.pc = .ok (.arraylength, 1)) :
    ∀ t, Steps p.tables e below (T.setTop { g with pc := g.pc + 1, stack := .int z :: rest }) t → Steps p.tables e below (T.setTop g) t := by
  obtain ⟨cl, A, S, N, H⟩ := F
  intro t k
  refine X.arraylength hx (by rw [eT]; exact A.1) (State.isArrayOf_alike hZ.alike A.2.1) (g := g) hg hs hd _ ?_
  rw [len_of S N]
  exact k
theorem own_bst (X : Stand p l e R s m args below meth c T locs cells slots) (hx : p.tables.exec = Jvm.exec) (hZ : Z.Warmed39 s.vm) (eT : T.heap = h) (F : own_Byt Z h a z B) (h1 : ¬ j < 0) (h2 : j < z)
    {g : JFrame} (hg : g.method = m) {rest : List Value} (hs : g.stack = .int x :: .int j :: .ref a :: rest) (hd : decode c.code g.pc = .ok (.bastore, 1)) :
    ∃ T' h', Stand p l e R s m args below meth c T' (locs ++ [⟨a, j.toNatClampNeg⟩]) cells slots ∧ T'.heap = h' ∧ own_Byt Z h' a z (own_upd B j (x.toInt8.toInt32)) ∧ Wr h h' a j.toNatClampNeg (.int (nar .byte x)) ∧
      ∀ t, Steps p.tables e below (T'.setTop { g with pc := g.pc + 1, stack := rest }) t → Steps p.tables e below (T.setTop g) t := by
  obtain ⟨cl, A, S, N, H⟩ := F
  have hin := inb_of S ⟨h1, h2⟩
  obtain ⟨T', h', X', e', W, st⟩ := stB X hx hZ eT A (j := j) hin hg hs hd
  refine ⟨T', h', X', e', ⟨_, A.same W, by rw [sz_set]; exact S, N, fun k hk => ?_⟩, W, st⟩
  rw [sz_set] at hk
  by_cases q : k = j
  · rw [get_hit hin q, own_upd, if_pos q]; exact ⟨rfl, fits_nar_byte x⟩
  · rw [get_miss h1 (fun y => hk (Or.inl y)) q, own_upd, if_neg q]; exact H k hk
end Own
theorem own_nar_char (x : Int32) : nar .char (x.toUInt32.toUInt16.toUInt32.toInt32) = x.toUInt32.toUInt16.toUInt32.toInt32 := by
  show x.toUInt32.toUInt16.toUInt32.toInt32.toUInt32.toUInt16.toUInt32.toInt32 = _
  have h1 := c_i2c x
  have h2 := c_i2c (x.toUInt32.toUInt16.toUInt32.toInt32)
  apply Int32.toInt_inj.mp
  omega
theorem own_lt {x y : Int32} : x < y ↔ x.toInt < y.toInt := Int32.lt_iff_toInt_lt
theorem own_eq {x y : Int32} : x = y ↔ x.toInt = y.toInt := Int32.toInt_inj.symm
theorem own_ltL {x y : Int64} : x < y ↔ x.toInt < y.toInt := Int64.lt_iff_toInt_lt
theorem own_eqL {x y : Int64} : x = y ↔ x.toInt = y.toInt := Int64.toInt_inj.symm
theorem own_z : (0 : Int32).toInt = 0 := by decide
theorem own_nn {x : Int32} (h : 0 ≤ x.toInt) : ¬ x < 0 := fun q => by have := own_lt.mp q; rw [own_z] at this; omega
theorem own_ltof {x y : Int32} (h : x.toInt < y.toInt) : x < y := own_lt.mpr h
theorem own_ge {x y : Int32} (h : ¬ x < y) : y.toInt ≤ x.toInt := by rw [own_lt] at h; omega
theorem own_add (x k : Int32) (h1 : -2147483648 ≤ x.toInt + k.toInt) (h2 : x.toInt + k.toInt < 2147483648) : (x + k).toInt = x.toInt + k.toInt := by
  have a := c_iadd x k
  have r := rng32 (x + k)
  omega
theorem own_sub (x k : Int32) (h1 : -2147483648 ≤ x.toInt - k.toInt) (h2 : x.toInt - k.toInt < 2147483648) : (x - k).toInt = x.toInt - k.toInt := by
  have a := c_isub x k
  have r := rng32 (x - k)
  omega
theorem own_clamp {x : Int32} {n : Nat} (h : ¬ x < 0) (q : x.toInt ≤ n) : x.toNatClampNeg ≤ n := by
  have := nat_of h
  omega
theorem d1_0 : decode prog_115_method_3_code 0 = .ok (.aload_n 0, 1) := by decide +kernel
theorem d1_1 : decode prog_115_method_3_code 1 = .ok (.arraylength, 1) := by decide +kernel
theorem d1_2 : decode prog_115_method_3_code 2 = .ok (.ifCond .le 15, 3) := by decide +kernel
theorem d1_5 : decode prog_115_method_3_code 5 = .ok (.aload_n 0, 1) := by decide +kernel
theorem d1_6 : decode prog_115_method_3_code 6 = .ok (.arraylength, 1) := by decide +kernel
theorem d1_7 : decode prog_115_method_3_code 7 = .ok (.sipush 1000, 3) := by decide +kernel
theorem d1_10 : decode prog_115_method_3_code 10 = .ok (.if_icmp .gt 7, 3) := by decide +kernel
theorem d1_13 : decode prog_115_method_3_code 13 = .ok (.iconst 1, 1) := by decide +kernel
theorem d1_14 : decode prog_115_method_3_code 14 = .ok (.goto 4, 3) := by decide +kernel
theorem d1_17 : decode prog_115_method_3_code 17 = .ok (.iconst 0, 1) := by decide +kernel
theorem d1_18 : decode prog_115_method_3_code 18 = .ok (.ireturn, 1) := by decide +kernel
theorem pn_com_example_tocsin_tocsin_Texts : plainName "com/example/tocsin/tocsin/Texts" = true := by first | (simp [plainName, overriddenIn]; done) | decide +kernel
theorem ef_1 (m : MethodId) (o0 : Addr) : entryFrame m #[(.ref o0)] 1 = mkF m 0 #[.val (.ref o0)] [] := by first | (simp [entryFrame, mkF, argsToLocals, Value.category]; done) | rfl
def f1 (z_o0 : Int32) (B_o0 : Int32 → Int32) : Int32 :=
  if (0 : Int32) < z_o0 then
    if (1000 : Int32) < z_o0 then
      (0 : Int32)
    else
      (1 : Int32)
  else
    (0 : Int32)
def Q1 (z_o0 : Int32) (B_o0 : Int32 → Int32) (h0 : Heap) (n0 : Nat) (v : Option Value) (h : Heap) (L : List Loc) : Prop := v = some (.int (f1 z_o0 B_o0)) ∧ Fr n0 L ∧ h = h0
set_option maxRecDepth 65536 in
set_option maxHeartbeats 40000000 in
theorem rm1 (l : Launch) (Z : State) (a0 : Array Value) (hw : ∀ d ∈ tables_1, d.before a0 Z = true) (ws : List Jvm.Cond) (o0 : Addr) (z_o0 : Int32) (B_o0 : Int32 → Int32)  (h0 : Heap) (n0 : Nat) (Z0 : n0 ≤ h0.size) (V_o0 : own_Byt Z h0 o0 z_o0 B_o0)  :
    MetFree l (⟨"com/example/tocsin/tocsin/Texts", "isMessage", "([B)Z"⟩ : MethodName) (head1 (Jvm.Cond.code (⟨"com/example/tocsin/tocsin/Texts", "isMessage", "([B)Z"⟩ : MethodName) prog_115_method_3_code 1 (some .boolean) :: ws) ({ frames := 0, cells := 0, slots := 0, locals := 0 } : Room)) (fun a U => a = #[(.ref o0)] ∧ Z.Warmed39 U.vm ∧ U.heap = h0) (fun _ _ _ _ _ => True) (fun _ U o U' => ∃ v L, o = .returned v ∧ Q1 z_o0 B_o0 h0 n0 v U'.heap L ∧ FrameEnd U o U' L ({ frames := 0, cells := 0, slots := 0, locals := 0 } : Room).cells ({ frames := 0, cells := 0, slots := 0, locals := 0 } : Room).slots) := by
  refine MetFree.of_bodySF (plainFor_of_name pn_com_example_tocsin_tocsin_Texts) hisR ?_
  intro p e s m args below meth c s₁ Bd hml0 hP hK
  obtain ⟨rfl, hZ, hh⟩ := hP
  have hx := Bd.exec
  have hby := Bd.bytes
  have hlk : meth.locks = false := BodyLoose.notSynchronized Bd
  have hml : c.maxLocals = 1 := hml0
  have hown : s.vm.findClass "com/example/tocsin/tocsin/Texts" = some m.cls := findClass_of_methodNamed Bd.named
  have hnm := (name_of_methodNamed Bd.named Bd.method).1
  have X0 : Stand p l e ({ frames := 0, cells := 0, slots := 0, locals := 0 } : Room) s m #[(.ref o0)] below meth c s₁ [] 0 0 := Stand.of_body Bd
  have e0 : s₁.heap = h0 := by rw [← hh, Bd.state]; rfl
  have N0 := Fr.nil n0
  refine own_by (U' := s₁.setTop (mkF m 0 #[.val (.ref o0)] [])) (fun t k => castTop (ef_1 m o0) k) ?_
  refine own_by (fun _ k => XS.aloadN X0.here hx rfl (hb hby d1_0) rfl rfl k) ?_
  show own_Fin p.tables e below _ (s₁.setTop (mkF m 1 #[.val (.ref o0)] [(.ref o0)]))
  refine own_by (own_len X0 hx hZ e0 V_o0 (g := (mkF m 1 #[.val (.ref o0)] [(.ref o0)])) rfl rfl (hb hby d1_1)) ?_
  show own_Fin p.tables e below _ (s₁.setTop (mkF m 2 #[.val (.ref o0)] [(.int z_o0)]))
  by_cases hc1 : (0 : Int32) < z_o0
  · refine own_by (fun _ k => XS.ifNo X0.here hx rfl (hb hby d1_2) rfl ((if0 _ _).trans (tlt hc1).2.2.2) k) ?_
    show own_Fin p.tables e below _ (s₁.setTop (mkF m 5 #[.val (.ref o0)] []))
    refine own_by (fun _ k => XS.aloadN X0.here hx rfl (hb hby d1_5) rfl rfl k) ?_
    show own_Fin p.tables e below _ (s₁.setTop (mkF m 6 #[.val (.ref o0)] [(.ref o0)]))
    refine own_by (own_len X0 hx hZ e0 V_o0 (g := (mkF m 6 #[.val (.ref o0)] [(.ref o0)])) rfl rfl (hb hby d1_6)) ?_
    show own_Fin p.tables e below _ (s₁.setTop (mkF m 7 #[.val (.ref o0)] [(.int z_o0)]))
    refine own_by (fun _ k => XS.sipush X0.here hx rfl (hb hby d1_7) k) ?_
    show own_Fin p.tables e below _ (s₁.setTop (mkF m 10 #[.val (.ref o0)] [(.int (1000 : Int32)), (.int z_o0)]))
    by_cases hc2 : (1000 : Int32) < z_o0
    · refine own_by (fun _ k => XS.icmpYes X0.here hx rfl (pc0 := 10) (pc' := 17) rfl (hb hby d1_10) rfl (tlt hc2).2.2.1 (by decide) (by decide) k) ?_
      show own_Fin p.tables e below _ (s₁.setTop (mkF m 17 #[.val (.ref o0)] []))
      refine own_by (fun _ k => XS.iconst X0.here hx rfl (hb hby d1_17) k) ?_
      show own_Fin p.tables e below _ (s₁.setTop (mkF m 18 #[.val (.ref o0)] [(.int (0 : Int32))]))
      have ef := (show f1 z_o0 B_o0 = (0 : Int32) from by unfold f1; rw [if_pos hc1, if_pos hc2])
      exact own_retN X0 hx (t := .boolean) Bd.returns hlk (by simp) (hb hby d1_18) (by decide) (by decide) ⟨by rw [ef]; rfl, N0, e0⟩
    · refine own_by (fun _ k => XS.icmpNo X0.here hx rfl (hb hby d1_10) rfl (flt hc2).2.2.1 k) ?_
      show own_Fin p.tables e below _ (s₁.setTop (mkF m 13 #[.val (.ref o0)] []))
      refine own_by (fun _ k => XS.iconst X0.here hx rfl (hb hby d1_13) k) ?_
      show own_Fin p.tables e below _ (s₁.setTop (mkF m 14 #[.val (.ref o0)] [(.int (1 : Int32))]))
      refine own_by (fun _ k => XS.goto X0.here hx rfl (pc0 := 14) (pc' := 18) rfl (hb hby d1_14) (by decide) (by decide) k) ?_
      show own_Fin p.tables e below _ (s₁.setTop (mkF m 18 #[.val (.ref o0)] [(.int (1 : Int32))]))
      have ef := (show f1 z_o0 B_o0 = (1 : Int32) from by unfold f1; rw [if_pos hc1, if_neg hc2])
      exact own_retN X0 hx (t := .boolean) Bd.returns hlk (by simp) (hb hby d1_18) (by decide) (by decide) ⟨by rw [ef]; rfl, N0, e0⟩
  · refine own_by (fun _ k => XS.ifYes X0.here hx rfl (pc0 := 2) (pc' := 17) rfl (hb hby d1_2) rfl ((if0 _ _).trans (flt hc1).2.2.2) (by decide) (by decide) k) ?_
    show own_Fin p.tables e below _ (s₁.setTop (mkF m 17 #[.val (.ref o0)] []))
    refine own_by (fun _ k => XS.iconst X0.here hx rfl (hb hby d1_17) k) ?_
    show own_Fin p.tables e below _ (s₁.setTop (mkF m 18 #[.val (.ref o0)] [(.int (0 : Int32))]))
    have ef := (show f1 z_o0 B_o0 = (0 : Int32) from by unfold f1; rw [if_neg hc1])
    exact own_retN X0 hx (t := .boolean) Bd.returns hlk (by simp) (hb hby d1_18) (by decide) (by decide) ⟨by rw [ef]; rfl, N0, e0⟩
theorem own_o : (1 : Int32).toInt = 1 := by decide
theorem pd___B_Z : parseMethodDescriptor "([B)Z" = some ⟨[(.array .byte)], some .boolean⟩ := by decide +kernel
theorem pn_com_example_tocsin_tocsin_TextsIsMessagePinLaw : plainName "com/example/tocsin/tocsin/TextsIsMessagePinLaw" = true := by first | (simp [plainName, overriddenIn]; done) | decide +kernel
theorem ef_0 (m : MethodId) (p0 : Int32) (p1 : Int32) (p2 : Int32) : entryFrame m #[(.int p0), (.int p1), (.int p2)] maxLocals = mkF m 0 #[.val (.int p0), .val (.int p1), .val (.int p2), .unset, .unset, .unset] [] := by first | (simp [entryFrame, mkF, argsToLocals, Value.category, maxLocals]; done) | rfl
def f0 (p0 : Int32) (p1 : Int32) (p2 : Int32) : Int32 :=
  if (0 : Int32) < (p0 &&& (2047 : Int32)) then
    if (p0 &&& (2047 : Int32)) < (1 : Int32) then
      if (f1 (p0 &&& (2047 : Int32)) (own_upd (own_upd (fun _ => (0 : Int32)) (0 : Int32) ((p1.toInt8.toInt32).toInt8.toInt32)) ((p0 &&& (2047 : Int32)) - (1 : Int32)) ((p2.toInt8.toInt32).toInt8.toInt32))) = (0 : Int32) then
        (1 : Int32)
      else
        (0 : Int32)
    else
      if (1000 : Int32) < (p0 &&& (2047 : Int32)) then
        if (f1 (p0 &&& (2047 : Int32)) (own_upd (own_upd (fun _ => (0 : Int32)) (0 : Int32) ((p1.toInt8.toInt32).toInt8.toInt32)) ((p0 &&& (2047 : Int32)) - (1 : Int32)) ((p2.toInt8.toInt32).toInt8.toInt32))) = (0 : Int32) then
          (1 : Int32)
        else
          (0 : Int32)
      else
        if (f1 (p0 &&& (2047 : Int32)) (own_upd (own_upd (fun _ => (0 : Int32)) (0 : Int32) ((p1.toInt8.toInt32).toInt8.toInt32)) ((p0 &&& (2047 : Int32)) - (1 : Int32)) ((p2.toInt8.toInt32).toInt8.toInt32))) = (1 : Int32) then
          (1 : Int32)
        else
          (0 : Int32)
  else
    if (p0 &&& (2047 : Int32)) < (1 : Int32) then
      if (f1 (p0 &&& (2047 : Int32)) (fun _ => (0 : Int32))) = (0 : Int32) then
        (1 : Int32)
      else
        (0 : Int32)
    else
      if (1000 : Int32) < (p0 &&& (2047 : Int32)) then
        if (f1 (p0 &&& (2047 : Int32)) (fun _ => (0 : Int32))) = (0 : Int32) then
          (1 : Int32)
        else
          (0 : Int32)
      else
        if (f1 (p0 &&& (2047 : Int32)) (fun _ => (0 : Int32))) = (1 : Int32) then
          (1 : Int32)
        else
          (0 : Int32)
def Q0 (p0 : Int32) (p1 : Int32) (p2 : Int32) (h0 : Heap) (n0 : Nat) (v : Option Value) (h : Heap) (L : List Loc) : Prop := v = some (.int (f0 p0 p1 p2)) ∧ Fr n0 L
set_option maxRecDepth 65536 in
set_option maxHeartbeats 40000000 in
theorem rm0 (l : Launch) (Z : State) (a0 : Array Value) (hw : ∀ d ∈ tables_1, d.before a0 Z = true) (ws : List Jvm.Cond) (p0 : Int32) (p1 : Int32) (p2 : Int32)   (h0 : Heap) (n0 : Nat) (Z0 : n0 ≤ h0.size)   :
    MetFree l x (head1 (Jvm.Cond.code x code maxLocals ret :: ws) room_1) (fun a U => a = #[(.int p0), (.int p1), (.int p2)] ∧ Z.Warmed39 U.vm ∧ U.heap = h0) (fun _ _ _ _ _ => True) (fun _ U o U' => ∃ v L, o = .returned v ∧ Q0 p0 p1 p2 h0 n0 v U'.heap L ∧ FrameEnd U o U' L 1 2047) := by
  refine MetFree.of_bodySF (plainFor_of_name pn_com_example_tocsin_tocsin_TextsIsMessagePinLaw) hisR ?_
  intro p e s m args below meth c s₁ Bd hml0 hP hK
  obtain ⟨rfl, hZ, hh⟩ := hP
  have hx := Bd.exec
  have hby := Bd.bytes
  have hlk : meth.locks = false := BodyLoose.notSynchronized Bd
  have hml : c.maxLocals = 6 := hml0
  have hown : s.vm.findClass "com/example/tocsin/tocsin/TextsIsMessagePinLaw" = some m.cls := findClass_of_methodNamed Bd.named
  have hnm := (name_of_methodNamed Bd.named Bd.method).1
  have X0 : Stand p l e room_1 s m #[(.int p0), (.int p1), (.int p2)] below meth c s₁ [] 0 0 := Stand.of_body Bd
  have e0 : s₁.heap = h0 := by rw [← hh, Bd.state]; rfl
  have N0 := Fr.nil n0
  refine own_by (U' := s₁.setTop (mkF m 0 #[.val (.int p0), .val (.int p1), .val (.int p2), .unset, .unset, .unset] [])) (fun t k => castTop (ef_0 m p0 p1 p2) k) ?_
  refine own_by (fun _ k => XS.iloadN X0.here hx rfl (hb hby at_0) rfl k) ?_
  show own_Fin p.tables e below _ (s₁.setTop (mkF m 1 #[.val (.int p0), .val (.int p1), .val (.int p2), .unset, .unset, .unset] [(.int p0)]))
  refine own_by (fun _ k => XS.sipush X0.here hx rfl (hb hby at_1) k) ?_
  show own_Fin p.tables e below _ (s₁.setTop (mkF m 4 #[.val (.int p0), .val (.int p1), .val (.int p2), .unset, .unset, .unset] [(.int (2047 : Int32)), (.int p0)]))
  refine own_by (fun _ k => XS.iand X0.here hx rfl (hb hby at_4) rfl k) ?_
  show own_Fin p.tables e below _ (s₁.setTop (mkF m 5 #[.val (.int p0), .val (.int p1), .val (.int p2), .unset, .unset, .unset] [(.int (p0 &&& (2047 : Int32)))]))
  refine own_by (fun _ k => XS.istoreN X0.here hx rfl (hb hby at_5) rfl (l' := #[.val (.int p0), .val (.int p1), .val (.int p2), .val (.int (p0 &&& (2047 : Int32))), .unset, .unset]) rfl k) ?_
  show own_Fin p.tables e below _ (s₁.setTop (mkF m 6 #[.val (.int p0), .val (.int p1), .val (.int p2), .val (.int (p0 &&& (2047 : Int32))), .unset, .unset] []))
  refine own_by (fun _ k => XS.iloadN X0.here hx rfl (hb hby at_6) rfl k) ?_
  show own_Fin p.tables e below _ (s₁.setTop (mkF m 7 #[.val (.int p0), .val (.int p1), .val (.int p2), .val (.int (p0 &&& (2047 : Int32))), .unset, .unset] [(.int (p0 &&& (2047 : Int32)))]))
  have hm := c_mask p0 2047 11 (by decide) (by decide)
  have hneg : ¬ (p0 &&& (2047 : Int32)) < 0 := own_nn (by omega)
  obtain ⟨T1, h1, k1, X1, e1, E1, A1, st1⟩ := newP X0 hx hZ (hw _ (List.mem_of_getElem? (i := 0) rfl)) e0 (g := (mkF m 7 #[.val (.int p0), .val (.int p1), .val (.int p2), .val (.int (p0 &&& (2047 : Int32))), .unset, .unset] [(.int (p0 &&& (2047 : Int32)))])) rfl (hb hby at_7) rfl hneg (cap := 2047) (own_clamp hneg (by omega)) (by decide) (by decide) (by decide)
  obtain ⟨b1, g1⟩ : ∃ z, z = h0.size := ⟨_, rfl⟩
  rw [← g1] at A1 st1
  have V1 := own_Byt.new A1 hneg
  have g_b1 : n0 ≤ b1 := Nat.le_trans Z0 (Nat.le_of_eq g1.symm)
  have Z1 : n0 ≤ h1.size := Nat.le_trans Z0 E1.1
  refine own_by st1 ?_
  show own_Fin p.tables e below _ (T1.setTop (mkF m 9 #[.val (.int p0), .val (.int p1), .val (.int p2), .val (.int (p0 &&& (2047 : Int32))), .unset, .unset] [(.ref b1)]))
  refine own_by (fun _ k => XS.astore X1.here hx rfl (hb hby at_9) rfl rfl (l' := #[.val (.int p0), .val (.int p1), .val (.int p2), .val (.int (p0 &&& (2047 : Int32))), .val (.ref b1), .unset]) rfl k) ?_
  show own_Fin p.tables e below _ (T1.setTop (mkF m 11 #[.val (.int p0), .val (.int p1), .val (.int p2), .val (.int (p0 &&& (2047 : Int32))), .val (.ref b1), .unset] []))
  refine own_by (fun _ k => XS.iloadN X1.here hx rfl (hb hby at_11) rfl k) ?_
  show own_Fin p.tables e below _ (T1.setTop (mkF m 12 #[.val (.int p0), .val (.int p1), .val (.int p2), .val (.int (p0 &&& (2047 : Int32))), .val (.ref b1), .unset] [(.int (p0 &&& (2047 : Int32)))]))
  by_cases hc2 : (0 : Int32) < (p0 &&& (2047 : Int32))
  · refine own_by (fun _ k => XS.ifNo X1.here hx rfl (hb hby at_12) rfl ((if0 _ _).trans (tlt hc2).2.2.2) k) ?_
    show own_Fin p.tables e below _ (T1.setTop (mkF m 15 #[.val (.int p0), .val (.int p1), .val (.int p2), .val (.int (p0 &&& (2047 : Int32))), .val (.ref b1), .unset] []))
    refine own_by (fun _ k => XS.aload X1.here hx rfl (hb hby at_15) rfl rfl k) ?_
    show own_Fin p.tables e below _ (T1.setTop (mkF m 17 #[.val (.int p0), .val (.int p1), .val (.int p2), .val (.int (p0 &&& (2047 : Int32))), .val (.ref b1), .unset] [(.ref b1)]))
    refine own_by (fun _ k => XS.iconst X1.here hx rfl (hb hby at_17) k) ?_
    show own_Fin p.tables e below _ (T1.setTop (mkF m 18 #[.val (.int p0), .val (.int p1), .val (.int p2), .val (.int (p0 &&& (2047 : Int32))), .val (.ref b1), .unset] [(.int (0 : Int32)), (.ref b1)]))
    refine own_by (fun _ k => XS.iloadN X1.here hx rfl (hb hby at_18) rfl k) ?_
    show own_Fin p.tables e below _ (T1.setTop (mkF m 19 #[.val (.int p0), .val (.int p1), .val (.int p2), .val (.int (p0 &&& (2047 : Int32))), .val (.ref b1), .unset] [(.int p1), (.int (0 : Int32)), (.ref b1)]))
    refine own_by (fun _ k => XS.i2b X1.here hx rfl (hb hby at_19) rfl k) ?_
    show own_Fin p.tables e below _ (T1.setTop (mkF m 20 #[.val (.int p0), .val (.int p1), .val (.int p2), .val (.int (p0 &&& (2047 : Int32))), .val (.ref b1), .unset] [(.int (p1.toInt8.toInt32)), (.int (0 : Int32)), (.ref b1)]))
    obtain ⟨T3, h3, X3, e3, V3, W3, st3⟩ := own_bst X1 hx hZ e1 V1 (j := (0 : Int32)) (by decide) hc2 (g := (mkF m 20 #[.val (.int p0), .val (.int p1), .val (.int p2), .val (.int (p0 &&& (2047 : Int32))), .val (.ref b1), .unset] [(.int (p1.toInt8.toInt32)), (.int (0 : Int32)), (.ref b1)])) rfl rfl (hb hby at_20)
    have N3 := Fr.snoc X3 N0 g_b1
    have Z3 : n0 ≤ h3.size := Nat.le_trans Z1 (Keep.of_wr W3).1
    refine own_by st3 ?_
    show own_Fin p.tables e below _ (T3.setTop (mkF m 21 #[.val (.int p0), .val (.int p1), .val (.int p2), .val (.int (p0 &&& (2047 : Int32))), .val (.ref b1), .unset] []))
    refine own_by (fun _ k => XS.aload X3.here hx rfl (hb hby at_21) rfl rfl k) ?_
    show own_Fin p.tables e below _ (T3.setTop (mkF m 23 #[.val (.int p0), .val (.int p1), .val (.int p2), .val (.int (p0 &&& (2047 : Int32))), .val (.ref b1), .unset] [(.ref b1)]))
    refine own_by (fun _ k => XS.iloadN X3.here hx rfl (hb hby at_23) rfl k) ?_
    show own_Fin p.tables e below _ (T3.setTop (mkF m 24 #[.val (.int p0), .val (.int p1), .val (.int p2), .val (.int (p0 &&& (2047 : Int32))), .val (.ref b1), .unset] [(.int (p0 &&& (2047 : Int32))), (.ref b1)]))
    refine own_by (fun _ k => XS.iconst X3.here hx rfl (hb hby at_24) k) ?_
    show own_Fin p.tables e below _ (T3.setTop (mkF m 25 #[.val (.int p0), .val (.int p1), .val (.int p2), .val (.int (p0 &&& (2047 : Int32))), .val (.ref b1), .unset] [(.int (1 : Int32)), (.int (p0 &&& (2047 : Int32))), (.ref b1)]))
    refine own_by (fun _ k => XS.isub X3.here hx rfl (hb hby at_25) rfl k) ?_
    show own_Fin p.tables e below _ (T3.setTop (mkF m 26 #[.val (.int p0), .val (.int p1), .val (.int p2), .val (.int (p0 &&& (2047 : Int32))), .val (.ref b1), .unset] [(.int ((p0 &&& (2047 : Int32)) - (1 : Int32))), (.ref b1)]))
    refine own_by (fun _ k => XS.iloadN X3.here hx rfl (hb hby at_26) rfl k) ?_
    show own_Fin p.tables e below _ (T3.setTop (mkF m 27 #[.val (.int p0), .val (.int p1), .val (.int p2), .val (.int (p0 &&& (2047 : Int32))), .val (.ref b1), .unset] [(.int p2), (.int ((p0 &&& (2047 : Int32)) - (1 : Int32))), (.ref b1)]))
    refine own_by (fun _ k => XS.i2b X3.here hx rfl (hb hby at_27) rfl k) ?_
    show own_Fin p.tables e below _ (T3.setTop (mkF m 28 #[.val (.int p0), .val (.int p1), .val (.int p2), .val (.int (p0 &&& (2047 : Int32))), .val (.ref b1), .unset] [(.int (p2.toInt8.toInt32)), (.int ((p0 &&& (2047 : Int32)) - (1 : Int32))), (.ref b1)]))
    obtain ⟨T4, h4, X4, e4, V4, W4, st4⟩ := own_bst X3 hx hZ e3 V3 (j := ((p0 &&& (2047 : Int32)) - (1 : Int32))) (own_nn (by have := own_lt.mp hc2; rw [own_z] at this; rw [own_sub _ _ (by rw [own_o]; omega) (by rw [own_o]; omega), own_o]; omega)) (own_ltof (by rw [own_sub _ _ (by rw [own_o]; have := own_lt.mp hc2; rw [own_z] at this; omega) (by rw [own_o]; omega), own_o]; omega)) (g := (mkF m 28 #[.val (.int p0), .val (.int p1), .val (.int p2), .val (.int (p0 &&& (2047 : Int32))), .val (.ref b1), .unset] [(.int (p2.toInt8.toInt32)), (.int ((p0 &&& (2047 : Int32)) - (1 : Int32))), (.ref b1)])) rfl rfl (hb hby at_28)
    have N4 := Fr.snoc X4 N3 g_b1
    have Z4 : n0 ≤ h4.size := Nat.le_trans Z3 (Keep.of_wr W4).1
    refine own_by st4 ?_
    show own_Fin p.tables e below _ (T4.setTop (mkF m 29 #[.val (.int p0), .val (.int p1), .val (.int p2), .val (.int (p0 &&& (2047 : Int32))), .val (.ref b1), .unset] []))
    refine own_by (fun _ k => XS.iloadN X4.here hx rfl (hb hby at_29) rfl k) ?_
    show own_Fin p.tables e below _ (T4.setTop (mkF m 30 #[.val (.int p0), .val (.int p1), .val (.int p2), .val (.int (p0 &&& (2047 : Int32))), .val (.ref b1), .unset] [(.int (p0 &&& (2047 : Int32)))]))
    refine own_by (fun _ k => XS.iconst X4.here hx rfl (hb hby at_30) k) ?_
    show own_Fin p.tables e below _ (T4.setTop (mkF m 31 #[.val (.int p0), .val (.int p1), .val (.int p2), .val (.int (p0 &&& (2047 : Int32))), .val (.ref b1), .unset] [(.int (1 : Int32)), (.int (p0 &&& (2047 : Int32)))]))
    by_cases hc5 : (p0 &&& (2047 : Int32)) < (1 : Int32)
    · refine own_by (fun _ k => XS.icmpYes X4.here hx rfl (pc0 := 31) (pc' := 45) rfl (hb hby at_31) rfl (tlt hc5).1 (by decide) (by decide) k) ?_
      show own_Fin p.tables e below _ (T4.setTop (mkF m 45 #[.val (.int p0), .val (.int p1), .val (.int p2), .val (.int (p0 &&& (2047 : Int32))), .val (.ref b1), .unset] []))
      refine own_by (fun _ k => XS.iconst X4.here hx rfl (hb hby at_45) k) ?_
      show own_Fin p.tables e below _ (T4.setTop (mkF m 46 #[.val (.int p0), .val (.int p1), .val (.int p2), .val (.int (p0 &&& (2047 : Int32))), .val (.ref b1), .unset] [(.int (0 : Int32))]))
      refine own_by (fun _ k => XS.istore X4.here hx rfl (hb hby at_46) rfl (l' := #[.val (.int p0), .val (.int p1), .val (.int p2), .val (.int (p0 &&& (2047 : Int32))), .val (.ref b1), .val (.int (0 : Int32))]) rfl k) ?_
      show own_Fin p.tables e below _ (T4.setTop (mkF m 48 #[.val (.int p0), .val (.int p1), .val (.int p2), .val (.int (p0 &&& (2047 : Int32))), .val (.ref b1), .val (.int (0 : Int32))] []))
      refine own_by (fun _ k => XS.aload X4.here hx rfl (hb hby at_48) rfl rfl k) ?_
      show own_Fin p.tables e below _ (T4.setTop (mkF m 50 #[.val (.int p0), .val (.int p1), .val (.int p2), .val (.int (p0 &&& (2047 : Int32))), .val (.ref b1), .val (.int (0 : Int32))] [(.ref b1)]))
      obtain ⟨_, _, ⟨T6, L6, k6, n6⟩, -, X6, ⟨Lc6, hQ6, l6, y6, z6⟩, st6⟩ := Jvm.LawKit.callS X4 hx (y := (⟨"com/example/tocsin/tocsin/Texts", "isMessage", "([B)Z"⟩ : MethodName)) hown (mvT hZ (hw _ (List.mem_of_getElem? (i := 1) rfl))) (mvT hZ (hw _ (List.mem_of_getElem? (i := 2) rfl))) (mvT hZ (hw _ (List.mem_of_getElem? (i := 3) rfl))) (mvT hZ (hw _ (List.mem_of_getElem? (i := 4) rfl))) (by decide) (backOf (W := 0) (rm1 l Z a0 hw [] b1 (p0 &&& (2047 : Int32)) ((own_upd (own_upd (fun _ => (0 : Int32)) (0 : Int32) ((p1.toInt8.toInt32).toInt8.toInt32)) ((p0 &&& (2047 : Int32)) - (1 : Int32)) ((p2.toInt8.toInt32).toInt8.toInt32))) h4 n0 Z4 V4) hZ (hw _ (List.mem_of_getElem? (i := 4) rfl)) (hw _ (List.mem_of_getElem? (i := 3) rfl)) (by decide) (by decide)) (g := (mkF m 50 #[.val (.int p0), .val (.int p1), .val (.int p2), .val (.int (p0 &&& (2047 : Int32))), .val (.ref b1), .val (.int (0 : Int32))] [(.ref b1)])) rfl (by rw [hml]; rfl) (argsL := [(.ref b1)]) (rest := []) (lenOf pd___B_Z rfl) rfl (by show 2 * 0 + _ ≤ _; exact Nat.le_of_eq rfl) (hb hby at_50) (fun _ _ => ⟨rfl, e4, (by decide : 1 + 0 ≤ _), (by decide : 2047 + 0 ≤ _)⟩)
      dsimp only [Pt.U, Pt.locs, Pt.cells, Pt.slots] at X6 l6 y6 z6 st6 hQ6
      subst l6 y6 z6
      obtain ⟨rfl, N6q, e6⟩ := hQ6
      have N6 := Fr.app N4 N6q
      refine own_by st6 ?_
      show own_Fin p.tables e below _ (T6.setTop (mkF m 53 #[.val (.int p0), .val (.int p1), .val (.int p2), .val (.int (p0 &&& (2047 : Int32))), .val (.ref b1), .val (.int (0 : Int32))] [(.int (f1 (p0 &&& (2047 : Int32)) (own_upd (own_upd (fun _ => (0 : Int32)) (0 : Int32) ((p1.toInt8.toInt32).toInt8.toInt32)) ((p0 &&& (2047 : Int32)) - (1 : Int32)) ((p2.toInt8.toInt32).toInt8.toInt32))))]))
      refine own_by (fun _ k => XS.iload X6.here hx rfl (hb hby at_53) rfl k) ?_
      show own_Fin p.tables e below _ (T6.setTop (mkF m 55 #[.val (.int p0), .val (.int p1), .val (.int p2), .val (.int (p0 &&& (2047 : Int32))), .val (.ref b1), .val (.int (0 : Int32))] [(.int (0 : Int32)), (.int (f1 (p0 &&& (2047 : Int32)) (own_upd (own_upd (fun _ => (0 : Int32)) (0 : Int32) ((p1.toInt8.toInt32).toInt8.toInt32)) ((p0 &&& (2047 : Int32)) - (1 : Int32)) ((p2.toInt8.toInt32).toInt8.toInt32))))]))
      by_cases hc7 : (f1 (p0 &&& (2047 : Int32)) (own_upd (own_upd (fun _ => (0 : Int32)) (0 : Int32) ((p1.toInt8.toInt32).toInt8.toInt32)) ((p0 &&& (2047 : Int32)) - (1 : Int32)) ((p2.toInt8.toInt32).toInt8.toInt32))) = (0 : Int32)
      · refine own_by (fun _ k => XS.icmpNo X6.here hx rfl (hb hby at_55) rfl (teq hc7).2 k) ?_
        show own_Fin p.tables e below _ (T6.setTop (mkF m 58 #[.val (.int p0), .val (.int p1), .val (.int p2), .val (.int (p0 &&& (2047 : Int32))), .val (.ref b1), .val (.int (0 : Int32))] []))
        refine own_by (fun _ k => XS.iconst X6.here hx rfl (hb hby at_58) k) ?_
        show own_Fin p.tables e below _ (T6.setTop (mkF m 59 #[.val (.int p0), .val (.int p1), .val (.int p2), .val (.int (p0 &&& (2047 : Int32))), .val (.ref b1), .val (.int (0 : Int32))] [(.int (1 : Int32))]))
        refine own_by (fun _ k => XS.goto X6.here hx rfl (pc0 := 59) (pc' := 63) rfl (hb hby at_59) (by decide) (by decide) k) ?_
        show own_Fin p.tables e below _ (T6.setTop (mkF m 63 #[.val (.int p0), .val (.int p1), .val (.int p2), .val (.int (p0 &&& (2047 : Int32))), .val (.ref b1), .val (.int (0 : Int32))] [(.int (1 : Int32))]))
        have ef := (show f0 p0 p1 p2 = (1 : Int32) from by unfold f0; rw [if_pos hc2, if_pos hc5, if_pos hc7])
        exact own_retN X6 hx (t := .boolean) Bd.returns hlk (by simp) (hb hby at_63) (by decide) (by decide) ⟨by rw [ef]; rfl, N6⟩
      · refine own_by (fun _ k => XS.icmpYes X6.here hx rfl (pc0 := 55) (pc' := 62) rfl (hb hby at_55) rfl (feq hc7).2 (by decide) (by decide) k) ?_
        show own_Fin p.tables e below _ (T6.setTop (mkF m 62 #[.val (.int p0), .val (.int p1), .val (.int p2), .val (.int (p0 &&& (2047 : Int32))), .val (.ref b1), .val (.int (0 : Int32))] []))
        refine own_by (fun _ k => XS.iconst X6.here hx rfl (hb hby at_62) k) ?_
        show own_Fin p.tables e below _ (T6.setTop (mkF m 63 #[.val (.int p0), .val (.int p1), .val (.int p2), .val (.int (p0 &&& (2047 : Int32))), .val (.ref b1), .val (.int (0 : Int32))] [(.int (0 : Int32))]))
        have ef := (show f0 p0 p1 p2 = (0 : Int32) from by unfold f0; rw [if_pos hc2, if_pos hc5, if_neg hc7])
        exact own_retN X6 hx (t := .boolean) Bd.returns hlk (by simp) (hb hby at_63) (by decide) (by decide) ⟨by rw [ef]; rfl, N6⟩
    · refine own_by (fun _ k => XS.icmpNo X4.here hx rfl (hb hby at_31) rfl (flt hc5).1 k) ?_
      show own_Fin p.tables e below _ (T4.setTop (mkF m 34 #[.val (.int p0), .val (.int p1), .val (.int p2), .val (.int (p0 &&& (2047 : Int32))), .val (.ref b1), .unset] []))
      refine own_by (fun _ k => XS.iloadN X4.here hx rfl (hb hby at_34) rfl k) ?_
      show own_Fin p.tables e below _ (T4.setTop (mkF m 35 #[.val (.int p0), .val (.int p1), .val (.int p2), .val (.int (p0 &&& (2047 : Int32))), .val (.ref b1), .unset] [(.int (p0 &&& (2047 : Int32)))]))
      refine own_by (fun _ k => XS.sipush X4.here hx rfl (hb hby at_35) k) ?_
      show own_Fin p.tables e below _ (T4.setTop (mkF m 38 #[.val (.int p0), .val (.int p1), .val (.int p2), .val (.int (p0 &&& (2047 : Int32))), .val (.ref b1), .unset] [(.int (1000 : Int32)), (.int (p0 &&& (2047 : Int32)))]))
      by_cases hc8 : (1000 : Int32) < (p0 &&& (2047 : Int32))
      · refine own_by (fun _ k => XS.icmpYes X4.here hx rfl (pc0 := 38) (pc' := 45) rfl (hb hby at_38) rfl (tlt hc8).2.2.1 (by decide) (by decide) k) ?_
        show own_Fin p.tables e below _ (T4.setTop (mkF m 45 #[.val (.int p0), .val (.int p1), .val (.int p2), .val (.int (p0 &&& (2047 : Int32))), .val (.ref b1), .unset] []))
        refine own_by (fun _ k => XS.iconst X4.here hx rfl (hb hby at_45) k) ?_
        show own_Fin p.tables e below _ (T4.setTop (mkF m 46 #[.val (.int p0), .val (.int p1), .val (.int p2), .val (.int (p0 &&& (2047 : Int32))), .val (.ref b1), .unset] [(.int (0 : Int32))]))
        refine own_by (fun _ k => XS.istore X4.here hx rfl (hb hby at_46) rfl (l' := #[.val (.int p0), .val (.int p1), .val (.int p2), .val (.int (p0 &&& (2047 : Int32))), .val (.ref b1), .val (.int (0 : Int32))]) rfl k) ?_
        show own_Fin p.tables e below _ (T4.setTop (mkF m 48 #[.val (.int p0), .val (.int p1), .val (.int p2), .val (.int (p0 &&& (2047 : Int32))), .val (.ref b1), .val (.int (0 : Int32))] []))
        refine own_by (fun _ k => XS.aload X4.here hx rfl (hb hby at_48) rfl rfl k) ?_
        show own_Fin p.tables e below _ (T4.setTop (mkF m 50 #[.val (.int p0), .val (.int p1), .val (.int p2), .val (.int (p0 &&& (2047 : Int32))), .val (.ref b1), .val (.int (0 : Int32))] [(.ref b1)]))
        obtain ⟨_, _, ⟨T9, L9, k9, n9⟩, -, X9, ⟨Lc9, hQ9, l9, y9, z9⟩, st9⟩ := Jvm.LawKit.callS X4 hx (y := (⟨"com/example/tocsin/tocsin/Texts", "isMessage", "([B)Z"⟩ : MethodName)) hown (mvT hZ (hw _ (List.mem_of_getElem? (i := 1) rfl))) (mvT hZ (hw _ (List.mem_of_getElem? (i := 2) rfl))) (mvT hZ (hw _ (List.mem_of_getElem? (i := 3) rfl))) (mvT hZ (hw _ (List.mem_of_getElem? (i := 4) rfl))) (by decide) (backOf (W := 0) (rm1 l Z a0 hw [] b1 (p0 &&& (2047 : Int32)) ((own_upd (own_upd (fun _ => (0 : Int32)) (0 : Int32) ((p1.toInt8.toInt32).toInt8.toInt32)) ((p0 &&& (2047 : Int32)) - (1 : Int32)) ((p2.toInt8.toInt32).toInt8.toInt32))) h4 n0 Z4 V4) hZ (hw _ (List.mem_of_getElem? (i := 4) rfl)) (hw _ (List.mem_of_getElem? (i := 3) rfl)) (by decide) (by decide)) (g := (mkF m 50 #[.val (.int p0), .val (.int p1), .val (.int p2), .val (.int (p0 &&& (2047 : Int32))), .val (.ref b1), .val (.int (0 : Int32))] [(.ref b1)])) rfl (by rw [hml]; rfl) (argsL := [(.ref b1)]) (rest := []) (lenOf pd___B_Z rfl) rfl (by show 2 * 0 + _ ≤ _; exact Nat.le_of_eq rfl) (hb hby at_50) (fun _ _ => ⟨rfl, e4, (by decide : 1 + 0 ≤ _), (by decide : 2047 + 0 ≤ _)⟩)
        dsimp only [Pt.U, Pt.locs, Pt.cells, Pt.slots] at X9 l9 y9 z9 st9 hQ9
        subst l9 y9 z9
        obtain ⟨rfl, N9q, e9⟩ := hQ9
        have N9 := Fr.app N4 N9q
        refine own_by st9 ?_
        show own_Fin p.tables e below _ (T9.setTop (mkF m 53 #[.val (.int p0), .val (.int p1), .val (.int p2), .val (.int (p0 &&& (2047 : Int32))), .val (.ref b1), .val (.int (0 : Int32))] [(.int (f1 (p0 &&& (2047 : Int32)) (own_upd (own_upd (fun _ => (0 : Int32)) (0 : Int32) ((p1.toInt8.toInt32).toInt8.toInt32)) ((p0 &&& (2047 : Int32)) - (1 : Int32)) ((p2.toInt8.toInt32).toInt8.toInt32))))]))
        refine own_by (fun _ k => XS.iload X9.here hx rfl (hb hby at_53) rfl k) ?_
        show own_Fin p.tables e below _ (T9.setTop (mkF m 55 #[.val (.int p0), .val (.int p1), .val (.int p2), .val (.int (p0 &&& (2047 : Int32))), .val (.ref b1), .val (.int (0 : Int32))] [(.int (0 : Int32)), (.int (f1 (p0 &&& (2047 : Int32)) (own_upd (own_upd (fun _ => (0 : Int32)) (0 : Int32) ((p1.toInt8.toInt32).toInt8.toInt32)) ((p0 &&& (2047 : Int32)) - (1 : Int32)) ((p2.toInt8.toInt32).toInt8.toInt32))))]))
        by_cases hc10 : (f1 (p0 &&& (2047 : Int32)) (own_upd (own_upd (fun _ => (0 : Int32)) (0 : Int32) ((p1.toInt8.toInt32).toInt8.toInt32)) ((p0 &&& (2047 : Int32)) - (1 : Int32)) ((p2.toInt8.toInt32).toInt8.toInt32))) = (0 : Int32)
        · refine own_by (fun _ k => XS.icmpNo X9.here hx rfl (hb hby at_55) rfl (teq hc10).2 k) ?_
          show own_Fin p.tables e below _ (T9.setTop (mkF m 58 #[.val (.int p0), .val (.int p1), .val (.int p2), .val (.int (p0 &&& (2047 : Int32))), .val (.ref b1), .val (.int (0 : Int32))] []))
          refine own_by (fun _ k => XS.iconst X9.here hx rfl (hb hby at_58) k) ?_
          show own_Fin p.tables e below _ (T9.setTop (mkF m 59 #[.val (.int p0), .val (.int p1), .val (.int p2), .val (.int (p0 &&& (2047 : Int32))), .val (.ref b1), .val (.int (0 : Int32))] [(.int (1 : Int32))]))
          refine own_by (fun _ k => XS.goto X9.here hx rfl (pc0 := 59) (pc' := 63) rfl (hb hby at_59) (by decide) (by decide) k) ?_
          show own_Fin p.tables e below _ (T9.setTop (mkF m 63 #[.val (.int p0), .val (.int p1), .val (.int p2), .val (.int (p0 &&& (2047 : Int32))), .val (.ref b1), .val (.int (0 : Int32))] [(.int (1 : Int32))]))
          have ef := (show f0 p0 p1 p2 = (1 : Int32) from by unfold f0; rw [if_pos hc2, if_neg hc5, if_pos hc8, if_pos hc10])
          exact own_retN X9 hx (t := .boolean) Bd.returns hlk (by simp) (hb hby at_63) (by decide) (by decide) ⟨by rw [ef]; rfl, N9⟩
        · refine own_by (fun _ k => XS.icmpYes X9.here hx rfl (pc0 := 55) (pc' := 62) rfl (hb hby at_55) rfl (feq hc10).2 (by decide) (by decide) k) ?_
          show own_Fin p.tables e below _ (T9.setTop (mkF m 62 #[.val (.int p0), .val (.int p1), .val (.int p2), .val (.int (p0 &&& (2047 : Int32))), .val (.ref b1), .val (.int (0 : Int32))] []))
          refine own_by (fun _ k => XS.iconst X9.here hx rfl (hb hby at_62) k) ?_
          show own_Fin p.tables e below _ (T9.setTop (mkF m 63 #[.val (.int p0), .val (.int p1), .val (.int p2), .val (.int (p0 &&& (2047 : Int32))), .val (.ref b1), .val (.int (0 : Int32))] [(.int (0 : Int32))]))
          have ef := (show f0 p0 p1 p2 = (0 : Int32) from by unfold f0; rw [if_pos hc2, if_neg hc5, if_pos hc8, if_neg hc10])
          exact own_retN X9 hx (t := .boolean) Bd.returns hlk (by simp) (hb hby at_63) (by decide) (by decide) ⟨by rw [ef]; rfl, N9⟩
      · refine own_by (fun _ k => XS.icmpNo X4.here hx rfl (hb hby at_38) rfl (flt hc8).2.2.1 k) ?_
        show own_Fin p.tables e below _ (T4.setTop (mkF m 41 #[.val (.int p0), .val (.int p1), .val (.int p2), .val (.int (p0 &&& (2047 : Int32))), .val (.ref b1), .unset] []))
        refine own_by (fun _ k => XS.iconst X4.here hx rfl (hb hby at_41) k) ?_
        show own_Fin p.tables e below _ (T4.setTop (mkF m 42 #[.val (.int p0), .val (.int p1), .val (.int p2), .val (.int (p0 &&& (2047 : Int32))), .val (.ref b1), .unset] [(.int (1 : Int32))]))
        refine own_by (fun _ k => XS.goto X4.here hx rfl (pc0 := 42) (pc' := 46) rfl (hb hby at_42) (by decide) (by decide) k) ?_
        show own_Fin p.tables e below _ (T4.setTop (mkF m 46 #[.val (.int p0), .val (.int p1), .val (.int p2), .val (.int (p0 &&& (2047 : Int32))), .val (.ref b1), .unset] [(.int (1 : Int32))]))
        refine own_by (fun _ k => XS.istore X4.here hx rfl (hb hby at_46) rfl (l' := #[.val (.int p0), .val (.int p1), .val (.int p2), .val (.int (p0 &&& (2047 : Int32))), .val (.ref b1), .val (.int (1 : Int32))]) rfl k) ?_
        show own_Fin p.tables e below _ (T4.setTop (mkF m 48 #[.val (.int p0), .val (.int p1), .val (.int p2), .val (.int (p0 &&& (2047 : Int32))), .val (.ref b1), .val (.int (1 : Int32))] []))
        refine own_by (fun _ k => XS.aload X4.here hx rfl (hb hby at_48) rfl rfl k) ?_
        show own_Fin p.tables e below _ (T4.setTop (mkF m 50 #[.val (.int p0), .val (.int p1), .val (.int p2), .val (.int (p0 &&& (2047 : Int32))), .val (.ref b1), .val (.int (1 : Int32))] [(.ref b1)]))
        obtain ⟨_, _, ⟨T11, L11, k11, n11⟩, -, X11, ⟨Lc11, hQ11, l11, y11, z11⟩, st11⟩ := Jvm.LawKit.callS X4 hx (y := (⟨"com/example/tocsin/tocsin/Texts", "isMessage", "([B)Z"⟩ : MethodName)) hown (mvT hZ (hw _ (List.mem_of_getElem? (i := 1) rfl))) (mvT hZ (hw _ (List.mem_of_getElem? (i := 2) rfl))) (mvT hZ (hw _ (List.mem_of_getElem? (i := 3) rfl))) (mvT hZ (hw _ (List.mem_of_getElem? (i := 4) rfl))) (by decide) (backOf (W := 0) (rm1 l Z a0 hw [] b1 (p0 &&& (2047 : Int32)) ((own_upd (own_upd (fun _ => (0 : Int32)) (0 : Int32) ((p1.toInt8.toInt32).toInt8.toInt32)) ((p0 &&& (2047 : Int32)) - (1 : Int32)) ((p2.toInt8.toInt32).toInt8.toInt32))) h4 n0 Z4 V4) hZ (hw _ (List.mem_of_getElem? (i := 4) rfl)) (hw _ (List.mem_of_getElem? (i := 3) rfl)) (by decide) (by decide)) (g := (mkF m 50 #[.val (.int p0), .val (.int p1), .val (.int p2), .val (.int (p0 &&& (2047 : Int32))), .val (.ref b1), .val (.int (1 : Int32))] [(.ref b1)])) rfl (by rw [hml]; rfl) (argsL := [(.ref b1)]) (rest := []) (lenOf pd___B_Z rfl) rfl (by show 2 * 0 + _ ≤ _; exact Nat.le_of_eq rfl) (hb hby at_50) (fun _ _ => ⟨rfl, e4, (by decide : 1 + 0 ≤ _), (by decide : 2047 + 0 ≤ _)⟩)
        dsimp only [Pt.U, Pt.locs, Pt.cells, Pt.slots] at X11 l11 y11 z11 st11 hQ11
        subst l11 y11 z11
        obtain ⟨rfl, N11q, e11⟩ := hQ11
        have N11 := Fr.app N4 N11q
        refine own_by st11 ?_
        show own_Fin p.tables e below _ (T11.setTop (mkF m 53 #[.val (.int p0), .val (.int p1), .val (.int p2), .val (.int (p0 &&& (2047 : Int32))), .val (.ref b1), .val (.int (1 : Int32))] [(.int (f1 (p0 &&& (2047 : Int32)) (own_upd (own_upd (fun _ => (0 : Int32)) (0 : Int32) ((p1.toInt8.toInt32).toInt8.toInt32)) ((p0 &&& (2047 : Int32)) - (1 : Int32)) ((p2.toInt8.toInt32).toInt8.toInt32))))]))
        refine own_by (fun _ k => XS.iload X11.here hx rfl (hb hby at_53) rfl k) ?_
        show own_Fin p.tables e below _ (T11.setTop (mkF m 55 #[.val (.int p0), .val (.int p1), .val (.int p2), .val (.int (p0 &&& (2047 : Int32))), .val (.ref b1), .val (.int (1 : Int32))] [(.int (1 : Int32)), (.int (f1 (p0 &&& (2047 : Int32)) (own_upd (own_upd (fun _ => (0 : Int32)) (0 : Int32) ((p1.toInt8.toInt32).toInt8.toInt32)) ((p0 &&& (2047 : Int32)) - (1 : Int32)) ((p2.toInt8.toInt32).toInt8.toInt32))))]))
        by_cases hc12 : (f1 (p0 &&& (2047 : Int32)) (own_upd (own_upd (fun _ => (0 : Int32)) (0 : Int32) ((p1.toInt8.toInt32).toInt8.toInt32)) ((p0 &&& (2047 : Int32)) - (1 : Int32)) ((p2.toInt8.toInt32).toInt8.toInt32))) = (1 : Int32)
        · refine own_by (fun _ k => XS.icmpNo X11.here hx rfl (hb hby at_55) rfl (teq hc12).2 k) ?_
          show own_Fin p.tables e below _ (T11.setTop (mkF m 58 #[.val (.int p0), .val (.int p1), .val (.int p2), .val (.int (p0 &&& (2047 : Int32))), .val (.ref b1), .val (.int (1 : Int32))] []))
          refine own_by (fun _ k => XS.iconst X11.here hx rfl (hb hby at_58) k) ?_
          show own_Fin p.tables e below _ (T11.setTop (mkF m 59 #[.val (.int p0), .val (.int p1), .val (.int p2), .val (.int (p0 &&& (2047 : Int32))), .val (.ref b1), .val (.int (1 : Int32))] [(.int (1 : Int32))]))
          refine own_by (fun _ k => XS.goto X11.here hx rfl (pc0 := 59) (pc' := 63) rfl (hb hby at_59) (by decide) (by decide) k) ?_
          show own_Fin p.tables e below _ (T11.setTop (mkF m 63 #[.val (.int p0), .val (.int p1), .val (.int p2), .val (.int (p0 &&& (2047 : Int32))), .val (.ref b1), .val (.int (1 : Int32))] [(.int (1 : Int32))]))
          have ef := (show f0 p0 p1 p2 = (1 : Int32) from by unfold f0; rw [if_pos hc2, if_neg hc5, if_neg hc8, if_pos hc12])
          exact own_retN X11 hx (t := .boolean) Bd.returns hlk (by simp) (hb hby at_63) (by decide) (by decide) ⟨by rw [ef]; rfl, N11⟩
        · refine own_by (fun _ k => XS.icmpYes X11.here hx rfl (pc0 := 55) (pc' := 62) rfl (hb hby at_55) rfl (feq hc12).2 (by decide) (by decide) k) ?_
          show own_Fin p.tables e below _ (T11.setTop (mkF m 62 #[.val (.int p0), .val (.int p1), .val (.int p2), .val (.int (p0 &&& (2047 : Int32))), .val (.ref b1), .val (.int (1 : Int32))] []))
          refine own_by (fun _ k => XS.iconst X11.here hx rfl (hb hby at_62) k) ?_
          show own_Fin p.tables e below _ (T11.setTop (mkF m 63 #[.val (.int p0), .val (.int p1), .val (.int p2), .val (.int (p0 &&& (2047 : Int32))), .val (.ref b1), .val (.int (1 : Int32))] [(.int (0 : Int32))]))
          have ef := (show f0 p0 p1 p2 = (0 : Int32) from by unfold f0; rw [if_pos hc2, if_neg hc5, if_neg hc8, if_neg hc12])
          exact own_retN X11 hx (t := .boolean) Bd.returns hlk (by simp) (hb hby at_63) (by decide) (by decide) ⟨by rw [ef]; rfl, N11⟩
  · refine own_by (fun _ k => XS.ifYes X1.here hx rfl (pc0 := 12) (pc' := 29) rfl (hb hby at_12) rfl ((if0 _ _).trans (flt hc2).2.2.2) (by decide) (by decide) k) ?_
    show own_Fin p.tables e below _ (T1.setTop (mkF m 29 #[.val (.int p0), .val (.int p1), .val (.int p2), .val (.int (p0 &&& (2047 : Int32))), .val (.ref b1), .unset] []))
    refine own_by (fun _ k => XS.iloadN X1.here hx rfl (hb hby at_29) rfl k) ?_
    show own_Fin p.tables e below _ (T1.setTop (mkF m 30 #[.val (.int p0), .val (.int p1), .val (.int p2), .val (.int (p0 &&& (2047 : Int32))), .val (.ref b1), .unset] [(.int (p0 &&& (2047 : Int32)))]))
    refine own_by (fun _ k => XS.iconst X1.here hx rfl (hb hby at_30) k) ?_
    show own_Fin p.tables e below _ (T1.setTop (mkF m 31 #[.val (.int p0), .val (.int p1), .val (.int p2), .val (.int (p0 &&& (2047 : Int32))), .val (.ref b1), .unset] [(.int (1 : Int32)), (.int (p0 &&& (2047 : Int32)))]))
    by_cases hc13 : (p0 &&& (2047 : Int32)) < (1 : Int32)
    · refine own_by (fun _ k => XS.icmpYes X1.here hx rfl (pc0 := 31) (pc' := 45) rfl (hb hby at_31) rfl (tlt hc13).1 (by decide) (by decide) k) ?_
      show own_Fin p.tables e below _ (T1.setTop (mkF m 45 #[.val (.int p0), .val (.int p1), .val (.int p2), .val (.int (p0 &&& (2047 : Int32))), .val (.ref b1), .unset] []))
      refine own_by (fun _ k => XS.iconst X1.here hx rfl (hb hby at_45) k) ?_
      show own_Fin p.tables e below _ (T1.setTop (mkF m 46 #[.val (.int p0), .val (.int p1), .val (.int p2), .val (.int (p0 &&& (2047 : Int32))), .val (.ref b1), .unset] [(.int (0 : Int32))]))
      refine own_by (fun _ k => XS.istore X1.here hx rfl (hb hby at_46) rfl (l' := #[.val (.int p0), .val (.int p1), .val (.int p2), .val (.int (p0 &&& (2047 : Int32))), .val (.ref b1), .val (.int (0 : Int32))]) rfl k) ?_
      show own_Fin p.tables e below _ (T1.setTop (mkF m 48 #[.val (.int p0), .val (.int p1), .val (.int p2), .val (.int (p0 &&& (2047 : Int32))), .val (.ref b1), .val (.int (0 : Int32))] []))
      refine own_by (fun _ k => XS.aload X1.here hx rfl (hb hby at_48) rfl rfl k) ?_
      show own_Fin p.tables e below _ (T1.setTop (mkF m 50 #[.val (.int p0), .val (.int p1), .val (.int p2), .val (.int (p0 &&& (2047 : Int32))), .val (.ref b1), .val (.int (0 : Int32))] [(.ref b1)]))
      obtain ⟨_, _, ⟨T14, L14, k14, n14⟩, -, X14, ⟨Lc14, hQ14, l14, y14, z14⟩, st14⟩ := Jvm.LawKit.callS X1 hx (y := (⟨"com/example/tocsin/tocsin/Texts", "isMessage", "([B)Z"⟩ : MethodName)) hown (mvT hZ (hw _ (List.mem_of_getElem? (i := 1) rfl))) (mvT hZ (hw _ (List.mem_of_getElem? (i := 2) rfl))) (mvT hZ (hw _ (List.mem_of_getElem? (i := 3) rfl))) (mvT hZ (hw _ (List.mem_of_getElem? (i := 4) rfl))) (by decide) (backOf (W := 0) (rm1 l Z a0 hw [] b1 (p0 &&& (2047 : Int32)) ((fun _ => (0 : Int32))) h1 n0 Z1 V1) hZ (hw _ (List.mem_of_getElem? (i := 4) rfl)) (hw _ (List.mem_of_getElem? (i := 3) rfl)) (by decide) (by decide)) (g := (mkF m 50 #[.val (.int p0), .val (.int p1), .val (.int p2), .val (.int (p0 &&& (2047 : Int32))), .val (.ref b1), .val (.int (0 : Int32))] [(.ref b1)])) rfl (by rw [hml]; rfl) (argsL := [(.ref b1)]) (rest := []) (lenOf pd___B_Z rfl) rfl (by show 2 * 0 + _ ≤ _; exact Nat.le_of_eq rfl) (hb hby at_50) (fun _ _ => ⟨rfl, e1, (by decide : 1 + 0 ≤ _), (by decide : 2047 + 0 ≤ _)⟩)
      dsimp only [Pt.U, Pt.locs, Pt.cells, Pt.slots] at X14 l14 y14 z14 st14 hQ14
      subst l14 y14 z14
      obtain ⟨rfl, N14q, e14⟩ := hQ14
      have N14 := Fr.app N0 N14q
      refine own_by st14 ?_
      show own_Fin p.tables e below _ (T14.setTop (mkF m 53 #[.val (.int p0), .val (.int p1), .val (.int p2), .val (.int (p0 &&& (2047 : Int32))), .val (.ref b1), .val (.int (0 : Int32))] [(.int (f1 (p0 &&& (2047 : Int32)) (fun _ => (0 : Int32))))]))
      refine own_by (fun _ k => XS.iload X14.here hx rfl (hb hby at_53) rfl k) ?_
      show own_Fin p.tables e below _ (T14.setTop (mkF m 55 #[.val (.int p0), .val (.int p1), .val (.int p2), .val (.int (p0 &&& (2047 : Int32))), .val (.ref b1), .val (.int (0 : Int32))] [(.int (0 : Int32)), (.int (f1 (p0 &&& (2047 : Int32)) (fun _ => (0 : Int32))))]))
      by_cases hc15 : (f1 (p0 &&& (2047 : Int32)) (fun _ => (0 : Int32))) = (0 : Int32)
      · refine own_by (fun _ k => XS.icmpNo X14.here hx rfl (hb hby at_55) rfl (teq hc15).2 k) ?_
        show own_Fin p.tables e below _ (T14.setTop (mkF m 58 #[.val (.int p0), .val (.int p1), .val (.int p2), .val (.int (p0 &&& (2047 : Int32))), .val (.ref b1), .val (.int (0 : Int32))] []))
        refine own_by (fun _ k => XS.iconst X14.here hx rfl (hb hby at_58) k) ?_
        show own_Fin p.tables e below _ (T14.setTop (mkF m 59 #[.val (.int p0), .val (.int p1), .val (.int p2), .val (.int (p0 &&& (2047 : Int32))), .val (.ref b1), .val (.int (0 : Int32))] [(.int (1 : Int32))]))
        refine own_by (fun _ k => XS.goto X14.here hx rfl (pc0 := 59) (pc' := 63) rfl (hb hby at_59) (by decide) (by decide) k) ?_
        show own_Fin p.tables e below _ (T14.setTop (mkF m 63 #[.val (.int p0), .val (.int p1), .val (.int p2), .val (.int (p0 &&& (2047 : Int32))), .val (.ref b1), .val (.int (0 : Int32))] [(.int (1 : Int32))]))
        have ef := (show f0 p0 p1 p2 = (1 : Int32) from by unfold f0; rw [if_neg hc2, if_pos hc13, if_pos hc15])
        exact own_retN X14 hx (t := .boolean) Bd.returns hlk (by simp) (hb hby at_63) (by decide) (by decide) ⟨by rw [ef]; rfl, N14⟩
      · refine own_by (fun _ k => XS.icmpYes X14.here hx rfl (pc0 := 55) (pc' := 62) rfl (hb hby at_55) rfl (feq hc15).2 (by decide) (by decide) k) ?_
        show own_Fin p.tables e below _ (T14.setTop (mkF m 62 #[.val (.int p0), .val (.int p1), .val (.int p2), .val (.int (p0 &&& (2047 : Int32))), .val (.ref b1), .val (.int (0 : Int32))] []))
        refine own_by (fun _ k => XS.iconst X14.here hx rfl (hb hby at_62) k) ?_
        show own_Fin p.tables e below _ (T14.setTop (mkF m 63 #[.val (.int p0), .val (.int p1), .val (.int p2), .val (.int (p0 &&& (2047 : Int32))), .val (.ref b1), .val (.int (0 : Int32))] [(.int (0 : Int32))]))
        have ef := (show f0 p0 p1 p2 = (0 : Int32) from by unfold f0; rw [if_neg hc2, if_pos hc13, if_neg hc15])
        exact own_retN X14 hx (t := .boolean) Bd.returns hlk (by simp) (hb hby at_63) (by decide) (by decide) ⟨by rw [ef]; rfl, N14⟩
    · refine own_by (fun _ k => XS.icmpNo X1.here hx rfl (hb hby at_31) rfl (flt hc13).1 k) ?_
      show own_Fin p.tables e below _ (T1.setTop (mkF m 34 #[.val (.int p0), .val (.int p1), .val (.int p2), .val (.int (p0 &&& (2047 : Int32))), .val (.ref b1), .unset] []))
      refine own_by (fun _ k => XS.iloadN X1.here hx rfl (hb hby at_34) rfl k) ?_
      show own_Fin p.tables e below _ (T1.setTop (mkF m 35 #[.val (.int p0), .val (.int p1), .val (.int p2), .val (.int (p0 &&& (2047 : Int32))), .val (.ref b1), .unset] [(.int (p0 &&& (2047 : Int32)))]))
      refine own_by (fun _ k => XS.sipush X1.here hx rfl (hb hby at_35) k) ?_
      show own_Fin p.tables e below _ (T1.setTop (mkF m 38 #[.val (.int p0), .val (.int p1), .val (.int p2), .val (.int (p0 &&& (2047 : Int32))), .val (.ref b1), .unset] [(.int (1000 : Int32)), (.int (p0 &&& (2047 : Int32)))]))
      by_cases hc16 : (1000 : Int32) < (p0 &&& (2047 : Int32))
      · refine own_by (fun _ k => XS.icmpYes X1.here hx rfl (pc0 := 38) (pc' := 45) rfl (hb hby at_38) rfl (tlt hc16).2.2.1 (by decide) (by decide) k) ?_
        show own_Fin p.tables e below _ (T1.setTop (mkF m 45 #[.val (.int p0), .val (.int p1), .val (.int p2), .val (.int (p0 &&& (2047 : Int32))), .val (.ref b1), .unset] []))
        refine own_by (fun _ k => XS.iconst X1.here hx rfl (hb hby at_45) k) ?_
        show own_Fin p.tables e below _ (T1.setTop (mkF m 46 #[.val (.int p0), .val (.int p1), .val (.int p2), .val (.int (p0 &&& (2047 : Int32))), .val (.ref b1), .unset] [(.int (0 : Int32))]))
        refine own_by (fun _ k => XS.istore X1.here hx rfl (hb hby at_46) rfl (l' := #[.val (.int p0), .val (.int p1), .val (.int p2), .val (.int (p0 &&& (2047 : Int32))), .val (.ref b1), .val (.int (0 : Int32))]) rfl k) ?_
        show own_Fin p.tables e below _ (T1.setTop (mkF m 48 #[.val (.int p0), .val (.int p1), .val (.int p2), .val (.int (p0 &&& (2047 : Int32))), .val (.ref b1), .val (.int (0 : Int32))] []))
        refine own_by (fun _ k => XS.aload X1.here hx rfl (hb hby at_48) rfl rfl k) ?_
        show own_Fin p.tables e below _ (T1.setTop (mkF m 50 #[.val (.int p0), .val (.int p1), .val (.int p2), .val (.int (p0 &&& (2047 : Int32))), .val (.ref b1), .val (.int (0 : Int32))] [(.ref b1)]))
        obtain ⟨_, _, ⟨T17, L17, k17, n17⟩, -, X17, ⟨Lc17, hQ17, l17, y17, z17⟩, st17⟩ := Jvm.LawKit.callS X1 hx (y := (⟨"com/example/tocsin/tocsin/Texts", "isMessage", "([B)Z"⟩ : MethodName)) hown (mvT hZ (hw _ (List.mem_of_getElem? (i := 1) rfl))) (mvT hZ (hw _ (List.mem_of_getElem? (i := 2) rfl))) (mvT hZ (hw _ (List.mem_of_getElem? (i := 3) rfl))) (mvT hZ (hw _ (List.mem_of_getElem? (i := 4) rfl))) (by decide) (backOf (W := 0) (rm1 l Z a0 hw [] b1 (p0 &&& (2047 : Int32)) ((fun _ => (0 : Int32))) h1 n0 Z1 V1) hZ (hw _ (List.mem_of_getElem? (i := 4) rfl)) (hw _ (List.mem_of_getElem? (i := 3) rfl)) (by decide) (by decide)) (g := (mkF m 50 #[.val (.int p0), .val (.int p1), .val (.int p2), .val (.int (p0 &&& (2047 : Int32))), .val (.ref b1), .val (.int (0 : Int32))] [(.ref b1)])) rfl (by rw [hml]; rfl) (argsL := [(.ref b1)]) (rest := []) (lenOf pd___B_Z rfl) rfl (by show 2 * 0 + _ ≤ _; exact Nat.le_of_eq rfl) (hb hby at_50) (fun _ _ => ⟨rfl, e1, (by decide : 1 + 0 ≤ _), (by decide : 2047 + 0 ≤ _)⟩)
        dsimp only [Pt.U, Pt.locs, Pt.cells, Pt.slots] at X17 l17 y17 z17 st17 hQ17
        subst l17 y17 z17
        obtain ⟨rfl, N17q, e17⟩ := hQ17
        have N17 := Fr.app N0 N17q
        refine own_by st17 ?_
        show own_Fin p.tables e below _ (T17.setTop (mkF m 53 #[.val (.int p0), .val (.int p1), .val (.int p2), .val (.int (p0 &&& (2047 : Int32))), .val (.ref b1), .val (.int (0 : Int32))] [(.int (f1 (p0 &&& (2047 : Int32)) (fun _ => (0 : Int32))))]))
        refine own_by (fun _ k => XS.iload X17.here hx rfl (hb hby at_53) rfl k) ?_
        show own_Fin p.tables e below _ (T17.setTop (mkF m 55 #[.val (.int p0), .val (.int p1), .val (.int p2), .val (.int (p0 &&& (2047 : Int32))), .val (.ref b1), .val (.int (0 : Int32))] [(.int (0 : Int32)), (.int (f1 (p0 &&& (2047 : Int32)) (fun _ => (0 : Int32))))]))
        by_cases hc18 : (f1 (p0 &&& (2047 : Int32)) (fun _ => (0 : Int32))) = (0 : Int32)
        · refine own_by (fun _ k => XS.icmpNo X17.here hx rfl (hb hby at_55) rfl (teq hc18).2 k) ?_
          show own_Fin p.tables e below _ (T17.setTop (mkF m 58 #[.val (.int p0), .val (.int p1), .val (.int p2), .val (.int (p0 &&& (2047 : Int32))), .val (.ref b1), .val (.int (0 : Int32))] []))
          refine own_by (fun _ k => XS.iconst X17.here hx rfl (hb hby at_58) k) ?_
          show own_Fin p.tables e below _ (T17.setTop (mkF m 59 #[.val (.int p0), .val (.int p1), .val (.int p2), .val (.int (p0 &&& (2047 : Int32))), .val (.ref b1), .val (.int (0 : Int32))] [(.int (1 : Int32))]))
          refine own_by (fun _ k => XS.goto X17.here hx rfl (pc0 := 59) (pc' := 63) rfl (hb hby at_59) (by decide) (by decide) k) ?_
          show own_Fin p.tables e below _ (T17.setTop (mkF m 63 #[.val (.int p0), .val (.int p1), .val (.int p2), .val (.int (p0 &&& (2047 : Int32))), .val (.ref b1), .val (.int (0 : Int32))] [(.int (1 : Int32))]))
          have ef := (show f0 p0 p1 p2 = (1 : Int32) from by unfold f0; rw [if_neg hc2, if_neg hc13, if_pos hc16, if_pos hc18])
          exact own_retN X17 hx (t := .boolean) Bd.returns hlk (by simp) (hb hby at_63) (by decide) (by decide) ⟨by rw [ef]; rfl, N17⟩
        · refine own_by (fun _ k => XS.icmpYes X17.here hx rfl (pc0 := 55) (pc' := 62) rfl (hb hby at_55) rfl (feq hc18).2 (by decide) (by decide) k) ?_
          show own_Fin p.tables e below _ (T17.setTop (mkF m 62 #[.val (.int p0), .val (.int p1), .val (.int p2), .val (.int (p0 &&& (2047 : Int32))), .val (.ref b1), .val (.int (0 : Int32))] []))
          refine own_by (fun _ k => XS.iconst X17.here hx rfl (hb hby at_62) k) ?_
          show own_Fin p.tables e below _ (T17.setTop (mkF m 63 #[.val (.int p0), .val (.int p1), .val (.int p2), .val (.int (p0 &&& (2047 : Int32))), .val (.ref b1), .val (.int (0 : Int32))] [(.int (0 : Int32))]))
          have ef := (show f0 p0 p1 p2 = (0 : Int32) from by unfold f0; rw [if_neg hc2, if_neg hc13, if_pos hc16, if_neg hc18])
          exact own_retN X17 hx (t := .boolean) Bd.returns hlk (by simp) (hb hby at_63) (by decide) (by decide) ⟨by rw [ef]; rfl, N17⟩
      · refine own_by (fun _ k => XS.icmpNo X1.here hx rfl (hb hby at_38) rfl (flt hc16).2.2.1 k) ?_
        show own_Fin p.tables e below _ (T1.setTop (mkF m 41 #[.val (.int p0), .val (.int p1), .val (.int p2), .val (.int (p0 &&& (2047 : Int32))), .val (.ref b1), .unset] []))
        refine own_by (fun _ k => XS.iconst X1.here hx rfl (hb hby at_41) k) ?_
        show own_Fin p.tables e below _ (T1.setTop (mkF m 42 #[.val (.int p0), .val (.int p1), .val (.int p2), .val (.int (p0 &&& (2047 : Int32))), .val (.ref b1), .unset] [(.int (1 : Int32))]))
        refine own_by (fun _ k => XS.goto X1.here hx rfl (pc0 := 42) (pc' := 46) rfl (hb hby at_42) (by decide) (by decide) k) ?_
        show own_Fin p.tables e below _ (T1.setTop (mkF m 46 #[.val (.int p0), .val (.int p1), .val (.int p2), .val (.int (p0 &&& (2047 : Int32))), .val (.ref b1), .unset] [(.int (1 : Int32))]))
        refine own_by (fun _ k => XS.istore X1.here hx rfl (hb hby at_46) rfl (l' := #[.val (.int p0), .val (.int p1), .val (.int p2), .val (.int (p0 &&& (2047 : Int32))), .val (.ref b1), .val (.int (1 : Int32))]) rfl k) ?_
        show own_Fin p.tables e below _ (T1.setTop (mkF m 48 #[.val (.int p0), .val (.int p1), .val (.int p2), .val (.int (p0 &&& (2047 : Int32))), .val (.ref b1), .val (.int (1 : Int32))] []))
        refine own_by (fun _ k => XS.aload X1.here hx rfl (hb hby at_48) rfl rfl k) ?_
        show own_Fin p.tables e below _ (T1.setTop (mkF m 50 #[.val (.int p0), .val (.int p1), .val (.int p2), .val (.int (p0 &&& (2047 : Int32))), .val (.ref b1), .val (.int (1 : Int32))] [(.ref b1)]))
        obtain ⟨_, _, ⟨T19, L19, k19, n19⟩, -, X19, ⟨Lc19, hQ19, l19, y19, z19⟩, st19⟩ := Jvm.LawKit.callS X1 hx (y := (⟨"com/example/tocsin/tocsin/Texts", "isMessage", "([B)Z"⟩ : MethodName)) hown (mvT hZ (hw _ (List.mem_of_getElem? (i := 1) rfl))) (mvT hZ (hw _ (List.mem_of_getElem? (i := 2) rfl))) (mvT hZ (hw _ (List.mem_of_getElem? (i := 3) rfl))) (mvT hZ (hw _ (List.mem_of_getElem? (i := 4) rfl))) (by decide) (backOf (W := 0) (rm1 l Z a0 hw [] b1 (p0 &&& (2047 : Int32)) ((fun _ => (0 : Int32))) h1 n0 Z1 V1) hZ (hw _ (List.mem_of_getElem? (i := 4) rfl)) (hw _ (List.mem_of_getElem? (i := 3) rfl)) (by decide) (by decide)) (g := (mkF m 50 #[.val (.int p0), .val (.int p1), .val (.int p2), .val (.int (p0 &&& (2047 : Int32))), .val (.ref b1), .val (.int (1 : Int32))] [(.ref b1)])) rfl (by rw [hml]; rfl) (argsL := [(.ref b1)]) (rest := []) (lenOf pd___B_Z rfl) rfl (by show 2 * 0 + _ ≤ _; exact Nat.le_of_eq rfl) (hb hby at_50) (fun _ _ => ⟨rfl, e1, (by decide : 1 + 0 ≤ _), (by decide : 2047 + 0 ≤ _)⟩)
        dsimp only [Pt.U, Pt.locs, Pt.cells, Pt.slots] at X19 l19 y19 z19 st19 hQ19
        subst l19 y19 z19
        obtain ⟨rfl, N19q, e19⟩ := hQ19
        have N19 := Fr.app N0 N19q
        refine own_by st19 ?_
        show own_Fin p.tables e below _ (T19.setTop (mkF m 53 #[.val (.int p0), .val (.int p1), .val (.int p2), .val (.int (p0 &&& (2047 : Int32))), .val (.ref b1), .val (.int (1 : Int32))] [(.int (f1 (p0 &&& (2047 : Int32)) (fun _ => (0 : Int32))))]))
        refine own_by (fun _ k => XS.iload X19.here hx rfl (hb hby at_53) rfl k) ?_
        show own_Fin p.tables e below _ (T19.setTop (mkF m 55 #[.val (.int p0), .val (.int p1), .val (.int p2), .val (.int (p0 &&& (2047 : Int32))), .val (.ref b1), .val (.int (1 : Int32))] [(.int (1 : Int32)), (.int (f1 (p0 &&& (2047 : Int32)) (fun _ => (0 : Int32))))]))
        by_cases hc20 : (f1 (p0 &&& (2047 : Int32)) (fun _ => (0 : Int32))) = (1 : Int32)
        · refine own_by (fun _ k => XS.icmpNo X19.here hx rfl (hb hby at_55) rfl (teq hc20).2 k) ?_
          show own_Fin p.tables e below _ (T19.setTop (mkF m 58 #[.val (.int p0), .val (.int p1), .val (.int p2), .val (.int (p0 &&& (2047 : Int32))), .val (.ref b1), .val (.int (1 : Int32))] []))
          refine own_by (fun _ k => XS.iconst X19.here hx rfl (hb hby at_58) k) ?_
          show own_Fin p.tables e below _ (T19.setTop (mkF m 59 #[.val (.int p0), .val (.int p1), .val (.int p2), .val (.int (p0 &&& (2047 : Int32))), .val (.ref b1), .val (.int (1 : Int32))] [(.int (1 : Int32))]))
          refine own_by (fun _ k => XS.goto X19.here hx rfl (pc0 := 59) (pc' := 63) rfl (hb hby at_59) (by decide) (by decide) k) ?_
          show own_Fin p.tables e below _ (T19.setTop (mkF m 63 #[.val (.int p0), .val (.int p1), .val (.int p2), .val (.int (p0 &&& (2047 : Int32))), .val (.ref b1), .val (.int (1 : Int32))] [(.int (1 : Int32))]))
          have ef := (show f0 p0 p1 p2 = (1 : Int32) from by unfold f0; rw [if_neg hc2, if_neg hc13, if_neg hc16, if_pos hc20])
          exact own_retN X19 hx (t := .boolean) Bd.returns hlk (by simp) (hb hby at_63) (by decide) (by decide) ⟨by rw [ef]; rfl, N19⟩
        · refine own_by (fun _ k => XS.icmpYes X19.here hx rfl (pc0 := 55) (pc' := 62) rfl (hb hby at_55) rfl (feq hc20).2 (by decide) (by decide) k) ?_
          show own_Fin p.tables e below _ (T19.setTop (mkF m 62 #[.val (.int p0), .val (.int p1), .val (.int p2), .val (.int (p0 &&& (2047 : Int32))), .val (.ref b1), .val (.int (1 : Int32))] []))
          refine own_by (fun _ k => XS.iconst X19.here hx rfl (hb hby at_62) k) ?_
          show own_Fin p.tables e below _ (T19.setTop (mkF m 63 #[.val (.int p0), .val (.int p1), .val (.int p2), .val (.int (p0 &&& (2047 : Int32))), .val (.ref b1), .val (.int (1 : Int32))] [(.int (0 : Int32))]))
          have ef := (show f0 p0 p1 p2 = (0 : Int32) from by unfold f0; rw [if_neg hc2, if_neg hc13, if_neg hc16, if_neg hc20])
          exact own_retN X19 hx (t := .boolean) Bd.returns hlk (by simp) (hb hby at_63) (by decide) (by decide) ⟨by rw [ef]; rfl, N19⟩
theorem own_law (p0 p1 p2 : Int32) : f0 p0 p1 p2 = 1 := by
  have hm := c_mask p0 2047 11 (by decide) (by decide)
  unfold f0
  simp only [f1]
  generalize p0 &&& 2047 = n at *
  simp only [own_lt, own_o, own_z, show (1000 : Int32).toInt = 1000 from by decide] at *
  repeat' split
  all_goals first | rfl | (exfalso; omega) | (exfalso; simp_all; done)
set_option maxRecDepth 65536 in
set_option maxHeartbeats 40000000 in
theorem comes_1 {Post : Tables → Env → Array Value → State → Outcome → State → Prop} (hpost : ∀ tb e args s v u, (limb_1_1.after args s (.returned v) u = true ∧ limb_1_2.after args s (.returned v) u = true ∧ True) → FrameEnd s (.returned v) u (Jvm.fieldLocs frame_1_writes args s ++ Jvm.arrayLocs frame_1_arrays args s ++ Jvm.staticLocs frame_1_statics s) 16 4160 → Post tb e args s (.returned v) u) :
    ArmFor flags0 classFile x code maxLocals ret World_1 tables_1 room_1 Calls_1 rest_1 Pre_1 Post := by
  intro l hfl _ _ p e ha hc hk s m args below hf hA hF happ hP
  obtain ⟨hcalls, hrest, hpre⟩ := hP
  obtain ⟨-, -, -, hnamed, -, -, -, hat⟩ := (Spec.applies_iff hf).mp happ
  obtain ⟨hg, hn⟩ := and_e (Cond.before_iff.mp (show (Jvm.Cond.and given_1 narrow_1).before args s = true from hpre))
  obtain ⟨c0, r0⟩ := and_e hg
  obtain ⟨c1, r1⟩ := and_e r0
  obtain ⟨c2, r2⟩ := and_e r1
  obtain ⟨w0, w1, w2, rfl⟩ : ∃ w0 w1 w2 : Value, args = #[w0, w1, w2] := by
    have hs : args.size = 3 := by simpa [Cond.value, given_1] using c0
    obtain ⟨L⟩ := args
    match L, hs with
    | [w0, w1, w2], _ => exact ⟨w0, w1, w2, rfl⟩
  have hw := fun d (hd : d ∈ tables_1) => atoms_spec (ws := Jvm.Cond.code x code maxLocals ret :: tables_1) hat d (List.mem_cons_of_mem _ hd)
  obtain ⟨i0, ei0⟩ := is_v c1
  obtain rfl : w0 = (.int i0) := Option.some.inj ei0
  obtain ⟨i1, ei1⟩ := is_v c2
  obtain rfl : w1 = (.int i1) := Option.some.inj ei1
  obtain ⟨i2, ei2⟩ := is_v r2
  obtain rfl : w2 = (.int i2) := Option.some.inj ei2
  obtain ⟨n, o, h1, h2, h3, _, L, rfl, ⟨rfl, N⟩, hq⟩ := rm0 l s _ hw tables_1 i0 i1 i2 s.heap s.heap.size (Nat.le_refl _)  p e ha hc hk s m _ below hf ((Spec.applies_iff_loose hf).mp happ).1 ⟨rfl, State.Warmed39.refl s, rfl⟩ trivial
  refine ⟨n, _, h1, h2, h3, hpost _ _ _ _ _ _ ⟨Cond.after_iff.mpr rfl, Cond.after_iff.mpr (eq_i res_at (Term.int_eval (1)) (congrArg Value.int (own_law i0 i1 i2))), trivial⟩ ⟨hq.1, hq.2.1, (hq.2.2.sift fun y hy => Or.inr (N y hy)).mono (by decide) (by decide)⟩⟩
theorem main_1_1 : Claimed_1_1 := comes_1 fun _ _ _ _ _ _ h hF => ⟨h.1, hF⟩
theorem main_1_2 : Claimed_1_2 := comes_1 fun _ _ _ _ _ _ h hF => ⟨h.2.1, hF⟩
end Jvm.Pilot.@@N@@
namespace Jvm.Pilot.@@N@@
open Jvm Jvm.ClassFile Sem Op Lib Jvm.Free Jvm.Stand Jvm.Pilot.@@N@@.Jvm.D
/-! MADE BY PROGRAM (witnessworld.py) out of the Statement's table words and the real class files: 9 classes; the members and pool entries that the words name. The judged class is class 1, her method 1. -/
namespace start1
open Jvm.ClassFile
def u (s : String) : CpInfo := .utf8 (stringToUtf16 s)
/-- a pool by its gaps: so many unusable entries, then the entry; so many at the end -/
def gap : Nat → List CpInfo → List CpInfo
  | 0, r => r
  | n + 1, r => .unusable :: gap n r
def poolList (es : List (Nat × CpInfo)) (last : Nat) : List CpInfo := es.foldr (fun e r => gap e.1 (e.2 :: r)) (gap last [])
def pool (es : List (Nat × CpInfo)) (last : Nat) : Array CpInfo := ⟨poolList es last⟩
def fileOf (pool : Array CpInfo) (this : Nat) (attrs : Array Attribute := #[]) (ms : Array MethodInfo := #[]) (fl : Nat := 33) (sup : Nat := 0) (ifs : Array Nat := #[]) (fds : Array FieldInfo := #[]) : ClassFile where
  minorVersion := 0
  majorVersion := 65
  constantPool := pool
  accessFlags := fl
  thisClass := this
  superClass := sup
  interfaces := ifs
  fields := fds
  methods := ms
  attributes := attrs
def plain (name : String) (sup : Option ClassId) : Class where
  name := name
  kind := .ordinary
  loader := none
  accessFlags := 33
  super := sup
  interfaces := #[]
  cf := none
  fields := #[]
  methods := #[]
  instanceTypes := #[]
  staticTypes := #[]
  resolved := #[]
  callSites := []
  init := .initialized
  statics := none
  mirror := none

def pool0 : Array CpInfo := pool [(5, u "<init>"), (0, u "()V"), (1, .class_ 10), (1, u "java/lang/Object")] 113

def k0m0 : Method := { name := "<init>", desc := "()V", sig := { parameters := [], returnType := none }, accessFlags := 1, code := none }
/-- java/lang/Object -/
def k0 : Class := { plain "java/lang/Object" none with
  accessFlags := 33
  interfaces := #[]
  cf := some (fileOf pool0 8 #[] #[{ accessFlags := 1, nameIndex := 5, descriptorIndex := 6, attributes := #[] }] 33 0 #[] #[])
  fields := #[]
  methods := #[k0m0]
  instanceTypes := #[]
  staticTypes := #[]
  resolved := Array.replicate 124 none
  statics := none }

def pool1 : Array CpInfo := pool [(2, .class_ 4), (1, u "java/lang/Object"), (0, u "<init>"), (0, u "()V"), (0, .methodref 8 9), (0, .class_ 10), (0, .nameAndType 11 12), (0, u "com/example/tocsin/tocsin/Texts"), (0, u "isMessage"), (0, u "([B)Z"), (0, .class_ 14), (0, u "com/example/tocsin/tocsin/TextsIsMessagePinLaw"), (2, u "law"), (0, u "(III)Z")] 5

def k1m0 : Method := { name := "<init>", desc := "()V", sig := { parameters := [], returnType := none }, accessFlags := 1, code := none }
def k1c1 : Code := { maxStack := 3, maxLocals := 6, code := code, exceptionTable := #[], attributes := #[] }
def k1m1 : Method := { name := "law", desc := "(III)Z", sig := { parameters := [.int, .int, .int], returnType := some .boolean }, accessFlags := 9, code := some k1c1 }
/-- com/example/tocsin/tocsin/TextsIsMessagePinLaw -/
def k1 : Class := { plain "com/example/tocsin/tocsin/TextsIsMessagePinLaw" (some 0) with
  accessFlags := 49
  interfaces := #[]
  cf := some (fileOf pool1 13 #[] #[{ accessFlags := 1, nameIndex := 5, descriptorIndex := 6, attributes := #[] }, { accessFlags := 9, nameIndex := 17, descriptorIndex := 18, attributes := #[] }] 49 2 #[] #[])
  fields := #[]
  methods := #[k1m0, k1m1]
  instanceTypes := #[]
  staticTypes := #[]
  resolved := Array.replicate 24 none
  statics := none }

def pool2 : Array CpInfo := pool [(1, .class_ 2), (0, u "com/example/tocsin/tocsin/Texts"), (1, .class_ 6), (1, u "java/lang/Object"), (0, u "<init>"), (0, u "()V"), (6, u "isMessage"), (0, u "([B)Z"), (26, u "MAX_BYTES"), (0, u "I"), (2, u "MESSAGE_RULE"), (0, u "Ljava/lang/String;"), (2, u "RULE")] 27

def k2m0 : Method := { name := "<init>", desc := "()V", sig := { parameters := [], returnType := none }, accessFlags := 2, code := none }
def k2c1 : Code := { maxStack := 2, maxLocals := 1, code := prog_115_method_3_code, exceptionTable := #[], attributes := #[] }
def k2m1 : Method := { name := "isMessage", desc := "([B)Z", sig := { parameters := [(.array .byte)], returnType := some .boolean }, accessFlags := 8, code := some k2c1 }
/-- com/example/tocsin/tocsin/Texts -/
def k2 : Class := { plain "com/example/tocsin/tocsin/Texts" (some 0) with
  accessFlags := 48
  interfaces := #[]
  cf := some (fileOf pool2 1 #[] #[{ accessFlags := 2, nameIndex := 7, descriptorIndex := 8, attributes := #[] }, { accessFlags := 8, nameIndex := 15, descriptorIndex := 16, attributes := #[] }] 48 4 #[] #[{ accessFlags := 24, nameIndex := 43, descriptorIndex := 44, attributes := #[] }, { accessFlags := 26, nameIndex := 47, descriptorIndex := 48, attributes := #[] }, { accessFlags := 24, nameIndex := 51, descriptorIndex := 48, attributes := #[] }])
  fields := #[{ name := "MAX_BYTES", type := .int, accessFlags := 24, slot := 0, constantValue := 0 }, { name := "MESSAGE_RULE", type := (.object "java/lang/String"), accessFlags := 26, slot := 1, constantValue := 0 }, { name := "RULE", type := (.object "java/lang/String"), accessFlags := 24, slot := 2, constantValue := 0 }]
  methods := #[k2m0, k2m1]
  instanceTypes := #[]
  staticTypes := #[.int, (.object "java/lang/String"), (.object "java/lang/String")]
  resolved := Array.replicate 79 none
  statics := none }

def pool3 : Array CpInfo := pool [(1, u "java/lang/Cloneable"), (0, .class_ 1), (0, u "java/lang/Object"), (0, .class_ 3)] 3

/-- java/lang/Cloneable -/
def k3 : Class := { plain "java/lang/Cloneable" (some 0) with
  accessFlags := 1537
  interfaces := #[]
  cf := some (fileOf pool3 2 #[] #[] 1537 4 #[] #[])
  fields := #[]
  methods := #[]
  instanceTypes := #[]
  staticTypes := #[]
  resolved := Array.replicate 8 none
  statics := none }

def pool4 : Array CpInfo := pool [(1, u "java/io/Serializable"), (0, .class_ 1), (0, u "java/lang/Object"), (0, .class_ 3)] 3

/-- java/io/Serializable -/
def k4 : Class := { plain "java/io/Serializable" (some 0) with
  accessFlags := 1537
  interfaces := #[]
  cf := some (fileOf pool4 2 #[] #[] 1537 4 #[] #[])
  fields := #[]
  methods := #[]
  instanceTypes := #[]
  staticTypes := #[]
  resolved := Array.replicate 8 none
  statics := none }

/-- the primitive byte -/
def k5 : Class := { plain "byte" none with kind := .primitive 'B', accessFlags := 0x411 }
/-- [B -/
def k6 : Class := { plain "[B" (some 0) with kind := .array 5 .byte, interfaces := #[3, 4], accessFlags := 1041 }

/-- the primitive int -/
def k7 : Class := { plain "int" none with kind := .primitive 'I', accessFlags := 0x411 }
/-- [I -/
def k8 : Class := { plain "[I" (some 0) with kind := .array 7 .int, interfaces := #[3, 4], accessFlags := 1041 }

def heap : Heap := #[]
def classes : Array Class := #[k0, k1, k2, k3, k4, k5, k6, k7, k8]
def interned : List (Array UInt16 × Addr) := []
def slotsUsed : Nat := 0
def theMethod : MethodId := ⟨1, 1⟩
def args0 : Array Value := #[.int 5, .int 7, .int 9]
def aboutOver (below : List Frame) : State where
  vm := { classes := classes, interned := interned.toArray }
  heap := heap
  slotsUsed := slotsUsed
  threads := #[{ frames := .invoking theMethod args0 :: below }]
def below0 : List Frame := [.native { method := ⟨0, 0⟩, args := #[] }]
def about1 : State := aboutOver below0
def p0 : Program := .bare "" "" ""
def e0 : Env := launch0.env 0 0 0
theorem w_frames : about1.frames = Frame.invoking theMethod args0 :: below0 := rfl
set_option maxRecDepth 65536 in
theorem w_args : argsFit about1.vm theMethod args0 = true := by decide +kernel
set_option maxRecDepth 65536 in
theorem w_heap : heapFits about1 = true := by decide +kernel
set_option maxRecDepth 65536 in
theorem w_runnable : about1.curStatus? = some .runnable := by decide +kernel
set_option maxRecDepth 65536 in
theorem w_alone : about1.alone = true := by decide +kernel
set_option maxRecDepth 65536 in
theorem w_named : about1.methodNamed? x = some theMethod := by decide +kernel
set_option maxRecDepth 65536 in
theorem w_hears : about1.hears theMethod below0 = true := by decide +kernel
set_option maxRecDepth 65536 in
theorem w_ripe : about1.ripe theMethod args0 below0 = true := by decide +kernel
theorem w_running : about1.status = .running := rfl
set_option maxRecDepth 65536 in
theorem w_room : about1.hasRoom e0.platform room_1 = true :=
  launch0.hasRoom_least _ room_1 (by decide +kernel) (by decide +kernel) (by decide +kernel) (by decide +kernel) (by decide +kernel) (by decide +kernel)
theorem allAtoms_all (ts : List Jvm.Cond) (a : Array Jvm.Value) (st : Jvm.State) : (allAtoms ts).before a st = ts.all (fun c => c.before a st) := by
  induction ts with
  | nil => rfl
  | cons c t ih =>
    show (Jvm.Cond.and c (allAtoms t)).before a st = _
    rw [Jvm.Cond.before_and, ih, List.all_cons]
def words1 : List Jvm.Cond := Jvm.Cond.code x code maxLocals ret :: tables_1
/-- a 'code' word, met by the world's own term for the bytes: nothing is compared byte by byte -/
theorem code_word {y : MethodName} {bytes : ByteArray} {mx : Nat} {rt : Option FieldType} {a : Array Value} {s : State} {m : MethodId} {meth : Method} {c : Code} (h1 : s.methodNamed? y = some m) (h2 : s.vm.method? m = some meth) (h3 : meth.code = some c) (h4 : c.code = bytes)
    (h5 : (c.maxLocals == mx && c.exceptionTable.isEmpty && decide (c.maxStack ≤ mostOperands) && decide (meth.sig.returnType = rt) && !meth.locks && decide (parseMethodDescriptor y.desc = some meth.sig)) = true) : (Jvm.Cond.code y bytes mx rt).before a s = true := by
  simp only [Bool.and_eq_true, beq_iff_eq, Bool.not_eq_true', decide_eq_true_eq] at h5
  obtain ⟨⟨⟨⟨⟨g1, g2⟩, g3⟩, g4⟩, g5⟩, g6⟩ := h5
  simp [Cond.before, Cond.holds, Cond.value, h1, h2, h3, h4, g1, g2, g3, g4, g5, g6]
def isCode : Jvm.Cond → Bool
  | .code _ _ _ _ => true
  | _ => false
theorem all_split {L : List Jvm.Cond} {P : Jvm.Cond → Bool} (h1 : L.all (fun c => isCode c || P c) = true) (h2 : ∀ c ∈ L.filter isCode, P c = true) : L.all P = true := by
  refine List.all_eq_true.mpr fun c hc => ?_
  have h := List.all_eq_true.mp h1 c hc
  rcases Bool.eq_false_or_eq_true (isCode c) with hi | hi
  · exact h2 c (List.mem_filter.mpr ⟨hc, hi⟩)
  · simpa [hi] using h
set_option maxRecDepth 65536 in
theorem w_c0 : (Jvm.Cond.code x code maxLocals ret).before args0 about1 = true := code_word (m := ⟨1, 1⟩) (meth := k1m1) (c := k1c1) (by decide +kernel) rfl rfl rfl (by decide +kernel)
set_option maxRecDepth 65536 in
theorem w_c1 : (Jvm.Cond.code ({ cls := "com/example/tocsin/tocsin/Texts", name := "isMessage", desc := "([B)Z" } : Jvm.MethodName) prog_115_method_3_code (1 : Nat) (Option.some Jvm.ClassFile.FieldType.boolean)).before args0 about1 = true := code_word (m := ⟨2, 1⟩) (meth := k2m1) (c := k2c1) (by decide +kernel) rfl rfl rfl (by decide +kernel)
def codes1 : List Jvm.Cond := [Jvm.Cond.code x code maxLocals ret, Jvm.Cond.code ({ cls := "com/example/tocsin/tocsin/Texts", name := "isMessage", desc := "([B)Z" } : Jvm.MethodName) prog_115_method_3_code (1 : Nat) (Option.some Jvm.ClassFile.FieldType.boolean)]
set_option maxRecDepth 65536 in
theorem codes_eq : words1.filter isCode = codes1 := rfl
theorem w_codes : ∀ c ∈ words1.filter isCode, c.before args0 about1 = true := by
  rw [codes_eq]
  intro c hc
  simp only [codes1, List.mem_cons, List.not_mem_nil, or_false] at hc
  rcases hc with rfl | rfl
  · exact w_c0
  · exact w_c1
set_option maxRecDepth 65536 in
theorem w_t1 : words1.all (fun c => isCode c || c.before args0 about1) = true := by decide +kernel
theorem w_tables : (allAtoms (Jvm.Cond.code x code maxLocals ret :: tables_1)).before args0 about1 = true := by
  rw [allAtoms_all]
  show words1.all (fun c => c.before args0 about1) = true
  refine all_split ?_ w_codes
  rw [w_t1]
set_option maxRecDepth 65536 in
theorem w_case : (Jvm.Cond.and given_1 narrow_1).before args0 about1 = true := by decide +kernel
theorem w_applies : (headSpec (Jvm.Cond.code x code maxLocals ret :: tables_1) room_1).applies x e0.platform about1 = true :=
  (Spec.applies_iff w_frames).mpr ⟨w_running, w_runnable, w_alone, w_named, w_hears, w_ripe, w_room, w_tables⟩
theorem atStart : AtStart classFile x code maxLocals ret World_1 tables_1 room_1 Calls_1 rest_1 Pre_1 launch0 p0 e0 about1 theMethod args0 below0 :=
  ⟨lists_1, trivial, launch0.admits_env _ _ _, launch0.least_env, fairChoices_fair.cas, fairChoices_fair.clock, w_frames, w_args, w_heap, w_applies, trivial, trivial, w_case⟩
end start1
theorem witness_1 : WitnessClaimed_1 := ⟨start1.p0, start1.e0, start1.about1, start1.theMethod, start1.args0, start1.below0, start1.atStart⟩
end Jvm.Pilot.@@N@@
