import JvmDerived
import JvmDerived.Pilot.@@N@@Statement
import JvmDerived.Pilot.@@N@@Code
set_option linter.unusedVariables false
set_option linter.unusedSimpArgs false
namespace Jvm.RoadKit
open Sem ClassFile Op Lib Jvm.Stand Jvm.Free Jvm.LawKit
section New
variable {p : Program} {l : Launch} {e : Env} {R : Room} {s : State} {m : MethodId} {args : Array Value} {below : List Frame} {meth : Method} {c : Code} {T : State} {locs : List Loc} {cells slots : Nat}
theorem retI (X : Stand p l e R s m args below meth c T locs cells slots) (hx : p.tables.exec = Jvm.exec) {pc : Nat} {Ls : Array Slot} {z : Int32} {rest : List Value} (hret : meth.sig.returnType = some .int) (hd : decode c.code pc = .ok (.ireturn, 1)) {fs : List Frame}
    (hl : ∀ (f : JFrame) (acts : List Action), f.method = m → f.locked = none → f.entered = [] → (doReturn e (T.setTop f) acts (some (.int z))).1 = T.setFrames fs) : Steps p.tables e below (T.setTop (mkF m pc Ls (.int z :: rest))) (T.setFrames fs) := by
  have hm' : T.vm.method? m = some meth := X.method'
  have hn : narrow .int (.int z) = .int z := rfl
  show Steps p.tables e below (T.setTop { method := m, pc := pc, locals := Ls, stack := _ :: rest, locked := none }) _
  jvm_step X.here [X.here.top, hx, hd, hm', hret, hn]
  first | (intro acts; rw [hl _ acts rfl rfl rfl]) | rw [hl _ _ rfl rfl rfl]
  exact Steps.refl _
end New
end Jvm.RoadKit
namespace Jvm.Pilot.@@N@@
open Jvm Jvm.ClassFile Sem Op Lib Jvm.Free Jvm.Stand Jvm.LawKit Jvm.RoadKit Bundle Jvm.Pilot.@@N@@.Jvm.D
/-- the run from U ends within this invocation, with P -/
def own_Fin (tb : Tables) (e : Env) (below : List Frame) (P : Outcome → State → Prop) (U : State) : Prop := ∃ s₂ o, Steps tb e below U s₂ ∧ s₂.status = .running ∧ Ended s₂ below o ∧ P o s₂
theorem own_by {tb : Tables} {e : Env} {below : List Frame} {P : Outcome → State → Prop} {U U' : State} (h : ∀ t, Steps tb e below U' t → Steps tb e below U t) (k : own_Fin tb e below P U') : own_Fin tb e below P U := by
  obtain ⟨t, o, h1, h2⟩ := k
  exact ⟨t, o, h _ h1, h2⟩
section Own
variable {p : Program} {l : Launch} {e : Env} {R : Room} {s : State} {m : MethodId} {args : Array Value} {below : List Frame} {meth : Method} {c : Code} {T : State} {locs : List Loc} {cells slots : Nat} {Z : State} {h h' : Heap} {a b : Addr} {z j x v : Int32} {B : Int32 → Int32}
theorem own_end (X : Stand p l e R s m args below meth c T locs cells slots) (hlk : meth.locks = false) {U : State} {v : Option Value} (hv : meth.sig.returnType = none → v = none) {Qv : Option Value → Heap → List Loc → Prop} {C S : Nat} (hC : cells ≤ C) (hS : slots ≤ S) (hq : Qv v T.heap locs)
    (hst : ∀ fs, (∀ (f : JFrame) (acts : List Action), f.method = m → f.locked = none → f.entered = [] → (doReturn e (T.setTop f) acts v).1 = T.setFrames fs) → Steps p.tables e below U (T.setFrames fs)) :
    own_Fin p.tables e below (fun o t => ∃ v L, o = .returned v ∧ Qv v t.heap L ∧ FrameEnd s o t L C S) U := by
  obtain ⟨fs, hr, hrun, hended, hW, hsame⟩ := X.leave (v := v) hv hlk
  exact ⟨_, _, hst fs hr, hrun, hended, _, _, rfl, hq, ⟨_, rfl⟩, hW, hsame.mono hC hS⟩
theorem own_retN (X : Stand p l e R s m args below meth c T locs cells slots) (hx : p.tables.exec = Jvm.exec) {pc : Nat} {Ls : Array Slot} {z : Int32} {t : FieldType} {rest : List Value} (hret : meth.sig.returnType = some t) (hlk : meth.locks = false) (ht : t = .boolean ∨ t = .byte ∨ t = .char ∨ t = .short)
    (hd : decode c.code pc = .ok (.ireturn, 1)) {Qv : Option Value → Heap → List Loc → Prop} {C S : Nat} (hC : cells ≤ C) (hS : slots ≤ S) (hq : Qv (some (.int (nar t z))) T.heap locs) :
    own_Fin p.tables e below (fun o t => ∃ v L, o = .returned v ∧ Qv v t.heap L ∧ FrameEnd s o t L C S) (T.setTop (mkF m pc Ls (.int z :: rest))) :=
  own_end X hlk (fun q => by rw [hret] at q; cases q) hC hS hq fun fs hr => retN X hx hret ht hd hr
theorem own_retI (X : Stand p l e R s m args below meth c T locs cells slots) (hx : p.tables.exec = Jvm.exec) {pc : Nat} {Ls : Array Slot} {z : Int32} {rest : List Value} (hret : meth.sig.returnType = some .int) (hlk : meth.locks = false)
    (hd : decode c.code pc = .ok (.ireturn, 1)) {Qv : Option Value → Heap → List Loc → Prop} {C S : Nat} (hC : cells ≤ C) (hS : slots ≤ S) (hq : Qv (some (.int z)) T.heap locs) :
    own_Fin p.tables e below (fun o t => ∃ v L, o = .returned v ∧ Qv v t.heap L ∧ FrameEnd s o t L C S) (T.setTop (mkF m pc Ls (.int z :: rest))) :=
  own_end X hlk (fun q => by rw [hret] at q; cases q) hC hS hq fun fs hr => retI X hx hret hd hr
theorem own_retJ (X : Stand p l e R s m args below meth c T locs cells slots) (hx : p.tables.exec = Jvm.exec) {pc : Nat} {Ls : Array Slot} {z : Int64} {rest : List Value} (hret : meth.sig.returnType = some .long) (hlk : meth.locks = false)
    (hd : decode c.code pc = .ok (.lreturn, 1)) {Qv : Option Value → Heap → List Loc → Prop} {C S : Nat} (hC : cells ≤ C) (hS : slots ≤ S) (hq : Qv (some (.long z)) T.heap locs) :
    own_Fin p.tables e below (fun o t => ∃ v L, o = .returned v ∧ Qv v t.heap L ∧ FrameEnd s o t L C S) (T.setTop (mkF m pc Ls (.long z :: rest))) :=
  own_end X hlk (fun q => by rw [hret] at q; cases q) hC hS hq fun fs hr => retOut X hx hret rfl (Or.inr (Or.inl ⟨rfl, rfl, z, rfl⟩)) hd hr
theorem own_retA (X : Stand p l e R s m args below meth c T locs cells slots) (hx : p.tables.exec = Jvm.exec) {pc : Nat} {Ls : Array Slot} {w : Value} {t : FieldType} {rest : List Value} (hret : meth.sig.returnType = some t) (hlk : meth.locks = false) (ht : t.isReference = true) (hw : w.isRef = true)
    (hd : decode c.code pc = .ok (.areturn, 1)) {Qv : Option Value → Heap → List Loc → Prop} {C S : Nat} (hC : cells ≤ C) (hS : slots ≤ S) (hq : Qv (some w) T.heap locs) :
    own_Fin p.tables e below (fun o t => ∃ v L, o = .returned v ∧ Qv v t.heap L ∧ FrameEnd s o t L C S) (T.setTop (mkF m pc Ls (w :: rest))) :=
  own_end X hlk (fun q => by rw [hret] at q; cases q) hC hS hq fun fs hr => retOut X hx hret (by cases t <;> simp [FieldType.isReference] at ht <;> (rcases ref_cases hw with rfl | ⟨z, rfl⟩ <;> rfl)) (Or.inr (Or.inr (Or.inr (Or.inr ⟨rfl, ht, hw⟩)))) hd hr
theorem own_retV (X : Stand p l e R s m args below meth c T locs cells slots) (hx : p.tables.exec = Jvm.exec) {pc : Nat} {Ls : Array Slot} (hret : meth.sig.returnType = none) (hlk : meth.locks = false)
    (hd : decode c.code pc = .ok (.return_, 1)) {Qv : Option Value → Heap → List Loc → Prop} {C S : Nat} (hC : cells ≤ C) (hS : slots ≤ S) (hq : Qv none T.heap locs) :
    own_Fin p.tables e below (fun o t => ∃ v L, o = .returned v ∧ Qv v t.heap L ∧ FrameEnd s o t L C S) (T.setTop (mkF m pc Ls [])) :=
  own_end X hlk (fun _ => rfl) hC hS hq fun fs hr => X.returnOut hx hret hd hr
/-- a byte[] of length z whose j-th byte is B j -/
def own_Byt (Z : State) (h : Heap) (a : Addr) (z : Int32) (B : Int32 → Int32) : Prop := ∃ cl : Cell, Arr Z h a cl .byte ∧ cl.slots.size = z.toNatClampNeg ∧ ¬ z < 0 ∧ ∀ j : Int32, ¬ (j < 0 ∨ cl.slots.size ≤ j.toNatClampNeg) → cl.slots[j.toNatClampNeg]? = some (.int (B j)) ∧ fits .byte (.int (B j)) = true
def own_upd (B : Int32 → Int32) (j v : Int32) : Int32 → Int32 := fun k => if k = j then v else B k
theorem own_Byt.lt (F : own_Byt Z h a z B) : a < h.size := by obtain ⟨c, A, -⟩ := F; exact A.lt
theorem own_Byt.ext (F : own_Byt Z h a z B) (E : Ext h h') : own_Byt Z h' a z B := by obtain ⟨c, A, r⟩ := F; exact ⟨c, A.ext E, r⟩
theorem own_Byt.other (F : own_Byt Z h b z B) {sl : Nat} {w : Value} (W : Wr h h' a sl w) (q : b ≠ a) : own_Byt Z h' b z B := by obtain ⟨c, A, r⟩ := F; exact ⟨c, A.other W q, r⟩
theorem own_Byt.keep {ws : List Addr} (F : own_Byt Z h a z B) (K : Keep h h' ws) (q : a ∉ ws) : own_Byt Z h' a z B := by obtain ⟨c, A, r⟩ := F; exact ⟨c, ⟨K.2.1 a c A.1 q, A.2⟩, r⟩
theorem own_Byt.new {k : ClassId} (A : Arr Z h a (newA k .byte z) .byte) (q : ¬ z < 0) : own_Byt Z h a z (fun _ => (0 : Int32)) :=
  ⟨_, A, sz_new _ _ _, q, fun j hj => by rw [sz_new] at hj; exact ⟨get_new hj, show fits .byte (.int 0) = true from by decide⟩⟩
theorem own_bal (X : Stand p l e R s m args below meth c T locs cells slots) (hx : p.tables.exec = Jvm.exec) (hZ : Z.Warmed39 s.vm) (eT : T.heap = h) (F : own_Byt Z h a z B) (h1 : ¬ j < 0) (h2 : j < z)
    {g : JFrame} (hg : g.method = m) {rest : List Value} (hs : g.stack = .int j :: .ref a :: rest) (hd : decode c.code g.pc = .ok (.baload, 1)) :
    ∀ t, Steps p.tables e below (T.setTop { g with pc := g.pc + 1, stack := .int (B j) :: rest }) t → Steps p.tables e below (T.setTop g) t := by
  obtain ⟨cl, A, S, N, H⟩ := F
  have hin := inb_of S ⟨h1, h2⟩
  exact X.baloadBytes hx (j := j) (v := .int (B j)) (by rw [eT]; exact A.1) (State.isArrayOf_alike hZ.alike A.2.1) A.2.2 hin (H j hin).1 hg hs hd
theorem own_len (X : Stand p l e R s m args below meth c T locs cells slots) (hx : p.tables.exec = Jvm.exec) (hZ : Z.Warmed39 s.vm) (eT : T.heap = h) (F : own_Byt Z h a z B)
    {g : JFrame} (hg : g.method = m) {rest : List Value} (hs : g.stack = .ref a :: rest) (hd : decode c.code g.pc = .ok (.arraylength, 1)) :
    ∀ t, Steps p.tables e below (T.setTop { g with pc := g.pc + 1, stack := .int z :: rest }) t → Steps p.tables e below (T.setTop g) t := by
  obtain ⟨cl, A, S, N, H⟩ := F
  intro t k
  refine X.arraylength hx (by rw [eT]; exact A.1) (State.isArrayOf_alike hZ.alike A.2.1) (g := g) hg hs hd _ ?_
  rw [len_of S N]
  exact k
theorem own_bst (X : Stand p l e R s m args below meth c T locs cells slots) (hx : p.tables.exec = Jvm.exec) (hZ : Z.Warmed39 s.vm) (eT : T.heap = h) (F : own_Byt Z h a z B) (h1 : ¬ j < 0) (h2 : j < z)
    {g : JFrame} (hg : g.method = m) {rest : List Value} (hs : g.stack = .int x :: .int j :: .ref a :: rest) (hd : decode c.code g.pc = .ok (.bastore, 1)) :
    ∃ T' h', Stand p l e R s m args below meth c T' (locs ++ [⟨a, j.toNatClampNeg⟩]) cells slots ∧ T'.heap = h' ∧ own_Byt Z h' a z (own_upd B j (x.toInt8.toInt32)) ∧ Wr h h' a j.toNatClampNeg (.int (nar .byte x)) ∧
      ∀ t, Steps p.tables e below (T'.setTop { g with pc := g.pc + 1, stack := rest }) t → Steps p.tables e below (T.setTop g) t := by
  obtain ⟨cl, A, S, N, H⟩ := F
  have hin := inb_of S ⟨h1, h2⟩
  obtain ⟨T', h', X', e', W, st⟩ := stB X hx hZ eT A (j := j) hin hg hs hd
  refine ⟨T', h', X', e', ⟨_, A.same W, by rw [sz_set]; exact S, N, fun k hk => ?_⟩, W, st⟩
  rw [sz_set] at hk
  by_cases q : k = j
  · rw [get_hit hin q, own_upd, if_pos q]; exact ⟨rfl, fits_nar_byte x⟩
  · rw [get_miss h1 (fun y => hk (Or.inl y)) q, own_upd, if_neg q]; exact H k hk
end Own
theorem own_nar_char (x : Int32) : nar .char (x.toUInt32.toUInt16.toUInt32.toInt32) = x.toUInt32.toUInt16.toUInt32.toInt32 := by
  show x.toUInt32.toUInt16.toUInt32.toInt32.toUInt32.toUInt16.toUInt32.toInt32 = _
  have h1 := c_i2c x
  have h2 := c_i2c (x.toUInt32.toUInt16.toUInt32.toInt32)
  apply Int32.toInt_inj.mp
  omega
theorem own_lt {x y : Int32} : x < y ↔ x.toInt < y.toInt := Int32.lt_iff_toInt_lt
theorem own_eq {x y : Int32} : x = y ↔ x.toInt = y.toInt := Int32.toInt_inj.symm
theorem own_ltL {x y : Int64} : x < y ↔ x.toInt < y.toInt := Int64.lt_iff_toInt_lt
theorem own_eqL {x y : Int64} : x = y ↔ x.toInt = y.toInt := Int64.toInt_inj.symm
theorem own_z : (0 : Int32).toInt = 0 := by decide
theorem own_nn {x : Int32} (h : 0 ≤ x.toInt) : ¬ x < 0 := fun q => by have := own_lt.mp q; rw [own_z] at this; omega
theorem own_ltof {x y : Int32} (h : x.toInt < y.toInt) : x < y := own_lt.mpr h
theorem own_ge {x y : Int32} (h : ¬ x < y) : y.toInt ≤ x.toInt := by rw [own_lt] at h; omega
theorem own_add (x k : Int32) (h1 : -2147483648 ≤ x.toInt + k.toInt) (h2 : x.toInt + k.toInt < 2147483648) : (x + k).toInt = x.toInt + k.toInt := by
  have a := c_iadd x k
  have r := rng32 (x + k)
  omega
theorem own_sub (x k : Int32) (h1 : -2147483648 ≤ x.toInt - k.toInt) (h2 : x.toInt - k.toInt < 2147483648) : (x - k).toInt = x.toInt - k.toInt := by
  have a := c_isub x k
  have r := rng32 (x - k)
  omega
theorem own_clamp {x : Int32} {n : Nat} (h : ¬ x < 0) (q : x.toInt ≤ n) : x.toNatClampNeg ≤ n := by
  have := nat_of h
  omega
theorem d1_0 : decode method_3_code 0 = .ok (.iload_n 1, 1) := by decide +kernel
theorem d1_1 : decode method_3_code 1 = .ok (.iload_n 2, 1) := by decide +kernel
theorem d1_2 : decode method_3_code 2 = .ok (.if_icmp .lt 8, 3) := by decide +kernel
theorem d1_5 : decode method_3_code 5 = .ok (.iload_n 1, 1) := by decide +kernel
theorem d1_6 : decode method_3_code 6 = .ok (.iload_n 3, 1) := by decide +kernel
theorem d1_7 : decode method_3_code 7 = .ok (.if_icmp .lt 5, 3) := by decide +kernel
theorem d1_10 : decode method_3_code 10 = .ok (.iconst 1, 1) := by decide +kernel
theorem d1_11 : decode method_3_code 11 = .ok (.ireturn, 1) := by decide +kernel
theorem d1_12 : decode method_3_code 12 = .ok (.aload_n 0, 1) := by decide +kernel
theorem d1_13 : decode method_3_code 13 = .ok (.iload_n 1, 1) := by decide +kernel
theorem d1_14 : decode method_3_code 14 = .ok (.baload, 1) := by decide +kernel
theorem d1_15 : decode method_3_code 15 = .ok (.bipush 48, 2) := by decide +kernel
theorem d1_17 : decode method_3_code 17 = .ok (.if_icmp .lt 15, 3) := by decide +kernel
theorem d1_20 : decode method_3_code 20 = .ok (.aload_n 0, 1) := by decide +kernel
theorem d1_21 : decode method_3_code 21 = .ok (.iload_n 1, 1) := by decide +kernel
theorem d1_22 : decode method_3_code 22 = .ok (.baload, 1) := by decide +kernel
theorem d1_23 : decode method_3_code 23 = .ok (.bipush 57, 2) := by decide +kernel
theorem d1_25 : decode method_3_code 25 = .ok (.if_icmp .gt 7, 3) := by decide +kernel
theorem d1_28 : decode method_3_code 28 = .ok (.iconst 1, 1) := by decide +kernel
theorem d1_29 : decode method_3_code 29 = .ok (.goto 4, 3) := by decide +kernel
theorem d1_32 : decode method_3_code 32 = .ok (.iconst 0, 1) := by decide +kernel
theorem d1_33 : decode method_3_code 33 = .ok (.ireturn, 1) := by decide +kernel
theorem pn_com_example_twinshelf_twinshelf_records_MarcFormatDigitsPinLaw : plainName "com/example/twinshelf/twinshelf/records/MarcFormatDigitsPinLaw" = true := by first | (simp [plainName, overriddenIn]; done) | decide +kernel
theorem ef_1 (m : MethodId) (o0 : Addr) (p1 : Int32) (p2 : Int32) (p3 : Int32) : entryFrame m #[(.ref o0), (.int p1), (.int p2), (.int p3)] 4 = mkF m 0 #[.val (.ref o0), .val (.int p1), .val (.int p2), .val (.int p3)] [] := by first | (simp [entryFrame, mkF, argsToLocals, Value.category]; done) | rfl
def f1 (z_o0 : Int32) (B_o0 : Int32 → Int32) (p1 : Int32) (p2 : Int32) (p3 : Int32) : Int32 :=
  if p1 < p2 then
    (1 : Int32)
  else
    if p1 < p3 then
      if (B_o0 p1) < (48 : Int32) then
        (0 : Int32)
      else
        if (57 : Int32) < (B_o0 p1) then
          (0 : Int32)
        else
          (1 : Int32)
    else
      (1 : Int32)
def Q1 (z_o0 : Int32) (B_o0 : Int32 → Int32) (p1 : Int32) (p2 : Int32) (p3 : Int32) (h0 : Heap) (n0 : Nat) (v : Option Value) (h : Heap) (L : List Loc) : Prop := v = some (.int (f1 z_o0 B_o0 p1 p2 p3)) ∧ Fr n0 L ∧ h = h0
set_option maxRecDepth 65536 in
set_option maxHeartbeats 40000000 in
theorem rm1 (l : Launch) (Z : State) (a0 : Array Value) (hw : ∀ d ∈ tables_1, d.before a0 Z = true) (ws : List Jvm.Cond) (o0 : Addr) (p1 : Int32) (p2 : Int32) (p3 : Int32) (z_o0 : Int32) (B_o0 : Int32 → Int32)  (h0 : Heap) (n0 : Nat) (Z0 : n0 ≤ h0.size) (V_o0 : own_Byt Z h0 o0 z_o0 B_o0) (hi0 : 0 ≤ p1.toInt) (hi1 : p1 < z_o0) :
    MetFree l (⟨"com/example/twinshelf/twinshelf/records/MarcFormatDigitsPinLaw", "ok", "([BIII)Z"⟩ : MethodName) (head1 (Jvm.Cond.code (⟨"com/example/twinshelf/twinshelf/records/MarcFormatDigitsPinLaw", "ok", "([BIII)Z"⟩ : MethodName) method_3_code 4 (some .boolean) :: ws) ({ frames := 0, cells := 0, slots := 0, locals := 0 } : Room)) (fun a U => a = #[(.ref o0), (.int p1), (.int p2), (.int p3)] ∧ Z.Warmed39 U.vm ∧ U.heap = h0) (fun _ _ _ _ _ => True) (fun _ U o U' => ∃ v L, o = .returned v ∧ Q1 z_o0 B_o0 p1 p2 p3 h0 n0 v U'.heap L ∧ FrameEnd U o U' L ({ frames := 0, cells := 0, slots := 0, locals := 0 } : Room).cells ({ frames := 0, cells := 0, slots := 0, locals := 0 } : Room).slots) := by
  refine MetFree.of_bodySF (plainFor_of_name pn_com_example_twinshelf_twinshelf_records_MarcFormatDigitsPinLaw) hisR ?_
  intro p e s m args below meth c s₁ Bd hml0 hP hK
  obtain ⟨rfl, hZ, hh⟩ := hP
  have hx := Bd.exec
  have hby := Bd.bytes
  have hlk : meth.locks = false := BodyLoose.notSynchronized Bd
  have hml : c.maxLocals = 4 := hml0
  have hown : s.vm.findClass "com/example/twinshelf/twinshelf/records/MarcFormatDigitsPinLaw" = some m.cls := findClass_of_methodNamed Bd.named
  have hnm := (name_of_methodNamed Bd.named Bd.method).1
  have X0 : Stand p l e ({ frames := 0, cells := 0, slots := 0, locals := 0 } : Room) s m #[(.ref o0), (.int p1), (.int p2), (.int p3)] below meth c s₁ [] 0 0 := Stand.of_body Bd
  have e0 : s₁.heap = h0 := by rw [← hh, Bd.state]; rfl
  have N0 := Fr.nil n0
  refine own_by (U' := s₁.setTop (mkF m 0 #[.val (.ref o0), .val (.int p1), .val (.int p2), .val (.int p3)] [])) (fun t k => castTop (ef_1 m o0 p1 p2 p3) k) ?_
  refine own_by (fun _ k => XS.iloadN X0.here hx rfl (hb hby d1_0) rfl k) ?_
  show own_Fin p.tables e below _ (s₁.setTop (mkF m 1 #[.val (.ref o0), .val (.int p1), .val (.int p2), .val (.int p3)] [(.int p1)]))
  refine own_by (fun _ k => XS.iloadN X0.here hx rfl (hb hby d1_1) rfl k) ?_
  show own_Fin p.tables e below _ (s₁.setTop (mkF m 2 #[.val (.ref o0), .val (.int p1), .val (.int p2), .val (.int p3)] [(.int p2), (.int p1)]))
  by_cases hc1 : p1 < p2
  · refine own_by (fun _ k => XS.icmpYes X0.here hx rfl (pc0 := 2) (pc' := 10) rfl (hb hby d1_2) rfl (tlt hc1).1 (by decide) (by decide) k) ?_
    show own_Fin p.tables e below _ (s₁.setTop (mkF m 10 #[.val (.ref o0), .val (.int p1), .val (.int p2), .val (.int p3)] []))
    refine own_by (fun _ k => XS.iconst X0.here hx rfl (hb hby d1_10) k) ?_
    show own_Fin p.tables e below _ (s₁.setTop (mkF m 11 #[.val (.ref o0), .val (.int p1), .val (.int p2), .val (.int p3)] [(.int (1 : Int32))]))
    have ef : f1 z_o0 B_o0 p1 p2 p3 = (1 : Int32) := by unfold f1; rw [if_pos hc1]
    exact own_retN X0 hx (t := .boolean) Bd.returns hlk (by simp) (hb hby d1_11) (by decide) (by decide) ⟨by rw [ef]; rfl, N0, e0⟩
  · refine own_by (fun _ k => XS.icmpNo X0.here hx rfl (hb hby d1_2) rfl (flt hc1).1 k) ?_
    show own_Fin p.tables e below _ (s₁.setTop (mkF m 5 #[.val (.ref o0), .val (.int p1), .val (.int p2), .val (.int p3)] []))
    refine own_by (fun _ k => XS.iloadN X0.here hx rfl (hb hby d1_5) rfl k) ?_
    show own_Fin p.tables e below _ (s₁.setTop (mkF m 6 #[.val (.ref o0), .val (.int p1), .val (.int p2), .val (.int p3)] [(.int p1)]))
    refine own_by (fun _ k => XS.iloadN X0.here hx rfl (hb hby d1_6) rfl k) ?_
    show own_Fin p.tables e below _ (s₁.setTop (mkF m 7 #[.val (.ref o0), .val (.int p1), .val (.int p2), .val (.int p3)] [(.int p3), (.int p1)]))
    by_cases hc2 : p1 < p3
    · refine own_by (fun _ k => XS.icmpYes X0.here hx rfl (pc0 := 7) (pc' := 12) rfl (hb hby d1_7) rfl (tlt hc2).1 (by decide) (by decide) k) ?_
      show own_Fin p.tables e below _ (s₁.setTop (mkF m 12 #[.val (.ref o0), .val (.int p1), .val (.int p2), .val (.int p3)] []))
      refine own_by (fun _ k => XS.aloadN X0.here hx rfl (hb hby d1_12) rfl rfl k) ?_
      show own_Fin p.tables e below _ (s₁.setTop (mkF m 13 #[.val (.ref o0), .val (.int p1), .val (.int p2), .val (.int p3)] [(.ref o0)]))
      refine own_by (fun _ k => XS.iloadN X0.here hx rfl (hb hby d1_13) rfl k) ?_
      show own_Fin p.tables e below _ (s₁.setTop (mkF m 14 #[.val (.ref o0), .val (.int p1), .val (.int p2), .val (.int p3)] [(.int p1), (.ref o0)]))
      refine own_by (own_bal X0 hx hZ e0 V_o0 (j := p1) (own_nn hi0) hi1 (g := (mkF m 14 #[.val (.ref o0), .val (.int p1), .val (.int p2), .val (.int p3)] [(.int p1), (.ref o0)])) rfl rfl (hb hby d1_14)) ?_
      show own_Fin p.tables e below _ (s₁.setTop (mkF m 15 #[.val (.ref o0), .val (.int p1), .val (.int p2), .val (.int p3)] [(.int (B_o0 p1))]))
      refine own_by (fun _ k => XS.bipush X0.here hx rfl (hb hby d1_15) k) ?_
      show own_Fin p.tables e below _ (s₁.setTop (mkF m 17 #[.val (.ref o0), .val (.int p1), .val (.int p2), .val (.int p3)] [(.int (48 : Int32)), (.int (B_o0 p1))]))
      by_cases hc3 : (B_o0 p1) < (48 : Int32)
      · refine own_by (fun _ k => XS.icmpYes X0.here hx rfl (pc0 := 17) (pc' := 32) rfl (hb hby d1_17) rfl (tlt hc3).1 (by decide) (by decide) k) ?_
        show own_Fin p.tables e below _ (s₁.setTop (mkF m 32 #[.val (.ref o0), .val (.int p1), .val (.int p2), .val (.int p3)] []))
        refine own_by (fun _ k => XS.iconst X0.here hx rfl (hb hby d1_32) k) ?_
        show own_Fin p.tables e below _ (s₁.setTop (mkF m 33 #[.val (.ref o0), .val (.int p1), .val (.int p2), .val (.int p3)] [(.int (0 : Int32))]))
        have ef : f1 z_o0 B_o0 p1 p2 p3 = (0 : Int32) := by unfold f1; rw [if_neg hc1, if_pos hc2, if_pos hc3]
        exact own_retN X0 hx (t := .boolean) Bd.returns hlk (by simp) (hb hby d1_33) (by decide) (by decide) ⟨by rw [ef]; rfl, N0, e0⟩
      · refine own_by (fun _ k => XS.icmpNo X0.here hx rfl (hb hby d1_17) rfl (flt hc3).1 k) ?_
        show own_Fin p.tables e below _ (s₁.setTop (mkF m 20 #[.val (.ref o0), .val (.int p1), .val (.int p2), .val (.int p3)] []))
        refine own_by (fun _ k => XS.aloadN X0.here hx rfl (hb hby d1_20) rfl rfl k) ?_
        show own_Fin p.tables e below _ (s₁.setTop (mkF m 21 #[.val (.ref o0), .val (.int p1), .val (.int p2), .val (.int p3)] [(.ref o0)]))
        refine own_by (fun _ k => XS.iloadN X0.here hx rfl (hb hby d1_21) rfl k) ?_
        show own_Fin p.tables e below _ (s₁.setTop (mkF m 22 #[.val (.ref o0), .val (.int p1), .val (.int p2), .val (.int p3)] [(.int p1), (.ref o0)]))
        refine own_by (own_bal X0 hx hZ e0 V_o0 (j := p1) (own_nn hi0) hi1 (g := (mkF m 22 #[.val (.ref o0), .val (.int p1), .val (.int p2), .val (.int p3)] [(.int p1), (.ref o0)])) rfl rfl (hb hby d1_22)) ?_
        show own_Fin p.tables e below _ (s₁.setTop (mkF m 23 #[.val (.ref o0), .val (.int p1), .val (.int p2), .val (.int p3)] [(.int (B_o0 p1))]))
        refine own_by (fun _ k => XS.bipush X0.here hx rfl (hb hby d1_23) k) ?_
        show own_Fin p.tables e below _ (s₁.setTop (mkF m 25 #[.val (.ref o0), .val (.int p1), .val (.int p2), .val (.int p3)] [(.int (57 : Int32)), (.int (B_o0 p1))]))
        by_cases hc4 : (57 : Int32) < (B_o0 p1)
        · refine own_by (fun _ k => XS.icmpYes X0.here hx rfl (pc0 := 25) (pc' := 32) rfl (hb hby d1_25) rfl (tlt hc4).2.2.1 (by decide) (by decide) k) ?_
          show own_Fin p.tables e below _ (s₁.setTop (mkF m 32 #[.val (.ref o0), .val (.int p1), .val (.int p2), .val (.int p3)] []))
          refine own_by (fun _ k => XS.iconst X0.here hx rfl (hb hby d1_32) k) ?_
          show own_Fin p.tables e below _ (s₁.setTop (mkF m 33 #[.val (.ref o0), .val (.int p1), .val (.int p2), .val (.int p3)] [(.int (0 : Int32))]))
          have ef : f1 z_o0 B_o0 p1 p2 p3 = (0 : Int32) := by unfold f1; rw [if_neg hc1, if_pos hc2, if_neg hc3, if_pos hc4]
          exact own_retN X0 hx (t := .boolean) Bd.returns hlk (by simp) (hb hby d1_33) (by decide) (by decide) ⟨by rw [ef]; rfl, N0, e0⟩
        · refine own_by (fun _ k => XS.icmpNo X0.here hx rfl (hb hby d1_25) rfl (flt hc4).2.2.1 k) ?_
          show own_Fin p.tables e below _ (s₁.setTop (mkF m 28 #[.val (.ref o0), .val (.int p1), .val (.int p2), .val (.int p3)] []))
          refine own_by (fun _ k => XS.iconst X0.here hx rfl (hb hby d1_28) k) ?_
          show own_Fin p.tables e below _ (s₁.setTop (mkF m 29 #[.val (.ref o0), .val (.int p1), .val (.int p2), .val (.int p3)] [(.int (1 : Int32))]))
          refine own_by (fun _ k => XS.goto X0.here hx rfl (pc0 := 29) (pc' := 33) rfl (hb hby d1_29) (by decide) (by decide) k) ?_
          show own_Fin p.tables e below _ (s₁.setTop (mkF m 33 #[.val (.ref o0), .val (.int p1), .val (.int p2), .val (.int p3)] [(.int (1 : Int32))]))
          have ef : f1 z_o0 B_o0 p1 p2 p3 = (1 : Int32) := by unfold f1; rw [if_neg hc1, if_pos hc2, if_neg hc3, if_neg hc4]
          exact own_retN X0 hx (t := .boolean) Bd.returns hlk (by simp) (hb hby d1_33) (by decide) (by decide) ⟨by rw [ef]; rfl, N0, e0⟩
    · refine own_by (fun _ k => XS.icmpNo X0.here hx rfl (hb hby d1_7) rfl (flt hc2).1 k) ?_
      show own_Fin p.tables e below _ (s₁.setTop (mkF m 10 #[.val (.ref o0), .val (.int p1), .val (.int p2), .val (.int p3)] []))
      refine own_by (fun _ k => XS.iconst X0.here hx rfl (hb hby d1_10) k) ?_
      show own_Fin p.tables e below _ (s₁.setTop (mkF m 11 #[.val (.ref o0), .val (.int p1), .val (.int p2), .val (.int p3)] [(.int (1 : Int32))]))
      have ef : f1 z_o0 B_o0 p1 p2 p3 = (1 : Int32) := by unfold f1; rw [if_neg hc1, if_neg hc2]
      exact own_retN X0 hx (t := .boolean) Bd.returns hlk (by simp) (hb hby d1_11) (by decide) (by decide) ⟨by rw [ef]; rfl, N0, e0⟩
theorem own_o : (1 : Int32).toInt = 1 := by decide
theorem d2_0 : decode prog_24_method_6_code 0 = .ok (.iload_n 1, 1) := by decide +kernel
theorem d2_1 : decode prog_24_method_6_code 1 = .ok (.istore_n 3, 1) := by decide +kernel
theorem d2_2 : decode prog_24_method_6_code 2 = .ok (.iload_n 3, 1) := by decide +kernel
theorem d2_3 : decode prog_24_method_6_code 3 = .ok (.iload_n 2, 1) := by decide +kernel
theorem d2_4 : decode prog_24_method_6_code 4 = .ok (.if_icmp .ge 27, 3) := by decide +kernel
theorem d2_7 : decode prog_24_method_6_code 7 = .ok (.aload_n 0, 1) := by decide +kernel
theorem d2_8 : decode prog_24_method_6_code 8 = .ok (.iload_n 3, 1) := by decide +kernel
theorem d2_9 : decode prog_24_method_6_code 9 = .ok (.baload, 1) := by decide +kernel
theorem d2_10 : decode prog_24_method_6_code 10 = .ok (.bipush 48, 2) := by decide +kernel
theorem d2_12 : decode prog_24_method_6_code 12 = .ok (.if_icmp .lt 11, 3) := by decide +kernel
theorem d2_15 : decode prog_24_method_6_code 15 = .ok (.aload_n 0, 1) := by decide +kernel
theorem d2_16 : decode prog_24_method_6_code 16 = .ok (.iload_n 3, 1) := by decide +kernel
theorem d2_17 : decode prog_24_method_6_code 17 = .ok (.baload, 1) := by decide +kernel
theorem d2_18 : decode prog_24_method_6_code 18 = .ok (.bipush 57, 2) := by decide +kernel
theorem d2_20 : decode prog_24_method_6_code 20 = .ok (.if_icmp .le 5, 3) := by decide +kernel
theorem d2_23 : decode prog_24_method_6_code 23 = .ok (.iconst 0, 1) := by decide +kernel
theorem d2_24 : decode prog_24_method_6_code 24 = .ok (.ireturn, 1) := by decide +kernel
theorem d2_25 : decode prog_24_method_6_code 25 = .ok (.iinc 3 1, 3) := by decide +kernel
theorem d2_28 : decode prog_24_method_6_code 28 = .ok (.goto (-26), 3) := by decide +kernel
theorem d2_31 : decode prog_24_method_6_code 31 = .ok (.iconst 1, 1) := by decide +kernel
theorem d2_32 : decode prog_24_method_6_code 32 = .ok (.ireturn, 1) := by decide +kernel
theorem pn_com_example_twinshelf_twinshelf_records_MarcFormat : plainName "com/example/twinshelf/twinshelf/records/MarcFormat" = true := by first | (simp [plainName, overriddenIn]; done) | decide +kernel
theorem ef_2 (m : MethodId) (o0 : Addr) (p1 : Int32) (p2 : Int32) : entryFrame m #[(.ref o0), (.int p1), (.int p2)] 4 = mkF m 0 #[.val (.ref o0), .val (.int p1), .val (.int p2), .unset] [] := by first | (simp [entryFrame, mkF, argsToLocals, Value.category]; done) | rfl
def f2 (z_o0 : Int32) (B_o0 : Int32 → Int32) (p1 : Int32) (p2 : Int32) : Int32 :=
  if p1 < p2 then
    if (B_o0 p1) < (48 : Int32) then
      (0 : Int32)
    else
      if (57 : Int32) < (B_o0 p1) then
        (0 : Int32)
      else
        if (p1 + (1 : Int32)) < p2 then
          if (B_o0 (p1 + (1 : Int32))) < (48 : Int32) then
            (0 : Int32)
          else
            if (57 : Int32) < (B_o0 (p1 + (1 : Int32))) then
              (0 : Int32)
            else
              if ((p1 + (1 : Int32)) + (1 : Int32)) < p2 then
                if (B_o0 ((p1 + (1 : Int32)) + (1 : Int32))) < (48 : Int32) then
                  (0 : Int32)
                else
                  if (57 : Int32) < (B_o0 ((p1 + (1 : Int32)) + (1 : Int32))) then
                    (0 : Int32)
                  else
                    if (((p1 + (1 : Int32)) + (1 : Int32)) + (1 : Int32)) < p2 then
                      if (B_o0 (((p1 + (1 : Int32)) + (1 : Int32)) + (1 : Int32))) < (48 : Int32) then
                        (0 : Int32)
                      else
                        if (57 : Int32) < (B_o0 (((p1 + (1 : Int32)) + (1 : Int32)) + (1 : Int32))) then
                          (0 : Int32)
                        else
                          (1 : Int32)
                    else
                      (1 : Int32)
              else
                (1 : Int32)
        else
          (1 : Int32)
  else
    (1 : Int32)
def Q2 (z_o0 : Int32) (B_o0 : Int32 → Int32) (p1 : Int32) (p2 : Int32) (h0 : Heap) (n0 : Nat) (v : Option Value) (h : Heap) (L : List Loc) : Prop := v = some (.int (f2 z_o0 B_o0 p1 p2)) ∧ Fr n0 L ∧ h = h0
set_option maxRecDepth 65536 in
set_option maxHeartbeats 40000000 in
theorem rm2 (l : Launch) (Z : State) (a0 : Array Value) (hw : ∀ d ∈ tables_1, d.before a0 Z = true) (ws : List Jvm.Cond) (o0 : Addr) (p1 : Int32) (p2 : Int32) (z_o0 : Int32) (B_o0 : Int32 → Int32)  (h0 : Heap) (n0 : Nat) (Z0 : n0 ≤ h0.size) (V_o0 : own_Byt Z h0 o0 z_o0 B_o0) (hf0 : 0 ≤ p1.toInt) (hf1 : p1.toInt ≤ 5) (ht : p2.toInt ≤ 4) (hz : z_o0.toInt = 4) :
    MetFree l (⟨"com/example/twinshelf/twinshelf/records/MarcFormat", "digits", "([BII)Z"⟩ : MethodName) (head1 (Jvm.Cond.code (⟨"com/example/twinshelf/twinshelf/records/MarcFormat", "digits", "([BII)Z"⟩ : MethodName) prog_24_method_6_code 4 (some .boolean) :: ws) ({ frames := 0, cells := 0, slots := 0, locals := 0 } : Room)) (fun a U => a = #[(.ref o0), (.int p1), (.int p2)] ∧ Z.Warmed39 U.vm ∧ U.heap = h0) (fun _ _ _ _ _ => True) (fun _ U o U' => ∃ v L, o = .returned v ∧ Q2 z_o0 B_o0 p1 p2 h0 n0 v U'.heap L ∧ FrameEnd U o U' L ({ frames := 0, cells := 0, slots := 0, locals := 0 } : Room).cells ({ frames := 0, cells := 0, slots := 0, locals := 0 } : Room).slots) := by
  refine MetFree.of_bodySF (plainFor_of_name pn_com_example_twinshelf_twinshelf_records_MarcFormat) hisR ?_
  intro p e s m args below meth c s₁ Bd hml0 hP hK
  obtain ⟨rfl, hZ, hh⟩ := hP
  have hx := Bd.exec
  have hby := Bd.bytes
  have hlk : meth.locks = false := BodyLoose.notSynchronized Bd
  have hml : c.maxLocals = 4 := hml0
  have hown : s.vm.findClass "com/example/twinshelf/twinshelf/records/MarcFormat" = some m.cls := findClass_of_methodNamed Bd.named
  have hnm := (name_of_methodNamed Bd.named Bd.method).1
  have X0 : Stand p l e ({ frames := 0, cells := 0, slots := 0, locals := 0 } : Room) s m #[(.ref o0), (.int p1), (.int p2)] below meth c s₁ [] 0 0 := Stand.of_body Bd
  have e0 : s₁.heap = h0 := by rw [← hh, Bd.state]; rfl
  have N0 := Fr.nil n0
  refine own_by (U' := s₁.setTop (mkF m 0 #[.val (.ref o0), .val (.int p1), .val (.int p2), .unset] [])) (fun t k => castTop (ef_2 m o0 p1 p2) k) ?_
  refine own_by (fun _ k => XS.iloadN X0.here hx rfl (hb hby d2_0) rfl k) ?_
  show own_Fin p.tables e below _ (s₁.setTop (mkF m 1 #[.val (.ref o0), .val (.int p1), .val (.int p2), .unset] [(.int p1)]))
  refine own_by (fun _ k => XS.istoreN X0.here hx rfl (hb hby d2_1) rfl (l' := #[.val (.ref o0), .val (.int p1), .val (.int p2), .val (.int p1)]) rfl k) ?_
  show own_Fin p.tables e below _ (s₁.setTop (mkF m 2 #[.val (.ref o0), .val (.int p1), .val (.int p2), .val (.int p1)] []))
  refine own_by (fun _ k => XS.iloadN X0.here hx rfl (hb hby d2_2) rfl k) ?_
  show own_Fin p.tables e below _ (s₁.setTop (mkF m 3 #[.val (.ref o0), .val (.int p1), .val (.int p2), .val (.int p1)] [(.int p1)]))
  refine own_by (fun _ k => XS.iloadN X0.here hx rfl (hb hby d2_3) rfl k) ?_
  show own_Fin p.tables e below _ (s₁.setTop (mkF m 4 #[.val (.ref o0), .val (.int p1), .val (.int p2), .val (.int p1)] [(.int p2), (.int p1)]))
  by_cases hc1 : p1 < p2
  · refine own_by (fun _ k => XS.icmpNo X0.here hx rfl (hb hby d2_4) rfl (tlt hc1).2.1 k) ?_
    show own_Fin p.tables e below _ (s₁.setTop (mkF m 7 #[.val (.ref o0), .val (.int p1), .val (.int p2), .val (.int p1)] []))
    refine own_by (fun _ k => XS.aloadN X0.here hx rfl (hb hby d2_7) rfl rfl k) ?_
    show own_Fin p.tables e below _ (s₁.setTop (mkF m 8 #[.val (.ref o0), .val (.int p1), .val (.int p2), .val (.int p1)] [(.ref o0)]))
    refine own_by (fun _ k => XS.iloadN X0.here hx rfl (hb hby d2_8) rfl k) ?_
    show own_Fin p.tables e below _ (s₁.setTop (mkF m 9 #[.val (.ref o0), .val (.int p1), .val (.int p2), .val (.int p1)] [(.int p1), (.ref o0)]))
    refine own_by (own_bal X0 hx hZ e0 V_o0 (j := p1) (own_nn (by omega)) (own_ltof (by have := own_lt.mp hc1; omega)) (g := (mkF m 9 #[.val (.ref o0), .val (.int p1), .val (.int p2), .val (.int p1)] [(.int p1), (.ref o0)])) rfl rfl (hb hby d2_9)) ?_
    show own_Fin p.tables e below _ (s₁.setTop (mkF m 10 #[.val (.ref o0), .val (.int p1), .val (.int p2), .val (.int p1)] [(.int (B_o0 p1))]))
    refine own_by (fun _ k => XS.bipush X0.here hx rfl (hb hby d2_10) k) ?_
    show own_Fin p.tables e below _ (s₁.setTop (mkF m 12 #[.val (.ref o0), .val (.int p1), .val (.int p2), .val (.int p1)] [(.int (48 : Int32)), (.int (B_o0 p1))]))
    by_cases hc2 : (B_o0 p1) < (48 : Int32)
    · refine own_by (fun _ k => XS.icmpYes X0.here hx rfl (pc0 := 12) (pc' := 23) rfl (hb hby d2_12) rfl (tlt hc2).1 (by decide) (by decide) k) ?_
      show own_Fin p.tables e below _ (s₁.setTop (mkF m 23 #[.val (.ref o0), .val (.int p1), .val (.int p2), .val (.int p1)] []))
      refine own_by (fun _ k => XS.iconst X0.here hx rfl (hb hby d2_23) k) ?_
      show own_Fin p.tables e below _ (s₁.setTop (mkF m 24 #[.val (.ref o0), .val (.int p1), .val (.int p2), .val (.int p1)] [(.int (0 : Int32))]))
      have ef : f2 z_o0 B_o0 p1 p2 = (0 : Int32) := by unfold f2; rw [if_pos hc1, if_pos hc2]
      exact own_retN X0 hx (t := .boolean) Bd.returns hlk (by simp) (hb hby d2_24) (by decide) (by decide) ⟨by rw [ef]; rfl, N0, e0⟩
    · refine own_by (fun _ k => XS.icmpNo X0.here hx rfl (hb hby d2_12) rfl (flt hc2).1 k) ?_
      show own_Fin p.tables e below _ (s₁.setTop (mkF m 15 #[.val (.ref o0), .val (.int p1), .val (.int p2), .val (.int p1)] []))
      refine own_by (fun _ k => XS.aloadN X0.here hx rfl (hb hby d2_15) rfl rfl k) ?_
      show own_Fin p.tables e below _ (s₁.setTop (mkF m 16 #[.val (.ref o0), .val (.int p1), .val (.int p2), .val (.int p1)] [(.ref o0)]))
      refine own_by (fun _ k => XS.iloadN X0.here hx rfl (hb hby d2_16) rfl k) ?_
      show own_Fin p.tables e below _ (s₁.setTop (mkF m 17 #[.val (.ref o0), .val (.int p1), .val (.int p2), .val (.int p1)] [(.int p1), (.ref o0)]))
      refine own_by (own_bal X0 hx hZ e0 V_o0 (j := p1) (own_nn (by omega)) (own_ltof (by have := own_lt.mp hc1; omega)) (g := (mkF m 17 #[.val (.ref o0), .val (.int p1), .val (.int p2), .val (.int p1)] [(.int p1), (.ref o0)])) rfl rfl (hb hby d2_17)) ?_
      show own_Fin p.tables e below _ (s₁.setTop (mkF m 18 #[.val (.ref o0), .val (.int p1), .val (.int p2), .val (.int p1)] [(.int (B_o0 p1))]))
      refine own_by (fun _ k => XS.bipush X0.here hx rfl (hb hby d2_18) k) ?_
      show own_Fin p.tables e below _ (s₁.setTop (mkF m 20 #[.val (.ref o0), .val (.int p1), .val (.int p2), .val (.int p1)] [(.int (57 : Int32)), (.int (B_o0 p1))]))
      by_cases hc3 : (57 : Int32) < (B_o0 p1)
      · refine own_by (fun _ k => XS.icmpNo X0.here hx rfl (hb hby d2_20) rfl (tlt hc3).2.2.2 k) ?_
        show own_Fin p.tables e below _ (s₁.setTop (mkF m 23 #[.val (.ref o0), .val (.int p1), .val (.int p2), .val (.int p1)] []))
        refine own_by (fun _ k => XS.iconst X0.here hx rfl (hb hby d2_23) k) ?_
        show own_Fin p.tables e below _ (s₁.setTop (mkF m 24 #[.val (.ref o0), .val (.int p1), .val (.int p2), .val (.int p1)] [(.int (0 : Int32))]))
        have ef : f2 z_o0 B_o0 p1 p2 = (0 : Int32) := by unfold f2; rw [if_pos hc1, if_neg hc2, if_pos hc3]
        exact own_retN X0 hx (t := .boolean) Bd.returns hlk (by simp) (hb hby d2_24) (by decide) (by decide) ⟨by rw [ef]; rfl, N0, e0⟩
      · refine own_by (fun _ k => XS.icmpYes X0.here hx rfl (pc0 := 20) (pc' := 25) rfl (hb hby d2_20) rfl (flt hc3).2.2.2 (by decide) (by decide) k) ?_
        show own_Fin p.tables e below _ (s₁.setTop (mkF m 25 #[.val (.ref o0), .val (.int p1), .val (.int p2), .val (.int p1)] []))
        refine own_by (fun _ k => XS.iinc X0.here hx rfl (hb hby d2_25) rfl (l' := #[.val (.ref o0), .val (.int p1), .val (.int p2), .val (.int (p1 + (1 : Int32)))]) rfl k) ?_
        show own_Fin p.tables e below _ (s₁.setTop (mkF m 28 #[.val (.ref o0), .val (.int p1), .val (.int p2), .val (.int (p1 + (1 : Int32)))] []))
        refine own_by (fun _ k => XS.goto X0.here hx rfl (pc0 := 28) (pc' := 2) rfl (hb hby d2_28) (by decide) (by decide) k) ?_
        show own_Fin p.tables e below _ (s₁.setTop (mkF m 2 #[.val (.ref o0), .val (.int p1), .val (.int p2), .val (.int (p1 + (1 : Int32)))] []))
        have t1 : (p1 + (1 : Int32)).toInt = p1.toInt + 1 := by rw [own_add _ _ (by rw [own_o]; omega) (by rw [own_o]; omega), own_o]
        refine own_by (fun _ k => XS.iloadN X0.here hx rfl (hb hby d2_2) rfl k) ?_
        show own_Fin p.tables e below _ (s₁.setTop (mkF m 3 #[.val (.ref o0), .val (.int p1), .val (.int p2), .val (.int (p1 + (1 : Int32)))] [(.int (p1 + (1 : Int32)))]))
        refine own_by (fun _ k => XS.iloadN X0.here hx rfl (hb hby d2_3) rfl k) ?_
        show own_Fin p.tables e below _ (s₁.setTop (mkF m 4 #[.val (.ref o0), .val (.int p1), .val (.int p2), .val (.int (p1 + (1 : Int32)))] [(.int p2), (.int (p1 + (1 : Int32)))]))
        by_cases hc4 : (p1 + (1 : Int32)) < p2
        · refine own_by (fun _ k => XS.icmpNo X0.here hx rfl (hb hby d2_4) rfl (tlt hc4).2.1 k) ?_
          show own_Fin p.tables e below _ (s₁.setTop (mkF m 7 #[.val (.ref o0), .val (.int p1), .val (.int p2), .val (.int (p1 + (1 : Int32)))] []))
          refine own_by (fun _ k => XS.aloadN X0.here hx rfl (hb hby d2_7) rfl rfl k) ?_
          show own_Fin p.tables e below _ (s₁.setTop (mkF m 8 #[.val (.ref o0), .val (.int p1), .val (.int p2), .val (.int (p1 + (1 : Int32)))] [(.ref o0)]))
          refine own_by (fun _ k => XS.iloadN X0.here hx rfl (hb hby d2_8) rfl k) ?_
          show own_Fin p.tables e below _ (s₁.setTop (mkF m 9 #[.val (.ref o0), .val (.int p1), .val (.int p2), .val (.int (p1 + (1 : Int32)))] [(.int (p1 + (1 : Int32))), (.ref o0)]))
          refine own_by (own_bal X0 hx hZ e0 V_o0 (j := (p1 + (1 : Int32))) (own_nn (by omega)) (own_ltof (by have := own_lt.mp hc4; omega)) (g := (mkF m 9 #[.val (.ref o0), .val (.int p1), .val (.int p2), .val (.int (p1 + (1 : Int32)))] [(.int (p1 + (1 : Int32))), (.ref o0)])) rfl rfl (hb hby d2_9)) ?_
          show own_Fin p.tables e below _ (s₁.setTop (mkF m 10 #[.val (.ref o0), .val (.int p1), .val (.int p2), .val (.int (p1 + (1 : Int32)))] [(.int (B_o0 (p1 + (1 : Int32))))]))
          refine own_by (fun _ k => XS.bipush X0.here hx rfl (hb hby d2_10) k) ?_
          show own_Fin p.tables e below _ (s₁.setTop (mkF m 12 #[.val (.ref o0), .val (.int p1), .val (.int p2), .val (.int (p1 + (1 : Int32)))] [(.int (48 : Int32)), (.int (B_o0 (p1 + (1 : Int32))))]))
          by_cases hc5 : (B_o0 (p1 + (1 : Int32))) < (48 : Int32)
          · refine own_by (fun _ k => XS.icmpYes X0.here hx rfl (pc0 := 12) (pc' := 23) rfl (hb hby d2_12) rfl (tlt hc5).1 (by decide) (by decide) k) ?_
            show own_Fin p.tables e below _ (s₁.setTop (mkF m 23 #[.val (.ref o0), .val (.int p1), .val (.int p2), .val (.int (p1 + (1 : Int32)))] []))
            refine own_by (fun _ k => XS.iconst X0.here hx rfl (hb hby d2_23) k) ?_
            show own_Fin p.tables e below _ (s₁.setTop (mkF m 24 #[.val (.ref o0), .val (.int p1), .val (.int p2), .val (.int (p1 + (1 : Int32)))] [(.int (0 : Int32))]))
            have ef : f2 z_o0 B_o0 p1 p2 = (0 : Int32) := by unfold f2; rw [if_pos hc1, if_neg hc2, if_neg hc3, if_pos hc4, if_pos hc5]
            exact own_retN X0 hx (t := .boolean) Bd.returns hlk (by simp) (hb hby d2_24) (by decide) (by decide) ⟨by rw [ef]; rfl, N0, e0⟩
          · refine own_by (fun _ k => XS.icmpNo X0.here hx rfl (hb hby d2_12) rfl (flt hc5).1 k) ?_
            show own_Fin p.tables e below _ (s₁.setTop (mkF m 15 #[.val (.ref o0), .val (.int p1), .val (.int p2), .val (.int (p1 + (1 : Int32)))] []))
            refine own_by (fun _ k => XS.aloadN X0.here hx rfl (hb hby d2_15) rfl rfl k) ?_
            show own_Fin p.tables e below _ (s₁.setTop (mkF m 16 #[.val (.ref o0), .val (.int p1), .val (.int p2), .val (.int (p1 + (1 : Int32)))] [(.ref o0)]))
            refine own_by (fun _ k => XS.iloadN X0.here hx rfl (hb hby d2_16) rfl k) ?_
            show own_Fin p.tables e below _ (s₁.setTop (mkF m 17 #[.val (.ref o0), .val (.int p1), .val (.int p2), .val (.int (p1 + (1 : Int32)))] [(.int (p1 + (1 : Int32))), (.ref o0)]))
            refine own_by (own_bal X0 hx hZ e0 V_o0 (j := (p1 + (1 : Int32))) (own_nn (by omega)) (own_ltof (by have := own_lt.mp hc4; omega)) (g := (mkF m 17 #[.val (.ref o0), .val (.int p1), .val (.int p2), .val (.int (p1 + (1 : Int32)))] [(.int (p1 + (1 : Int32))), (.ref o0)])) rfl rfl (hb hby d2_17)) ?_
            show own_Fin p.tables e below _ (s₁.setTop (mkF m 18 #[.val (.ref o0), .val (.int p1), .val (.int p2), .val (.int (p1 + (1 : Int32)))] [(.int (B_o0 (p1 + (1 : Int32))))]))
            refine own_by (fun _ k => XS.bipush X0.here hx rfl (hb hby d2_18) k) ?_
            show own_Fin p.tables e below _ (s₁.setTop (mkF m 20 #[.val (.ref o0), .val (.int p1), .val (.int p2), .val (.int (p1 + (1 : Int32)))] [(.int (57 : Int32)), (.int (B_o0 (p1 + (1 : Int32))))]))
            by_cases hc6 : (57 : Int32) < (B_o0 (p1 + (1 : Int32)))
            · refine own_by (fun _ k => XS.icmpNo X0.here hx rfl (hb hby d2_20) rfl (tlt hc6).2.2.2 k) ?_
              show own_Fin p.tables e below _ (s₁.setTop (mkF m 23 #[.val (.ref o0), .val (.int p1), .val (.int p2), .val (.int (p1 + (1 : Int32)))] []))
              refine own_by (fun _ k => XS.iconst X0.here hx rfl (hb hby d2_23) k) ?_
              show own_Fin p.tables e below _ (s₁.setTop (mkF m 24 #[.val (.ref o0), .val (.int p1), .val (.int p2), .val (.int (p1 + (1 : Int32)))] [(.int (0 : Int32))]))
              have ef : f2 z_o0 B_o0 p1 p2 = (0 : Int32) := by unfold f2; rw [if_pos hc1, if_neg hc2, if_neg hc3, if_pos hc4, if_neg hc5, if_pos hc6]
              exact own_retN X0 hx (t := .boolean) Bd.returns hlk (by simp) (hb hby d2_24) (by decide) (by decide) ⟨by rw [ef]; rfl, N0, e0⟩
            · refine own_by (fun _ k => XS.icmpYes X0.here hx rfl (pc0 := 20) (pc' := 25) rfl (hb hby d2_20) rfl (flt hc6).2.2.2 (by decide) (by decide) k) ?_
              show own_Fin p.tables e below _ (s₁.setTop (mkF m 25 #[.val (.ref o0), .val (.int p1), .val (.int p2), .val (.int (p1 + (1 : Int32)))] []))
              refine own_by (fun _ k => XS.iinc X0.here hx rfl (hb hby d2_25) rfl (l' := #[.val (.ref o0), .val (.int p1), .val (.int p2), .val (.int ((p1 + (1 : Int32)) + (1 : Int32)))]) rfl k) ?_
              show own_Fin p.tables e below _ (s₁.setTop (mkF m 28 #[.val (.ref o0), .val (.int p1), .val (.int p2), .val (.int ((p1 + (1 : Int32)) + (1 : Int32)))] []))
              refine own_by (fun _ k => XS.goto X0.here hx rfl (pc0 := 28) (pc' := 2) rfl (hb hby d2_28) (by decide) (by decide) k) ?_
              show own_Fin p.tables e below _ (s₁.setTop (mkF m 2 #[.val (.ref o0), .val (.int p1), .val (.int p2), .val (.int ((p1 + (1 : Int32)) + (1 : Int32)))] []))
              have t2 : ((p1 + (1 : Int32)) + (1 : Int32)).toInt = p1.toInt + 2 := by rw [own_add _ _ (by rw [own_o]; omega) (by rw [own_o]; omega), own_o]; omega
              refine own_by (fun _ k => XS.iloadN X0.here hx rfl (hb hby d2_2) rfl k) ?_
              show own_Fin p.tables e below _ (s₁.setTop (mkF m 3 #[.val (.ref o0), .val (.int p1), .val (.int p2), .val (.int ((p1 + (1 : Int32)) + (1 : Int32)))] [(.int ((p1 + (1 : Int32)) + (1 : Int32)))]))
              refine own_by (fun _ k => XS.iloadN X0.here hx rfl (hb hby d2_3) rfl k) ?_
              show own_Fin p.tables e below _ (s₁.setTop (mkF m 4 #[.val (.ref o0), .val (.int p1), .val (.int p2), .val (.int ((p1 + (1 : Int32)) + (1 : Int32)))] [(.int p2), (.int ((p1 + (1 : Int32)) + (1 : Int32)))]))
              by_cases hc7 : ((p1 + (1 : Int32)) + (1 : Int32)) < p2
              · refine own_by (fun _ k => XS.icmpNo X0.here hx rfl (hb hby d2_4) rfl (tlt hc7).2.1 k) ?_
                show own_Fin p.tables e below _ (s₁.setTop (mkF m 7 #[.val (.ref o0), .val (.int p1), .val (.int p2), .val (.int ((p1 + (1 : Int32)) + (1 : Int32)))] []))
                refine own_by (fun _ k => XS.aloadN X0.here hx rfl (hb hby d2_7) rfl rfl k) ?_
                show own_Fin p.tables e below _ (s₁.setTop (mkF m 8 #[.val (.ref o0), .val (.int p1), .val (.int p2), .val (.int ((p1 + (1 : Int32)) + (1 : Int32)))] [(.ref o0)]))
                refine own_by (fun _ k => XS.iloadN X0.here hx rfl (hb hby d2_8) rfl k) ?_
                show own_Fin p.tables e below _ (s₁.setTop (mkF m 9 #[.val (.ref o0), .val (.int p1), .val (.int p2), .val (.int ((p1 + (1 : Int32)) + (1 : Int32)))] [(.int ((p1 + (1 : Int32)) + (1 : Int32))), (.ref o0)]))
                refine own_by (own_bal X0 hx hZ e0 V_o0 (j := ((p1 + (1 : Int32)) + (1 : Int32))) (own_nn (by omega)) (own_ltof (by have := own_lt.mp hc7; omega)) (g := (mkF m 9 #[.val (.ref o0), .val (.int p1), .val (.int p2), .val (.int ((p1 + (1 : Int32)) + (1 : Int32)))] [(.int ((p1 + (1 : Int32)) + (1 : Int32))), (.ref o0)])) rfl rfl (hb hby d2_9)) ?_
                show own_Fin p.tables e below _ (s₁.setTop (mkF m 10 #[.val (.ref o0), .val (.int p1), .val (.int p2), .val (.int ((p1 + (1 : Int32)) + (1 : Int32)))] [(.int (B_o0 ((p1 + (1 : Int32)) + (1 : Int32))))]))
                refine own_by (fun _ k => XS.bipush X0.here hx rfl (hb hby d2_10) k) ?_
                show own_Fin p.tables e below _ (s₁.setTop (mkF m 12 #[.val (.ref o0), .val (.int p1), .val (.int p2), .val (.int ((p1 + (1 : Int32)) + (1 : Int32)))] [(.int (48 : Int32)), (.int (B_o0 ((p1 + (1 : Int32)) + (1 : Int32))))]))
                by_cases hc8 : (B_o0 ((p1 + (1 : Int32)) + (1 : Int32))) < (48 : Int32)
                · refine own_by (fun _ k => XS.icmpYes X0.here hx rfl (pc0 := 12) (pc' := 23) rfl (hb hby d2_12) rfl (tlt hc8).1 (by decide) (by decide) k) ?_
                  show own_Fin p.tables e below _ (s₁.setTop (mkF m 23 #[.val (.ref o0), .val (.int p1), .val (.int p2), .val (.int ((p1 + (1 : Int32)) + (1 : Int32)))] []))
                  refine own_by (fun _ k => XS.iconst X0.here hx rfl (hb hby d2_23) k) ?_
                  show own_Fin p.tables e below _ (s₁.setTop (mkF m 24 #[.val (.ref o0), .val (.int p1), .val (.int p2), .val (.int ((p1 + (1 : Int32)) + (1 : Int32)))] [(.int (0 : Int32))]))
                  have ef : f2 z_o0 B_o0 p1 p2 = (0 : Int32) := by unfold f2; rw [if_pos hc1, if_neg hc2, if_neg hc3, if_pos hc4, if_neg hc5, if_neg hc6, if_pos hc7, if_pos hc8]
                  exact own_retN X0 hx (t := .boolean) Bd.returns hlk (by simp) (hb hby d2_24) (by decide) (by decide) ⟨by rw [ef]; rfl, N0, e0⟩
                · refine own_by (fun _ k => XS.icmpNo X0.here hx rfl (hb hby d2_12) rfl (flt hc8).1 k) ?_
                  show own_Fin p.tables e below _ (s₁.setTop (mkF m 15 #[.val (.ref o0), .val (.int p1), .val (.int p2), .val (.int ((p1 + (1 : Int32)) + (1 : Int32)))] []))
                  refine own_by (fun _ k => XS.aloadN X0.here hx rfl (hb hby d2_15) rfl rfl k) ?_
                  show own_Fin p.tables e below _ (s₁.setTop (mkF m 16 #[.val (.ref o0), .val (.int p1), .val (.int p2), .val (.int ((p1 + (1 : Int32)) + (1 : Int32)))] [(.ref o0)]))
                  refine own_by (fun _ k => XS.iloadN X0.here hx rfl (hb hby d2_16) rfl k) ?_
                  show own_Fin p.tables e below _ (s₁.setTop (mkF m 17 #[.val (.ref o0), .val (.int p1), .val (.int p2), .val (.int ((p1 + (1 : Int32)) + (1 : Int32)))] [(.int ((p1 + (1 : Int32)) + (1 : Int32))), (.ref o0)]))
                  refine own_by (own_bal X0 hx hZ e0 V_o0 (j := ((p1 + (1 : Int32)) + (1 : Int32))) (own_nn (by omega)) (own_ltof (by have := own_lt.mp hc7; omega)) (g := (mkF m 17 #[.val (.ref o0), .val (.int p1), .val (.int p2), .val (.int ((p1 + (1 : Int32)) + (1 : Int32)))] [(.int ((p1 + (1 : Int32)) + (1 : Int32))), (.ref o0)])) rfl rfl (hb hby d2_17)) ?_
                  show own_Fin p.tables e below _ (s₁.setTop (mkF m 18 #[.val (.ref o0), .val (.int p1), .val (.int p2), .val (.int ((p1 + (1 : Int32)) + (1 : Int32)))] [(.int (B_o0 ((p1 + (1 : Int32)) + (1 : Int32))))]))
                  refine own_by (fun _ k => XS.bipush X0.here hx rfl (hb hby d2_18) k) ?_
                  show own_Fin p.tables e below _ (s₁.setTop (mkF m 20 #[.val (.ref o0), .val (.int p1), .val (.int p2), .val (.int ((p1 + (1 : Int32)) + (1 : Int32)))] [(.int (57 : Int32)), (.int (B_o0 ((p1 + (1 : Int32)) + (1 : Int32))))]))
                  by_cases hc9 : (57 : Int32) < (B_o0 ((p1 + (1 : Int32)) + (1 : Int32)))
                  · refine own_by (fun _ k => XS.icmpNo X0.here hx rfl (hb hby d2_20) rfl (tlt hc9).2.2.2 k) ?_
                    show own_Fin p.tables e below _ (s₁.setTop (mkF m 23 #[.val (.ref o0), .val (.int p1), .val (.int p2), .val (.int ((p1 + (1 : Int32)) + (1 : Int32)))] []))
                    refine own_by (fun _ k => XS.iconst X0.here hx rfl (hb hby d2_23) k) ?_
                    show own_Fin p.tables e below _ (s₁.setTop (mkF m 24 #[.val (.ref o0), .val (.int p1), .val (.int p2), .val (.int ((p1 + (1 : Int32)) + (1 : Int32)))] [(.int (0 : Int32))]))
                    have ef : f2 z_o0 B_o0 p1 p2 = (0 : Int32) := by unfold f2; rw [if_pos hc1, if_neg hc2, if_neg hc3, if_pos hc4, if_neg hc5, if_neg hc6, if_pos hc7, if_neg hc8, if_pos hc9]
                    exact own_retN X0 hx (t := .boolean) Bd.returns hlk (by simp) (hb hby d2_24) (by decide) (by decide) ⟨by rw [ef]; rfl, N0, e0⟩
                  · refine own_by (fun _ k => XS.icmpYes X0.here hx rfl (pc0 := 20) (pc' := 25) rfl (hb hby d2_20) rfl (flt hc9).2.2.2 (by decide) (by decide) k) ?_
                    show own_Fin p.tables e below _ (s₁.setTop (mkF m 25 #[.val (.ref o0), .val (.int p1), .val (.int p2), .val (.int ((p1 + (1 : Int32)) + (1 : Int32)))] []))
                    refine own_by (fun _ k => XS.iinc X0.here hx rfl (hb hby d2_25) rfl (l' := #[.val (.ref o0), .val (.int p1), .val (.int p2), .val (.int (((p1 + (1 : Int32)) + (1 : Int32)) + (1 : Int32)))]) rfl k) ?_
                    show own_Fin p.tables e below _ (s₁.setTop (mkF m 28 #[.val (.ref o0), .val (.int p1), .val (.int p2), .val (.int (((p1 + (1 : Int32)) + (1 : Int32)) + (1 : Int32)))] []))
                    refine own_by (fun _ k => XS.goto X0.here hx rfl (pc0 := 28) (pc' := 2) rfl (hb hby d2_28) (by decide) (by decide) k) ?_
                    show own_Fin p.tables e below _ (s₁.setTop (mkF m 2 #[.val (.ref o0), .val (.int p1), .val (.int p2), .val (.int (((p1 + (1 : Int32)) + (1 : Int32)) + (1 : Int32)))] []))
                    have t3 : (((p1 + (1 : Int32)) + (1 : Int32)) + (1 : Int32)).toInt = p1.toInt + 3 := by rw [own_add _ _ (by rw [own_o]; omega) (by rw [own_o]; omega), own_o]; omega
                    refine own_by (fun _ k => XS.iloadN X0.here hx rfl (hb hby d2_2) rfl k) ?_
                    show own_Fin p.tables e below _ (s₁.setTop (mkF m 3 #[.val (.ref o0), .val (.int p1), .val (.int p2), .val (.int (((p1 + (1 : Int32)) + (1 : Int32)) + (1 : Int32)))] [(.int (((p1 + (1 : Int32)) + (1 : Int32)) + (1 : Int32)))]))
                    refine own_by (fun _ k => XS.iloadN X0.here hx rfl (hb hby d2_3) rfl k) ?_
                    show own_Fin p.tables e below _ (s₁.setTop (mkF m 4 #[.val (.ref o0), .val (.int p1), .val (.int p2), .val (.int (((p1 + (1 : Int32)) + (1 : Int32)) + (1 : Int32)))] [(.int p2), (.int (((p1 + (1 : Int32)) + (1 : Int32)) + (1 : Int32)))]))
                    by_cases hc10 : (((p1 + (1 : Int32)) + (1 : Int32)) + (1 : Int32)) < p2
                    · refine own_by (fun _ k => XS.icmpNo X0.here hx rfl (hb hby d2_4) rfl (tlt hc10).2.1 k) ?_
                      show own_Fin p.tables e below _ (s₁.setTop (mkF m 7 #[.val (.ref o0), .val (.int p1), .val (.int p2), .val (.int (((p1 + (1 : Int32)) + (1 : Int32)) + (1 : Int32)))] []))
                      refine own_by (fun _ k => XS.aloadN X0.here hx rfl (hb hby d2_7) rfl rfl k) ?_
                      show own_Fin p.tables e below _ (s₁.setTop (mkF m 8 #[.val (.ref o0), .val (.int p1), .val (.int p2), .val (.int (((p1 + (1 : Int32)) + (1 : Int32)) + (1 : Int32)))] [(.ref o0)]))
                      refine own_by (fun _ k => XS.iloadN X0.here hx rfl (hb hby d2_8) rfl k) ?_
                      show own_Fin p.tables e below _ (s₁.setTop (mkF m 9 #[.val (.ref o0), .val (.int p1), .val (.int p2), .val (.int (((p1 + (1 : Int32)) + (1 : Int32)) + (1 : Int32)))] [(.int (((p1 + (1 : Int32)) + (1 : Int32)) + (1 : Int32))), (.ref o0)]))
                      refine own_by (own_bal X0 hx hZ e0 V_o0 (j := (((p1 + (1 : Int32)) + (1 : Int32)) + (1 : Int32))) (own_nn (by omega)) (own_ltof (by have := own_lt.mp hc10; omega)) (g := (mkF m 9 #[.val (.ref o0), .val (.int p1), .val (.int p2), .val (.int (((p1 + (1 : Int32)) + (1 : Int32)) + (1 : Int32)))] [(.int (((p1 + (1 : Int32)) + (1 : Int32)) + (1 : Int32))), (.ref o0)])) rfl rfl (hb hby d2_9)) ?_
                      show own_Fin p.tables e below _ (s₁.setTop (mkF m 10 #[.val (.ref o0), .val (.int p1), .val (.int p2), .val (.int (((p1 + (1 : Int32)) + (1 : Int32)) + (1 : Int32)))] [(.int (B_o0 (((p1 + (1 : Int32)) + (1 : Int32)) + (1 : Int32))))]))
                      refine own_by (fun _ k => XS.bipush X0.here hx rfl (hb hby d2_10) k) ?_
                      show own_Fin p.tables e below _ (s₁.setTop (mkF m 12 #[.val (.ref o0), .val (.int p1), .val (.int p2), .val (.int (((p1 + (1 : Int32)) + (1 : Int32)) + (1 : Int32)))] [(.int (48 : Int32)), (.int (B_o0 (((p1 + (1 : Int32)) + (1 : Int32)) + (1 : Int32))))]))
                      by_cases hc11 : (B_o0 (((p1 + (1 : Int32)) + (1 : Int32)) + (1 : Int32))) < (48 : Int32)
                      · refine own_by (fun _ k => XS.icmpYes X0.here hx rfl (pc0 := 12) (pc' := 23) rfl (hb hby d2_12) rfl (tlt hc11).1 (by decide) (by decide) k) ?_
                        show own_Fin p.tables e below _ (s₁.setTop (mkF m 23 #[.val (.ref o0), .val (.int p1), .val (.int p2), .val (.int (((p1 + (1 : Int32)) + (1 : Int32)) + (1 : Int32)))] []))
                        refine own_by (fun _ k => XS.iconst X0.here hx rfl (hb hby d2_23) k) ?_
                        show own_Fin p.tables e below _ (s₁.setTop (mkF m 24 #[.val (.ref o0), .val (.int p1), .val (.int p2), .val (.int (((p1 + (1 : Int32)) + (1 : Int32)) + (1 : Int32)))] [(.int (0 : Int32))]))
                        have ef : f2 z_o0 B_o0 p1 p2 = (0 : Int32) := by unfold f2; rw [if_pos hc1, if_neg hc2, if_neg hc3, if_pos hc4, if_neg hc5, if_neg hc6, if_pos hc7, if_neg hc8, if_neg hc9, if_pos hc10, if_pos hc11]
                        exact own_retN X0 hx (t := .boolean) Bd.returns hlk (by simp) (hb hby d2_24) (by decide) (by decide) ⟨by rw [ef]; rfl, N0, e0⟩
                      · refine own_by (fun _ k => XS.icmpNo X0.here hx rfl (hb hby d2_12) rfl (flt hc11).1 k) ?_
                        show own_Fin p.tables e below _ (s₁.setTop (mkF m 15 #[.val (.ref o0), .val (.int p1), .val (.int p2), .val (.int (((p1 + (1 : Int32)) + (1 : Int32)) + (1 : Int32)))] []))
                        refine own_by (fun _ k => XS.aloadN X0.here hx rfl (hb hby d2_15) rfl rfl k) ?_
                        show own_Fin p.tables e below _ (s₁.setTop (mkF m 16 #[.val (.ref o0), .val (.int p1), .val (.int p2), .val (.int (((p1 + (1 : Int32)) + (1 : Int32)) + (1 : Int32)))] [(.ref o0)]))
                        refine own_by (fun _ k => XS.iloadN X0.here hx rfl (hb hby d2_16) rfl k) ?_
                        show own_Fin p.tables e below _ (s₁.setTop (mkF m 17 #[.val (.ref o0), .val (.int p1), .val (.int p2), .val (.int (((p1 + (1 : Int32)) + (1 : Int32)) + (1 : Int32)))] [(.int (((p1 + (1 : Int32)) + (1 : Int32)) + (1 : Int32))), (.ref o0)]))
                        refine own_by (own_bal X0 hx hZ e0 V_o0 (j := (((p1 + (1 : Int32)) + (1 : Int32)) + (1 : Int32))) (own_nn (by omega)) (own_ltof (by have := own_lt.mp hc10; omega)) (g := (mkF m 17 #[.val (.ref o0), .val (.int p1), .val (.int p2), .val (.int (((p1 + (1 : Int32)) + (1 : Int32)) + (1 : Int32)))] [(.int (((p1 + (1 : Int32)) + (1 : Int32)) + (1 : Int32))), (.ref o0)])) rfl rfl (hb hby d2_17)) ?_
                        show own_Fin p.tables e below _ (s₁.setTop (mkF m 18 #[.val (.ref o0), .val (.int p1), .val (.int p2), .val (.int (((p1 + (1 : Int32)) + (1 : Int32)) + (1 : Int32)))] [(.int (B_o0 (((p1 + (1 : Int32)) + (1 : Int32)) + (1 : Int32))))]))
                        refine own_by (fun _ k => XS.bipush X0.here hx rfl (hb hby d2_18) k) ?_
                        show own_Fin p.tables e below _ (s₁.setTop (mkF m 20 #[.val (.ref o0), .val (.int p1), .val (.int p2), .val (.int (((p1 + (1 : Int32)) + (1 : Int32)) + (1 : Int32)))] [(.int (57 : Int32)), (.int (B_o0 (((p1 + (1 : Int32)) + (1 : Int32)) + (1 : Int32))))]))
                        by_cases hc12 : (57 : Int32) < (B_o0 (((p1 + (1 : Int32)) + (1 : Int32)) + (1 : Int32)))
                        · refine own_by (fun _ k => XS.icmpNo X0.here hx rfl (hb hby d2_20) rfl (tlt hc12).2.2.2 k) ?_
                          show own_Fin p.tables e below _ (s₁.setTop (mkF m 23 #[.val (.ref o0), .val (.int p1), .val (.int p2), .val (.int (((p1 + (1 : Int32)) + (1 : Int32)) + (1 : Int32)))] []))
                          refine own_by (fun _ k => XS.iconst X0.here hx rfl (hb hby d2_23) k) ?_
                          show own_Fin p.tables e below _ (s₁.setTop (mkF m 24 #[.val (.ref o0), .val (.int p1), .val (.int p2), .val (.int (((p1 + (1 : Int32)) + (1 : Int32)) + (1 : Int32)))] [(.int (0 : Int32))]))
                          have ef : f2 z_o0 B_o0 p1 p2 = (0 : Int32) := by unfold f2; rw [if_pos hc1, if_neg hc2, if_neg hc3, if_pos hc4, if_neg hc5, if_neg hc6, if_pos hc7, if_neg hc8, if_neg hc9, if_pos hc10, if_neg hc11, if_pos hc12]
                          exact own_retN X0 hx (t := .boolean) Bd.returns hlk (by simp) (hb hby d2_24) (by decide) (by decide) ⟨by rw [ef]; rfl, N0, e0⟩
                        · refine own_by (fun _ k => XS.icmpYes X0.here hx rfl (pc0 := 20) (pc' := 25) rfl (hb hby d2_20) rfl (flt hc12).2.2.2 (by decide) (by decide) k) ?_
                          show own_Fin p.tables e below _ (s₁.setTop (mkF m 25 #[.val (.ref o0), .val (.int p1), .val (.int p2), .val (.int (((p1 + (1 : Int32)) + (1 : Int32)) + (1 : Int32)))] []))
                          refine own_by (fun _ k => XS.iinc X0.here hx rfl (hb hby d2_25) rfl (l' := #[.val (.ref o0), .val (.int p1), .val (.int p2), .val (.int ((((p1 + (1 : Int32)) + (1 : Int32)) + (1 : Int32)) + (1 : Int32)))]) rfl k) ?_
                          show own_Fin p.tables e below _ (s₁.setTop (mkF m 28 #[.val (.ref o0), .val (.int p1), .val (.int p2), .val (.int ((((p1 + (1 : Int32)) + (1 : Int32)) + (1 : Int32)) + (1 : Int32)))] []))
                          refine own_by (fun _ k => XS.goto X0.here hx rfl (pc0 := 28) (pc' := 2) rfl (hb hby d2_28) (by decide) (by decide) k) ?_
                          show own_Fin p.tables e below _ (s₁.setTop (mkF m 2 #[.val (.ref o0), .val (.int p1), .val (.int p2), .val (.int ((((p1 + (1 : Int32)) + (1 : Int32)) + (1 : Int32)) + (1 : Int32)))] []))
                          have t4 : ((((p1 + (1 : Int32)) + (1 : Int32)) + (1 : Int32)) + (1 : Int32)).toInt = p1.toInt + 4 := by rw [own_add _ _ (by rw [own_o]; omega) (by rw [own_o]; omega), own_o]; omega
                          refine own_by (fun _ k => XS.iloadN X0.here hx rfl (hb hby d2_2) rfl k) ?_
                          show own_Fin p.tables e below _ (s₁.setTop (mkF m 3 #[.val (.ref o0), .val (.int p1), .val (.int p2), .val (.int ((((p1 + (1 : Int32)) + (1 : Int32)) + (1 : Int32)) + (1 : Int32)))] [(.int ((((p1 + (1 : Int32)) + (1 : Int32)) + (1 : Int32)) + (1 : Int32)))]))
                          refine own_by (fun _ k => XS.iloadN X0.here hx rfl (hb hby d2_3) rfl k) ?_
                          show own_Fin p.tables e below _ (s₁.setTop (mkF m 4 #[.val (.ref o0), .val (.int p1), .val (.int p2), .val (.int ((((p1 + (1 : Int32)) + (1 : Int32)) + (1 : Int32)) + (1 : Int32)))] [(.int p2), (.int ((((p1 + (1 : Int32)) + (1 : Int32)) + (1 : Int32)) + (1 : Int32)))]))
                          by_cases hc13 : ((((p1 + (1 : Int32)) + (1 : Int32)) + (1 : Int32)) + (1 : Int32)) < p2
                          · exact absurd (own_lt.mp hc13) (by omega)
                          · refine own_by (fun _ k => XS.icmpYes X0.here hx rfl (pc0 := 4) (pc' := 31) rfl (hb hby d2_4) rfl (flt hc13).2.1 (by decide) (by decide) k) ?_
                            show own_Fin p.tables e below _ (s₁.setTop (mkF m 31 #[.val (.ref o0), .val (.int p1), .val (.int p2), .val (.int ((((p1 + (1 : Int32)) + (1 : Int32)) + (1 : Int32)) + (1 : Int32)))] []))
                            refine own_by (fun _ k => XS.iconst X0.here hx rfl (hb hby d2_31) k) ?_
                            show own_Fin p.tables e below _ (s₁.setTop (mkF m 32 #[.val (.ref o0), .val (.int p1), .val (.int p2), .val (.int ((((p1 + (1 : Int32)) + (1 : Int32)) + (1 : Int32)) + (1 : Int32)))] [(.int (1 : Int32))]))
                            have ef : f2 z_o0 B_o0 p1 p2 = (1 : Int32) := by unfold f2; rw [if_pos hc1, if_neg hc2, if_neg hc3, if_pos hc4, if_neg hc5, if_neg hc6, if_pos hc7, if_neg hc8, if_neg hc9, if_pos hc10, if_neg hc11, if_neg hc12]
                            exact own_retN X0 hx (t := .boolean) Bd.returns hlk (by simp) (hb hby d2_32) (by decide) (by decide) ⟨by rw [ef]; rfl, N0, e0⟩
                    · refine own_by (fun _ k => XS.icmpYes X0.here hx rfl (pc0 := 4) (pc' := 31) rfl (hb hby d2_4) rfl (flt hc10).2.1 (by decide) (by decide) k) ?_
                      show own_Fin p.tables e below _ (s₁.setTop (mkF m 31 #[.val (.ref o0), .val (.int p1), .val (.int p2), .val (.int (((p1 + (1 : Int32)) + (1 : Int32)) + (1 : Int32)))] []))
                      refine own_by (fun _ k => XS.iconst X0.here hx rfl (hb hby d2_31) k) ?_
                      show own_Fin p.tables e below _ (s₁.setTop (mkF m 32 #[.val (.ref o0), .val (.int p1), .val (.int p2), .val (.int (((p1 + (1 : Int32)) + (1 : Int32)) + (1 : Int32)))] [(.int (1 : Int32))]))
                      have ef : f2 z_o0 B_o0 p1 p2 = (1 : Int32) := by unfold f2; rw [if_pos hc1, if_neg hc2, if_neg hc3, if_pos hc4, if_neg hc5, if_neg hc6, if_pos hc7, if_neg hc8, if_neg hc9, if_neg hc10]
                      exact own_retN X0 hx (t := .boolean) Bd.returns hlk (by simp) (hb hby d2_32) (by decide) (by decide) ⟨by rw [ef]; rfl, N0, e0⟩
              · refine own_by (fun _ k => XS.icmpYes X0.here hx rfl (pc0 := 4) (pc' := 31) rfl (hb hby d2_4) rfl (flt hc7).2.1 (by decide) (by decide) k) ?_
                show own_Fin p.tables e below _ (s₁.setTop (mkF m 31 #[.val (.ref o0), .val (.int p1), .val (.int p2), .val (.int ((p1 + (1 : Int32)) + (1 : Int32)))] []))
                refine own_by (fun _ k => XS.iconst X0.here hx rfl (hb hby d2_31) k) ?_
                show own_Fin p.tables e below _ (s₁.setTop (mkF m 32 #[.val (.ref o0), .val (.int p1), .val (.int p2), .val (.int ((p1 + (1 : Int32)) + (1 : Int32)))] [(.int (1 : Int32))]))
                have ef : f2 z_o0 B_o0 p1 p2 = (1 : Int32) := by unfold f2; rw [if_pos hc1, if_neg hc2, if_neg hc3, if_pos hc4, if_neg hc5, if_neg hc6, if_neg hc7]
                exact own_retN X0 hx (t := .boolean) Bd.returns hlk (by simp) (hb hby d2_32) (by decide) (by decide) ⟨by rw [ef]; rfl, N0, e0⟩
        · refine own_by (fun _ k => XS.icmpYes X0.here hx rfl (pc0 := 4) (pc' := 31) rfl (hb hby d2_4) rfl (flt hc4).2.1 (by decide) (by decide) k) ?_
          show own_Fin p.tables e below _ (s₁.setTop (mkF m 31 #[.val (.ref o0), .val (.int p1), .val (.int p2), .val (.int (p1 + (1 : Int32)))] []))
          refine own_by (fun _ k => XS.iconst X0.here hx rfl (hb hby d2_31) k) ?_
          show own_Fin p.tables e below _ (s₁.setTop (mkF m 32 #[.val (.ref o0), .val (.int p1), .val (.int p2), .val (.int (p1 + (1 : Int32)))] [(.int (1 : Int32))]))
          have ef : f2 z_o0 B_o0 p1 p2 = (1 : Int32) := by unfold f2; rw [if_pos hc1, if_neg hc2, if_neg hc3, if_neg hc4]
          exact own_retN X0 hx (t := .boolean) Bd.returns hlk (by simp) (hb hby d2_32) (by decide) (by decide) ⟨by rw [ef]; rfl, N0, e0⟩
  · refine own_by (fun _ k => XS.icmpYes X0.here hx rfl (pc0 := 4) (pc' := 31) rfl (hb hby d2_4) rfl (flt hc1).2.1 (by decide) (by decide) k) ?_
    show own_Fin p.tables e below _ (s₁.setTop (mkF m 31 #[.val (.ref o0), .val (.int p1), .val (.int p2), .val (.int p1)] []))
    refine own_by (fun _ k => XS.iconst X0.here hx rfl (hb hby d2_31) k) ?_
    show own_Fin p.tables e below _ (s₁.setTop (mkF m 32 #[.val (.ref o0), .val (.int p1), .val (.int p2), .val (.int p1)] [(.int (1 : Int32))]))
    have ef : f2 z_o0 B_o0 p1 p2 = (1 : Int32) := by unfold f2; rw [if_neg hc1]
    exact own_retN X0 hx (t := .boolean) Bd.returns hlk (by simp) (hb hby d2_32) (by decide) (by decide) ⟨by rw [ef]; rfl, N0, e0⟩
theorem pd___BIII_Z : parseMethodDescriptor "([BIII)Z" = some ⟨[(.array .byte), .int, .int, .int], some .boolean⟩ := by decide +kernel
theorem pd___BII_Z : parseMethodDescriptor "([BII)Z" = some ⟨[(.array .byte), .int, .int], some .boolean⟩ := by decide +kernel
theorem ef_0 (m : MethodId) (p0 : Int32) (p1 : Int32) (p2 : Int32) : entryFrame m #[(.int p0), (.int p1), (.int p2)] maxLocals = mkF m 0 #[.val (.int p0), .val (.int p1), .val (.int p2), .unset, .unset, .unset, .unset, .unset] [] := by first | (simp [entryFrame, mkF, argsToLocals, Value.category, maxLocals]; done) | rfl
def f0 (p0 : Int32) (p1 : Int32) (p2 : Int32) : Int32 :=
  if (f1 (4 : Int32) (own_upd (own_upd (own_upd (own_upd (fun _ => (0 : Int32)) (0 : Int32) ((p0.toInt8.toInt32).toInt8.toInt32)) (1 : Int32) (((p0 >>> ((8 : Int32) &&& 31)).toInt8.toInt32).toInt8.toInt32)) (2 : Int32) (((p0 >>> ((16 : Int32) &&& 31)).toInt8.toInt32).toInt8.toInt32)) (3 : Int32) ((((p0.toUInt32 >>> ((24 : Int32) &&& 31).toUInt32).toInt32).toInt8.toInt32).toInt8.toInt32)) (0 : Int32) ((p1 &&& (2147483647 : Int32)) % (6 : Int32)) ((p2 &&& (2147483647 : Int32)) % (5 : Int32))) = (0 : Int32) then
    if (f2 (4 : Int32) (own_upd (own_upd (own_upd (own_upd (fun _ => (0 : Int32)) (0 : Int32) ((p0.toInt8.toInt32).toInt8.toInt32)) (1 : Int32) (((p0 >>> ((8 : Int32) &&& 31)).toInt8.toInt32).toInt8.toInt32)) (2 : Int32) (((p0 >>> ((16 : Int32) &&& 31)).toInt8.toInt32).toInt8.toInt32)) (3 : Int32) ((((p0.toUInt32 >>> ((24 : Int32) &&& 31).toUInt32).toInt32).toInt8.toInt32).toInt8.toInt32)) ((p1 &&& (2147483647 : Int32)) % (6 : Int32)) ((p2 &&& (2147483647 : Int32)) % (5 : Int32))) = (0 : Int32) then
      (1 : Int32)
    else
      (0 : Int32)
  else
    if (f1 (4 : Int32) (own_upd (own_upd (own_upd (own_upd (fun _ => (0 : Int32)) (0 : Int32) ((p0.toInt8.toInt32).toInt8.toInt32)) (1 : Int32) (((p0 >>> ((8 : Int32) &&& 31)).toInt8.toInt32).toInt8.toInt32)) (2 : Int32) (((p0 >>> ((16 : Int32) &&& 31)).toInt8.toInt32).toInt8.toInt32)) (3 : Int32) ((((p0.toUInt32 >>> ((24 : Int32) &&& 31).toUInt32).toInt32).toInt8.toInt32).toInt8.toInt32)) (1 : Int32) ((p1 &&& (2147483647 : Int32)) % (6 : Int32)) ((p2 &&& (2147483647 : Int32)) % (5 : Int32))) = (0 : Int32) then
      if (f2 (4 : Int32) (own_upd (own_upd (own_upd (own_upd (fun _ => (0 : Int32)) (0 : Int32) ((p0.toInt8.toInt32).toInt8.toInt32)) (1 : Int32) (((p0 >>> ((8 : Int32) &&& 31)).toInt8.toInt32).toInt8.toInt32)) (2 : Int32) (((p0 >>> ((16 : Int32) &&& 31)).toInt8.toInt32).toInt8.toInt32)) (3 : Int32) ((((p0.toUInt32 >>> ((24 : Int32) &&& 31).toUInt32).toInt32).toInt8.toInt32).toInt8.toInt32)) ((p1 &&& (2147483647 : Int32)) % (6 : Int32)) ((p2 &&& (2147483647 : Int32)) % (5 : Int32))) = (0 : Int32) then
        (1 : Int32)
      else
        (0 : Int32)
    else
      if (f1 (4 : Int32) (own_upd (own_upd (own_upd (own_upd (fun _ => (0 : Int32)) (0 : Int32) ((p0.toInt8.toInt32).toInt8.toInt32)) (1 : Int32) (((p0 >>> ((8 : Int32) &&& 31)).toInt8.toInt32).toInt8.toInt32)) (2 : Int32) (((p0 >>> ((16 : Int32) &&& 31)).toInt8.toInt32).toInt8.toInt32)) (3 : Int32) ((((p0.toUInt32 >>> ((24 : Int32) &&& 31).toUInt32).toInt32).toInt8.toInt32).toInt8.toInt32)) (2 : Int32) ((p1 &&& (2147483647 : Int32)) % (6 : Int32)) ((p2 &&& (2147483647 : Int32)) % (5 : Int32))) = (0 : Int32) then
        if (f2 (4 : Int32) (own_upd (own_upd (own_upd (own_upd (fun _ => (0 : Int32)) (0 : Int32) ((p0.toInt8.toInt32).toInt8.toInt32)) (1 : Int32) (((p0 >>> ((8 : Int32) &&& 31)).toInt8.toInt32).toInt8.toInt32)) (2 : Int32) (((p0 >>> ((16 : Int32) &&& 31)).toInt8.toInt32).toInt8.toInt32)) (3 : Int32) ((((p0.toUInt32 >>> ((24 : Int32) &&& 31).toUInt32).toInt32).toInt8.toInt32).toInt8.toInt32)) ((p1 &&& (2147483647 : Int32)) % (6 : Int32)) ((p2 &&& (2147483647 : Int32)) % (5 : Int32))) = (0 : Int32) then
          (1 : Int32)
        else
          (0 : Int32)
      else
        if (f1 (4 : Int32) (own_upd (own_upd (own_upd (own_upd (fun _ => (0 : Int32)) (0 : Int32) ((p0.toInt8.toInt32).toInt8.toInt32)) (1 : Int32) (((p0 >>> ((8 : Int32) &&& 31)).toInt8.toInt32).toInt8.toInt32)) (2 : Int32) (((p0 >>> ((16 : Int32) &&& 31)).toInt8.toInt32).toInt8.toInt32)) (3 : Int32) ((((p0.toUInt32 >>> ((24 : Int32) &&& 31).toUInt32).toInt32).toInt8.toInt32).toInt8.toInt32)) (3 : Int32) ((p1 &&& (2147483647 : Int32)) % (6 : Int32)) ((p2 &&& (2147483647 : Int32)) % (5 : Int32))) = (0 : Int32) then
          if (f2 (4 : Int32) (own_upd (own_upd (own_upd (own_upd (fun _ => (0 : Int32)) (0 : Int32) ((p0.toInt8.toInt32).toInt8.toInt32)) (1 : Int32) (((p0 >>> ((8 : Int32) &&& 31)).toInt8.toInt32).toInt8.toInt32)) (2 : Int32) (((p0 >>> ((16 : Int32) &&& 31)).toInt8.toInt32).toInt8.toInt32)) (3 : Int32) ((((p0.toUInt32 >>> ((24 : Int32) &&& 31).toUInt32).toInt32).toInt8.toInt32).toInt8.toInt32)) ((p1 &&& (2147483647 : Int32)) % (6 : Int32)) ((p2 &&& (2147483647 : Int32)) % (5 : Int32))) = (0 : Int32) then
            (1 : Int32)
          else
            (0 : Int32)
        else
          if (f2 (4 : Int32) (own_upd (own_upd (own_upd (own_upd (fun _ => (0 : Int32)) (0 : Int32) ((p0.toInt8.toInt32).toInt8.toInt32)) (1 : Int32) (((p0 >>> ((8 : Int32) &&& 31)).toInt8.toInt32).toInt8.toInt32)) (2 : Int32) (((p0 >>> ((16 : Int32) &&& 31)).toInt8.toInt32).toInt8.toInt32)) (3 : Int32) ((((p0.toUInt32 >>> ((24 : Int32) &&& 31).toUInt32).toInt32).toInt8.toInt32).toInt8.toInt32)) ((p1 &&& (2147483647 : Int32)) % (6 : Int32)) ((p2 &&& (2147483647 : Int32)) % (5 : Int32))) = (1 : Int32) then
            (1 : Int32)
          else
            (0 : Int32)
def Q0 (p0 : Int32) (p1 : Int32) (p2 : Int32) (h0 : Heap) (n0 : Nat) (v : Option Value) (h : Heap) (L : List Loc) : Prop := v = some (.int (f0 p0 p1 p2)) ∧ Fr n0 L
set_option maxRecDepth 65536 in
set_option maxHeartbeats 40000000 in
theorem rm0 (l : Launch) (Z : State) (a0 : Array Value) (hw : ∀ d ∈ tables_1, d.before a0 Z = true) (ws : List Jvm.Cond) (p0 : Int32) (p1 : Int32) (p2 : Int32)   (h0 : Heap) (n0 : Nat) (Z0 : n0 ≤ h0.size)   :
    MetFree l x (head1 (Jvm.Cond.code x code maxLocals ret :: ws) room_1) (fun a U => a = #[(.int p0), (.int p1), (.int p2)] ∧ Z.Warmed39 U.vm ∧ U.heap = h0) (fun _ _ _ _ _ => True) (fun _ U o U' => ∃ v L, o = .returned v ∧ Q0 p0 p1 p2 h0 n0 v U'.heap L ∧ FrameEnd U o U' L 1 4) := by
  refine MetFree.of_bodySF (plainFor_of_name pn_com_example_twinshelf_twinshelf_records_MarcFormatDigitsPinLaw) hisR ?_
  intro p e s m args below meth c s₁ Bd hml0 hP hK
  obtain ⟨rfl, hZ, hh⟩ := hP
  have hx := Bd.exec
  have hby := Bd.bytes
  have hlk : meth.locks = false := BodyLoose.notSynchronized Bd
  have hml : c.maxLocals = 8 := hml0
  have hown : s.vm.findClass "com/example/twinshelf/twinshelf/records/MarcFormatDigitsPinLaw" = some m.cls := findClass_of_methodNamed Bd.named
  have hnm := (name_of_methodNamed Bd.named Bd.method).1
  have X0 : Stand p l e room_1 s m #[(.int p0), (.int p1), (.int p2)] below meth c s₁ [] 0 0 := Stand.of_body Bd
  have e0 : s₁.heap = h0 := by rw [← hh, Bd.state]; rfl
  have N0 := Fr.nil n0
  refine own_by (U' := s₁.setTop (mkF m 0 #[.val (.int p0), .val (.int p1), .val (.int p2), .unset, .unset, .unset, .unset, .unset] [])) (fun t k => castTop (ef_0 m p0 p1 p2) k) ?_
  refine own_by (fun _ k => XS.iconst X0.here hx rfl (hb hby at_0) k) ?_
  show own_Fin p.tables e below _ (s₁.setTop (mkF m 1 #[.val (.int p0), .val (.int p1), .val (.int p2), .unset, .unset, .unset, .unset, .unset] [(.int (4 : Int32))]))
  obtain ⟨T1, h1, k1, X1, e1, E1, A1, st1⟩ := newP X0 hx hZ (hw _ (List.mem_of_getElem? (i := 0) rfl)) e0 (g := (mkF m 1 #[.val (.int p0), .val (.int p1), .val (.int p2), .unset, .unset, .unset, .unset, .unset] [(.int (4 : Int32))])) rfl (hb hby at_1) rfl (by decide) (cap := 4) (by decide) (by decide) (by decide) (by decide)
  obtain ⟨b1, g1⟩ : ∃ z, z = h0.size := ⟨_, rfl⟩
  rw [← g1] at A1 st1
  have V1 := own_Byt.new A1 (by decide)
  have g_b1 : n0 ≤ b1 := Nat.le_trans Z0 (Nat.le_of_eq g1.symm)
  have Z1 : n0 ≤ h1.size := Nat.le_trans Z0 E1.1
  refine own_by st1 ?_
  show own_Fin p.tables e below _ (T1.setTop (mkF m 3 #[.val (.int p0), .val (.int p1), .val (.int p2), .unset, .unset, .unset, .unset, .unset] [(.ref b1)]))
  refine own_by (fun _ k => XS.astoreN X1.here hx rfl (hb hby at_3) rfl rfl (l' := #[.val (.int p0), .val (.int p1), .val (.int p2), .val (.ref b1), .unset, .unset, .unset, .unset]) rfl k) ?_
  show own_Fin p.tables e below _ (T1.setTop (mkF m 4 #[.val (.int p0), .val (.int p1), .val (.int p2), .val (.ref b1), .unset, .unset, .unset, .unset] []))
  refine own_by (fun _ k => XS.aloadN X1.here hx rfl (hb hby at_4) rfl rfl k) ?_
  show own_Fin p.tables e below _ (T1.setTop (mkF m 5 #[.val (.int p0), .val (.int p1), .val (.int p2), .val (.ref b1), .unset, .unset, .unset, .unset] [(.ref b1)]))
  refine own_by (fun _ k => XS.iconst X1.here hx rfl (hb hby at_5) k) ?_
  show own_Fin p.tables e below _ (T1.setTop (mkF m 6 #[.val (.int p0), .val (.int p1), .val (.int p2), .val (.ref b1), .unset, .unset, .unset, .unset] [(.int (0 : Int32)), (.ref b1)]))
  refine own_by (fun _ k => XS.iloadN X1.here hx rfl (hb hby at_6) rfl k) ?_
  show own_Fin p.tables e below _ (T1.setTop (mkF m 7 #[.val (.int p0), .val (.int p1), .val (.int p2), .val (.ref b1), .unset, .unset, .unset, .unset] [(.int p0), (.int (0 : Int32)), (.ref b1)]))
  refine own_by (fun _ k => XS.i2b X1.here hx rfl (hb hby at_7) rfl k) ?_
  show own_Fin p.tables e below _ (T1.setTop (mkF m 8 #[.val (.int p0), .val (.int p1), .val (.int p2), .val (.ref b1), .unset, .unset, .unset, .unset] [(.int (p0.toInt8.toInt32)), (.int (0 : Int32)), (.ref b1)]))
  obtain ⟨T2, h2, X2, e2, V2, W2, st2⟩ := own_bst X1 hx hZ e1 V1 (j := (0 : Int32)) (by decide) (by decide) (g := (mkF m 8 #[.val (.int p0), .val (.int p1), .val (.int p2), .val (.ref b1), .unset, .unset, .unset, .unset] [(.int (p0.toInt8.toInt32)), (.int (0 : Int32)), (.ref b1)])) rfl rfl (hb hby at_8)
  have N2 := Fr.snoc X2 N0 g_b1
  have Z2 : n0 ≤ h2.size := Nat.le_trans Z1 (Keep.of_wr W2).1
  refine own_by st2 ?_
  show own_Fin p.tables e below _ (T2.setTop (mkF m 9 #[.val (.int p0), .val (.int p1), .val (.int p2), .val (.ref b1), .unset, .unset, .unset, .unset] []))
  refine own_by (fun _ k => XS.aloadN X2.here hx rfl (hb hby at_9) rfl rfl k) ?_
  show own_Fin p.tables e below _ (T2.setTop (mkF m 10 #[.val (.int p0), .val (.int p1), .val (.int p2), .val (.ref b1), .unset, .unset, .unset, .unset] [(.ref b1)]))
  refine own_by (fun _ k => XS.iconst X2.here hx rfl (hb hby at_10) k) ?_
  show own_Fin p.tables e below _ (T2.setTop (mkF m 11 #[.val (.int p0), .val (.int p1), .val (.int p2), .val (.ref b1), .unset, .unset, .unset, .unset] [(.int (1 : Int32)), (.ref b1)]))
  refine own_by (fun _ k => XS.iloadN X2.here hx rfl (hb hby at_11) rfl k) ?_
  show own_Fin p.tables e below _ (T2.setTop (mkF m 12 #[.val (.int p0), .val (.int p1), .val (.int p2), .val (.ref b1), .unset, .unset, .unset, .unset] [(.int p0), (.int (1 : Int32)), (.ref b1)]))
  refine own_by (fun _ k => XS.bipush X2.here hx rfl (hb hby at_12) k) ?_
  show own_Fin p.tables e below _ (T2.setTop (mkF m 14 #[.val (.int p0), .val (.int p1), .val (.int p2), .val (.ref b1), .unset, .unset, .unset, .unset] [(.int (8 : Int32)), (.int p0), (.int (1 : Int32)), (.ref b1)]))
  refine own_by (fun _ k => XS.ishr X2.here hx rfl (hb hby at_14) rfl k) ?_
  show own_Fin p.tables e below _ (T2.setTop (mkF m 15 #[.val (.int p0), .val (.int p1), .val (.int p2), .val (.ref b1), .unset, .unset, .unset, .unset] [(.int (p0 >>> ((8 : Int32) &&& 31))), (.int (1 : Int32)), (.ref b1)]))
  refine own_by (fun _ k => XS.i2b X2.here hx rfl (hb hby at_15) rfl k) ?_
  show own_Fin p.tables e below _ (T2.setTop (mkF m 16 #[.val (.int p0), .val (.int p1), .val (.int p2), .val (.ref b1), .unset, .unset, .unset, .unset] [(.int ((p0 >>> ((8 : Int32) &&& 31)).toInt8.toInt32)), (.int (1 : Int32)), (.ref b1)]))
  obtain ⟨T3, h3, X3, e3, V3, W3, st3⟩ := own_bst X2 hx hZ e2 V2 (j := (1 : Int32)) (by decide) (by decide) (g := (mkF m 16 #[.val (.int p0), .val (.int p1), .val (.int p2), .val (.ref b1), .unset, .unset, .unset, .unset] [(.int ((p0 >>> ((8 : Int32) &&& 31)).toInt8.toInt32)), (.int (1 : Int32)), (.ref b1)])) rfl rfl (hb hby at_16)
  have N3 := Fr.snoc X3 N2 g_b1
  have Z3 : n0 ≤ h3.size := Nat.le_trans Z2 (Keep.of_wr W3).1
  refine own_by st3 ?_
  show own_Fin p.tables e below _ (T3.setTop (mkF m 17 #[.val (.int p0), .val (.int p1), .val (.int p2), .val (.ref b1), .unset, .unset, .unset, .unset] []))
  refine own_by (fun _ k => XS.aloadN X3.here hx rfl (hb hby at_17) rfl rfl k) ?_
  show own_Fin p.tables e below _ (T3.setTop (mkF m 18 #[.val (.int p0), .val (.int p1), .val (.int p2), .val (.ref b1), .unset, .unset, .unset, .unset] [(.ref b1)]))
  refine own_by (fun _ k => XS.iconst X3.here hx rfl (hb hby at_18) k) ?_
  show own_Fin p.tables e below _ (T3.setTop (mkF m 19 #[.val (.int p0), .val (.int p1), .val (.int p2), .val (.ref b1), .unset, .unset, .unset, .unset] [(.int (2 : Int32)), (.ref b1)]))
  refine own_by (fun _ k => XS.iloadN X3.here hx rfl (hb hby at_19) rfl k) ?_
  show own_Fin p.tables e below _ (T3.setTop (mkF m 20 #[.val (.int p0), .val (.int p1), .val (.int p2), .val (.ref b1), .unset, .unset, .unset, .unset] [(.int p0), (.int (2 : Int32)), (.ref b1)]))
  refine own_by (fun _ k => XS.bipush X3.here hx rfl (hb hby at_20) k) ?_
  show own_Fin p.tables e below _ (T3.setTop (mkF m 22 #[.val (.int p0), .val (.int p1), .val (.int p2), .val (.ref b1), .unset, .unset, .unset, .unset] [(.int (16 : Int32)), (.int p0), (.int (2 : Int32)), (.ref b1)]))
  refine own_by (fun _ k => XS.ishr X3.here hx rfl (hb hby at_22) rfl k) ?_
  show own_Fin p.tables e below _ (T3.setTop (mkF m 23 #[.val (.int p0), .val (.int p1), .val (.int p2), .val (.ref b1), .unset, .unset, .unset, .unset] [(.int (p0 >>> ((16 : Int32) &&& 31))), (.int (2 : Int32)), (.ref b1)]))
  refine own_by (fun _ k => XS.i2b X3.here hx rfl (hb hby at_23) rfl k) ?_
  show own_Fin p.tables e below _ (T3.setTop (mkF m 24 #[.val (.int p0), .val (.int p1), .val (.int p2), .val (.ref b1), .unset, .unset, .unset, .unset] [(.int ((p0 >>> ((16 : Int32) &&& 31)).toInt8.toInt32)), (.int (2 : Int32)), (.ref b1)]))
  obtain ⟨T4, h4, X4, e4, V4, W4, st4⟩ := own_bst X3 hx hZ e3 V3 (j := (2 : Int32)) (by decide) (by decide) (g := (mkF m 24 #[.val (.int p0), .val (.int p1), .val (.int p2), .val (.ref b1), .unset, .unset, .unset, .unset] [(.int ((p0 >>> ((16 : Int32) &&& 31)).toInt8.toInt32)), (.int (2 : Int32)), (.ref b1)])) rfl rfl (hb hby at_24)
  have N4 := Fr.snoc X4 N3 g_b1
  have Z4 : n0 ≤ h4.size := Nat.le_trans Z3 (Keep.of_wr W4).1
  refine own_by st4 ?_
  show own_Fin p.tables e below _ (T4.setTop (mkF m 25 #[.val (.int p0), .val (.int p1), .val (.int p2), .val (.ref b1), .unset, .unset, .unset, .unset] []))
  refine own_by (fun _ k => XS.aloadN X4.here hx rfl (hb hby at_25) rfl rfl k) ?_
  show own_Fin p.tables e below _ (T4.setTop (mkF m 26 #[.val (.int p0), .val (.int p1), .val (.int p2), .val (.ref b1), .unset, .unset, .unset, .unset] [(.ref b1)]))
  refine own_by (fun _ k => XS.iconst X4.here hx rfl (hb hby at_26) k) ?_
  show own_Fin p.tables e below _ (T4.setTop (mkF m 27 #[.val (.int p0), .val (.int p1), .val (.int p2), .val (.ref b1), .unset, .unset, .unset, .unset] [(.int (3 : Int32)), (.ref b1)]))
  refine own_by (fun _ k => XS.iloadN X4.here hx rfl (hb hby at_27) rfl k) ?_
  show own_Fin p.tables e below _ (T4.setTop (mkF m 28 #[.val (.int p0), .val (.int p1), .val (.int p2), .val (.ref b1), .unset, .unset, .unset, .unset] [(.int p0), (.int (3 : Int32)), (.ref b1)]))
  refine own_by (fun _ k => XS.bipush X4.here hx rfl (hb hby at_28) k) ?_
  show own_Fin p.tables e below _ (T4.setTop (mkF m 30 #[.val (.int p0), .val (.int p1), .val (.int p2), .val (.ref b1), .unset, .unset, .unset, .unset] [(.int (24 : Int32)), (.int p0), (.int (3 : Int32)), (.ref b1)]))
  refine own_by (fun _ k => XS.iushr X4.here hx rfl (hb hby at_30) rfl k) ?_
  show own_Fin p.tables e below _ (T4.setTop (mkF m 31 #[.val (.int p0), .val (.int p1), .val (.int p2), .val (.ref b1), .unset, .unset, .unset, .unset] [(.int ((p0.toUInt32 >>> ((24 : Int32) &&& 31).toUInt32).toInt32)), (.int (3 : Int32)), (.ref b1)]))
  refine own_by (fun _ k => XS.i2b X4.here hx rfl (hb hby at_31) rfl k) ?_
  show own_Fin p.tables e below _ (T4.setTop (mkF m 32 #[.val (.int p0), .val (.int p1), .val (.int p2), .val (.ref b1), .unset, .unset, .unset, .unset] [(.int (((p0.toUInt32 >>> ((24 : Int32) &&& 31).toUInt32).toInt32).toInt8.toInt32)), (.int (3 : Int32)), (.ref b1)]))
  obtain ⟨T5, h5, X5, e5, V5, W5, st5⟩ := own_bst X4 hx hZ e4 V4 (j := (3 : Int32)) (by decide) (by decide) (g := (mkF m 32 #[.val (.int p0), .val (.int p1), .val (.int p2), .val (.ref b1), .unset, .unset, .unset, .unset] [(.int (((p0.toUInt32 >>> ((24 : Int32) &&& 31).toUInt32).toInt32).toInt8.toInt32)), (.int (3 : Int32)), (.ref b1)])) rfl rfl (hb hby at_32)
  have N5 := Fr.snoc X5 N4 g_b1
  have Z5 : n0 ≤ h5.size := Nat.le_trans Z4 (Keep.of_wr W5).1
  refine own_by st5 ?_
  show own_Fin p.tables e below _ (T5.setTop (mkF m 33 #[.val (.int p0), .val (.int p1), .val (.int p2), .val (.ref b1), .unset, .unset, .unset, .unset] []))
  refine own_by (fun _ k => XS.iloadN X5.here hx rfl (hb hby at_33) rfl k) ?_
  show own_Fin p.tables e below _ (T5.setTop (mkF m 34 #[.val (.int p0), .val (.int p1), .val (.int p2), .val (.ref b1), .unset, .unset, .unset, .unset] [(.int p1)]))
  refine own_by (X5.ldcInt hx hown (mvT hZ (hw _ (List.mem_of_getElem? (i := 1) rfl))) (g := (mkF m 34 #[.val (.int p0), .val (.int p1), .val (.int p2), .val (.ref b1), .unset, .unset, .unset, .unset] [(.int p1)])) rfl (hb hby at_34)) ?_
  show own_Fin p.tables e below _ (T5.setTop (mkF m 36 #[.val (.int p0), .val (.int p1), .val (.int p2), .val (.ref b1), .unset, .unset, .unset, .unset] [(.int (2147483647 : Int32)), (.int p1)]))
  refine own_by (fun _ k => XS.iand X5.here hx rfl (hb hby at_36) rfl k) ?_
  show own_Fin p.tables e below _ (T5.setTop (mkF m 37 #[.val (.int p0), .val (.int p1), .val (.int p2), .val (.ref b1), .unset, .unset, .unset, .unset] [(.int (p1 &&& (2147483647 : Int32)))]))
  refine own_by (fun _ k => XS.bipush X5.here hx rfl (hb hby at_37) k) ?_
  show own_Fin p.tables e below _ (T5.setTop (mkF m 39 #[.val (.int p0), .val (.int p1), .val (.int p2), .val (.ref b1), .unset, .unset, .unset, .unset] [(.int (6 : Int32)), (.int (p1 &&& (2147483647 : Int32)))]))
  refine own_by (fun _ k => iremM X5 hx rfl (hb hby at_39) rfl (by decide) k) ?_
  show own_Fin p.tables e below _ (T5.setTop (mkF m 40 #[.val (.int p0), .val (.int p1), .val (.int p2), .val (.ref b1), .unset, .unset, .unset, .unset] [(.int ((p1 &&& (2147483647 : Int32)) % (6 : Int32)))]))
  refine own_by (fun _ k => XS.istore X5.here hx rfl (hb hby at_40) rfl (l' := #[.val (.int p0), .val (.int p1), .val (.int p2), .val (.ref b1), .val (.int ((p1 &&& (2147483647 : Int32)) % (6 : Int32))), .unset, .unset, .unset]) rfl k) ?_
  show own_Fin p.tables e below _ (T5.setTop (mkF m 42 #[.val (.int p0), .val (.int p1), .val (.int p2), .val (.ref b1), .val (.int ((p1 &&& (2147483647 : Int32)) % (6 : Int32))), .unset, .unset, .unset] []))
  refine own_by (fun _ k => XS.iloadN X5.here hx rfl (hb hby at_42) rfl k) ?_
  show own_Fin p.tables e below _ (T5.setTop (mkF m 43 #[.val (.int p0), .val (.int p1), .val (.int p2), .val (.ref b1), .val (.int ((p1 &&& (2147483647 : Int32)) % (6 : Int32))), .unset, .unset, .unset] [(.int p2)]))
  refine own_by (X5.ldcInt hx hown (mvT hZ (hw _ (List.mem_of_getElem? (i := 1) rfl))) (g := (mkF m 43 #[.val (.int p0), .val (.int p1), .val (.int p2), .val (.ref b1), .val (.int ((p1 &&& (2147483647 : Int32)) % (6 : Int32))), .unset, .unset, .unset] [(.int p2)])) rfl (hb hby at_43)) ?_
  show own_Fin p.tables e below _ (T5.setTop (mkF m 45 #[.val (.int p0), .val (.int p1), .val (.int p2), .val (.ref b1), .val (.int ((p1 &&& (2147483647 : Int32)) % (6 : Int32))), .unset, .unset, .unset] [(.int (2147483647 : Int32)), (.int p2)]))
  refine own_by (fun _ k => XS.iand X5.here hx rfl (hb hby at_45) rfl k) ?_
  show own_Fin p.tables e below _ (T5.setTop (mkF m 46 #[.val (.int p0), .val (.int p1), .val (.int p2), .val (.ref b1), .val (.int ((p1 &&& (2147483647 : Int32)) % (6 : Int32))), .unset, .unset, .unset] [(.int (p2 &&& (2147483647 : Int32)))]))
  refine own_by (fun _ k => XS.iconst X5.here hx rfl (hb hby at_46) k) ?_
  show own_Fin p.tables e below _ (T5.setTop (mkF m 47 #[.val (.int p0), .val (.int p1), .val (.int p2), .val (.ref b1), .val (.int ((p1 &&& (2147483647 : Int32)) % (6 : Int32))), .unset, .unset, .unset] [(.int (5 : Int32)), (.int (p2 &&& (2147483647 : Int32)))]))
  refine own_by (fun _ k => iremM X5 hx rfl (hb hby at_47) rfl (by decide) k) ?_
  show own_Fin p.tables e below _ (T5.setTop (mkF m 48 #[.val (.int p0), .val (.int p1), .val (.int p2), .val (.ref b1), .val (.int ((p1 &&& (2147483647 : Int32)) % (6 : Int32))), .unset, .unset, .unset] [(.int ((p2 &&& (2147483647 : Int32)) % (5 : Int32)))]))
  refine own_by (fun _ k => XS.istore X5.here hx rfl (hb hby at_48) rfl (l' := #[.val (.int p0), .val (.int p1), .val (.int p2), .val (.ref b1), .val (.int ((p1 &&& (2147483647 : Int32)) % (6 : Int32))), .val (.int ((p2 &&& (2147483647 : Int32)) % (5 : Int32))), .unset, .unset]) rfl k) ?_
  show own_Fin p.tables e below _ (T5.setTop (mkF m 50 #[.val (.int p0), .val (.int p1), .val (.int p2), .val (.ref b1), .val (.int ((p1 &&& (2147483647 : Int32)) % (6 : Int32))), .val (.int ((p2 &&& (2147483647 : Int32)) % (5 : Int32))), .unset, .unset] []))
  have m1 := c_mask p1 2147483647 31 (by decide) (by decide)
  have m2 := c_mask p2 2147483647 31 (by decide) (by decide)
  have i1 := (c_irem (p1 &&& (2147483647 : Int32)) (6 : Int32) 6 (by decide)).1 (by omega)
  have i2 := (c_irem (p2 &&& (2147483647 : Int32)) (5 : Int32) 5 (by decide)).1 (by omega)
  refine own_by (fun _ k => XS.aloadN X5.here hx rfl (hb hby at_50) rfl rfl k) ?_
  show own_Fin p.tables e below _ (T5.setTop (mkF m 51 #[.val (.int p0), .val (.int p1), .val (.int p2), .val (.ref b1), .val (.int ((p1 &&& (2147483647 : Int32)) % (6 : Int32))), .val (.int ((p2 &&& (2147483647 : Int32)) % (5 : Int32))), .unset, .unset] [(.ref b1)]))
  refine own_by (fun _ k => XS.iconst X5.here hx rfl (hb hby at_51) k) ?_
  show own_Fin p.tables e below _ (T5.setTop (mkF m 52 #[.val (.int p0), .val (.int p1), .val (.int p2), .val (.ref b1), .val (.int ((p1 &&& (2147483647 : Int32)) % (6 : Int32))), .val (.int ((p2 &&& (2147483647 : Int32)) % (5 : Int32))), .unset, .unset] [(.int (0 : Int32)), (.ref b1)]))
  refine own_by (fun _ k => XS.iload X5.here hx rfl (hb hby at_52) rfl k) ?_
  show own_Fin p.tables e below _ (T5.setTop (mkF m 54 #[.val (.int p0), .val (.int p1), .val (.int p2), .val (.ref b1), .val (.int ((p1 &&& (2147483647 : Int32)) % (6 : Int32))), .val (.int ((p2 &&& (2147483647 : Int32)) % (5 : Int32))), .unset, .unset] [(.int ((p1 &&& (2147483647 : Int32)) % (6 : Int32))), (.int (0 : Int32)), (.ref b1)]))
  refine own_by (fun _ k => XS.iload X5.here hx rfl (hb hby at_54) rfl k) ?_
  show own_Fin p.tables e below _ (T5.setTop (mkF m 56 #[.val (.int p0), .val (.int p1), .val (.int p2), .val (.ref b1), .val (.int ((p1 &&& (2147483647 : Int32)) % (6 : Int32))), .val (.int ((p2 &&& (2147483647 : Int32)) % (5 : Int32))), .unset, .unset] [(.int ((p2 &&& (2147483647 : Int32)) % (5 : Int32))), (.int ((p1 &&& (2147483647 : Int32)) % (6 : Int32))), (.int (0 : Int32)), (.ref b1)]))
  obtain ⟨_, _, ⟨T6, L6, k6, n6⟩, -, X6, ⟨Lc6, hQ6, l6, y6, z6⟩, st6⟩ := Jvm.LawKit.callS X5 hx (y := (⟨"com/example/twinshelf/twinshelf/records/MarcFormatDigitsPinLaw", "ok", "([BIII)Z"⟩ : MethodName)) hown (mvT hZ (hw _ (List.mem_of_getElem? (i := 2) rfl))) (mvT hZ (hw _ (List.mem_of_getElem? (i := 3) rfl))) (mvT hZ (hw _ (List.mem_of_getElem? (i := 4) rfl))) (mvT hZ (hw _ (List.mem_of_getElem? (i := 5) rfl))) (by decide) (backOf (W := 0) (rm1 l Z a0 hw [] b1 (0 : Int32) ((p1 &&& (2147483647 : Int32)) % (6 : Int32)) ((p2 &&& (2147483647 : Int32)) % (5 : Int32)) (4 : Int32) ((own_upd (own_upd (own_upd (own_upd (fun _ => (0 : Int32)) (0 : Int32) ((p0.toInt8.toInt32).toInt8.toInt32)) (1 : Int32) (((p0 >>> ((8 : Int32) &&& 31)).toInt8.toInt32).toInt8.toInt32)) (2 : Int32) (((p0 >>> ((16 : Int32) &&& 31)).toInt8.toInt32).toInt8.toInt32)) (3 : Int32) ((((p0.toUInt32 >>> ((24 : Int32) &&& 31).toUInt32).toInt32).toInt8.toInt32).toInt8.toInt32))) h5 n0 Z5 V5 (by decide) (by decide)) hZ (hw _ (List.mem_of_getElem? (i := 5) rfl)) (hw _ (List.mem_of_getElem? (i := 4) rfl)) (by decide) (by decide)) (g := (mkF m 56 #[.val (.int p0), .val (.int p1), .val (.int p2), .val (.ref b1), .val (.int ((p1 &&& (2147483647 : Int32)) % (6 : Int32))), .val (.int ((p2 &&& (2147483647 : Int32)) % (5 : Int32))), .unset, .unset] [(.int ((p2 &&& (2147483647 : Int32)) % (5 : Int32))), (.int ((p1 &&& (2147483647 : Int32)) % (6 : Int32))), (.int (0 : Int32)), (.ref b1)])) rfl (by rw [hml]; rfl) (argsL := [(.ref b1), (.int (0 : Int32)), (.int ((p1 &&& (2147483647 : Int32)) % (6 : Int32))), (.int ((p2 &&& (2147483647 : Int32)) % (5 : Int32)))]) (rest := []) (lenOf pd___BIII_Z rfl) rfl (by show 2 * 0 + _ ≤ _; exact Nat.le_of_eq rfl) (hb hby at_56) (fun _ _ => ⟨rfl, e5, (by decide : 1 + 0 ≤ _), (by decide : 4 + 0 ≤ _)⟩)
  dsimp only [Pt.U, Pt.locs, Pt.cells, Pt.slots] at X6 l6 y6 z6 st6 hQ6
  subst l6 y6 z6
  obtain ⟨rfl, N6q, e6⟩ := hQ6
  have N6 := Fr.app N5 N6q
  refine own_by st6 ?_
  show own_Fin p.tables e below _ (T6.setTop (mkF m 59 #[.val (.int p0), .val (.int p1), .val (.int p2), .val (.ref b1), .val (.int ((p1 &&& (2147483647 : Int32)) % (6 : Int32))), .val (.int ((p2 &&& (2147483647 : Int32)) % (5 : Int32))), .unset, .unset] [(.int (f1 (4 : Int32) (own_upd (own_upd (own_upd (own_upd (fun _ => (0 : Int32)) (0 : Int32) ((p0.toInt8.toInt32).toInt8.toInt32)) (1 : Int32) (((p0 >>> ((8 : Int32) &&& 31)).toInt8.toInt32).toInt8.toInt32)) (2 : Int32) (((p0 >>> ((16 : Int32) &&& 31)).toInt8.toInt32).toInt8.toInt32)) (3 : Int32) ((((p0.toUInt32 >>> ((24 : Int32) &&& 31).toUInt32).toInt32).toInt8.toInt32).toInt8.toInt32)) (0 : Int32) ((p1 &&& (2147483647 : Int32)) % (6 : Int32)) ((p2 &&& (2147483647 : Int32)) % (5 : Int32))))]))
  by_cases hc7 : (f1 (4 : Int32) (own_upd (own_upd (own_upd (own_upd (fun _ => (0 : Int32)) (0 : Int32) ((p0.toInt8.toInt32).toInt8.toInt32)) (1 : Int32) (((p0 >>> ((8 : Int32) &&& 31)).toInt8.toInt32).toInt8.toInt32)) (2 : Int32) (((p0 >>> ((16 : Int32) &&& 31)).toInt8.toInt32).toInt8.toInt32)) (3 : Int32) ((((p0.toUInt32 >>> ((24 : Int32) &&& 31).toUInt32).toInt32).toInt8.toInt32).toInt8.toInt32)) (0 : Int32) ((p1 &&& (2147483647 : Int32)) % (6 : Int32)) ((p2 &&& (2147483647 : Int32)) % (5 : Int32))) = (0 : Int32)
  · refine own_by (fun _ k => XS.ifYes X6.here hx rfl (pc0 := 59) (pc' := 102) rfl (hb hby at_59) rfl ((if0 _ _).trans (teq hc7).1) (by decide) (by decide) k) ?_
    show own_Fin p.tables e below _ (T6.setTop (mkF m 102 #[.val (.int p0), .val (.int p1), .val (.int p2), .val (.ref b1), .val (.int ((p1 &&& (2147483647 : Int32)) % (6 : Int32))), .val (.int ((p2 &&& (2147483647 : Int32)) % (5 : Int32))), .unset, .unset] []))
    refine own_by (fun _ k => XS.iconst X6.here hx rfl (hb hby at_102) k) ?_
    show own_Fin p.tables e below _ (T6.setTop (mkF m 103 #[.val (.int p0), .val (.int p1), .val (.int p2), .val (.ref b1), .val (.int ((p1 &&& (2147483647 : Int32)) % (6 : Int32))), .val (.int ((p2 &&& (2147483647 : Int32)) % (5 : Int32))), .unset, .unset] [(.int (0 : Int32))]))
    refine own_by (fun _ k => XS.istore X6.here hx rfl (hb hby at_103) rfl (l' := #[.val (.int p0), .val (.int p1), .val (.int p2), .val (.ref b1), .val (.int ((p1 &&& (2147483647 : Int32)) % (6 : Int32))), .val (.int ((p2 &&& (2147483647 : Int32)) % (5 : Int32))), .val (.int (0 : Int32)), .unset]) rfl k) ?_
    show own_Fin p.tables e below _ (T6.setTop (mkF m 105 #[.val (.int p0), .val (.int p1), .val (.int p2), .val (.ref b1), .val (.int ((p1 &&& (2147483647 : Int32)) % (6 : Int32))), .val (.int ((p2 &&& (2147483647 : Int32)) % (5 : Int32))), .val (.int (0 : Int32)), .unset] []))
    refine own_by (fun _ k => XS.aloadN X6.here hx rfl (hb hby at_105) rfl rfl k) ?_
    show own_Fin p.tables e below _ (T6.setTop (mkF m 106 #[.val (.int p0), .val (.int p1), .val (.int p2), .val (.ref b1), .val (.int ((p1 &&& (2147483647 : Int32)) % (6 : Int32))), .val (.int ((p2 &&& (2147483647 : Int32)) % (5 : Int32))), .val (.int (0 : Int32)), .unset] [(.ref b1)]))
    refine own_by (fun _ k => XS.iload X6.here hx rfl (hb hby at_106) rfl k) ?_
    show own_Fin p.tables e below _ (T6.setTop (mkF m 108 #[.val (.int p0), .val (.int p1), .val (.int p2), .val (.ref b1), .val (.int ((p1 &&& (2147483647 : Int32)) % (6 : Int32))), .val (.int ((p2 &&& (2147483647 : Int32)) % (5 : Int32))), .val (.int (0 : Int32)), .unset] [(.int ((p1 &&& (2147483647 : Int32)) % (6 : Int32))), (.ref b1)]))
    refine own_by (fun _ k => XS.iload X6.here hx rfl (hb hby at_108) rfl k) ?_
    show own_Fin p.tables e below _ (T6.setTop (mkF m 110 #[.val (.int p0), .val (.int p1), .val (.int p2), .val (.ref b1), .val (.int ((p1 &&& (2147483647 : Int32)) % (6 : Int32))), .val (.int ((p2 &&& (2147483647 : Int32)) % (5 : Int32))), .val (.int (0 : Int32)), .unset] [(.int ((p2 &&& (2147483647 : Int32)) % (5 : Int32))), (.int ((p1 &&& (2147483647 : Int32)) % (6 : Int32))), (.ref b1)]))
    obtain ⟨_, _, ⟨T8, L8, k8, n8⟩, -, X8, ⟨Lc8, hQ8, l8, y8, z8⟩, st8⟩ := Jvm.LawKit.callS X6 hx (y := (⟨"com/example/twinshelf/twinshelf/records/MarcFormat", "digits", "([BII)Z"⟩ : MethodName)) hown (mvT hZ (hw _ (List.mem_of_getElem? (i := 6) rfl))) (mvT hZ (hw _ (List.mem_of_getElem? (i := 7) rfl))) (mvT hZ (hw _ (List.mem_of_getElem? (i := 8) rfl))) (mvT hZ (hw _ (List.mem_of_getElem? (i := 9) rfl))) (by decide) (backOf (W := 0) (rm2 l Z a0 hw [] b1 ((p1 &&& (2147483647 : Int32)) % (6 : Int32)) ((p2 &&& (2147483647 : Int32)) % (5 : Int32)) (4 : Int32) ((own_upd (own_upd (own_upd (own_upd (fun _ => (0 : Int32)) (0 : Int32) ((p0.toInt8.toInt32).toInt8.toInt32)) (1 : Int32) (((p0 >>> ((8 : Int32) &&& 31)).toInt8.toInt32).toInt8.toInt32)) (2 : Int32) (((p0 >>> ((16 : Int32) &&& 31)).toInt8.toInt32).toInt8.toInt32)) (3 : Int32) ((((p0.toUInt32 >>> ((24 : Int32) &&& 31).toUInt32).toInt32).toInt8.toInt32).toInt8.toInt32))) h5 n0 Z5 V5 (by omega) (by omega) (by omega) (by decide)) hZ (hw _ (List.mem_of_getElem? (i := 9) rfl)) (hw _ (List.mem_of_getElem? (i := 8) rfl)) (by decide) (by decide)) (g := (mkF m 110 #[.val (.int p0), .val (.int p1), .val (.int p2), .val (.ref b1), .val (.int ((p1 &&& (2147483647 : Int32)) % (6 : Int32))), .val (.int ((p2 &&& (2147483647 : Int32)) % (5 : Int32))), .val (.int (0 : Int32)), .unset] [(.int ((p2 &&& (2147483647 : Int32)) % (5 : Int32))), (.int ((p1 &&& (2147483647 : Int32)) % (6 : Int32))), (.ref b1)])) rfl (by rw [hml]; rfl) (argsL := [(.ref b1), (.int ((p1 &&& (2147483647 : Int32)) % (6 : Int32))), (.int ((p2 &&& (2147483647 : Int32)) % (5 : Int32)))]) (rest := []) (lenOf pd___BII_Z rfl) rfl (by show 2 * 0 + _ ≤ _; exact Nat.le_of_eq rfl) (hb hby at_110) (fun _ _ => ⟨rfl, e6, (by decide : 1 + 0 ≤ _), (by decide : 4 + 0 ≤ _)⟩)
    dsimp only [Pt.U, Pt.locs, Pt.cells, Pt.slots] at X8 l8 y8 z8 st8 hQ8
    subst l8 y8 z8
    obtain ⟨rfl, N8q, e8⟩ := hQ8
    have N8 := Fr.app N6 N8q
    refine own_by st8 ?_
    show own_Fin p.tables e below _ (T8.setTop (mkF m 113 #[.val (.int p0), .val (.int p1), .val (.int p2), .val (.ref b1), .val (.int ((p1 &&& (2147483647 : Int32)) % (6 : Int32))), .val (.int ((p2 &&& (2147483647 : Int32)) % (5 : Int32))), .val (.int (0 : Int32)), .unset] [(.int (f2 (4 : Int32) (own_upd (own_upd (own_upd (own_upd (fun _ => (0 : Int32)) (0 : Int32) ((p0.toInt8.toInt32).toInt8.toInt32)) (1 : Int32) (((p0 >>> ((8 : Int32) &&& 31)).toInt8.toInt32).toInt8.toInt32)) (2 : Int32) (((p0 >>> ((16 : Int32) &&& 31)).toInt8.toInt32).toInt8.toInt32)) (3 : Int32) ((((p0.toUInt32 >>> ((24 : Int32) &&& 31).toUInt32).toInt32).toInt8.toInt32).toInt8.toInt32)) ((p1 &&& (2147483647 : Int32)) % (6 : Int32)) ((p2 &&& (2147483647 : Int32)) % (5 : Int32))))]))
    refine own_by (fun _ k => XS.istore X8.here hx rfl (hb hby at_113) rfl (l' := #[.val (.int p0), .val (.int p1), .val (.int p2), .val (.ref b1), .val (.int ((p1 &&& (2147483647 : Int32)) % (6 : Int32))), .val (.int ((p2 &&& (2147483647 : Int32)) % (5 : Int32))), .val (.int (0 : Int32)), .val (.int (f2 (4 : Int32) (own_upd (own_upd (own_upd (own_upd (fun _ => (0 : Int32)) (0 : Int32) ((p0.toInt8.toInt32).toInt8.toInt32)) (1 : Int32) (((p0 >>> ((8 : Int32) &&& 31)).toInt8.toInt32).toInt8.toInt32)) (2 : Int32) (((p0 >>> ((16 : Int32) &&& 31)).toInt8.toInt32).toInt8.toInt32)) (3 : Int32) ((((p0.toUInt32 >>> ((24 : Int32) &&& 31).toUInt32).toInt32).toInt8.toInt32).toInt8.toInt32)) ((p1 &&& (2147483647 : Int32)) % (6 : Int32)) ((p2 &&& (2147483647 : Int32)) % (5 : Int32))))]) rfl k) ?_
    show own_Fin p.tables e below _ (T8.setTop (mkF m 115 #[.val (.int p0), .val (.int p1), .val (.int p2), .val (.ref b1), .val (.int ((p1 &&& (2147483647 : Int32)) % (6 : Int32))), .val (.int ((p2 &&& (2147483647 : Int32)) % (5 : Int32))), .val (.int (0 : Int32)), .val (.int (f2 (4 : Int32) (own_upd (own_upd (own_upd (own_upd (fun _ => (0 : Int32)) (0 : Int32) ((p0.toInt8.toInt32).toInt8.toInt32)) (1 : Int32) (((p0 >>> ((8 : Int32) &&& 31)).toInt8.toInt32).toInt8.toInt32)) (2 : Int32) (((p0 >>> ((16 : Int32) &&& 31)).toInt8.toInt32).toInt8.toInt32)) (3 : Int32) ((((p0.toUInt32 >>> ((24 : Int32) &&& 31).toUInt32).toInt32).toInt8.toInt32).toInt8.toInt32)) ((p1 &&& (2147483647 : Int32)) % (6 : Int32)) ((p2 &&& (2147483647 : Int32)) % (5 : Int32))))] []))
    refine own_by (fun _ k => XS.iload X8.here hx rfl (hb hby at_115) rfl k) ?_
    show own_Fin p.tables e below _ (T8.setTop (mkF m 117 #[.val (.int p0), .val (.int p1), .val (.int p2), .val (.ref b1), .val (.int ((p1 &&& (2147483647 : Int32)) % (6 : Int32))), .val (.int ((p2 &&& (2147483647 : Int32)) % (5 : Int32))), .val (.int (0 : Int32)), .val (.int (f2 (4 : Int32) (own_upd (own_upd (own_upd (own_upd (fun _ => (0 : Int32)) (0 : Int32) ((p0.toInt8.toInt32).toInt8.toInt32)) (1 : Int32) (((p0 >>> ((8 : Int32) &&& 31)).toInt8.toInt32).toInt8.toInt32)) (2 : Int32) (((p0 >>> ((16 : Int32) &&& 31)).toInt8.toInt32).toInt8.toInt32)) (3 : Int32) ((((p0.toUInt32 >>> ((24 : Int32) &&& 31).toUInt32).toInt32).toInt8.toInt32).toInt8.toInt32)) ((p1 &&& (2147483647 : Int32)) % (6 : Int32)) ((p2 &&& (2147483647 : Int32)) % (5 : Int32))))] [(.int (f2 (4 : Int32) (own_upd (own_upd (own_upd (own_upd (fun _ => (0 : Int32)) (0 : Int32) ((p0.toInt8.toInt32).toInt8.toInt32)) (1 : Int32) (((p0 >>> ((8 : Int32) &&& 31)).toInt8.toInt32).toInt8.toInt32)) (2 : Int32) (((p0 >>> ((16 : Int32) &&& 31)).toInt8.toInt32).toInt8.toInt32)) (3 : Int32) ((((p0.toUInt32 >>> ((24 : Int32) &&& 31).toUInt32).toInt32).toInt8.toInt32).toInt8.toInt32)) ((p1 &&& (2147483647 : Int32)) % (6 : Int32)) ((p2 &&& (2147483647 : Int32)) % (5 : Int32))))]))
    refine own_by (fun _ k => XS.iload X8.here hx rfl (hb hby at_117) rfl k) ?_
    show own_Fin p.tables e below _ (T8.setTop (mkF m 119 #[.val (.int p0), .val (.int p1), .val (.int p2), .val (.ref b1), .val (.int ((p1 &&& (2147483647 : Int32)) % (6 : Int32))), .val (.int ((p2 &&& (2147483647 : Int32)) % (5 : Int32))), .val (.int (0 : Int32)), .val (.int (f2 (4 : Int32) (own_upd (own_upd (own_upd (own_upd (fun _ => (0 : Int32)) (0 : Int32) ((p0.toInt8.toInt32).toInt8.toInt32)) (1 : Int32) (((p0 >>> ((8 : Int32) &&& 31)).toInt8.toInt32).toInt8.toInt32)) (2 : Int32) (((p0 >>> ((16 : Int32) &&& 31)).toInt8.toInt32).toInt8.toInt32)) (3 : Int32) ((((p0.toUInt32 >>> ((24 : Int32) &&& 31).toUInt32).toInt32).toInt8.toInt32).toInt8.toInt32)) ((p1 &&& (2147483647 : Int32)) % (6 : Int32)) ((p2 &&& (2147483647 : Int32)) % (5 : Int32))))] [(.int (0 : Int32)), (.int (f2 (4 : Int32) (own_upd (own_upd (own_upd (own_upd (fun _ => (0 : Int32)) (0 : Int32) ((p0.toInt8.toInt32).toInt8.toInt32)) (1 : Int32) (((p0 >>> ((8 : Int32) &&& 31)).toInt8.toInt32).toInt8.toInt32)) (2 : Int32) (((p0 >>> ((16 : Int32) &&& 31)).toInt8.toInt32).toInt8.toInt32)) (3 : Int32) ((((p0.toUInt32 >>> ((24 : Int32) &&& 31).toUInt32).toInt32).toInt8.toInt32).toInt8.toInt32)) ((p1 &&& (2147483647 : Int32)) % (6 : Int32)) ((p2 &&& (2147483647 : Int32)) % (5 : Int32))))]))
    by_cases hc9 : (f2 (4 : Int32) (own_upd (own_upd (own_upd (own_upd (fun _ => (0 : Int32)) (0 : Int32) ((p0.toInt8.toInt32).toInt8.toInt32)) (1 : Int32) (((p0 >>> ((8 : Int32) &&& 31)).toInt8.toInt32).toInt8.toInt32)) (2 : Int32) (((p0 >>> ((16 : Int32) &&& 31)).toInt8.toInt32).toInt8.toInt32)) (3 : Int32) ((((p0.toUInt32 >>> ((24 : Int32) &&& 31).toUInt32).toInt32).toInt8.toInt32).toInt8.toInt32)) ((p1 &&& (2147483647 : Int32)) % (6 : Int32)) ((p2 &&& (2147483647 : Int32)) % (5 : Int32))) = (0 : Int32)
    · refine own_by (fun _ k => XS.icmpNo X8.here hx rfl (hb hby at_119) rfl (teq hc9).2 k) ?_
      show own_Fin p.tables e below _ (T8.setTop (mkF m 122 #[.val (.int p0), .val (.int p1), .val (.int p2), .val (.ref b1), .val (.int ((p1 &&& (2147483647 : Int32)) % (6 : Int32))), .val (.int ((p2 &&& (2147483647 : Int32)) % (5 : Int32))), .val (.int (0 : Int32)), .val (.int (f2 (4 : Int32) (own_upd (own_upd (own_upd (own_upd (fun _ => (0 : Int32)) (0 : Int32) ((p0.toInt8.toInt32).toInt8.toInt32)) (1 : Int32) (((p0 >>> ((8 : Int32) &&& 31)).toInt8.toInt32).toInt8.toInt32)) (2 : Int32) (((p0 >>> ((16 : Int32) &&& 31)).toInt8.toInt32).toInt8.toInt32)) (3 : Int32) ((((p0.toUInt32 >>> ((24 : Int32) &&& 31).toUInt32).toInt32).toInt8.toInt32).toInt8.toInt32)) ((p1 &&& (2147483647 : Int32)) % (6 : Int32)) ((p2 &&& (2147483647 : Int32)) % (5 : Int32))))] []))
      refine own_by (fun _ k => XS.iconst X8.here hx rfl (hb hby at_122) k) ?_
      show own_Fin p.tables e below _ (T8.setTop (mkF m 123 #[.val (.int p0), .val (.int p1), .val (.int p2), .val (.ref b1), .val (.int ((p1 &&& (2147483647 : Int32)) % (6 : Int32))), .val (.int ((p2 &&& (2147483647 : Int32)) % (5 : Int32))), .val (.int (0 : Int32)), .val (.int (f2 (4 : Int32) (own_upd (own_upd (own_upd (own_upd (fun _ => (0 : Int32)) (0 : Int32) ((p0.toInt8.toInt32).toInt8.toInt32)) (1 : Int32) (((p0 >>> ((8 : Int32) &&& 31)).toInt8.toInt32).toInt8.toInt32)) (2 : Int32) (((p0 >>> ((16 : Int32) &&& 31)).toInt8.toInt32).toInt8.toInt32)) (3 : Int32) ((((p0.toUInt32 >>> ((24 : Int32) &&& 31).toUInt32).toInt32).toInt8.toInt32).toInt8.toInt32)) ((p1 &&& (2147483647 : Int32)) % (6 : Int32)) ((p2 &&& (2147483647 : Int32)) % (5 : Int32))))] [(.int (1 : Int32))]))
      refine own_by (fun _ k => XS.goto X8.here hx rfl (pc0 := 123) (pc' := 127) rfl (hb hby at_123) (by decide) (by decide) k) ?_
      show own_Fin p.tables e below _ (T8.setTop (mkF m 127 #[.val (.int p0), .val (.int p1), .val (.int p2), .val (.ref b1), .val (.int ((p1 &&& (2147483647 : Int32)) % (6 : Int32))), .val (.int ((p2 &&& (2147483647 : Int32)) % (5 : Int32))), .val (.int (0 : Int32)), .val (.int (f2 (4 : Int32) (own_upd (own_upd (own_upd (own_upd (fun _ => (0 : Int32)) (0 : Int32) ((p0.toInt8.toInt32).toInt8.toInt32)) (1 : Int32) (((p0 >>> ((8 : Int32) &&& 31)).toInt8.toInt32).toInt8.toInt32)) (2 : Int32) (((p0 >>> ((16 : Int32) &&& 31)).toInt8.toInt32).toInt8.toInt32)) (3 : Int32) ((((p0.toUInt32 >>> ((24 : Int32) &&& 31).toUInt32).toInt32).toInt8.toInt32).toInt8.toInt32)) ((p1 &&& (2147483647 : Int32)) % (6 : Int32)) ((p2 &&& (2147483647 : Int32)) % (5 : Int32))))] [(.int (1 : Int32))]))
      have ef : f0 p0 p1 p2 = (1 : Int32) := by unfold f0; rw [if_pos hc7, if_pos hc9]
      exact own_retN X8 hx (t := .boolean) Bd.returns hlk (by simp) (hb hby at_127) (by decide) (by decide) ⟨by rw [ef]; rfl, N8⟩
    · refine own_by (fun _ k => XS.icmpYes X8.here hx rfl (pc0 := 119) (pc' := 126) rfl (hb hby at_119) rfl (feq hc9).2 (by decide) (by decide) k) ?_
      show own_Fin p.tables e below _ (T8.setTop (mkF m 126 #[.val (.int p0), .val (.int p1), .val (.int p2), .val (.ref b1), .val (.int ((p1 &&& (2147483647 : Int32)) % (6 : Int32))), .val (.int ((p2 &&& (2147483647 : Int32)) % (5 : Int32))), .val (.int (0 : Int32)), .val (.int (f2 (4 : Int32) (own_upd (own_upd (own_upd (own_upd (fun _ => (0 : Int32)) (0 : Int32) ((p0.toInt8.toInt32).toInt8.toInt32)) (1 : Int32) (((p0 >>> ((8 : Int32) &&& 31)).toInt8.toInt32).toInt8.toInt32)) (2 : Int32) (((p0 >>> ((16 : Int32) &&& 31)).toInt8.toInt32).toInt8.toInt32)) (3 : Int32) ((((p0.toUInt32 >>> ((24 : Int32) &&& 31).toUInt32).toInt32).toInt8.toInt32).toInt8.toInt32)) ((p1 &&& (2147483647 : Int32)) % (6 : Int32)) ((p2 &&& (2147483647 : Int32)) % (5 : Int32))))] []))
      refine own_by (fun _ k => XS.iconst X8.here hx rfl (hb hby at_126) k) ?_
      show own_Fin p.tables e below _ (T8.setTop (mkF m 127 #[.val (.int p0), .val (.int p1), .val (.int p2), .val (.ref b1), .val (.int ((p1 &&& (2147483647 : Int32)) % (6 : Int32))), .val (.int ((p2 &&& (2147483647 : Int32)) % (5 : Int32))), .val (.int (0 : Int32)), .val (.int (f2 (4 : Int32) (own_upd (own_upd (own_upd (own_upd (fun _ => (0 : Int32)) (0 : Int32) ((p0.toInt8.toInt32).toInt8.toInt32)) (1 : Int32) (((p0 >>> ((8 : Int32) &&& 31)).toInt8.toInt32).toInt8.toInt32)) (2 : Int32) (((p0 >>> ((16 : Int32) &&& 31)).toInt8.toInt32).toInt8.toInt32)) (3 : Int32) ((((p0.toUInt32 >>> ((24 : Int32) &&& 31).toUInt32).toInt32).toInt8.toInt32).toInt8.toInt32)) ((p1 &&& (2147483647 : Int32)) % (6 : Int32)) ((p2 &&& (2147483647 : Int32)) % (5 : Int32))))] [(.int (0 : Int32))]))
      have ef : f0 p0 p1 p2 = (0 : Int32) := by unfold f0; rw [if_pos hc7, if_neg hc9]
      exact own_retN X8 hx (t := .boolean) Bd.returns hlk (by simp) (hb hby at_127) (by decide) (by decide) ⟨by rw [ef]; rfl, N8⟩
  · refine own_by (fun _ k => XS.ifNo X6.here hx rfl (hb hby at_59) rfl ((if0 _ _).trans (feq hc7).1) k) ?_
    show own_Fin p.tables e below _ (T6.setTop (mkF m 62 #[.val (.int p0), .val (.int p1), .val (.int p2), .val (.ref b1), .val (.int ((p1 &&& (2147483647 : Int32)) % (6 : Int32))), .val (.int ((p2 &&& (2147483647 : Int32)) % (5 : Int32))), .unset, .unset] []))
    refine own_by (fun _ k => XS.aloadN X6.here hx rfl (hb hby at_62) rfl rfl k) ?_
    show own_Fin p.tables e below _ (T6.setTop (mkF m 63 #[.val (.int p0), .val (.int p1), .val (.int p2), .val (.ref b1), .val (.int ((p1 &&& (2147483647 : Int32)) % (6 : Int32))), .val (.int ((p2 &&& (2147483647 : Int32)) % (5 : Int32))), .unset, .unset] [(.ref b1)]))
    refine own_by (fun _ k => XS.iconst X6.here hx rfl (hb hby at_63) k) ?_
    show own_Fin p.tables e below _ (T6.setTop (mkF m 64 #[.val (.int p0), .val (.int p1), .val (.int p2), .val (.ref b1), .val (.int ((p1 &&& (2147483647 : Int32)) % (6 : Int32))), .val (.int ((p2 &&& (2147483647 : Int32)) % (5 : Int32))), .unset, .unset] [(.int (1 : Int32)), (.ref b1)]))
    refine own_by (fun _ k => XS.iload X6.here hx rfl (hb hby at_64) rfl k) ?_
    show own_Fin p.tables e below _ (T6.setTop (mkF m 66 #[.val (.int p0), .val (.int p1), .val (.int p2), .val (.ref b1), .val (.int ((p1 &&& (2147483647 : Int32)) % (6 : Int32))), .val (.int ((p2 &&& (2147483647 : Int32)) % (5 : Int32))), .unset, .unset] [(.int ((p1 &&& (2147483647 : Int32)) % (6 : Int32))), (.int (1 : Int32)), (.ref b1)]))
    refine own_by (fun _ k => XS.iload X6.here hx rfl (hb hby at_66) rfl k) ?_
    show own_Fin p.tables e below _ (T6.setTop (mkF m 68 #[.val (.int p0), .val (.int p1), .val (.int p2), .val (.ref b1), .val (.int ((p1 &&& (2147483647 : Int32)) % (6 : Int32))), .val (.int ((p2 &&& (2147483647 : Int32)) % (5 : Int32))), .unset, .unset] [(.int ((p2 &&& (2147483647 : Int32)) % (5 : Int32))), (.int ((p1 &&& (2147483647 : Int32)) % (6 : Int32))), (.int (1 : Int32)), (.ref b1)]))
    obtain ⟨_, _, ⟨T10, L10, k10, n10⟩, -, X10, ⟨Lc10, hQ10, l10, y10, z10⟩, st10⟩ := Jvm.LawKit.callS X6 hx (y := (⟨"com/example/twinshelf/twinshelf/records/MarcFormatDigitsPinLaw", "ok", "([BIII)Z"⟩ : MethodName)) hown (mvT hZ (hw _ (List.mem_of_getElem? (i := 2) rfl))) (mvT hZ (hw _ (List.mem_of_getElem? (i := 3) rfl))) (mvT hZ (hw _ (List.mem_of_getElem? (i := 4) rfl))) (mvT hZ (hw _ (List.mem_of_getElem? (i := 5) rfl))) (by decide) (backOf (W := 0) (rm1 l Z a0 hw [] b1 (1 : Int32) ((p1 &&& (2147483647 : Int32)) % (6 : Int32)) ((p2 &&& (2147483647 : Int32)) % (5 : Int32)) (4 : Int32) ((own_upd (own_upd (own_upd (own_upd (fun _ => (0 : Int32)) (0 : Int32) ((p0.toInt8.toInt32).toInt8.toInt32)) (1 : Int32) (((p0 >>> ((8 : Int32) &&& 31)).toInt8.toInt32).toInt8.toInt32)) (2 : Int32) (((p0 >>> ((16 : Int32) &&& 31)).toInt8.toInt32).toInt8.toInt32)) (3 : Int32) ((((p0.toUInt32 >>> ((24 : Int32) &&& 31).toUInt32).toInt32).toInt8.toInt32).toInt8.toInt32))) h5 n0 Z5 V5 (by decide) (by decide)) hZ (hw _ (List.mem_of_getElem? (i := 5) rfl)) (hw _ (List.mem_of_getElem? (i := 4) rfl)) (by decide) (by decide)) (g := (mkF m 68 #[.val (.int p0), .val (.int p1), .val (.int p2), .val (.ref b1), .val (.int ((p1 &&& (2147483647 : Int32)) % (6 : Int32))), .val (.int ((p2 &&& (2147483647 : Int32)) % (5 : Int32))), .unset, .unset] [(.int ((p2 &&& (2147483647 : Int32)) % (5 : Int32))), (.int ((p1 &&& (2147483647 : Int32)) % (6 : Int32))), (.int (1 : Int32)), (.ref b1)])) rfl (by rw [hml]; rfl) (argsL := [(.ref b1), (.int (1 : Int32)), (.int ((p1 &&& (2147483647 : Int32)) % (6 : Int32))), (.int ((p2 &&& (2147483647 : Int32)) % (5 : Int32)))]) (rest := []) (lenOf pd___BIII_Z rfl) rfl (by show 2 * 0 + _ ≤ _; exact Nat.le_of_eq rfl) (hb hby at_68) (fun _ _ => ⟨rfl, e6, (by decide : 1 + 0 ≤ _), (by decide : 4 + 0 ≤ _)⟩)
    dsimp only [Pt.U, Pt.locs, Pt.cells, Pt.slots] at X10 l10 y10 z10 st10 hQ10
    subst l10 y10 z10
    obtain ⟨rfl, N10q, e10⟩ := hQ10
    have N10 := Fr.app N6 N10q
    refine own_by st10 ?_
    show own_Fin p.tables e below _ (T10.setTop (mkF m 71 #[.val (.int p0), .val (.int p1), .val (.int p2), .val (.ref b1), .val (.int ((p1 &&& (2147483647 : Int32)) % (6 : Int32))), .val (.int ((p2 &&& (2147483647 : Int32)) % (5 : Int32))), .unset, .unset] [(.int (f1 (4 : Int32) (own_upd (own_upd (own_upd (own_upd (fun _ => (0 : Int32)) (0 : Int32) ((p0.toInt8.toInt32).toInt8.toInt32)) (1 : Int32) (((p0 >>> ((8 : Int32) &&& 31)).toInt8.toInt32).toInt8.toInt32)) (2 : Int32) (((p0 >>> ((16 : Int32) &&& 31)).toInt8.toInt32).toInt8.toInt32)) (3 : Int32) ((((p0.toUInt32 >>> ((24 : Int32) &&& 31).toUInt32).toInt32).toInt8.toInt32).toInt8.toInt32)) (1 : Int32) ((p1 &&& (2147483647 : Int32)) % (6 : Int32)) ((p2 &&& (2147483647 : Int32)) % (5 : Int32))))]))
    by_cases hc11 : (f1 (4 : Int32) (own_upd (own_upd (own_upd (own_upd (fun _ => (0 : Int32)) (0 : Int32) ((p0.toInt8.toInt32).toInt8.toInt32)) (1 : Int32) (((p0 >>> ((8 : Int32) &&& 31)).toInt8.toInt32).toInt8.toInt32)) (2 : Int32) (((p0 >>> ((16 : Int32) &&& 31)).toInt8.toInt32).toInt8.toInt32)) (3 : Int32) ((((p0.toUInt32 >>> ((24 : Int32) &&& 31).toUInt32).toInt32).toInt8.toInt32).toInt8.toInt32)) (1 : Int32) ((p1 &&& (2147483647 : Int32)) % (6 : Int32)) ((p2 &&& (2147483647 : Int32)) % (5 : Int32))) = (0 : Int32)
    · refine own_by (fun _ k => XS.ifYes X10.here hx rfl (pc0 := 71) (pc' := 102) rfl (hb hby at_71) rfl ((if0 _ _).trans (teq hc11).1) (by decide) (by decide) k) ?_
      show own_Fin p.tables e below _ (T10.setTop (mkF m 102 #[.val (.int p0), .val (.int p1), .val (.int p2), .val (.ref b1), .val (.int ((p1 &&& (2147483647 : Int32)) % (6 : Int32))), .val (.int ((p2 &&& (2147483647 : Int32)) % (5 : Int32))), .unset, .unset] []))
      refine own_by (fun _ k => XS.iconst X10.here hx rfl (hb hby at_102) k) ?_
      show own_Fin p.tables e below _ (T10.setTop (mkF m 103 #[.val (.int p0), .val (.int p1), .val (.int p2), .val (.ref b1), .val (.int ((p1 &&& (2147483647 : Int32)) % (6 : Int32))), .val (.int ((p2 &&& (2147483647 : Int32)) % (5 : Int32))), .unset, .unset] [(.int (0 : Int32))]))
      refine own_by (fun _ k => XS.istore X10.here hx rfl (hb hby at_103) rfl (l' := #[.val (.int p0), .val (.int p1), .val (.int p2), .val (.ref b1), .val (.int ((p1 &&& (2147483647 : Int32)) % (6 : Int32))), .val (.int ((p2 &&& (2147483647 : Int32)) % (5 : Int32))), .val (.int (0 : Int32)), .unset]) rfl k) ?_
      show own_Fin p.tables e below _ (T10.setTop (mkF m 105 #[.val (.int p0), .val (.int p1), .val (.int p2), .val (.ref b1), .val (.int ((p1 &&& (2147483647 : Int32)) % (6 : Int32))), .val (.int ((p2 &&& (2147483647 : Int32)) % (5 : Int32))), .val (.int (0 : Int32)), .unset] []))
      refine own_by (fun _ k => XS.aloadN X10.here hx rfl (hb hby at_105) rfl rfl k) ?_
      show own_Fin p.tables e below _ (T10.setTop (mkF m 106 #[.val (.int p0), .val (.int p1), .val (.int p2), .val (.ref b1), .val (.int ((p1 &&& (2147483647 : Int32)) % (6 : Int32))), .val (.int ((p2 &&& (2147483647 : Int32)) % (5 : Int32))), .val (.int (0 : Int32)), .unset] [(.ref b1)]))
      refine own_by (fun _ k => XS.iload X10.here hx rfl (hb hby at_106) rfl k) ?_
      show own_Fin p.tables e below _ (T10.setTop (mkF m 108 #[.val (.int p0), .val (.int p1), .val (.int p2), .val (.ref b1), .val (.int ((p1 &&& (2147483647 : Int32)) % (6 : Int32))), .val (.int ((p2 &&& (2147483647 : Int32)) % (5 : Int32))), .val (.int (0 : Int32)), .unset] [(.int ((p1 &&& (2147483647 : Int32)) % (6 : Int32))), (.ref b1)]))
      refine own_by (fun _ k => XS.iload X10.here hx rfl (hb hby at_108) rfl k) ?_
      show own_Fin p.tables e below _ (T10.setTop (mkF m 110 #[.val (.int p0), .val (.int p1), .val (.int p2), .val (.ref b1), .val (.int ((p1 &&& (2147483647 : Int32)) % (6 : Int32))), .val (.int ((p2 &&& (2147483647 : Int32)) % (5 : Int32))), .val (.int (0 : Int32)), .unset] [(.int ((p2 &&& (2147483647 : Int32)) % (5 : Int32))), (.int ((p1 &&& (2147483647 : Int32)) % (6 : Int32))), (.ref b1)]))
      obtain ⟨_, _, ⟨T12, L12, k12, n12⟩, -, X12, ⟨Lc12, hQ12, l12, y12, z12⟩, st12⟩ := Jvm.LawKit.callS X10 hx (y := (⟨"com/example/twinshelf/twinshelf/records/MarcFormat", "digits", "([BII)Z"⟩ : MethodName)) hown (mvT hZ (hw _ (List.mem_of_getElem? (i := 6) rfl))) (mvT hZ (hw _ (List.mem_of_getElem? (i := 7) rfl))) (mvT hZ (hw _ (List.mem_of_getElem? (i := 8) rfl))) (mvT hZ (hw _ (List.mem_of_getElem? (i := 9) rfl))) (by decide) (backOf (W := 0) (rm2 l Z a0 hw [] b1 ((p1 &&& (2147483647 : Int32)) % (6 : Int32)) ((p2 &&& (2147483647 : Int32)) % (5 : Int32)) (4 : Int32) ((own_upd (own_upd (own_upd (own_upd (fun _ => (0 : Int32)) (0 : Int32) ((p0.toInt8.toInt32).toInt8.toInt32)) (1 : Int32) (((p0 >>> ((8 : Int32) &&& 31)).toInt8.toInt32).toInt8.toInt32)) (2 : Int32) (((p0 >>> ((16 : Int32) &&& 31)).toInt8.toInt32).toInt8.toInt32)) (3 : Int32) ((((p0.toUInt32 >>> ((24 : Int32) &&& 31).toUInt32).toInt32).toInt8.toInt32).toInt8.toInt32))) h5 n0 Z5 V5 (by omega) (by omega) (by omega) (by decide)) hZ (hw _ (List.mem_of_getElem? (i := 9) rfl)) (hw _ (List.mem_of_getElem? (i := 8) rfl)) (by decide) (by decide)) (g := (mkF m 110 #[.val (.int p0), .val (.int p1), .val (.int p2), .val (.ref b1), .val (.int ((p1 &&& (2147483647 : Int32)) % (6 : Int32))), .val (.int ((p2 &&& (2147483647 : Int32)) % (5 : Int32))), .val (.int (0 : Int32)), .unset] [(.int ((p2 &&& (2147483647 : Int32)) % (5 : Int32))), (.int ((p1 &&& (2147483647 : Int32)) % (6 : Int32))), (.ref b1)])) rfl (by rw [hml]; rfl) (argsL := [(.ref b1), (.int ((p1 &&& (2147483647 : Int32)) % (6 : Int32))), (.int ((p2 &&& (2147483647 : Int32)) % (5 : Int32)))]) (rest := []) (lenOf pd___BII_Z rfl) rfl (by show 2 * 0 + _ ≤ _; exact Nat.le_of_eq rfl) (hb hby at_110) (fun _ _ => ⟨rfl, e10, (by decide : 1 + 0 ≤ _), (by decide : 4 + 0 ≤ _)⟩)
      dsimp only [Pt.U, Pt.locs, Pt.cells, Pt.slots] at X12 l12 y12 z12 st12 hQ12
      subst l12 y12 z12
      obtain ⟨rfl, N12q, e12⟩ := hQ12
      have N12 := Fr.app N10 N12q
      refine own_by st12 ?_
      show own_Fin p.tables e below _ (T12.setTop (mkF m 113 #[.val (.int p0), .val (.int p1), .val (.int p2), .val (.ref b1), .val (.int ((p1 &&& (2147483647 : Int32)) % (6 : Int32))), .val (.int ((p2 &&& (2147483647 : Int32)) % (5 : Int32))), .val (.int (0 : Int32)), .unset] [(.int (f2 (4 : Int32) (own_upd (own_upd (own_upd (own_upd (fun _ => (0 : Int32)) (0 : Int32) ((p0.toInt8.toInt32).toInt8.toInt32)) (1 : Int32) (((p0 >>> ((8 : Int32) &&& 31)).toInt8.toInt32).toInt8.toInt32)) (2 : Int32) (((p0 >>> ((16 : Int32) &&& 31)).toInt8.toInt32).toInt8.toInt32)) (3 : Int32) ((((p0.toUInt32 >>> ((24 : Int32) &&& 31).toUInt32).toInt32).toInt8.toInt32).toInt8.toInt32)) ((p1 &&& (2147483647 : Int32)) % (6 : Int32)) ((p2 &&& (2147483647 : Int32)) % (5 : Int32))))]))
      refine own_by (fun _ k => XS.istore X12.here hx rfl (hb hby at_113) rfl (l' := #[.val (.int p0), .val (.int p1), .val (.int p2), .val (.ref b1), .val (.int ((p1 &&& (2147483647 : Int32)) % (6 : Int32))), .val (.int ((p2 &&& (2147483647 : Int32)) % (5 : Int32))), .val (.int (0 : Int32)), .val (.int (f2 (4 : Int32) (own_upd (own_upd (own_upd (own_upd (fun _ => (0 : Int32)) (0 : Int32) ((p0.toInt8.toInt32).toInt8.toInt32)) (1 : Int32) (((p0 >>> ((8 : Int32) &&& 31)).toInt8.toInt32).toInt8.toInt32)) (2 : Int32) (((p0 >>> ((16 : Int32) &&& 31)).toInt8.toInt32).toInt8.toInt32)) (3 : Int32) ((((p0.toUInt32 >>> ((24 : Int32) &&& 31).toUInt32).toInt32).toInt8.toInt32).toInt8.toInt32)) ((p1 &&& (2147483647 : Int32)) % (6 : Int32)) ((p2 &&& (2147483647 : Int32)) % (5 : Int32))))]) rfl k) ?_
      show own_Fin p.tables e below _ (T12.setTop (mkF m 115 #[.val (.int p0), .val (.int p1), .val (.int p2), .val (.ref b1), .val (.int ((p1 &&& (2147483647 : Int32)) % (6 : Int32))), .val (.int ((p2 &&& (2147483647 : Int32)) % (5 : Int32))), .val (.int (0 : Int32)), .val (.int (f2 (4 : Int32) (own_upd (own_upd (own_upd (own_upd (fun _ => (0 : Int32)) (0 : Int32) ((p0.toInt8.toInt32).toInt8.toInt32)) (1 : Int32) (((p0 >>> ((8 : Int32) &&& 31)).toInt8.toInt32).toInt8.toInt32)) (2 : Int32) (((p0 >>> ((16 : Int32) &&& 31)).toInt8.toInt32).toInt8.toInt32)) (3 : Int32) ((((p0.toUInt32 >>> ((24 : Int32) &&& 31).toUInt32).toInt32).toInt8.toInt32).toInt8.toInt32)) ((p1 &&& (2147483647 : Int32)) % (6 : Int32)) ((p2 &&& (2147483647 : Int32)) % (5 : Int32))))] []))
      refine own_by (fun _ k => XS.iload X12.here hx rfl (hb hby at_115) rfl k) ?_
      show own_Fin p.tables e below _ (T12.setTop (mkF m 117 #[.val (.int p0), .val (.int p1), .val (.int p2), .val (.ref b1), .val (.int ((p1 &&& (2147483647 : Int32)) % (6 : Int32))), .val (.int ((p2 &&& (2147483647 : Int32)) % (5 : Int32))), .val (.int (0 : Int32)), .val (.int (f2 (4 : Int32) (own_upd (own_upd (own_upd (own_upd (fun _ => (0 : Int32)) (0 : Int32) ((p0.toInt8.toInt32).toInt8.toInt32)) (1 : Int32) (((p0 >>> ((8 : Int32) &&& 31)).toInt8.toInt32).toInt8.toInt32)) (2 : Int32) (((p0 >>> ((16 : Int32) &&& 31)).toInt8.toInt32).toInt8.toInt32)) (3 : Int32) ((((p0.toUInt32 >>> ((24 : Int32) &&& 31).toUInt32).toInt32).toInt8.toInt32).toInt8.toInt32)) ((p1 &&& (2147483647 : Int32)) % (6 : Int32)) ((p2 &&& (2147483647 : Int32)) % (5 : Int32))))] [(.int (f2 (4 : Int32) (own_upd (own_upd (own_upd (own_upd (fun _ => (0 : Int32)) (0 : Int32) ((p0.toInt8.toInt32).toInt8.toInt32)) (1 : Int32) (((p0 >>> ((8 : Int32) &&& 31)).toInt8.toInt32).toInt8.toInt32)) (2 : Int32) (((p0 >>> ((16 : Int32) &&& 31)).toInt8.toInt32).toInt8.toInt32)) (3 : Int32) ((((p0.toUInt32 >>> ((24 : Int32) &&& 31).toUInt32).toInt32).toInt8.toInt32).toInt8.toInt32)) ((p1 &&& (2147483647 : Int32)) % (6 : Int32)) ((p2 &&& (2147483647 : Int32)) % (5 : Int32))))]))
      refine own_by (fun _ k => XS.iload X12.here hx rfl (hb hby at_117) rfl k) ?_
      show own_Fin p.tables e below _ (T12.setTop (mkF m 119 #[.val (.int p0), .val (.int p1), .val (.int p2), .val (.ref b1), .val (.int ((p1 &&& (2147483647 : Int32)) % (6 : Int32))), .val (.int ((p2 &&& (2147483647 : Int32)) % (5 : Int32))), .val (.int (0 : Int32)), .val (.int (f2 (4 : Int32) (own_upd (own_upd (own_upd (own_upd (fun _ => (0 : Int32)) (0 : Int32) ((p0.toInt8.toInt32).toInt8.toInt32)) (1 : Int32) (((p0 >>> ((8 : Int32) &&& 31)).toInt8.toInt32).toInt8.toInt32)) (2 : Int32) (((p0 >>> ((16 : Int32) &&& 31)).toInt8.toInt32).toInt8.toInt32)) (3 : Int32) ((((p0.toUInt32 >>> ((24 : Int32) &&& 31).toUInt32).toInt32).toInt8.toInt32).toInt8.toInt32)) ((p1 &&& (2147483647 : Int32)) % (6 : Int32)) ((p2 &&& (2147483647 : Int32)) % (5 : Int32))))] [(.int (0 : Int32)), (.int (f2 (4 : Int32) (own_upd (own_upd (own_upd (own_upd (fun _ => (0 : Int32)) (0 : Int32) ((p0.toInt8.toInt32).toInt8.toInt32)) (1 : Int32) (((p0 >>> ((8 : Int32) &&& 31)).toInt8.toInt32).toInt8.toInt32)) (2 : Int32) (((p0 >>> ((16 : Int32) &&& 31)).toInt8.toInt32).toInt8.toInt32)) (3 : Int32) ((((p0.toUInt32 >>> ((24 : Int32) &&& 31).toUInt32).toInt32).toInt8.toInt32).toInt8.toInt32)) ((p1 &&& (2147483647 : Int32)) % (6 : Int32)) ((p2 &&& (2147483647 : Int32)) % (5 : Int32))))]))
      by_cases hc13 : (f2 (4 : Int32) (own_upd (own_upd (own_upd (own_upd (fun _ => (0 : Int32)) (0 : Int32) ((p0.toInt8.toInt32).toInt8.toInt32)) (1 : Int32) (((p0 >>> ((8 : Int32) &&& 31)).toInt8.toInt32).toInt8.toInt32)) (2 : Int32) (((p0 >>> ((16 : Int32) &&& 31)).toInt8.toInt32).toInt8.toInt32)) (3 : Int32) ((((p0.toUInt32 >>> ((24 : Int32) &&& 31).toUInt32).toInt32).toInt8.toInt32).toInt8.toInt32)) ((p1 &&& (2147483647 : Int32)) % (6 : Int32)) ((p2 &&& (2147483647 : Int32)) % (5 : Int32))) = (0 : Int32)
      · refine own_by (fun _ k => XS.icmpNo X12.here hx rfl (hb hby at_119) rfl (teq hc13).2 k) ?_
        show own_Fin p.tables e below _ (T12.setTop (mkF m 122 #[.val (.int p0), .val (.int p1), .val (.int p2), .val (.ref b1), .val (.int ((p1 &&& (2147483647 : Int32)) % (6 : Int32))), .val (.int ((p2 &&& (2147483647 : Int32)) % (5 : Int32))), .val (.int (0 : Int32)), .val (.int (f2 (4 : Int32) (own_upd (own_upd (own_upd (own_upd (fun _ => (0 : Int32)) (0 : Int32) ((p0.toInt8.toInt32).toInt8.toInt32)) (1 : Int32) (((p0 >>> ((8 : Int32) &&& 31)).toInt8.toInt32).toInt8.toInt32)) (2 : Int32) (((p0 >>> ((16 : Int32) &&& 31)).toInt8.toInt32).toInt8.toInt32)) (3 : Int32) ((((p0.toUInt32 >>> ((24 : Int32) &&& 31).toUInt32).toInt32).toInt8.toInt32).toInt8.toInt32)) ((p1 &&& (2147483647 : Int32)) % (6 : Int32)) ((p2 &&& (2147483647 : Int32)) % (5 : Int32))))] []))
        refine own_by (fun _ k => XS.iconst X12.here hx rfl (hb hby at_122) k) ?_
        show own_Fin p.tables e below _ (T12.setTop (mkF m 123 #[.val (.int p0), .val (.int p1), .val (.int p2), .val (.ref b1), .val (.int ((p1 &&& (2147483647 : Int32)) % (6 : Int32))), .val (.int ((p2 &&& (2147483647 : Int32)) % (5 : Int32))), .val (.int (0 : Int32)), .val (.int (f2 (4 : Int32) (own_upd (own_upd (own_upd (own_upd (fun _ => (0 : Int32)) (0 : Int32) ((p0.toInt8.toInt32).toInt8.toInt32)) (1 : Int32) (((p0 >>> ((8 : Int32) &&& 31)).toInt8.toInt32).toInt8.toInt32)) (2 : Int32) (((p0 >>> ((16 : Int32) &&& 31)).toInt8.toInt32).toInt8.toInt32)) (3 : Int32) ((((p0.toUInt32 >>> ((24 : Int32) &&& 31).toUInt32).toInt32).toInt8.toInt32).toInt8.toInt32)) ((p1 &&& (2147483647 : Int32)) % (6 : Int32)) ((p2 &&& (2147483647 : Int32)) % (5 : Int32))))] [(.int (1 : Int32))]))
        refine own_by (fun _ k => XS.goto X12.here hx rfl (pc0 := 123) (pc' := 127) rfl (hb hby at_123) (by decide) (by decide) k) ?_
        show own_Fin p.tables e below _ (T12.setTop (mkF m 127 #[.val (.int p0), .val (.int p1), .val (.int p2), .val (.ref b1), .val (.int ((p1 &&& (2147483647 : Int32)) % (6 : Int32))), .val (.int ((p2 &&& (2147483647 : Int32)) % (5 : Int32))), .val (.int (0 : Int32)), .val (.int (f2 (4 : Int32) (own_upd (own_upd (own_upd (own_upd (fun _ => (0 : Int32)) (0 : Int32) ((p0.toInt8.toInt32).toInt8.toInt32)) (1 : Int32) (((p0 >>> ((8 : Int32) &&& 31)).toInt8.toInt32).toInt8.toInt32)) (2 : Int32) (((p0 >>> ((16 : Int32) &&& 31)).toInt8.toInt32).toInt8.toInt32)) (3 : Int32) ((((p0.toUInt32 >>> ((24 : Int32) &&& 31).toUInt32).toInt32).toInt8.toInt32).toInt8.toInt32)) ((p1 &&& (2147483647 : Int32)) % (6 : Int32)) ((p2 &&& (2147483647 : Int32)) % (5 : Int32))))] [(.int (1 : Int32))]))
        have ef : f0 p0 p1 p2 = (1 : Int32) := by unfold f0; rw [if_neg hc7, if_pos hc11, if_pos hc13]
        exact own_retN X12 hx (t := .boolean) Bd.returns hlk (by simp) (hb hby at_127) (by decide) (by decide) ⟨by rw [ef]; rfl, N12⟩
      · refine own_by (fun _ k => XS.icmpYes X12.here hx rfl (pc0 := 119) (pc' := 126) rfl (hb hby at_119) rfl (feq hc13).2 (by decide) (by decide) k) ?_
        show own_Fin p.tables e below _ (T12.setTop (mkF m 126 #[.val (.int p0), .val (.int p1), .val (.int p2), .val (.ref b1), .val (.int ((p1 &&& (2147483647 : Int32)) % (6 : Int32))), .val (.int ((p2 &&& (2147483647 : Int32)) % (5 : Int32))), .val (.int (0 : Int32)), .val (.int (f2 (4 : Int32) (own_upd (own_upd (own_upd (own_upd (fun _ => (0 : Int32)) (0 : Int32) ((p0.toInt8.toInt32).toInt8.toInt32)) (1 : Int32) (((p0 >>> ((8 : Int32) &&& 31)).toInt8.toInt32).toInt8.toInt32)) (2 : Int32) (((p0 >>> ((16 : Int32) &&& 31)).toInt8.toInt32).toInt8.toInt32)) (3 : Int32) ((((p0.toUInt32 >>> ((24 : Int32) &&& 31).toUInt32).toInt32).toInt8.toInt32).toInt8.toInt32)) ((p1 &&& (2147483647 : Int32)) % (6 : Int32)) ((p2 &&& (2147483647 : Int32)) % (5 : Int32))))] []))
        refine own_by (fun _ k => XS.iconst X12.here hx rfl (hb hby at_126) k) ?_
        show own_Fin p.tables e below _ (T12.setTop (mkF m 127 #[.val (.int p0), .val (.int p1), .val (.int p2), .val (.ref b1), .val (.int ((p1 &&& (2147483647 : Int32)) % (6 : Int32))), .val (.int ((p2 &&& (2147483647 : Int32)) % (5 : Int32))), .val (.int (0 : Int32)), .val (.int (f2 (4 : Int32) (own_upd (own_upd (own_upd (own_upd (fun _ => (0 : Int32)) (0 : Int32) ((p0.toInt8.toInt32).toInt8.toInt32)) (1 : Int32) (((p0 >>> ((8 : Int32) &&& 31)).toInt8.toInt32).toInt8.toInt32)) (2 : Int32) (((p0 >>> ((16 : Int32) &&& 31)).toInt8.toInt32).toInt8.toInt32)) (3 : Int32) ((((p0.toUInt32 >>> ((24 : Int32) &&& 31).toUInt32).toInt32).toInt8.toInt32).toInt8.toInt32)) ((p1 &&& (2147483647 : Int32)) % (6 : Int32)) ((p2 &&& (2147483647 : Int32)) % (5 : Int32))))] [(.int (0 : Int32))]))
        have ef : f0 p0 p1 p2 = (0 : Int32) := by unfold f0; rw [if_neg hc7, if_pos hc11, if_neg hc13]
        exact own_retN X12 hx (t := .boolean) Bd.returns hlk (by simp) (hb hby at_127) (by decide) (by decide) ⟨by rw [ef]; rfl, N12⟩
    · refine own_by (fun _ k => XS.ifNo X10.here hx rfl (hb hby at_71) rfl ((if0 _ _).trans (feq hc11).1) k) ?_
      show own_Fin p.tables e below _ (T10.setTop (mkF m 74 #[.val (.int p0), .val (.int p1), .val (.int p2), .val (.ref b1), .val (.int ((p1 &&& (2147483647 : Int32)) % (6 : Int32))), .val (.int ((p2 &&& (2147483647 : Int32)) % (5 : Int32))), .unset, .unset] []))
      refine own_by (fun _ k => XS.aloadN X10.here hx rfl (hb hby at_74) rfl rfl k) ?_
      show own_Fin p.tables e below _ (T10.setTop (mkF m 75 #[.val (.int p0), .val (.int p1), .val (.int p2), .val (.ref b1), .val (.int ((p1 &&& (2147483647 : Int32)) % (6 : Int32))), .val (.int ((p2 &&& (2147483647 : Int32)) % (5 : Int32))), .unset, .unset] [(.ref b1)]))
      refine own_by (fun _ k => XS.iconst X10.here hx rfl (hb hby at_75) k) ?_
      show own_Fin p.tables e below _ (T10.setTop (mkF m 76 #[.val (.int p0), .val (.int p1), .val (.int p2), .val (.ref b1), .val (.int ((p1 &&& (2147483647 : Int32)) % (6 : Int32))), .val (.int ((p2 &&& (2147483647 : Int32)) % (5 : Int32))), .unset, .unset] [(.int (2 : Int32)), (.ref b1)]))
      refine own_by (fun _ k => XS.iload X10.here hx rfl (hb hby at_76) rfl k) ?_
      show own_Fin p.tables e below _ (T10.setTop (mkF m 78 #[.val (.int p0), .val (.int p1), .val (.int p2), .val (.ref b1), .val (.int ((p1 &&& (2147483647 : Int32)) % (6 : Int32))), .val (.int ((p2 &&& (2147483647 : Int32)) % (5 : Int32))), .unset, .unset] [(.int ((p1 &&& (2147483647 : Int32)) % (6 : Int32))), (.int (2 : Int32)), (.ref b1)]))
      refine own_by (fun _ k => XS.iload X10.here hx rfl (hb hby at_78) rfl k) ?_
      show own_Fin p.tables e below _ (T10.setTop (mkF m 80 #[.val (.int p0), .val (.int p1), .val (.int p2), .val (.ref b1), .val (.int ((p1 &&& (2147483647 : Int32)) % (6 : Int32))), .val (.int ((p2 &&& (2147483647 : Int32)) % (5 : Int32))), .unset, .unset] [(.int ((p2 &&& (2147483647 : Int32)) % (5 : Int32))), (.int ((p1 &&& (2147483647 : Int32)) % (6 : Int32))), (.int (2 : Int32)), (.ref b1)]))
      obtain ⟨_, _, ⟨T14, L14, k14, n14⟩, -, X14, ⟨Lc14, hQ14, l14, y14, z14⟩, st14⟩ := Jvm.LawKit.callS X10 hx (y := (⟨"com/example/twinshelf/twinshelf/records/MarcFormatDigitsPinLaw", "ok", "([BIII)Z"⟩ : MethodName)) hown (mvT hZ (hw _ (List.mem_of_getElem? (i := 2) rfl))) (mvT hZ (hw _ (List.mem_of_getElem? (i := 3) rfl))) (mvT hZ (hw _ (List.mem_of_getElem? (i := 4) rfl))) (mvT hZ (hw _ (List.mem_of_getElem? (i := 5) rfl))) (by decide) (backOf (W := 0) (rm1 l Z a0 hw [] b1 (2 : Int32) ((p1 &&& (2147483647 : Int32)) % (6 : Int32)) ((p2 &&& (2147483647 : Int32)) % (5 : Int32)) (4 : Int32) ((own_upd (own_upd (own_upd (own_upd (fun _ => (0 : Int32)) (0 : Int32) ((p0.toInt8.toInt32).toInt8.toInt32)) (1 : Int32) (((p0 >>> ((8 : Int32) &&& 31)).toInt8.toInt32).toInt8.toInt32)) (2 : Int32) (((p0 >>> ((16 : Int32) &&& 31)).toInt8.toInt32).toInt8.toInt32)) (3 : Int32) ((((p0.toUInt32 >>> ((24 : Int32) &&& 31).toUInt32).toInt32).toInt8.toInt32).toInt8.toInt32))) h5 n0 Z5 V5 (by decide) (by decide)) hZ (hw _ (List.mem_of_getElem? (i := 5) rfl)) (hw _ (List.mem_of_getElem? (i := 4) rfl)) (by decide) (by decide)) (g := (mkF m 80 #[.val (.int p0), .val (.int p1), .val (.int p2), .val (.ref b1), .val (.int ((p1 &&& (2147483647 : Int32)) % (6 : Int32))), .val (.int ((p2 &&& (2147483647 : Int32)) % (5 : Int32))), .unset, .unset] [(.int ((p2 &&& (2147483647 : Int32)) % (5 : Int32))), (.int ((p1 &&& (2147483647 : Int32)) % (6 : Int32))), (.int (2 : Int32)), (.ref b1)])) rfl (by rw [hml]; rfl) (argsL := [(.ref b1), (.int (2 : Int32)), (.int ((p1 &&& (2147483647 : Int32)) % (6 : Int32))), (.int ((p2 &&& (2147483647 : Int32)) % (5 : Int32)))]) (rest := []) (lenOf pd___BIII_Z rfl) rfl (by show 2 * 0 + _ ≤ _; exact Nat.le_of_eq rfl) (hb hby at_80) (fun _ _ => ⟨rfl, e10, (by decide : 1 + 0 ≤ _), (by decide : 4 + 0 ≤ _)⟩)
      dsimp only [Pt.U, Pt.locs, Pt.cells, Pt.slots] at X14 l14 y14 z14 st14 hQ14
      subst l14 y14 z14
      obtain ⟨rfl, N14q, e14⟩ := hQ14
      have N14 := Fr.app N10 N14q
      refine own_by st14 ?_
      show own_Fin p.tables e below _ (T14.setTop (mkF m 83 #[.val (.int p0), .val (.int p1), .val (.int p2), .val (.ref b1), .val (.int ((p1 &&& (2147483647 : Int32)) % (6 : Int32))), .val (.int ((p2 &&& (2147483647 : Int32)) % (5 : Int32))), .unset, .unset] [(.int (f1 (4 : Int32) (own_upd (own_upd (own_upd (own_upd (fun _ => (0 : Int32)) (0 : Int32) ((p0.toInt8.toInt32).toInt8.toInt32)) (1 : Int32) (((p0 >>> ((8 : Int32) &&& 31)).toInt8.toInt32).toInt8.toInt32)) (2 : Int32) (((p0 >>> ((16 : Int32) &&& 31)).toInt8.toInt32).toInt8.toInt32)) (3 : Int32) ((((p0.toUInt32 >>> ((24 : Int32) &&& 31).toUInt32).toInt32).toInt8.toInt32).toInt8.toInt32)) (2 : Int32) ((p1 &&& (2147483647 : Int32)) % (6 : Int32)) ((p2 &&& (2147483647 : Int32)) % (5 : Int32))))]))
      by_cases hc15 : (f1 (4 : Int32) (own_upd (own_upd (own_upd (own_upd (fun _ => (0 : Int32)) (0 : Int32) ((p0.toInt8.toInt32).toInt8.toInt32)) (1 : Int32) (((p0 >>> ((8 : Int32) &&& 31)).toInt8.toInt32).toInt8.toInt32)) (2 : Int32) (((p0 >>> ((16 : Int32) &&& 31)).toInt8.toInt32).toInt8.toInt32)) (3 : Int32) ((((p0.toUInt32 >>> ((24 : Int32) &&& 31).toUInt32).toInt32).toInt8.toInt32).toInt8.toInt32)) (2 : Int32) ((p1 &&& (2147483647 : Int32)) % (6 : Int32)) ((p2 &&& (2147483647 : Int32)) % (5 : Int32))) = (0 : Int32)
      · refine own_by (fun _ k => XS.ifYes X14.here hx rfl (pc0 := 83) (pc' := 102) rfl (hb hby at_83) rfl ((if0 _ _).trans (teq hc15).1) (by decide) (by decide) k) ?_
        show own_Fin p.tables e below _ (T14.setTop (mkF m 102 #[.val (.int p0), .val (.int p1), .val (.int p2), .val (.ref b1), .val (.int ((p1 &&& (2147483647 : Int32)) % (6 : Int32))), .val (.int ((p2 &&& (2147483647 : Int32)) % (5 : Int32))), .unset, .unset] []))
        refine own_by (fun _ k => XS.iconst X14.here hx rfl (hb hby at_102) k) ?_
        show own_Fin p.tables e below _ (T14.setTop (mkF m 103 #[.val (.int p0), .val (.int p1), .val (.int p2), .val (.ref b1), .val (.int ((p1 &&& (2147483647 : Int32)) % (6 : Int32))), .val (.int ((p2 &&& (2147483647 : Int32)) % (5 : Int32))), .unset, .unset] [(.int (0 : Int32))]))
        refine own_by (fun _ k => XS.istore X14.here hx rfl (hb hby at_103) rfl (l' := #[.val (.int p0), .val (.int p1), .val (.int p2), .val (.ref b1), .val (.int ((p1 &&& (2147483647 : Int32)) % (6 : Int32))), .val (.int ((p2 &&& (2147483647 : Int32)) % (5 : Int32))), .val (.int (0 : Int32)), .unset]) rfl k) ?_
        show own_Fin p.tables e below _ (T14.setTop (mkF m 105 #[.val (.int p0), .val (.int p1), .val (.int p2), .val (.ref b1), .val (.int ((p1 &&& (2147483647 : Int32)) % (6 : Int32))), .val (.int ((p2 &&& (2147483647 : Int32)) % (5 : Int32))), .val (.int (0 : Int32)), .unset] []))
        refine own_by (fun _ k => XS.aloadN X14.here hx rfl (hb hby at_105) rfl rfl k) ?_
        show own_Fin p.tables e below _ (T14.setTop (mkF m 106 #[.val (.int p0), .val (.int p1), .val (.int p2), .val (.ref b1), .val (.int ((p1 &&& (2147483647 : Int32)) % (6 : Int32))), .val (.int ((p2 &&& (2147483647 : Int32)) % (5 : Int32))), .val (.int (0 : Int32)), .unset] [(.ref b1)]))
        refine own_by (fun _ k => XS.iload X14.here hx rfl (hb hby at_106) rfl k) ?_
        show own_Fin p.tables e below _ (T14.setTop (mkF m 108 #[.val (.int p0), .val (.int p1), .val (.int p2), .val (.ref b1), .val (.int ((p1 &&& (2147483647 : Int32)) % (6 : Int32))), .val (.int ((p2 &&& (2147483647 : Int32)) % (5 : Int32))), .val (.int (0 : Int32)), .unset] [(.int ((p1 &&& (2147483647 : Int32)) % (6 : Int32))), (.ref b1)]))
        refine own_by (fun _ k => XS.iload X14.here hx rfl (hb hby at_108) rfl k) ?_
        show own_Fin p.tables e below _ (T14.setTop (mkF m 110 #[.val (.int p0), .val (.int p1), .val (.int p2), .val (.ref b1), .val (.int ((p1 &&& (2147483647 : Int32)) % (6 : Int32))), .val (.int ((p2 &&& (2147483647 : Int32)) % (5 : Int32))), .val (.int (0 : Int32)), .unset] [(.int ((p2 &&& (2147483647 : Int32)) % (5 : Int32))), (.int ((p1 &&& (2147483647 : Int32)) % (6 : Int32))), (.ref b1)]))
        obtain ⟨_, _, ⟨T16, L16, k16, n16⟩, -, X16, ⟨Lc16, hQ16, l16, y16, z16⟩, st16⟩ := Jvm.LawKit.callS X14 hx (y := (⟨"com/example/twinshelf/twinshelf/records/MarcFormat", "digits", "([BII)Z"⟩ : MethodName)) hown (mvT hZ (hw _ (List.mem_of_getElem? (i := 6) rfl))) (mvT hZ (hw _ (List.mem_of_getElem? (i := 7) rfl))) (mvT hZ (hw _ (List.mem_of_getElem? (i := 8) rfl))) (mvT hZ (hw _ (List.mem_of_getElem? (i := 9) rfl))) (by decide) (backOf (W := 0) (rm2 l Z a0 hw [] b1 ((p1 &&& (2147483647 : Int32)) % (6 : Int32)) ((p2 &&& (2147483647 : Int32)) % (5 : Int32)) (4 : Int32) ((own_upd (own_upd (own_upd (own_upd (fun _ => (0 : Int32)) (0 : Int32) ((p0.toInt8.toInt32).toInt8.toInt32)) (1 : Int32) (((p0 >>> ((8 : Int32) &&& 31)).toInt8.toInt32).toInt8.toInt32)) (2 : Int32) (((p0 >>> ((16 : Int32) &&& 31)).toInt8.toInt32).toInt8.toInt32)) (3 : Int32) ((((p0.toUInt32 >>> ((24 : Int32) &&& 31).toUInt32).toInt32).toInt8.toInt32).toInt8.toInt32))) h5 n0 Z5 V5 (by omega) (by omega) (by omega) (by decide)) hZ (hw _ (List.mem_of_getElem? (i := 9) rfl)) (hw _ (List.mem_of_getElem? (i := 8) rfl)) (by decide) (by decide)) (g := (mkF m 110 #[.val (.int p0), .val (.int p1), .val (.int p2), .val (.ref b1), .val (.int ((p1 &&& (2147483647 : Int32)) % (6 : Int32))), .val (.int ((p2 &&& (2147483647 : Int32)) % (5 : Int32))), .val (.int (0 : Int32)), .unset] [(.int ((p2 &&& (2147483647 : Int32)) % (5 : Int32))), (.int ((p1 &&& (2147483647 : Int32)) % (6 : Int32))), (.ref b1)])) rfl (by rw [hml]; rfl) (argsL := [(.ref b1), (.int ((p1 &&& (2147483647 : Int32)) % (6 : Int32))), (.int ((p2 &&& (2147483647 : Int32)) % (5 : Int32)))]) (rest := []) (lenOf pd___BII_Z rfl) rfl (by show 2 * 0 + _ ≤ _; exact Nat.le_of_eq rfl) (hb hby at_110) (fun _ _ => ⟨rfl, e14, (by decide : 1 + 0 ≤ _), (by decide : 4 + 0 ≤ _)⟩)
        dsimp only [Pt.U, Pt.locs, Pt.cells, Pt.slots] at X16 l16 y16 z16 st16 hQ16
        subst l16 y16 z16
        obtain ⟨rfl, N16q, e16⟩ := hQ16
        have N16 := Fr.app N14 N16q
        refine own_by st16 ?_
        show own_Fin p.tables e below _ (T16.setTop (mkF m 113 #[.val (.int p0), .val (.int p1), .val (.int p2), .val (.ref b1), .val (.int ((p1 &&& (2147483647 : Int32)) % (6 : Int32))), .val (.int ((p2 &&& (2147483647 : Int32)) % (5 : Int32))), .val (.int (0 : Int32)), .unset] [(.int (f2 (4 : Int32) (own_upd (own_upd (own_upd (own_upd (fun _ => (0 : Int32)) (0 : Int32) ((p0.toInt8.toInt32).toInt8.toInt32)) (1 : Int32) (((p0 >>> ((8 : Int32) &&& 31)).toInt8.toInt32).toInt8.toInt32)) (2 : Int32) (((p0 >>> ((16 : Int32) &&& 31)).toInt8.toInt32).toInt8.toInt32)) (3 : Int32) ((((p0.toUInt32 >>> ((24 : Int32) &&& 31).toUInt32).toInt32).toInt8.toInt32).toInt8.toInt32)) ((p1 &&& (2147483647 : Int32)) % (6 : Int32)) ((p2 &&& (2147483647 : Int32)) % (5 : Int32))))]))
        refine own_by (fun _ k => XS.istore X16.here hx rfl (hb hby at_113) rfl (l' := #[.val (.int p0), .val (.int p1), .val (.int p2), .val (.ref b1), .val (.int ((p1 &&& (2147483647 : Int32)) % (6 : Int32))), .val (.int ((p2 &&& (2147483647 : Int32)) % (5 : Int32))), .val (.int (0 : Int32)), .val (.int (f2 (4 : Int32) (own_upd (own_upd (own_upd (own_upd (fun _ => (0 : Int32)) (0 : Int32) ((p0.toInt8.toInt32).toInt8.toInt32)) (1 : Int32) (((p0 >>> ((8 : Int32) &&& 31)).toInt8.toInt32).toInt8.toInt32)) (2 : Int32) (((p0 >>> ((16 : Int32) &&& 31)).toInt8.toInt32).toInt8.toInt32)) (3 : Int32) ((((p0.toUInt32 >>> ((24 : Int32) &&& 31).toUInt32).toInt32).toInt8.toInt32).toInt8.toInt32)) ((p1 &&& (2147483647 : Int32)) % (6 : Int32)) ((p2 &&& (2147483647 : Int32)) % (5 : Int32))))]) rfl k) ?_
        show own_Fin p.tables e below _ (T16.setTop (mkF m 115 #[.val (.int p0), .val (.int p1), .val (.int p2), .val (.ref b1), .val (.int ((p1 &&& (2147483647 : Int32)) % (6 : Int32))), .val (.int ((p2 &&& (2147483647 : Int32)) % (5 : Int32))), .val (.int (0 : Int32)), .val (.int (f2 (4 : Int32) (own_upd (own_upd (own_upd (own_upd (fun _ => (0 : Int32)) (0 : Int32) ((p0.toInt8.toInt32).toInt8.toInt32)) (1 : Int32) (((p0 >>> ((8 : Int32) &&& 31)).toInt8.toInt32).toInt8.toInt32)) (2 : Int32) (((p0 >>> ((16 : Int32) &&& 31)).toInt8.toInt32).toInt8.toInt32)) (3 : Int32) ((((p0.toUInt32 >>> ((24 : Int32) &&& 31).toUInt32).toInt32).toInt8.toInt32).toInt8.toInt32)) ((p1 &&& (2147483647 : Int32)) % (6 : Int32)) ((p2 &&& (2147483647 : Int32)) % (5 : Int32))))] []))
        refine own_by (fun _ k => XS.iload X16.here hx rfl (hb hby at_115) rfl k) ?_
        show own_Fin p.tables e below _ (T16.setTop (mkF m 117 #[.val (.int p0), .val (.int p1), .val (.int p2), .val (.ref b1), .val (.int ((p1 &&& (2147483647 : Int32)) % (6 : Int32))), .val (.int ((p2 &&& (2147483647 : Int32)) % (5 : Int32))), .val (.int (0 : Int32)), .val (.int (f2 (4 : Int32) (own_upd (own_upd (own_upd (own_upd (fun _ => (0 : Int32)) (0 : Int32) ((p0.toInt8.toInt32).toInt8.toInt32)) (1 : Int32) (((p0 >>> ((8 : Int32) &&& 31)).toInt8.toInt32).toInt8.toInt32)) (2 : Int32) (((p0 >>> ((16 : Int32) &&& 31)).toInt8.toInt32).toInt8.toInt32)) (3 : Int32) ((((p0.toUInt32 >>> ((24 : Int32) &&& 31).toUInt32).toInt32).toInt8.toInt32).toInt8.toInt32)) ((p1 &&& (2147483647 : Int32)) % (6 : Int32)) ((p2 &&& (2147483647 : Int32)) % (5 : Int32))))] [(.int (f2 (4 : Int32) (own_upd (own_upd (own_upd (own_upd (fun _ => (0 : Int32)) (0 : Int32) ((p0.toInt8.toInt32).toInt8.toInt32)) (1 : Int32) (((p0 >>> ((8 : Int32) &&& 31)).toInt8.toInt32).toInt8.toInt32)) (2 : Int32) (((p0 >>> ((16 : Int32) &&& 31)).toInt8.toInt32).toInt8.toInt32)) (3 : Int32) ((((p0.toUInt32 >>> ((24 : Int32) &&& 31).toUInt32).toInt32).toInt8.toInt32).toInt8.toInt32)) ((p1 &&& (2147483647 : Int32)) % (6 : Int32)) ((p2 &&& (2147483647 : Int32)) % (5 : Int32))))]))
        refine own_by (fun _ k => XS.iload X16.here hx rfl (hb hby at_117) rfl k) ?_
        show own_Fin p.tables e below _ (T16.setTop (mkF m 119 #[.val (.int p0), .val (.int p1), .val (.int p2), .val (.ref b1), .val (.int ((p1 &&& (2147483647 : Int32)) % (6 : Int32))), .val (.int ((p2 &&& (2147483647 : Int32)) % (5 : Int32))), .val (.int (0 : Int32)), .val (.int (f2 (4 : Int32) (own_upd (own_upd (own_upd (own_upd (fun _ => (0 : Int32)) (0 : Int32) ((p0.toInt8.toInt32).toInt8.toInt32)) (1 : Int32) (((p0 >>> ((8 : Int32) &&& 31)).toInt8.toInt32).toInt8.toInt32)) (2 : Int32) (((p0 >>> ((16 : Int32) &&& 31)).toInt8.toInt32).toInt8.toInt32)) (3 : Int32) ((((p0.toUInt32 >>> ((24 : Int32) &&& 31).toUInt32).toInt32).toInt8.toInt32).toInt8.toInt32)) ((p1 &&& (2147483647 : Int32)) % (6 : Int32)) ((p2 &&& (2147483647 : Int32)) % (5 : Int32))))] [(.int (0 : Int32)), (.int (f2 (4 : Int32) (own_upd (own_upd (own_upd (own_upd (fun _ => (0 : Int32)) (0 : Int32) ((p0.toInt8.toInt32).toInt8.toInt32)) (1 : Int32) (((p0 >>> ((8 : Int32) &&& 31)).toInt8.toInt32).toInt8.toInt32)) (2 : Int32) (((p0 >>> ((16 : Int32) &&& 31)).toInt8.toInt32).toInt8.toInt32)) (3 : Int32) ((((p0.toUInt32 >>> ((24 : Int32) &&& 31).toUInt32).toInt32).toInt8.toInt32).toInt8.toInt32)) ((p1 &&& (2147483647 : Int32)) % (6 : Int32)) ((p2 &&& (2147483647 : Int32)) % (5 : Int32))))]))
        by_cases hc17 : (f2 (4 : Int32) (own_upd (own_upd (own_upd (own_upd (fun _ => (0 : Int32)) (0 : Int32) ((p0.toInt8.toInt32).toInt8.toInt32)) (1 : Int32) (((p0 >>> ((8 : Int32) &&& 31)).toInt8.toInt32).toInt8.toInt32)) (2 : Int32) (((p0 >>> ((16 : Int32) &&& 31)).toInt8.toInt32).toInt8.toInt32)) (3 : Int32) ((((p0.toUInt32 >>> ((24 : Int32) &&& 31).toUInt32).toInt32).toInt8.toInt32).toInt8.toInt32)) ((p1 &&& (2147483647 : Int32)) % (6 : Int32)) ((p2 &&& (2147483647 : Int32)) % (5 : Int32))) = (0 : Int32)
        · refine own_by (fun _ k => XS.icmpNo X16.here hx rfl (hb hby at_119) rfl (teq hc17).2 k) ?_
          show own_Fin p.tables e below _ (T16.setTop (mkF m 122 #[.val (.int p0), .val (.int p1), .val (.int p2), .val (.ref b1), .val (.int ((p1 &&& (2147483647 : Int32)) % (6 : Int32))), .val (.int ((p2 &&& (2147483647 : Int32)) % (5 : Int32))), .val (.int (0 : Int32)), .val (.int (f2 (4 : Int32) (own_upd (own_upd (own_upd (own_upd (fun _ => (0 : Int32)) (0 : Int32) ((p0.toInt8.toInt32).toInt8.toInt32)) (1 : Int32) (((p0 >>> ((8 : Int32) &&& 31)).toInt8.toInt32).toInt8.toInt32)) (2 : Int32) (((p0 >>> ((16 : Int32) &&& 31)).toInt8.toInt32).toInt8.toInt32)) (3 : Int32) ((((p0.toUInt32 >>> ((24 : Int32) &&& 31).toUInt32).toInt32).toInt8.toInt32).toInt8.toInt32)) ((p1 &&& (2147483647 : Int32)) % (6 : Int32)) ((p2 &&& (2147483647 : Int32)) % (5 : Int32))))] []))
          refine own_by (fun _ k => XS.iconst X16.here hx rfl (hb hby at_122) k) ?_
          show own_Fin p.tables e below _ (T16.setTop (mkF m 123 #[.val (.int p0), .val (.int p1), .val (.int p2), .val (.ref b1), .val (.int ((p1 &&& (2147483647 : Int32)) % (6 : Int32))), .val (.int ((p2 &&& (2147483647 : Int32)) % (5 : Int32))), .val (.int (0 : Int32)), .val (.int (f2 (4 : Int32) (own_upd (own_upd (own_upd (own_upd (fun _ => (0 : Int32)) (0 : Int32) ((p0.toInt8.toInt32).toInt8.toInt32)) (1 : Int32) (((p0 >>> ((8 : Int32) &&& 31)).toInt8.toInt32).toInt8.toInt32)) (2 : Int32) (((p0 >>> ((16 : Int32) &&& 31)).toInt8.toInt32).toInt8.toInt32)) (3 : Int32) ((((p0.toUInt32 >>> ((24 : Int32) &&& 31).toUInt32).toInt32).toInt8.toInt32).toInt8.toInt32)) ((p1 &&& (2147483647 : Int32)) % (6 : Int32)) ((p2 &&& (2147483647 : Int32)) % (5 : Int32))))] [(.int (1 : Int32))]))
          refine own_by (fun _ k => XS.goto X16.here hx rfl (pc0 := 123) (pc' := 127) rfl (hb hby at_123) (by decide) (by decide) k) ?_
          show own_Fin p.tables e below _ (T16.setTop (mkF m 127 #[.val (.int p0), .val (.int p1), .val (.int p2), .val (.ref b1), .val (.int ((p1 &&& (2147483647 : Int32)) % (6 : Int32))), .val (.int ((p2 &&& (2147483647 : Int32)) % (5 : Int32))), .val (.int (0 : Int32)), .val (.int (f2 (4 : Int32) (own_upd (own_upd (own_upd (own_upd (fun _ => (0 : Int32)) (0 : Int32) ((p0.toInt8.toInt32).toInt8.toInt32)) (1 : Int32) (((p0 >>> ((8 : Int32) &&& 31)).toInt8.toInt32).toInt8.toInt32)) (2 : Int32) (((p0 >>> ((16 : Int32) &&& 31)).toInt8.toInt32).toInt8.toInt32)) (3 : Int32) ((((p0.toUInt32 >>> ((24 : Int32) &&& 31).toUInt32).toInt32).toInt8.toInt32).toInt8.toInt32)) ((p1 &&& (2147483647 : Int32)) % (6 : Int32)) ((p2 &&& (2147483647 : Int32)) % (5 : Int32))))] [(.int (1 : Int32))]))
          have ef : f0 p0 p1 p2 = (1 : Int32) := by unfold f0; rw [if_neg hc7, if_neg hc11, if_pos hc15, if_pos hc17]
          exact own_retN X16 hx (t := .boolean) Bd.returns hlk (by simp) (hb hby at_127) (by decide) (by decide) ⟨by rw [ef]; rfl, N16⟩
        · refine own_by (fun _ k => XS.icmpYes X16.here hx rfl (pc0 := 119) (pc' := 126) rfl (hb hby at_119) rfl (feq hc17).2 (by decide) (by decide) k) ?_
          show own_Fin p.tables e below _ (T16.setTop (mkF m 126 #[.val (.int p0), .val (.int p1), .val (.int p2), .val (.ref b1), .val (.int ((p1 &&& (2147483647 : Int32)) % (6 : Int32))), .val (.int ((p2 &&& (2147483647 : Int32)) % (5 : Int32))), .val (.int (0 : Int32)), .val (.int (f2 (4 : Int32) (own_upd (own_upd (own_upd (own_upd (fun _ => (0 : Int32)) (0 : Int32) ((p0.toInt8.toInt32).toInt8.toInt32)) (1 : Int32) (((p0 >>> ((8 : Int32) &&& 31)).toInt8.toInt32).toInt8.toInt32)) (2 : Int32) (((p0 >>> ((16 : Int32) &&& 31)).toInt8.toInt32).toInt8.toInt32)) (3 : Int32) ((((p0.toUInt32 >>> ((24 : Int32) &&& 31).toUInt32).toInt32).toInt8.toInt32).toInt8.toInt32)) ((p1 &&& (2147483647 : Int32)) % (6 : Int32)) ((p2 &&& (2147483647 : Int32)) % (5 : Int32))))] []))
          refine own_by (fun _ k => XS.iconst X16.here hx rfl (hb hby at_126) k) ?_
          show own_Fin p.tables e below _ (T16.setTop (mkF m 127 #[.val (.int p0), .val (.int p1), .val (.int p2), .val (.ref b1), .val (.int ((p1 &&& (2147483647 : Int32)) % (6 : Int32))), .val (.int ((p2 &&& (2147483647 : Int32)) % (5 : Int32))), .val (.int (0 : Int32)), .val (.int (f2 (4 : Int32) (own_upd (own_upd (own_upd (own_upd (fun _ => (0 : Int32)) (0 : Int32) ((p0.toInt8.toInt32).toInt8.toInt32)) (1 : Int32) (((p0 >>> ((8 : Int32) &&& 31)).toInt8.toInt32).toInt8.toInt32)) (2 : Int32) (((p0 >>> ((16 : Int32) &&& 31)).toInt8.toInt32).toInt8.toInt32)) (3 : Int32) ((((p0.toUInt32 >>> ((24 : Int32) &&& 31).toUInt32).toInt32).toInt8.toInt32).toInt8.toInt32)) ((p1 &&& (2147483647 : Int32)) % (6 : Int32)) ((p2 &&& (2147483647 : Int32)) % (5 : Int32))))] [(.int (0 : Int32))]))
          have ef : f0 p0 p1 p2 = (0 : Int32) := by unfold f0; rw [if_neg hc7, if_neg hc11, if_pos hc15, if_neg hc17]
          exact own_retN X16 hx (t := .boolean) Bd.returns hlk (by simp) (hb hby at_127) (by decide) (by decide) ⟨by rw [ef]; rfl, N16⟩
      · refine own_by (fun _ k => XS.ifNo X14.here hx rfl (hb hby at_83) rfl ((if0 _ _).trans (feq hc15).1) k) ?_
        show own_Fin p.tables e below _ (T14.setTop (mkF m 86 #[.val (.int p0), .val (.int p1), .val (.int p2), .val (.ref b1), .val (.int ((p1 &&& (2147483647 : Int32)) % (6 : Int32))), .val (.int ((p2 &&& (2147483647 : Int32)) % (5 : Int32))), .unset, .unset] []))
        refine own_by (fun _ k => XS.aloadN X14.here hx rfl (hb hby at_86) rfl rfl k) ?_
        show own_Fin p.tables e below _ (T14.setTop (mkF m 87 #[.val (.int p0), .val (.int p1), .val (.int p2), .val (.ref b1), .val (.int ((p1 &&& (2147483647 : Int32)) % (6 : Int32))), .val (.int ((p2 &&& (2147483647 : Int32)) % (5 : Int32))), .unset, .unset] [(.ref b1)]))
        refine own_by (fun _ k => XS.iconst X14.here hx rfl (hb hby at_87) k) ?_
        show own_Fin p.tables e below _ (T14.setTop (mkF m 88 #[.val (.int p0), .val (.int p1), .val (.int p2), .val (.ref b1), .val (.int ((p1 &&& (2147483647 : Int32)) % (6 : Int32))), .val (.int ((p2 &&& (2147483647 : Int32)) % (5 : Int32))), .unset, .unset] [(.int (3 : Int32)), (.ref b1)]))
        refine own_by (fun _ k => XS.iload X14.here hx rfl (hb hby at_88) rfl k) ?_
        show own_Fin p.tables e below _ (T14.setTop (mkF m 90 #[.val (.int p0), .val (.int p1), .val (.int p2), .val (.ref b1), .val (.int ((p1 &&& (2147483647 : Int32)) % (6 : Int32))), .val (.int ((p2 &&& (2147483647 : Int32)) % (5 : Int32))), .unset, .unset] [(.int ((p1 &&& (2147483647 : Int32)) % (6 : Int32))), (.int (3 : Int32)), (.ref b1)]))
        refine own_by (fun _ k => XS.iload X14.here hx rfl (hb hby at_90) rfl k) ?_
        show own_Fin p.tables e below _ (T14.setTop (mkF m 92 #[.val (.int p0), .val (.int p1), .val (.int p2), .val (.ref b1), .val (.int ((p1 &&& (2147483647 : Int32)) % (6 : Int32))), .val (.int ((p2 &&& (2147483647 : Int32)) % (5 : Int32))), .unset, .unset] [(.int ((p2 &&& (2147483647 : Int32)) % (5 : Int32))), (.int ((p1 &&& (2147483647 : Int32)) % (6 : Int32))), (.int (3 : Int32)), (.ref b1)]))
        obtain ⟨_, _, ⟨T18, L18, k18, n18⟩, -, X18, ⟨Lc18, hQ18, l18, y18, z18⟩, st18⟩ := Jvm.LawKit.callS X14 hx (y := (⟨"com/example/twinshelf/twinshelf/records/MarcFormatDigitsPinLaw", "ok", "([BIII)Z"⟩ : MethodName)) hown (mvT hZ (hw _ (List.mem_of_getElem? (i := 2) rfl))) (mvT hZ (hw _ (List.mem_of_getElem? (i := 3) rfl))) (mvT hZ (hw _ (List.mem_of_getElem? (i := 4) rfl))) (mvT hZ (hw _ (List.mem_of_getElem? (i := 5) rfl))) (by decide) (backOf (W := 0) (rm1 l Z a0 hw [] b1 (3 : Int32) ((p1 &&& (2147483647 : Int32)) % (6 : Int32)) ((p2 &&& (2147483647 : Int32)) % (5 : Int32)) (4 : Int32) ((own_upd (own_upd (own_upd (own_upd (fun _ => (0 : Int32)) (0 : Int32) ((p0.toInt8.toInt32).toInt8.toInt32)) (1 : Int32) (((p0 >>> ((8 : Int32) &&& 31)).toInt8.toInt32).toInt8.toInt32)) (2 : Int32) (((p0 >>> ((16 : Int32) &&& 31)).toInt8.toInt32).toInt8.toInt32)) (3 : Int32) ((((p0.toUInt32 >>> ((24 : Int32) &&& 31).toUInt32).toInt32).toInt8.toInt32).toInt8.toInt32))) h5 n0 Z5 V5 (by decide) (by decide)) hZ (hw _ (List.mem_of_getElem? (i := 5) rfl)) (hw _ (List.mem_of_getElem? (i := 4) rfl)) (by decide) (by decide)) (g := (mkF m 92 #[.val (.int p0), .val (.int p1), .val (.int p2), .val (.ref b1), .val (.int ((p1 &&& (2147483647 : Int32)) % (6 : Int32))), .val (.int ((p2 &&& (2147483647 : Int32)) % (5 : Int32))), .unset, .unset] [(.int ((p2 &&& (2147483647 : Int32)) % (5 : Int32))), (.int ((p1 &&& (2147483647 : Int32)) % (6 : Int32))), (.int (3 : Int32)), (.ref b1)])) rfl (by rw [hml]; rfl) (argsL := [(.ref b1), (.int (3 : Int32)), (.int ((p1 &&& (2147483647 : Int32)) % (6 : Int32))), (.int ((p2 &&& (2147483647 : Int32)) % (5 : Int32)))]) (rest := []) (lenOf pd___BIII_Z rfl) rfl (by show 2 * 0 + _ ≤ _; exact Nat.le_of_eq rfl) (hb hby at_92) (fun _ _ => ⟨rfl, e14, (by decide : 1 + 0 ≤ _), (by decide : 4 + 0 ≤ _)⟩)
        dsimp only [Pt.U, Pt.locs, Pt.cells, Pt.slots] at X18 l18 y18 z18 st18 hQ18
        subst l18 y18 z18
        obtain ⟨rfl, N18q, e18⟩ := hQ18
        have N18 := Fr.app N14 N18q
        refine own_by st18 ?_
        show own_Fin p.tables e below _ (T18.setTop (mkF m 95 #[.val (.int p0), .val (.int p1), .val (.int p2), .val (.ref b1), .val (.int ((p1 &&& (2147483647 : Int32)) % (6 : Int32))), .val (.int ((p2 &&& (2147483647 : Int32)) % (5 : Int32))), .unset, .unset] [(.int (f1 (4 : Int32) (own_upd (own_upd (own_upd (own_upd (fun _ => (0 : Int32)) (0 : Int32) ((p0.toInt8.toInt32).toInt8.toInt32)) (1 : Int32) (((p0 >>> ((8 : Int32) &&& 31)).toInt8.toInt32).toInt8.toInt32)) (2 : Int32) (((p0 >>> ((16 : Int32) &&& 31)).toInt8.toInt32).toInt8.toInt32)) (3 : Int32) ((((p0.toUInt32 >>> ((24 : Int32) &&& 31).toUInt32).toInt32).toInt8.toInt32).toInt8.toInt32)) (3 : Int32) ((p1 &&& (2147483647 : Int32)) % (6 : Int32)) ((p2 &&& (2147483647 : Int32)) % (5 : Int32))))]))
        by_cases hc19 : (f1 (4 : Int32) (own_upd (own_upd (own_upd (own_upd (fun _ => (0 : Int32)) (0 : Int32) ((p0.toInt8.toInt32).toInt8.toInt32)) (1 : Int32) (((p0 >>> ((8 : Int32) &&& 31)).toInt8.toInt32).toInt8.toInt32)) (2 : Int32) (((p0 >>> ((16 : Int32) &&& 31)).toInt8.toInt32).toInt8.toInt32)) (3 : Int32) ((((p0.toUInt32 >>> ((24 : Int32) &&& 31).toUInt32).toInt32).toInt8.toInt32).toInt8.toInt32)) (3 : Int32) ((p1 &&& (2147483647 : Int32)) % (6 : Int32)) ((p2 &&& (2147483647 : Int32)) % (5 : Int32))) = (0 : Int32)
        · refine own_by (fun _ k => XS.ifYes X18.here hx rfl (pc0 := 95) (pc' := 102) rfl (hb hby at_95) rfl ((if0 _ _).trans (teq hc19).1) (by decide) (by decide) k) ?_
          show own_Fin p.tables e below _ (T18.setTop (mkF m 102 #[.val (.int p0), .val (.int p1), .val (.int p2), .val (.ref b1), .val (.int ((p1 &&& (2147483647 : Int32)) % (6 : Int32))), .val (.int ((p2 &&& (2147483647 : Int32)) % (5 : Int32))), .unset, .unset] []))
          refine own_by (fun _ k => XS.iconst X18.here hx rfl (hb hby at_102) k) ?_
          show own_Fin p.tables e below _ (T18.setTop (mkF m 103 #[.val (.int p0), .val (.int p1), .val (.int p2), .val (.ref b1), .val (.int ((p1 &&& (2147483647 : Int32)) % (6 : Int32))), .val (.int ((p2 &&& (2147483647 : Int32)) % (5 : Int32))), .unset, .unset] [(.int (0 : Int32))]))
          refine own_by (fun _ k => XS.istore X18.here hx rfl (hb hby at_103) rfl (l' := #[.val (.int p0), .val (.int p1), .val (.int p2), .val (.ref b1), .val (.int ((p1 &&& (2147483647 : Int32)) % (6 : Int32))), .val (.int ((p2 &&& (2147483647 : Int32)) % (5 : Int32))), .val (.int (0 : Int32)), .unset]) rfl k) ?_
          show own_Fin p.tables e below _ (T18.setTop (mkF m 105 #[.val (.int p0), .val (.int p1), .val (.int p2), .val (.ref b1), .val (.int ((p1 &&& (2147483647 : Int32)) % (6 : Int32))), .val (.int ((p2 &&& (2147483647 : Int32)) % (5 : Int32))), .val (.int (0 : Int32)), .unset] []))
          refine own_by (fun _ k => XS.aloadN X18.here hx rfl (hb hby at_105) rfl rfl k) ?_
          show own_Fin p.tables e below _ (T18.setTop (mkF m 106 #[.val (.int p0), .val (.int p1), .val (.int p2), .val (.ref b1), .val (.int ((p1 &&& (2147483647 : Int32)) % (6 : Int32))), .val (.int ((p2 &&& (2147483647 : Int32)) % (5 : Int32))), .val (.int (0 : Int32)), .unset] [(.ref b1)]))
          refine own_by (fun _ k => XS.iload X18.here hx rfl (hb hby at_106) rfl k) ?_
          show own_Fin p.tables e below _ (T18.setTop (mkF m 108 #[.val (.int p0), .val (.int p1), .val (.int p2), .val (.ref b1), .val (.int ((p1 &&& (2147483647 : Int32)) % (6 : Int32))), .val (.int ((p2 &&& (2147483647 : Int32)) % (5 : Int32))), .val (.int (0 : Int32)), .unset] [(.int ((p1 &&& (2147483647 : Int32)) % (6 : Int32))), (.ref b1)]))
          refine own_by (fun _ k => XS.iload X18.here hx rfl (hb hby at_108) rfl k) ?_
          show own_Fin p.tables e below _ (T18.setTop (mkF m 110 #[.val (.int p0), .val (.int p1), .val (.int p2), .val (.ref b1), .val (.int ((p1 &&& (2147483647 : Int32)) % (6 : Int32))), .val (.int ((p2 &&& (2147483647 : Int32)) % (5 : Int32))), .val (.int (0 : Int32)), .unset] [(.int ((p2 &&& (2147483647 : Int32)) % (5 : Int32))), (.int ((p1 &&& (2147483647 : Int32)) % (6 : Int32))), (.ref b1)]))
          obtain ⟨_, _, ⟨T20, L20, k20, n20⟩, -, X20, ⟨Lc20, hQ20, l20, y20, z20⟩, st20⟩ := Jvm.LawKit.callS X18 hx (y := (⟨"com/example/twinshelf/twinshelf/records/MarcFormat", "digits", "([BII)Z"⟩ : MethodName)) hown (mvT hZ (hw _ (List.mem_of_getElem? (i := 6) rfl))) (mvT hZ (hw _ (List.mem_of_getElem? (i := 7) rfl))) (mvT hZ (hw _ (List.mem_of_getElem? (i := 8) rfl))) (mvT hZ (hw _ (List.mem_of_getElem? (i := 9) rfl))) (by decide) (backOf (W := 0) (rm2 l Z a0 hw [] b1 ((p1 &&& (2147483647 : Int32)) % (6 : Int32)) ((p2 &&& (2147483647 : Int32)) % (5 : Int32)) (4 : Int32) ((own_upd (own_upd (own_upd (own_upd (fun _ => (0 : Int32)) (0 : Int32) ((p0.toInt8.toInt32).toInt8.toInt32)) (1 : Int32) (((p0 >>> ((8 : Int32) &&& 31)).toInt8.toInt32).toInt8.toInt32)) (2 : Int32) (((p0 >>> ((16 : Int32) &&& 31)).toInt8.toInt32).toInt8.toInt32)) (3 : Int32) ((((p0.toUInt32 >>> ((24 : Int32) &&& 31).toUInt32).toInt32).toInt8.toInt32).toInt8.toInt32))) h5 n0 Z5 V5 (by omega) (by omega) (by omega) (by decide)) hZ (hw _ (List.mem_of_getElem? (i := 9) rfl)) (hw _ (List.mem_of_getElem? (i := 8) rfl)) (by decide) (by decide)) (g := (mkF m 110 #[.val (.int p0), .val (.int p1), .val (.int p2), .val (.ref b1), .val (.int ((p1 &&& (2147483647 : Int32)) % (6 : Int32))), .val (.int ((p2 &&& (2147483647 : Int32)) % (5 : Int32))), .val (.int (0 : Int32)), .unset] [(.int ((p2 &&& (2147483647 : Int32)) % (5 : Int32))), (.int ((p1 &&& (2147483647 : Int32)) % (6 : Int32))), (.ref b1)])) rfl (by rw [hml]; rfl) (argsL := [(.ref b1), (.int ((p1 &&& (2147483647 : Int32)) % (6 : Int32))), (.int ((p2 &&& (2147483647 : Int32)) % (5 : Int32)))]) (rest := []) (lenOf pd___BII_Z rfl) rfl (by show 2 * 0 + _ ≤ _; exact Nat.le_of_eq rfl) (hb hby at_110) (fun _ _ => ⟨rfl, e18, (by decide : 1 + 0 ≤ _), (by decide : 4 + 0 ≤ _)⟩)
          dsimp only [Pt.U, Pt.locs, Pt.cells, Pt.slots] at X20 l20 y20 z20 st20 hQ20
          subst l20 y20 z20
          obtain ⟨rfl, N20q, e20⟩ := hQ20
          have N20 := Fr.app N18 N20q
          refine own_by st20 ?_
          show own_Fin p.tables e below _ (T20.setTop (mkF m 113 #[.val (.int p0), .val (.int p1), .val (.int p2), .val (.ref b1), .val (.int ((p1 &&& (2147483647 : Int32)) % (6 : Int32))), .val (.int ((p2 &&& (2147483647 : Int32)) % (5 : Int32))), .val (.int (0 : Int32)), .unset] [(.int (f2 (4 : Int32) (own_upd (own_upd (own_upd (own_upd (fun _ => (0 : Int32)) (0 : Int32) ((p0.toInt8.toInt32).toInt8.toInt32)) (1 : Int32) (((p0 >>> ((8 : Int32) &&& 31)).toInt8.toInt32).toInt8.toInt32)) (2 : Int32) (((p0 >>> ((16 : Int32) &&& 31)).toInt8.toInt32).toInt8.toInt32)) (3 : Int32) ((((p0.toUInt32 >>> ((24 : Int32) &&& 31).toUInt32).toInt32).toInt8.toInt32).toInt8.toInt32)) ((p1 &&& (2147483647 : Int32)) % (6 : Int32)) ((p2 &&& (2147483647 : Int32)) % (5 : Int32))))]))
          refine own_by (fun _ k => XS.istore X20.here hx rfl (hb hby at_113) rfl (l' := #[.val (.int p0), .val (.int p1), .val (.int p2), .val (.ref b1), .val (.int ((p1 &&& (2147483647 : Int32)) % (6 : Int32))), .val (.int ((p2 &&& (2147483647 : Int32)) % (5 : Int32))), .val (.int (0 : Int32)), .val (.int (f2 (4 : Int32) (own_upd (own_upd (own_upd (own_upd (fun _ => (0 : Int32)) (0 : Int32) ((p0.toInt8.toInt32).toInt8.toInt32)) (1 : Int32) (((p0 >>> ((8 : Int32) &&& 31)).toInt8.toInt32).toInt8.toInt32)) (2 : Int32) (((p0 >>> ((16 : Int32) &&& 31)).toInt8.toInt32).toInt8.toInt32)) (3 : Int32) ((((p0.toUInt32 >>> ((24 : Int32) &&& 31).toUInt32).toInt32).toInt8.toInt32).toInt8.toInt32)) ((p1 &&& (2147483647 : Int32)) % (6 : Int32)) ((p2 &&& (2147483647 : Int32)) % (5 : Int32))))]) rfl k) ?_
          show own_Fin p.tables e below _ (T20.setTop (mkF m 115 #[.val (.int p0), .val (.int p1), .val (.int p2), .val (.ref b1), .val (.int ((p1 &&& (2147483647 : Int32)) % (6 : Int32))), .val (.int ((p2 &&& (2147483647 : Int32)) % (5 : Int32))), .val (.int (0 : Int32)), .val (.int (f2 (4 : Int32) (own_upd (own_upd (own_upd (own_upd (fun _ => (0 : Int32)) (0 : Int32) ((p0.toInt8.toInt32).toInt8.toInt32)) (1 : Int32) (((p0 >>> ((8 : Int32) &&& 31)).toInt8.toInt32).toInt8.toInt32)) (2 : Int32) (((p0 >>> ((16 : Int32) &&& 31)).toInt8.toInt32).toInt8.toInt32)) (3 : Int32) ((((p0.toUInt32 >>> ((24 : Int32) &&& 31).toUInt32).toInt32).toInt8.toInt32).toInt8.toInt32)) ((p1 &&& (2147483647 : Int32)) % (6 : Int32)) ((p2 &&& (2147483647 : Int32)) % (5 : Int32))))] []))
          refine own_by (fun _ k => XS.iload X20.here hx rfl (hb hby at_115) rfl k) ?_
          show own_Fin p.tables e below _ (T20.setTop (mkF m 117 #[.val (.int p0), .val (.int p1), .val (.int p2), .val (.ref b1), .val (.int ((p1 &&& (2147483647 : Int32)) % (6 : Int32))), .val (.int ((p2 &&& (2147483647 : Int32)) % (5 : Int32))), .val (.int (0 : Int32)), .val (.int (f2 (4 : Int32) (own_upd (own_upd (own_upd (own_upd (fun _ => (0 : Int32)) (0 : Int32) ((p0.toInt8.toInt32).toInt8.toInt32)) (1 : Int32) (((p0 >>> ((8 : Int32) &&& 31)).toInt8.toInt32).toInt8.toInt32)) (2 : Int32) (((p0 >>> ((16 : Int32) &&& 31)).toInt8.toInt32).toInt8.toInt32)) (3 : Int32) ((((p0.toUInt32 >>> ((24 : Int32) &&& 31).toUInt32).toInt32).toInt8.toInt32).toInt8.toInt32)) ((p1 &&& (2147483647 : Int32)) % (6 : Int32)) ((p2 &&& (2147483647 : Int32)) % (5 : Int32))))] [(.int (f2 (4 : Int32) (own_upd (own_upd (own_upd (own_upd (fun _ => (0 : Int32)) (0 : Int32) ((p0.toInt8.toInt32).toInt8.toInt32)) (1 : Int32) (((p0 >>> ((8 : Int32) &&& 31)).toInt8.toInt32).toInt8.toInt32)) (2 : Int32) (((p0 >>> ((16 : Int32) &&& 31)).toInt8.toInt32).toInt8.toInt32)) (3 : Int32) ((((p0.toUInt32 >>> ((24 : Int32) &&& 31).toUInt32).toInt32).toInt8.toInt32).toInt8.toInt32)) ((p1 &&& (2147483647 : Int32)) % (6 : Int32)) ((p2 &&& (2147483647 : Int32)) % (5 : Int32))))]))
          refine own_by (fun _ k => XS.iload X20.here hx rfl (hb hby at_117) rfl k) ?_
          show own_Fin p.tables e below _ (T20.setTop (mkF m 119 #[.val (.int p0), .val (.int p1), .val (.int p2), .val (.ref b1), .val (.int ((p1 &&& (2147483647 : Int32)) % (6 : Int32))), .val (.int ((p2 &&& (2147483647 : Int32)) % (5 : Int32))), .val (.int (0 : Int32)), .val (.int (f2 (4 : Int32) (own_upd (own_upd (own_upd (own_upd (fun _ => (0 : Int32)) (0 : Int32) ((p0.toInt8.toInt32).toInt8.toInt32)) (1 : Int32) (((p0 >>> ((8 : Int32) &&& 31)).toInt8.toInt32).toInt8.toInt32)) (2 : Int32) (((p0 >>> ((16 : Int32) &&& 31)).toInt8.toInt32).toInt8.toInt32)) (3 : Int32) ((((p0.toUInt32 >>> ((24 : Int32) &&& 31).toUInt32).toInt32).toInt8.toInt32).toInt8.toInt32)) ((p1 &&& (2147483647 : Int32)) % (6 : Int32)) ((p2 &&& (2147483647 : Int32)) % (5 : Int32))))] [(.int (0 : Int32)), (.int (f2 (4 : Int32) (own_upd (own_upd (own_upd (own_upd (fun _ => (0 : Int32)) (0 : Int32) ((p0.toInt8.toInt32).toInt8.toInt32)) (1 : Int32) (((p0 >>> ((8 : Int32) &&& 31)).toInt8.toInt32).toInt8.toInt32)) (2 : Int32) (((p0 >>> ((16 : Int32) &&& 31)).toInt8.toInt32).toInt8.toInt32)) (3 : Int32) ((((p0.toUInt32 >>> ((24 : Int32) &&& 31).toUInt32).toInt32).toInt8.toInt32).toInt8.toInt32)) ((p1 &&& (2147483647 : Int32)) % (6 : Int32)) ((p2 &&& (2147483647 : Int32)) % (5 : Int32))))]))
          by_cases hc21 : (f2 (4 : Int32) (own_upd (own_upd (own_upd (own_upd (fun _ => (0 : Int32)) (0 : Int32) ((p0.toInt8.toInt32).toInt8.toInt32)) (1 : Int32) (((p0 >>> ((8 : Int32) &&& 31)).toInt8.toInt32).toInt8.toInt32)) (2 : Int32) (((p0 >>> ((16 : Int32) &&& 31)).toInt8.toInt32).toInt8.toInt32)) (3 : Int32) ((((p0.toUInt32 >>> ((24 : Int32) &&& 31).toUInt32).toInt32).toInt8.toInt32).toInt8.toInt32)) ((p1 &&& (2147483647 : Int32)) % (6 : Int32)) ((p2 &&& (2147483647 : Int32)) % (5 : Int32))) = (0 : Int32)
          · refine own_by (fun _ k => XS.icmpNo X20.here hx rfl (hb hby at_119) rfl (teq hc21).2 k) ?_
            show own_Fin p.tables e below _ (T20.setTop (mkF m 122 #[.val (.int p0), .val (.int p1), .val (.int p2), .val (.ref b1), .val (.int ((p1 &&& (2147483647 : Int32)) % (6 : Int32))), .val (.int ((p2 &&& (2147483647 : Int32)) % (5 : Int32))), .val (.int (0 : Int32)), .val (.int (f2 (4 : Int32) (own_upd (own_upd (own_upd (own_upd (fun _ => (0 : Int32)) (0 : Int32) ((p0.toInt8.toInt32).toInt8.toInt32)) (1 : Int32) (((p0 >>> ((8 : Int32) &&& 31)).toInt8.toInt32).toInt8.toInt32)) (2 : Int32) (((p0 >>> ((16 : Int32) &&& 31)).toInt8.toInt32).toInt8.toInt32)) (3 : Int32) ((((p0.toUInt32 >>> ((24 : Int32) &&& 31).toUInt32).toInt32).toInt8.toInt32).toInt8.toInt32)) ((p1 &&& (2147483647 : Int32)) % (6 : Int32)) ((p2 &&& (2147483647 : Int32)) % (5 : Int32))))] []))
            refine own_by (fun _ k => XS.iconst X20.here hx rfl (hb hby at_122) k) ?_
            show own_Fin p.tables e below _ (T20.setTop (mkF m 123 #[.val (.int p0), .val (.int p1), .val (.int p2), .val (.ref b1), .val (.int ((p1 &&& (2147483647 : Int32)) % (6 : Int32))), .val (.int ((p2 &&& (2147483647 : Int32)) % (5 : Int32))), .val (.int (0 : Int32)), .val (.int (f2 (4 : Int32) (own_upd (own_upd (own_upd (own_upd (fun _ => (0 : Int32)) (0 : Int32) ((p0.toInt8.toInt32).toInt8.toInt32)) (1 : Int32) (((p0 >>> ((8 : Int32) &&& 31)).toInt8.toInt32).toInt8.toInt32)) (2 : Int32) (((p0 >>> ((16 : Int32) &&& 31)).toInt8.toInt32).toInt8.toInt32)) (3 : Int32) ((((p0.toUInt32 >>> ((24 : Int32) &&& 31).toUInt32).toInt32).toInt8.toInt32).toInt8.toInt32)) ((p1 &&& (2147483647 : Int32)) % (6 : Int32)) ((p2 &&& (2147483647 : Int32)) % (5 : Int32))))] [(.int (1 : Int32))]))
            refine own_by (fun _ k => XS.goto X20.here hx rfl (pc0 := 123) (pc' := 127) rfl (hb hby at_123) (by decide) (by decide) k) ?_
            show own_Fin p.tables e below _ (T20.setTop (mkF m 127 #[.val (.int p0), .val (.int p1), .val (.int p2), .val (.ref b1), .val (.int ((p1 &&& (2147483647 : Int32)) % (6 : Int32))), .val (.int ((p2 &&& (2147483647 : Int32)) % (5 : Int32))), .val (.int (0 : Int32)), .val (.int (f2 (4 : Int32) (own_upd (own_upd (own_upd (own_upd (fun _ => (0 : Int32)) (0 : Int32) ((p0.toInt8.toInt32).toInt8.toInt32)) (1 : Int32) (((p0 >>> ((8 : Int32) &&& 31)).toInt8.toInt32).toInt8.toInt32)) (2 : Int32) (((p0 >>> ((16 : Int32) &&& 31)).toInt8.toInt32).toInt8.toInt32)) (3 : Int32) ((((p0.toUInt32 >>> ((24 : Int32) &&& 31).toUInt32).toInt32).toInt8.toInt32).toInt8.toInt32)) ((p1 &&& (2147483647 : Int32)) % (6 : Int32)) ((p2 &&& (2147483647 : Int32)) % (5 : Int32))))] [(.int (1 : Int32))]))
            have ef : f0 p0 p1 p2 = (1 : Int32) := by unfold f0; rw [if_neg hc7, if_neg hc11, if_neg hc15, if_pos hc19, if_pos hc21]
            exact own_retN X20 hx (t := .boolean) Bd.returns hlk (by simp) (hb hby at_127) (by decide) (by decide) ⟨by rw [ef]; rfl, N20⟩
          · refine own_by (fun _ k => XS.icmpYes X20.here hx rfl (pc0 := 119) (pc' := 126) rfl (hb hby at_119) rfl (feq hc21).2 (by decide) (by decide) k) ?_
            show own_Fin p.tables e below _ (T20.setTop (mkF m 126 #[.val (.int p0), .val (.int p1), .val (.int p2), .val (.ref b1), .val (.int ((p1 &&& (2147483647 : Int32)) % (6 : Int32))), .val (.int ((p2 &&& (2147483647 : Int32)) % (5 : Int32))), .val (.int (0 : Int32)), .val (.int (f2 (4 : Int32) (own_upd (own_upd (own_upd (own_upd (fun _ => (0 : Int32)) (0 : Int32) ((p0.toInt8.toInt32).toInt8.toInt32)) (1 : Int32) (((p0 >>> ((8 : Int32) &&& 31)).toInt8.toInt32).toInt8.toInt32)) (2 : Int32) (((p0 >>> ((16 : Int32) &&& 31)).toInt8.toInt32).toInt8.toInt32)) (3 : Int32) ((((p0.toUInt32 >>> ((24 : Int32) &&& 31).toUInt32).toInt32).toInt8.toInt32).toInt8.toInt32)) ((p1 &&& (2147483647 : Int32)) % (6 : Int32)) ((p2 &&& (2147483647 : Int32)) % (5 : Int32))))] []))
            refine own_by (fun _ k => XS.iconst X20.here hx rfl (hb hby at_126) k) ?_
            show own_Fin p.tables e below _ (T20.setTop (mkF m 127 #[.val (.int p0), .val (.int p1), .val (.int p2), .val (.ref b1), .val (.int ((p1 &&& (2147483647 : Int32)) % (6 : Int32))), .val (.int ((p2 &&& (2147483647 : Int32)) % (5 : Int32))), .val (.int (0 : Int32)), .val (.int (f2 (4 : Int32) (own_upd (own_upd (own_upd (own_upd (fun _ => (0 : Int32)) (0 : Int32) ((p0.toInt8.toInt32).toInt8.toInt32)) (1 : Int32) (((p0 >>> ((8 : Int32) &&& 31)).toInt8.toInt32).toInt8.toInt32)) (2 : Int32) (((p0 >>> ((16 : Int32) &&& 31)).toInt8.toInt32).toInt8.toInt32)) (3 : Int32) ((((p0.toUInt32 >>> ((24 : Int32) &&& 31).toUInt32).toInt32).toInt8.toInt32).toInt8.toInt32)) ((p1 &&& (2147483647 : Int32)) % (6 : Int32)) ((p2 &&& (2147483647 : Int32)) % (5 : Int32))))] [(.int (0 : Int32))]))
            have ef : f0 p0 p1 p2 = (0 : Int32) := by unfold f0; rw [if_neg hc7, if_neg hc11, if_neg hc15, if_pos hc19, if_neg hc21]
            exact own_retN X20 hx (t := .boolean) Bd.returns hlk (by simp) (hb hby at_127) (by decide) (by decide) ⟨by rw [ef]; rfl, N20⟩
        · refine own_by (fun _ k => XS.ifNo X18.here hx rfl (hb hby at_95) rfl ((if0 _ _).trans (feq hc19).1) k) ?_
          show own_Fin p.tables e below _ (T18.setTop (mkF m 98 #[.val (.int p0), .val (.int p1), .val (.int p2), .val (.ref b1), .val (.int ((p1 &&& (2147483647 : Int32)) % (6 : Int32))), .val (.int ((p2 &&& (2147483647 : Int32)) % (5 : Int32))), .unset, .unset] []))
          refine own_by (fun _ k => XS.iconst X18.here hx rfl (hb hby at_98) k) ?_
          show own_Fin p.tables e below _ (T18.setTop (mkF m 99 #[.val (.int p0), .val (.int p1), .val (.int p2), .val (.ref b1), .val (.int ((p1 &&& (2147483647 : Int32)) % (6 : Int32))), .val (.int ((p2 &&& (2147483647 : Int32)) % (5 : Int32))), .unset, .unset] [(.int (1 : Int32))]))
          refine own_by (fun _ k => XS.goto X18.here hx rfl (pc0 := 99) (pc' := 103) rfl (hb hby at_99) (by decide) (by decide) k) ?_
          show own_Fin p.tables e below _ (T18.setTop (mkF m 103 #[.val (.int p0), .val (.int p1), .val (.int p2), .val (.ref b1), .val (.int ((p1 &&& (2147483647 : Int32)) % (6 : Int32))), .val (.int ((p2 &&& (2147483647 : Int32)) % (5 : Int32))), .unset, .unset] [(.int (1 : Int32))]))
          refine own_by (fun _ k => XS.istore X18.here hx rfl (hb hby at_103) rfl (l' := #[.val (.int p0), .val (.int p1), .val (.int p2), .val (.ref b1), .val (.int ((p1 &&& (2147483647 : Int32)) % (6 : Int32))), .val (.int ((p2 &&& (2147483647 : Int32)) % (5 : Int32))), .val (.int (1 : Int32)), .unset]) rfl k) ?_
          show own_Fin p.tables e below _ (T18.setTop (mkF m 105 #[.val (.int p0), .val (.int p1), .val (.int p2), .val (.ref b1), .val (.int ((p1 &&& (2147483647 : Int32)) % (6 : Int32))), .val (.int ((p2 &&& (2147483647 : Int32)) % (5 : Int32))), .val (.int (1 : Int32)), .unset] []))
          refine own_by (fun _ k => XS.aloadN X18.here hx rfl (hb hby at_105) rfl rfl k) ?_
          show own_Fin p.tables e below _ (T18.setTop (mkF m 106 #[.val (.int p0), .val (.int p1), .val (.int p2), .val (.ref b1), .val (.int ((p1 &&& (2147483647 : Int32)) % (6 : Int32))), .val (.int ((p2 &&& (2147483647 : Int32)) % (5 : Int32))), .val (.int (1 : Int32)), .unset] [(.ref b1)]))
          refine own_by (fun _ k => XS.iload X18.here hx rfl (hb hby at_106) rfl k) ?_
          show own_Fin p.tables e below _ (T18.setTop (mkF m 108 #[.val (.int p0), .val (.int p1), .val (.int p2), .val (.ref b1), .val (.int ((p1 &&& (2147483647 : Int32)) % (6 : Int32))), .val (.int ((p2 &&& (2147483647 : Int32)) % (5 : Int32))), .val (.int (1 : Int32)), .unset] [(.int ((p1 &&& (2147483647 : Int32)) % (6 : Int32))), (.ref b1)]))
          refine own_by (fun _ k => XS.iload X18.here hx rfl (hb hby at_108) rfl k) ?_
          show own_Fin p.tables e below _ (T18.setTop (mkF m 110 #[.val (.int p0), .val (.int p1), .val (.int p2), .val (.ref b1), .val (.int ((p1 &&& (2147483647 : Int32)) % (6 : Int32))), .val (.int ((p2 &&& (2147483647 : Int32)) % (5 : Int32))), .val (.int (1 : Int32)), .unset] [(.int ((p2 &&& (2147483647 : Int32)) % (5 : Int32))), (.int ((p1 &&& (2147483647 : Int32)) % (6 : Int32))), (.ref b1)]))
          obtain ⟨_, _, ⟨T22, L22, k22, n22⟩, -, X22, ⟨Lc22, hQ22, l22, y22, z22⟩, st22⟩ := Jvm.LawKit.callS X18 hx (y := (⟨"com/example/twinshelf/twinshelf/records/MarcFormat", "digits", "([BII)Z"⟩ : MethodName)) hown (mvT hZ (hw _ (List.mem_of_getElem? (i := 6) rfl))) (mvT hZ (hw _ (List.mem_of_getElem? (i := 7) rfl))) (mvT hZ (hw _ (List.mem_of_getElem? (i := 8) rfl))) (mvT hZ (hw _ (List.mem_of_getElem? (i := 9) rfl))) (by decide) (backOf (W := 0) (rm2 l Z a0 hw [] b1 ((p1 &&& (2147483647 : Int32)) % (6 : Int32)) ((p2 &&& (2147483647 : Int32)) % (5 : Int32)) (4 : Int32) ((own_upd (own_upd (own_upd (own_upd (fun _ => (0 : Int32)) (0 : Int32) ((p0.toInt8.toInt32).toInt8.toInt32)) (1 : Int32) (((p0 >>> ((8 : Int32) &&& 31)).toInt8.toInt32).toInt8.toInt32)) (2 : Int32) (((p0 >>> ((16 : Int32) &&& 31)).toInt8.toInt32).toInt8.toInt32)) (3 : Int32) ((((p0.toUInt32 >>> ((24 : Int32) &&& 31).toUInt32).toInt32).toInt8.toInt32).toInt8.toInt32))) h5 n0 Z5 V5 (by omega) (by omega) (by omega) (by decide)) hZ (hw _ (List.mem_of_getElem? (i := 9) rfl)) (hw _ (List.mem_of_getElem? (i := 8) rfl)) (by decide) (by decide)) (g := (mkF m 110 #[.val (.int p0), .val (.int p1), .val (.int p2), .val (.ref b1), .val (.int ((p1 &&& (2147483647 : Int32)) % (6 : Int32))), .val (.int ((p2 &&& (2147483647 : Int32)) % (5 : Int32))), .val (.int (1 : Int32)), .unset] [(.int ((p2 &&& (2147483647 : Int32)) % (5 : Int32))), (.int ((p1 &&& (2147483647 : Int32)) % (6 : Int32))), (.ref b1)])) rfl (by rw [hml]; rfl) (argsL := [(.ref b1), (.int ((p1 &&& (2147483647 : Int32)) % (6 : Int32))), (.int ((p2 &&& (2147483647 : Int32)) % (5 : Int32)))]) (rest := []) (lenOf pd___BII_Z rfl) rfl (by show 2 * 0 + _ ≤ _; exact Nat.le_of_eq rfl) (hb hby at_110) (fun _ _ => ⟨rfl, e18, (by decide : 1 + 0 ≤ _), (by decide : 4 + 0 ≤ _)⟩)
          dsimp only [Pt.U, Pt.locs, Pt.cells, Pt.slots] at X22 l22 y22 z22 st22 hQ22
          subst l22 y22 z22
          obtain ⟨rfl, N22q, e22⟩ := hQ22
          have N22 := Fr.app N18 N22q
          refine own_by st22 ?_
          show own_Fin p.tables e below _ (T22.setTop (mkF m 113 #[.val (.int p0), .val (.int p1), .val (.int p2), .val (.ref b1), .val (.int ((p1 &&& (2147483647 : Int32)) % (6 : Int32))), .val (.int ((p2 &&& (2147483647 : Int32)) % (5 : Int32))), .val (.int (1 : Int32)), .unset] [(.int (f2 (4 : Int32) (own_upd (own_upd (own_upd (own_upd (fun _ => (0 : Int32)) (0 : Int32) ((p0.toInt8.toInt32).toInt8.toInt32)) (1 : Int32) (((p0 >>> ((8 : Int32) &&& 31)).toInt8.toInt32).toInt8.toInt32)) (2 : Int32) (((p0 >>> ((16 : Int32) &&& 31)).toInt8.toInt32).toInt8.toInt32)) (3 : Int32) ((((p0.toUInt32 >>> ((24 : Int32) &&& 31).toUInt32).toInt32).toInt8.toInt32).toInt8.toInt32)) ((p1 &&& (2147483647 : Int32)) % (6 : Int32)) ((p2 &&& (2147483647 : Int32)) % (5 : Int32))))]))
          refine own_by (fun _ k => XS.istore X22.here hx rfl (hb hby at_113) rfl (l' := #[.val (.int p0), .val (.int p1), .val (.int p2), .val (.ref b1), .val (.int ((p1 &&& (2147483647 : Int32)) % (6 : Int32))), .val (.int ((p2 &&& (2147483647 : Int32)) % (5 : Int32))), .val (.int (1 : Int32)), .val (.int (f2 (4 : Int32) (own_upd (own_upd (own_upd (own_upd (fun _ => (0 : Int32)) (0 : Int32) ((p0.toInt8.toInt32).toInt8.toInt32)) (1 : Int32) (((p0 >>> ((8 : Int32) &&& 31)).toInt8.toInt32).toInt8.toInt32)) (2 : Int32) (((p0 >>> ((16 : Int32) &&& 31)).toInt8.toInt32).toInt8.toInt32)) (3 : Int32) ((((p0.toUInt32 >>> ((24 : Int32) &&& 31).toUInt32).toInt32).toInt8.toInt32).toInt8.toInt32)) ((p1 &&& (2147483647 : Int32)) % (6 : Int32)) ((p2 &&& (2147483647 : Int32)) % (5 : Int32))))]) rfl k) ?_
          show own_Fin p.tables e below _ (T22.setTop (mkF m 115 #[.val (.int p0), .val (.int p1), .val (.int p2), .val (.ref b1), .val (.int ((p1 &&& (2147483647 : Int32)) % (6 : Int32))), .val (.int ((p2 &&& (2147483647 : Int32)) % (5 : Int32))), .val (.int (1 : Int32)), .val (.int (f2 (4 : Int32) (own_upd (own_upd (own_upd (own_upd (fun _ => (0 : Int32)) (0 : Int32) ((p0.toInt8.toInt32).toInt8.toInt32)) (1 : Int32) (((p0 >>> ((8 : Int32) &&& 31)).toInt8.toInt32).toInt8.toInt32)) (2 : Int32) (((p0 >>> ((16 : Int32) &&& 31)).toInt8.toInt32).toInt8.toInt32)) (3 : Int32) ((((p0.toUInt32 >>> ((24 : Int32) &&& 31).toUInt32).toInt32).toInt8.toInt32).toInt8.toInt32)) ((p1 &&& (2147483647 : Int32)) % (6 : Int32)) ((p2 &&& (2147483647 : Int32)) % (5 : Int32))))] []))
          refine own_by (fun _ k => XS.iload X22.here hx rfl (hb hby at_115) rfl k) ?_
          show own_Fin p.tables e below _ (T22.setTop (mkF m 117 #[.val (.int p0), .val (.int p1), .val (.int p2), .val (.ref b1), .val (.int ((p1 &&& (2147483647 : Int32)) % (6 : Int32))), .val (.int ((p2 &&& (2147483647 : Int32)) % (5 : Int32))), .val (.int (1 : Int32)), .val (.int (f2 (4 : Int32) (own_upd (own_upd (own_upd (own_upd (fun _ => (0 : Int32)) (0 : Int32) ((p0.toInt8.toInt32).toInt8.toInt32)) (1 : Int32) (((p0 >>> ((8 : Int32) &&& 31)).toInt8.toInt32).toInt8.toInt32)) (2 : Int32) (((p0 >>> ((16 : Int32) &&& 31)).toInt8.toInt32).toInt8.toInt32)) (3 : Int32) ((((p0.toUInt32 >>> ((24 : Int32) &&& 31).toUInt32).toInt32).toInt8.toInt32).toInt8.toInt32)) ((p1 &&& (2147483647 : Int32)) % (6 : Int32)) ((p2 &&& (2147483647 : Int32)) % (5 : Int32))))] [(.int (f2 (4 : Int32) (own_upd (own_upd (own_upd (own_upd (fun _ => (0 : Int32)) (0 : Int32) ((p0.toInt8.toInt32).toInt8.toInt32)) (1 : Int32) (((p0 >>> ((8 : Int32) &&& 31)).toInt8.toInt32).toInt8.toInt32)) (2 : Int32) (((p0 >>> ((16 : Int32) &&& 31)).toInt8.toInt32).toInt8.toInt32)) (3 : Int32) ((((p0.toUInt32 >>> ((24 : Int32) &&& 31).toUInt32).toInt32).toInt8.toInt32).toInt8.toInt32)) ((p1 &&& (2147483647 : Int32)) % (6 : Int32)) ((p2 &&& (2147483647 : Int32)) % (5 : Int32))))]))
          refine own_by (fun _ k => XS.iload X22.here hx rfl (hb hby at_117) rfl k) ?_
          show own_Fin p.tables e below _ (T22.setTop (mkF m 119 #[.val (.int p0), .val (.int p1), .val (.int p2), .val (.ref b1), .val (.int ((p1 &&& (2147483647 : Int32)) % (6 : Int32))), .val (.int ((p2 &&& (2147483647 : Int32)) % (5 : Int32))), .val (.int (1 : Int32)), .val (.int (f2 (4 : Int32) (own_upd (own_upd (own_upd (own_upd (fun _ => (0 : Int32)) (0 : Int32) ((p0.toInt8.toInt32).toInt8.toInt32)) (1 : Int32) (((p0 >>> ((8 : Int32) &&& 31)).toInt8.toInt32).toInt8.toInt32)) (2 : Int32) (((p0 >>> ((16 : Int32) &&& 31)).toInt8.toInt32).toInt8.toInt32)) (3 : Int32) ((((p0.toUInt32 >>> ((24 : Int32) &&& 31).toUInt32).toInt32).toInt8.toInt32).toInt8.toInt32)) ((p1 &&& (2147483647 : Int32)) % (6 : Int32)) ((p2 &&& (2147483647 : Int32)) % (5 : Int32))))] [(.int (1 : Int32)), (.int (f2 (4 : Int32) (own_upd (own_upd (own_upd (own_upd (fun _ => (0 : Int32)) (0 : Int32) ((p0.toInt8.toInt32).toInt8.toInt32)) (1 : Int32) (((p0 >>> ((8 : Int32) &&& 31)).toInt8.toInt32).toInt8.toInt32)) (2 : Int32) (((p0 >>> ((16 : Int32) &&& 31)).toInt8.toInt32).toInt8.toInt32)) (3 : Int32) ((((p0.toUInt32 >>> ((24 : Int32) &&& 31).toUInt32).toInt32).toInt8.toInt32).toInt8.toInt32)) ((p1 &&& (2147483647 : Int32)) % (6 : Int32)) ((p2 &&& (2147483647 : Int32)) % (5 : Int32))))]))
          by_cases hc23 : (f2 (4 : Int32) (own_upd (own_upd (own_upd (own_upd (fun _ => (0 : Int32)) (0 : Int32) ((p0.toInt8.toInt32).toInt8.toInt32)) (1 : Int32) (((p0 >>> ((8 : Int32) &&& 31)).toInt8.toInt32).toInt8.toInt32)) (2 : Int32) (((p0 >>> ((16 : Int32) &&& 31)).toInt8.toInt32).toInt8.toInt32)) (3 : Int32) ((((p0.toUInt32 >>> ((24 : Int32) &&& 31).toUInt32).toInt32).toInt8.toInt32).toInt8.toInt32)) ((p1 &&& (2147483647 : Int32)) % (6 : Int32)) ((p2 &&& (2147483647 : Int32)) % (5 : Int32))) = (1 : Int32)
          · refine own_by (fun _ k => XS.icmpNo X22.here hx rfl (hb hby at_119) rfl (teq hc23).2 k) ?_
            show own_Fin p.tables e below _ (T22.setTop (mkF m 122 #[.val (.int p0), .val (.int p1), .val (.int p2), .val (.ref b1), .val (.int ((p1 &&& (2147483647 : Int32)) % (6 : Int32))), .val (.int ((p2 &&& (2147483647 : Int32)) % (5 : Int32))), .val (.int (1 : Int32)), .val (.int (f2 (4 : Int32) (own_upd (own_upd (own_upd (own_upd (fun _ => (0 : Int32)) (0 : Int32) ((p0.toInt8.toInt32).toInt8.toInt32)) (1 : Int32) (((p0 >>> ((8 : Int32) &&& 31)).toInt8.toInt32).toInt8.toInt32)) (2 : Int32) (((p0 >>> ((16 : Int32) &&& 31)).toInt8.toInt32).toInt8.toInt32)) (3 : Int32) ((((p0.toUInt32 >>> ((24 : Int32) &&& 31).toUInt32).toInt32).toInt8.toInt32).toInt8.toInt32)) ((p1 &&& (2147483647 : Int32)) % (6 : Int32)) ((p2 &&& (2147483647 : Int32)) % (5 : Int32))))] []))
            refine own_by (fun _ k => XS.iconst X22.here hx rfl (hb hby at_122) k) ?_
            show own_Fin p.tables e below _ (T22.setTop (mkF m 123 #[.val (.int p0), .val (.int p1), .val (.int p2), .val (.ref b1), .val (.int ((p1 &&& (2147483647 : Int32)) % (6 : Int32))), .val (.int ((p2 &&& (2147483647 : Int32)) % (5 : Int32))), .val (.int (1 : Int32)), .val (.int (f2 (4 : Int32) (own_upd (own_upd (own_upd (own_upd (fun _ => (0 : Int32)) (0 : Int32) ((p0.toInt8.toInt32).toInt8.toInt32)) (1 : Int32) (((p0 >>> ((8 : Int32) &&& 31)).toInt8.toInt32).toInt8.toInt32)) (2 : Int32) (((p0 >>> ((16 : Int32) &&& 31)).toInt8.toInt32).toInt8.toInt32)) (3 : Int32) ((((p0.toUInt32 >>> ((24 : Int32) &&& 31).toUInt32).toInt32).toInt8.toInt32).toInt8.toInt32)) ((p1 &&& (2147483647 : Int32)) % (6 : Int32)) ((p2 &&& (2147483647 : Int32)) % (5 : Int32))))] [(.int (1 : Int32))]))
            refine own_by (fun _ k => XS.goto X22.here hx rfl (pc0 := 123) (pc' := 127) rfl (hb hby at_123) (by decide) (by decide) k) ?_
            show own_Fin p.tables e below _ (T22.setTop (mkF m 127 #[.val (.int p0), .val (.int p1), .val (.int p2), .val (.ref b1), .val (.int ((p1 &&& (2147483647 : Int32)) % (6 : Int32))), .val (.int ((p2 &&& (2147483647 : Int32)) % (5 : Int32))), .val (.int (1 : Int32)), .val (.int (f2 (4 : Int32) (own_upd (own_upd (own_upd (own_upd (fun _ => (0 : Int32)) (0 : Int32) ((p0.toInt8.toInt32).toInt8.toInt32)) (1 : Int32) (((p0 >>> ((8 : Int32) &&& 31)).toInt8.toInt32).toInt8.toInt32)) (2 : Int32) (((p0 >>> ((16 : Int32) &&& 31)).toInt8.toInt32).toInt8.toInt32)) (3 : Int32) ((((p0.toUInt32 >>> ((24 : Int32) &&& 31).toUInt32).toInt32).toInt8.toInt32).toInt8.toInt32)) ((p1 &&& (2147483647 : Int32)) % (6 : Int32)) ((p2 &&& (2147483647 : Int32)) % (5 : Int32))))] [(.int (1 : Int32))]))
            have ef : f0 p0 p1 p2 = (1 : Int32) := by unfold f0; rw [if_neg hc7, if_neg hc11, if_neg hc15, if_neg hc19, if_pos hc23]
            exact own_retN X22 hx (t := .boolean) Bd.returns hlk (by simp) (hb hby at_127) (by decide) (by decide) ⟨by rw [ef]; rfl, N22⟩
          · refine own_by (fun _ k => XS.icmpYes X22.here hx rfl (pc0 := 119) (pc' := 126) rfl (hb hby at_119) rfl (feq hc23).2 (by decide) (by decide) k) ?_
            show own_Fin p.tables e below _ (T22.setTop (mkF m 126 #[.val (.int p0), .val (.int p1), .val (.int p2), .val (.ref b1), .val (.int ((p1 &&& (2147483647 : Int32)) % (6 : Int32))), .val (.int ((p2 &&& (2147483647 : Int32)) % (5 : Int32))), .val (.int (1 : Int32)), .val (.int (f2 (4 : Int32) (own_upd (own_upd (own_upd (own_upd (fun _ => (0 : Int32)) (0 : Int32) ((p0.toInt8.toInt32).toInt8.toInt32)) (1 : Int32) (((p0 >>> ((8 : Int32) &&& 31)).toInt8.toInt32).toInt8.toInt32)) (2 : Int32) (((p0 >>> ((16 : Int32) &&& 31)).toInt8.toInt32).toInt8.toInt32)) (3 : Int32) ((((p0.toUInt32 >>> ((24 : Int32) &&& 31).toUInt32).toInt32).toInt8.toInt32).toInt8.toInt32)) ((p1 &&& (2147483647 : Int32)) % (6 : Int32)) ((p2 &&& (2147483647 : Int32)) % (5 : Int32))))] []))
            refine own_by (fun _ k => XS.iconst X22.here hx rfl (hb hby at_126) k) ?_
            show own_Fin p.tables e below _ (T22.setTop (mkF m 127 #[.val (.int p0), .val (.int p1), .val (.int p2), .val (.ref b1), .val (.int ((p1 &&& (2147483647 : Int32)) % (6 : Int32))), .val (.int ((p2 &&& (2147483647 : Int32)) % (5 : Int32))), .val (.int (1 : Int32)), .val (.int (f2 (4 : Int32) (own_upd (own_upd (own_upd (own_upd (fun _ => (0 : Int32)) (0 : Int32) ((p0.toInt8.toInt32).toInt8.toInt32)) (1 : Int32) (((p0 >>> ((8 : Int32) &&& 31)).toInt8.toInt32).toInt8.toInt32)) (2 : Int32) (((p0 >>> ((16 : Int32) &&& 31)).toInt8.toInt32).toInt8.toInt32)) (3 : Int32) ((((p0.toUInt32 >>> ((24 : Int32) &&& 31).toUInt32).toInt32).toInt8.toInt32).toInt8.toInt32)) ((p1 &&& (2147483647 : Int32)) % (6 : Int32)) ((p2 &&& (2147483647 : Int32)) % (5 : Int32))))] [(.int (0 : Int32))]))
            have ef : f0 p0 p1 p2 = (0 : Int32) := by unfold f0; rw [if_neg hc7, if_neg hc11, if_neg hc15, if_neg hc19, if_neg hc23]
            exact own_retN X22 hx (t := .boolean) Bd.returns hlk (by simp) (hb hby at_127) (by decide) (by decide) ⟨by rw [ef]; rfl, N22⟩
theorem own_fin (n : Nat) (v : Int32) (h0 : 0 ≤ v.toInt) (h1 : v.toInt < n) (hn : n ≤ 65536) : ∃ k : Fin n, v = Int32.ofNat k.1 := by
  refine ⟨⟨v.toInt.toNat, by omega⟩, ?_⟩
  apply Int32.toInt_inj.mp
  rw [Int32.toInt_ofNat_of_lt (by show v.toInt.toNat < 2 ^ 31; omega)]
  show v.toInt = ((v.toInt.toNat : Nat) : Int)
  omega
set_option maxHeartbeats 4000000 in
theorem own_core (B : Int32 → Int32) (fr to : Int32) (hf : fr ∈ [(0 : Int32), 1, 2, 3, 4, 5]) (ht : to ∈ [(0 : Int32), 1, 2, 3, 4]) :
    (f2 4 B fr to = 1 ∨ f2 4 B fr to = 0) ∧ (f2 4 B fr to = 1 ↔ ¬ f1 4 B 0 fr to = 0 ∧ ¬ f1 4 B 1 fr to = 0 ∧ ¬ f1 4 B 2 fr to = 0 ∧ ¬ f1 4 B 3 fr to = 0) := by
  simp only [List.mem_cons, List.not_mem_nil, or_false] at hf ht
  rcases hf with rfl | rfl | rfl | rfl | rfl | rfl <;> rcases ht with rfl | rfl | rfl | rfl | rfl <;> simp [f1, f2] <;> (repeat' split) <;> first | (simp_all; done) | (simp only [Int32.lt_iff_toInt_lt, Int32.le_iff_toInt_le] at *; omega) | (simp_all [Int32.lt_iff_toInt_lt, Int32.le_iff_toInt_le]; omega)
theorem own_law (p0 p1 p2 : Int32) : f0 p0 p1 p2 = 1 := by
  have m1 := c_mask p1 2147483647 31 (by decide) (by decide)
  have m2 := c_mask p2 2147483647 31 (by decide) (by decide)
  have i1 := (c_irem (p1 &&& (2147483647 : Int32)) (6 : Int32) 6 (by decide)).1 (by omega)
  have i2 := (c_irem (p2 &&& (2147483647 : Int32)) (5 : Int32) 5 (by decide)).1 (by omega)
  unfold f0
  generalize (p1 &&& 2147483647) % 6 = fr at *
  generalize (p2 &&& 2147483647) % 5 = to at *
  obtain ⟨i, rfl⟩ := own_fin 6 fr (by omega) (by omega) (by decide)
  obtain ⟨j, rfl⟩ := own_fin 5 to (by omega) (by omega) (by decide)
  have hi : ∀ i : Fin 6, Int32.ofNat i.1 ∈ [(0 : Int32), 1, 2, 3, 4, 5] := by decide
  have hj : ∀ i : Fin 5, Int32.ofNat i.1 ∈ [(0 : Int32), 1, 2, 3, 4] := by decide
  have q := fun B => own_core B _ _ (hi i) (hj j)
  generalize Int32.ofNat i.1 = fr at *
  generalize Int32.ofNat j.1 = to at *
  generalize own_upd _ _ _ = B
  obtain ⟨q1, q2⟩ := q B
  generalize f2 4 B fr to = w at *
  rcases q1 with rfl | rfl
  · obtain ⟨r1, r2, r3, r4⟩ := q2.mp rfl
    simp [r1, r2, r3, r4]
  · repeat' split
    all_goals simp_all
set_option maxRecDepth 65536 in
set_option maxHeartbeats 40000000 in
theorem comes_1 {Post : Tables → Env → Array Value → State → Outcome → State → Prop} (hpost : ∀ tb e args s v u, (limb_1_1.after args s (.returned v) u = true ∧ limb_1_2.after args s (.returned v) u = true ∧ True) → FrameEnd s (.returned v) u (Jvm.fieldLocs frame_1_writes args s ++ Jvm.arrayLocs frame_1_arrays args s ++ Jvm.staticLocs frame_1_statics s) 16 128 → Post tb e args s (.returned v) u) :
    ArmFor flags0 classFile x code maxLocals ret World_1 tables_1 room_1 Calls_1 rest_1 Pre_1 Post := by
  intro l hfl _ _ p e ha hc hk s m args below hf hA hF happ hP
  obtain ⟨hcalls, hrest, hpre⟩ := hP
  obtain ⟨-, -, -, hnamed, -, -, -, hat⟩ := (Spec.applies_iff hf).mp happ
  obtain ⟨hg, hn⟩ := and_e (Cond.before_iff.mp (show (Jvm.Cond.and given_1 narrow_1).before args s = true from hpre))
  obtain ⟨c0, r0⟩ := and_e hg
  obtain ⟨c1, r1⟩ := and_e r0
  obtain ⟨c2, r2⟩ := and_e r1
  obtain ⟨w0, w1, w2, rfl⟩ : ∃ w0 w1 w2 : Value, args = #[w0, w1, w2] := by
    have hs : args.size = 3 := by simpa [Cond.value, given_1] using c0
    obtain ⟨L⟩ := args
    match L, hs with
    | [w0, w1, w2], _ => exact ⟨w0, w1, w2, rfl⟩
  have hw := fun d (hd : d ∈ tables_1) => atoms_spec (ws := Jvm.Cond.code x code maxLocals ret :: tables_1) hat d (List.mem_cons_of_mem _ hd)
  obtain ⟨i0, ei0⟩ := is_v c1
  obtain rfl : w0 = (.int i0) := Option.some.inj ei0
  obtain ⟨i1, ei1⟩ := is_v c2
  obtain rfl : w1 = (.int i1) := Option.some.inj ei1
  obtain ⟨i2, ei2⟩ := is_v r2
  obtain rfl : w2 = (.int i2) := Option.some.inj ei2
  obtain ⟨n, o, h1, h2, h3, _, L, rfl, ⟨rfl, N⟩, hq⟩ := rm0 l s _ hw tables_1 i0 i1 i2 s.heap s.heap.size (Nat.le_refl _)  p e ha hc hk s m _ below hf ((Spec.applies_iff_loose hf).mp happ).1 ⟨rfl, State.Warmed39.refl s, rfl⟩ trivial
  refine ⟨n, _, h1, h2, h3, hpost _ _ _ _ _ _ ⟨Cond.after_iff.mpr rfl, Cond.after_iff.mpr (eq_i res_at (Term.int_eval (1)) (congrArg Value.int (own_law i0 i1 i2))), trivial⟩ ⟨hq.1, hq.2.1, (hq.2.2.sift fun y hy => Or.inr (N y hy)).mono (by decide) (by decide)⟩⟩
theorem main_1_1 : Claimed_1_1 := comes_1 fun _ _ _ _ _ _ h hF => ⟨h.1, hF⟩
theorem main_1_2 : Claimed_1_2 := comes_1 fun _ _ _ _ _ _ h hF => ⟨h.2.1, hF⟩
end Jvm.Pilot.@@N@@
namespace Jvm.Pilot.@@N@@
open Jvm Jvm.ClassFile Sem Op Lib Jvm.Free Jvm.Stand Jvm.Pilot.@@N@@.Jvm.D
/-! MADE BY PROGRAM (witnessworld.py) out of the Statement's table words and the real class files: 12 classes; the members and pool entries that the words name. The judged class is class 1, her method 1. -/
namespace start1
open Jvm.ClassFile
def u (s : String) : CpInfo := .utf8 (stringToUtf16 s)
/-- a pool by its gaps: so many unusable entries, then the entry; so many at the end -/
def gap : Nat → List CpInfo → List CpInfo
  | 0, r => r
  | n + 1, r => .unusable :: gap n r
def poolList (es : List (Nat × CpInfo)) (last : Nat) : List CpInfo := es.foldr (fun e r => gap e.1 (e.2 :: r)) (gap last [])
def pool (es : List (Nat × CpInfo)) (last : Nat) : Array CpInfo := ⟨poolList es last⟩
def fileOf (pool : Array CpInfo) (this : Nat) (attrs : Array Attribute := #[]) (ms : Array MethodInfo := #[]) (fl : Nat := 33) (sup : Nat := 0) (ifs : Array Nat := #[]) (fds : Array FieldInfo := #[]) : ClassFile where
  minorVersion := 0
  majorVersion := 65
  constantPool := pool
  accessFlags := fl
  thisClass := this
  superClass := sup
  interfaces := ifs
  fields := fds
  methods := ms
  attributes := attrs
def plain (name : String) (sup : Option ClassId) : Class where
  name := name
  kind := .ordinary
  loader := none
  accessFlags := 33
  super := sup
  interfaces := #[]
  cf := none
  fields := #[]
  methods := #[]
  instanceTypes := #[]
  staticTypes := #[]
  resolved := #[]
  callSites := []
  init := .initialized
  statics := none
  mirror := none

def pool0 : Array CpInfo := pool [(5, u "<init>"), (0, u "()V"), (1, .class_ 10), (1, u "java/lang/Object")] 113

def k0m0 : Method := { name := "<init>", desc := "()V", sig := { parameters := [], returnType := none }, accessFlags := 1, code := none }
/-- java/lang/Object -/
def k0 : Class := { plain "java/lang/Object" none with
  accessFlags := 33
  interfaces := #[]
  cf := some (fileOf pool0 8 #[] #[{ accessFlags := 1, nameIndex := 5, descriptorIndex := 6, attributes := #[] }] 33 0 #[] #[])
  fields := #[]
  methods := #[k0m0]
  instanceTypes := #[]
  staticTypes := #[]
  resolved := Array.replicate 124 none
  statics := none }

def pool1 : Array CpInfo := pool [(2, .class_ 4), (1, u "java/lang/Object"), (0, u "<init>"), (0, u "()V"), (0, .integer 2147483647), (0, .methodref 9 10), (0, .class_ 11), (0, .nameAndType 12 13), (0, u "com/example/twinshelf/twinshelf/records/MarcFormatDigitsPinLaw"), (0, u "ok"), (0, u "([BIII)Z"), (0, .methodref 15 16), (0, .class_ 17), (0, .nameAndType 18 19), (0, u "com/example/twinshelf/twinshelf/records/MarcFormat"), (0, u "digits"), (0, u "([BII)Z"), (2, u "law"), (0, u "(III)Z")] 5

def k1m0 : Method := { name := "<init>", desc := "()V", sig := { parameters := [], returnType := none }, accessFlags := 2, code := none }
def k1c1 : Code := { maxStack := 4, maxLocals := 8, code := code, exceptionTable := #[], attributes := #[] }
def k1m1 : Method := { name := "law", desc := "(III)Z", sig := { parameters := [.int, .int, .int], returnType := some .boolean }, accessFlags := 9, code := some k1c1 }
def k1c2 : Code := { maxStack := 2, maxLocals := 4, code := method_3_code, exceptionTable := #[], attributes := #[] }
def k1m2 : Method := { name := "ok", desc := "([BIII)Z", sig := { parameters := [(.array .byte), .int, .int, .int], returnType := some .boolean }, accessFlags := 10, code := some k1c2 }
/-- com/example/twinshelf/twinshelf/records/MarcFormatDigitsPinLaw -/
def k1 : Class := { plain "com/example/twinshelf/twinshelf/records/MarcFormatDigitsPinLaw" (some 0) with
  accessFlags := 49
  interfaces := #[]
  cf := some (fileOf pool1 9 #[] #[{ accessFlags := 2, nameIndex := 5, descriptorIndex := 6, attributes := #[] }, { accessFlags := 9, nameIndex := 22, descriptorIndex := 23, attributes := #[] }, { accessFlags := 10, nameIndex := 12, descriptorIndex := 13, attributes := #[] }] 49 2 #[] #[])
  fields := #[]
  methods := #[k1m0, k1m1, k1m2]
  instanceTypes := #[]
  staticTypes := #[]
  resolved := Array.replicate 29 none
  statics := none }

def pool2 : Array CpInfo := pool [(1, .class_ 2), (0, u "java/lang/constant/Constable"), (0, .class_ 4), (0, u "java/lang/Object")] 6

/-- java/lang/constant/Constable -/
def k2 : Class := { plain "java/lang/constant/Constable" (some 0) with
  accessFlags := 1537
  interfaces := #[]
  cf := some (fileOf pool2 1 #[] #[] 1537 3 #[] #[])
  fields := #[]
  methods := #[]
  instanceTypes := #[]
  staticTypes := #[]
  resolved := Array.replicate 11 none
  statics := none }

def pool3 : Array CpInfo := pool [(1, .class_ 2), (0, u "java/lang/Comparable"), (0, .class_ 4), (0, u "java/lang/Object")] 7

/-- java/lang/Comparable -/
def k3 : Class := { plain "java/lang/Comparable" (some 0) with
  accessFlags := 1537
  interfaces := #[]
  cf := some (fileOf pool3 1 #[] #[] 1537 3 #[] #[])
  fields := #[]
  methods := #[]
  instanceTypes := #[]
  staticTypes := #[]
  resolved := Array.replicate 12 none
  statics := none }

def pool4 : Array CpInfo := pool [(1, .class_ 2), (0, u "java/io/Serializable"), (0, .class_ 4), (0, u "java/lang/Object")] 2

/-- java/io/Serializable -/
def k4 : Class := { plain "java/io/Serializable" (some 0) with
  accessFlags := 1537
  interfaces := #[]
  cf := some (fileOf pool4 1 #[] #[] 1537 3 #[] #[])
  fields := #[]
  methods := #[]
  instanceTypes := #[]
  staticTypes := #[]
  resolved := Array.replicate 7 none
  statics := none }

def pool5 : Array CpInfo := pool [(2, .class_ 4), (1, u "java/lang/Enum"), (0, u "name"), (0, u "Ljava/lang/String;"), (2, u "ordinal"), (0, u "I"), (1, .class_ 14), (1, u "java/lang/Object"), (4, u "hash"), (86, .class_ 108), (1, u "java/lang/Enum$EnumDesc"), (2, .class_ 112), (0, u "java/lang/constant/Constable"), (0, .class_ 114), (0, u "java/lang/Comparable"), (0, .class_ 116), (0, u "java/io/Serializable")] 87

/-- java/lang/Enum -/
def k5 : Class := { plain "java/lang/Enum" (some 0) with
  accessFlags := 1057
  interfaces := #[2, 3, 4]
  cf := some (fileOf pool5 2 #[.nestMembers #[106]] #[] 1057 12 #[111, 113, 115] #[{ accessFlags := 18, nameIndex := 5, descriptorIndex := 6, attributes := #[] }, { accessFlags := 18, nameIndex := 9, descriptorIndex := 10, attributes := #[] }, { accessFlags := 2, nameIndex := 19, descriptorIndex := 10, attributes := #[] }])
  fields := #[{ name := "name", type := (.object "java/lang/String"), accessFlags := 18, slot := 0, constantValue := 0 }, { name := "ordinal", type := .int, accessFlags := 18, slot := 1, constantValue := 0 }, { name := "hash", type := .int, accessFlags := 2, slot := 2, constantValue := 0 }]
  methods := #[]
  instanceTypes := #[(.object "java/lang/String"), .int, .int]
  staticTypes := #[]
  resolved := Array.replicate 204 none
  statics := none }

def pool6 : Array CpInfo := pool [(1, .class_ 2), (0, u "com/example/twinshelf/twinshelf/records/MarcFormat"), (2, u "MARCXML"), (0, u "Lcom/example/twinshelf/twinshelf/records/MarcFormat;"), (2, u "ISO_2709"), (2, u "$VALUES"), (0, u "[Lcom/example/twinshelf/twinshelf/records/MarcFormat;"), (6, .class_ 22), (1, u "java/lang/Enum"), (69, u "digits"), (0, u "([BII)Z"), (53, u "SLIM_NAMESPACE"), (0, u "Ljava/lang/String;"), (1, u "LEADER_LENGTH"), (0, u "I")] 22

def k6c0 : Code := { maxStack := 2, maxLocals := 4, code := prog_24_method_6_code, exceptionTable := #[], attributes := #[] }
def k6m0 : Method := { name := "digits", desc := "([BII)Z", sig := { parameters := [(.array .byte), .int, .int], returnType := some .boolean }, accessFlags := 8, code := some k6c0 }
/-- com/example/twinshelf/twinshelf/records/MarcFormat -/
def k6 : Class := { plain "com/example/twinshelf/twinshelf/records/MarcFormat" (some 5) with
  accessFlags := 16433
  interfaces := #[]
  cf := some (fileOf pool6 1 #[] #[{ accessFlags := 8, nameIndex := 92, descriptorIndex := 93, attributes := #[] }] 16433 20 #[] #[{ accessFlags := 16409, nameIndex := 5, descriptorIndex := 6, attributes := #[] }, { accessFlags := 16409, nameIndex := 9, descriptorIndex := 6, attributes := #[] }, { accessFlags := 24, nameIndex := 147, descriptorIndex := 148, attributes := #[] }, { accessFlags := 24, nameIndex := 150, descriptorIndex := 151, attributes := #[] }, { accessFlags := 4122, nameIndex := 12, descriptorIndex := 13, attributes := #[] }])
  fields := #[{ name := "MARCXML", type := (.object "com/example/twinshelf/twinshelf/records/MarcFormat"), accessFlags := 16409, slot := 0, constantValue := 0 }, { name := "ISO_2709", type := (.object "com/example/twinshelf/twinshelf/records/MarcFormat"), accessFlags := 16409, slot := 1, constantValue := 0 }, { name := "SLIM_NAMESPACE", type := (.object "java/lang/String"), accessFlags := 24, slot := 2, constantValue := 0 }, { name := "LEADER_LENGTH", type := .int, accessFlags := 24, slot := 3, constantValue := 0 }, { name := "$VALUES", type := (.array (.object "com/example/twinshelf/twinshelf/records/MarcFormat")), accessFlags := 4122, slot := 4, constantValue := 0 }]
  methods := #[k6m0]
  instanceTypes := #[(.object "java/lang/String"), .int, .int]
  staticTypes := #[(.object "com/example/twinshelf/twinshelf/records/MarcFormat"), (.object "com/example/twinshelf/twinshelf/records/MarcFormat"), (.object "java/lang/String"), .int, (.array (.object "com/example/twinshelf/twinshelf/records/MarcFormat"))]
  resolved := Array.replicate 174 none
  statics := none }

def pool7 : Array CpInfo := pool [(1, u "java/lang/Cloneable"), (0, .class_ 1), (0, u "java/lang/Object"), (0, .class_ 3)] 3

/-- java/lang/Cloneable -/
def k7 : Class := { plain "java/lang/Cloneable" (some 0) with
  accessFlags := 1537
  interfaces := #[]
  cf := some (fileOf pool7 2 #[] #[] 1537 4 #[] #[])
  fields := #[]
  methods := #[]
  instanceTypes := #[]
  staticTypes := #[]
  resolved := Array.replicate 8 none
  statics := none }

/-- the primitive byte -/
def k8 : Class := { plain "byte" none with kind := .primitive 'B', accessFlags := 0x411 }
/-- [B -/
def k9 : Class := { plain "[B" (some 0) with kind := .array 8 .byte, interfaces := #[7, 4], accessFlags := 1041 }

/-- the primitive int -/
def k10 : Class := { plain "int" none with kind := .primitive 'I', accessFlags := 0x411 }
/-- [I -/
def k11 : Class := { plain "[I" (some 0) with kind := .array 10 .int, interfaces := #[7, 4], accessFlags := 1041 }

def heap : Heap := #[]
def classes : Array Class := #[k0, k1, k2, k3, k4, k5, k6, k7, k8, k9, k10, k11]
def interned : List (Array UInt16 × Addr) := []
def slotsUsed : Nat := 0
def theMethod : MethodId := ⟨1, 1⟩
def args0 : Array Value := #[.int 5, .int 7, .int 9]
def aboutOver (below : List Frame) : State where
  vm := { classes := classes, interned := interned.toArray }
  heap := heap
  slotsUsed := slotsUsed
  threads := #[{ frames := .invoking theMethod args0 :: below }]
def below0 : List Frame := [.native { method := ⟨0, 0⟩, args := #[] }]
def about1 : State := aboutOver below0
def p0 : Program := .bare "" "" ""
def e0 : Env := launch0.env 0 0 0
theorem w_frames : about1.frames = Frame.invoking theMethod args0 :: below0 := rfl
set_option maxRecDepth 65536 in
theorem w_args : argsFit about1.vm theMethod args0 = true := by decide +kernel
set_option maxRecDepth 65536 in
theorem w_heap : heapFits about1 = true := by decide +kernel
set_option maxRecDepth 65536 in
theorem w_runnable : about1.curStatus? = some .runnable := by decide +kernel
set_option maxRecDepth 65536 in
theorem w_alone : about1.alone = true := by decide +kernel
set_option maxRecDepth 65536 in
theorem w_named : about1.methodNamed? x = some theMethod := by decide +kernel
set_option maxRecDepth 65536 in
theorem w_hears : about1.hears theMethod below0 = true := by decide +kernel
set_option maxRecDepth 65536 in
theorem w_ripe : about1.ripe theMethod args0 below0 = true := by decide +kernel
theorem w_running : about1.status = .running := rfl
set_option maxRecDepth 65536 in
theorem w_room : about1.hasRoom e0.platform room_1 = true :=
  launch0.hasRoom_least _ room_1 (by decide +kernel) (by decide +kernel) (by decide +kernel) (by decide +kernel) (by decide +kernel) (by decide +kernel)
theorem allAtoms_all (ts : List Jvm.Cond) (a : Array Jvm.Value) (st : Jvm.State) : (allAtoms ts).before a st = ts.all (fun c => c.before a st) := by
  induction ts with
  | nil => rfl
  | cons c t ih =>
    show (Jvm.Cond.and c (allAtoms t)).before a st = _
    rw [Jvm.Cond.before_and, ih, List.all_cons]
def words1 : List Jvm.Cond := Jvm.Cond.code x code maxLocals ret :: tables_1
/-- a 'code' word, met by the world's own term for the bytes: nothing is compared byte by byte -/
theorem code_word {y : MethodName} {bytes : ByteArray} {mx : Nat} {rt : Option FieldType} {a : Array Value} {s : State} {m : MethodId} {meth : Method} {c : Code} (h1 : s.methodNamed? y = some m) (h2 : s.vm.method? m = some meth) (h3 : meth.code = some c) (h4 : c.code = bytes)
    (h5 : (c.maxLocals == mx && c.exceptionTable.isEmpty && decide (c.maxStack ≤ mostOperands) && decide (meth.sig.returnType = rt) && !meth.locks && decide (parseMethodDescriptor y.desc = some meth.sig)) = true) : (Jvm.Cond.code y bytes mx rt).before a s = true := by
  simp only [Bool.and_eq_true, beq_iff_eq, Bool.not_eq_true', decide_eq_true_eq] at h5
  obtain ⟨⟨⟨⟨⟨g1, g2⟩, g3⟩, g4⟩, g5⟩, g6⟩ := h5
  simp [Cond.before, Cond.holds, Cond.value, h1, h2, h3, h4, g1, g2, g3, g4, g5, g6]
def isCode : Jvm.Cond → Bool
  | .code _ _ _ _ => true
  | _ => false
theorem all_split {L : List Jvm.Cond} {P : Jvm.Cond → Bool} (h1 : L.all (fun c => isCode c || P c) = true) (h2 : ∀ c ∈ L.filter isCode, P c = true) : L.all P = true := by
  refine List.all_eq_true.mpr fun c hc => ?_
  have h := List.all_eq_true.mp h1 c hc
  rcases Bool.eq_false_or_eq_true (isCode c) with hi | hi
  · exact h2 c (List.mem_filter.mpr ⟨hc, hi⟩)
  · simpa [hi] using h
set_option maxRecDepth 65536 in
theorem w_c0 : (Jvm.Cond.code x code maxLocals ret).before args0 about1 = true := code_word (m := ⟨1, 1⟩) (meth := k1m1) (c := k1c1) (by decide +kernel) rfl rfl rfl (by decide +kernel)
set_option maxRecDepth 65536 in
theorem w_c1 : (Jvm.Cond.code ({ cls := "com/example/twinshelf/twinshelf/records/MarcFormatDigitsPinLaw", name := "ok", desc := "([BIII)Z" } : Jvm.MethodName) method_3_code (4 : Nat) (Option.some Jvm.ClassFile.FieldType.boolean)).before args0 about1 = true := code_word (m := ⟨1, 2⟩) (meth := k1m2) (c := k1c2) (by decide +kernel) rfl rfl rfl (by decide +kernel)
set_option maxRecDepth 65536 in
theorem w_c2 : (Jvm.Cond.code ({ cls := "com/example/twinshelf/twinshelf/records/MarcFormat", name := "digits", desc := "([BII)Z" } : Jvm.MethodName) prog_24_method_6_code (4 : Nat) (Option.some Jvm.ClassFile.FieldType.boolean)).before args0 about1 = true := code_word (m := ⟨6, 0⟩) (meth := k6m0) (c := k6c0) (by decide +kernel) rfl rfl rfl (by decide +kernel)
def codes1 : List Jvm.Cond := [Jvm.Cond.code x code maxLocals ret, Jvm.Cond.code ({ cls := "com/example/twinshelf/twinshelf/records/MarcFormatDigitsPinLaw", name := "ok", desc := "([BIII)Z" } : Jvm.MethodName) method_3_code (4 : Nat) (Option.some Jvm.ClassFile.FieldType.boolean), Jvm.Cond.code ({ cls := "com/example/twinshelf/twinshelf/records/MarcFormat", name := "digits", desc := "([BII)Z" } : Jvm.MethodName) prog_24_method_6_code (4 : Nat) (Option.some Jvm.ClassFile.FieldType.boolean)]
set_option maxRecDepth 65536 in
theorem codes_eq : words1.filter isCode = codes1 := rfl
theorem w_codes : ∀ c ∈ words1.filter isCode, c.before args0 about1 = true := by
  rw [codes_eq]
  intro c hc
  simp only [codes1, List.mem_cons, List.not_mem_nil, or_false] at hc
  rcases hc with rfl | rfl | rfl
  · exact w_c0
  · exact w_c1
  · exact w_c2
set_option maxRecDepth 65536 in
theorem w_t1 : words1.all (fun c => isCode c || c.before args0 about1) = true := by decide +kernel
theorem w_tables : (allAtoms (Jvm.Cond.code x code maxLocals ret :: tables_1)).before args0 about1 = true := by
  rw [allAtoms_all]
  show words1.all (fun c => c.before args0 about1) = true
  refine all_split ?_ w_codes
  rw [w_t1]
set_option maxRecDepth 65536 in
theorem w_case : (Jvm.Cond.and given_1 narrow_1).before args0 about1 = true := by decide +kernel
theorem w_applies : (headSpec (Jvm.Cond.code x code maxLocals ret :: tables_1) room_1).applies x e0.platform about1 = true :=
  (Spec.applies_iff w_frames).mpr ⟨w_running, w_runnable, w_alone, w_named, w_hears, w_ripe, w_room, w_tables⟩
theorem atStart : AtStart classFile x code maxLocals ret World_1 tables_1 room_1 Calls_1 rest_1 Pre_1 launch0 p0 e0 about1 theMethod args0 below0 :=
  ⟨lists_1, trivial, launch0.admits_env _ _ _, launch0.least_env, fairChoices_fair.cas, fairChoices_fair.clock, w_frames, w_args, w_heap, w_applies, trivial, trivial, w_case⟩
end start1
theorem witness_1 : WitnessClaimed_1 := ⟨start1.p0, start1.e0, start1.about1, start1.theMethod, start1.args0, start1.below0, start1.atStart⟩
end Jvm.Pilot.@@N@@
