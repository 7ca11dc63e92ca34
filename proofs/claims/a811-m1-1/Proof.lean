import JvmDerived
import JvmDerived.Pilot.@@N@@Statement
import JvmDerived.Pilot.@@N@@Code
set_option linter.unusedVariables false
set_option linter.unusedSimpArgs false
namespace Jvm.RoadKit
open Sem ClassFile Op Lib Jvm.Stand Jvm.Free Jvm.LawKit
section New
variable {p : Program} {l : Launch} {e : Env} {R : Room} {s : State} {m : MethodId} {args : Array Value} {below : List Frame} {meth : Method} {c : Code} {T : State} {locs : List Loc} {cells slots : Nat}
theorem retI (X : Stand p l e R s m args below meth c T locs cells slots) (hx : p.tables.exec = Jvm.exec) {pc : Nat} {Ls : Array Slot} {z : Int32} {rest : List Value} (hret : meth.sig.returnType = some .int) (hd : decode c.code pc = .ok (.ireturn, 1)) {fs : List Frame}
    (hl : ∀ (f : JFrame) (acts : List Action), f.method = m → f.locked = none → f.entered = [] → (doReturn e (T.setTop f) acts (some (.int z))).1 = T.setFrames fs) : Steps p.tables e below (T.setTop (mkF m pc Ls (.int z :: rest))) (T.setFrames fs) := by
  have hm' : T.vm.method? m = some meth := X.method'
  have hn : narrow .int (.int z) = .int z := rfl
  show Steps p.tables e below (T.setTop { method := m, pc := pc, locals := Ls, stack := _ :: rest, locked := none }) _
  jvm_step X.here [X.here.top, hx, hd, hm', hret, hn]
  first | (intro acts; rw [hl _ acts rfl rfl rfl]) | rw [hl _ _ rfl rfl rfl]
  exact Steps.refl _
end New
end Jvm.RoadKit
namespace Jvm.Pilot.@@N@@
open Jvm Jvm.ClassFile Sem Op Lib Jvm.Free Jvm.Stand Jvm.LawKit Jvm.RoadKit Bundle Jvm.Pilot.@@N@@.Jvm.D
/-- the run from U ends within this invocation, with P -/
def own_Fin (tb : Tables) (e : Env) (below : List Frame) (P : Outcome → State → Prop) (U : State) : Prop := ∃ s₂ o, Steps tb e below U s₂ ∧ s₂.status = .running ∧ Ended s₂ below o ∧ P o s₂
theorem own_by {tb : Tables} {e : Env} {below : List Frame} {P : Outcome → State → Prop} {U U' : State} (h : ∀ t, Steps tb e below U' t → Steps tb e below U t) (k : own_Fin tb e below P U') : own_Fin tb e below P U := by
  obtain ⟨t, o, h1, h2⟩ := k
  exact ⟨t, o, h _ h1, h2⟩
section Own
variable {p : Program} {l : Launch} {e : Env} {R : Room} {s : State} {m : MethodId} {args : Array Value} {below : List Frame} {meth : Method} {c : Code} {T : State} {locs : List Loc} {cells slots : Nat} {Z : State} {h h' : Heap} {a b : Addr} {z j x v : Int32} {B : Int32 → Int32}
theorem own_end (X : Stand p l e R s m args below meth c T locs cells slots) (hlk : meth.locks = false) {U : State} {v : Option Value} (hv : meth.sig.returnType = none → v = none) {Qv : Option Value → Heap → List Loc → Prop} {C S : Nat} (hC : cells ≤ C) (hS : slots ≤ S) (hq : Qv v T.heap locs)
    (hst : ∀ fs, (∀ (f : JFrame) (acts : List Action), f.method = m → f.locked = none → f.entered = [] → (doReturn e (T.setTop f) acts v).1 = T.setFrames fs) → Steps p.tables e below U (T.setFrames fs)) :
    own_Fin p.tables e below (fun o t => ∃ v L, o = .returned v ∧ Qv v t.heap L ∧ FrameEnd s o t L C S) U := by
  obtain ⟨fs, hr, hrun, hended, hW, hsame⟩ := X.leave (v := v) hv hlk
  exact ⟨_, _, hst fs hr, hrun, hended, _, _, rfl, hq, ⟨_, rfl⟩, hW, hsame.mono hC hS⟩
theorem own_retN (X : Stand p l e R s m args below meth c T locs cells slots) (hx : p.tables.exec = Jvm.exec) {pc : Nat} {Ls : Array Slot} {z : Int32} {t : FieldType} {rest : List Value} (hret : meth.sig.returnType = some t) (hlk : meth.locks = false) (ht : t = .boolean ∨ t = .byte ∨ t = .char ∨ t = .short)
    (hd : decode c.code pc = .ok (.ireturn, 1)) {Qv : Option Value → Heap → List Loc → Prop} {C S : Nat} (hC : cells ≤ C) (hS : slots ≤ S) (hq : Qv (some (.int (nar t z))) T.heap locs) :
    own_Fin p.tables e below (fun o t => ∃ v L, o = .returned v ∧ Qv v t.heap L ∧ FrameEnd s o t L C S) (T.setTop (mkF m pc Ls (.int z :: rest))) :=
  own_end X hlk (fun q => by rw [hret] at q; cases q) hC hS hq fun fs hr => retN X hx hret ht hd hr
theorem own_retI (X : Stand p l e R s m args below meth c T locs cells slots) (hx : p.tables.exec = Jvm.exec) {pc : Nat} {Ls : Array Slot} {z : Int32} {rest : List Value} (hret : meth.sig.returnType = some .int) (hlk : meth.locks = false)
    (hd : decode c.code pc = .ok (.ireturn, 1)) {Qv : Option Value → Heap → List Loc → Prop} {C S : Nat} (hC : cells ≤ C) (hS : slots ≤ S) (hq : Qv (some (.int z)) T.heap locs) :
    own_Fin p.tables e below (fun o t => ∃ v L, o = .returned v ∧ Qv v t.heap L ∧ FrameEnd s o t L C S) (T.setTop (mkF m pc Ls (.int z :: rest))) :=
  own_end X hlk (fun q => by rw [hret] at q; cases q) hC hS hq fun fs hr => retI X hx hret hd hr
theorem own_retJ (X : Stand p l e R s m args below meth c T locs cells slots) (hx : p.tables.exec = Jvm.exec) {pc : Nat} {Ls : Array Slot} {z : Int64} {rest : List Value} (hret : meth.sig.returnType = some .long) (hlk : meth.locks = false)
    (hd : decode c.code pc = .ok (.lreturn, 1)) {Qv : Option Value → Heap → List Loc → Prop} {C S : Nat} (hC : cells ≤ C) (hS : slots ≤ S) (hq : Qv (some (.long z)) T.heap locs) :
    own_Fin p.tables e below (fun o t => ∃ v L, o = .returned v ∧ Qv v t.heap L ∧ FrameEnd s o t L C S) (T.setTop (mkF m pc Ls (.long z :: rest))) :=
  own_end X hlk (fun q => by rw [hret] at q; cases q) hC hS hq fun fs hr => retOut X hx hret rfl (Or.inr (Or.inl ⟨rfl, rfl, z, rfl⟩)) hd hr
theorem own_retA (X : Stand p l e R s m args below meth c T locs cells slots) (hx : p.tables.exec = Jvm.exec) {pc : Nat} {Ls : Array Slot} {w : Value} {t : FieldType} {rest : List Value} (hret : meth.sig.returnType = some t) (hlk : meth.locks = false) (ht : t.isReference = true) (hw : w.isRef = true)
    (hd : decode c.code pc = .ok (.areturn, 1)) {Qv : Option Value → Heap → List Loc → Prop} {C S : Nat} (hC : cells ≤ C) (hS : slots ≤ S) (hq : Qv (some w) T.heap locs) :
    own_Fin p.tables e below (fun o t => ∃ v L, o = .returned v ∧ Qv v t.heap L ∧ FrameEnd s o t L C S) (T.setTop (mkF m pc Ls (w :: rest))) :=
  own_end X hlk (fun q => by rw [hret] at q; cases q) hC hS hq fun fs hr => retOut X hx hret (by cases t <;> simp [FieldType.isReference] at ht <;> (rcases ref_cases hw with rfl | ⟨z, rfl⟩ <;> rfl)) (Or.inr (Or.inr (Or.inr (Or.inr ⟨rfl, ht, hw⟩)))) hd hr
theorem own_retV (X : Stand p l e R s m args below meth c T locs cells slots) (hx : p.tables.exec = Jvm.exec) {pc : Nat} {Ls : Array Slot} (hret : meth.sig.returnType = none) (hlk : meth.locks = false)
    (hd : decode c.code pc = .ok (.return_, 1)) {Qv : Option Value → Heap → List Loc → Prop} {C S : Nat} (hC : cells ≤ C) (hS : slots ≤ S) (hq : Qv none T.heap locs) :
    own_Fin p.tables e below (fun o t => ∃ v L, o = .returned v ∧ Qv v t.heap L ∧ FrameEnd s o t L C S) (T.setTop (mkF m pc Ls [])) :=
  own_end X hlk (fun _ => rfl) hC hS hq fun fs hr => X.returnOut hx hret hd hr
/-- a byte[] of length z whose j-th byte is B j -/
def own_Byt (Z : State) (h : Heap) (a : Addr) (z : Int32) (B : Int32 → Int32) : Prop := ∃ cl : Cell, Arr Z h a cl .byte ∧ cl.slots.size = z.toNatClampNeg ∧ ¬ z < 0 ∧ ∀ j : Int32, ¬ (j < 0 ∨ cl.slots.size ≤ j.toNatClampNeg) → cl.slots[j.toNatClampNeg]? = some (.int (B j)) ∧ fits .byte (.int (B j)) = true
def own_upd (B : Int32 → Int32) (j v : Int32) : Int32 → Int32 := fun k => if k = j then v else B k
theorem own_Byt.lt (F : own_Byt Z h a z B) : a < h.size := by obtain ⟨c, A, -⟩ := F; exact A.lt
theorem own_Byt.ext (F : own_Byt Z h a z B) (E : Ext h h') : own_Byt Z h' a z B := by obtain ⟨c, A, r⟩ := F; exact ⟨c, A.ext E, r⟩
theorem own_Byt.other (F : own_Byt Z h b z B) {sl : Nat} {w : Value} (W : Wr h h' a sl w) (q : b ≠ a) : own_Byt Z h' b z B := by obtain ⟨c, A, r⟩ := F; exact ⟨c, A.other W q, r⟩
theorem own_Byt.keep {ws : List Addr} (F : own_Byt Z h a z B) (K : Keep h h' ws) (q : a ∉ ws) : own_Byt Z h' a z B := by obtain ⟨c, A, r⟩ := F; exact ⟨c, ⟨K.2.1 a c A.1 q, A.2⟩, r⟩
theorem own_Byt.new {k : ClassId} (A : Arr Z h a (newA k .byte z) .byte) (q : ¬ z < 0) : own_Byt Z h a z (fun _ => (0 : Int32)) :=
  ⟨_, A, sz_new _ _ _, q, fun j hj => by rw [sz_new] at hj; exact ⟨get_new hj, show fits .byte (.int 0) = true from by decide⟩⟩
theorem own_bal (X : Stand p l e R s m args below meth c T locs cells slots) (hx : p.tables.exec = Jvm.exec) (hZ : Z.Warmed39 s.vm) (eT : T.heap = h) (F : own_Byt Z h a z B) (h1 : ¬ j < 0) (h2 : j < z)
    {g : JFrame} (hg : g.method = m) {rest : List Value} (hs : g.stack = .int j :: .ref a :: rest) (hd : decode c.code g.pc = .ok (.baload, 1)) :
    ∀ t, Steps p.tables e below (T.setTop { g with pc := g.pc + 1, stack := .int (B j) :: rest }) t → Steps p.tables e below (T.setTop g) t := by
  obtain ⟨cl, A, S, N, H⟩ := F
  have hin := inb_of S ⟨h1, h2⟩
  exact X.baloadBytes hx (j := j) (v := .int (B j)) (by rw [eT]; exact A.1) (State.isArrayOf_alike hZ.alike A.2.1) A.2.2 hin (H j hin).1 hg hs hd
theorem own_len (X : Stand p l e R s m args below meth c T locs cells slots) (hx : p.tables.exec = Jvm.exec) (hZ : Z.Warmed39 s.vm) (eT : T.heap = h) (F : own_Byt Z h a z B)
    {g : JFrame} (hg : g.method = m) {rest : List Value} (hs : g.stack = .ref a :: rest) (hd : decode c.code g.pc = .ok (.arraylength, 1)) :
    ∀ t, Steps p.tables e below (T.setTop { g with pc := g.pc + 1, stack := .int z :: rest }) t → Steps p.tables e below (T.setTop g) t := by
  obtain ⟨cl, A, S, N, H⟩ := F
  intro t k
  refine X.arraylength hx (by rw [eT]; exact A.1) (State.isArrayOf_alike hZ.alike A.2.1) (g := g) hg hs hd _ ?_
  rw [len_of S N]
  exact k
theorem own_bst (X : Stand p l e R s m args below meth c T locs cells slots) (hx : p.tables.exec = Jvm.exec) (hZ : Z.Warmed39 s.vm) (eT : T.heap = h) (F : own_Byt Z h a z B) (h1 : ¬ j < 0) (h2 : j < z)
    {g : JFrame} (hg : g.method = m) {rest : List Value} (hs : g.stack = .int x :: .int j :: .ref a :: rest) (hd : decode c.code g.pc = .ok (.bastore, 1)) :
    ∃ T' h', Stand p l e R s m args below meth c T' (locs ++ [⟨a, j.toNatClampNeg⟩]) cells slots ∧ T'.heap = h' ∧ own_Byt Z h' a z (own_upd B j (x.toInt8.toInt32)) ∧ Wr h h' a j.toNatClampNeg (.int (nar .byte x)) ∧
      ∀ t, Steps p.tables e below (T'.setTop { g with pc := g.pc + 1, stack := rest }) t → Steps p.tables e below (T.setTop g) t := by
  obtain ⟨cl, A, S, N, H⟩ := F
  have hin := inb_of S ⟨h1, h2⟩
  obtain ⟨T', h', X', e', W, st⟩ := stB X hx hZ eT A (j := j) hin hg hs hd
  refine ⟨T', h', X', e', ⟨_, A.same W, by rw [sz_set]; exact S, N, fun k hk => ?_⟩, W, st⟩
  rw [sz_set] at hk
  by_cases q : k = j
  · rw [get_hit hin q, own_upd, if_pos q]; exact ⟨rfl, fits_nar_byte x⟩
  · rw [get_miss h1 (fun y => hk (Or.inl y)) q, own_upd, if_neg q]; exact H k hk
end Own
theorem own_nar_char (x : Int32) : nar .char (x.toUInt32.toUInt16.toUInt32.toInt32) = x.toUInt32.toUInt16.toUInt32.toInt32 := by
  show x.toUInt32.toUInt16.toUInt32.toInt32.toUInt32.toUInt16.toUInt32.toInt32 = _
  have h1 := c_i2c x
  have h2 := c_i2c (x.toUInt32.toUInt16.toUInt32.toInt32)
  apply Int32.toInt_inj.mp
  omega
theorem own_lt {x y : Int32} : x < y ↔ x.toInt < y.toInt := Int32.lt_iff_toInt_lt
theorem own_eq {x y : Int32} : x = y ↔ x.toInt = y.toInt := Int32.toInt_inj.symm
theorem own_ltL {x y : Int64} : x < y ↔ x.toInt < y.toInt := Int64.lt_iff_toInt_lt
theorem own_eqL {x y : Int64} : x = y ↔ x.toInt = y.toInt := Int64.toInt_inj.symm
theorem own_z : (0 : Int32).toInt = 0 := by decide
theorem own_nn {x : Int32} (h : 0 ≤ x.toInt) : ¬ x < 0 := fun q => by have := own_lt.mp q; rw [own_z] at this; omega
theorem own_ltof {x y : Int32} (h : x.toInt < y.toInt) : x < y := own_lt.mpr h
theorem own_ge {x y : Int32} (h : ¬ x < y) : y.toInt ≤ x.toInt := by rw [own_lt] at h; omega
theorem own_add (x k : Int32) (h1 : -2147483648 ≤ x.toInt + k.toInt) (h2 : x.toInt + k.toInt < 2147483648) : (x + k).toInt = x.toInt + k.toInt := by
  have a := c_iadd x k
  have r := rng32 (x + k)
  omega
theorem own_sub (x k : Int32) (h1 : -2147483648 ≤ x.toInt - k.toInt) (h2 : x.toInt - k.toInt < 2147483648) : (x - k).toInt = x.toInt - k.toInt := by
  have a := c_isub x k
  have r := rng32 (x - k)
  omega
theorem own_clamp {x : Int32} {n : Nat} (h : ¬ x < 0) (q : x.toInt ≤ n) : x.toNatClampNeg ≤ n := by
  have := nat_of h
  omega
theorem d1_0 : decode prog_98_method_8_code 0 = .ok (.iload_n 0, 1) := by decide +kernel
theorem d1_1 : decode prog_98_method_8_code 1 = .ok (.bipush 48, 2) := by decide +kernel
theorem d1_3 : decode prog_98_method_8_code 3 = .ok (.if_icmp .lt 14, 3) := by decide +kernel
theorem d1_6 : decode prog_98_method_8_code 6 = .ok (.iload_n 0, 1) := by decide +kernel
theorem d1_7 : decode prog_98_method_8_code 7 = .ok (.bipush 57, 2) := by decide +kernel
theorem d1_9 : decode prog_98_method_8_code 9 = .ok (.if_icmp .gt 8, 3) := by decide +kernel
theorem d1_12 : decode prog_98_method_8_code 12 = .ok (.iload_n 0, 1) := by decide +kernel
theorem d1_13 : decode prog_98_method_8_code 13 = .ok (.bipush 48, 2) := by decide +kernel
theorem d1_15 : decode prog_98_method_8_code 15 = .ok (.isub, 1) := by decide +kernel
theorem d1_16 : decode prog_98_method_8_code 16 = .ok (.ireturn, 1) := by decide +kernel
theorem d1_17 : decode prog_98_method_8_code 17 = .ok (.iload_n 0, 1) := by decide +kernel
theorem d1_18 : decode prog_98_method_8_code 18 = .ok (.bipush 97, 2) := by decide +kernel
theorem d1_20 : decode prog_98_method_8_code 20 = .ok (.if_icmp .lt 17, 3) := by decide +kernel
theorem d1_23 : decode prog_98_method_8_code 23 = .ok (.iload_n 0, 1) := by decide +kernel
theorem d1_24 : decode prog_98_method_8_code 24 = .ok (.bipush 102, 2) := by decide +kernel
theorem d1_26 : decode prog_98_method_8_code 26 = .ok (.if_icmp .gt 11, 3) := by decide +kernel
theorem d1_29 : decode prog_98_method_8_code 29 = .ok (.iload_n 0, 1) := by decide +kernel
theorem d1_30 : decode prog_98_method_8_code 30 = .ok (.bipush 97, 2) := by decide +kernel
theorem d1_32 : decode prog_98_method_8_code 32 = .ok (.isub, 1) := by decide +kernel
theorem d1_33 : decode prog_98_method_8_code 33 = .ok (.bipush 10, 2) := by decide +kernel
theorem d1_35 : decode prog_98_method_8_code 35 = .ok (.iadd, 1) := by decide +kernel
theorem d1_36 : decode prog_98_method_8_code 36 = .ok (.ireturn, 1) := by decide +kernel
theorem d1_37 : decode prog_98_method_8_code 37 = .ok (.iload_n 0, 1) := by decide +kernel
theorem d1_38 : decode prog_98_method_8_code 38 = .ok (.bipush 65, 2) := by decide +kernel
theorem d1_40 : decode prog_98_method_8_code 40 = .ok (.if_icmp .lt 17, 3) := by decide +kernel
theorem d1_43 : decode prog_98_method_8_code 43 = .ok (.iload_n 0, 1) := by decide +kernel
theorem d1_44 : decode prog_98_method_8_code 44 = .ok (.bipush 70, 2) := by decide +kernel
theorem d1_46 : decode prog_98_method_8_code 46 = .ok (.if_icmp .gt 11, 3) := by decide +kernel
theorem d1_49 : decode prog_98_method_8_code 49 = .ok (.iload_n 0, 1) := by decide +kernel
theorem d1_50 : decode prog_98_method_8_code 50 = .ok (.bipush 65, 2) := by decide +kernel
theorem d1_52 : decode prog_98_method_8_code 52 = .ok (.isub, 1) := by decide +kernel
theorem d1_53 : decode prog_98_method_8_code 53 = .ok (.bipush 10, 2) := by decide +kernel
theorem d1_55 : decode prog_98_method_8_code 55 = .ok (.iadd, 1) := by decide +kernel
theorem d1_56 : decode prog_98_method_8_code 56 = .ok (.ireturn, 1) := by decide +kernel
theorem d1_57 : decode prog_98_method_8_code 57 = .ok (.iconst (-1), 1) := by decide +kernel
theorem d1_58 : decode prog_98_method_8_code 58 = .ok (.ireturn, 1) := by decide +kernel
theorem pn_com_example_sealwatch_sealwatch_PercentEncoding : plainName "com/example/sealwatch/sealwatch/PercentEncoding" = true := by first | (simp [plainName, overriddenIn]; done) | decide +kernel
theorem ef_1 (m : MethodId) (p0 : Int32) : entryFrame m #[(.int p0)] 1 = mkF m 0 #[.val (.int p0)] [] := by first | (simp [entryFrame, mkF, argsToLocals, Value.category]; done) | rfl
def f1 (p0 : Int32) : Int32 :=
  if p0 < (48 : Int32) then
    if p0 < (97 : Int32) then
      if p0 < (65 : Int32) then
        (-1 : Int32)
      else
        if (70 : Int32) < p0 then
          (-1 : Int32)
        else
          ((p0 - (65 : Int32)) + (10 : Int32))
    else
      if (102 : Int32) < p0 then
        if p0 < (65 : Int32) then
          (-1 : Int32)
        else
          if (70 : Int32) < p0 then
            (-1 : Int32)
          else
            ((p0 - (65 : Int32)) + (10 : Int32))
      else
        ((p0 - (97 : Int32)) + (10 : Int32))
  else
    if (57 : Int32) < p0 then
      if p0 < (97 : Int32) then
        if p0 < (65 : Int32) then
          (-1 : Int32)
        else
          if (70 : Int32) < p0 then
            (-1 : Int32)
          else
            ((p0 - (65 : Int32)) + (10 : Int32))
      else
        if (102 : Int32) < p0 then
          if p0 < (65 : Int32) then
            (-1 : Int32)
          else
            if (70 : Int32) < p0 then
              (-1 : Int32)
            else
              ((p0 - (65 : Int32)) + (10 : Int32))
        else
          ((p0 - (97 : Int32)) + (10 : Int32))
    else
      (p0 - (48 : Int32))
def Q1 (p0 : Int32) (h0 : Heap) (n0 : Nat) (v : Option Value) (h : Heap) (L : List Loc) : Prop := v = some (.int (f1 p0)) ∧ Fr n0 L ∧ h = h0
set_option maxRecDepth 65536 in
set_option maxHeartbeats 40000000 in
theorem rm1 (l : Launch) (Z : State) (a0 : Array Value) (hw : ∀ d ∈ tables_1, d.before a0 Z = true) (ws : List Jvm.Cond) (p0 : Int32)   (h0 : Heap) (n0 : Nat) (Z0 : n0 ≤ h0.size)   :
    MetFree l (⟨"com/example/sealwatch/sealwatch/PercentEncoding", "hexDigit", "(C)I"⟩ : MethodName) (head1 (Jvm.Cond.code (⟨"com/example/sealwatch/sealwatch/PercentEncoding", "hexDigit", "(C)I"⟩ : MethodName) prog_98_method_8_code 1 (some .int) :: ws) ({ frames := 0, cells := 0, slots := 0, locals := 0 } : Room)) (fun a U => a = #[(.int p0)] ∧ Z.Warmed39 U.vm ∧ U.heap = h0) (fun _ _ _ _ _ => True) (fun _ U o U' => ∃ v L, o = .returned v ∧ Q1 p0 h0 n0 v U'.heap L ∧ FrameEnd U o U' L ({ frames := 0, cells := 0, slots := 0, locals := 0 } : Room).cells ({ frames := 0, cells := 0, slots := 0, locals := 0 } : Room).slots) := by
  refine MetFree.of_bodySF (plainFor_of_name pn_com_example_sealwatch_sealwatch_PercentEncoding) hisR ?_
  intro p e s m args below meth c s₁ Bd hml0 hP hK
  obtain ⟨rfl, hZ, hh⟩ := hP
  have hx := Bd.exec
  have hby := Bd.bytes
  have hlk : meth.locks = false := BodyLoose.notSynchronized Bd
  have hml : c.maxLocals = 1 := hml0
  have hown : s.vm.findClass "com/example/sealwatch/sealwatch/PercentEncoding" = some m.cls := findClass_of_methodNamed Bd.named
  have hnm := (name_of_methodNamed Bd.named Bd.method).1
  have X0 : Stand p l e ({ frames := 0, cells := 0, slots := 0, locals := 0 } : Room) s m #[(.int p0)] below meth c s₁ [] 0 0 := Stand.of_body Bd
  have e0 : s₁.heap = h0 := by rw [← hh, Bd.state]; rfl
  have N0 := Fr.nil n0
  refine own_by (U' := s₁.setTop (mkF m 0 #[.val (.int p0)] [])) (fun t k => castTop (ef_1 m p0) k) ?_
  refine own_by (fun _ k => XS.iloadN X0.here hx rfl (hb hby d1_0) rfl k) ?_
  show own_Fin p.tables e below _ (s₁.setTop (mkF m 1 #[.val (.int p0)] [(.int p0)]))
  refine own_by (fun _ k => XS.bipush X0.here hx rfl (hb hby d1_1) k) ?_
  show own_Fin p.tables e below _ (s₁.setTop (mkF m 3 #[.val (.int p0)] [(.int (48 : Int32)), (.int p0)]))
  by_cases hc1 : p0 < (48 : Int32)
  · refine own_by (fun _ k => XS.icmpYes X0.here hx rfl (pc0 := 3) (pc' := 17) rfl (hb hby d1_3) rfl (tlt hc1).1 (by decide) (by decide) k) ?_
    show own_Fin p.tables e below _ (s₁.setTop (mkF m 17 #[.val (.int p0)] []))
    refine own_by (fun _ k => XS.iloadN X0.here hx rfl (hb hby d1_17) rfl k) ?_
    show own_Fin p.tables e below _ (s₁.setTop (mkF m 18 #[.val (.int p0)] [(.int p0)]))
    refine own_by (fun _ k => XS.bipush X0.here hx rfl (hb hby d1_18) k) ?_
    show own_Fin p.tables e below _ (s₁.setTop (mkF m 20 #[.val (.int p0)] [(.int (97 : Int32)), (.int p0)]))
    by_cases hc2 : p0 < (97 : Int32)
    · refine own_by (fun _ k => XS.icmpYes X0.here hx rfl (pc0 := 20) (pc' := 37) rfl (hb hby d1_20) rfl (tlt hc2).1 (by decide) (by decide) k) ?_
      show own_Fin p.tables e below _ (s₁.setTop (mkF m 37 #[.val (.int p0)] []))
      refine own_by (fun _ k => XS.iloadN X0.here hx rfl (hb hby d1_37) rfl k) ?_
      show own_Fin p.tables e below _ (s₁.setTop (mkF m 38 #[.val (.int p0)] [(.int p0)]))
      refine own_by (fun _ k => XS.bipush X0.here hx rfl (hb hby d1_38) k) ?_
      show own_Fin p.tables e below _ (s₁.setTop (mkF m 40 #[.val (.int p0)] [(.int (65 : Int32)), (.int p0)]))
      by_cases hc3 : p0 < (65 : Int32)
      · refine own_by (fun _ k => XS.icmpYes X0.here hx rfl (pc0 := 40) (pc' := 57) rfl (hb hby d1_40) rfl (tlt hc3).1 (by decide) (by decide) k) ?_
        show own_Fin p.tables e below _ (s₁.setTop (mkF m 57 #[.val (.int p0)] []))
        refine own_by (fun _ k => XS.iconst X0.here hx rfl (hb hby d1_57) k) ?_
        show own_Fin p.tables e below _ (s₁.setTop (mkF m 58 #[.val (.int p0)] [(.int (-1 : Int32))]))
        have ef := (show f1 p0 = (-1 : Int32) from by unfold f1; rw [if_pos hc1, if_pos hc2, if_pos hc3])
        exact own_retI X0 hx Bd.returns hlk (hb hby d1_58) (by decide) (by decide) ⟨by rw [ef], N0, e0⟩
      · refine own_by (fun _ k => XS.icmpNo X0.here hx rfl (hb hby d1_40) rfl (flt hc3).1 k) ?_
        show own_Fin p.tables e below _ (s₁.setTop (mkF m 43 #[.val (.int p0)] []))
        refine own_by (fun _ k => XS.iloadN X0.here hx rfl (hb hby d1_43) rfl k) ?_
        show own_Fin p.tables e below _ (s₁.setTop (mkF m 44 #[.val (.int p0)] [(.int p0)]))
        refine own_by (fun _ k => XS.bipush X0.here hx rfl (hb hby d1_44) k) ?_
        show own_Fin p.tables e below _ (s₁.setTop (mkF m 46 #[.val (.int p0)] [(.int (70 : Int32)), (.int p0)]))
        by_cases hc4 : (70 : Int32) < p0
        · refine own_by (fun _ k => XS.icmpYes X0.here hx rfl (pc0 := 46) (pc' := 57) rfl (hb hby d1_46) rfl (tlt hc4).2.2.1 (by decide) (by decide) k) ?_
          show own_Fin p.tables e below _ (s₁.setTop (mkF m 57 #[.val (.int p0)] []))
          refine own_by (fun _ k => XS.iconst X0.here hx rfl (hb hby d1_57) k) ?_
          show own_Fin p.tables e below _ (s₁.setTop (mkF m 58 #[.val (.int p0)] [(.int (-1 : Int32))]))
          have ef := (show f1 p0 = (-1 : Int32) from by unfold f1; rw [if_pos hc1, if_pos hc2, if_neg hc3, if_pos hc4])
          exact own_retI X0 hx Bd.returns hlk (hb hby d1_58) (by decide) (by decide) ⟨by rw [ef], N0, e0⟩
        · refine own_by (fun _ k => XS.icmpNo X0.here hx rfl (hb hby d1_46) rfl (flt hc4).2.2.1 k) ?_
          show own_Fin p.tables e below _ (s₁.setTop (mkF m 49 #[.val (.int p0)] []))
          refine own_by (fun _ k => XS.iloadN X0.here hx rfl (hb hby d1_49) rfl k) ?_
          show own_Fin p.tables e below _ (s₁.setTop (mkF m 50 #[.val (.int p0)] [(.int p0)]))
          refine own_by (fun _ k => XS.bipush X0.here hx rfl (hb hby d1_50) k) ?_
          show own_Fin p.tables e below _ (s₁.setTop (mkF m 52 #[.val (.int p0)] [(.int (65 : Int32)), (.int p0)]))
          refine own_by (fun _ k => XS.isub X0.here hx rfl (hb hby d1_52) rfl k) ?_
          show own_Fin p.tables e below _ (s₁.setTop (mkF m 53 #[.val (.int p0)] [(.int (p0 - (65 : Int32)))]))
          refine own_by (fun _ k => XS.bipush X0.here hx rfl (hb hby d1_53) k) ?_
          show own_Fin p.tables e below _ (s₁.setTop (mkF m 55 #[.val (.int p0)] [(.int (10 : Int32)), (.int (p0 - (65 : Int32)))]))
          refine own_by (fun _ k => XS.iadd X0.here hx rfl (hb hby d1_55) rfl k) ?_
          show own_Fin p.tables e below _ (s₁.setTop (mkF m 56 #[.val (.int p0)] [(.int ((p0 - (65 : Int32)) + (10 : Int32)))]))
          have ef := (show f1 p0 = ((p0 - (65 : Int32)) + (10 : Int32)) from by unfold f1; rw [if_pos hc1, if_pos hc2, if_neg hc3, if_neg hc4])
          exact own_retI X0 hx Bd.returns hlk (hb hby d1_56) (by decide) (by decide) ⟨by rw [ef], N0, e0⟩
    · refine own_by (fun _ k => XS.icmpNo X0.here hx rfl (hb hby d1_20) rfl (flt hc2).1 k) ?_
      show own_Fin p.tables e below _ (s₁.setTop (mkF m 23 #[.val (.int p0)] []))
      refine own_by (fun _ k => XS.iloadN X0.here hx rfl (hb hby d1_23) rfl k) ?_
      show own_Fin p.tables e below _ (s₁.setTop (mkF m 24 #[.val (.int p0)] [(.int p0)]))
      refine own_by (fun _ k => XS.bipush X0.here hx rfl (hb hby d1_24) k) ?_
      show own_Fin p.tables e below _ (s₁.setTop (mkF m 26 #[.val (.int p0)] [(.int (102 : Int32)), (.int p0)]))
      by_cases hc5 : (102 : Int32) < p0
      · refine own_by (fun _ k => XS.icmpYes X0.here hx rfl (pc0 := 26) (pc' := 37) rfl (hb hby d1_26) rfl (tlt hc5).2.2.1 (by decide) (by decide) k) ?_
        show own_Fin p.tables e below _ (s₁.setTop (mkF m 37 #[.val (.int p0)] []))
        refine own_by (fun _ k => XS.iloadN X0.here hx rfl (hb hby d1_37) rfl k) ?_
        show own_Fin p.tables e below _ (s₁.setTop (mkF m 38 #[.val (.int p0)] [(.int p0)]))
        refine own_by (fun _ k => XS.bipush X0.here hx rfl (hb hby d1_38) k) ?_
        show own_Fin p.tables e below _ (s₁.setTop (mkF m 40 #[.val (.int p0)] [(.int (65 : Int32)), (.int p0)]))
        by_cases hc6 : p0 < (65 : Int32)
        · refine own_by (fun _ k => XS.icmpYes X0.here hx rfl (pc0 := 40) (pc' := 57) rfl (hb hby d1_40) rfl (tlt hc6).1 (by decide) (by decide) k) ?_
          show own_Fin p.tables e below _ (s₁.setTop (mkF m 57 #[.val (.int p0)] []))
          refine own_by (fun _ k => XS.iconst X0.here hx rfl (hb hby d1_57) k) ?_
          show own_Fin p.tables e below _ (s₁.setTop (mkF m 58 #[.val (.int p0)] [(.int (-1 : Int32))]))
          have ef := (show f1 p0 = (-1 : Int32) from by unfold f1; rw [if_pos hc1, if_neg hc2, if_pos hc5, if_pos hc6])
          exact own_retI X0 hx Bd.returns hlk (hb hby d1_58) (by decide) (by decide) ⟨by rw [ef], N0, e0⟩
        · refine own_by (fun _ k => XS.icmpNo X0.here hx rfl (hb hby d1_40) rfl (flt hc6).1 k) ?_
          show own_Fin p.tables e below _ (s₁.setTop (mkF m 43 #[.val (.int p0)] []))
          refine own_by (fun _ k => XS.iloadN X0.here hx rfl (hb hby d1_43) rfl k) ?_
          show own_Fin p.tables e below _ (s₁.setTop (mkF m 44 #[.val (.int p0)] [(.int p0)]))
          refine own_by (fun _ k => XS.bipush X0.here hx rfl (hb hby d1_44) k) ?_
          show own_Fin p.tables e below _ (s₁.setTop (mkF m 46 #[.val (.int p0)] [(.int (70 : Int32)), (.int p0)]))
          by_cases hc7 : (70 : Int32) < p0
          · refine own_by (fun _ k => XS.icmpYes X0.here hx rfl (pc0 := 46) (pc' := 57) rfl (hb hby d1_46) rfl (tlt hc7).2.2.1 (by decide) (by decide) k) ?_
            show own_Fin p.tables e below _ (s₁.setTop (mkF m 57 #[.val (.int p0)] []))
            refine own_by (fun _ k => XS.iconst X0.here hx rfl (hb hby d1_57) k) ?_
            show own_Fin p.tables e below _ (s₁.setTop (mkF m 58 #[.val (.int p0)] [(.int (-1 : Int32))]))
            have ef := (show f1 p0 = (-1 : Int32) from by unfold f1; rw [if_pos hc1, if_neg hc2, if_pos hc5, if_neg hc6, if_pos hc7])
            exact own_retI X0 hx Bd.returns hlk (hb hby d1_58) (by decide) (by decide) ⟨by rw [ef], N0, e0⟩
          · refine own_by (fun _ k => XS.icmpNo X0.here hx rfl (hb hby d1_46) rfl (flt hc7).2.2.1 k) ?_
            show own_Fin p.tables e below _ (s₁.setTop (mkF m 49 #[.val (.int p0)] []))
            refine own_by (fun _ k => XS.iloadN X0.here hx rfl (hb hby d1_49) rfl k) ?_
            show own_Fin p.tables e below _ (s₁.setTop (mkF m 50 #[.val (.int p0)] [(.int p0)]))
            refine own_by (fun _ k => XS.bipush X0.here hx rfl (hb hby d1_50) k) ?_
            show own_Fin p.tables e below _ (s₁.setTop (mkF m 52 #[.val (.int p0)] [(.int (65 : Int32)), (.int p0)]))
            refine own_by (fun _ k => XS.isub X0.here hx rfl (hb hby d1_52) rfl k) ?_
            show own_Fin p.tables e below _ (s₁.setTop (mkF m 53 #[.val (.int p0)] [(.int (p0 - (65 : Int32)))]))
            refine own_by (fun _ k => XS.bipush X0.here hx rfl (hb hby d1_53) k) ?_
            show own_Fin p.tables e below _ (s₁.setTop (mkF m 55 #[.val (.int p0)] [(.int (10 : Int32)), (.int (p0 - (65 : Int32)))]))
            refine own_by (fun _ k => XS.iadd X0.here hx rfl (hb hby d1_55) rfl k) ?_
            show own_Fin p.tables e below _ (s₁.setTop (mkF m 56 #[.val (.int p0)] [(.int ((p0 - (65 : Int32)) + (10 : Int32)))]))
            have ef := (show f1 p0 = ((p0 - (65 : Int32)) + (10 : Int32)) from by unfold f1; rw [if_pos hc1, if_neg hc2, if_pos hc5, if_neg hc6, if_neg hc7])
            exact own_retI X0 hx Bd.returns hlk (hb hby d1_56) (by decide) (by decide) ⟨by rw [ef], N0, e0⟩
      · refine own_by (fun _ k => XS.icmpNo X0.here hx rfl (hb hby d1_26) rfl (flt hc5).2.2.1 k) ?_
        show own_Fin p.tables e below _ (s₁.setTop (mkF m 29 #[.val (.int p0)] []))
        refine own_by (fun _ k => XS.iloadN X0.here hx rfl (hb hby d1_29) rfl k) ?_
        show own_Fin p.tables e below _ (s₁.setTop (mkF m 30 #[.val (.int p0)] [(.int p0)]))
        refine own_by (fun _ k => XS.bipush X0.here hx rfl (hb hby d1_30) k) ?_
        show own_Fin p.tables e below _ (s₁.setTop (mkF m 32 #[.val (.int p0)] [(.int (97 : Int32)), (.int p0)]))
        refine own_by (fun _ k => XS.isub X0.here hx rfl (hb hby d1_32) rfl k) ?_
        show own_Fin p.tables e below _ (s₁.setTop (mkF m 33 #[.val (.int p0)] [(.int (p0 - (97 : Int32)))]))
        refine own_by (fun _ k => XS.bipush X0.here hx rfl (hb hby d1_33) k) ?_
        show own_Fin p.tables e below _ (s₁.setTop (mkF m 35 #[.val (.int p0)] [(.int (10 : Int32)), (.int (p0 - (97 : Int32)))]))
        refine own_by (fun _ k => XS.iadd X0.here hx rfl (hb hby d1_35) rfl k) ?_
        show own_Fin p.tables e below _ (s₁.setTop (mkF m 36 #[.val (.int p0)] [(.int ((p0 - (97 : Int32)) + (10 : Int32)))]))
        have ef := (show f1 p0 = ((p0 - (97 : Int32)) + (10 : Int32)) from by unfold f1; rw [if_pos hc1, if_neg hc2, if_neg hc5])
        exact own_retI X0 hx Bd.returns hlk (hb hby d1_36) (by decide) (by decide) ⟨by rw [ef], N0, e0⟩
  · refine own_by (fun _ k => XS.icmpNo X0.here hx rfl (hb hby d1_3) rfl (flt hc1).1 k) ?_
    show own_Fin p.tables e below _ (s₁.setTop (mkF m 6 #[.val (.int p0)] []))
    refine own_by (fun _ k => XS.iloadN X0.here hx rfl (hb hby d1_6) rfl k) ?_
    show own_Fin p.tables e below _ (s₁.setTop (mkF m 7 #[.val (.int p0)] [(.int p0)]))
    refine own_by (fun _ k => XS.bipush X0.here hx rfl (hb hby d1_7) k) ?_
    show own_Fin p.tables e below _ (s₁.setTop (mkF m 9 #[.val (.int p0)] [(.int (57 : Int32)), (.int p0)]))
    by_cases hc8 : (57 : Int32) < p0
    · refine own_by (fun _ k => XS.icmpYes X0.here hx rfl (pc0 := 9) (pc' := 17) rfl (hb hby d1_9) rfl (tlt hc8).2.2.1 (by decide) (by decide) k) ?_
      show own_Fin p.tables e below _ (s₁.setTop (mkF m 17 #[.val (.int p0)] []))
      refine own_by (fun _ k => XS.iloadN X0.here hx rfl (hb hby d1_17) rfl k) ?_
      show own_Fin p.tables e below _ (s₁.setTop (mkF m 18 #[.val (.int p0)] [(.int p0)]))
      refine own_by (fun _ k => XS.bipush X0.here hx rfl (hb hby d1_18) k) ?_
      show own_Fin p.tables e below _ (s₁.setTop (mkF m 20 #[.val (.int p0)] [(.int (97 : Int32)), (.int p0)]))
      by_cases hc9 : p0 < (97 : Int32)
      · refine own_by (fun _ k => XS.icmpYes X0.here hx rfl (pc0 := 20) (pc' := 37) rfl (hb hby d1_20) rfl (tlt hc9).1 (by decide) (by decide) k) ?_
        show own_Fin p.tables e below _ (s₁.setTop (mkF m 37 #[.val (.int p0)] []))
        refine own_by (fun _ k => XS.iloadN X0.here hx rfl (hb hby d1_37) rfl k) ?_
        show own_Fin p.tables e below _ (s₁.setTop (mkF m 38 #[.val (.int p0)] [(.int p0)]))
        refine own_by (fun _ k => XS.bipush X0.here hx rfl (hb hby d1_38) k) ?_
        show own_Fin p.tables e below _ (s₁.setTop (mkF m 40 #[.val (.int p0)] [(.int (65 : Int32)), (.int p0)]))
        by_cases hc10 : p0 < (65 : Int32)
        · refine own_by (fun _ k => XS.icmpYes X0.here hx rfl (pc0 := 40) (pc' := 57) rfl (hb hby d1_40) rfl (tlt hc10).1 (by decide) (by decide) k) ?_
          show own_Fin p.tables e below _ (s₁.setTop (mkF m 57 #[.val (.int p0)] []))
          refine own_by (fun _ k => XS.iconst X0.here hx rfl (hb hby d1_57) k) ?_
          show own_Fin p.tables e below _ (s₁.setTop (mkF m 58 #[.val (.int p0)] [(.int (-1 : Int32))]))
          have ef := (show f1 p0 = (-1 : Int32) from by unfold f1; rw [if_neg hc1, if_pos hc8, if_pos hc9, if_pos hc10])
          exact own_retI X0 hx Bd.returns hlk (hb hby d1_58) (by decide) (by decide) ⟨by rw [ef], N0, e0⟩
        · refine own_by (fun _ k => XS.icmpNo X0.here hx rfl (hb hby d1_40) rfl (flt hc10).1 k) ?_
          show own_Fin p.tables e below _ (s₁.setTop (mkF m 43 #[.val (.int p0)] []))
          refine own_by (fun _ k => XS.iloadN X0.here hx rfl (hb hby d1_43) rfl k) ?_
          show own_Fin p.tables e below _ (s₁.setTop (mkF m 44 #[.val (.int p0)] [(.int p0)]))
          refine own_by (fun _ k => XS.bipush X0.here hx rfl (hb hby d1_44) k) ?_
          show own_Fin p.tables e below _ (s₁.setTop (mkF m 46 #[.val (.int p0)] [(.int (70 : Int32)), (.int p0)]))
          by_cases hc11 : (70 : Int32) < p0
          · refine own_by (fun _ k => XS.icmpYes X0.here hx rfl (pc0 := 46) (pc' := 57) rfl (hb hby d1_46) rfl (tlt hc11).2.2.1 (by decide) (by decide) k) ?_
            show own_Fin p.tables e below _ (s₁.setTop (mkF m 57 #[.val (.int p0)] []))
            refine own_by (fun _ k => XS.iconst X0.here hx rfl (hb hby d1_57) k) ?_
            show own_Fin p.tables e below _ (s₁.setTop (mkF m 58 #[.val (.int p0)] [(.int (-1 : Int32))]))
            have ef := (show f1 p0 = (-1 : Int32) from by unfold f1; rw [if_neg hc1, if_pos hc8, if_pos hc9, if_neg hc10, if_pos hc11])
            exact own_retI X0 hx Bd.returns hlk (hb hby d1_58) (by decide) (by decide) ⟨by rw [ef], N0, e0⟩
          · refine own_by (fun _ k => XS.icmpNo X0.here hx rfl (hb hby d1_46) rfl (flt hc11).2.2.1 k) ?_
            show own_Fin p.tables e below _ (s₁.setTop (mkF m 49 #[.val (.int p0)] []))
            refine own_by (fun _ k => XS.iloadN X0.here hx rfl (hb hby d1_49) rfl k) ?_
            show own_Fin p.tables e below _ (s₁.setTop (mkF m 50 #[.val (.int p0)] [(.int p0)]))
            refine own_by (fun _ k => XS.bipush X0.here hx rfl (hb hby d1_50) k) ?_
            show own_Fin p.tables e below _ (s₁.setTop (mkF m 52 #[.val (.int p0)] [(.int (65 : Int32)), (.int p0)]))
            refine own_by (fun _ k => XS.isub X0.here hx rfl (hb hby d1_52) rfl k) ?_
            show own_Fin p.tables e below _ (s₁.setTop (mkF m 53 #[.val (.int p0)] [(.int (p0 - (65 : Int32)))]))
            refine own_by (fun _ k => XS.bipush X0.here hx rfl (hb hby d1_53) k) ?_
            show own_Fin p.tables e below _ (s₁.setTop (mkF m 55 #[.val (.int p0)] [(.int (10 : Int32)), (.int (p0 - (65 : Int32)))]))
            refine own_by (fun _ k => XS.iadd X0.here hx rfl (hb hby d1_55) rfl k) ?_
            show own_Fin p.tables e below _ (s₁.setTop (mkF m 56 #[.val (.int p0)] [(.int ((p0 - (65 : Int32)) + (10 : Int32)))]))
            have ef := (show f1 p0 = ((p0 - (65 : Int32)) + (10 : Int32)) from by unfold f1; rw [if_neg hc1, if_pos hc8, if_pos hc9, if_neg hc10, if_neg hc11])
            exact own_retI X0 hx Bd.returns hlk (hb hby d1_56) (by decide) (by decide) ⟨by rw [ef], N0, e0⟩
      · refine own_by (fun _ k => XS.icmpNo X0.here hx rfl (hb hby d1_20) rfl (flt hc9).1 k) ?_
        show own_Fin p.tables e below _ (s₁.setTop (mkF m 23 #[.val (.int p0)] []))
        refine own_by (fun _ k => XS.iloadN X0.here hx rfl (hb hby d1_23) rfl k) ?_
        show own_Fin p.tables e below _ (s₁.setTop (mkF m 24 #[.val (.int p0)] [(.int p0)]))
        refine own_by (fun _ k => XS.bipush X0.here hx rfl (hb hby d1_24) k) ?_
        show own_Fin p.tables e below _ (s₁.setTop (mkF m 26 #[.val (.int p0)] [(.int (102 : Int32)), (.int p0)]))
        by_cases hc12 : (102 : Int32) < p0
        · refine own_by (fun _ k => XS.icmpYes X0.here hx rfl (pc0 := 26) (pc' := 37) rfl (hb hby d1_26) rfl (tlt hc12).2.2.1 (by decide) (by decide) k) ?_
          show own_Fin p.tables e below _ (s₁.setTop (mkF m 37 #[.val (.int p0)] []))
          refine own_by (fun _ k => XS.iloadN X0.here hx rfl (hb hby d1_37) rfl k) ?_
          show own_Fin p.tables e below _ (s₁.setTop (mkF m 38 #[.val (.int p0)] [(.int p0)]))
          refine own_by (fun _ k => XS.bipush X0.here hx rfl (hb hby d1_38) k) ?_
          show own_Fin p.tables e below _ (s₁.setTop (mkF m 40 #[.val (.int p0)] [(.int (65 : Int32)), (.int p0)]))
          by_cases hc13 : p0 < (65 : Int32)
          · refine own_by (fun _ k => XS.icmpYes X0.here hx rfl (pc0 := 40) (pc' := 57) rfl (hb hby d1_40) rfl (tlt hc13).1 (by decide) (by decide) k) ?_
            show own_Fin p.tables e below _ (s₁.setTop (mkF m 57 #[.val (.int p0)] []))
            refine own_by (fun _ k => XS.iconst X0.here hx rfl (hb hby d1_57) k) ?_
            show own_Fin p.tables e below _ (s₁.setTop (mkF m 58 #[.val (.int p0)] [(.int (-1 : Int32))]))
            have ef := (show f1 p0 = (-1 : Int32) from by unfold f1; rw [if_neg hc1, if_pos hc8, if_neg hc9, if_pos hc12, if_pos hc13])
            exact own_retI X0 hx Bd.returns hlk (hb hby d1_58) (by decide) (by decide) ⟨by rw [ef], N0, e0⟩
          · refine own_by (fun _ k => XS.icmpNo X0.here hx rfl (hb hby d1_40) rfl (flt hc13).1 k) ?_
            show own_Fin p.tables e below _ (s₁.setTop (mkF m 43 #[.val (.int p0)] []))
            refine own_by (fun _ k => XS.iloadN X0.here hx rfl (hb hby d1_43) rfl k) ?_
            show own_Fin p.tables e below _ (s₁.setTop (mkF m 44 #[.val (.int p0)] [(.int p0)]))
            refine own_by (fun _ k => XS.bipush X0.here hx rfl (hb hby d1_44) k) ?_
            show own_Fin p.tables e below _ (s₁.setTop (mkF m 46 #[.val (.int p0)] [(.int (70 : Int32)), (.int p0)]))
            by_cases hc14 : (70 : Int32) < p0
            · refine own_by (fun _ k => XS.icmpYes X0.here hx rfl (pc0 := 46) (pc' := 57) rfl (hb hby d1_46) rfl (tlt hc14).2.2.1 (by decide) (by decide) k) ?_
              show own_Fin p.tables e below _ (s₁.setTop (mkF m 57 #[.val (.int p0)] []))
              refine own_by (fun _ k => XS.iconst X0.here hx rfl (hb hby d1_57) k) ?_
              show own_Fin p.tables e below _ (s₁.setTop (mkF m 58 #[.val (.int p0)] [(.int (-1 : Int32))]))
              have ef := (show f1 p0 = (-1 : Int32) from by unfold f1; rw [if_neg hc1, if_pos hc8, if_neg hc9, if_pos hc12, if_neg hc13, if_pos hc14])
              exact own_retI X0 hx Bd.returns hlk (hb hby d1_58) (by decide) (by decide) ⟨by rw [ef], N0, e0⟩
            · refine own_by (fun _ k => XS.icmpNo X0.here hx rfl (hb hby d1_46) rfl (flt hc14).2.2.1 k) ?_
              show own_Fin p.tables e below _ (s₁.setTop (mkF m 49 #[.val (.int p0)] []))
              refine own_by (fun _ k => XS.iloadN X0.here hx rfl (hb hby d1_49) rfl k) ?_
              show own_Fin p.tables e below _ (s₁.setTop (mkF m 50 #[.val (.int p0)] [(.int p0)]))
              refine own_by (fun _ k => XS.bipush X0.here hx rfl (hb hby d1_50) k) ?_
              show own_Fin p.tables e below _ (s₁.setTop (mkF m 52 #[.val (.int p0)] [(.int (65 : Int32)), (.int p0)]))
              refine own_by (fun _ k => XS.isub X0.here hx rfl (hb hby d1_52) rfl k) ?_
              show own_Fin p.tables e below _ (s₁.setTop (mkF m 53 #[.val (.int p0)] [(.int (p0 - (65 : Int32)))]))
              refine own_by (fun _ k => XS.bipush X0.here hx rfl (hb hby d1_53) k) ?_
              show own_Fin p.tables e below _ (s₁.setTop (mkF m 55 #[.val (.int p0)] [(.int (10 : Int32)), (.int (p0 - (65 : Int32)))]))
              refine own_by (fun _ k => XS.iadd X0.here hx rfl (hb hby d1_55) rfl k) ?_
              show own_Fin p.tables e below _ (s₁.setTop (mkF m 56 #[.val (.int p0)] [(.int ((p0 - (65 : Int32)) + (10 : Int32)))]))
              have ef := (show f1 p0 = ((p0 - (65 : Int32)) + (10 : Int32)) from by unfold f1; rw [if_neg hc1, if_pos hc8, if_neg hc9, if_pos hc12, if_neg hc13, if_neg hc14])
              exact own_retI X0 hx Bd.returns hlk (hb hby d1_56) (by decide) (by decide) ⟨by rw [ef], N0, e0⟩
        · refine own_by (fun _ k => XS.icmpNo X0.here hx rfl (hb hby d1_26) rfl (flt hc12).2.2.1 k) ?_
          show own_Fin p.tables e below _ (s₁.setTop (mkF m 29 #[.val (.int p0)] []))
          refine own_by (fun _ k => XS.iloadN X0.here hx rfl (hb hby d1_29) rfl k) ?_
          show own_Fin p.tables e below _ (s₁.setTop (mkF m 30 #[.val (.int p0)] [(.int p0)]))
          refine own_by (fun _ k => XS.bipush X0.here hx rfl (hb hby d1_30) k) ?_
          show own_Fin p.tables e below _ (s₁.setTop (mkF m 32 #[.val (.int p0)] [(.int (97 : Int32)), (.int p0)]))
          refine own_by (fun _ k => XS.isub X0.here hx rfl (hb hby d1_32) rfl k) ?_
          show own_Fin p.tables e below _ (s₁.setTop (mkF m 33 #[.val (.int p0)] [(.int (p0 - (97 : Int32)))]))
          refine own_by (fun _ k => XS.bipush X0.here hx rfl (hb hby d1_33) k) ?_
          show own_Fin p.tables e below _ (s₁.setTop (mkF m 35 #[.val (.int p0)] [(.int (10 : Int32)), (.int (p0 - (97 : Int32)))]))
          refine own_by (fun _ k => XS.iadd X0.here hx rfl (hb hby d1_35) rfl k) ?_
          show own_Fin p.tables e below _ (s₁.setTop (mkF m 36 #[.val (.int p0)] [(.int ((p0 - (97 : Int32)) + (10 : Int32)))]))
          have ef := (show f1 p0 = ((p0 - (97 : Int32)) + (10 : Int32)) from by unfold f1; rw [if_neg hc1, if_pos hc8, if_neg hc9, if_neg hc12])
          exact own_retI X0 hx Bd.returns hlk (hb hby d1_36) (by decide) (by decide) ⟨by rw [ef], N0, e0⟩
    · refine own_by (fun _ k => XS.icmpNo X0.here hx rfl (hb hby d1_9) rfl (flt hc8).2.2.1 k) ?_
      show own_Fin p.tables e below _ (s₁.setTop (mkF m 12 #[.val (.int p0)] []))
      refine own_by (fun _ k => XS.iloadN X0.here hx rfl (hb hby d1_12) rfl k) ?_
      show own_Fin p.tables e below _ (s₁.setTop (mkF m 13 #[.val (.int p0)] [(.int p0)]))
      refine own_by (fun _ k => XS.bipush X0.here hx rfl (hb hby d1_13) k) ?_
      show own_Fin p.tables e below _ (s₁.setTop (mkF m 15 #[.val (.int p0)] [(.int (48 : Int32)), (.int p0)]))
      refine own_by (fun _ k => XS.isub X0.here hx rfl (hb hby d1_15) rfl k) ?_
      show own_Fin p.tables e below _ (s₁.setTop (mkF m 16 #[.val (.int p0)] [(.int (p0 - (48 : Int32)))]))
      have ef := (show f1 p0 = (p0 - (48 : Int32)) from by unfold f1; rw [if_neg hc1, if_neg hc8])
      exact own_retI X0 hx Bd.returns hlk (hb hby d1_16) (by decide) (by decide) ⟨by rw [ef], N0, e0⟩
theorem d2_0 : decode method_2_code 0 = .ok (.iload_n 0, 1) := by decide +kernel
theorem d2_1 : decode method_2_code 1 = .ok (.bipush 10, 2) := by decide +kernel
theorem d2_3 : decode method_2_code 3 = .ok (.if_icmp .ge 9, 3) := by decide +kernel
theorem d2_6 : decode method_2_code 6 = .ok (.bipush 48, 2) := by decide +kernel
theorem d2_8 : decode method_2_code 8 = .ok (.iload_n 0, 1) := by decide +kernel
theorem d2_9 : decode method_2_code 9 = .ok (.iadd, 1) := by decide +kernel
theorem d2_10 : decode method_2_code 10 = .ok (.i2c, 1) := by decide +kernel
theorem d2_11 : decode method_2_code 11 = .ok (.ireturn, 1) := by decide +kernel
theorem d2_12 : decode method_2_code 12 = .ok (.bipush 65, 2) := by decide +kernel
theorem d2_14 : decode method_2_code 14 = .ok (.iload_n 0, 1) := by decide +kernel
theorem d2_15 : decode method_2_code 15 = .ok (.bipush 10, 2) := by decide +kernel
theorem d2_17 : decode method_2_code 17 = .ok (.isub, 1) := by decide +kernel
theorem d2_18 : decode method_2_code 18 = .ok (.iadd, 1) := by decide +kernel
theorem d2_19 : decode method_2_code 19 = .ok (.i2c, 1) := by decide +kernel
theorem d2_20 : decode method_2_code 20 = .ok (.ireturn, 1) := by decide +kernel
theorem pn_com_example_sealwatch_sealwatch_PercentEncodingHexDigitPinLaw : plainName "com/example/sealwatch/sealwatch/PercentEncodingHexDigitPinLaw" = true := by first | (simp [plainName, overriddenIn]; done) | decide +kernel
theorem ef_2 (m : MethodId) (p0 : Int32) : entryFrame m #[(.int p0)] 1 = mkF m 0 #[.val (.int p0)] [] := by first | (simp [entryFrame, mkF, argsToLocals, Value.category]; done) | rfl
def f2 (p0 : Int32) : Int32 :=
  if p0 < (10 : Int32) then
    (((48 : Int32) + p0).toUInt32.toUInt16.toUInt32.toInt32)
  else
    (((65 : Int32) + (p0 - (10 : Int32))).toUInt32.toUInt16.toUInt32.toInt32)
def Q2 (p0 : Int32) (h0 : Heap) (n0 : Nat) (v : Option Value) (h : Heap) (L : List Loc) : Prop := v = some (.int (f2 p0)) ∧ Fr n0 L ∧ h = h0
set_option maxRecDepth 65536 in
set_option maxHeartbeats 40000000 in
theorem rm2 (l : Launch) (Z : State) (a0 : Array Value) (hw : ∀ d ∈ tables_1, d.before a0 Z = true) (ws : List Jvm.Cond) (p0 : Int32)   (h0 : Heap) (n0 : Nat) (Z0 : n0 ≤ h0.size)   :
    MetFree l (⟨"com/example/sealwatch/sealwatch/PercentEncodingHexDigitPinLaw", "upperDigit", "(I)C"⟩ : MethodName) (head1 (Jvm.Cond.code (⟨"com/example/sealwatch/sealwatch/PercentEncodingHexDigitPinLaw", "upperDigit", "(I)C"⟩ : MethodName) method_2_code 1 (some .char) :: ws) ({ frames := 0, cells := 0, slots := 0, locals := 0 } : Room)) (fun a U => a = #[(.int p0)] ∧ Z.Warmed39 U.vm ∧ U.heap = h0) (fun _ _ _ _ _ => True) (fun _ U o U' => ∃ v L, o = .returned v ∧ Q2 p0 h0 n0 v U'.heap L ∧ FrameEnd U o U' L ({ frames := 0, cells := 0, slots := 0, locals := 0 } : Room).cells ({ frames := 0, cells := 0, slots := 0, locals := 0 } : Room).slots) := by
  refine MetFree.of_bodySF (plainFor_of_name pn_com_example_sealwatch_sealwatch_PercentEncodingHexDigitPinLaw) hisR ?_
  intro p e s m args below meth c s₁ Bd hml0 hP hK
  obtain ⟨rfl, hZ, hh⟩ := hP
  have hx := Bd.exec
  have hby := Bd.bytes
  have hlk : meth.locks = false := BodyLoose.notSynchronized Bd
  have hml : c.maxLocals = 1 := hml0
  have hown : s.vm.findClass "com/example/sealwatch/sealwatch/PercentEncodingHexDigitPinLaw" = some m.cls := findClass_of_methodNamed Bd.named
  have hnm := (name_of_methodNamed Bd.named Bd.method).1
  have X0 : Stand p l e ({ frames := 0, cells := 0, slots := 0, locals := 0 } : Room) s m #[(.int p0)] below meth c s₁ [] 0 0 := Stand.of_body Bd
  have e0 : s₁.heap = h0 := by rw [← hh, Bd.state]; rfl
  have N0 := Fr.nil n0
  refine own_by (U' := s₁.setTop (mkF m 0 #[.val (.int p0)] [])) (fun t k => castTop (ef_2 m p0) k) ?_
  refine own_by (fun _ k => XS.iloadN X0.here hx rfl (hb hby d2_0) rfl k) ?_
  show own_Fin p.tables e below _ (s₁.setTop (mkF m 1 #[.val (.int p0)] [(.int p0)]))
  refine own_by (fun _ k => XS.bipush X0.here hx rfl (hb hby d2_1) k) ?_
  show own_Fin p.tables e below _ (s₁.setTop (mkF m 3 #[.val (.int p0)] [(.int (10 : Int32)), (.int p0)]))
  by_cases hc1 : p0 < (10 : Int32)
  · refine own_by (fun _ k => XS.icmpNo X0.here hx rfl (hb hby d2_3) rfl (tlt hc1).2.1 k) ?_
    show own_Fin p.tables e below _ (s₁.setTop (mkF m 6 #[.val (.int p0)] []))
    refine own_by (fun _ k => XS.bipush X0.here hx rfl (hb hby d2_6) k) ?_
    show own_Fin p.tables e below _ (s₁.setTop (mkF m 8 #[.val (.int p0)] [(.int (48 : Int32))]))
    refine own_by (fun _ k => XS.iloadN X0.here hx rfl (hb hby d2_8) rfl k) ?_
    show own_Fin p.tables e below _ (s₁.setTop (mkF m 9 #[.val (.int p0)] [(.int p0), (.int (48 : Int32))]))
    refine own_by (fun _ k => XS.iadd X0.here hx rfl (hb hby d2_9) rfl k) ?_
    show own_Fin p.tables e below _ (s₁.setTop (mkF m 10 #[.val (.int p0)] [(.int ((48 : Int32) + p0))]))
    refine own_by (fun _ k => XS.i2c X0.here hx rfl (hb hby d2_10) rfl k) ?_
    show own_Fin p.tables e below _ (s₁.setTop (mkF m 11 #[.val (.int p0)] [(.int (((48 : Int32) + p0).toUInt32.toUInt16.toUInt32.toInt32))]))
    have ef := (show f2 p0 = (((48 : Int32) + p0).toUInt32.toUInt16.toUInt32.toInt32) from by unfold f2; rw [if_pos hc1])
    exact own_retN X0 hx (t := .char) Bd.returns hlk (by simp) (hb hby d2_11) (by decide) (by decide) ⟨by rw [ef]; exact congrArg (fun z => some (Value.int z)) (own_nar_char _), N0, e0⟩
  · refine own_by (fun _ k => XS.icmpYes X0.here hx rfl (pc0 := 3) (pc' := 12) rfl (hb hby d2_3) rfl (flt hc1).2.1 (by decide) (by decide) k) ?_
    show own_Fin p.tables e below _ (s₁.setTop (mkF m 12 #[.val (.int p0)] []))
    refine own_by (fun _ k => XS.bipush X0.here hx rfl (hb hby d2_12) k) ?_
    show own_Fin p.tables e below _ (s₁.setTop (mkF m 14 #[.val (.int p0)] [(.int (65 : Int32))]))
    refine own_by (fun _ k => XS.iloadN X0.here hx rfl (hb hby d2_14) rfl k) ?_
    show own_Fin p.tables e below _ (s₁.setTop (mkF m 15 #[.val (.int p0)] [(.int p0), (.int (65 : Int32))]))
    refine own_by (fun _ k => XS.bipush X0.here hx rfl (hb hby d2_15) k) ?_
    show own_Fin p.tables e below _ (s₁.setTop (mkF m 17 #[.val (.int p0)] [(.int (10 : Int32)), (.int p0), (.int (65 : Int32))]))
    refine own_by (fun _ k => XS.isub X0.here hx rfl (hb hby d2_17) rfl k) ?_
    show own_Fin p.tables e below _ (s₁.setTop (mkF m 18 #[.val (.int p0)] [(.int (p0 - (10 : Int32))), (.int (65 : Int32))]))
    refine own_by (fun _ k => XS.iadd X0.here hx rfl (hb hby d2_18) rfl k) ?_
    show own_Fin p.tables e below _ (s₁.setTop (mkF m 19 #[.val (.int p0)] [(.int ((65 : Int32) + (p0 - (10 : Int32))))]))
    refine own_by (fun _ k => XS.i2c X0.here hx rfl (hb hby d2_19) rfl k) ?_
    show own_Fin p.tables e below _ (s₁.setTop (mkF m 20 #[.val (.int p0)] [(.int (((65 : Int32) + (p0 - (10 : Int32))).toUInt32.toUInt16.toUInt32.toInt32))]))
    have ef := (show f2 p0 = (((65 : Int32) + (p0 - (10 : Int32))).toUInt32.toUInt16.toUInt32.toInt32) from by unfold f2; rw [if_neg hc1])
    exact own_retN X0 hx (t := .char) Bd.returns hlk (by simp) (hb hby d2_20) (by decide) (by decide) ⟨by rw [ef]; exact congrArg (fun z => some (Value.int z)) (own_nar_char _), N0, e0⟩
theorem d3_0 : decode method_3_code 0 = .ok (.iload_n 0, 1) := by decide +kernel
theorem d3_1 : decode method_3_code 1 = .ok (.bipush 10, 2) := by decide +kernel
theorem d3_3 : decode method_3_code 3 = .ok (.if_icmp .ge 9, 3) := by decide +kernel
theorem d3_6 : decode method_3_code 6 = .ok (.bipush 48, 2) := by decide +kernel
theorem d3_8 : decode method_3_code 8 = .ok (.iload_n 0, 1) := by decide +kernel
theorem d3_9 : decode method_3_code 9 = .ok (.iadd, 1) := by decide +kernel
theorem d3_10 : decode method_3_code 10 = .ok (.i2c, 1) := by decide +kernel
theorem d3_11 : decode method_3_code 11 = .ok (.ireturn, 1) := by decide +kernel
theorem d3_12 : decode method_3_code 12 = .ok (.bipush 97, 2) := by decide +kernel
theorem d3_14 : decode method_3_code 14 = .ok (.iload_n 0, 1) := by decide +kernel
theorem d3_15 : decode method_3_code 15 = .ok (.bipush 10, 2) := by decide +kernel
theorem d3_17 : decode method_3_code 17 = .ok (.isub, 1) := by decide +kernel
theorem d3_18 : decode method_3_code 18 = .ok (.iadd, 1) := by decide +kernel
theorem d3_19 : decode method_3_code 19 = .ok (.i2c, 1) := by decide +kernel
theorem d3_20 : decode method_3_code 20 = .ok (.ireturn, 1) := by decide +kernel
theorem ef_3 (m : MethodId) (p0 : Int32) : entryFrame m #[(.int p0)] 1 = mkF m 0 #[.val (.int p0)] [] := by first | (simp [entryFrame, mkF, argsToLocals, Value.category]; done) | rfl
def f3 (p0 : Int32) : Int32 :=
  if p0 < (10 : Int32) then
    (((48 : Int32) + p0).toUInt32.toUInt16.toUInt32.toInt32)
  else
    (((97 : Int32) + (p0 - (10 : Int32))).toUInt32.toUInt16.toUInt32.toInt32)
def Q3 (p0 : Int32) (h0 : Heap) (n0 : Nat) (v : Option Value) (h : Heap) (L : List Loc) : Prop := v = some (.int (f3 p0)) ∧ Fr n0 L ∧ h = h0
set_option maxRecDepth 65536 in
set_option maxHeartbeats 40000000 in
theorem rm3 (l : Launch) (Z : State) (a0 : Array Value) (hw : ∀ d ∈ tables_1, d.before a0 Z = true) (ws : List Jvm.Cond) (p0 : Int32)   (h0 : Heap) (n0 : Nat) (Z0 : n0 ≤ h0.size)   :
    MetFree l (⟨"com/example/sealwatch/sealwatch/PercentEncodingHexDigitPinLaw", "lowerDigit", "(I)C"⟩ : MethodName) (head1 (Jvm.Cond.code (⟨"com/example/sealwatch/sealwatch/PercentEncodingHexDigitPinLaw", "lowerDigit", "(I)C"⟩ : MethodName) method_3_code 1 (some .char) :: ws) ({ frames := 0, cells := 0, slots := 0, locals := 0 } : Room)) (fun a U => a = #[(.int p0)] ∧ Z.Warmed39 U.vm ∧ U.heap = h0) (fun _ _ _ _ _ => True) (fun _ U o U' => ∃ v L, o = .returned v ∧ Q3 p0 h0 n0 v U'.heap L ∧ FrameEnd U o U' L ({ frames := 0, cells := 0, slots := 0, locals := 0 } : Room).cells ({ frames := 0, cells := 0, slots := 0, locals := 0 } : Room).slots) := by
  refine MetFree.of_bodySF (plainFor_of_name pn_com_example_sealwatch_sealwatch_PercentEncodingHexDigitPinLaw) hisR ?_
  intro p e s m args below meth c s₁ Bd hml0 hP hK
  obtain ⟨rfl, hZ, hh⟩ := hP
  have hx := Bd.exec
  have hby := Bd.bytes
  have hlk : meth.locks = false := BodyLoose.notSynchronized Bd
  have hml : c.maxLocals = 1 := hml0
  have hown : s.vm.findClass "com/example/sealwatch/sealwatch/PercentEncodingHexDigitPinLaw" = some m.cls := findClass_of_methodNamed Bd.named
  have hnm := (name_of_methodNamed Bd.named Bd.method).1
  have X0 : Stand p l e ({ frames := 0, cells := 0, slots := 0, locals := 0 } : Room) s m #[(.int p0)] below meth c s₁ [] 0 0 := Stand.of_body Bd
  have e0 : s₁.heap = h0 := by rw [← hh, Bd.state]; rfl
  have N0 := Fr.nil n0
  refine own_by (U' := s₁.setTop (mkF m 0 #[.val (.int p0)] [])) (fun t k => castTop (ef_3 m p0) k) ?_
  refine own_by (fun _ k => XS.iloadN X0.here hx rfl (hb hby d3_0) rfl k) ?_
  show own_Fin p.tables e below _ (s₁.setTop (mkF m 1 #[.val (.int p0)] [(.int p0)]))
  refine own_by (fun _ k => XS.bipush X0.here hx rfl (hb hby d3_1) k) ?_
  show own_Fin p.tables e below _ (s₁.setTop (mkF m 3 #[.val (.int p0)] [(.int (10 : Int32)), (.int p0)]))
  by_cases hc1 : p0 < (10 : Int32)
  · refine own_by (fun _ k => XS.icmpNo X0.here hx rfl (hb hby d3_3) rfl (tlt hc1).2.1 k) ?_
    show own_Fin p.tables e below _ (s₁.setTop (mkF m 6 #[.val (.int p0)] []))
    refine own_by (fun _ k => XS.bipush X0.here hx rfl (hb hby d3_6) k) ?_
    show own_Fin p.tables e below _ (s₁.setTop (mkF m 8 #[.val (.int p0)] [(.int (48 : Int32))]))
    refine own_by (fun _ k => XS.iloadN X0.here hx rfl (hb hby d3_8) rfl k) ?_
    show own_Fin p.tables e below _ (s₁.setTop (mkF m 9 #[.val (.int p0)] [(.int p0), (.int (48 : Int32))]))
    refine own_by (fun _ k => XS.iadd X0.here hx rfl (hb hby d3_9) rfl k) ?_
    show own_Fin p.tables e below _ (s₁.setTop (mkF m 10 #[.val (.int p0)] [(.int ((48 : Int32) + p0))]))
    refine own_by (fun _ k => XS.i2c X0.here hx rfl (hb hby d3_10) rfl k) ?_
    show own_Fin p.tables e below _ (s₁.setTop (mkF m 11 #[.val (.int p0)] [(.int (((48 : Int32) + p0).toUInt32.toUInt16.toUInt32.toInt32))]))
    have ef := (show f3 p0 = (((48 : Int32) + p0).toUInt32.toUInt16.toUInt32.toInt32) from by unfold f3; rw [if_pos hc1])
    exact own_retN X0 hx (t := .char) Bd.returns hlk (by simp) (hb hby d3_11) (by decide) (by decide) ⟨by rw [ef]; exact congrArg (fun z => some (Value.int z)) (own_nar_char _), N0, e0⟩
  · refine own_by (fun _ k => XS.icmpYes X0.here hx rfl (pc0 := 3) (pc' := 12) rfl (hb hby d3_3) rfl (flt hc1).2.1 (by decide) (by decide) k) ?_
    show own_Fin p.tables e below _ (s₁.setTop (mkF m 12 #[.val (.int p0)] []))
    refine own_by (fun _ k => XS.bipush X0.here hx rfl (hb hby d3_12) k) ?_
    show own_Fin p.tables e below _ (s₁.setTop (mkF m 14 #[.val (.int p0)] [(.int (97 : Int32))]))
    refine own_by (fun _ k => XS.iloadN X0.here hx rfl (hb hby d3_14) rfl k) ?_
    show own_Fin p.tables e below _ (s₁.setTop (mkF m 15 #[.val (.int p0)] [(.int p0), (.int (97 : Int32))]))
    refine own_by (fun _ k => XS.bipush X0.here hx rfl (hb hby d3_15) k) ?_
    show own_Fin p.tables e below _ (s₁.setTop (mkF m 17 #[.val (.int p0)] [(.int (10 : Int32)), (.int p0), (.int (97 : Int32))]))
    refine own_by (fun _ k => XS.isub X0.here hx rfl (hb hby d3_17) rfl k) ?_
    show own_Fin p.tables e below _ (s₁.setTop (mkF m 18 #[.val (.int p0)] [(.int (p0 - (10 : Int32))), (.int (97 : Int32))]))
    refine own_by (fun _ k => XS.iadd X0.here hx rfl (hb hby d3_18) rfl k) ?_
    show own_Fin p.tables e below _ (s₁.setTop (mkF m 19 #[.val (.int p0)] [(.int ((97 : Int32) + (p0 - (10 : Int32))))]))
    refine own_by (fun _ k => XS.i2c X0.here hx rfl (hb hby d3_19) rfl k) ?_
    show own_Fin p.tables e below _ (s₁.setTop (mkF m 20 #[.val (.int p0)] [(.int (((97 : Int32) + (p0 - (10 : Int32))).toUInt32.toUInt16.toUInt32.toInt32))]))
    have ef := (show f3 p0 = (((97 : Int32) + (p0 - (10 : Int32))).toUInt32.toUInt16.toUInt32.toInt32) from by unfold f3; rw [if_neg hc1])
    exact own_retN X0 hx (t := .char) Bd.returns hlk (by simp) (hb hby d3_20) (by decide) (by decide) ⟨by rw [ef]; exact congrArg (fun z => some (Value.int z)) (own_nar_char _), N0, e0⟩
theorem pd__C_I : parseMethodDescriptor "(C)I" = some ⟨[.char], some .int⟩ := by decide +kernel
theorem pd__I_C : parseMethodDescriptor "(I)C" = some ⟨[.int], some .char⟩ := by decide +kernel
theorem ef_0 (m : MethodId) (p0 : Int32) (p1 : Int32) : entryFrame m #[(.int p0), (.int p1)] maxLocals = mkF m 0 #[.val (.int p0), .val (.int p1), .unset, .unset, .unset, .unset, .unset] [] := by first | (simp [entryFrame, mkF, argsToLocals, Value.category, maxLocals]; done) | rfl
def f0 (p0 : Int32) (p1 : Int32) : Int32 :=
  if (f1 (p0.toUInt32.toUInt16.toUInt32.toInt32)) = (-1 : Int32) then
    if (f1 (f2 (p1 &&& (15 : Int32)))) = (p1 &&& (15 : Int32)) then
      if (f1 (f3 (p1 &&& (15 : Int32)))) = (p1 &&& (15 : Int32)) then
        (1 : Int32)
      else
        (0 : Int32)
    else
      (0 : Int32)
  else
    if (f1 (p0.toUInt32.toUInt16.toUInt32.toInt32)) < (0 : Int32) then
      if (f1 (f2 (p1 &&& (15 : Int32)))) = (p1 &&& (15 : Int32)) then
        if (f1 (f3 (p1 &&& (15 : Int32)))) = (p1 &&& (15 : Int32)) then
          (0 : Int32)
        else
          (0 : Int32)
      else
        (0 : Int32)
    else
      if (f1 (p0.toUInt32.toUInt16.toUInt32.toInt32)) < (16 : Int32) then
        if (p0.toUInt32.toUInt16.toUInt32.toInt32) = (f2 (f1 (p0.toUInt32.toUInt16.toUInt32.toInt32))) then
          if (f1 (f2 (p1 &&& (15 : Int32)))) = (p1 &&& (15 : Int32)) then
            if (f1 (f3 (p1 &&& (15 : Int32)))) = (p1 &&& (15 : Int32)) then
              (1 : Int32)
            else
              (0 : Int32)
          else
            (0 : Int32)
        else
          if (p0.toUInt32.toUInt16.toUInt32.toInt32) = (f3 (f1 (p0.toUInt32.toUInt16.toUInt32.toInt32))) then
            if (f1 (f2 (p1 &&& (15 : Int32)))) = (p1 &&& (15 : Int32)) then
              if (f1 (f3 (p1 &&& (15 : Int32)))) = (p1 &&& (15 : Int32)) then
                (1 : Int32)
              else
                (0 : Int32)
            else
              (0 : Int32)
          else
            if (f1 (f2 (p1 &&& (15 : Int32)))) = (p1 &&& (15 : Int32)) then
              if (f1 (f3 (p1 &&& (15 : Int32)))) = (p1 &&& (15 : Int32)) then
                (0 : Int32)
              else
                (0 : Int32)
            else
              (0 : Int32)
      else
        if (f1 (f2 (p1 &&& (15 : Int32)))) = (p1 &&& (15 : Int32)) then
          if (f1 (f3 (p1 &&& (15 : Int32)))) = (p1 &&& (15 : Int32)) then
            (0 : Int32)
          else
            (0 : Int32)
        else
          (0 : Int32)
def Q0 (p0 : Int32) (p1 : Int32) (h0 : Heap) (n0 : Nat) (v : Option Value) (h : Heap) (L : List Loc) : Prop := v = some (.int (f0 p0 p1)) ∧ Fr n0 L
set_option maxRecDepth 65536 in
set_option maxHeartbeats 40000000 in
theorem rm0 (l : Launch) (Z : State) (a0 : Array Value) (hw : ∀ d ∈ tables_1, d.before a0 Z = true) (ws : List Jvm.Cond) (p0 : Int32) (p1 : Int32)   (h0 : Heap) (n0 : Nat) (Z0 : n0 ≤ h0.size)   :
    MetFree l x (head1 (Jvm.Cond.code x code maxLocals ret :: ws) room_1) (fun a U => a = #[(.int p0), (.int p1)] ∧ Z.Warmed39 U.vm ∧ U.heap = h0) (fun _ _ _ _ _ => True) (fun _ U o U' => ∃ v L, o = .returned v ∧ Q0 p0 p1 h0 n0 v U'.heap L ∧ FrameEnd U o U' L 0 0) := by
  refine MetFree.of_bodySF (plainFor_of_name pn_com_example_sealwatch_sealwatch_PercentEncodingHexDigitPinLaw) hisR ?_
  intro p e s m args below meth c s₁ Bd hml0 hP hK
  obtain ⟨rfl, hZ, hh⟩ := hP
  have hx := Bd.exec
  have hby := Bd.bytes
  have hlk : meth.locks = false := BodyLoose.notSynchronized Bd
  have hml : c.maxLocals = 7 := hml0
  have hown : s.vm.findClass "com/example/sealwatch/sealwatch/PercentEncodingHexDigitPinLaw" = some m.cls := findClass_of_methodNamed Bd.named
  have hnm := (name_of_methodNamed Bd.named Bd.method).1
  have X0 : Stand p l e room_1 s m #[(.int p0), (.int p1)] below meth c s₁ [] 0 0 := Stand.of_body Bd
  have e0 : s₁.heap = h0 := by rw [← hh, Bd.state]; rfl
  have N0 := Fr.nil n0
  refine own_by (U' := s₁.setTop (mkF m 0 #[.val (.int p0), .val (.int p1), .unset, .unset, .unset, .unset, .unset] [])) (fun t k => castTop (ef_0 m p0 p1) k) ?_
  refine own_by (fun _ k => XS.iloadN X0.here hx rfl (hb hby at_0) rfl k) ?_
  show own_Fin p.tables e below _ (s₁.setTop (mkF m 1 #[.val (.int p0), .val (.int p1), .unset, .unset, .unset, .unset, .unset] [(.int p0)]))
  refine own_by (fun _ k => XS.i2c X0.here hx rfl (hb hby at_1) rfl k) ?_
  show own_Fin p.tables e below _ (s₁.setTop (mkF m 2 #[.val (.int p0), .val (.int p1), .unset, .unset, .unset, .unset, .unset] [(.int (p0.toUInt32.toUInt16.toUInt32.toInt32))]))
  refine own_by (fun _ k => XS.istoreN X0.here hx rfl (hb hby at_2) rfl (l' := #[.val (.int p0), .val (.int p1), .val (.int (p0.toUInt32.toUInt16.toUInt32.toInt32)), .unset, .unset, .unset, .unset]) rfl k) ?_
  show own_Fin p.tables e below _ (s₁.setTop (mkF m 3 #[.val (.int p0), .val (.int p1), .val (.int (p0.toUInt32.toUInt16.toUInt32.toInt32)), .unset, .unset, .unset, .unset] []))
  refine own_by (fun _ k => XS.iloadN X0.here hx rfl (hb hby at_3) rfl k) ?_
  show own_Fin p.tables e below _ (s₁.setTop (mkF m 4 #[.val (.int p0), .val (.int p1), .val (.int (p0.toUInt32.toUInt16.toUInt32.toInt32)), .unset, .unset, .unset, .unset] [(.int p1)]))
  refine own_by (fun _ k => XS.bipush X0.here hx rfl (hb hby at_4) k) ?_
  show own_Fin p.tables e below _ (s₁.setTop (mkF m 6 #[.val (.int p0), .val (.int p1), .val (.int (p0.toUInt32.toUInt16.toUInt32.toInt32)), .unset, .unset, .unset, .unset] [(.int (15 : Int32)), (.int p1)]))
  refine own_by (fun _ k => XS.iand X0.here hx rfl (hb hby at_6) rfl k) ?_
  show own_Fin p.tables e below _ (s₁.setTop (mkF m 7 #[.val (.int p0), .val (.int p1), .val (.int (p0.toUInt32.toUInt16.toUInt32.toInt32)), .unset, .unset, .unset, .unset] [(.int (p1 &&& (15 : Int32)))]))
  refine own_by (fun _ k => XS.istoreN X0.here hx rfl (hb hby at_7) rfl (l' := #[.val (.int p0), .val (.int p1), .val (.int (p0.toUInt32.toUInt16.toUInt32.toInt32)), .val (.int (p1 &&& (15 : Int32))), .unset, .unset, .unset]) rfl k) ?_
  show own_Fin p.tables e below _ (s₁.setTop (mkF m 8 #[.val (.int p0), .val (.int p1), .val (.int (p0.toUInt32.toUInt16.toUInt32.toInt32)), .val (.int (p1 &&& (15 : Int32))), .unset, .unset, .unset] []))
  refine own_by (fun _ k => XS.iloadN X0.here hx rfl (hb hby at_8) rfl k) ?_
  show own_Fin p.tables e below _ (s₁.setTop (mkF m 9 #[.val (.int p0), .val (.int p1), .val (.int (p0.toUInt32.toUInt16.toUInt32.toInt32)), .val (.int (p1 &&& (15 : Int32))), .unset, .unset, .unset] [(.int (p0.toUInt32.toUInt16.toUInt32.toInt32))]))
  obtain ⟨_, _, ⟨T1, L1, k1, n1⟩, -, X1, ⟨Lc1, hQ1, l1, y1, z1⟩, st1⟩ := Jvm.LawKit.callS X0 hx (y := (⟨"com/example/sealwatch/sealwatch/PercentEncoding", "hexDigit", "(C)I"⟩ : MethodName)) hown (mvT hZ (hw _ (List.mem_of_getElem? (i := 0) rfl))) (mvT hZ (hw _ (List.mem_of_getElem? (i := 1) rfl))) (mvT hZ (hw _ (List.mem_of_getElem? (i := 2) rfl))) (mvT hZ (hw _ (List.mem_of_getElem? (i := 3) rfl))) (by decide) (backOf (W := 0) (rm1 l Z a0 hw [] (p0.toUInt32.toUInt16.toUInt32.toInt32) h0 n0 Z0 ) hZ (hw _ (List.mem_of_getElem? (i := 3) rfl)) (hw _ (List.mem_of_getElem? (i := 2) rfl)) (by decide) (by decide)) (g := (mkF m 9 #[.val (.int p0), .val (.int p1), .val (.int (p0.toUInt32.toUInt16.toUInt32.toInt32)), .val (.int (p1 &&& (15 : Int32))), .unset, .unset, .unset] [(.int (p0.toUInt32.toUInt16.toUInt32.toInt32))])) rfl (by rw [hml]; rfl) (argsL := [(.int (p0.toUInt32.toUInt16.toUInt32.toInt32))]) (rest := []) (lenOf pd__C_I rfl) rfl (by show 2 * 0 + _ ≤ _; exact Nat.le_of_eq rfl) (hb hby at_9) (fun _ _ => ⟨rfl, e0, (by decide : 0 + 0 ≤ _), (by decide : 0 + 0 ≤ _)⟩)
  dsimp only [Pt.U, Pt.locs, Pt.cells, Pt.slots] at X1 l1 y1 z1 st1 hQ1
  subst l1 y1 z1
  obtain ⟨rfl, N1q, e1⟩ := hQ1
  have N1 := Fr.app N0 N1q
  refine own_by st1 ?_
  show own_Fin p.tables e below _ (T1.setTop (mkF m 12 #[.val (.int p0), .val (.int p1), .val (.int (p0.toUInt32.toUInt16.toUInt32.toInt32)), .val (.int (p1 &&& (15 : Int32))), .unset, .unset, .unset] [(.int (f1 (p0.toUInt32.toUInt16.toUInt32.toInt32)))]))
  refine own_by (fun _ k => XS.istore X1.here hx rfl (hb hby at_12) rfl (l' := #[.val (.int p0), .val (.int p1), .val (.int (p0.toUInt32.toUInt16.toUInt32.toInt32)), .val (.int (p1 &&& (15 : Int32))), .val (.int (f1 (p0.toUInt32.toUInt16.toUInt32.toInt32))), .unset, .unset]) rfl k) ?_
  show own_Fin p.tables e below _ (T1.setTop (mkF m 14 #[.val (.int p0), .val (.int p1), .val (.int (p0.toUInt32.toUInt16.toUInt32.toInt32)), .val (.int (p1 &&& (15 : Int32))), .val (.int (f1 (p0.toUInt32.toUInt16.toUInt32.toInt32))), .unset, .unset] []))
  refine own_by (fun _ k => XS.iload X1.here hx rfl (hb hby at_14) rfl k) ?_
  show own_Fin p.tables e below _ (T1.setTop (mkF m 16 #[.val (.int p0), .val (.int p1), .val (.int (p0.toUInt32.toUInt16.toUInt32.toInt32)), .val (.int (p1 &&& (15 : Int32))), .val (.int (f1 (p0.toUInt32.toUInt16.toUInt32.toInt32))), .unset, .unset] [(.int (f1 (p0.toUInt32.toUInt16.toUInt32.toInt32)))]))
  refine own_by (fun _ k => XS.iconst X1.here hx rfl (hb hby at_16) k) ?_
  show own_Fin p.tables e below _ (T1.setTop (mkF m 17 #[.val (.int p0), .val (.int p1), .val (.int (p0.toUInt32.toUInt16.toUInt32.toInt32)), .val (.int (p1 &&& (15 : Int32))), .val (.int (f1 (p0.toUInt32.toUInt16.toUInt32.toInt32))), .unset, .unset] [(.int (-1 : Int32)), (.int (f1 (p0.toUInt32.toUInt16.toUInt32.toInt32)))]))
  by_cases hc2 : (f1 (p0.toUInt32.toUInt16.toUInt32.toInt32)) = (-1 : Int32)
  · refine own_by (fun _ k => XS.icmpNo X1.here hx rfl (hb hby at_17) rfl (teq hc2).2 k) ?_
    show own_Fin p.tables e below _ (T1.setTop (mkF m 20 #[.val (.int p0), .val (.int p1), .val (.int (p0.toUInt32.toUInt16.toUInt32.toInt32)), .val (.int (p1 &&& (15 : Int32))), .val (.int (f1 (p0.toUInt32.toUInt16.toUInt32.toInt32))), .unset, .unset] []))
    refine own_by (fun _ k => XS.iconst X1.here hx rfl (hb hby at_20) k) ?_
    show own_Fin p.tables e below _ (T1.setTop (mkF m 21 #[.val (.int p0), .val (.int p1), .val (.int (p0.toUInt32.toUInt16.toUInt32.toInt32)), .val (.int (p1 &&& (15 : Int32))), .val (.int (f1 (p0.toUInt32.toUInt16.toUInt32.toInt32))), .unset, .unset] [(.int (1 : Int32))]))
    refine own_by (fun _ k => XS.istore X1.here hx rfl (hb hby at_21) rfl (l' := #[.val (.int p0), .val (.int p1), .val (.int (p0.toUInt32.toUInt16.toUInt32.toInt32)), .val (.int (p1 &&& (15 : Int32))), .val (.int (f1 (p0.toUInt32.toUInt16.toUInt32.toInt32))), .val (.int (1 : Int32)), .unset]) rfl k) ?_
    show own_Fin p.tables e below _ (T1.setTop (mkF m 23 #[.val (.int p0), .val (.int p1), .val (.int (p0.toUInt32.toUInt16.toUInt32.toInt32)), .val (.int (p1 &&& (15 : Int32))), .val (.int (f1 (p0.toUInt32.toUInt16.toUInt32.toInt32))), .val (.int (1 : Int32)), .unset] []))
    refine own_by (fun _ k => XS.goto X1.here hx rfl (pc0 := 23) (pc' := 69) rfl (hb hby at_23) (by decide) (by decide) k) ?_
    show own_Fin p.tables e below _ (T1.setTop (mkF m 69 #[.val (.int p0), .val (.int p1), .val (.int (p0.toUInt32.toUInt16.toUInt32.toInt32)), .val (.int (p1 &&& (15 : Int32))), .val (.int (f1 (p0.toUInt32.toUInt16.toUInt32.toInt32))), .val (.int (1 : Int32)), .unset] []))
    refine own_by (fun _ k => XS.iloadN X1.here hx rfl (hb hby at_69) rfl k) ?_
    show own_Fin p.tables e below _ (T1.setTop (mkF m 70 #[.val (.int p0), .val (.int p1), .val (.int (p0.toUInt32.toUInt16.toUInt32.toInt32)), .val (.int (p1 &&& (15 : Int32))), .val (.int (f1 (p0.toUInt32.toUInt16.toUInt32.toInt32))), .val (.int (1 : Int32)), .unset] [(.int (p1 &&& (15 : Int32)))]))
    obtain ⟨_, _, ⟨T3, L3, k3, n3⟩, -, X3, ⟨Lc3, hQ3, l3, y3, z3⟩, st3⟩ := Jvm.LawKit.callS X1 hx (y := (⟨"com/example/sealwatch/sealwatch/PercentEncodingHexDigitPinLaw", "upperDigit", "(I)C"⟩ : MethodName)) hown (mvT hZ (hw _ (List.mem_of_getElem? (i := 4) rfl))) (mvT hZ (hw _ (List.mem_of_getElem? (i := 5) rfl))) (mvT hZ (hw _ (List.mem_of_getElem? (i := 6) rfl))) (mvT hZ (hw _ (List.mem_of_getElem? (i := 7) rfl))) (by decide) (backOf (W := 0) (rm2 l Z a0 hw [] (p1 &&& (15 : Int32)) h0 n0 Z0 ) hZ (hw _ (List.mem_of_getElem? (i := 7) rfl)) (hw _ (List.mem_of_getElem? (i := 6) rfl)) (by decide) (by decide)) (g := (mkF m 70 #[.val (.int p0), .val (.int p1), .val (.int (p0.toUInt32.toUInt16.toUInt32.toInt32)), .val (.int (p1 &&& (15 : Int32))), .val (.int (f1 (p0.toUInt32.toUInt16.toUInt32.toInt32))), .val (.int (1 : Int32)), .unset] [(.int (p1 &&& (15 : Int32)))])) rfl (by rw [hml]; rfl) (argsL := [(.int (p1 &&& (15 : Int32)))]) (rest := []) (lenOf pd__I_C rfl) rfl (by show 2 * 0 + _ ≤ _; exact Nat.le_of_eq rfl) (hb hby at_70) (fun _ _ => ⟨rfl, e1, (by decide : 0 + 0 ≤ _), (by decide : 0 + 0 ≤ _)⟩)
    dsimp only [Pt.U, Pt.locs, Pt.cells, Pt.slots] at X3 l3 y3 z3 st3 hQ3
    subst l3 y3 z3
    obtain ⟨rfl, N3q, e3⟩ := hQ3
    have N3 := Fr.app N1 N3q
    refine own_by st3 ?_
    show own_Fin p.tables e below _ (T3.setTop (mkF m 73 #[.val (.int p0), .val (.int p1), .val (.int (p0.toUInt32.toUInt16.toUInt32.toInt32)), .val (.int (p1 &&& (15 : Int32))), .val (.int (f1 (p0.toUInt32.toUInt16.toUInt32.toInt32))), .val (.int (1 : Int32)), .unset] [(.int (f2 (p1 &&& (15 : Int32))))]))
    obtain ⟨_, _, ⟨T4, L4, k4, n4⟩, -, X4, ⟨Lc4, hQ4, l4, y4, z4⟩, st4⟩ := Jvm.LawKit.callS X3 hx (y := (⟨"com/example/sealwatch/sealwatch/PercentEncoding", "hexDigit", "(C)I"⟩ : MethodName)) hown (mvT hZ (hw _ (List.mem_of_getElem? (i := 0) rfl))) (mvT hZ (hw _ (List.mem_of_getElem? (i := 1) rfl))) (mvT hZ (hw _ (List.mem_of_getElem? (i := 2) rfl))) (mvT hZ (hw _ (List.mem_of_getElem? (i := 3) rfl))) (by decide) (backOf (W := 0) (rm1 l Z a0 hw [] (f2 (p1 &&& (15 : Int32))) h0 n0 Z0 ) hZ (hw _ (List.mem_of_getElem? (i := 3) rfl)) (hw _ (List.mem_of_getElem? (i := 2) rfl)) (by decide) (by decide)) (g := (mkF m 73 #[.val (.int p0), .val (.int p1), .val (.int (p0.toUInt32.toUInt16.toUInt32.toInt32)), .val (.int (p1 &&& (15 : Int32))), .val (.int (f1 (p0.toUInt32.toUInt16.toUInt32.toInt32))), .val (.int (1 : Int32)), .unset] [(.int (f2 (p1 &&& (15 : Int32))))])) rfl (by rw [hml]; rfl) (argsL := [(.int (f2 (p1 &&& (15 : Int32))))]) (rest := []) (lenOf pd__C_I rfl) rfl (by show 2 * 0 + _ ≤ _; exact Nat.le_of_eq rfl) (hb hby at_73) (fun _ _ => ⟨rfl, e3, (by decide : 0 + 0 ≤ _), (by decide : 0 + 0 ≤ _)⟩)
    dsimp only [Pt.U, Pt.locs, Pt.cells, Pt.slots] at X4 l4 y4 z4 st4 hQ4
    subst l4 y4 z4
    obtain ⟨rfl, N4q, e4⟩ := hQ4
    have N4 := Fr.app N3 N4q
    refine own_by st4 ?_
    show own_Fin p.tables e below _ (T4.setTop (mkF m 76 #[.val (.int p0), .val (.int p1), .val (.int (p0.toUInt32.toUInt16.toUInt32.toInt32)), .val (.int (p1 &&& (15 : Int32))), .val (.int (f1 (p0.toUInt32.toUInt16.toUInt32.toInt32))), .val (.int (1 : Int32)), .unset] [(.int (f1 (f2 (p1 &&& (15 : Int32)))))]))
    refine own_by (fun _ k => XS.iloadN X4.here hx rfl (hb hby at_76) rfl k) ?_
    show own_Fin p.tables e below _ (T4.setTop (mkF m 77 #[.val (.int p0), .val (.int p1), .val (.int (p0.toUInt32.toUInt16.toUInt32.toInt32)), .val (.int (p1 &&& (15 : Int32))), .val (.int (f1 (p0.toUInt32.toUInt16.toUInt32.toInt32))), .val (.int (1 : Int32)), .unset] [(.int (p1 &&& (15 : Int32))), (.int (f1 (f2 (p1 &&& (15 : Int32)))))]))
    by_cases hc5 : (f1 (f2 (p1 &&& (15 : Int32)))) = (p1 &&& (15 : Int32))
    · refine own_by (fun _ k => XS.icmpNo X4.here hx rfl (hb hby at_77) rfl (teq hc5).2 k) ?_
      show own_Fin p.tables e below _ (T4.setTop (mkF m 80 #[.val (.int p0), .val (.int p1), .val (.int (p0.toUInt32.toUInt16.toUInt32.toInt32)), .val (.int (p1 &&& (15 : Int32))), .val (.int (f1 (p0.toUInt32.toUInt16.toUInt32.toInt32))), .val (.int (1 : Int32)), .unset] []))
      refine own_by (fun _ k => XS.iloadN X4.here hx rfl (hb hby at_80) rfl k) ?_
      show own_Fin p.tables e below _ (T4.setTop (mkF m 81 #[.val (.int p0), .val (.int p1), .val (.int (p0.toUInt32.toUInt16.toUInt32.toInt32)), .val (.int (p1 &&& (15 : Int32))), .val (.int (f1 (p0.toUInt32.toUInt16.toUInt32.toInt32))), .val (.int (1 : Int32)), .unset] [(.int (p1 &&& (15 : Int32)))]))
      obtain ⟨_, _, ⟨T6, L6, k6, n6⟩, -, X6, ⟨Lc6, hQ6, l6, y6, z6⟩, st6⟩ := Jvm.LawKit.callS X4 hx (y := (⟨"com/example/sealwatch/sealwatch/PercentEncodingHexDigitPinLaw", "lowerDigit", "(I)C"⟩ : MethodName)) hown (mvT hZ (hw _ (List.mem_of_getElem? (i := 8) rfl))) (mvT hZ (hw _ (List.mem_of_getElem? (i := 9) rfl))) (mvT hZ (hw _ (List.mem_of_getElem? (i := 6) rfl))) (mvT hZ (hw _ (List.mem_of_getElem? (i := 10) rfl))) (by decide) (backOf (W := 0) (rm3 l Z a0 hw [] (p1 &&& (15 : Int32)) h0 n0 Z0 ) hZ (hw _ (List.mem_of_getElem? (i := 10) rfl)) (hw _ (List.mem_of_getElem? (i := 6) rfl)) (by decide) (by decide)) (g := (mkF m 81 #[.val (.int p0), .val (.int p1), .val (.int (p0.toUInt32.toUInt16.toUInt32.toInt32)), .val (.int (p1 &&& (15 : Int32))), .val (.int (f1 (p0.toUInt32.toUInt16.toUInt32.toInt32))), .val (.int (1 : Int32)), .unset] [(.int (p1 &&& (15 : Int32)))])) rfl (by rw [hml]; rfl) (argsL := [(.int (p1 &&& (15 : Int32)))]) (rest := []) (lenOf pd__I_C rfl) rfl (by show 2 * 0 + _ ≤ _; exact Nat.le_of_eq rfl) (hb hby at_81) (fun _ _ => ⟨rfl, e4, (by decide : 0 + 0 ≤ _), (by decide : 0 + 0 ≤ _)⟩)
      dsimp only [Pt.U, Pt.locs, Pt.cells, Pt.slots] at X6 l6 y6 z6 st6 hQ6
      subst l6 y6 z6
      obtain ⟨rfl, N6q, e6⟩ := hQ6
      have N6 := Fr.app N4 N6q
      refine own_by st6 ?_
      show own_Fin p.tables e below _ (T6.setTop (mkF m 84 #[.val (.int p0), .val (.int p1), .val (.int (p0.toUInt32.toUInt16.toUInt32.toInt32)), .val (.int (p1 &&& (15 : Int32))), .val (.int (f1 (p0.toUInt32.toUInt16.toUInt32.toInt32))), .val (.int (1 : Int32)), .unset] [(.int (f3 (p1 &&& (15 : Int32))))]))
      obtain ⟨_, _, ⟨T7, L7, k7, n7⟩, -, X7, ⟨Lc7, hQ7, l7, y7, z7⟩, st7⟩ := Jvm.LawKit.callS X6 hx (y := (⟨"com/example/sealwatch/sealwatch/PercentEncoding", "hexDigit", "(C)I"⟩ : MethodName)) hown (mvT hZ (hw _ (List.mem_of_getElem? (i := 0) rfl))) (mvT hZ (hw _ (List.mem_of_getElem? (i := 1) rfl))) (mvT hZ (hw _ (List.mem_of_getElem? (i := 2) rfl))) (mvT hZ (hw _ (List.mem_of_getElem? (i := 3) rfl))) (by decide) (backOf (W := 0) (rm1 l Z a0 hw [] (f3 (p1 &&& (15 : Int32))) h0 n0 Z0 ) hZ (hw _ (List.mem_of_getElem? (i := 3) rfl)) (hw _ (List.mem_of_getElem? (i := 2) rfl)) (by decide) (by decide)) (g := (mkF m 84 #[.val (.int p0), .val (.int p1), .val (.int (p0.toUInt32.toUInt16.toUInt32.toInt32)), .val (.int (p1 &&& (15 : Int32))), .val (.int (f1 (p0.toUInt32.toUInt16.toUInt32.toInt32))), .val (.int (1 : Int32)), .unset] [(.int (f3 (p1 &&& (15 : Int32))))])) rfl (by rw [hml]; rfl) (argsL := [(.int (f3 (p1 &&& (15 : Int32))))]) (rest := []) (lenOf pd__C_I rfl) rfl (by show 2 * 0 + _ ≤ _; exact Nat.le_of_eq rfl) (hb hby at_84) (fun _ _ => ⟨rfl, e6, (by decide : 0 + 0 ≤ _), (by decide : 0 + 0 ≤ _)⟩)
      dsimp only [Pt.U, Pt.locs, Pt.cells, Pt.slots] at X7 l7 y7 z7 st7 hQ7
      subst l7 y7 z7
      obtain ⟨rfl, N7q, e7⟩ := hQ7
      have N7 := Fr.app N6 N7q
      refine own_by st7 ?_
      show own_Fin p.tables e below _ (T7.setTop (mkF m 87 #[.val (.int p0), .val (.int p1), .val (.int (p0.toUInt32.toUInt16.toUInt32.toInt32)), .val (.int (p1 &&& (15 : Int32))), .val (.int (f1 (p0.toUInt32.toUInt16.toUInt32.toInt32))), .val (.int (1 : Int32)), .unset] [(.int (f1 (f3 (p1 &&& (15 : Int32)))))]))
      refine own_by (fun _ k => XS.iloadN X7.here hx rfl (hb hby at_87) rfl k) ?_
      show own_Fin p.tables e below _ (T7.setTop (mkF m 88 #[.val (.int p0), .val (.int p1), .val (.int (p0.toUInt32.toUInt16.toUInt32.toInt32)), .val (.int (p1 &&& (15 : Int32))), .val (.int (f1 (p0.toUInt32.toUInt16.toUInt32.toInt32))), .val (.int (1 : Int32)), .unset] [(.int (p1 &&& (15 : Int32))), (.int (f1 (f3 (p1 &&& (15 : Int32)))))]))
      by_cases hc8 : (f1 (f3 (p1 &&& (15 : Int32)))) = (p1 &&& (15 : Int32))
      · refine own_by (fun _ k => XS.icmpNo X7.here hx rfl (hb hby at_88) rfl (teq hc8).2 k) ?_
        show own_Fin p.tables e below _ (T7.setTop (mkF m 91 #[.val (.int p0), .val (.int p1), .val (.int (p0.toUInt32.toUInt16.toUInt32.toInt32)), .val (.int (p1 &&& (15 : Int32))), .val (.int (f1 (p0.toUInt32.toUInt16.toUInt32.toInt32))), .val (.int (1 : Int32)), .unset] []))
        refine own_by (fun _ k => XS.iconst X7.here hx rfl (hb hby at_91) k) ?_
        show own_Fin p.tables e below _ (T7.setTop (mkF m 92 #[.val (.int p0), .val (.int p1), .val (.int (p0.toUInt32.toUInt16.toUInt32.toInt32)), .val (.int (p1 &&& (15 : Int32))), .val (.int (f1 (p0.toUInt32.toUInt16.toUInt32.toInt32))), .val (.int (1 : Int32)), .unset] [(.int (1 : Int32))]))
        refine own_by (fun _ k => XS.goto X7.here hx rfl (pc0 := 92) (pc' := 96) rfl (hb hby at_92) (by decide) (by decide) k) ?_
        show own_Fin p.tables e below _ (T7.setTop (mkF m 96 #[.val (.int p0), .val (.int p1), .val (.int (p0.toUInt32.toUInt16.toUInt32.toInt32)), .val (.int (p1 &&& (15 : Int32))), .val (.int (f1 (p0.toUInt32.toUInt16.toUInt32.toInt32))), .val (.int (1 : Int32)), .unset] [(.int (1 : Int32))]))
        refine own_by (fun _ k => XS.istore X7.here hx rfl (hb hby at_96) rfl (l' := #[.val (.int p0), .val (.int p1), .val (.int (p0.toUInt32.toUInt16.toUInt32.toInt32)), .val (.int (p1 &&& (15 : Int32))), .val (.int (f1 (p0.toUInt32.toUInt16.toUInt32.toInt32))), .val (.int (1 : Int32)), .val (.int (1 : Int32))]) rfl k) ?_
        show own_Fin p.tables e below _ (T7.setTop (mkF m 98 #[.val (.int p0), .val (.int p1), .val (.int (p0.toUInt32.toUInt16.toUInt32.toInt32)), .val (.int (p1 &&& (15 : Int32))), .val (.int (f1 (p0.toUInt32.toUInt16.toUInt32.toInt32))), .val (.int (1 : Int32)), .val (.int (1 : Int32))] []))
        refine own_by (fun _ k => XS.iload X7.here hx rfl (hb hby at_98) rfl k) ?_
        show own_Fin p.tables e below _ (T7.setTop (mkF m 100 #[.val (.int p0), .val (.int p1), .val (.int (p0.toUInt32.toUInt16.toUInt32.toInt32)), .val (.int (p1 &&& (15 : Int32))), .val (.int (f1 (p0.toUInt32.toUInt16.toUInt32.toInt32))), .val (.int (1 : Int32)), .val (.int (1 : Int32))] [(.int (1 : Int32))]))
        refine own_by (fun _ k => XS.ifNo X7.here hx rfl (hb hby at_100) rfl ((if0 _ _).trans (feq (by decide)).1) k) ?_
        show own_Fin p.tables e below _ (T7.setTop (mkF m 103 #[.val (.int p0), .val (.int p1), .val (.int (p0.toUInt32.toUInt16.toUInt32.toInt32)), .val (.int (p1 &&& (15 : Int32))), .val (.int (f1 (p0.toUInt32.toUInt16.toUInt32.toInt32))), .val (.int (1 : Int32)), .val (.int (1 : Int32))] []))
        refine own_by (fun _ k => XS.iload X7.here hx rfl (hb hby at_103) rfl k) ?_
        show own_Fin p.tables e below _ (T7.setTop (mkF m 105 #[.val (.int p0), .val (.int p1), .val (.int (p0.toUInt32.toUInt16.toUInt32.toInt32)), .val (.int (p1 &&& (15 : Int32))), .val (.int (f1 (p0.toUInt32.toUInt16.toUInt32.toInt32))), .val (.int (1 : Int32)), .val (.int (1 : Int32))] [(.int (1 : Int32))]))
        refine own_by (fun _ k => XS.ifNo X7.here hx rfl (hb hby at_105) rfl ((if0 _ _).trans (feq (by decide)).1) k) ?_
        show own_Fin p.tables e below _ (T7.setTop (mkF m 108 #[.val (.int p0), .val (.int p1), .val (.int (p0.toUInt32.toUInt16.toUInt32.toInt32)), .val (.int (p1 &&& (15 : Int32))), .val (.int (f1 (p0.toUInt32.toUInt16.toUInt32.toInt32))), .val (.int (1 : Int32)), .val (.int (1 : Int32))] []))
        refine own_by (fun _ k => XS.iconst X7.here hx rfl (hb hby at_108) k) ?_
        show own_Fin p.tables e below _ (T7.setTop (mkF m 109 #[.val (.int p0), .val (.int p1), .val (.int (p0.toUInt32.toUInt16.toUInt32.toInt32)), .val (.int (p1 &&& (15 : Int32))), .val (.int (f1 (p0.toUInt32.toUInt16.toUInt32.toInt32))), .val (.int (1 : Int32)), .val (.int (1 : Int32))] [(.int (1 : Int32))]))
        refine own_by (fun _ k => XS.goto X7.here hx rfl (pc0 := 109) (pc' := 113) rfl (hb hby at_109) (by decide) (by decide) k) ?_
        show own_Fin p.tables e below _ (T7.setTop (mkF m 113 #[.val (.int p0), .val (.int p1), .val (.int (p0.toUInt32.toUInt16.toUInt32.toInt32)), .val (.int (p1 &&& (15 : Int32))), .val (.int (f1 (p0.toUInt32.toUInt16.toUInt32.toInt32))), .val (.int (1 : Int32)), .val (.int (1 : Int32))] [(.int (1 : Int32))]))
        have ef := (show f0 p0 p1 = (1 : Int32) from by unfold f0; rw [if_pos hc2, if_pos hc5, if_pos hc8])
        exact own_retN X7 hx (t := .boolean) Bd.returns hlk (by simp) (hb hby at_113) (by decide) (by decide) ⟨by rw [ef]; rfl, N7⟩
      · refine own_by (fun _ k => XS.icmpYes X7.here hx rfl (pc0 := 88) (pc' := 95) rfl (hb hby at_88) rfl (feq hc8).2 (by decide) (by decide) k) ?_
        show own_Fin p.tables e below _ (T7.setTop (mkF m 95 #[.val (.int p0), .val (.int p1), .val (.int (p0.toUInt32.toUInt16.toUInt32.toInt32)), .val (.int (p1 &&& (15 : Int32))), .val (.int (f1 (p0.toUInt32.toUInt16.toUInt32.toInt32))), .val (.int (1 : Int32)), .unset] []))
        refine own_by (fun _ k => XS.iconst X7.here hx rfl (hb hby at_95) k) ?_
        show own_Fin p.tables e below _ (T7.setTop (mkF m 96 #[.val (.int p0), .val (.int p1), .val (.int (p0.toUInt32.toUInt16.toUInt32.toInt32)), .val (.int (p1 &&& (15 : Int32))), .val (.int (f1 (p0.toUInt32.toUInt16.toUInt32.toInt32))), .val (.int (1 : Int32)), .unset] [(.int (0 : Int32))]))
        refine own_by (fun _ k => XS.istore X7.here hx rfl (hb hby at_96) rfl (l' := #[.val (.int p0), .val (.int p1), .val (.int (p0.toUInt32.toUInt16.toUInt32.toInt32)), .val (.int (p1 &&& (15 : Int32))), .val (.int (f1 (p0.toUInt32.toUInt16.toUInt32.toInt32))), .val (.int (1 : Int32)), .val (.int (0 : Int32))]) rfl k) ?_
        show own_Fin p.tables e below _ (T7.setTop (mkF m 98 #[.val (.int p0), .val (.int p1), .val (.int (p0.toUInt32.toUInt16.toUInt32.toInt32)), .val (.int (p1 &&& (15 : Int32))), .val (.int (f1 (p0.toUInt32.toUInt16.toUInt32.toInt32))), .val (.int (1 : Int32)), .val (.int (0 : Int32))] []))
        refine own_by (fun _ k => XS.iload X7.here hx rfl (hb hby at_98) rfl k) ?_
        show own_Fin p.tables e below _ (T7.setTop (mkF m 100 #[.val (.int p0), .val (.int p1), .val (.int (p0.toUInt32.toUInt16.toUInt32.toInt32)), .val (.int (p1 &&& (15 : Int32))), .val (.int (f1 (p0.toUInt32.toUInt16.toUInt32.toInt32))), .val (.int (1 : Int32)), .val (.int (0 : Int32))] [(.int (1 : Int32))]))
        refine own_by (fun _ k => XS.ifNo X7.here hx rfl (hb hby at_100) rfl ((if0 _ _).trans (feq (by decide)).1) k) ?_
        show own_Fin p.tables e below _ (T7.setTop (mkF m 103 #[.val (.int p0), .val (.int p1), .val (.int (p0.toUInt32.toUInt16.toUInt32.toInt32)), .val (.int (p1 &&& (15 : Int32))), .val (.int (f1 (p0.toUInt32.toUInt16.toUInt32.toInt32))), .val (.int (1 : Int32)), .val (.int (0 : Int32))] []))
        refine own_by (fun _ k => XS.iload X7.here hx rfl (hb hby at_103) rfl k) ?_
        show own_Fin p.tables e below _ (T7.setTop (mkF m 105 #[.val (.int p0), .val (.int p1), .val (.int (p0.toUInt32.toUInt16.toUInt32.toInt32)), .val (.int (p1 &&& (15 : Int32))), .val (.int (f1 (p0.toUInt32.toUInt16.toUInt32.toInt32))), .val (.int (1 : Int32)), .val (.int (0 : Int32))] [(.int (0 : Int32))]))
        refine own_by (fun _ k => XS.ifYes X7.here hx rfl (pc0 := 105) (pc' := 112) rfl (hb hby at_105) rfl ((if0 _ _).trans (teq (by decide)).1) (by decide) (by decide) k) ?_
        show own_Fin p.tables e below _ (T7.setTop (mkF m 112 #[.val (.int p0), .val (.int p1), .val (.int (p0.toUInt32.toUInt16.toUInt32.toInt32)), .val (.int (p1 &&& (15 : Int32))), .val (.int (f1 (p0.toUInt32.toUInt16.toUInt32.toInt32))), .val (.int (1 : Int32)), .val (.int (0 : Int32))] []))
        refine own_by (fun _ k => XS.iconst X7.here hx rfl (hb hby at_112) k) ?_
        show own_Fin p.tables e below _ (T7.setTop (mkF m 113 #[.val (.int p0), .val (.int p1), .val (.int (p0.toUInt32.toUInt16.toUInt32.toInt32)), .val (.int (p1 &&& (15 : Int32))), .val (.int (f1 (p0.toUInt32.toUInt16.toUInt32.toInt32))), .val (.int (1 : Int32)), .val (.int (0 : Int32))] [(.int (0 : Int32))]))
        have ef := (show f0 p0 p1 = (0 : Int32) from by unfold f0; rw [if_pos hc2, if_pos hc5, if_neg hc8])
        exact own_retN X7 hx (t := .boolean) Bd.returns hlk (by simp) (hb hby at_113) (by decide) (by decide) ⟨by rw [ef]; rfl, N7⟩
    · refine own_by (fun _ k => XS.icmpYes X4.here hx rfl (pc0 := 77) (pc' := 95) rfl (hb hby at_77) rfl (feq hc5).2 (by decide) (by decide) k) ?_
      show own_Fin p.tables e below _ (T4.setTop (mkF m 95 #[.val (.int p0), .val (.int p1), .val (.int (p0.toUInt32.toUInt16.toUInt32.toInt32)), .val (.int (p1 &&& (15 : Int32))), .val (.int (f1 (p0.toUInt32.toUInt16.toUInt32.toInt32))), .val (.int (1 : Int32)), .unset] []))
      refine own_by (fun _ k => XS.iconst X4.here hx rfl (hb hby at_95) k) ?_
      show own_Fin p.tables e below _ (T4.setTop (mkF m 96 #[.val (.int p0), .val (.int p1), .val (.int (p0.toUInt32.toUInt16.toUInt32.toInt32)), .val (.int (p1 &&& (15 : Int32))), .val (.int (f1 (p0.toUInt32.toUInt16.toUInt32.toInt32))), .val (.int (1 : Int32)), .unset] [(.int (0 : Int32))]))
      refine own_by (fun _ k => XS.istore X4.here hx rfl (hb hby at_96) rfl (l' := #[.val (.int p0), .val (.int p1), .val (.int (p0.toUInt32.toUInt16.toUInt32.toInt32)), .val (.int (p1 &&& (15 : Int32))), .val (.int (f1 (p0.toUInt32.toUInt16.toUInt32.toInt32))), .val (.int (1 : Int32)), .val (.int (0 : Int32))]) rfl k) ?_
      show own_Fin p.tables e below _ (T4.setTop (mkF m 98 #[.val (.int p0), .val (.int p1), .val (.int (p0.toUInt32.toUInt16.toUInt32.toInt32)), .val (.int (p1 &&& (15 : Int32))), .val (.int (f1 (p0.toUInt32.toUInt16.toUInt32.toInt32))), .val (.int (1 : Int32)), .val (.int (0 : Int32))] []))
      refine own_by (fun _ k => XS.iload X4.here hx rfl (hb hby at_98) rfl k) ?_
      show own_Fin p.tables e below _ (T4.setTop (mkF m 100 #[.val (.int p0), .val (.int p1), .val (.int (p0.toUInt32.toUInt16.toUInt32.toInt32)), .val (.int (p1 &&& (15 : Int32))), .val (.int (f1 (p0.toUInt32.toUInt16.toUInt32.toInt32))), .val (.int (1 : Int32)), .val (.int (0 : Int32))] [(.int (1 : Int32))]))
      refine own_by (fun _ k => XS.ifNo X4.here hx rfl (hb hby at_100) rfl ((if0 _ _).trans (feq (by decide)).1) k) ?_
      show own_Fin p.tables e below _ (T4.setTop (mkF m 103 #[.val (.int p0), .val (.int p1), .val (.int (p0.toUInt32.toUInt16.toUInt32.toInt32)), .val (.int (p1 &&& (15 : Int32))), .val (.int (f1 (p0.toUInt32.toUInt16.toUInt32.toInt32))), .val (.int (1 : Int32)), .val (.int (0 : Int32))] []))
      refine own_by (fun _ k => XS.iload X4.here hx rfl (hb hby at_103) rfl k) ?_
      show own_Fin p.tables e below _ (T4.setTop (mkF m 105 #[.val (.int p0), .val (.int p1), .val (.int (p0.toUInt32.toUInt16.toUInt32.toInt32)), .val (.int (p1 &&& (15 : Int32))), .val (.int (f1 (p0.toUInt32.toUInt16.toUInt32.toInt32))), .val (.int (1 : Int32)), .val (.int (0 : Int32))] [(.int (0 : Int32))]))
      refine own_by (fun _ k => XS.ifYes X4.here hx rfl (pc0 := 105) (pc' := 112) rfl (hb hby at_105) rfl ((if0 _ _).trans (teq (by decide)).1) (by decide) (by decide) k) ?_
      show own_Fin p.tables e below _ (T4.setTop (mkF m 112 #[.val (.int p0), .val (.int p1), .val (.int (p0.toUInt32.toUInt16.toUInt32.toInt32)), .val (.int (p1 &&& (15 : Int32))), .val (.int (f1 (p0.toUInt32.toUInt16.toUInt32.toInt32))), .val (.int (1 : Int32)), .val (.int (0 : Int32))] []))
      refine own_by (fun _ k => XS.iconst X4.here hx rfl (hb hby at_112) k) ?_
      show own_Fin p.tables e below _ (T4.setTop (mkF m 113 #[.val (.int p0), .val (.int p1), .val (.int (p0.toUInt32.toUInt16.toUInt32.toInt32)), .val (.int (p1 &&& (15 : Int32))), .val (.int (f1 (p0.toUInt32.toUInt16.toUInt32.toInt32))), .val (.int (1 : Int32)), .val (.int (0 : Int32))] [(.int (0 : Int32))]))
      have ef := (show f0 p0 p1 = (0 : Int32) from by unfold f0; rw [if_pos hc2, if_neg hc5])
      exact own_retN X4 hx (t := .boolean) Bd.returns hlk (by simp) (hb hby at_113) (by decide) (by decide) ⟨by rw [ef]; rfl, N4⟩
  · refine own_by (fun _ k => XS.icmpYes X1.here hx rfl (pc0 := 17) (pc' := 26) rfl (hb hby at_17) rfl (feq hc2).2 (by decide) (by decide) k) ?_
    show own_Fin p.tables e below _ (T1.setTop (mkF m 26 #[.val (.int p0), .val (.int p1), .val (.int (p0.toUInt32.toUInt16.toUInt32.toInt32)), .val (.int (p1 &&& (15 : Int32))), .val (.int (f1 (p0.toUInt32.toUInt16.toUInt32.toInt32))), .unset, .unset] []))
    refine own_by (fun _ k => XS.iload X1.here hx rfl (hb hby at_26) rfl k) ?_
    show own_Fin p.tables e below _ (T1.setTop (mkF m 28 #[.val (.int p0), .val (.int p1), .val (.int (p0.toUInt32.toUInt16.toUInt32.toInt32)), .val (.int (p1 &&& (15 : Int32))), .val (.int (f1 (p0.toUInt32.toUInt16.toUInt32.toInt32))), .unset, .unset] [(.int (f1 (p0.toUInt32.toUInt16.toUInt32.toInt32)))]))
    by_cases hc9 : (f1 (p0.toUInt32.toUInt16.toUInt32.toInt32)) < (0 : Int32)
    · refine own_by (fun _ k => XS.ifYes X1.here hx rfl (pc0 := 28) (pc' := 66) rfl (hb hby at_28) rfl ((if0 _ _).trans (tlt hc9).1) (by decide) (by decide) k) ?_
      show own_Fin p.tables e below _ (T1.setTop (mkF m 66 #[.val (.int p0), .val (.int p1), .val (.int (p0.toUInt32.toUInt16.toUInt32.toInt32)), .val (.int (p1 &&& (15 : Int32))), .val (.int (f1 (p0.toUInt32.toUInt16.toUInt32.toInt32))), .unset, .unset] []))
      refine own_by (fun _ k => XS.iconst X1.here hx rfl (hb hby at_66) k) ?_
      show own_Fin p.tables e below _ (T1.setTop (mkF m 67 #[.val (.int p0), .val (.int p1), .val (.int (p0.toUInt32.toUInt16.toUInt32.toInt32)), .val (.int (p1 &&& (15 : Int32))), .val (.int (f1 (p0.toUInt32.toUInt16.toUInt32.toInt32))), .unset, .unset] [(.int (0 : Int32))]))
      refine own_by (fun _ k => XS.istore X1.here hx rfl (hb hby at_67) rfl (l' := #[.val (.int p0), .val (.int p1), .val (.int (p0.toUInt32.toUInt16.toUInt32.toInt32)), .val (.int (p1 &&& (15 : Int32))), .val (.int (f1 (p0.toUInt32.toUInt16.toUInt32.toInt32))), .val (.int (0 : Int32)), .unset]) rfl k) ?_
      show own_Fin p.tables e below _ (T1.setTop (mkF m 69 #[.val (.int p0), .val (.int p1), .val (.int (p0.toUInt32.toUInt16.toUInt32.toInt32)), .val (.int (p1 &&& (15 : Int32))), .val (.int (f1 (p0.toUInt32.toUInt16.toUInt32.toInt32))), .val (.int (0 : Int32)), .unset] []))
      refine own_by (fun _ k => XS.iloadN X1.here hx rfl (hb hby at_69) rfl k) ?_
      show own_Fin p.tables e below _ (T1.setTop (mkF m 70 #[.val (.int p0), .val (.int p1), .val (.int (p0.toUInt32.toUInt16.toUInt32.toInt32)), .val (.int (p1 &&& (15 : Int32))), .val (.int (f1 (p0.toUInt32.toUInt16.toUInt32.toInt32))), .val (.int (0 : Int32)), .unset] [(.int (p1 &&& (15 : Int32)))]))
      obtain ⟨_, _, ⟨T10, L10, k10, n10⟩, -, X10, ⟨Lc10, hQ10, l10, y10, z10⟩, st10⟩ := Jvm.LawKit.callS X1 hx (y := (⟨"com/example/sealwatch/sealwatch/PercentEncodingHexDigitPinLaw", "upperDigit", "(I)C"⟩ : MethodName)) hown (mvT hZ (hw _ (List.mem_of_getElem? (i := 4) rfl))) (mvT hZ (hw _ (List.mem_of_getElem? (i := 5) rfl))) (mvT hZ (hw _ (List.mem_of_getElem? (i := 6) rfl))) (mvT hZ (hw _ (List.mem_of_getElem? (i := 7) rfl))) (by decide) (backOf (W := 0) (rm2 l Z a0 hw [] (p1 &&& (15 : Int32)) h0 n0 Z0 ) hZ (hw _ (List.mem_of_getElem? (i := 7) rfl)) (hw _ (List.mem_of_getElem? (i := 6) rfl)) (by decide) (by decide)) (g := (mkF m 70 #[.val (.int p0), .val (.int p1), .val (.int (p0.toUInt32.toUInt16.toUInt32.toInt32)), .val (.int (p1 &&& (15 : Int32))), .val (.int (f1 (p0.toUInt32.toUInt16.toUInt32.toInt32))), .val (.int (0 : Int32)), .unset] [(.int (p1 &&& (15 : Int32)))])) rfl (by rw [hml]; rfl) (argsL := [(.int (p1 &&& (15 : Int32)))]) (rest := []) (lenOf pd__I_C rfl) rfl (by show 2 * 0 + _ ≤ _; exact Nat.le_of_eq rfl) (hb hby at_70) (fun _ _ => ⟨rfl, e1, (by decide : 0 + 0 ≤ _), (by decide : 0 + 0 ≤ _)⟩)
      dsimp only [Pt.U, Pt.locs, Pt.cells, Pt.slots] at X10 l10 y10 z10 st10 hQ10
      subst l10 y10 z10
      obtain ⟨rfl, N10q, e10⟩ := hQ10
      have N10 := Fr.app N1 N10q
      refine own_by st10 ?_
      show own_Fin p.tables e below _ (T10.setTop (mkF m 73 #[.val (.int p0), .val (.int p1), .val (.int (p0.toUInt32.toUInt16.toUInt32.toInt32)), .val (.int (p1 &&& (15 : Int32))), .val (.int (f1 (p0.toUInt32.toUInt16.toUInt32.toInt32))), .val (.int (0 : Int32)), .unset] [(.int (f2 (p1 &&& (15 : Int32))))]))
      obtain ⟨_, _, ⟨T11, L11, k11, n11⟩, -, X11, ⟨Lc11, hQ11, l11, y11, z11⟩, st11⟩ := Jvm.LawKit.callS X10 hx (y := (⟨"com/example/sealwatch/sealwatch/PercentEncoding", "hexDigit", "(C)I"⟩ : MethodName)) hown (mvT hZ (hw _ (List.mem_of_getElem? (i := 0) rfl))) (mvT hZ (hw _ (List.mem_of_getElem? (i := 1) rfl))) (mvT hZ (hw _ (List.mem_of_getElem? (i := 2) rfl))) (mvT hZ (hw _ (List.mem_of_getElem? (i := 3) rfl))) (by decide) (backOf (W := 0) (rm1 l Z a0 hw [] (f2 (p1 &&& (15 : Int32))) h0 n0 Z0 ) hZ (hw _ (List.mem_of_getElem? (i := 3) rfl)) (hw _ (List.mem_of_getElem? (i := 2) rfl)) (by decide) (by decide)) (g := (mkF m 73 #[.val (.int p0), .val (.int p1), .val (.int (p0.toUInt32.toUInt16.toUInt32.toInt32)), .val (.int (p1 &&& (15 : Int32))), .val (.int (f1 (p0.toUInt32.toUInt16.toUInt32.toInt32))), .val (.int (0 : Int32)), .unset] [(.int (f2 (p1 &&& (15 : Int32))))])) rfl (by rw [hml]; rfl) (argsL := [(.int (f2 (p1 &&& (15 : Int32))))]) (rest := []) (lenOf pd__C_I rfl) rfl (by show 2 * 0 + _ ≤ _; exact Nat.le_of_eq rfl) (hb hby at_73) (fun _ _ => ⟨rfl, e10, (by decide : 0 + 0 ≤ _), (by decide : 0 + 0 ≤ _)⟩)
      dsimp only [Pt.U, Pt.locs, Pt.cells, Pt.slots] at X11 l11 y11 z11 st11 hQ11
      subst l11 y11 z11
      obtain ⟨rfl, N11q, e11⟩ := hQ11
      have N11 := Fr.app N10 N11q
      refine own_by st11 ?_
      show own_Fin p.tables e below _ (T11.setTop (mkF m 76 #[.val (.int p0), .val (.int p1), .val (.int (p0.toUInt32.toUInt16.toUInt32.toInt32)), .val (.int (p1 &&& (15 : Int32))), .val (.int (f1 (p0.toUInt32.toUInt16.toUInt32.toInt32))), .val (.int (0 : Int32)), .unset] [(.int (f1 (f2 (p1 &&& (15 : Int32)))))]))
      refine own_by (fun _ k => XS.iloadN X11.here hx rfl (hb hby at_76) rfl k) ?_
      show own_Fin p.tables e below _ (T11.setTop (mkF m 77 #[.val (.int p0), .val (.int p1), .val (.int (p0.toUInt32.toUInt16.toUInt32.toInt32)), .val (.int (p1 &&& (15 : Int32))), .val (.int (f1 (p0.toUInt32.toUInt16.toUInt32.toInt32))), .val (.int (0 : Int32)), .unset] [(.int (p1 &&& (15 : Int32))), (.int (f1 (f2 (p1 &&& (15 : Int32)))))]))
      by_cases hc12 : (f1 (f2 (p1 &&& (15 : Int32)))) = (p1 &&& (15 : Int32))
      · refine own_by (fun _ k => XS.icmpNo X11.here hx rfl (hb hby at_77) rfl (teq hc12).2 k) ?_
        show own_Fin p.tables e below _ (T11.setTop (mkF m 80 #[.val (.int p0), .val (.int p1), .val (.int (p0.toUInt32.toUInt16.toUInt32.toInt32)), .val (.int (p1 &&& (15 : Int32))), .val (.int (f1 (p0.toUInt32.toUInt16.toUInt32.toInt32))), .val (.int (0 : Int32)), .unset] []))
        refine own_by (fun _ k => XS.iloadN X11.here hx rfl (hb hby at_80) rfl k) ?_
        show own_Fin p.tables e below _ (T11.setTop (mkF m 81 #[.val (.int p0), .val (.int p1), .val (.int (p0.toUInt32.toUInt16.toUInt32.toInt32)), .val (.int (p1 &&& (15 : Int32))), .val (.int (f1 (p0.toUInt32.toUInt16.toUInt32.toInt32))), .val (.int (0 : Int32)), .unset] [(.int (p1 &&& (15 : Int32)))]))
        obtain ⟨_, _, ⟨T13, L13, k13, n13⟩, -, X13, ⟨Lc13, hQ13, l13, y13, z13⟩, st13⟩ := Jvm.LawKit.callS X11 hx (y := (⟨"com/example/sealwatch/sealwatch/PercentEncodingHexDigitPinLaw", "lowerDigit", "(I)C"⟩ : MethodName)) hown (mvT hZ (hw _ (List.mem_of_getElem? (i := 8) rfl))) (mvT hZ (hw _ (List.mem_of_getElem? (i := 9) rfl))) (mvT hZ (hw _ (List.mem_of_getElem? (i := 6) rfl))) (mvT hZ (hw _ (List.mem_of_getElem? (i := 10) rfl))) (by decide) (backOf (W := 0) (rm3 l Z a0 hw [] (p1 &&& (15 : Int32)) h0 n0 Z0 ) hZ (hw _ (List.mem_of_getElem? (i := 10) rfl)) (hw _ (List.mem_of_getElem? (i := 6) rfl)) (by decide) (by decide)) (g := (mkF m 81 #[.val (.int p0), .val (.int p1), .val (.int (p0.toUInt32.toUInt16.toUInt32.toInt32)), .val (.int (p1 &&& (15 : Int32))), .val (.int (f1 (p0.toUInt32.toUInt16.toUInt32.toInt32))), .val (.int (0 : Int32)), .unset] [(.int (p1 &&& (15 : Int32)))])) rfl (by rw [hml]; rfl) (argsL := [(.int (p1 &&& (15 : Int32)))]) (rest := []) (lenOf pd__I_C rfl) rfl (by show 2 * 0 + _ ≤ _; exact Nat.le_of_eq rfl) (hb hby at_81) (fun _ _ => ⟨rfl, e11, (by decide : 0 + 0 ≤ _), (by decide : 0 + 0 ≤ _)⟩)
        dsimp only [Pt.U, Pt.locs, Pt.cells, Pt.slots] at X13 l13 y13 z13 st13 hQ13
        subst l13 y13 z13
        obtain ⟨rfl, N13q, e13⟩ := hQ13
        have N13 := Fr.app N11 N13q
        refine own_by st13 ?_
        show own_Fin p.tables e below _ (T13.setTop (mkF m 84 #[.val (.int p0), .val (.int p1), .val (.int (p0.toUInt32.toUInt16.toUInt32.toInt32)), .val (.int (p1 &&& (15 : Int32))), .val (.int (f1 (p0.toUInt32.toUInt16.toUInt32.toInt32))), .val (.int (0 : Int32)), .unset] [(.int (f3 (p1 &&& (15 : Int32))))]))
        obtain ⟨_, _, ⟨T14, L14, k14, n14⟩, -, X14, ⟨Lc14, hQ14, l14, y14, z14⟩, st14⟩ := Jvm.LawKit.callS X13 hx (y := (⟨"com/example/sealwatch/sealwatch/PercentEncoding", "hexDigit", "(C)I"⟩ : MethodName)) hown (mvT hZ (hw _ (List.mem_of_getElem? (i := 0) rfl))) (mvT hZ (hw _ (List.mem_of_getElem? (i := 1) rfl))) (mvT hZ (hw _ (List.mem_of_getElem? (i := 2) rfl))) (mvT hZ (hw _ (List.mem_of_getElem? (i := 3) rfl))) (by decide) (backOf (W := 0) (rm1 l Z a0 hw [] (f3 (p1 &&& (15 : Int32))) h0 n0 Z0 ) hZ (hw _ (List.mem_of_getElem? (i := 3) rfl)) (hw _ (List.mem_of_getElem? (i := 2) rfl)) (by decide) (by decide)) (g := (mkF m 84 #[.val (.int p0), .val (.int p1), .val (.int (p0.toUInt32.toUInt16.toUInt32.toInt32)), .val (.int (p1 &&& (15 : Int32))), .val (.int (f1 (p0.toUInt32.toUInt16.toUInt32.toInt32))), .val (.int (0 : Int32)), .unset] [(.int (f3 (p1 &&& (15 : Int32))))])) rfl (by rw [hml]; rfl) (argsL := [(.int (f3 (p1 &&& (15 : Int32))))]) (rest := []) (lenOf pd__C_I rfl) rfl (by show 2 * 0 + _ ≤ _; exact Nat.le_of_eq rfl) (hb hby at_84) (fun _ _ => ⟨rfl, e13, (by decide : 0 + 0 ≤ _), (by decide : 0 + 0 ≤ _)⟩)
        dsimp only [Pt.U, Pt.locs, Pt.cells, Pt.slots] at X14 l14 y14 z14 st14 hQ14
        subst l14 y14 z14
        obtain ⟨rfl, N14q, e14⟩ := hQ14
        have N14 := Fr.app N13 N14q
        refine own_by st14 ?_
        show own_Fin p.tables e below _ (T14.setTop (mkF m 87 #[.val (.int p0), .val (.int p1), .val (.int (p0.toUInt32.toUInt16.toUInt32.toInt32)), .val (.int (p1 &&& (15 : Int32))), .val (.int (f1 (p0.toUInt32.toUInt16.toUInt32.toInt32))), .val (.int (0 : Int32)), .unset] [(.int (f1 (f3 (p1 &&& (15 : Int32)))))]))
        refine own_by (fun _ k => XS.iloadN X14.here hx rfl (hb hby at_87) rfl k) ?_
        show own_Fin p.tables e below _ (T14.setTop (mkF m 88 #[.val (.int p0), .val (.int p1), .val (.int (p0.toUInt32.toUInt16.toUInt32.toInt32)), .val (.int (p1 &&& (15 : Int32))), .val (.int (f1 (p0.toUInt32.toUInt16.toUInt32.toInt32))), .val (.int (0 : Int32)), .unset] [(.int (p1 &&& (15 : Int32))), (.int (f1 (f3 (p1 &&& (15 : Int32)))))]))
        by_cases hc15 : (f1 (f3 (p1 &&& (15 : Int32)))) = (p1 &&& (15 : Int32))
        · refine own_by (fun _ k => XS.icmpNo X14.here hx rfl (hb hby at_88) rfl (teq hc15).2 k) ?_
          show own_Fin p.tables e below _ (T14.setTop (mkF m 91 #[.val (.int p0), .val (.int p1), .val (.int (p0.toUInt32.toUInt16.toUInt32.toInt32)), .val (.int (p1 &&& (15 : Int32))), .val (.int (f1 (p0.toUInt32.toUInt16.toUInt32.toInt32))), .val (.int (0 : Int32)), .unset] []))
          refine own_by (fun _ k => XS.iconst X14.here hx rfl (hb hby at_91) k) ?_
          show own_Fin p.tables e below _ (T14.setTop (mkF m 92 #[.val (.int p0), .val (.int p1), .val (.int (p0.toUInt32.toUInt16.toUInt32.toInt32)), .val (.int (p1 &&& (15 : Int32))), .val (.int (f1 (p0.toUInt32.toUInt16.toUInt32.toInt32))), .val (.int (0 : Int32)), .unset] [(.int (1 : Int32))]))
          refine own_by (fun _ k => XS.goto X14.here hx rfl (pc0 := 92) (pc' := 96) rfl (hb hby at_92) (by decide) (by decide) k) ?_
          show own_Fin p.tables e below _ (T14.setTop (mkF m 96 #[.val (.int p0), .val (.int p1), .val (.int (p0.toUInt32.toUInt16.toUInt32.toInt32)), .val (.int (p1 &&& (15 : Int32))), .val (.int (f1 (p0.toUInt32.toUInt16.toUInt32.toInt32))), .val (.int (0 : Int32)), .unset] [(.int (1 : Int32))]))
          refine own_by (fun _ k => XS.istore X14.here hx rfl (hb hby at_96) rfl (l' := #[.val (.int p0), .val (.int p1), .val (.int (p0.toUInt32.toUInt16.toUInt32.toInt32)), .val (.int (p1 &&& (15 : Int32))), .val (.int (f1 (p0.toUInt32.toUInt16.toUInt32.toInt32))), .val (.int (0 : Int32)), .val (.int (1 : Int32))]) rfl k) ?_
          show own_Fin p.tables e below _ (T14.setTop (mkF m 98 #[.val (.int p0), .val (.int p1), .val (.int (p0.toUInt32.toUInt16.toUInt32.toInt32)), .val (.int (p1 &&& (15 : Int32))), .val (.int (f1 (p0.toUInt32.toUInt16.toUInt32.toInt32))), .val (.int (0 : Int32)), .val (.int (1 : Int32))] []))
          refine own_by (fun _ k => XS.iload X14.here hx rfl (hb hby at_98) rfl k) ?_
          show own_Fin p.tables e below _ (T14.setTop (mkF m 100 #[.val (.int p0), .val (.int p1), .val (.int (p0.toUInt32.toUInt16.toUInt32.toInt32)), .val (.int (p1 &&& (15 : Int32))), .val (.int (f1 (p0.toUInt32.toUInt16.toUInt32.toInt32))), .val (.int (0 : Int32)), .val (.int (1 : Int32))] [(.int (0 : Int32))]))
          refine own_by (fun _ k => XS.ifYes X14.here hx rfl (pc0 := 100) (pc' := 112) rfl (hb hby at_100) rfl ((if0 _ _).trans (teq (by decide)).1) (by decide) (by decide) k) ?_
          show own_Fin p.tables e below _ (T14.setTop (mkF m 112 #[.val (.int p0), .val (.int p1), .val (.int (p0.toUInt32.toUInt16.toUInt32.toInt32)), .val (.int (p1 &&& (15 : Int32))), .val (.int (f1 (p0.toUInt32.toUInt16.toUInt32.toInt32))), .val (.int (0 : Int32)), .val (.int (1 : Int32))] []))
          refine own_by (fun _ k => XS.iconst X14.here hx rfl (hb hby at_112) k) ?_
          show own_Fin p.tables e below _ (T14.setTop (mkF m 113 #[.val (.int p0), .val (.int p1), .val (.int (p0.toUInt32.toUInt16.toUInt32.toInt32)), .val (.int (p1 &&& (15 : Int32))), .val (.int (f1 (p0.toUInt32.toUInt16.toUInt32.toInt32))), .val (.int (0 : Int32)), .val (.int (1 : Int32))] [(.int (0 : Int32))]))
          have ef := (show f0 p0 p1 = (0 : Int32) from by unfold f0; rw [if_neg hc2, if_pos hc9, if_pos hc12, if_pos hc15])
          exact own_retN X14 hx (t := .boolean) Bd.returns hlk (by simp) (hb hby at_113) (by decide) (by decide) ⟨by rw [ef]; rfl, N14⟩
        · refine own_by (fun _ k => XS.icmpYes X14.here hx rfl (pc0 := 88) (pc' := 95) rfl (hb hby at_88) rfl (feq hc15).2 (by decide) (by decide) k) ?_
          show own_Fin p.tables e below _ (T14.setTop (mkF m 95 #[.val (.int p0), .val (.int p1), .val (.int (p0.toUInt32.toUInt16.toUInt32.toInt32)), .val (.int (p1 &&& (15 : Int32))), .val (.int (f1 (p0.toUInt32.toUInt16.toUInt32.toInt32))), .val (.int (0 : Int32)), .unset] []))
          refine own_by (fun _ k => XS.iconst X14.here hx rfl (hb hby at_95) k) ?_
          show own_Fin p.tables e below _ (T14.setTop (mkF m 96 #[.val (.int p0), .val (.int p1), .val (.int (p0.toUInt32.toUInt16.toUInt32.toInt32)), .val (.int (p1 &&& (15 : Int32))), .val (.int (f1 (p0.toUInt32.toUInt16.toUInt32.toInt32))), .val (.int (0 : Int32)), .unset] [(.int (0 : Int32))]))
          refine own_by (fun _ k => XS.istore X14.here hx rfl (hb hby at_96) rfl (l' := #[.val (.int p0), .val (.int p1), .val (.int (p0.toUInt32.toUInt16.toUInt32.toInt32)), .val (.int (p1 &&& (15 : Int32))), .val (.int (f1 (p0.toUInt32.toUInt16.toUInt32.toInt32))), .val (.int (0 : Int32)), .val (.int (0 : Int32))]) rfl k) ?_
          show own_Fin p.tables e below _ (T14.setTop (mkF m 98 #[.val (.int p0), .val (.int p1), .val (.int (p0.toUInt32.toUInt16.toUInt32.toInt32)), .val (.int (p1 &&& (15 : Int32))), .val (.int (f1 (p0.toUInt32.toUInt16.toUInt32.toInt32))), .val (.int (0 : Int32)), .val (.int (0 : Int32))] []))
          refine own_by (fun _ k => XS.iload X14.here hx rfl (hb hby at_98) rfl k) ?_
          show own_Fin p.tables e below _ (T14.setTop (mkF m 100 #[.val (.int p0), .val (.int p1), .val (.int (p0.toUInt32.toUInt16.toUInt32.toInt32)), .val (.int (p1 &&& (15 : Int32))), .val (.int (f1 (p0.toUInt32.toUInt16.toUInt32.toInt32))), .val (.int (0 : Int32)), .val (.int (0 : Int32))] [(.int (0 : Int32))]))
          refine own_by (fun _ k => XS.ifYes X14.here hx rfl (pc0 := 100) (pc' := 112) rfl (hb hby at_100) rfl ((if0 _ _).trans (teq (by decide)).1) (by decide) (by decide) k) ?_
          show own_Fin p.tables e below _ (T14.setTop (mkF m 112 #[.val (.int p0), .val (.int p1), .val (.int (p0.toUInt32.toUInt16.toUInt32.toInt32)), .val (.int (p1 &&& (15 : Int32))), .val (.int (f1 (p0.toUInt32.toUInt16.toUInt32.toInt32))), .val (.int (0 : Int32)), .val (.int (0 : Int32))] []))
          refine own_by (fun _ k => XS.iconst X14.here hx rfl (hb hby at_112) k) ?_
          show own_Fin p.tables e below _ (T14.setTop (mkF m 113 #[.val (.int p0), .val (.int p1), .val (.int (p0.toUInt32.toUInt16.toUInt32.toInt32)), .val (.int (p1 &&& (15 : Int32))), .val (.int (f1 (p0.toUInt32.toUInt16.toUInt32.toInt32))), .val (.int (0 : Int32)), .val (.int (0 : Int32))] [(.int (0 : Int32))]))
          have ef := (show f0 p0 p1 = (0 : Int32) from by unfold f0; rw [if_neg hc2, if_pos hc9, if_pos hc12, if_neg hc15])
          exact own_retN X14 hx (t := .boolean) Bd.returns hlk (by simp) (hb hby at_113) (by decide) (by decide) ⟨by rw [ef]; rfl, N14⟩
      · refine own_by (fun _ k => XS.icmpYes X11.here hx rfl (pc0 := 77) (pc' := 95) rfl (hb hby at_77) rfl (feq hc12).2 (by decide) (by decide) k) ?_
        show own_Fin p.tables e below _ (T11.setTop (mkF m 95 #[.val (.int p0), .val (.int p1), .val (.int (p0.toUInt32.toUInt16.toUInt32.toInt32)), .val (.int (p1 &&& (15 : Int32))), .val (.int (f1 (p0.toUInt32.toUInt16.toUInt32.toInt32))), .val (.int (0 : Int32)), .unset] []))
        refine own_by (fun _ k => XS.iconst X11.here hx rfl (hb hby at_95) k) ?_
        show own_Fin p.tables e below _ (T11.setTop (mkF m 96 #[.val (.int p0), .val (.int p1), .val (.int (p0.toUInt32.toUInt16.toUInt32.toInt32)), .val (.int (p1 &&& (15 : Int32))), .val (.int (f1 (p0.toUInt32.toUInt16.toUInt32.toInt32))), .val (.int (0 : Int32)), .unset] [(.int (0 : Int32))]))
        refine own_by (fun _ k => XS.istore X11.here hx rfl (hb hby at_96) rfl (l' := #[.val (.int p0), .val (.int p1), .val (.int (p0.toUInt32.toUInt16.toUInt32.toInt32)), .val (.int (p1 &&& (15 : Int32))), .val (.int (f1 (p0.toUInt32.toUInt16.toUInt32.toInt32))), .val (.int (0 : Int32)), .val (.int (0 : Int32))]) rfl k) ?_
        show own_Fin p.tables e below _ (T11.setTop (mkF m 98 #[.val (.int p0), .val (.int p1), .val (.int (p0.toUInt32.toUInt16.toUInt32.toInt32)), .val (.int (p1 &&& (15 : Int32))), .val (.int (f1 (p0.toUInt32.toUInt16.toUInt32.toInt32))), .val (.int (0 : Int32)), .val (.int (0 : Int32))] []))
        refine own_by (fun _ k => XS.iload X11.here hx rfl (hb hby at_98) rfl k) ?_
        show own_Fin p.tables e below _ (T11.setTop (mkF m 100 #[.val (.int p0), .val (.int p1), .val (.int (p0.toUInt32.toUInt16.toUInt32.toInt32)), .val (.int (p1 &&& (15 : Int32))), .val (.int (f1 (p0.toUInt32.toUInt16.toUInt32.toInt32))), .val (.int (0 : Int32)), .val (.int (0 : Int32))] [(.int (0 : Int32))]))
        refine own_by (fun _ k => XS.ifYes X11.here hx rfl (pc0 := 100) (pc' := 112) rfl (hb hby at_100) rfl ((if0 _ _).trans (teq (by decide)).1) (by decide) (by decide) k) ?_
        show own_Fin p.tables e below _ (T11.setTop (mkF m 112 #[.val (.int p0), .val (.int p1), .val (.int (p0.toUInt32.toUInt16.toUInt32.toInt32)), .val (.int (p1 &&& (15 : Int32))), .val (.int (f1 (p0.toUInt32.toUInt16.toUInt32.toInt32))), .val (.int (0 : Int32)), .val (.int (0 : Int32))] []))
        refine own_by (fun _ k => XS.iconst X11.here hx rfl (hb hby at_112) k) ?_
        show own_Fin p.tables e below _ (T11.setTop (mkF m 113 #[.val (.int p0), .val (.int p1), .val (.int (p0.toUInt32.toUInt16.toUInt32.toInt32)), .val (.int (p1 &&& (15 : Int32))), .val (.int (f1 (p0.toUInt32.toUInt16.toUInt32.toInt32))), .val (.int (0 : Int32)), .val (.int (0 : Int32))] [(.int (0 : Int32))]))
        have ef := (show f0 p0 p1 = (0 : Int32) from by unfold f0; rw [if_neg hc2, if_pos hc9, if_neg hc12])
        exact own_retN X11 hx (t := .boolean) Bd.returns hlk (by simp) (hb hby at_113) (by decide) (by decide) ⟨by rw [ef]; rfl, N11⟩
    · refine own_by (fun _ k => XS.ifNo X1.here hx rfl (hb hby at_28) rfl ((if0 _ _).trans (flt hc9).1) k) ?_
      show own_Fin p.tables e below _ (T1.setTop (mkF m 31 #[.val (.int p0), .val (.int p1), .val (.int (p0.toUInt32.toUInt16.toUInt32.toInt32)), .val (.int (p1 &&& (15 : Int32))), .val (.int (f1 (p0.toUInt32.toUInt16.toUInt32.toInt32))), .unset, .unset] []))
      refine own_by (fun _ k => XS.iload X1.here hx rfl (hb hby at_31) rfl k) ?_
      show own_Fin p.tables e below _ (T1.setTop (mkF m 33 #[.val (.int p0), .val (.int p1), .val (.int (p0.toUInt32.toUInt16.toUInt32.toInt32)), .val (.int (p1 &&& (15 : Int32))), .val (.int (f1 (p0.toUInt32.toUInt16.toUInt32.toInt32))), .unset, .unset] [(.int (f1 (p0.toUInt32.toUInt16.toUInt32.toInt32)))]))
      refine own_by (fun _ k => XS.bipush X1.here hx rfl (hb hby at_33) k) ?_
      show own_Fin p.tables e below _ (T1.setTop (mkF m 35 #[.val (.int p0), .val (.int p1), .val (.int (p0.toUInt32.toUInt16.toUInt32.toInt32)), .val (.int (p1 &&& (15 : Int32))), .val (.int (f1 (p0.toUInt32.toUInt16.toUInt32.toInt32))), .unset, .unset] [(.int (16 : Int32)), (.int (f1 (p0.toUInt32.toUInt16.toUInt32.toInt32)))]))
      by_cases hc16 : (f1 (p0.toUInt32.toUInt16.toUInt32.toInt32)) < (16 : Int32)
      · refine own_by (fun _ k => XS.icmpNo X1.here hx rfl (hb hby at_35) rfl (tlt hc16).2.1 k) ?_
        show own_Fin p.tables e below _ (T1.setTop (mkF m 38 #[.val (.int p0), .val (.int p1), .val (.int (p0.toUInt32.toUInt16.toUInt32.toInt32)), .val (.int (p1 &&& (15 : Int32))), .val (.int (f1 (p0.toUInt32.toUInt16.toUInt32.toInt32))), .unset, .unset] []))
        refine own_by (fun _ k => XS.iloadN X1.here hx rfl (hb hby at_38) rfl k) ?_
        show own_Fin p.tables e below _ (T1.setTop (mkF m 39 #[.val (.int p0), .val (.int p1), .val (.int (p0.toUInt32.toUInt16.toUInt32.toInt32)), .val (.int (p1 &&& (15 : Int32))), .val (.int (f1 (p0.toUInt32.toUInt16.toUInt32.toInt32))), .unset, .unset] [(.int (p0.toUInt32.toUInt16.toUInt32.toInt32))]))
        refine own_by (fun _ k => XS.iload X1.here hx rfl (hb hby at_39) rfl k) ?_
        show own_Fin p.tables e below _ (T1.setTop (mkF m 41 #[.val (.int p0), .val (.int p1), .val (.int (p0.toUInt32.toUInt16.toUInt32.toInt32)), .val (.int (p1 &&& (15 : Int32))), .val (.int (f1 (p0.toUInt32.toUInt16.toUInt32.toInt32))), .unset, .unset] [(.int (f1 (p0.toUInt32.toUInt16.toUInt32.toInt32))), (.int (p0.toUInt32.toUInt16.toUInt32.toInt32))]))
        obtain ⟨_, _, ⟨T17, L17, k17, n17⟩, -, X17, ⟨Lc17, hQ17, l17, y17, z17⟩, st17⟩ := Jvm.LawKit.callS X1 hx (y := (⟨"com/example/sealwatch/sealwatch/PercentEncodingHexDigitPinLaw", "upperDigit", "(I)C"⟩ : MethodName)) hown (mvT hZ (hw _ (List.mem_of_getElem? (i := 4) rfl))) (mvT hZ (hw _ (List.mem_of_getElem? (i := 5) rfl))) (mvT hZ (hw _ (List.mem_of_getElem? (i := 6) rfl))) (mvT hZ (hw _ (List.mem_of_getElem? (i := 7) rfl))) (by decide) (backOf (W := 1) (rm2 l Z a0 hw [] (f1 (p0.toUInt32.toUInt16.toUInt32.toInt32)) h0 n0 Z0 ) hZ (hw _ (List.mem_of_getElem? (i := 7) rfl)) (hw _ (List.mem_of_getElem? (i := 6) rfl)) (by decide) (by decide)) (g := (mkF m 41 #[.val (.int p0), .val (.int p1), .val (.int (p0.toUInt32.toUInt16.toUInt32.toInt32)), .val (.int (p1 &&& (15 : Int32))), .val (.int (f1 (p0.toUInt32.toUInt16.toUInt32.toInt32))), .unset, .unset] [(.int (f1 (p0.toUInt32.toUInt16.toUInt32.toInt32))), (.int (p0.toUInt32.toUInt16.toUInt32.toInt32))])) rfl (by rw [hml]; rfl) (argsL := [(.int (f1 (p0.toUInt32.toUInt16.toUInt32.toInt32)))]) (rest := [(.int (p0.toUInt32.toUInt16.toUInt32.toInt32))]) (lenOf pd__I_C rfl) rfl (by show 2 * 0 + _ ≤ _; exact Nat.le_of_eq rfl) (hb hby at_41) (fun _ _ => ⟨rfl, e1, (by decide : 0 + 0 ≤ _), (by decide : 0 + 0 ≤ _)⟩)
        dsimp only [Pt.U, Pt.locs, Pt.cells, Pt.slots] at X17 l17 y17 z17 st17 hQ17
        subst l17 y17 z17
        obtain ⟨rfl, N17q, e17⟩ := hQ17
        have N17 := Fr.app N1 N17q
        refine own_by st17 ?_
        show own_Fin p.tables e below _ (T17.setTop (mkF m 44 #[.val (.int p0), .val (.int p1), .val (.int (p0.toUInt32.toUInt16.toUInt32.toInt32)), .val (.int (p1 &&& (15 : Int32))), .val (.int (f1 (p0.toUInt32.toUInt16.toUInt32.toInt32))), .unset, .unset] [(.int (f2 (f1 (p0.toUInt32.toUInt16.toUInt32.toInt32)))), (.int (p0.toUInt32.toUInt16.toUInt32.toInt32))]))
        by_cases hc18 : (p0.toUInt32.toUInt16.toUInt32.toInt32) = (f2 (f1 (p0.toUInt32.toUInt16.toUInt32.toInt32)))
        · refine own_by (fun _ k => XS.icmpYes X17.here hx rfl (pc0 := 44) (pc' := 56) rfl (hb hby at_44) rfl (teq hc18).1 (by decide) (by decide) k) ?_
          show own_Fin p.tables e below _ (T17.setTop (mkF m 56 #[.val (.int p0), .val (.int p1), .val (.int (p0.toUInt32.toUInt16.toUInt32.toInt32)), .val (.int (p1 &&& (15 : Int32))), .val (.int (f1 (p0.toUInt32.toUInt16.toUInt32.toInt32))), .unset, .unset] []))
          refine own_by (fun _ k => XS.iconst X17.here hx rfl (hb hby at_56) k) ?_
          show own_Fin p.tables e below _ (T17.setTop (mkF m 57 #[.val (.int p0), .val (.int p1), .val (.int (p0.toUInt32.toUInt16.toUInt32.toInt32)), .val (.int (p1 &&& (15 : Int32))), .val (.int (f1 (p0.toUInt32.toUInt16.toUInt32.toInt32))), .unset, .unset] [(.int (1 : Int32))]))
          refine own_by (fun _ k => XS.goto X17.here hx rfl (pc0 := 57) (pc' := 61) rfl (hb hby at_57) (by decide) (by decide) k) ?_
          show own_Fin p.tables e below _ (T17.setTop (mkF m 61 #[.val (.int p0), .val (.int p1), .val (.int (p0.toUInt32.toUInt16.toUInt32.toInt32)), .val (.int (p1 &&& (15 : Int32))), .val (.int (f1 (p0.toUInt32.toUInt16.toUInt32.toInt32))), .unset, .unset] [(.int (1 : Int32))]))
          refine own_by (fun _ k => XS.istore X17.here hx rfl (hb hby at_61) rfl (l' := #[.val (.int p0), .val (.int p1), .val (.int (p0.toUInt32.toUInt16.toUInt32.toInt32)), .val (.int (p1 &&& (15 : Int32))), .val (.int (f1 (p0.toUInt32.toUInt16.toUInt32.toInt32))), .val (.int (1 : Int32)), .unset]) rfl k) ?_
          show own_Fin p.tables e below _ (T17.setTop (mkF m 63 #[.val (.int p0), .val (.int p1), .val (.int (p0.toUInt32.toUInt16.toUInt32.toInt32)), .val (.int (p1 &&& (15 : Int32))), .val (.int (f1 (p0.toUInt32.toUInt16.toUInt32.toInt32))), .val (.int (1 : Int32)), .unset] []))
          refine own_by (fun _ k => XS.goto X17.here hx rfl (pc0 := 63) (pc' := 69) rfl (hb hby at_63) (by decide) (by decide) k) ?_
          show own_Fin p.tables e below _ (T17.setTop (mkF m 69 #[.val (.int p0), .val (.int p1), .val (.int (p0.toUInt32.toUInt16.toUInt32.toInt32)), .val (.int (p1 &&& (15 : Int32))), .val (.int (f1 (p0.toUInt32.toUInt16.toUInt32.toInt32))), .val (.int (1 : Int32)), .unset] []))
          refine own_by (fun _ k => XS.iloadN X17.here hx rfl (hb hby at_69) rfl k) ?_
          show own_Fin p.tables e below _ (T17.setTop (mkF m 70 #[.val (.int p0), .val (.int p1), .val (.int (p0.toUInt32.toUInt16.toUInt32.toInt32)), .val (.int (p1 &&& (15 : Int32))), .val (.int (f1 (p0.toUInt32.toUInt16.toUInt32.toInt32))), .val (.int (1 : Int32)), .unset] [(.int (p1 &&& (15 : Int32)))]))
          obtain ⟨_, _, ⟨T19, L19, k19, n19⟩, -, X19, ⟨Lc19, hQ19, l19, y19, z19⟩, st19⟩ := Jvm.LawKit.callS X17 hx (y := (⟨"com/example/sealwatch/sealwatch/PercentEncodingHexDigitPinLaw", "upperDigit", "(I)C"⟩ : MethodName)) hown (mvT hZ (hw _ (List.mem_of_getElem? (i := 4) rfl))) (mvT hZ (hw _ (List.mem_of_getElem? (i := 5) rfl))) (mvT hZ (hw _ (List.mem_of_getElem? (i := 6) rfl))) (mvT hZ (hw _ (List.mem_of_getElem? (i := 7) rfl))) (by decide) (backOf (W := 0) (rm2 l Z a0 hw [] (p1 &&& (15 : Int32)) h0 n0 Z0 ) hZ (hw _ (List.mem_of_getElem? (i := 7) rfl)) (hw _ (List.mem_of_getElem? (i := 6) rfl)) (by decide) (by decide)) (g := (mkF m 70 #[.val (.int p0), .val (.int p1), .val (.int (p0.toUInt32.toUInt16.toUInt32.toInt32)), .val (.int (p1 &&& (15 : Int32))), .val (.int (f1 (p0.toUInt32.toUInt16.toUInt32.toInt32))), .val (.int (1 : Int32)), .unset] [(.int (p1 &&& (15 : Int32)))])) rfl (by rw [hml]; rfl) (argsL := [(.int (p1 &&& (15 : Int32)))]) (rest := []) (lenOf pd__I_C rfl) rfl (by show 2 * 0 + _ ≤ _; exact Nat.le_of_eq rfl) (hb hby at_70) (fun _ _ => ⟨rfl, e17, (by decide : 0 + 0 ≤ _), (by decide : 0 + 0 ≤ _)⟩)
          dsimp only [Pt.U, Pt.locs, Pt.cells, Pt.slots] at X19 l19 y19 z19 st19 hQ19
          subst l19 y19 z19
          obtain ⟨rfl, N19q, e19⟩ := hQ19
          have N19 := Fr.app N17 N19q
          refine own_by st19 ?_
          show own_Fin p.tables e below _ (T19.setTop (mkF m 73 #[.val (.int p0), .val (.int p1), .val (.int (p0.toUInt32.toUInt16.toUInt32.toInt32)), .val (.int (p1 &&& (15 : Int32))), .val (.int (f1 (p0.toUInt32.toUInt16.toUInt32.toInt32))), .val (.int (1 : Int32)), .unset] [(.int (f2 (p1 &&& (15 : Int32))))]))
          obtain ⟨_, _, ⟨T20, L20, k20, n20⟩, -, X20, ⟨Lc20, hQ20, l20, y20, z20⟩, st20⟩ := Jvm.LawKit.callS X19 hx (y := (⟨"com/example/sealwatch/sealwatch/PercentEncoding", "hexDigit", "(C)I"⟩ : MethodName)) hown (mvT hZ (hw _ (List.mem_of_getElem? (i := 0) rfl))) (mvT hZ (hw _ (List.mem_of_getElem? (i := 1) rfl))) (mvT hZ (hw _ (List.mem_of_getElem? (i := 2) rfl))) (mvT hZ (hw _ (List.mem_of_getElem? (i := 3) rfl))) (by decide) (backOf (W := 0) (rm1 l Z a0 hw [] (f2 (p1 &&& (15 : Int32))) h0 n0 Z0 ) hZ (hw _ (List.mem_of_getElem? (i := 3) rfl)) (hw _ (List.mem_of_getElem? (i := 2) rfl)) (by decide) (by decide)) (g := (mkF m 73 #[.val (.int p0), .val (.int p1), .val (.int (p0.toUInt32.toUInt16.toUInt32.toInt32)), .val (.int (p1 &&& (15 : Int32))), .val (.int (f1 (p0.toUInt32.toUInt16.toUInt32.toInt32))), .val (.int (1 : Int32)), .unset] [(.int (f2 (p1 &&& (15 : Int32))))])) rfl (by rw [hml]; rfl) (argsL := [(.int (f2 (p1 &&& (15 : Int32))))]) (rest := []) (lenOf pd__C_I rfl) rfl (by show 2 * 0 + _ ≤ _; exact Nat.le_of_eq rfl) (hb hby at_73) (fun _ _ => ⟨rfl, e19, (by decide : 0 + 0 ≤ _), (by decide : 0 + 0 ≤ _)⟩)
          dsimp only [Pt.U, Pt.locs, Pt.cells, Pt.slots] at X20 l20 y20 z20 st20 hQ20
          subst l20 y20 z20
          obtain ⟨rfl, N20q, e20⟩ := hQ20
          have N20 := Fr.app N19 N20q
          refine own_by st20 ?_
          show own_Fin p.tables e below _ (T20.setTop (mkF m 76 #[.val (.int p0), .val (.int p1), .val (.int (p0.toUInt32.toUInt16.toUInt32.toInt32)), .val (.int (p1 &&& (15 : Int32))), .val (.int (f1 (p0.toUInt32.toUInt16.toUInt32.toInt32))), .val (.int (1 : Int32)), .unset] [(.int (f1 (f2 (p1 &&& (15 : Int32)))))]))
          refine own_by (fun _ k => XS.iloadN X20.here hx rfl (hb hby at_76) rfl k) ?_
          show own_Fin p.tables e below _ (T20.setTop (mkF m 77 #[.val (.int p0), .val (.int p1), .val (.int (p0.toUInt32.toUInt16.toUInt32.toInt32)), .val (.int (p1 &&& (15 : Int32))), .val (.int (f1 (p0.toUInt32.toUInt16.toUInt32.toInt32))), .val (.int (1 : Int32)), .unset] [(.int (p1 &&& (15 : Int32))), (.int (f1 (f2 (p1 &&& (15 : Int32)))))]))
          by_cases hc21 : (f1 (f2 (p1 &&& (15 : Int32)))) = (p1 &&& (15 : Int32))
          · refine own_by (fun _ k => XS.icmpNo X20.here hx rfl (hb hby at_77) rfl (teq hc21).2 k) ?_
            show own_Fin p.tables e below _ (T20.setTop (mkF m 80 #[.val (.int p0), .val (.int p1), .val (.int (p0.toUInt32.toUInt16.toUInt32.toInt32)), .val (.int (p1 &&& (15 : Int32))), .val (.int (f1 (p0.toUInt32.toUInt16.toUInt32.toInt32))), .val (.int (1 : Int32)), .unset] []))
            refine own_by (fun _ k => XS.iloadN X20.here hx rfl (hb hby at_80) rfl k) ?_
            show own_Fin p.tables e below _ (T20.setTop (mkF m 81 #[.val (.int p0), .val (.int p1), .val (.int (p0.toUInt32.toUInt16.toUInt32.toInt32)), .val (.int (p1 &&& (15 : Int32))), .val (.int (f1 (p0.toUInt32.toUInt16.toUInt32.toInt32))), .val (.int (1 : Int32)), .unset] [(.int (p1 &&& (15 : Int32)))]))
            obtain ⟨_, _, ⟨T22, L22, k22, n22⟩, -, X22, ⟨Lc22, hQ22, l22, y22, z22⟩, st22⟩ := Jvm.LawKit.callS X20 hx (y := (⟨"com/example/sealwatch/sealwatch/PercentEncodingHexDigitPinLaw", "lowerDigit", "(I)C"⟩ : MethodName)) hown (mvT hZ (hw _ (List.mem_of_getElem? (i := 8) rfl))) (mvT hZ (hw _ (List.mem_of_getElem? (i := 9) rfl))) (mvT hZ (hw _ (List.mem_of_getElem? (i := 6) rfl))) (mvT hZ (hw _ (List.mem_of_getElem? (i := 10) rfl))) (by decide) (backOf (W := 0) (rm3 l Z a0 hw [] (p1 &&& (15 : Int32)) h0 n0 Z0 ) hZ (hw _ (List.mem_of_getElem? (i := 10) rfl)) (hw _ (List.mem_of_getElem? (i := 6) rfl)) (by decide) (by decide)) (g := (mkF m 81 #[.val (.int p0), .val (.int p1), .val (.int (p0.toUInt32.toUInt16.toUInt32.toInt32)), .val (.int (p1 &&& (15 : Int32))), .val (.int (f1 (p0.toUInt32.toUInt16.toUInt32.toInt32))), .val (.int (1 : Int32)), .unset] [(.int (p1 &&& (15 : Int32)))])) rfl (by rw [hml]; rfl) (argsL := [(.int (p1 &&& (15 : Int32)))]) (rest := []) (lenOf pd__I_C rfl) rfl (by show 2 * 0 + _ ≤ _; exact Nat.le_of_eq rfl) (hb hby at_81) (fun _ _ => ⟨rfl, e20, (by decide : 0 + 0 ≤ _), (by decide : 0 + 0 ≤ _)⟩)
            dsimp only [Pt.U, Pt.locs, Pt.cells, Pt.slots] at X22 l22 y22 z22 st22 hQ22
            subst l22 y22 z22
            obtain ⟨rfl, N22q, e22⟩ := hQ22
            have N22 := Fr.app N20 N22q
            refine own_by st22 ?_
            show own_Fin p.tables e below _ (T22.setTop (mkF m 84 #[.val (.int p0), .val (.int p1), .val (.int (p0.toUInt32.toUInt16.toUInt32.toInt32)), .val (.int (p1 &&& (15 : Int32))), .val (.int (f1 (p0.toUInt32.toUInt16.toUInt32.toInt32))), .val (.int (1 : Int32)), .unset] [(.int (f3 (p1 &&& (15 : Int32))))]))
            obtain ⟨_, _, ⟨T23, L23, k23, n23⟩, -, X23, ⟨Lc23, hQ23, l23, y23, z23⟩, st23⟩ := Jvm.LawKit.callS X22 hx (y := (⟨"com/example/sealwatch/sealwatch/PercentEncoding", "hexDigit", "(C)I"⟩ : MethodName)) hown (mvT hZ (hw _ (List.mem_of_getElem? (i := 0) rfl))) (mvT hZ (hw _ (List.mem_of_getElem? (i := 1) rfl))) (mvT hZ (hw _ (List.mem_of_getElem? (i := 2) rfl))) (mvT hZ (hw _ (List.mem_of_getElem? (i := 3) rfl))) (by decide) (backOf (W := 0) (rm1 l Z a0 hw [] (f3 (p1 &&& (15 : Int32))) h0 n0 Z0 ) hZ (hw _ (List.mem_of_getElem? (i := 3) rfl)) (hw _ (List.mem_of_getElem? (i := 2) rfl)) (by decide) (by decide)) (g := (mkF m 84 #[.val (.int p0), .val (.int p1), .val (.int (p0.toUInt32.toUInt16.toUInt32.toInt32)), .val (.int (p1 &&& (15 : Int32))), .val (.int (f1 (p0.toUInt32.toUInt16.toUInt32.toInt32))), .val (.int (1 : Int32)), .unset] [(.int (f3 (p1 &&& (15 : Int32))))])) rfl (by rw [hml]; rfl) (argsL := [(.int (f3 (p1 &&& (15 : Int32))))]) (rest := []) (lenOf pd__C_I rfl) rfl (by show 2 * 0 + _ ≤ _; exact Nat.le_of_eq rfl) (hb hby at_84) (fun _ _ => ⟨rfl, e22, (by decide : 0 + 0 ≤ _), (by decide : 0 + 0 ≤ _)⟩)
            dsimp only [Pt.U, Pt.locs, Pt.cells, Pt.slots] at X23 l23 y23 z23 st23 hQ23
            subst l23 y23 z23
            obtain ⟨rfl, N23q, e23⟩ := hQ23
            have N23 := Fr.app N22 N23q
            refine own_by st23 ?_
            show own_Fin p.tables e below _ (T23.setTop (mkF m 87 #[.val (.int p0), .val (.int p1), .val (.int (p0.toUInt32.toUInt16.toUInt32.toInt32)), .val (.int (p1 &&& (15 : Int32))), .val (.int (f1 (p0.toUInt32.toUInt16.toUInt32.toInt32))), .val (.int (1 : Int32)), .unset] [(.int (f1 (f3 (p1 &&& (15 : Int32)))))]))
            refine own_by (fun _ k => XS.iloadN X23.here hx rfl (hb hby at_87) rfl k) ?_
            show own_Fin p.tables e below _ (T23.setTop (mkF m 88 #[.val (.int p0), .val (.int p1), .val (.int (p0.toUInt32.toUInt16.toUInt32.toInt32)), .val (.int (p1 &&& (15 : Int32))), .val (.int (f1 (p0.toUInt32.toUInt16.toUInt32.toInt32))), .val (.int (1 : Int32)), .unset] [(.int (p1 &&& (15 : Int32))), (.int (f1 (f3 (p1 &&& (15 : Int32)))))]))
            by_cases hc24 : (f1 (f3 (p1 &&& (15 : Int32)))) = (p1 &&& (15 : Int32))
            · refine own_by (fun _ k => XS.icmpNo X23.here hx rfl (hb hby at_88) rfl (teq hc24).2 k) ?_
              show own_Fin p.tables e below _ (T23.setTop (mkF m 91 #[.val (.int p0), .val (.int p1), .val (.int (p0.toUInt32.toUInt16.toUInt32.toInt32)), .val (.int (p1 &&& (15 : Int32))), .val (.int (f1 (p0.toUInt32.toUInt16.toUInt32.toInt32))), .val (.int (1 : Int32)), .unset] []))
              refine own_by (fun _ k => XS.iconst X23.here hx rfl (hb hby at_91) k) ?_
              show own_Fin p.tables e below _ (T23.setTop (mkF m 92 #[.val (.int p0), .val (.int p1), .val (.int (p0.toUInt32.toUInt16.toUInt32.toInt32)), .val (.int (p1 &&& (15 : Int32))), .val (.int (f1 (p0.toUInt32.toUInt16.toUInt32.toInt32))), .val (.int (1 : Int32)), .unset] [(.int (1 : Int32))]))
              refine own_by (fun _ k => XS.goto X23.here hx rfl (pc0 := 92) (pc' := 96) rfl (hb hby at_92) (by decide) (by decide) k) ?_
              show own_Fin p.tables e below _ (T23.setTop (mkF m 96 #[.val (.int p0), .val (.int p1), .val (.int (p0.toUInt32.toUInt16.toUInt32.toInt32)), .val (.int (p1 &&& (15 : Int32))), .val (.int (f1 (p0.toUInt32.toUInt16.toUInt32.toInt32))), .val (.int (1 : Int32)), .unset] [(.int (1 : Int32))]))
              refine own_by (fun _ k => XS.istore X23.here hx rfl (hb hby at_96) rfl (l' := #[.val (.int p0), .val (.int p1), .val (.int (p0.toUInt32.toUInt16.toUInt32.toInt32)), .val (.int (p1 &&& (15 : Int32))), .val (.int (f1 (p0.toUInt32.toUInt16.toUInt32.toInt32))), .val (.int (1 : Int32)), .val (.int (1 : Int32))]) rfl k) ?_
              show own_Fin p.tables e below _ (T23.setTop (mkF m 98 #[.val (.int p0), .val (.int p1), .val (.int (p0.toUInt32.toUInt16.toUInt32.toInt32)), .val (.int (p1 &&& (15 : Int32))), .val (.int (f1 (p0.toUInt32.toUInt16.toUInt32.toInt32))), .val (.int (1 : Int32)), .val (.int (1 : Int32))] []))
              refine own_by (fun _ k => XS.iload X23.here hx rfl (hb hby at_98) rfl k) ?_
              show own_Fin p.tables e below _ (T23.setTop (mkF m 100 #[.val (.int p0), .val (.int p1), .val (.int (p0.toUInt32.toUInt16.toUInt32.toInt32)), .val (.int (p1 &&& (15 : Int32))), .val (.int (f1 (p0.toUInt32.toUInt16.toUInt32.toInt32))), .val (.int (1 : Int32)), .val (.int (1 : Int32))] [(.int (1 : Int32))]))
              refine own_by (fun _ k => XS.ifNo X23.here hx rfl (hb hby at_100) rfl ((if0 _ _).trans (feq (by decide)).1) k) ?_
              show own_Fin p.tables e below _ (T23.setTop (mkF m 103 #[.val (.int p0), .val (.int p1), .val (.int (p0.toUInt32.toUInt16.toUInt32.toInt32)), .val (.int (p1 &&& (15 : Int32))), .val (.int (f1 (p0.toUInt32.toUInt16.toUInt32.toInt32))), .val (.int (1 : Int32)), .val (.int (1 : Int32))] []))
              refine own_by (fun _ k => XS.iload X23.here hx rfl (hb hby at_103) rfl k) ?_
              show own_Fin p.tables e below _ (T23.setTop (mkF m 105 #[.val (.int p0), .val (.int p1), .val (.int (p0.toUInt32.toUInt16.toUInt32.toInt32)), .val (.int (p1 &&& (15 : Int32))), .val (.int (f1 (p0.toUInt32.toUInt16.toUInt32.toInt32))), .val (.int (1 : Int32)), .val (.int (1 : Int32))] [(.int (1 : Int32))]))
              refine own_by (fun _ k => XS.ifNo X23.here hx rfl (hb hby at_105) rfl ((if0 _ _).trans (feq (by decide)).1) k) ?_
              show own_Fin p.tables e below _ (T23.setTop (mkF m 108 #[.val (.int p0), .val (.int p1), .val (.int (p0.toUInt32.toUInt16.toUInt32.toInt32)), .val (.int (p1 &&& (15 : Int32))), .val (.int (f1 (p0.toUInt32.toUInt16.toUInt32.toInt32))), .val (.int (1 : Int32)), .val (.int (1 : Int32))] []))
              refine own_by (fun _ k => XS.iconst X23.here hx rfl (hb hby at_108) k) ?_
              show own_Fin p.tables e below _ (T23.setTop (mkF m 109 #[.val (.int p0), .val (.int p1), .val (.int (p0.toUInt32.toUInt16.toUInt32.toInt32)), .val (.int (p1 &&& (15 : Int32))), .val (.int (f1 (p0.toUInt32.toUInt16.toUInt32.toInt32))), .val (.int (1 : Int32)), .val (.int (1 : Int32))] [(.int (1 : Int32))]))
              refine own_by (fun _ k => XS.goto X23.here hx rfl (pc0 := 109) (pc' := 113) rfl (hb hby at_109) (by decide) (by decide) k) ?_
              show own_Fin p.tables e below _ (T23.setTop (mkF m 113 #[.val (.int p0), .val (.int p1), .val (.int (p0.toUInt32.toUInt16.toUInt32.toInt32)), .val (.int (p1 &&& (15 : Int32))), .val (.int (f1 (p0.toUInt32.toUInt16.toUInt32.toInt32))), .val (.int (1 : Int32)), .val (.int (1 : Int32))] [(.int (1 : Int32))]))
              have ef := (show f0 p0 p1 = (1 : Int32) from by unfold f0; rw [if_neg hc2, if_neg hc9, if_pos hc16, if_pos hc18, if_pos hc21, if_pos hc24])
              exact own_retN X23 hx (t := .boolean) Bd.returns hlk (by simp) (hb hby at_113) (by decide) (by decide) ⟨by rw [ef]; rfl, N23⟩
            · refine own_by (fun _ k => XS.icmpYes X23.here hx rfl (pc0 := 88) (pc' := 95) rfl (hb hby at_88) rfl (feq hc24).2 (by decide) (by decide) k) ?_
              show own_Fin p.tables e below _ (T23.setTop (mkF m 95 #[.val (.int p0), .val (.int p1), .val (.int (p0.toUInt32.toUInt16.toUInt32.toInt32)), .val (.int (p1 &&& (15 : Int32))), .val (.int (f1 (p0.toUInt32.toUInt16.toUInt32.toInt32))), .val (.int (1 : Int32)), .unset] []))
              refine own_by (fun _ k => XS.iconst X23.here hx rfl (hb hby at_95) k) ?_
              show own_Fin p.tables e below _ (T23.setTop (mkF m 96 #[.val (.int p0), .val (.int p1), .val (.int (p0.toUInt32.toUInt16.toUInt32.toInt32)), .val (.int (p1 &&& (15 : Int32))), .val (.int (f1 (p0.toUInt32.toUInt16.toUInt32.toInt32))), .val (.int (1 : Int32)), .unset] [(.int (0 : Int32))]))
              refine own_by (fun _ k => XS.istore X23.here hx rfl (hb hby at_96) rfl (l' := #[.val (.int p0), .val (.int p1), .val (.int (p0.toUInt32.toUInt16.toUInt32.toInt32)), .val (.int (p1 &&& (15 : Int32))), .val (.int (f1 (p0.toUInt32.toUInt16.toUInt32.toInt32))), .val (.int (1 : Int32)), .val (.int (0 : Int32))]) rfl k) ?_
              show own_Fin p.tables e below _ (T23.setTop (mkF m 98 #[.val (.int p0), .val (.int p1), .val (.int (p0.toUInt32.toUInt16.toUInt32.toInt32)), .val (.int (p1 &&& (15 : Int32))), .val (.int (f1 (p0.toUInt32.toUInt16.toUInt32.toInt32))), .val (.int (1 : Int32)), .val (.int (0 : Int32))] []))
              refine own_by (fun _ k => XS.iload X23.here hx rfl (hb hby at_98) rfl k) ?_
              show own_Fin p.tables e below _ (T23.setTop (mkF m 100 #[.val (.int p0), .val (.int p1), .val (.int (p0.toUInt32.toUInt16.toUInt32.toInt32)), .val (.int (p1 &&& (15 : Int32))), .val (.int (f1 (p0.toUInt32.toUInt16.toUInt32.toInt32))), .val (.int (1 : Int32)), .val (.int (0 : Int32))] [(.int (1 : Int32))]))
              refine own_by (fun _ k => XS.ifNo X23.here hx rfl (hb hby at_100) rfl ((if0 _ _).trans (feq (by decide)).1) k) ?_
              show own_Fin p.tables e below _ (T23.setTop (mkF m 103 #[.val (.int p0), .val (.int p1), .val (.int (p0.toUInt32.toUInt16.toUInt32.toInt32)), .val (.int (p1 &&& (15 : Int32))), .val (.int (f1 (p0.toUInt32.toUInt16.toUInt32.toInt32))), .val (.int (1 : Int32)), .val (.int (0 : Int32))] []))
              refine own_by (fun _ k => XS.iload X23.here hx rfl (hb hby at_103) rfl k) ?_
              show own_Fin p.tables e below _ (T23.setTop (mkF m 105 #[.val (.int p0), .val (.int p1), .val (.int (p0.toUInt32.toUInt16.toUInt32.toInt32)), .val (.int (p1 &&& (15 : Int32))), .val (.int (f1 (p0.toUInt32.toUInt16.toUInt32.toInt32))), .val (.int (1 : Int32)), .val (.int (0 : Int32))] [(.int (0 : Int32))]))
              refine own_by (fun _ k => XS.ifYes X23.here hx rfl (pc0 := 105) (pc' := 112) rfl (hb hby at_105) rfl ((if0 _ _).trans (teq (by decide)).1) (by decide) (by decide) k) ?_
              show own_Fin p.tables e below _ (T23.setTop (mkF m 112 #[.val (.int p0), .val (.int p1), .val (.int (p0.toUInt32.toUInt16.toUInt32.toInt32)), .val (.int (p1 &&& (15 : Int32))), .val (.int (f1 (p0.toUInt32.toUInt16.toUInt32.toInt32))), .val (.int (1 : Int32)), .val (.int (0 : Int32))] []))
              refine own_by (fun _ k => XS.iconst X23.here hx rfl (hb hby at_112) k) ?_
              show own_Fin p.tables e below _ (T23.setTop (mkF m 113 #[.val (.int p0), .val (.int p1), .val (.int (p0.toUInt32.toUInt16.toUInt32.toInt32)), .val (.int (p1 &&& (15 : Int32))), .val (.int (f1 (p0.toUInt32.toUInt16.toUInt32.toInt32))), .val (.int (1 : Int32)), .val (.int (0 : Int32))] [(.int (0 : Int32))]))
              have ef := (show f0 p0 p1 = (0 : Int32) from by unfold f0; rw [if_neg hc2, if_neg hc9, if_pos hc16, if_pos hc18, if_pos hc21, if_neg hc24])
              exact own_retN X23 hx (t := .boolean) Bd.returns hlk (by simp) (hb hby at_113) (by decide) (by decide) ⟨by rw [ef]; rfl, N23⟩
          · refine own_by (fun _ k => XS.icmpYes X20.here hx rfl (pc0 := 77) (pc' := 95) rfl (hb hby at_77) rfl (feq hc21).2 (by decide) (by decide) k) ?_
            show own_Fin p.tables e below _ (T20.setTop (mkF m 95 #[.val (.int p0), .val (.int p1), .val (.int (p0.toUInt32.toUInt16.toUInt32.toInt32)), .val (.int (p1 &&& (15 : Int32))), .val (.int (f1 (p0.toUInt32.toUInt16.toUInt32.toInt32))), .val (.int (1 : Int32)), .unset] []))
            refine own_by (fun _ k => XS.iconst X20.here hx rfl (hb hby at_95) k) ?_
            show own_Fin p.tables e below _ (T20.setTop (mkF m 96 #[.val (.int p0), .val (.int p1), .val (.int (p0.toUInt32.toUInt16.toUInt32.toInt32)), .val (.int (p1 &&& (15 : Int32))), .val (.int (f1 (p0.toUInt32.toUInt16.toUInt32.toInt32))), .val (.int (1 : Int32)), .unset] [(.int (0 : Int32))]))
            refine own_by (fun _ k => XS.istore X20.here hx rfl (hb hby at_96) rfl (l' := #[.val (.int p0), .val (.int p1), .val (.int (p0.toUInt32.toUInt16.toUInt32.toInt32)), .val (.int (p1 &&& (15 : Int32))), .val (.int (f1 (p0.toUInt32.toUInt16.toUInt32.toInt32))), .val (.int (1 : Int32)), .val (.int (0 : Int32))]) rfl k) ?_
            show own_Fin p.tables e below _ (T20.setTop (mkF m 98 #[.val (.int p0), .val (.int p1), .val (.int (p0.toUInt32.toUInt16.toUInt32.toInt32)), .val (.int (p1 &&& (15 : Int32))), .val (.int (f1 (p0.toUInt32.toUInt16.toUInt32.toInt32))), .val (.int (1 : Int32)), .val (.int (0 : Int32))] []))
            refine own_by (fun _ k => XS.iload X20.here hx rfl (hb hby at_98) rfl k) ?_
            show own_Fin p.tables e below _ (T20.setTop (mkF m 100 #[.val (.int p0), .val (.int p1), .val (.int (p0.toUInt32.toUInt16.toUInt32.toInt32)), .val (.int (p1 &&& (15 : Int32))), .val (.int (f1 (p0.toUInt32.toUInt16.toUInt32.toInt32))), .val (.int (1 : Int32)), .val (.int (0 : Int32))] [(.int (1 : Int32))]))
            refine own_by (fun _ k => XS.ifNo X20.here hx rfl (hb hby at_100) rfl ((if0 _ _).trans (feq (by decide)).1) k) ?_
            show own_Fin p.tables e below _ (T20.setTop (mkF m 103 #[.val (.int p0), .val (.int p1), .val (.int (p0.toUInt32.toUInt16.toUInt32.toInt32)), .val (.int (p1 &&& (15 : Int32))), .val (.int (f1 (p0.toUInt32.toUInt16.toUInt32.toInt32))), .val (.int (1 : Int32)), .val (.int (0 : Int32))] []))
            refine own_by (fun _ k => XS.iload X20.here hx rfl (hb hby at_103) rfl k) ?_
            show own_Fin p.tables e below _ (T20.setTop (mkF m 105 #[.val (.int p0), .val (.int p1), .val (.int (p0.toUInt32.toUInt16.toUInt32.toInt32)), .val (.int (p1 &&& (15 : Int32))), .val (.int (f1 (p0.toUInt32.toUInt16.toUInt32.toInt32))), .val (.int (1 : Int32)), .val (.int (0 : Int32))] [(.int (0 : Int32))]))
            refine own_by (fun _ k => XS.ifYes X20.here hx rfl (pc0 := 105) (pc' := 112) rfl (hb hby at_105) rfl ((if0 _ _).trans (teq (by decide)).1) (by decide) (by decide) k) ?_
            show own_Fin p.tables e below _ (T20.setTop (mkF m 112 #[.val (.int p0), .val (.int p1), .val (.int (p0.toUInt32.toUInt16.toUInt32.toInt32)), .val (.int (p1 &&& (15 : Int32))), .val (.int (f1 (p0.toUInt32.toUInt16.toUInt32.toInt32))), .val (.int (1 : Int32)), .val (.int (0 : Int32))] []))
            refine own_by (fun _ k => XS.iconst X20.here hx rfl (hb hby at_112) k) ?_
            show own_Fin p.tables e below _ (T20.setTop (mkF m 113 #[.val (.int p0), .val (.int p1), .val (.int (p0.toUInt32.toUInt16.toUInt32.toInt32)), .val (.int (p1 &&& (15 : Int32))), .val (.int (f1 (p0.toUInt32.toUInt16.toUInt32.toInt32))), .val (.int (1 : Int32)), .val (.int (0 : Int32))] [(.int (0 : Int32))]))
            have ef := (show f0 p0 p1 = (0 : Int32) from by unfold f0; rw [if_neg hc2, if_neg hc9, if_pos hc16, if_pos hc18, if_neg hc21])
            exact own_retN X20 hx (t := .boolean) Bd.returns hlk (by simp) (hb hby at_113) (by decide) (by decide) ⟨by rw [ef]; rfl, N20⟩
        · refine own_by (fun _ k => XS.icmpNo X17.here hx rfl (hb hby at_44) rfl (feq hc18).1 k) ?_
          show own_Fin p.tables e below _ (T17.setTop (mkF m 47 #[.val (.int p0), .val (.int p1), .val (.int (p0.toUInt32.toUInt16.toUInt32.toInt32)), .val (.int (p1 &&& (15 : Int32))), .val (.int (f1 (p0.toUInt32.toUInt16.toUInt32.toInt32))), .unset, .unset] []))
          refine own_by (fun _ k => XS.iloadN X17.here hx rfl (hb hby at_47) rfl k) ?_
          show own_Fin p.tables e below _ (T17.setTop (mkF m 48 #[.val (.int p0), .val (.int p1), .val (.int (p0.toUInt32.toUInt16.toUInt32.toInt32)), .val (.int (p1 &&& (15 : Int32))), .val (.int (f1 (p0.toUInt32.toUInt16.toUInt32.toInt32))), .unset, .unset] [(.int (p0.toUInt32.toUInt16.toUInt32.toInt32))]))
          refine own_by (fun _ k => XS.iload X17.here hx rfl (hb hby at_48) rfl k) ?_
          show own_Fin p.tables e below _ (T17.setTop (mkF m 50 #[.val (.int p0), .val (.int p1), .val (.int (p0.toUInt32.toUInt16.toUInt32.toInt32)), .val (.int (p1 &&& (15 : Int32))), .val (.int (f1 (p0.toUInt32.toUInt16.toUInt32.toInt32))), .unset, .unset] [(.int (f1 (p0.toUInt32.toUInt16.toUInt32.toInt32))), (.int (p0.toUInt32.toUInt16.toUInt32.toInt32))]))
          obtain ⟨_, _, ⟨T25, L25, k25, n25⟩, -, X25, ⟨Lc25, hQ25, l25, y25, z25⟩, st25⟩ := Jvm.LawKit.callS X17 hx (y := (⟨"com/example/sealwatch/sealwatch/PercentEncodingHexDigitPinLaw", "lowerDigit", "(I)C"⟩ : MethodName)) hown (mvT hZ (hw _ (List.mem_of_getElem? (i := 8) rfl))) (mvT hZ (hw _ (List.mem_of_getElem? (i := 9) rfl))) (mvT hZ (hw _ (List.mem_of_getElem? (i := 6) rfl))) (mvT hZ (hw _ (List.mem_of_getElem? (i := 10) rfl))) (by decide) (backOf (W := 1) (rm3 l Z a0 hw [] (f1 (p0.toUInt32.toUInt16.toUInt32.toInt32)) h0 n0 Z0 ) hZ (hw _ (List.mem_of_getElem? (i := 10) rfl)) (hw _ (List.mem_of_getElem? (i := 6) rfl)) (by decide) (by decide)) (g := (mkF m 50 #[.val (.int p0), .val (.int p1), .val (.int (p0.toUInt32.toUInt16.toUInt32.toInt32)), .val (.int (p1 &&& (15 : Int32))), .val (.int (f1 (p0.toUInt32.toUInt16.toUInt32.toInt32))), .unset, .unset] [(.int (f1 (p0.toUInt32.toUInt16.toUInt32.toInt32))), (.int (p0.toUInt32.toUInt16.toUInt32.toInt32))])) rfl (by rw [hml]; rfl) (argsL := [(.int (f1 (p0.toUInt32.toUInt16.toUInt32.toInt32)))]) (rest := [(.int (p0.toUInt32.toUInt16.toUInt32.toInt32))]) (lenOf pd__I_C rfl) rfl (by show 2 * 0 + _ ≤ _; exact Nat.le_of_eq rfl) (hb hby at_50) (fun _ _ => ⟨rfl, e17, (by decide : 0 + 0 ≤ _), (by decide : 0 + 0 ≤ _)⟩)
          dsimp only [Pt.U, Pt.locs, Pt.cells, Pt.slots] at X25 l25 y25 z25 st25 hQ25
          subst l25 y25 z25
          obtain ⟨rfl, N25q, e25⟩ := hQ25
          have N25 := Fr.app N17 N25q
          refine own_by st25 ?_
          show own_Fin p.tables e below _ (T25.setTop (mkF m 53 #[.val (.int p0), .val (.int p1), .val (.int (p0.toUInt32.toUInt16.toUInt32.toInt32)), .val (.int (p1 &&& (15 : Int32))), .val (.int (f1 (p0.toUInt32.toUInt16.toUInt32.toInt32))), .unset, .unset] [(.int (f3 (f1 (p0.toUInt32.toUInt16.toUInt32.toInt32)))), (.int (p0.toUInt32.toUInt16.toUInt32.toInt32))]))
          by_cases hc26 : (p0.toUInt32.toUInt16.toUInt32.toInt32) = (f3 (f1 (p0.toUInt32.toUInt16.toUInt32.toInt32)))
          · refine own_by (fun _ k => XS.icmpNo X25.here hx rfl (hb hby at_53) rfl (teq hc26).2 k) ?_
            show own_Fin p.tables e below _ (T25.setTop (mkF m 56 #[.val (.int p0), .val (.int p1), .val (.int (p0.toUInt32.toUInt16.toUInt32.toInt32)), .val (.int (p1 &&& (15 : Int32))), .val (.int (f1 (p0.toUInt32.toUInt16.toUInt32.toInt32))), .unset, .unset] []))
            refine own_by (fun _ k => XS.iconst X25.here hx rfl (hb hby at_56) k) ?_
            show own_Fin p.tables e below _ (T25.setTop (mkF m 57 #[.val (.int p0), .val (.int p1), .val (.int (p0.toUInt32.toUInt16.toUInt32.toInt32)), .val (.int (p1 &&& (15 : Int32))), .val (.int (f1 (p0.toUInt32.toUInt16.toUInt32.toInt32))), .unset, .unset] [(.int (1 : Int32))]))
            refine own_by (fun _ k => XS.goto X25.here hx rfl (pc0 := 57) (pc' := 61) rfl (hb hby at_57) (by decide) (by decide) k) ?_
            show own_Fin p.tables e below _ (T25.setTop (mkF m 61 #[.val (.int p0), .val (.int p1), .val (.int (p0.toUInt32.toUInt16.toUInt32.toInt32)), .val (.int (p1 &&& (15 : Int32))), .val (.int (f1 (p0.toUInt32.toUInt16.toUInt32.toInt32))), .unset, .unset] [(.int (1 : Int32))]))
            refine own_by (fun _ k => XS.istore X25.here hx rfl (hb hby at_61) rfl (l' := #[.val (.int p0), .val (.int p1), .val (.int (p0.toUInt32.toUInt16.toUInt32.toInt32)), .val (.int (p1 &&& (15 : Int32))), .val (.int (f1 (p0.toUInt32.toUInt16.toUInt32.toInt32))), .val (.int (1 : Int32)), .unset]) rfl k) ?_
            show own_Fin p.tables e below _ (T25.setTop (mkF m 63 #[.val (.int p0), .val (.int p1), .val (.int (p0.toUInt32.toUInt16.toUInt32.toInt32)), .val (.int (p1 &&& (15 : Int32))), .val (.int (f1 (p0.toUInt32.toUInt16.toUInt32.toInt32))), .val (.int (1 : Int32)), .unset] []))
            refine own_by (fun _ k => XS.goto X25.here hx rfl (pc0 := 63) (pc' := 69) rfl (hb hby at_63) (by decide) (by decide) k) ?_
            show own_Fin p.tables e below _ (T25.setTop (mkF m 69 #[.val (.int p0), .val (.int p1), .val (.int (p0.toUInt32.toUInt16.toUInt32.toInt32)), .val (.int (p1 &&& (15 : Int32))), .val (.int (f1 (p0.toUInt32.toUInt16.toUInt32.toInt32))), .val (.int (1 : Int32)), .unset] []))
            refine own_by (fun _ k => XS.iloadN X25.here hx rfl (hb hby at_69) rfl k) ?_
            show own_Fin p.tables e below _ (T25.setTop (mkF m 70 #[.val (.int p0), .val (.int p1), .val (.int (p0.toUInt32.toUInt16.toUInt32.toInt32)), .val (.int (p1 &&& (15 : Int32))), .val (.int (f1 (p0.toUInt32.toUInt16.toUInt32.toInt32))), .val (.int (1 : Int32)), .unset] [(.int (p1 &&& (15 : Int32)))]))
            obtain ⟨_, _, ⟨T27, L27, k27, n27⟩, -, X27, ⟨Lc27, hQ27, l27, y27, z27⟩, st27⟩ := Jvm.LawKit.callS X25 hx (y := (⟨"com/example/sealwatch/sealwatch/PercentEncodingHexDigitPinLaw", "upperDigit", "(I)C"⟩ : MethodName)) hown (mvT hZ (hw _ (List.mem_of_getElem? (i := 4) rfl))) (mvT hZ (hw _ (List.mem_of_getElem? (i := 5) rfl))) (mvT hZ (hw _ (List.mem_of_getElem? (i := 6) rfl))) (mvT hZ (hw _ (List.mem_of_getElem? (i := 7) rfl))) (by decide) (backOf (W := 0) (rm2 l Z a0 hw [] (p1 &&& (15 : Int32)) h0 n0 Z0 ) hZ (hw _ (List.mem_of_getElem? (i := 7) rfl)) (hw _ (List.mem_of_getElem? (i := 6) rfl)) (by decide) (by decide)) (g := (mkF m 70 #[.val (.int p0), .val (.int p1), .val (.int (p0.toUInt32.toUInt16.toUInt32.toInt32)), .val (.int (p1 &&& (15 : Int32))), .val (.int (f1 (p0.toUInt32.toUInt16.toUInt32.toInt32))), .val (.int (1 : Int32)), .unset] [(.int (p1 &&& (15 : Int32)))])) rfl (by rw [hml]; rfl) (argsL := [(.int (p1 &&& (15 : Int32)))]) (rest := []) (lenOf pd__I_C rfl) rfl (by show 2 * 0 + _ ≤ _; exact Nat.le_of_eq rfl) (hb hby at_70) (fun _ _ => ⟨rfl, e25, (by decide : 0 + 0 ≤ _), (by decide : 0 + 0 ≤ _)⟩)
            dsimp only [Pt.U, Pt.locs, Pt.cells, Pt.slots] at X27 l27 y27 z27 st27 hQ27
            subst l27 y27 z27
            obtain ⟨rfl, N27q, e27⟩ := hQ27
            have N27 := Fr.app N25 N27q
            refine own_by st27 ?_
            show own_Fin p.tables e below _ (T27.setTop (mkF m 73 #[.val (.int p0), .val (.int p1), .val (.int (p0.toUInt32.toUInt16.toUInt32.toInt32)), .val (.int (p1 &&& (15 : Int32))), .val (.int (f1 (p0.toUInt32.toUInt16.toUInt32.toInt32))), .val (.int (1 : Int32)), .unset] [(.int (f2 (p1 &&& (15 : Int32))))]))
            obtain ⟨_, _, ⟨T28, L28, k28, n28⟩, -, X28, ⟨Lc28, hQ28, l28, y28, z28⟩, st28⟩ := Jvm.LawKit.callS X27 hx (y := (⟨"com/example/sealwatch/sealwatch/PercentEncoding", "hexDigit", "(C)I"⟩ : MethodName)) hown (mvT hZ (hw _ (List.mem_of_getElem? (i := 0) rfl))) (mvT hZ (hw _ (List.mem_of_getElem? (i := 1) rfl))) (mvT hZ (hw _ (List.mem_of_getElem? (i := 2) rfl))) (mvT hZ (hw _ (List.mem_of_getElem? (i := 3) rfl))) (by decide) (backOf (W := 0) (rm1 l Z a0 hw [] (f2 (p1 &&& (15 : Int32))) h0 n0 Z0 ) hZ (hw _ (List.mem_of_getElem? (i := 3) rfl)) (hw _ (List.mem_of_getElem? (i := 2) rfl)) (by decide) (by decide)) (g := (mkF m 73 #[.val (.int p0), .val (.int p1), .val (.int (p0.toUInt32.toUInt16.toUInt32.toInt32)), .val (.int (p1 &&& (15 : Int32))), .val (.int (f1 (p0.toUInt32.toUInt16.toUInt32.toInt32))), .val (.int (1 : Int32)), .unset] [(.int (f2 (p1 &&& (15 : Int32))))])) rfl (by rw [hml]; rfl) (argsL := [(.int (f2 (p1 &&& (15 : Int32))))]) (rest := []) (lenOf pd__C_I rfl) rfl (by show 2 * 0 + _ ≤ _; exact Nat.le_of_eq rfl) (hb hby at_73) (fun _ _ => ⟨rfl, e27, (by decide : 0 + 0 ≤ _), (by decide : 0 + 0 ≤ _)⟩)
            dsimp only [Pt.U, Pt.locs, Pt.cells, Pt.slots] at X28 l28 y28 z28 st28 hQ28
            subst l28 y28 z28
            obtain ⟨rfl, N28q, e28⟩ := hQ28
            have N28 := Fr.app N27 N28q
            refine own_by st28 ?_
            show own_Fin p.tables e below _ (T28.setTop (mkF m 76 #[.val (.int p0), .val (.int p1), .val (.int (p0.toUInt32.toUInt16.toUInt32.toInt32)), .val (.int (p1 &&& (15 : Int32))), .val (.int (f1 (p0.toUInt32.toUInt16.toUInt32.toInt32))), .val (.int (1 : Int32)), .unset] [(.int (f1 (f2 (p1 &&& (15 : Int32)))))]))
            refine own_by (fun _ k => XS.iloadN X28.here hx rfl (hb hby at_76) rfl k) ?_
            show own_Fin p.tables e below _ (T28.setTop (mkF m 77 #[.val (.int p0), .val (.int p1), .val (.int (p0.toUInt32.toUInt16.toUInt32.toInt32)), .val (.int (p1 &&& (15 : Int32))), .val (.int (f1 (p0.toUInt32.toUInt16.toUInt32.toInt32))), .val (.int (1 : Int32)), .unset] [(.int (p1 &&& (15 : Int32))), (.int (f1 (f2 (p1 &&& (15 : Int32)))))]))
            by_cases hc29 : (f1 (f2 (p1 &&& (15 : Int32)))) = (p1 &&& (15 : Int32))
            · refine own_by (fun _ k => XS.icmpNo X28.here hx rfl (hb hby at_77) rfl (teq hc29).2 k) ?_
              show own_Fin p.tables e below _ (T28.setTop (mkF m 80 #[.val (.int p0), .val (.int p1), .val (.int (p0.toUInt32.toUInt16.toUInt32.toInt32)), .val (.int (p1 &&& (15 : Int32))), .val (.int (f1 (p0.toUInt32.toUInt16.toUInt32.toInt32))), .val (.int (1 : Int32)), .unset] []))
              refine own_by (fun _ k => XS.iloadN X28.here hx rfl (hb hby at_80) rfl k) ?_
              show own_Fin p.tables e below _ (T28.setTop (mkF m 81 #[.val (.int p0), .val (.int p1), .val (.int (p0.toUInt32.toUInt16.toUInt32.toInt32)), .val (.int (p1 &&& (15 : Int32))), .val (.int (f1 (p0.toUInt32.toUInt16.toUInt32.toInt32))), .val (.int (1 : Int32)), .unset] [(.int (p1 &&& (15 : Int32)))]))
              obtain ⟨_, _, ⟨T30, L30, k30, n30⟩, -, X30, ⟨Lc30, hQ30, l30, y30, z30⟩, st30⟩ := Jvm.LawKit.callS X28 hx (y := (⟨"com/example/sealwatch/sealwatch/PercentEncodingHexDigitPinLaw", "lowerDigit", "(I)C"⟩ : MethodName)) hown (mvT hZ (hw _ (List.mem_of_getElem? (i := 8) rfl))) (mvT hZ (hw _ (List.mem_of_getElem? (i := 9) rfl))) (mvT hZ (hw _ (List.mem_of_getElem? (i := 6) rfl))) (mvT hZ (hw _ (List.mem_of_getElem? (i := 10) rfl))) (by decide) (backOf (W := 0) (rm3 l Z a0 hw [] (p1 &&& (15 : Int32)) h0 n0 Z0 ) hZ (hw _ (List.mem_of_getElem? (i := 10) rfl)) (hw _ (List.mem_of_getElem? (i := 6) rfl)) (by decide) (by decide)) (g := (mkF m 81 #[.val (.int p0), .val (.int p1), .val (.int (p0.toUInt32.toUInt16.toUInt32.toInt32)), .val (.int (p1 &&& (15 : Int32))), .val (.int (f1 (p0.toUInt32.toUInt16.toUInt32.toInt32))), .val (.int (1 : Int32)), .unset] [(.int (p1 &&& (15 : Int32)))])) rfl (by rw [hml]; rfl) (argsL := [(.int (p1 &&& (15 : Int32)))]) (rest := []) (lenOf pd__I_C rfl) rfl (by show 2 * 0 + _ ≤ _; exact Nat.le_of_eq rfl) (hb hby at_81) (fun _ _ => ⟨rfl, e28, (by decide : 0 + 0 ≤ _), (by decide : 0 + 0 ≤ _)⟩)
              dsimp only [Pt.U, Pt.locs, Pt.cells, Pt.slots] at X30 l30 y30 z30 st30 hQ30
              subst l30 y30 z30
              obtain ⟨rfl, N30q, e30⟩ := hQ30
              have N30 := Fr.app N28 N30q
              refine own_by st30 ?_
              show own_Fin p.tables e below _ (T30.setTop (mkF m 84 #[.val (.int p0), .val (.int p1), .val (.int (p0.toUInt32.toUInt16.toUInt32.toInt32)), .val (.int (p1 &&& (15 : Int32))), .val (.int (f1 (p0.toUInt32.toUInt16.toUInt32.toInt32))), .val (.int (1 : Int32)), .unset] [(.int (f3 (p1 &&& (15 : Int32))))]))
              obtain ⟨_, _, ⟨T31, L31, k31, n31⟩, -, X31, ⟨Lc31, hQ31, l31, y31, z31⟩, st31⟩ := Jvm.LawKit.callS X30 hx (y := (⟨"com/example/sealwatch/sealwatch/PercentEncoding", "hexDigit", "(C)I"⟩ : MethodName)) hown (mvT hZ (hw _ (List.mem_of_getElem? (i := 0) rfl))) (mvT hZ (hw _ (List.mem_of_getElem? (i := 1) rfl))) (mvT hZ (hw _ (List.mem_of_getElem? (i := 2) rfl))) (mvT hZ (hw _ (List.mem_of_getElem? (i := 3) rfl))) (by decide) (backOf (W := 0) (rm1 l Z a0 hw [] (f3 (p1 &&& (15 : Int32))) h0 n0 Z0 ) hZ (hw _ (List.mem_of_getElem? (i := 3) rfl)) (hw _ (List.mem_of_getElem? (i := 2) rfl)) (by decide) (by decide)) (g := (mkF m 84 #[.val (.int p0), .val (.int p1), .val (.int (p0.toUInt32.toUInt16.toUInt32.toInt32)), .val (.int (p1 &&& (15 : Int32))), .val (.int (f1 (p0.toUInt32.toUInt16.toUInt32.toInt32))), .val (.int (1 : Int32)), .unset] [(.int (f3 (p1 &&& (15 : Int32))))])) rfl (by rw [hml]; rfl) (argsL := [(.int (f3 (p1 &&& (15 : Int32))))]) (rest := []) (lenOf pd__C_I rfl) rfl (by show 2 * 0 + _ ≤ _; exact Nat.le_of_eq rfl) (hb hby at_84) (fun _ _ => ⟨rfl, e30, (by decide : 0 + 0 ≤ _), (by decide : 0 + 0 ≤ _)⟩)
              dsimp only [Pt.U, Pt.locs, Pt.cells, Pt.slots] at X31 l31 y31 z31 st31 hQ31
              subst l31 y31 z31
              obtain ⟨rfl, N31q, e31⟩ := hQ31
              have N31 := Fr.app N30 N31q
              refine own_by st31 ?_
              show own_Fin p.tables e below _ (T31.setTop (mkF m 87 #[.val (.int p0), .val (.int p1), .val (.int (p0.toUInt32.toUInt16.toUInt32.toInt32)), .val (.int (p1 &&& (15 : Int32))), .val (.int (f1 (p0.toUInt32.toUInt16.toUInt32.toInt32))), .val (.int (1 : Int32)), .unset] [(.int (f1 (f3 (p1 &&& (15 : Int32)))))]))
              refine own_by (fun _ k => XS.iloadN X31.here hx rfl (hb hby at_87) rfl k) ?_
              show own_Fin p.tables e below _ (T31.setTop (mkF m 88 #[.val (.int p0), .val (.int p1), .val (.int (p0.toUInt32.toUInt16.toUInt32.toInt32)), .val (.int (p1 &&& (15 : Int32))), .val (.int (f1 (p0.toUInt32.toUInt16.toUInt32.toInt32))), .val (.int (1 : Int32)), .unset] [(.int (p1 &&& (15 : Int32))), (.int (f1 (f3 (p1 &&& (15 : Int32)))))]))
              by_cases hc32 : (f1 (f3 (p1 &&& (15 : Int32)))) = (p1 &&& (15 : Int32))
              · refine own_by (fun _ k => XS.icmpNo X31.here hx rfl (hb hby at_88) rfl (teq hc32).2 k) ?_
                show own_Fin p.tables e below _ (T31.setTop (mkF m 91 #[.val (.int p0), .val (.int p1), .val (.int (p0.toUInt32.toUInt16.toUInt32.toInt32)), .val (.int (p1 &&& (15 : Int32))), .val (.int (f1 (p0.toUInt32.toUInt16.toUInt32.toInt32))), .val (.int (1 : Int32)), .unset] []))
                refine own_by (fun _ k => XS.iconst X31.here hx rfl (hb hby at_91) k) ?_
                show own_Fin p.tables e below _ (T31.setTop (mkF m 92 #[.val (.int p0), .val (.int p1), .val (.int (p0.toUInt32.toUInt16.toUInt32.toInt32)), .val (.int (p1 &&& (15 : Int32))), .val (.int (f1 (p0.toUInt32.toUInt16.toUInt32.toInt32))), .val (.int (1 : Int32)), .unset] [(.int (1 : Int32))]))
                refine own_by (fun _ k => XS.goto X31.here hx rfl (pc0 := 92) (pc' := 96) rfl (hb hby at_92) (by decide) (by decide) k) ?_
                show own_Fin p.tables e below _ (T31.setTop (mkF m 96 #[.val (.int p0), .val (.int p1), .val (.int (p0.toUInt32.toUInt16.toUInt32.toInt32)), .val (.int (p1 &&& (15 : Int32))), .val (.int (f1 (p0.toUInt32.toUInt16.toUInt32.toInt32))), .val (.int (1 : Int32)), .unset] [(.int (1 : Int32))]))
                refine own_by (fun _ k => XS.istore X31.here hx rfl (hb hby at_96) rfl (l' := #[.val (.int p0), .val (.int p1), .val (.int (p0.toUInt32.toUInt16.toUInt32.toInt32)), .val (.int (p1 &&& (15 : Int32))), .val (.int (f1 (p0.toUInt32.toUInt16.toUInt32.toInt32))), .val (.int (1 : Int32)), .val (.int (1 : Int32))]) rfl k) ?_
                show own_Fin p.tables e below _ (T31.setTop (mkF m 98 #[.val (.int p0), .val (.int p1), .val (.int (p0.toUInt32.toUInt16.toUInt32.toInt32)), .val (.int (p1 &&& (15 : Int32))), .val (.int (f1 (p0.toUInt32.toUInt16.toUInt32.toInt32))), .val (.int (1 : Int32)), .val (.int (1 : Int32))] []))
                refine own_by (fun _ k => XS.iload X31.here hx rfl (hb hby at_98) rfl k) ?_
                show own_Fin p.tables e below _ (T31.setTop (mkF m 100 #[.val (.int p0), .val (.int p1), .val (.int (p0.toUInt32.toUInt16.toUInt32.toInt32)), .val (.int (p1 &&& (15 : Int32))), .val (.int (f1 (p0.toUInt32.toUInt16.toUInt32.toInt32))), .val (.int (1 : Int32)), .val (.int (1 : Int32))] [(.int (1 : Int32))]))
                refine own_by (fun _ k => XS.ifNo X31.here hx rfl (hb hby at_100) rfl ((if0 _ _).trans (feq (by decide)).1) k) ?_
                show own_Fin p.tables e below _ (T31.setTop (mkF m 103 #[.val (.int p0), .val (.int p1), .val (.int (p0.toUInt32.toUInt16.toUInt32.toInt32)), .val (.int (p1 &&& (15 : Int32))), .val (.int (f1 (p0.toUInt32.toUInt16.toUInt32.toInt32))), .val (.int (1 : Int32)), .val (.int (1 : Int32))] []))
                refine own_by (fun _ k => XS.iload X31.here hx rfl (hb hby at_103) rfl k) ?_
                show own_Fin p.tables e below _ (T31.setTop (mkF m 105 #[.val (.int p0), .val (.int p1), .val (.int (p0.toUInt32.toUInt16.toUInt32.toInt32)), .val (.int (p1 &&& (15 : Int32))), .val (.int (f1 (p0.toUInt32.toUInt16.toUInt32.toInt32))), .val (.int (1 : Int32)), .val (.int (1 : Int32))] [(.int (1 : Int32))]))
                refine own_by (fun _ k => XS.ifNo X31.here hx rfl (hb hby at_105) rfl ((if0 _ _).trans (feq (by decide)).1) k) ?_
                show own_Fin p.tables e below _ (T31.setTop (mkF m 108 #[.val (.int p0), .val (.int p1), .val (.int (p0.toUInt32.toUInt16.toUInt32.toInt32)), .val (.int (p1 &&& (15 : Int32))), .val (.int (f1 (p0.toUInt32.toUInt16.toUInt32.toInt32))), .val (.int (1 : Int32)), .val (.int (1 : Int32))] []))
                refine own_by (fun _ k => XS.iconst X31.here hx rfl (hb hby at_108) k) ?_
                show own_Fin p.tables e below _ (T31.setTop (mkF m 109 #[.val (.int p0), .val (.int p1), .val (.int (p0.toUInt32.toUInt16.toUInt32.toInt32)), .val (.int (p1 &&& (15 : Int32))), .val (.int (f1 (p0.toUInt32.toUInt16.toUInt32.toInt32))), .val (.int (1 : Int32)), .val (.int (1 : Int32))] [(.int (1 : Int32))]))
                refine own_by (fun _ k => XS.goto X31.here hx rfl (pc0 := 109) (pc' := 113) rfl (hb hby at_109) (by decide) (by decide) k) ?_
                show own_Fin p.tables e below _ (T31.setTop (mkF m 113 #[.val (.int p0), .val (.int p1), .val (.int (p0.toUInt32.toUInt16.toUInt32.toInt32)), .val (.int (p1 &&& (15 : Int32))), .val (.int (f1 (p0.toUInt32.toUInt16.toUInt32.toInt32))), .val (.int (1 : Int32)), .val (.int (1 : Int32))] [(.int (1 : Int32))]))
                have ef := (show f0 p0 p1 = (1 : Int32) from by unfold f0; rw [if_neg hc2, if_neg hc9, if_pos hc16, if_neg hc18, if_pos hc26, if_pos hc29, if_pos hc32])
                exact own_retN X31 hx (t := .boolean) Bd.returns hlk (by simp) (hb hby at_113) (by decide) (by decide) ⟨by rw [ef]; rfl, N31⟩
              · refine own_by (fun _ k => XS.icmpYes X31.here hx rfl (pc0 := 88) (pc' := 95) rfl (hb hby at_88) rfl (feq hc32).2 (by decide) (by decide) k) ?_
                show own_Fin p.tables e below _ (T31.setTop (mkF m 95 #[.val (.int p0), .val (.int p1), .val (.int (p0.toUInt32.toUInt16.toUInt32.toInt32)), .val (.int (p1 &&& (15 : Int32))), .val (.int (f1 (p0.toUInt32.toUInt16.toUInt32.toInt32))), .val (.int (1 : Int32)), .unset] []))
                refine own_by (fun _ k => XS.iconst X31.here hx rfl (hb hby at_95) k) ?_
                show own_Fin p.tables e below _ (T31.setTop (mkF m 96 #[.val (.int p0), .val (.int p1), .val (.int (p0.toUInt32.toUInt16.toUInt32.toInt32)), .val (.int (p1 &&& (15 : Int32))), .val (.int (f1 (p0.toUInt32.toUInt16.toUInt32.toInt32))), .val (.int (1 : Int32)), .unset] [(.int (0 : Int32))]))
                refine own_by (fun _ k => XS.istore X31.here hx rfl (hb hby at_96) rfl (l' := #[.val (.int p0), .val (.int p1), .val (.int (p0.toUInt32.toUInt16.toUInt32.toInt32)), .val (.int (p1 &&& (15 : Int32))), .val (.int (f1 (p0.toUInt32.toUInt16.toUInt32.toInt32))), .val (.int (1 : Int32)), .val (.int (0 : Int32))]) rfl k) ?_
                show own_Fin p.tables e below _ (T31.setTop (mkF m 98 #[.val (.int p0), .val (.int p1), .val (.int (p0.toUInt32.toUInt16.toUInt32.toInt32)), .val (.int (p1 &&& (15 : Int32))), .val (.int (f1 (p0.toUInt32.toUInt16.toUInt32.toInt32))), .val (.int (1 : Int32)), .val (.int (0 : Int32))] []))
                refine own_by (fun _ k => XS.iload X31.here hx rfl (hb hby at_98) rfl k) ?_
                show own_Fin p.tables e below _ (T31.setTop (mkF m 100 #[.val (.int p0), .val (.int p1), .val (.int (p0.toUInt32.toUInt16.toUInt32.toInt32)), .val (.int (p1 &&& (15 : Int32))), .val (.int (f1 (p0.toUInt32.toUInt16.toUInt32.toInt32))), .val (.int (1 : Int32)), .val (.int (0 : Int32))] [(.int (1 : Int32))]))
                refine own_by (fun _ k => XS.ifNo X31.here hx rfl (hb hby at_100) rfl ((if0 _ _).trans (feq (by decide)).1) k) ?_
                show own_Fin p.tables e below _ (T31.setTop (mkF m 103 #[.val (.int p0), .val (.int p1), .val (.int (p0.toUInt32.toUInt16.toUInt32.toInt32)), .val (.int (p1 &&& (15 : Int32))), .val (.int (f1 (p0.toUInt32.toUInt16.toUInt32.toInt32))), .val (.int (1 : Int32)), .val (.int (0 : Int32))] []))
                refine own_by (fun _ k => XS.iload X31.here hx rfl (hb hby at_103) rfl k) ?_
                show own_Fin p.tables e below _ (T31.setTop (mkF m 105 #[.val (.int p0), .val (.int p1), .val (.int (p0.toUInt32.toUInt16.toUInt32.toInt32)), .val (.int (p1 &&& (15 : Int32))), .val (.int (f1 (p0.toUInt32.toUInt16.toUInt32.toInt32))), .val (.int (1 : Int32)), .val (.int (0 : Int32))] [(.int (0 : Int32))]))
                refine own_by (fun _ k => XS.ifYes X31.here hx rfl (pc0 := 105) (pc' := 112) rfl (hb hby at_105) rfl ((if0 _ _).trans (teq (by decide)).1) (by decide) (by decide) k) ?_
                show own_Fin p.tables e below _ (T31.setTop (mkF m 112 #[.val (.int p0), .val (.int p1), .val (.int (p0.toUInt32.toUInt16.toUInt32.toInt32)), .val (.int (p1 &&& (15 : Int32))), .val (.int (f1 (p0.toUInt32.toUInt16.toUInt32.toInt32))), .val (.int (1 : Int32)), .val (.int (0 : Int32))] []))
                refine own_by (fun _ k => XS.iconst X31.here hx rfl (hb hby at_112) k) ?_
                show own_Fin p.tables e below _ (T31.setTop (mkF m 113 #[.val (.int p0), .val (.int p1), .val (.int (p0.toUInt32.toUInt16.toUInt32.toInt32)), .val (.int (p1 &&& (15 : Int32))), .val (.int (f1 (p0.toUInt32.toUInt16.toUInt32.toInt32))), .val (.int (1 : Int32)), .val (.int (0 : Int32))] [(.int (0 : Int32))]))
                have ef := (show f0 p0 p1 = (0 : Int32) from by unfold f0; rw [if_neg hc2, if_neg hc9, if_pos hc16, if_neg hc18, if_pos hc26, if_pos hc29, if_neg hc32])
                exact own_retN X31 hx (t := .boolean) Bd.returns hlk (by simp) (hb hby at_113) (by decide) (by decide) ⟨by rw [ef]; rfl, N31⟩
            · refine own_by (fun _ k => XS.icmpYes X28.here hx rfl (pc0 := 77) (pc' := 95) rfl (hb hby at_77) rfl (feq hc29).2 (by decide) (by decide) k) ?_
              show own_Fin p.tables e below _ (T28.setTop (mkF m 95 #[.val (.int p0), .val (.int p1), .val (.int (p0.toUInt32.toUInt16.toUInt32.toInt32)), .val (.int (p1 &&& (15 : Int32))), .val (.int (f1 (p0.toUInt32.toUInt16.toUInt32.toInt32))), .val (.int (1 : Int32)), .unset] []))
              refine own_by (fun _ k => XS.iconst X28.here hx rfl (hb hby at_95) k) ?_
              show own_Fin p.tables e below _ (T28.setTop (mkF m 96 #[.val (.int p0), .val (.int p1), .val (.int (p0.toUInt32.toUInt16.toUInt32.toInt32)), .val (.int (p1 &&& (15 : Int32))), .val (.int (f1 (p0.toUInt32.toUInt16.toUInt32.toInt32))), .val (.int (1 : Int32)), .unset] [(.int (0 : Int32))]))
              refine own_by (fun _ k => XS.istore X28.here hx rfl (hb hby at_96) rfl (l' := #[.val (.int p0), .val (.int p1), .val (.int (p0.toUInt32.toUInt16.toUInt32.toInt32)), .val (.int (p1 &&& (15 : Int32))), .val (.int (f1 (p0.toUInt32.toUInt16.toUInt32.toInt32))), .val (.int (1 : Int32)), .val (.int (0 : Int32))]) rfl k) ?_
              show own_Fin p.tables e below _ (T28.setTop (mkF m 98 #[.val (.int p0), .val (.int p1), .val (.int (p0.toUInt32.toUInt16.toUInt32.toInt32)), .val (.int (p1 &&& (15 : Int32))), .val (.int (f1 (p0.toUInt32.toUInt16.toUInt32.toInt32))), .val (.int (1 : Int32)), .val (.int (0 : Int32))] []))
              refine own_by (fun _ k => XS.iload X28.here hx rfl (hb hby at_98) rfl k) ?_
              show own_Fin p.tables e below _ (T28.setTop (mkF m 100 #[.val (.int p0), .val (.int p1), .val (.int (p0.toUInt32.toUInt16.toUInt32.toInt32)), .val (.int (p1 &&& (15 : Int32))), .val (.int (f1 (p0.toUInt32.toUInt16.toUInt32.toInt32))), .val (.int (1 : Int32)), .val (.int (0 : Int32))] [(.int (1 : Int32))]))
              refine own_by (fun _ k => XS.ifNo X28.here hx rfl (hb hby at_100) rfl ((if0 _ _).trans (feq (by decide)).1) k) ?_
              show own_Fin p.tables e below _ (T28.setTop (mkF m 103 #[.val (.int p0), .val (.int p1), .val (.int (p0.toUInt32.toUInt16.toUInt32.toInt32)), .val (.int (p1 &&& (15 : Int32))), .val (.int (f1 (p0.toUInt32.toUInt16.toUInt32.toInt32))), .val (.int (1 : Int32)), .val (.int (0 : Int32))] []))
              refine own_by (fun _ k => XS.iload X28.here hx rfl (hb hby at_103) rfl k) ?_
              show own_Fin p.tables e below _ (T28.setTop (mkF m 105 #[.val (.int p0), .val (.int p1), .val (.int (p0.toUInt32.toUInt16.toUInt32.toInt32)), .val (.int (p1 &&& (15 : Int32))), .val (.int (f1 (p0.toUInt32.toUInt16.toUInt32.toInt32))), .val (.int (1 : Int32)), .val (.int (0 : Int32))] [(.int (0 : Int32))]))
              refine own_by (fun _ k => XS.ifYes X28.here hx rfl (pc0 := 105) (pc' := 112) rfl (hb hby at_105) rfl ((if0 _ _).trans (teq (by decide)).1) (by decide) (by decide) k) ?_
              show own_Fin p.tables e below _ (T28.setTop (mkF m 112 #[.val (.int p0), .val (.int p1), .val (.int (p0.toUInt32.toUInt16.toUInt32.toInt32)), .val (.int (p1 &&& (15 : Int32))), .val (.int (f1 (p0.toUInt32.toUInt16.toUInt32.toInt32))), .val (.int (1 : Int32)), .val (.int (0 : Int32))] []))
              refine own_by (fun _ k => XS.iconst X28.here hx rfl (hb hby at_112) k) ?_
              show own_Fin p.tables e below _ (T28.setTop (mkF m 113 #[.val (.int p0), .val (.int p1), .val (.int (p0.toUInt32.toUInt16.toUInt32.toInt32)), .val (.int (p1 &&& (15 : Int32))), .val (.int (f1 (p0.toUInt32.toUInt16.toUInt32.toInt32))), .val (.int (1 : Int32)), .val (.int (0 : Int32))] [(.int (0 : Int32))]))
              have ef := (show f0 p0 p1 = (0 : Int32) from by unfold f0; rw [if_neg hc2, if_neg hc9, if_pos hc16, if_neg hc18, if_pos hc26, if_neg hc29])
              exact own_retN X28 hx (t := .boolean) Bd.returns hlk (by simp) (hb hby at_113) (by decide) (by decide) ⟨by rw [ef]; rfl, N28⟩
          · refine own_by (fun _ k => XS.icmpYes X25.here hx rfl (pc0 := 53) (pc' := 60) rfl (hb hby at_53) rfl (feq hc26).2 (by decide) (by decide) k) ?_
            show own_Fin p.tables e below _ (T25.setTop (mkF m 60 #[.val (.int p0), .val (.int p1), .val (.int (p0.toUInt32.toUInt16.toUInt32.toInt32)), .val (.int (p1 &&& (15 : Int32))), .val (.int (f1 (p0.toUInt32.toUInt16.toUInt32.toInt32))), .unset, .unset] []))
            refine own_by (fun _ k => XS.iconst X25.here hx rfl (hb hby at_60) k) ?_
            show own_Fin p.tables e below _ (T25.setTop (mkF m 61 #[.val (.int p0), .val (.int p1), .val (.int (p0.toUInt32.toUInt16.toUInt32.toInt32)), .val (.int (p1 &&& (15 : Int32))), .val (.int (f1 (p0.toUInt32.toUInt16.toUInt32.toInt32))), .unset, .unset] [(.int (0 : Int32))]))
            refine own_by (fun _ k => XS.istore X25.here hx rfl (hb hby at_61) rfl (l' := #[.val (.int p0), .val (.int p1), .val (.int (p0.toUInt32.toUInt16.toUInt32.toInt32)), .val (.int (p1 &&& (15 : Int32))), .val (.int (f1 (p0.toUInt32.toUInt16.toUInt32.toInt32))), .val (.int (0 : Int32)), .unset]) rfl k) ?_
            show own_Fin p.tables e below _ (T25.setTop (mkF m 63 #[.val (.int p0), .val (.int p1), .val (.int (p0.toUInt32.toUInt16.toUInt32.toInt32)), .val (.int (p1 &&& (15 : Int32))), .val (.int (f1 (p0.toUInt32.toUInt16.toUInt32.toInt32))), .val (.int (0 : Int32)), .unset] []))
            refine own_by (fun _ k => XS.goto X25.here hx rfl (pc0 := 63) (pc' := 69) rfl (hb hby at_63) (by decide) (by decide) k) ?_
            show own_Fin p.tables e below _ (T25.setTop (mkF m 69 #[.val (.int p0), .val (.int p1), .val (.int (p0.toUInt32.toUInt16.toUInt32.toInt32)), .val (.int (p1 &&& (15 : Int32))), .val (.int (f1 (p0.toUInt32.toUInt16.toUInt32.toInt32))), .val (.int (0 : Int32)), .unset] []))
            refine own_by (fun _ k => XS.iloadN X25.here hx rfl (hb hby at_69) rfl k) ?_
            show own_Fin p.tables e below _ (T25.setTop (mkF m 70 #[.val (.int p0), .val (.int p1), .val (.int (p0.toUInt32.toUInt16.toUInt32.toInt32)), .val (.int (p1 &&& (15 : Int32))), .val (.int (f1 (p0.toUInt32.toUInt16.toUInt32.toInt32))), .val (.int (0 : Int32)), .unset] [(.int (p1 &&& (15 : Int32)))]))
            obtain ⟨_, _, ⟨T33, L33, k33, n33⟩, -, X33, ⟨Lc33, hQ33, l33, y33, z33⟩, st33⟩ := Jvm.LawKit.callS X25 hx (y := (⟨"com/example/sealwatch/sealwatch/PercentEncodingHexDigitPinLaw", "upperDigit", "(I)C"⟩ : MethodName)) hown (mvT hZ (hw _ (List.mem_of_getElem? (i := 4) rfl))) (mvT hZ (hw _ (List.mem_of_getElem? (i := 5) rfl))) (mvT hZ (hw _ (List.mem_of_getElem? (i := 6) rfl))) (mvT hZ (hw _ (List.mem_of_getElem? (i := 7) rfl))) (by decide) (backOf (W := 0) (rm2 l Z a0 hw [] (p1 &&& (15 : Int32)) h0 n0 Z0 ) hZ (hw _ (List.mem_of_getElem? (i := 7) rfl)) (hw _ (List.mem_of_getElem? (i := 6) rfl)) (by decide) (by decide)) (g := (mkF m 70 #[.val (.int p0), .val (.int p1), .val (.int (p0.toUInt32.toUInt16.toUInt32.toInt32)), .val (.int (p1 &&& (15 : Int32))), .val (.int (f1 (p0.toUInt32.toUInt16.toUInt32.toInt32))), .val (.int (0 : Int32)), .unset] [(.int (p1 &&& (15 : Int32)))])) rfl (by rw [hml]; rfl) (argsL := [(.int (p1 &&& (15 : Int32)))]) (rest := []) (lenOf pd__I_C rfl) rfl (by show 2 * 0 + _ ≤ _; exact Nat.le_of_eq rfl) (hb hby at_70) (fun _ _ => ⟨rfl, e25, (by decide : 0 + 0 ≤ _), (by decide : 0 + 0 ≤ _)⟩)
            dsimp only [Pt.U, Pt.locs, Pt.cells, Pt.slots] at X33 l33 y33 z33 st33 hQ33
            subst l33 y33 z33
            obtain ⟨rfl, N33q, e33⟩ := hQ33
            have N33 := Fr.app N25 N33q
            refine own_by st33 ?_
            show own_Fin p.tables e below _ (T33.setTop (mkF m 73 #[.val (.int p0), .val (.int p1), .val (.int (p0.toUInt32.toUInt16.toUInt32.toInt32)), .val (.int (p1 &&& (15 : Int32))), .val (.int (f1 (p0.toUInt32.toUInt16.toUInt32.toInt32))), .val (.int (0 : Int32)), .unset] [(.int (f2 (p1 &&& (15 : Int32))))]))
            obtain ⟨_, _, ⟨T34, L34, k34, n34⟩, -, X34, ⟨Lc34, hQ34, l34, y34, z34⟩, st34⟩ := Jvm.LawKit.callS X33 hx (y := (⟨"com/example/sealwatch/sealwatch/PercentEncoding", "hexDigit", "(C)I"⟩ : MethodName)) hown (mvT hZ (hw _ (List.mem_of_getElem? (i := 0) rfl))) (mvT hZ (hw _ (List.mem_of_getElem? (i := 1) rfl))) (mvT hZ (hw _ (List.mem_of_getElem? (i := 2) rfl))) (mvT hZ (hw _ (List.mem_of_getElem? (i := 3) rfl))) (by decide) (backOf (W := 0) (rm1 l Z a0 hw [] (f2 (p1 &&& (15 : Int32))) h0 n0 Z0 ) hZ (hw _ (List.mem_of_getElem? (i := 3) rfl)) (hw _ (List.mem_of_getElem? (i := 2) rfl)) (by decide) (by decide)) (g := (mkF m 73 #[.val (.int p0), .val (.int p1), .val (.int (p0.toUInt32.toUInt16.toUInt32.toInt32)), .val (.int (p1 &&& (15 : Int32))), .val (.int (f1 (p0.toUInt32.toUInt16.toUInt32.toInt32))), .val (.int (0 : Int32)), .unset] [(.int (f2 (p1 &&& (15 : Int32))))])) rfl (by rw [hml]; rfl) (argsL := [(.int (f2 (p1 &&& (15 : Int32))))]) (rest := []) (lenOf pd__C_I rfl) rfl (by show 2 * 0 + _ ≤ _; exact Nat.le_of_eq rfl) (hb hby at_73) (fun _ _ => ⟨rfl, e33, (by decide : 0 + 0 ≤ _), (by decide : 0 + 0 ≤ _)⟩)
            dsimp only [Pt.U, Pt.locs, Pt.cells, Pt.slots] at X34 l34 y34 z34 st34 hQ34
            subst l34 y34 z34
            obtain ⟨rfl, N34q, e34⟩ := hQ34
            have N34 := Fr.app N33 N34q
            refine own_by st34 ?_
            show own_Fin p.tables e below _ (T34.setTop (mkF m 76 #[.val (.int p0), .val (.int p1), .val (.int (p0.toUInt32.toUInt16.toUInt32.toInt32)), .val (.int (p1 &&& (15 : Int32))), .val (.int (f1 (p0.toUInt32.toUInt16.toUInt32.toInt32))), .val (.int (0 : Int32)), .unset] [(.int (f1 (f2 (p1 &&& (15 : Int32)))))]))
            refine own_by (fun _ k => XS.iloadN X34.here hx rfl (hb hby at_76) rfl k) ?_
            show own_Fin p.tables e below _ (T34.setTop (mkF m 77 #[.val (.int p0), .val (.int p1), .val (.int (p0.toUInt32.toUInt16.toUInt32.toInt32)), .val (.int (p1 &&& (15 : Int32))), .val (.int (f1 (p0.toUInt32.toUInt16.toUInt32.toInt32))), .val (.int (0 : Int32)), .unset] [(.int (p1 &&& (15 : Int32))), (.int (f1 (f2 (p1 &&& (15 : Int32)))))]))
            by_cases hc35 : (f1 (f2 (p1 &&& (15 : Int32)))) = (p1 &&& (15 : Int32))
            · refine own_by (fun _ k => XS.icmpNo X34.here hx rfl (hb hby at_77) rfl (teq hc35).2 k) ?_
              show own_Fin p.tables e below _ (T34.setTop (mkF m 80 #[.val (.int p0), .val (.int p1), .val (.int (p0.toUInt32.toUInt16.toUInt32.toInt32)), .val (.int (p1 &&& (15 : Int32))), .val (.int (f1 (p0.toUInt32.toUInt16.toUInt32.toInt32))), .val (.int (0 : Int32)), .unset] []))
              refine own_by (fun _ k => XS.iloadN X34.here hx rfl (hb hby at_80) rfl k) ?_
              show own_Fin p.tables e below _ (T34.setTop (mkF m 81 #[.val (.int p0), .val (.int p1), .val (.int (p0.toUInt32.toUInt16.toUInt32.toInt32)), .val (.int (p1 &&& (15 : Int32))), .val (.int (f1 (p0.toUInt32.toUInt16.toUInt32.toInt32))), .val (.int (0 : Int32)), .unset] [(.int (p1 &&& (15 : Int32)))]))
              obtain ⟨_, _, ⟨T36, L36, k36, n36⟩, -, X36, ⟨Lc36, hQ36, l36, y36, z36⟩, st36⟩ := Jvm.LawKit.callS X34 hx (y := (⟨"com/example/sealwatch/sealwatch/PercentEncodingHexDigitPinLaw", "lowerDigit", "(I)C"⟩ : MethodName)) hown (mvT hZ (hw _ (List.mem_of_getElem? (i := 8) rfl))) (mvT hZ (hw _ (List.mem_of_getElem? (i := 9) rfl))) (mvT hZ (hw _ (List.mem_of_getElem? (i := 6) rfl))) (mvT hZ (hw _ (List.mem_of_getElem? (i := 10) rfl))) (by decide) (backOf (W := 0) (rm3 l Z a0 hw [] (p1 &&& (15 : Int32)) h0 n0 Z0 ) hZ (hw _ (List.mem_of_getElem? (i := 10) rfl)) (hw _ (List.mem_of_getElem? (i := 6) rfl)) (by decide) (by decide)) (g := (mkF m 81 #[.val (.int p0), .val (.int p1), .val (.int (p0.toUInt32.toUInt16.toUInt32.toInt32)), .val (.int (p1 &&& (15 : Int32))), .val (.int (f1 (p0.toUInt32.toUInt16.toUInt32.toInt32))), .val (.int (0 : Int32)), .unset] [(.int (p1 &&& (15 : Int32)))])) rfl (by rw [hml]; rfl) (argsL := [(.int (p1 &&& (15 : Int32)))]) (rest := []) (lenOf pd__I_C rfl) rfl (by show 2 * 0 + _ ≤ _; exact Nat.le_of_eq rfl) (hb hby at_81) (fun _ _ => ⟨rfl, e34, (by decide : 0 + 0 ≤ _), (by decide : 0 + 0 ≤ _)⟩)
              dsimp only [Pt.U, Pt.locs, Pt.cells, Pt.slots] at X36 l36 y36 z36 st36 hQ36
              subst l36 y36 z36
              obtain ⟨rfl, N36q, e36⟩ := hQ36
              have N36 := Fr.app N34 N36q
              refine own_by st36 ?_
              show own_Fin p.tables e below _ (T36.setTop (mkF m 84 #[.val (.int p0), .val (.int p1), .val (.int (p0.toUInt32.toUInt16.toUInt32.toInt32)), .val (.int (p1 &&& (15 : Int32))), .val (.int (f1 (p0.toUInt32.toUInt16.toUInt32.toInt32))), .val (.int (0 : Int32)), .unset] [(.int (f3 (p1 &&& (15 : Int32))))]))
              obtain ⟨_, _, ⟨T37, L37, k37, n37⟩, -, X37, ⟨Lc37, hQ37, l37, y37, z37⟩, st37⟩ := Jvm.LawKit.callS X36 hx (y := (⟨"com/example/sealwatch/sealwatch/PercentEncoding", "hexDigit", "(C)I"⟩ : MethodName)) hown (mvT hZ (hw _ (List.mem_of_getElem? (i := 0) rfl))) (mvT hZ (hw _ (List.mem_of_getElem? (i := 1) rfl))) (mvT hZ (hw _ (List.mem_of_getElem? (i := 2) rfl))) (mvT hZ (hw _ (List.mem_of_getElem? (i := 3) rfl))) (by decide) (backOf (W := 0) (rm1 l Z a0 hw [] (f3 (p1 &&& (15 : Int32))) h0 n0 Z0 ) hZ (hw _ (List.mem_of_getElem? (i := 3) rfl)) (hw _ (List.mem_of_getElem? (i := 2) rfl)) (by decide) (by decide)) (g := (mkF m 84 #[.val (.int p0), .val (.int p1), .val (.int (p0.toUInt32.toUInt16.toUInt32.toInt32)), .val (.int (p1 &&& (15 : Int32))), .val (.int (f1 (p0.toUInt32.toUInt16.toUInt32.toInt32))), .val (.int (0 : Int32)), .unset] [(.int (f3 (p1 &&& (15 : Int32))))])) rfl (by rw [hml]; rfl) (argsL := [(.int (f3 (p1 &&& (15 : Int32))))]) (rest := []) (lenOf pd__C_I rfl) rfl (by show 2 * 0 + _ ≤ _; exact Nat.le_of_eq rfl) (hb hby at_84) (fun _ _ => ⟨rfl, e36, (by decide : 0 + 0 ≤ _), (by decide : 0 + 0 ≤ _)⟩)
              dsimp only [Pt.U, Pt.locs, Pt.cells, Pt.slots] at X37 l37 y37 z37 st37 hQ37
              subst l37 y37 z37
              obtain ⟨rfl, N37q, e37⟩ := hQ37
              have N37 := Fr.app N36 N37q
              refine own_by st37 ?_
              show own_Fin p.tables e below _ (T37.setTop (mkF m 87 #[.val (.int p0), .val (.int p1), .val (.int (p0.toUInt32.toUInt16.toUInt32.toInt32)), .val (.int (p1 &&& (15 : Int32))), .val (.int (f1 (p0.toUInt32.toUInt16.toUInt32.toInt32))), .val (.int (0 : Int32)), .unset] [(.int (f1 (f3 (p1 &&& (15 : Int32)))))]))
              refine own_by (fun _ k => XS.iloadN X37.here hx rfl (hb hby at_87) rfl k) ?_
              show own_Fin p.tables e below _ (T37.setTop (mkF m 88 #[.val (.int p0), .val (.int p1), .val (.int (p0.toUInt32.toUInt16.toUInt32.toInt32)), .val (.int (p1 &&& (15 : Int32))), .val (.int (f1 (p0.toUInt32.toUInt16.toUInt32.toInt32))), .val (.int (0 : Int32)), .unset] [(.int (p1 &&& (15 : Int32))), (.int (f1 (f3 (p1 &&& (15 : Int32)))))]))
              by_cases hc38 : (f1 (f3 (p1 &&& (15 : Int32)))) = (p1 &&& (15 : Int32))
              · refine own_by (fun _ k => XS.icmpNo X37.here hx rfl (hb hby at_88) rfl (teq hc38).2 k) ?_
                show own_Fin p.tables e below _ (T37.setTop (mkF m 91 #[.val (.int p0), .val (.int p1), .val (.int (p0.toUInt32.toUInt16.toUInt32.toInt32)), .val (.int (p1 &&& (15 : Int32))), .val (.int (f1 (p0.toUInt32.toUInt16.toUInt32.toInt32))), .val (.int (0 : Int32)), .unset] []))
                refine own_by (fun _ k => XS.iconst X37.here hx rfl (hb hby at_91) k) ?_
                show own_Fin p.tables e below _ (T37.setTop (mkF m 92 #[.val (.int p0), .val (.int p1), .val (.int (p0.toUInt32.toUInt16.toUInt32.toInt32)), .val (.int (p1 &&& (15 : Int32))), .val (.int (f1 (p0.toUInt32.toUInt16.toUInt32.toInt32))), .val (.int (0 : Int32)), .unset] [(.int (1 : Int32))]))
                refine own_by (fun _ k => XS.goto X37.here hx rfl (pc0 := 92) (pc' := 96) rfl (hb hby at_92) (by decide) (by decide) k) ?_
                show own_Fin p.tables e below _ (T37.setTop (mkF m 96 #[.val (.int p0), .val (.int p1), .val (.int (p0.toUInt32.toUInt16.toUInt32.toInt32)), .val (.int (p1 &&& (15 : Int32))), .val (.int (f1 (p0.toUInt32.toUInt16.toUInt32.toInt32))), .val (.int (0 : Int32)), .unset] [(.int (1 : Int32))]))
                refine own_by (fun _ k => XS.istore X37.here hx rfl (hb hby at_96) rfl (l' := #[.val (.int p0), .val (.int p1), .val (.int (p0.toUInt32.toUInt16.toUInt32.toInt32)), .val (.int (p1 &&& (15 : Int32))), .val (.int (f1 (p0.toUInt32.toUInt16.toUInt32.toInt32))), .val (.int (0 : Int32)), .val (.int (1 : Int32))]) rfl k) ?_
                show own_Fin p.tables e below _ (T37.setTop (mkF m 98 #[.val (.int p0), .val (.int p1), .val (.int (p0.toUInt32.toUInt16.toUInt32.toInt32)), .val (.int (p1 &&& (15 : Int32))), .val (.int (f1 (p0.toUInt32.toUInt16.toUInt32.toInt32))), .val (.int (0 : Int32)), .val (.int (1 : Int32))] []))
                refine own_by (fun _ k => XS.iload X37.here hx rfl (hb hby at_98) rfl k) ?_
                show own_Fin p.tables e below _ (T37.setTop (mkF m 100 #[.val (.int p0), .val (.int p1), .val (.int (p0.toUInt32.toUInt16.toUInt32.toInt32)), .val (.int (p1 &&& (15 : Int32))), .val (.int (f1 (p0.toUInt32.toUInt16.toUInt32.toInt32))), .val (.int (0 : Int32)), .val (.int (1 : Int32))] [(.int (0 : Int32))]))
                refine own_by (fun _ k => XS.ifYes X37.here hx rfl (pc0 := 100) (pc' := 112) rfl (hb hby at_100) rfl ((if0 _ _).trans (teq (by decide)).1) (by decide) (by decide) k) ?_
                show own_Fin p.tables e below _ (T37.setTop (mkF m 112 #[.val (.int p0), .val (.int p1), .val (.int (p0.toUInt32.toUInt16.toUInt32.toInt32)), .val (.int (p1 &&& (15 : Int32))), .val (.int (f1 (p0.toUInt32.toUInt16.toUInt32.toInt32))), .val (.int (0 : Int32)), .val (.int (1 : Int32))] []))
                refine own_by (fun _ k => XS.iconst X37.here hx rfl (hb hby at_112) k) ?_
                show own_Fin p.tables e below _ (T37.setTop (mkF m 113 #[.val (.int p0), .val (.int p1), .val (.int (p0.toUInt32.toUInt16.toUInt32.toInt32)), .val (.int (p1 &&& (15 : Int32))), .val (.int (f1 (p0.toUInt32.toUInt16.toUInt32.toInt32))), .val (.int (0 : Int32)), .val (.int (1 : Int32))] [(.int (0 : Int32))]))
                have ef := (show f0 p0 p1 = (0 : Int32) from by unfold f0; rw [if_neg hc2, if_neg hc9, if_pos hc16, if_neg hc18, if_neg hc26, if_pos hc35, if_pos hc38])
                exact own_retN X37 hx (t := .boolean) Bd.returns hlk (by simp) (hb hby at_113) (by decide) (by decide) ⟨by rw [ef]; rfl, N37⟩
              · refine own_by (fun _ k => XS.icmpYes X37.here hx rfl (pc0 := 88) (pc' := 95) rfl (hb hby at_88) rfl (feq hc38).2 (by decide) (by decide) k) ?_
                show own_Fin p.tables e below _ (T37.setTop (mkF m 95 #[.val (.int p0), .val (.int p1), .val (.int (p0.toUInt32.toUInt16.toUInt32.toInt32)), .val (.int (p1 &&& (15 : Int32))), .val (.int (f1 (p0.toUInt32.toUInt16.toUInt32.toInt32))), .val (.int (0 : Int32)), .unset] []))
                refine own_by (fun _ k => XS.iconst X37.here hx rfl (hb hby at_95) k) ?_
                show own_Fin p.tables e below _ (T37.setTop (mkF m 96 #[.val (.int p0), .val (.int p1), .val (.int (p0.toUInt32.toUInt16.toUInt32.toInt32)), .val (.int (p1 &&& (15 : Int32))), .val (.int (f1 (p0.toUInt32.toUInt16.toUInt32.toInt32))), .val (.int (0 : Int32)), .unset] [(.int (0 : Int32))]))
                refine own_by (fun _ k => XS.istore X37.here hx rfl (hb hby at_96) rfl (l' := #[.val (.int p0), .val (.int p1), .val (.int (p0.toUInt32.toUInt16.toUInt32.toInt32)), .val (.int (p1 &&& (15 : Int32))), .val (.int (f1 (p0.toUInt32.toUInt16.toUInt32.toInt32))), .val (.int (0 : Int32)), .val (.int (0 : Int32))]) rfl k) ?_
                show own_Fin p.tables e below _ (T37.setTop (mkF m 98 #[.val (.int p0), .val (.int p1), .val (.int (p0.toUInt32.toUInt16.toUInt32.toInt32)), .val (.int (p1 &&& (15 : Int32))), .val (.int (f1 (p0.toUInt32.toUInt16.toUInt32.toInt32))), .val (.int (0 : Int32)), .val (.int (0 : Int32))] []))
                refine own_by (fun _ k => XS.iload X37.here hx rfl (hb hby at_98) rfl k) ?_
                show own_Fin p.tables e below _ (T37.setTop (mkF m 100 #[.val (.int p0), .val (.int p1), .val (.int (p0.toUInt32.toUInt16.toUInt32.toInt32)), .val (.int (p1 &&& (15 : Int32))), .val (.int (f1 (p0.toUInt32.toUInt16.toUInt32.toInt32))), .val (.int (0 : Int32)), .val (.int (0 : Int32))] [(.int (0 : Int32))]))
                refine own_by (fun _ k => XS.ifYes X37.here hx rfl (pc0 := 100) (pc' := 112) rfl (hb hby at_100) rfl ((if0 _ _).trans (teq (by decide)).1) (by decide) (by decide) k) ?_
                show own_Fin p.tables e below _ (T37.setTop (mkF m 112 #[.val (.int p0), .val (.int p1), .val (.int (p0.toUInt32.toUInt16.toUInt32.toInt32)), .val (.int (p1 &&& (15 : Int32))), .val (.int (f1 (p0.toUInt32.toUInt16.toUInt32.toInt32))), .val (.int (0 : Int32)), .val (.int (0 : Int32))] []))
                refine own_by (fun _ k => XS.iconst X37.here hx rfl (hb hby at_112) k) ?_
                show own_Fin p.tables e below _ (T37.setTop (mkF m 113 #[.val (.int p0), .val (.int p1), .val (.int (p0.toUInt32.toUInt16.toUInt32.toInt32)), .val (.int (p1 &&& (15 : Int32))), .val (.int (f1 (p0.toUInt32.toUInt16.toUInt32.toInt32))), .val (.int (0 : Int32)), .val (.int (0 : Int32))] [(.int (0 : Int32))]))
                have ef := (show f0 p0 p1 = (0 : Int32) from by unfold f0; rw [if_neg hc2, if_neg hc9, if_pos hc16, if_neg hc18, if_neg hc26, if_pos hc35, if_neg hc38])
                exact own_retN X37 hx (t := .boolean) Bd.returns hlk (by simp) (hb hby at_113) (by decide) (by decide) ⟨by rw [ef]; rfl, N37⟩
            · refine own_by (fun _ k => XS.icmpYes X34.here hx rfl (pc0 := 77) (pc' := 95) rfl (hb hby at_77) rfl (feq hc35).2 (by decide) (by decide) k) ?_
              show own_Fin p.tables e below _ (T34.setTop (mkF m 95 #[.val (.int p0), .val (.int p1), .val (.int (p0.toUInt32.toUInt16.toUInt32.toInt32)), .val (.int (p1 &&& (15 : Int32))), .val (.int (f1 (p0.toUInt32.toUInt16.toUInt32.toInt32))), .val (.int (0 : Int32)), .unset] []))
              refine own_by (fun _ k => XS.iconst X34.here hx rfl (hb hby at_95) k) ?_
              show own_Fin p.tables e below _ (T34.setTop (mkF m 96 #[.val (.int p0), .val (.int p1), .val (.int (p0.toUInt32.toUInt16.toUInt32.toInt32)), .val (.int (p1 &&& (15 : Int32))), .val (.int (f1 (p0.toUInt32.toUInt16.toUInt32.toInt32))), .val (.int (0 : Int32)), .unset] [(.int (0 : Int32))]))
              refine own_by (fun _ k => XS.istore X34.here hx rfl (hb hby at_96) rfl (l' := #[.val (.int p0), .val (.int p1), .val (.int (p0.toUInt32.toUInt16.toUInt32.toInt32)), .val (.int (p1 &&& (15 : Int32))), .val (.int (f1 (p0.toUInt32.toUInt16.toUInt32.toInt32))), .val (.int (0 : Int32)), .val (.int (0 : Int32))]) rfl k) ?_
              show own_Fin p.tables e below _ (T34.setTop (mkF m 98 #[.val (.int p0), .val (.int p1), .val (.int (p0.toUInt32.toUInt16.toUInt32.toInt32)), .val (.int (p1 &&& (15 : Int32))), .val (.int (f1 (p0.toUInt32.toUInt16.toUInt32.toInt32))), .val (.int (0 : Int32)), .val (.int (0 : Int32))] []))
              refine own_by (fun _ k => XS.iload X34.here hx rfl (hb hby at_98) rfl k) ?_
              show own_Fin p.tables e below _ (T34.setTop (mkF m 100 #[.val (.int p0), .val (.int p1), .val (.int (p0.toUInt32.toUInt16.toUInt32.toInt32)), .val (.int (p1 &&& (15 : Int32))), .val (.int (f1 (p0.toUInt32.toUInt16.toUInt32.toInt32))), .val (.int (0 : Int32)), .val (.int (0 : Int32))] [(.int (0 : Int32))]))
              refine own_by (fun _ k => XS.ifYes X34.here hx rfl (pc0 := 100) (pc' := 112) rfl (hb hby at_100) rfl ((if0 _ _).trans (teq (by decide)).1) (by decide) (by decide) k) ?_
              show own_Fin p.tables e below _ (T34.setTop (mkF m 112 #[.val (.int p0), .val (.int p1), .val (.int (p0.toUInt32.toUInt16.toUInt32.toInt32)), .val (.int (p1 &&& (15 : Int32))), .val (.int (f1 (p0.toUInt32.toUInt16.toUInt32.toInt32))), .val (.int (0 : Int32)), .val (.int (0 : Int32))] []))
              refine own_by (fun _ k => XS.iconst X34.here hx rfl (hb hby at_112) k) ?_
              show own_Fin p.tables e below _ (T34.setTop (mkF m 113 #[.val (.int p0), .val (.int p1), .val (.int (p0.toUInt32.toUInt16.toUInt32.toInt32)), .val (.int (p1 &&& (15 : Int32))), .val (.int (f1 (p0.toUInt32.toUInt16.toUInt32.toInt32))), .val (.int (0 : Int32)), .val (.int (0 : Int32))] [(.int (0 : Int32))]))
              have ef := (show f0 p0 p1 = (0 : Int32) from by unfold f0; rw [if_neg hc2, if_neg hc9, if_pos hc16, if_neg hc18, if_neg hc26, if_neg hc35])
              exact own_retN X34 hx (t := .boolean) Bd.returns hlk (by simp) (hb hby at_113) (by decide) (by decide) ⟨by rw [ef]; rfl, N34⟩
      · refine own_by (fun _ k => XS.icmpYes X1.here hx rfl (pc0 := 35) (pc' := 66) rfl (hb hby at_35) rfl (flt hc16).2.1 (by decide) (by decide) k) ?_
        show own_Fin p.tables e below _ (T1.setTop (mkF m 66 #[.val (.int p0), .val (.int p1), .val (.int (p0.toUInt32.toUInt16.toUInt32.toInt32)), .val (.int (p1 &&& (15 : Int32))), .val (.int (f1 (p0.toUInt32.toUInt16.toUInt32.toInt32))), .unset, .unset] []))
        refine own_by (fun _ k => XS.iconst X1.here hx rfl (hb hby at_66) k) ?_
        show own_Fin p.tables e below _ (T1.setTop (mkF m 67 #[.val (.int p0), .val (.int p1), .val (.int (p0.toUInt32.toUInt16.toUInt32.toInt32)), .val (.int (p1 &&& (15 : Int32))), .val (.int (f1 (p0.toUInt32.toUInt16.toUInt32.toInt32))), .unset, .unset] [(.int (0 : Int32))]))
        refine own_by (fun _ k => XS.istore X1.here hx rfl (hb hby at_67) rfl (l' := #[.val (.int p0), .val (.int p1), .val (.int (p0.toUInt32.toUInt16.toUInt32.toInt32)), .val (.int (p1 &&& (15 : Int32))), .val (.int (f1 (p0.toUInt32.toUInt16.toUInt32.toInt32))), .val (.int (0 : Int32)), .unset]) rfl k) ?_
        show own_Fin p.tables e below _ (T1.setTop (mkF m 69 #[.val (.int p0), .val (.int p1), .val (.int (p0.toUInt32.toUInt16.toUInt32.toInt32)), .val (.int (p1 &&& (15 : Int32))), .val (.int (f1 (p0.toUInt32.toUInt16.toUInt32.toInt32))), .val (.int (0 : Int32)), .unset] []))
        refine own_by (fun _ k => XS.iloadN X1.here hx rfl (hb hby at_69) rfl k) ?_
        show own_Fin p.tables e below _ (T1.setTop (mkF m 70 #[.val (.int p0), .val (.int p1), .val (.int (p0.toUInt32.toUInt16.toUInt32.toInt32)), .val (.int (p1 &&& (15 : Int32))), .val (.int (f1 (p0.toUInt32.toUInt16.toUInt32.toInt32))), .val (.int (0 : Int32)), .unset] [(.int (p1 &&& (15 : Int32)))]))
        obtain ⟨_, _, ⟨T39, L39, k39, n39⟩, -, X39, ⟨Lc39, hQ39, l39, y39, z39⟩, st39⟩ := Jvm.LawKit.callS X1 hx (y := (⟨"com/example/sealwatch/sealwatch/PercentEncodingHexDigitPinLaw", "upperDigit", "(I)C"⟩ : MethodName)) hown (mvT hZ (hw _ (List.mem_of_getElem? (i := 4) rfl))) (mvT hZ (hw _ (List.mem_of_getElem? (i := 5) rfl))) (mvT hZ (hw _ (List.mem_of_getElem? (i := 6) rfl))) (mvT hZ (hw _ (List.mem_of_getElem? (i := 7) rfl))) (by decide) (backOf (W := 0) (rm2 l Z a0 hw [] (p1 &&& (15 : Int32)) h0 n0 Z0 ) hZ (hw _ (List.mem_of_getElem? (i := 7) rfl)) (hw _ (List.mem_of_getElem? (i := 6) rfl)) (by decide) (by decide)) (g := (mkF m 70 #[.val (.int p0), .val (.int p1), .val (.int (p0.toUInt32.toUInt16.toUInt32.toInt32)), .val (.int (p1 &&& (15 : Int32))), .val (.int (f1 (p0.toUInt32.toUInt16.toUInt32.toInt32))), .val (.int (0 : Int32)), .unset] [(.int (p1 &&& (15 : Int32)))])) rfl (by rw [hml]; rfl) (argsL := [(.int (p1 &&& (15 : Int32)))]) (rest := []) (lenOf pd__I_C rfl) rfl (by show 2 * 0 + _ ≤ _; exact Nat.le_of_eq rfl) (hb hby at_70) (fun _ _ => ⟨rfl, e1, (by decide : 0 + 0 ≤ _), (by decide : 0 + 0 ≤ _)⟩)
        dsimp only [Pt.U, Pt.locs, Pt.cells, Pt.slots] at X39 l39 y39 z39 st39 hQ39
        subst l39 y39 z39
        obtain ⟨rfl, N39q, e39⟩ := hQ39
        have N39 := Fr.app N1 N39q
        refine own_by st39 ?_
        show own_Fin p.tables e below _ (T39.setTop (mkF m 73 #[.val (.int p0), .val (.int p1), .val (.int (p0.toUInt32.toUInt16.toUInt32.toInt32)), .val (.int (p1 &&& (15 : Int32))), .val (.int (f1 (p0.toUInt32.toUInt16.toUInt32.toInt32))), .val (.int (0 : Int32)), .unset] [(.int (f2 (p1 &&& (15 : Int32))))]))
        obtain ⟨_, _, ⟨T40, L40, k40, n40⟩, -, X40, ⟨Lc40, hQ40, l40, y40, z40⟩, st40⟩ := Jvm.LawKit.callS X39 hx (y := (⟨"com/example/sealwatch/sealwatch/PercentEncoding", "hexDigit", "(C)I"⟩ : MethodName)) hown (mvT hZ (hw _ (List.mem_of_getElem? (i := 0) rfl))) (mvT hZ (hw _ (List.mem_of_getElem? (i := 1) rfl))) (mvT hZ (hw _ (List.mem_of_getElem? (i := 2) rfl))) (mvT hZ (hw _ (List.mem_of_getElem? (i := 3) rfl))) (by decide) (backOf (W := 0) (rm1 l Z a0 hw [] (f2 (p1 &&& (15 : Int32))) h0 n0 Z0 ) hZ (hw _ (List.mem_of_getElem? (i := 3) rfl)) (hw _ (List.mem_of_getElem? (i := 2) rfl)) (by decide) (by decide)) (g := (mkF m 73 #[.val (.int p0), .val (.int p1), .val (.int (p0.toUInt32.toUInt16.toUInt32.toInt32)), .val (.int (p1 &&& (15 : Int32))), .val (.int (f1 (p0.toUInt32.toUInt16.toUInt32.toInt32))), .val (.int (0 : Int32)), .unset] [(.int (f2 (p1 &&& (15 : Int32))))])) rfl (by rw [hml]; rfl) (argsL := [(.int (f2 (p1 &&& (15 : Int32))))]) (rest := []) (lenOf pd__C_I rfl) rfl (by show 2 * 0 + _ ≤ _; exact Nat.le_of_eq rfl) (hb hby at_73) (fun _ _ => ⟨rfl, e39, (by decide : 0 + 0 ≤ _), (by decide : 0 + 0 ≤ _)⟩)
        dsimp only [Pt.U, Pt.locs, Pt.cells, Pt.slots] at X40 l40 y40 z40 st40 hQ40
        subst l40 y40 z40
        obtain ⟨rfl, N40q, e40⟩ := hQ40
        have N40 := Fr.app N39 N40q
        refine own_by st40 ?_
        show own_Fin p.tables e below _ (T40.setTop (mkF m 76 #[.val (.int p0), .val (.int p1), .val (.int (p0.toUInt32.toUInt16.toUInt32.toInt32)), .val (.int (p1 &&& (15 : Int32))), .val (.int (f1 (p0.toUInt32.toUInt16.toUInt32.toInt32))), .val (.int (0 : Int32)), .unset] [(.int (f1 (f2 (p1 &&& (15 : Int32)))))]))
        refine own_by (fun _ k => XS.iloadN X40.here hx rfl (hb hby at_76) rfl k) ?_
        show own_Fin p.tables e below _ (T40.setTop (mkF m 77 #[.val (.int p0), .val (.int p1), .val (.int (p0.toUInt32.toUInt16.toUInt32.toInt32)), .val (.int (p1 &&& (15 : Int32))), .val (.int (f1 (p0.toUInt32.toUInt16.toUInt32.toInt32))), .val (.int (0 : Int32)), .unset] [(.int (p1 &&& (15 : Int32))), (.int (f1 (f2 (p1 &&& (15 : Int32)))))]))
        by_cases hc41 : (f1 (f2 (p1 &&& (15 : Int32)))) = (p1 &&& (15 : Int32))
        · refine own_by (fun _ k => XS.icmpNo X40.here hx rfl (hb hby at_77) rfl (teq hc41).2 k) ?_
          show own_Fin p.tables e below _ (T40.setTop (mkF m 80 #[.val (.int p0), .val (.int p1), .val (.int (p0.toUInt32.toUInt16.toUInt32.toInt32)), .val (.int (p1 &&& (15 : Int32))), .val (.int (f1 (p0.toUInt32.toUInt16.toUInt32.toInt32))), .val (.int (0 : Int32)), .unset] []))
          refine own_by (fun _ k => XS.iloadN X40.here hx rfl (hb hby at_80) rfl k) ?_
          show own_Fin p.tables e below _ (T40.setTop (mkF m 81 #[.val (.int p0), .val (.int p1), .val (.int (p0.toUInt32.toUInt16.toUInt32.toInt32)), .val (.int (p1 &&& (15 : Int32))), .val (.int (f1 (p0.toUInt32.toUInt16.toUInt32.toInt32))), .val (.int (0 : Int32)), .unset] [(.int (p1 &&& (15 : Int32)))]))
          obtain ⟨_, _, ⟨T42, L42, k42, n42⟩, -, X42, ⟨Lc42, hQ42, l42, y42, z42⟩, st42⟩ := Jvm.LawKit.callS X40 hx (y := (⟨"com/example/sealwatch/sealwatch/PercentEncodingHexDigitPinLaw", "lowerDigit", "(I)C"⟩ : MethodName)) hown (mvT hZ (hw _ (List.mem_of_getElem? (i := 8) rfl))) (mvT hZ (hw _ (List.mem_of_getElem? (i := 9) rfl))) (mvT hZ (hw _ (List.mem_of_getElem? (i := 6) rfl))) (mvT hZ (hw _ (List.mem_of_getElem? (i := 10) rfl))) (by decide) (backOf (W := 0) (rm3 l Z a0 hw [] (p1 &&& (15 : Int32)) h0 n0 Z0 ) hZ (hw _ (List.mem_of_getElem? (i := 10) rfl)) (hw _ (List.mem_of_getElem? (i := 6) rfl)) (by decide) (by decide)) (g := (mkF m 81 #[.val (.int p0), .val (.int p1), .val (.int (p0.toUInt32.toUInt16.toUInt32.toInt32)), .val (.int (p1 &&& (15 : Int32))), .val (.int (f1 (p0.toUInt32.toUInt16.toUInt32.toInt32))), .val (.int (0 : Int32)), .unset] [(.int (p1 &&& (15 : Int32)))])) rfl (by rw [hml]; rfl) (argsL := [(.int (p1 &&& (15 : Int32)))]) (rest := []) (lenOf pd__I_C rfl) rfl (by show 2 * 0 + _ ≤ _; exact Nat.le_of_eq rfl) (hb hby at_81) (fun _ _ => ⟨rfl, e40, (by decide : 0 + 0 ≤ _), (by decide : 0 + 0 ≤ _)⟩)
          dsimp only [Pt.U, Pt.locs, Pt.cells, Pt.slots] at X42 l42 y42 z42 st42 hQ42
          subst l42 y42 z42
          obtain ⟨rfl, N42q, e42⟩ := hQ42
          have N42 := Fr.app N40 N42q
          refine own_by st42 ?_
          show own_Fin p.tables e below _ (T42.setTop (mkF m 84 #[.val (.int p0), .val (.int p1), .val (.int (p0.toUInt32.toUInt16.toUInt32.toInt32)), .val (.int (p1 &&& (15 : Int32))), .val (.int (f1 (p0.toUInt32.toUInt16.toUInt32.toInt32))), .val (.int (0 : Int32)), .unset] [(.int (f3 (p1 &&& (15 : Int32))))]))
          obtain ⟨_, _, ⟨T43, L43, k43, n43⟩, -, X43, ⟨Lc43, hQ43, l43, y43, z43⟩, st43⟩ := Jvm.LawKit.callS X42 hx (y := (⟨"com/example/sealwatch/sealwatch/PercentEncoding", "hexDigit", "(C)I"⟩ : MethodName)) hown (mvT hZ (hw _ (List.mem_of_getElem? (i := 0) rfl))) (mvT hZ (hw _ (List.mem_of_getElem? (i := 1) rfl))) (mvT hZ (hw _ (List.mem_of_getElem? (i := 2) rfl))) (mvT hZ (hw _ (List.mem_of_getElem? (i := 3) rfl))) (by decide) (backOf (W := 0) (rm1 l Z a0 hw [] (f3 (p1 &&& (15 : Int32))) h0 n0 Z0 ) hZ (hw _ (List.mem_of_getElem? (i := 3) rfl)) (hw _ (List.mem_of_getElem? (i := 2) rfl)) (by decide) (by decide)) (g := (mkF m 84 #[.val (.int p0), .val (.int p1), .val (.int (p0.toUInt32.toUInt16.toUInt32.toInt32)), .val (.int (p1 &&& (15 : Int32))), .val (.int (f1 (p0.toUInt32.toUInt16.toUInt32.toInt32))), .val (.int (0 : Int32)), .unset] [(.int (f3 (p1 &&& (15 : Int32))))])) rfl (by rw [hml]; rfl) (argsL := [(.int (f3 (p1 &&& (15 : Int32))))]) (rest := []) (lenOf pd__C_I rfl) rfl (by show 2 * 0 + _ ≤ _; exact Nat.le_of_eq rfl) (hb hby at_84) (fun _ _ => ⟨rfl, e42, (by decide : 0 + 0 ≤ _), (by decide : 0 + 0 ≤ _)⟩)
          dsimp only [Pt.U, Pt.locs, Pt.cells, Pt.slots] at X43 l43 y43 z43 st43 hQ43
          subst l43 y43 z43
          obtain ⟨rfl, N43q, e43⟩ := hQ43
          have N43 := Fr.app N42 N43q
          refine own_by st43 ?_
          show own_Fin p.tables e below _ (T43.setTop (mkF m 87 #[.val (.int p0), .val (.int p1), .val (.int (p0.toUInt32.toUInt16.toUInt32.toInt32)), .val (.int (p1 &&& (15 : Int32))), .val (.int (f1 (p0.toUInt32.toUInt16.toUInt32.toInt32))), .val (.int (0 : Int32)), .unset] [(.int (f1 (f3 (p1 &&& (15 : Int32)))))]))
          refine own_by (fun _ k => XS.iloadN X43.here hx rfl (hb hby at_87) rfl k) ?_
          show own_Fin p.tables e below _ (T43.setTop (mkF m 88 #[.val (.int p0), .val (.int p1), .val (.int (p0.toUInt32.toUInt16.toUInt32.toInt32)), .val (.int (p1 &&& (15 : Int32))), .val (.int (f1 (p0.toUInt32.toUInt16.toUInt32.toInt32))), .val (.int (0 : Int32)), .unset] [(.int (p1 &&& (15 : Int32))), (.int (f1 (f3 (p1 &&& (15 : Int32)))))]))
          by_cases hc44 : (f1 (f3 (p1 &&& (15 : Int32)))) = (p1 &&& (15 : Int32))
          · refine own_by (fun _ k => XS.icmpNo X43.here hx rfl (hb hby at_88) rfl (teq hc44).2 k) ?_
            show own_Fin p.tables e below _ (T43.setTop (mkF m 91 #[.val (.int p0), .val (.int p1), .val (.int (p0.toUInt32.toUInt16.toUInt32.toInt32)), .val (.int (p1 &&& (15 : Int32))), .val (.int (f1 (p0.toUInt32.toUInt16.toUInt32.toInt32))), .val (.int (0 : Int32)), .unset] []))
            refine own_by (fun _ k => XS.iconst X43.here hx rfl (hb hby at_91) k) ?_
            show own_Fin p.tables e below _ (T43.setTop (mkF m 92 #[.val (.int p0), .val (.int p1), .val (.int (p0.toUInt32.toUInt16.toUInt32.toInt32)), .val (.int (p1 &&& (15 : Int32))), .val (.int (f1 (p0.toUInt32.toUInt16.toUInt32.toInt32))), .val (.int (0 : Int32)), .unset] [(.int (1 : Int32))]))
            refine own_by (fun _ k => XS.goto X43.here hx rfl (pc0 := 92) (pc' := 96) rfl (hb hby at_92) (by decide) (by decide) k) ?_
            show own_Fin p.tables e below _ (T43.setTop (mkF m 96 #[.val (.int p0), .val (.int p1), .val (.int (p0.toUInt32.toUInt16.toUInt32.toInt32)), .val (.int (p1 &&& (15 : Int32))), .val (.int (f1 (p0.toUInt32.toUInt16.toUInt32.toInt32))), .val (.int (0 : Int32)), .unset] [(.int (1 : Int32))]))
            refine own_by (fun _ k => XS.istore X43.here hx rfl (hb hby at_96) rfl (l' := #[.val (.int p0), .val (.int p1), .val (.int (p0.toUInt32.toUInt16.toUInt32.toInt32)), .val (.int (p1 &&& (15 : Int32))), .val (.int (f1 (p0.toUInt32.toUInt16.toUInt32.toInt32))), .val (.int (0 : Int32)), .val (.int (1 : Int32))]) rfl k) ?_
            show own_Fin p.tables e below _ (T43.setTop (mkF m 98 #[.val (.int p0), .val (.int p1), .val (.int (p0.toUInt32.toUInt16.toUInt32.toInt32)), .val (.int (p1 &&& (15 : Int32))), .val (.int (f1 (p0.toUInt32.toUInt16.toUInt32.toInt32))), .val (.int (0 : Int32)), .val (.int (1 : Int32))] []))
            refine own_by (fun _ k => XS.iload X43.here hx rfl (hb hby at_98) rfl k) ?_
            show own_Fin p.tables e below _ (T43.setTop (mkF m 100 #[.val (.int p0), .val (.int p1), .val (.int (p0.toUInt32.toUInt16.toUInt32.toInt32)), .val (.int (p1 &&& (15 : Int32))), .val (.int (f1 (p0.toUInt32.toUInt16.toUInt32.toInt32))), .val (.int (0 : Int32)), .val (.int (1 : Int32))] [(.int (0 : Int32))]))
            refine own_by (fun _ k => XS.ifYes X43.here hx rfl (pc0 := 100) (pc' := 112) rfl (hb hby at_100) rfl ((if0 _ _).trans (teq (by decide)).1) (by decide) (by decide) k) ?_
            show own_Fin p.tables e below _ (T43.setTop (mkF m 112 #[.val (.int p0), .val (.int p1), .val (.int (p0.toUInt32.toUInt16.toUInt32.toInt32)), .val (.int (p1 &&& (15 : Int32))), .val (.int (f1 (p0.toUInt32.toUInt16.toUInt32.toInt32))), .val (.int (0 : Int32)), .val (.int (1 : Int32))] []))
            refine own_by (fun _ k => XS.iconst X43.here hx rfl (hb hby at_112) k) ?_
            show own_Fin p.tables e below _ (T43.setTop (mkF m 113 #[.val (.int p0), .val (.int p1), .val (.int (p0.toUInt32.toUInt16.toUInt32.toInt32)), .val (.int (p1 &&& (15 : Int32))), .val (.int (f1 (p0.toUInt32.toUInt16.toUInt32.toInt32))), .val (.int (0 : Int32)), .val (.int (1 : Int32))] [(.int (0 : Int32))]))
            have ef := (show f0 p0 p1 = (0 : Int32) from by unfold f0; rw [if_neg hc2, if_neg hc9, if_neg hc16, if_pos hc41, if_pos hc44])
            exact own_retN X43 hx (t := .boolean) Bd.returns hlk (by simp) (hb hby at_113) (by decide) (by decide) ⟨by rw [ef]; rfl, N43⟩
          · refine own_by (fun _ k => XS.icmpYes X43.here hx rfl (pc0 := 88) (pc' := 95) rfl (hb hby at_88) rfl (feq hc44).2 (by decide) (by decide) k) ?_
            show own_Fin p.tables e below _ (T43.setTop (mkF m 95 #[.val (.int p0), .val (.int p1), .val (.int (p0.toUInt32.toUInt16.toUInt32.toInt32)), .val (.int (p1 &&& (15 : Int32))), .val (.int (f1 (p0.toUInt32.toUInt16.toUInt32.toInt32))), .val (.int (0 : Int32)), .unset] []))
            refine own_by (fun _ k => XS.iconst X43.here hx rfl (hb hby at_95) k) ?_
            show own_Fin p.tables e below _ (T43.setTop (mkF m 96 #[.val (.int p0), .val (.int p1), .val (.int (p0.toUInt32.toUInt16.toUInt32.toInt32)), .val (.int (p1 &&& (15 : Int32))), .val (.int (f1 (p0.toUInt32.toUInt16.toUInt32.toInt32))), .val (.int (0 : Int32)), .unset] [(.int (0 : Int32))]))
            refine own_by (fun _ k => XS.istore X43.here hx rfl (hb hby at_96) rfl (l' := #[.val (.int p0), .val (.int p1), .val (.int (p0.toUInt32.toUInt16.toUInt32.toInt32)), .val (.int (p1 &&& (15 : Int32))), .val (.int (f1 (p0.toUInt32.toUInt16.toUInt32.toInt32))), .val (.int (0 : Int32)), .val (.int (0 : Int32))]) rfl k) ?_
            show own_Fin p.tables e below _ (T43.setTop (mkF m 98 #[.val (.int p0), .val (.int p1), .val (.int (p0.toUInt32.toUInt16.toUInt32.toInt32)), .val (.int (p1 &&& (15 : Int32))), .val (.int (f1 (p0.toUInt32.toUInt16.toUInt32.toInt32))), .val (.int (0 : Int32)), .val (.int (0 : Int32))] []))
            refine own_by (fun _ k => XS.iload X43.here hx rfl (hb hby at_98) rfl k) ?_
            show own_Fin p.tables e below _ (T43.setTop (mkF m 100 #[.val (.int p0), .val (.int p1), .val (.int (p0.toUInt32.toUInt16.toUInt32.toInt32)), .val (.int (p1 &&& (15 : Int32))), .val (.int (f1 (p0.toUInt32.toUInt16.toUInt32.toInt32))), .val (.int (0 : Int32)), .val (.int (0 : Int32))] [(.int (0 : Int32))]))
            refine own_by (fun _ k => XS.ifYes X43.here hx rfl (pc0 := 100) (pc' := 112) rfl (hb hby at_100) rfl ((if0 _ _).trans (teq (by decide)).1) (by decide) (by decide) k) ?_
            show own_Fin p.tables e below _ (T43.setTop (mkF m 112 #[.val (.int p0), .val (.int p1), .val (.int (p0.toUInt32.toUInt16.toUInt32.toInt32)), .val (.int (p1 &&& (15 : Int32))), .val (.int (f1 (p0.toUInt32.toUInt16.toUInt32.toInt32))), .val (.int (0 : Int32)), .val (.int (0 : Int32))] []))
            refine own_by (fun _ k => XS.iconst X43.here hx rfl (hb hby at_112) k) ?_
            show own_Fin p.tables e below _ (T43.setTop (mkF m 113 #[.val (.int p0), .val (.int p1), .val (.int (p0.toUInt32.toUInt16.toUInt32.toInt32)), .val (.int (p1 &&& (15 : Int32))), .val (.int (f1 (p0.toUInt32.toUInt16.toUInt32.toInt32))), .val (.int (0 : Int32)), .val (.int (0 : Int32))] [(.int (0 : Int32))]))
            have ef := (show f0 p0 p1 = (0 : Int32) from by unfold f0; rw [if_neg hc2, if_neg hc9, if_neg hc16, if_pos hc41, if_neg hc44])
            exact own_retN X43 hx (t := .boolean) Bd.returns hlk (by simp) (hb hby at_113) (by decide) (by decide) ⟨by rw [ef]; rfl, N43⟩
        · refine own_by (fun _ k => XS.icmpYes X40.here hx rfl (pc0 := 77) (pc' := 95) rfl (hb hby at_77) rfl (feq hc41).2 (by decide) (by decide) k) ?_
          show own_Fin p.tables e below _ (T40.setTop (mkF m 95 #[.val (.int p0), .val (.int p1), .val (.int (p0.toUInt32.toUInt16.toUInt32.toInt32)), .val (.int (p1 &&& (15 : Int32))), .val (.int (f1 (p0.toUInt32.toUInt16.toUInt32.toInt32))), .val (.int (0 : Int32)), .unset] []))
          refine own_by (fun _ k => XS.iconst X40.here hx rfl (hb hby at_95) k) ?_
          show own_Fin p.tables e below _ (T40.setTop (mkF m 96 #[.val (.int p0), .val (.int p1), .val (.int (p0.toUInt32.toUInt16.toUInt32.toInt32)), .val (.int (p1 &&& (15 : Int32))), .val (.int (f1 (p0.toUInt32.toUInt16.toUInt32.toInt32))), .val (.int (0 : Int32)), .unset] [(.int (0 : Int32))]))
          refine own_by (fun _ k => XS.istore X40.here hx rfl (hb hby at_96) rfl (l' := #[.val (.int p0), .val (.int p1), .val (.int (p0.toUInt32.toUInt16.toUInt32.toInt32)), .val (.int (p1 &&& (15 : Int32))), .val (.int (f1 (p0.toUInt32.toUInt16.toUInt32.toInt32))), .val (.int (0 : Int32)), .val (.int (0 : Int32))]) rfl k) ?_
          show own_Fin p.tables e below _ (T40.setTop (mkF m 98 #[.val (.int p0), .val (.int p1), .val (.int (p0.toUInt32.toUInt16.toUInt32.toInt32)), .val (.int (p1 &&& (15 : Int32))), .val (.int (f1 (p0.toUInt32.toUInt16.toUInt32.toInt32))), .val (.int (0 : Int32)), .val (.int (0 : Int32))] []))
          refine own_by (fun _ k => XS.iload X40.here hx rfl (hb hby at_98) rfl k) ?_
          show own_Fin p.tables e below _ (T40.setTop (mkF m 100 #[.val (.int p0), .val (.int p1), .val (.int (p0.toUInt32.toUInt16.toUInt32.toInt32)), .val (.int (p1 &&& (15 : Int32))), .val (.int (f1 (p0.toUInt32.toUInt16.toUInt32.toInt32))), .val (.int (0 : Int32)), .val (.int (0 : Int32))] [(.int (0 : Int32))]))
          refine own_by (fun _ k => XS.ifYes X40.here hx rfl (pc0 := 100) (pc' := 112) rfl (hb hby at_100) rfl ((if0 _ _).trans (teq (by decide)).1) (by decide) (by decide) k) ?_
          show own_Fin p.tables e below _ (T40.setTop (mkF m 112 #[.val (.int p0), .val (.int p1), .val (.int (p0.toUInt32.toUInt16.toUInt32.toInt32)), .val (.int (p1 &&& (15 : Int32))), .val (.int (f1 (p0.toUInt32.toUInt16.toUInt32.toInt32))), .val (.int (0 : Int32)), .val (.int (0 : Int32))] []))
          refine own_by (fun _ k => XS.iconst X40.here hx rfl (hb hby at_112) k) ?_
          show own_Fin p.tables e below _ (T40.setTop (mkF m 113 #[.val (.int p0), .val (.int p1), .val (.int (p0.toUInt32.toUInt16.toUInt32.toInt32)), .val (.int (p1 &&& (15 : Int32))), .val (.int (f1 (p0.toUInt32.toUInt16.toUInt32.toInt32))), .val (.int (0 : Int32)), .val (.int (0 : Int32))] [(.int (0 : Int32))]))
          have ef := (show f0 p0 p1 = (0 : Int32) from by unfold f0; rw [if_neg hc2, if_neg hc9, if_neg hc16, if_neg hc41])
          exact own_retN X40 hx (t := .boolean) Bd.returns hlk (by simp) (hb hby at_113) (by decide) (by decide) ⟨by rw [ef]; rfl, N40⟩
theorem own_fin (n : Nat) (v : Int32) (h0 : 0 ≤ v.toInt) (h1 : v.toInt < n) (hn : n ≤ 65536) : ∃ k : Fin n, v = Int32.ofNat k.1 := by
  refine ⟨⟨v.toInt.toNat, by omega⟩, ?_⟩
  apply Int32.toInt_inj.mp
  rw [Int32.toInt_ofNat_of_lt (by show v.toInt.toNat < 2 ^ 31; omega)]
  show v.toInt = ((v.toInt.toNat : Nat) : Int)
  omega
theorem own_up : ∀ k : Fin 16, f1 (f2 (Int32.ofNat k.1)) = Int32.ofNat k.1 ∧ f1 (f3 (Int32.ofNat k.1)) = Int32.ofNat k.1 := by decide +kernel
theorem own_rb : ∀ k : Fin 128, f1 (Int32.ofNat k.1) = -1 ∨ (¬ f1 (Int32.ofNat k.1) < 0 ∧ f1 (Int32.ofNat k.1) < 16 ∧ (Int32.ofNat k.1 = f2 (f1 (Int32.ofNat k.1)) ∨ Int32.ofNat k.1 = f3 (f1 (Int32.ofNat k.1)))) := by decide +kernel
theorem own_r (c : Int32) (h0 : 0 ≤ c.toInt) : f1 c = -1 ∨ (¬ f1 c < 0 ∧ f1 c < 16 ∧ (c = f2 (f1 c) ∨ c = f3 (f1 c))) := by
  by_cases h1 : c.toInt < 128
  · obtain ⟨i, rfl⟩ := own_fin 128 c h0 h1 (by decide)
    exact own_rb i
  · left
    unfold f1
    simp only [own_lt, show (97 : Int32).toInt = 97 from by decide, show (102 : Int32).toInt = 102 from by decide, show (65 : Int32).toInt = 65 from by decide, show (70 : Int32).toInt = 70 from by decide, show (48 : Int32).toInt = 48 from by decide, show (57 : Int32).toInt = 57 from by decide]
    repeat' split
    all_goals first | rfl | (exfalso; omega)
theorem own_law (p0 p1 : Int32) : f0 p0 p1 = 1 := by
  have h := c_i2c p0
  have m := c_mask p1 15 4 (by decide) (by decide)
  unfold f0
  generalize p0.toUInt32.toUInt16.toUInt32.toInt32 = c at *
  generalize p1 &&& 15 = v at *
  obtain ⟨i, rfl⟩ := own_fin 16 v (by omega) (by omega) (by decide)
  obtain ⟨u1, u2⟩ := own_up i
  have r := own_r c (by omega)
  simp only [u1, u2, if_true]
  rcases r with r | ⟨r1, r2, r3 | r3⟩
  · rw [if_pos r]
  · simp only [if_neg r1, if_pos r2, if_pos r3, ite_self]
  · simp only [if_neg r1, if_pos r2, if_pos r3, ite_self]
set_option maxRecDepth 65536 in
set_option maxHeartbeats 40000000 in
theorem comes_1 {Post : Tables → Env → Array Value → State → Outcome → State → Prop} (hpost : ∀ tb e args s v u, (limb_1_1.after args s (.returned v) u = true ∧ limb_1_2.after args s (.returned v) u = true ∧ True) → FrameEnd s (.returned v) u (Jvm.fieldLocs frame_1_writes args s ++ Jvm.arrayLocs frame_1_arrays args s ++ Jvm.staticLocs frame_1_statics s) 0 0 → Post tb e args s (.returned v) u) :
    ArmFor flags0 classFile x code maxLocals ret World_1 tables_1 room_1 Calls_1 rest_1 Pre_1 Post := by
  intro l hfl _ _ p e ha hc hk s m args below hf hA hF happ hP
  obtain ⟨hcalls, hrest, hpre⟩ := hP
  obtain ⟨-, -, -, hnamed, -, -, -, hat⟩ := (Spec.applies_iff hf).mp happ
  obtain ⟨hg, hn⟩ := and_e (Cond.before_iff.mp (show (Jvm.Cond.and given_1 narrow_1).before args s = true from hpre))
  obtain ⟨c0, r0⟩ := and_e hg
  obtain ⟨c1, r1⟩ := and_e r0
  obtain ⟨w0, w1, rfl⟩ : ∃ w0 w1 : Value, args = #[w0, w1] := by
    have hs : args.size = 2 := by simpa [Cond.value, given_1] using c0
    obtain ⟨L⟩ := args
    match L, hs with
    | [w0, w1], _ => exact ⟨w0, w1, rfl⟩
  have hw := fun d (hd : d ∈ tables_1) => atoms_spec (ws := Jvm.Cond.code x code maxLocals ret :: tables_1) hat d (List.mem_cons_of_mem _ hd)
  obtain ⟨i0, ei0⟩ := is_v c1
  obtain rfl : w0 = (.int i0) := Option.some.inj ei0
  obtain ⟨i1, ei1⟩ := is_v r1
  obtain rfl : w1 = (.int i1) := Option.some.inj ei1
  obtain ⟨n, o, h1, h2, h3, _, L, rfl, ⟨rfl, N⟩, hq⟩ := rm0 l s _ hw tables_1 i0 i1 s.heap s.heap.size (Nat.le_refl _)  p e ha hc hk s m _ below hf ((Spec.applies_iff_loose hf).mp happ).1 ⟨rfl, State.Warmed39.refl s, rfl⟩ trivial
  refine ⟨n, _, h1, h2, h3, hpost _ _ _ _ _ _ ⟨Cond.after_iff.mpr rfl, Cond.after_iff.mpr (eq_i res_at (Term.int_eval (1)) (congrArg Value.int (own_law i0 i1))), trivial⟩ ⟨hq.1, hq.2.1, (hq.2.2.sift fun y hy => Or.inr (N y hy)).mono (by decide) (by decide)⟩⟩
theorem main_1_1 : Claimed_1_1 := comes_1 fun _ _ _ _ _ _ h hF => ⟨h.1, hF⟩
theorem main_1_2 : Claimed_1_2 := comes_1 fun _ _ _ _ _ _ h hF => ⟨h.2.1, hF⟩
end Jvm.Pilot.@@N@@
namespace Jvm.Pilot.@@N@@
open Jvm Jvm.ClassFile Sem Op Lib Jvm.Free Jvm.Stand Jvm.Pilot.@@N@@.Jvm.D
/-! MADE BY PROGRAM (witnessworld.py) out of the Statement's table words and the real class files: 9 classes; the members and pool entries that the words name. The judged class is class 1, her method 3. -/
namespace start1
open Jvm.ClassFile
def u (s : String) : CpInfo := .utf8 (stringToUtf16 s)
/-- a pool by its gaps: so many unusable entries, then the entry; so many at the end -/
def gap : Nat → List CpInfo → List CpInfo
  | 0, r => r
  | n + 1, r => .unusable :: gap n r
def poolList (es : List (Nat × CpInfo)) (last : Nat) : List CpInfo := es.foldr (fun e r => gap e.1 (e.2 :: r)) (gap last [])
def pool (es : List (Nat × CpInfo)) (last : Nat) : Array CpInfo := ⟨poolList es last⟩
def fileOf (pool : Array CpInfo) (this : Nat) (attrs : Array Attribute := #[]) (ms : Array MethodInfo := #[]) (fl : Nat := 33) (sup : Nat := 0) (ifs : Array Nat := #[]) (fds : Array FieldInfo := #[]) : ClassFile where
  minorVersion := 0
  majorVersion := 65
  constantPool := pool
  accessFlags := fl
  thisClass := this
  superClass := sup
  interfaces := ifs
  fields := fds
  methods := ms
  attributes := attrs
def plain (name : String) (sup : Option ClassId) : Class where
  name := name
  kind := .ordinary
  loader := none
  accessFlags := 33
  super := sup
  interfaces := #[]
  cf := none
  fields := #[]
  methods := #[]
  instanceTypes := #[]
  staticTypes := #[]
  resolved := #[]
  callSites := []
  init := .initialized
  statics := none
  mirror := none

def pool0 : Array CpInfo := pool [(5, u "<init>"), (0, u "()V"), (1, .class_ 10), (1, u "java/lang/Object")] 113

def k0m0 : Method := { name := "<init>", desc := "()V", sig := { parameters := [], returnType := none }, accessFlags := 1, code := none }
/-- java/lang/Object -/
def k0 : Class := { plain "java/lang/Object" none with
  accessFlags := 33
  interfaces := #[]
  cf := some (fileOf pool0 8 #[] #[{ accessFlags := 1, nameIndex := 5, descriptorIndex := 6, attributes := #[] }] 33 0 #[] #[])
  fields := #[]
  methods := #[k0m0]
  instanceTypes := #[]
  staticTypes := #[]
  resolved := Array.replicate 124 none
  statics := none }

def pool1 : Array CpInfo := pool [(2, .class_ 4), (1, u "java/lang/Object"), (0, u "<init>"), (0, u "()V"), (0, .methodref 8 9), (0, .class_ 10), (0, .nameAndType 11 12), (0, u "com/example/sealwatch/sealwatch/PercentEncoding"), (0, u "hexDigit"), (0, u "(C)I"), (0, .methodref 14 15), (0, .class_ 16), (0, .nameAndType 17 18), (0, u "com/example/sealwatch/sealwatch/PercentEncodingHexDigitPinLaw"), (0, u "upperDigit"), (0, u "(I)C"), (0, .methodref 14 20), (0, .nameAndType 21 18), (0, u "lowerDigit"), (3, u "law"), (0, u "(II)Z")] 2

def k1m0 : Method := { name := "<init>", desc := "()V", sig := { parameters := [], returnType := none }, accessFlags := 2, code := none }
def k1c1 : Code := { maxStack := 3, maxLocals := 1, code := method_2_code, exceptionTable := #[], attributes := #[] }
def k1m1 : Method := { name := "upperDigit", desc := "(I)C", sig := { parameters := [.int], returnType := some .char }, accessFlags := 10, code := some k1c1 }
def k1c2 : Code := { maxStack := 3, maxLocals := 1, code := method_3_code, exceptionTable := #[], attributes := #[] }
def k1m2 : Method := { name := "lowerDigit", desc := "(I)C", sig := { parameters := [.int], returnType := some .char }, accessFlags := 10, code := some k1c2 }
def k1c3 : Code := { maxStack := 2, maxLocals := 7, code := code, exceptionTable := #[], attributes := #[] }
def k1m3 : Method := { name := "law", desc := "(II)Z", sig := { parameters := [.int, .int], returnType := some .boolean }, accessFlags := 9, code := some k1c3 }
/-- com/example/sealwatch/sealwatch/PercentEncodingHexDigitPinLaw -/
def k1 : Class := { plain "com/example/sealwatch/sealwatch/PercentEncodingHexDigitPinLaw" (some 0) with
  accessFlags := 49
  interfaces := #[]
  cf := some (fileOf pool1 14 #[] #[{ accessFlags := 2, nameIndex := 5, descriptorIndex := 6, attributes := #[] }, { accessFlags := 10, nameIndex := 17, descriptorIndex := 18, attributes := #[] }, { accessFlags := 10, nameIndex := 21, descriptorIndex := 18, attributes := #[] }, { accessFlags := 9, nameIndex := 25, descriptorIndex := 26, attributes := #[] }] 49 2 #[] #[])
  fields := #[]
  methods := #[k1m0, k1m1, k1m2, k1m3]
  instanceTypes := #[]
  staticTypes := #[]
  resolved := Array.replicate 29 none
  statics := none }

def pool2 : Array CpInfo := pool [(2, .class_ 4), (1, u "java/lang/Object"), (0, u "<init>"), (0, u "()V"), (7, .class_ 16), (1, u "com/example/sealwatch/sealwatch/PercentEncoding"), (17, .class_ 36), (1, u "com/example/sealwatch/sealwatch/PercentEncoding$ByteSet"), (6, u "HEX_DIGITS"), (0, u "[C"), (22, u "hexDigit"), (0, u "(C)I")] 52

def k2m0 : Method := { name := "<init>", desc := "()V", sig := { parameters := [], returnType := none }, accessFlags := 2, code := none }
def k2c1 : Code := { maxStack := 2, maxLocals := 1, code := prog_98_method_8_code, exceptionTable := #[], attributes := #[] }
def k2m1 : Method := { name := "hexDigit", desc := "(C)I", sig := { parameters := [.char], returnType := some .int }, accessFlags := 8, code := some k2c1 }
/-- com/example/sealwatch/sealwatch/PercentEncoding -/
def k2 : Class := { plain "com/example/sealwatch/sealwatch/PercentEncoding" (some 0) with
  accessFlags := 48
  interfaces := #[]
  cf := some (fileOf pool2 14 #[.nestMembers #[34]] #[{ accessFlags := 2, nameIndex := 5, descriptorIndex := 6, attributes := #[] }, { accessFlags := 8, nameIndex := 67, descriptorIndex := 68, attributes := #[] }] 48 2 #[] #[{ accessFlags := 26, nameIndex := 43, descriptorIndex := 44, attributes := #[] }])
  fields := #[{ name := "HEX_DIGITS", type := (.array .char), accessFlags := 26, slot := 0, constantValue := 0 }]
  methods := #[k2m0, k2m1]
  instanceTypes := #[]
  staticTypes := #[(.array .char)]
  resolved := Array.replicate 121 none
  statics := none }

def pool3 : Array CpInfo := pool [(1, u "java/lang/Cloneable"), (0, .class_ 1), (0, u "java/lang/Object"), (0, .class_ 3)] 3

/-- java/lang/Cloneable -/
def k3 : Class := { plain "java/lang/Cloneable" (some 0) with
  accessFlags := 1537
  interfaces := #[]
  cf := some (fileOf pool3 2 #[] #[] 1537 4 #[] #[])
  fields := #[]
  methods := #[]
  instanceTypes := #[]
  staticTypes := #[]
  resolved := Array.replicate 8 none
  statics := none }

def pool4 : Array CpInfo := pool [(1, u "java/io/Serializable"), (0, .class_ 1), (0, u "java/lang/Object"), (0, .class_ 3)] 3

/-- java/io/Serializable -/
def k4 : Class := { plain "java/io/Serializable" (some 0) with
  accessFlags := 1537
  interfaces := #[]
  cf := some (fileOf pool4 2 #[] #[] 1537 4 #[] #[])
  fields := #[]
  methods := #[]
  instanceTypes := #[]
  staticTypes := #[]
  resolved := Array.replicate 8 none
  statics := none }

/-- the primitive byte -/
def k5 : Class := { plain "byte" none with kind := .primitive 'B', accessFlags := 0x411 }
/-- [B -/
def k6 : Class := { plain "[B" (some 0) with kind := .array 5 .byte, interfaces := #[3, 4], accessFlags := 1041 }

/-- the primitive int -/
def k7 : Class := { plain "int" none with kind := .primitive 'I', accessFlags := 0x411 }
/-- [I -/
def k8 : Class := { plain "[I" (some 0) with kind := .array 7 .int, interfaces := #[3, 4], accessFlags := 1041 }

def heap : Heap := #[]
def classes : Array Class := #[k0, k1, k2, k3, k4, k5, k6, k7, k8]
def interned : List (Array UInt16 × Addr) := []
def slotsUsed : Nat := 0
def theMethod : MethodId := ⟨1, 3⟩
def args0 : Array Value := #[.int 5, .int 7]
def aboutOver (below : List Frame) : State where
  vm := { classes := classes, interned := interned.toArray }
  heap := heap
  slotsUsed := slotsUsed
  threads := #[{ frames := .invoking theMethod args0 :: below }]
def below0 : List Frame := [.native { method := ⟨0, 0⟩, args := #[] }]
def about1 : State := aboutOver below0
def p0 : Program := .bare "" "" ""
def e0 : Env := launch0.env 0 0 0
theorem w_frames : about1.frames = Frame.invoking theMethod args0 :: below0 := rfl
set_option maxRecDepth 65536 in
theorem w_args : argsFit about1.vm theMethod args0 = true := by decide +kernel
set_option maxRecDepth 65536 in
theorem w_heap : heapFits about1 = true := by decide +kernel
set_option maxRecDepth 65536 in
theorem w_runnable : about1.curStatus? = some .runnable := by decide +kernel
set_option maxRecDepth 65536 in
theorem w_alone : about1.alone = true := by decide +kernel
set_option maxRecDepth 65536 in
theorem w_named : about1.methodNamed? x = some theMethod := by decide +kernel
set_option maxRecDepth 65536 in
theorem w_hears : about1.hears theMethod below0 = true := by decide +kernel
set_option maxRecDepth 65536 in
theorem w_ripe : about1.ripe theMethod args0 below0 = true := by decide +kernel
theorem w_running : about1.status = .running := rfl
set_option maxRecDepth 65536 in
theorem w_room : about1.hasRoom e0.platform room_1 = true :=
  launch0.hasRoom_least _ room_1 (by decide +kernel) (by decide +kernel) (by decide +kernel) (by decide +kernel) (by decide +kernel) (by decide +kernel)
theorem allAtoms_all (ts : List Jvm.Cond) (a : Array Jvm.Value) (st : Jvm.State) : (allAtoms ts).before a st = ts.all (fun c => c.before a st) := by
  induction ts with
  | nil => rfl
  | cons c t ih =>
    show (Jvm.Cond.and c (allAtoms t)).before a st = _
    rw [Jvm.Cond.before_and, ih, List.all_cons]
def words1 : List Jvm.Cond := Jvm.Cond.code x code maxLocals ret :: tables_1
/-- a 'code' word, met by the world's own term for the bytes: nothing is compared byte by byte -/
theorem code_word {y : MethodName} {bytes : ByteArray} {mx : Nat} {rt : Option FieldType} {a : Array Value} {s : State} {m : MethodId} {meth : Method} {c : Code} (h1 : s.methodNamed? y = some m) (h2 : s.vm.method? m = some meth) (h3 : meth.code = some c) (h4 : c.code = bytes)
    (h5 : (c.maxLocals == mx && c.exceptionTable.isEmpty && decide (c.maxStack ≤ mostOperands) && decide (meth.sig.returnType = rt) && !meth.locks && decide (parseMethodDescriptor y.desc = some meth.sig)) = true) : (Jvm.Cond.code y bytes mx rt).before a s = true := by
  simp only [Bool.and_eq_true, beq_iff_eq, Bool.not_eq_true', decide_eq_true_eq] at h5
  obtain ⟨⟨⟨⟨⟨g1, g2⟩, g3⟩, g4⟩, g5⟩, g6⟩ := h5
  simp [Cond.before, Cond.holds, Cond.value, h1, h2, h3, h4, g1, g2, g3, g4, g5, g6]
def isCode : Jvm.Cond → Bool
  | .code _ _ _ _ => true
  | _ => false
theorem all_split {L : List Jvm.Cond} {P : Jvm.Cond → Bool} (h1 : L.all (fun c => isCode c || P c) = true) (h2 : ∀ c ∈ L.filter isCode, P c = true) : L.all P = true := by
  refine List.all_eq_true.mpr fun c hc => ?_
  have h := List.all_eq_true.mp h1 c hc
  rcases Bool.eq_false_or_eq_true (isCode c) with hi | hi
  · exact h2 c (List.mem_filter.mpr ⟨hc, hi⟩)
  · simpa [hi] using h
set_option maxRecDepth 65536 in
theorem w_c0 : (Jvm.Cond.code x code maxLocals ret).before args0 about1 = true := code_word (m := ⟨1, 3⟩) (meth := k1m3) (c := k1c3) (by decide +kernel) rfl rfl rfl (by decide +kernel)
set_option maxRecDepth 65536 in
theorem w_c1 : (Jvm.Cond.code ({ cls := "com/example/sealwatch/sealwatch/PercentEncoding", name := "hexDigit", desc := "(C)I" } : Jvm.MethodName) prog_98_method_8_code (1 : Nat) (Option.some Jvm.ClassFile.FieldType.int)).before args0 about1 = true := code_word (m := ⟨2, 1⟩) (meth := k2m1) (c := k2c1) (by decide +kernel) rfl rfl rfl (by decide +kernel)
set_option maxRecDepth 65536 in
theorem w_c2 : (Jvm.Cond.code ({ cls := "com/example/sealwatch/sealwatch/PercentEncodingHexDigitPinLaw", name := "upperDigit", desc := "(I)C" } : Jvm.MethodName) method_2_code (1 : Nat) (Option.some Jvm.ClassFile.FieldType.char)).before args0 about1 = true := code_word (m := ⟨1, 1⟩) (meth := k1m1) (c := k1c1) (by decide +kernel) rfl rfl rfl (by decide +kernel)
set_option maxRecDepth 65536 in
theorem w_c3 : (Jvm.Cond.code ({ cls := "com/example/sealwatch/sealwatch/PercentEncodingHexDigitPinLaw", name := "lowerDigit", desc := "(I)C" } : Jvm.MethodName) method_3_code (1 : Nat) (Option.some Jvm.ClassFile.FieldType.char)).before args0 about1 = true := code_word (m := ⟨1, 2⟩) (meth := k1m2) (c := k1c2) (by decide +kernel) rfl rfl rfl (by decide +kernel)
def codes1 : List Jvm.Cond := [Jvm.Cond.code x code maxLocals ret, Jvm.Cond.code ({ cls := "com/example/sealwatch/sealwatch/PercentEncoding", name := "hexDigit", desc := "(C)I" } : Jvm.MethodName) prog_98_method_8_code (1 : Nat) (Option.some Jvm.ClassFile.FieldType.int), Jvm.Cond.code ({ cls := "com/example/sealwatch/sealwatch/PercentEncodingHexDigitPinLaw", name := "upperDigit", desc := "(I)C" } : Jvm.MethodName) method_2_code (1 : Nat) (Option.some Jvm.ClassFile.FieldType.char), Jvm.Cond.code ({ cls := "com/example/sealwatch/sealwatch/PercentEncodingHexDigitPinLaw", name := "lowerDigit", desc := "(I)C" } : Jvm.MethodName) method_3_code (1 : Nat) (Option.some Jvm.ClassFile.FieldType.char)]
set_option maxRecDepth 65536 in
theorem codes_eq : words1.filter isCode = codes1 := rfl
theorem w_codes : ∀ c ∈ words1.filter isCode, c.before args0 about1 = true := by
  rw [codes_eq]
  intro c hc
  simp only [codes1, List.mem_cons, List.not_mem_nil, or_false] at hc
  rcases hc with rfl | rfl | rfl | rfl
  · exact w_c0
  · exact w_c1
  · exact w_c2
  · exact w_c3
set_option maxRecDepth 65536 in
theorem w_t1 : words1.all (fun c => isCode c || c.before args0 about1) = true := by decide +kernel
theorem w_tables : (allAtoms (Jvm.Cond.code x code maxLocals ret :: tables_1)).before args0 about1 = true := by
  rw [allAtoms_all]
  show words1.all (fun c => c.before args0 about1) = true
  refine all_split ?_ w_codes
  rw [w_t1]
set_option maxRecDepth 65536 in
theorem w_case : (Jvm.Cond.and given_1 narrow_1).before args0 about1 = true := by decide +kernel
theorem w_applies : (headSpec (Jvm.Cond.code x code maxLocals ret :: tables_1) room_1).applies x e0.platform about1 = true :=
  (Spec.applies_iff w_frames).mpr ⟨w_running, w_runnable, w_alone, w_named, w_hears, w_ripe, w_room, w_tables⟩
theorem atStart : AtStart classFile x code maxLocals ret World_1 tables_1 room_1 Calls_1 rest_1 Pre_1 launch0 p0 e0 about1 theMethod args0 below0 :=
  ⟨lists_1, trivial, launch0.admits_env _ _ _, launch0.least_env, fairChoices_fair.cas, fairChoices_fair.clock, w_frames, w_args, w_heap, w_applies, trivial, trivial, w_case⟩
end start1
theorem witness_1 : WitnessClaimed_1 := ⟨start1.p0, start1.e0, start1.about1, start1.theMethod, start1.args0, start1.below0, start1.atStart⟩
end Jvm.Pilot.@@N@@
