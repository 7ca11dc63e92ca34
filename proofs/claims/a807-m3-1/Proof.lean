import JvmDerived
import JvmDerived.Pilot.@@N@@Statement
import JvmDerived.Pilot.@@N@@Code
set_option linter.unusedVariables false
set_option linter.unusedSimpArgs false
namespace Jvm.RoadKit
open Sem ClassFile Op Lib Jvm.Stand Jvm.Free Jvm.LawKit
section New
variable {p : Program} {l : Launch} {e : Env} {R : Room} {s : State} {m : MethodId} {args : Array Value} {below : List Frame} {meth : Method} {c : Code} {T : State} {locs : List Loc} {cells slots : Nat}
theorem retI (X : Stand p l e R s m args below meth c T locs cells slots) (hx : p.tables.exec = Jvm.exec) {pc : Nat} {Ls : Array Slot} {z : Int32} {rest : List Value} (hret : meth.sig.returnType = some .int) (hd : decode c.code pc = .ok (.ireturn, 1)) {fs : List Frame}
    (hl : ∀ (f : JFrame) (acts : List Action), f.method = m → f.locked = none → f.entered = [] → (doReturn e (T.setTop f) acts (some (.int z))).1 = T.setFrames fs) : Steps p.tables e below (T.setTop (mkF m pc Ls (.int z :: rest))) (T.setFrames fs) := by
  have hm' : T.vm.method? m = some meth := X.method'
  have hn : narrow .int (.int z) = .int z := rfl
  show Steps p.tables e below (T.setTop { method := m, pc := pc, locals := Ls, stack := _ :: rest, locked := none }) _
  jvm_step X.here [X.here.top, hx, hd, hm', hret, hn]
  first | (intro acts; rw [hl _ acts rfl rfl rfl]) | rw [hl _ _ rfl rfl rfl]
  exact Steps.refl _
end New
end Jvm.RoadKit
namespace Jvm.Pilot.@@N@@
open Jvm Jvm.ClassFile Sem Op Lib Jvm.Free Jvm.Stand Jvm.LawKit Jvm.RoadKit Bundle Jvm.Pilot.@@N@@.Jvm.D
/-- the run from U ends within this invocation, with P -/
def own_Fin (tb : Tables) (e : Env) (below : List Frame) (P : Outcome → State → Prop) (U : State) : Prop := ∃ s₂ o, Steps tb e below U s₂ ∧ s₂.status = .running ∧ Ended s₂ below o ∧ P o s₂
theorem own_by {tb : Tables} {e : Env} {below : List Frame} {P : Outcome → State → Prop} {U U' : State} (h : ∀ t, Steps tb e below U' t → Steps tb e below U t) (k : own_Fin tb e below P U') : own_Fin tb e below P U := by
  obtain ⟨t, o, h1, h2⟩ := k
  exact ⟨t, o, h _ h1, h2⟩
section Own
variable {p : Program} {l : Launch} {e : Env} {R : Room} {s : State} {m : MethodId} {args : Array Value} {below : List Frame} {meth : Method} {c : Code} {T : State} {locs : List Loc} {cells slots : Nat} {Z : State} {h h' : Heap} {a b : Addr} {z j x v : Int32} {B : Int32 → Int32}
theorem own_end (X : Stand p l e R s m args below meth c T locs cells slots) (hlk : meth.locks = false) {U : State} {v : Option Value} (hv : meth.sig.returnType = none → v = none) {Qv : Option Value → Heap → List Loc → Prop} {C S : Nat} (hC : cells ≤ C) (hS : slots ≤ S) (hq : Qv v T.heap locs)
    (hst : ∀ fs, (∀ (f : JFrame) (acts : List Action), f.method = m → f.locked = none → f.entered = [] → (doReturn e (T.setTop f) acts v).1 = T.setFrames fs) → Steps p.tables e below U (T.setFrames fs)) :
    own_Fin p.tables e below (fun o t => ∃ v L, o = .returned v ∧ Qv v t.heap L ∧ FrameEnd s o t L C S) U := by
  obtain ⟨fs, hr, hrun, hended, hW, hsame⟩ := X.leave (v := v) hv hlk
  exact ⟨_, _, hst fs hr, hrun, hended, _, _, rfl, hq, ⟨_, rfl⟩, hW, hsame.mono hC hS⟩
theorem own_retN (X : Stand p l e R s m args below meth c T locs cells slots) (hx : p.tables.exec = Jvm.exec) {pc : Nat} {Ls : Array Slot} {z : Int32} {t : FieldType} {rest : List Value} (hret : meth.sig.returnType = some t) (hlk : meth.locks = false) (ht : t = .boolean ∨ t = .byte ∨ t = .char ∨ t = .short)
    (hd : decode c.code pc = .ok (.ireturn, 1)) {Qv : Option Value → Heap → List Loc → Prop} {C S : Nat} (hC : cells ≤ C) (hS : slots ≤ S) (hq : Qv (some (.int (nar t z))) T.heap locs) :
    own_Fin p.tables e below (fun o t => ∃ v L, o = .returned v ∧ Qv v t.heap L ∧ FrameEnd s o t L C S) (T.setTop (mkF m pc Ls (.int z :: rest))) :=
  own_end X hlk (fun q => by rw [hret] at q; cases q) hC hS hq fun fs hr => retN X hx hret ht hd hr
theorem own_retI (X : Stand p l e R s m args below meth c T locs cells slots) (hx : p.tables.exec = Jvm.exec) {pc : Nat} {Ls : Array Slot} {z : Int32} {rest : List Value} (hret : meth.sig.returnType = some .int) (hlk : meth.locks = false)
    (hd : decode c.code pc = .ok (.ireturn, 1)) {Qv : Option Value → Heap → List Loc → Prop} {C S : Nat} (hC : cells ≤ C) (hS : slots ≤ S) (hq : Qv (some (.int z)) T.heap locs) :
    own_Fin p.tables e below (fun o t => ∃ v L, o = .returned v ∧ Qv v t.heap L ∧ FrameEnd s o t L C S) (T.setTop (mkF m pc Ls (.int z :: rest))) :=
  own_end X hlk (fun q => by rw [hret] at q; cases q) hC hS hq fun fs hr => retI X hx hret hd hr
theorem own_retJ (X : Stand p l e R s m args below meth c T locs cells slots) (hx : p.tables.exec = Jvm.exec) {pc : Nat} {Ls : Array Slot} {z : Int64} {rest : List Value} (hret : meth.sig.returnType = some .long) (hlk : meth.locks = false)
    (hd : decode c.code pc = .ok (.lreturn, 1)) {Qv : Option Value → Heap → List Loc → Prop} {C S : Nat} (hC : cells ≤ C) (hS : slots ≤ S) (hq : Qv (some (.long z)) T.heap locs) :
    own_Fin p.tables e below (fun o t => ∃ v L, o = .returned v ∧ Qv v t.heap L ∧ FrameEnd s o t L C S) (T.setTop (mkF m pc Ls (.long z :: rest))) :=
  own_end X hlk (fun q => by rw [hret] at q; cases q) hC hS hq fun fs hr => retOut X hx hret rfl (Or.inr (Or.inl ⟨rfl, rfl, z, rfl⟩)) hd hr
theorem own_retA (X : Stand p l e R s m args below meth c T locs cells slots) (hx : p.tables.exec = Jvm.exec) {pc : Nat} {Ls : Array Slot} {w : Value} {t : FieldType} {rest : List Value} (hret : meth.sig.returnType = some t) (hlk : meth.locks = false) (ht : t.isReference = true) (hw : w.isRef = true)
    (hd : decode c.code pc = .ok (.areturn, 1)) {Qv : Option Value → Heap → List Loc → Prop} {C S : Nat} (hC : cells ≤ C) (hS : slots ≤ S) (hq : Qv (some w) T.heap locs) :
    own_Fin p.tables e below (fun o t => ∃ v L, o = .returned v ∧ Qv v t.heap L ∧ FrameEnd s o t L C S) (T.setTop (mkF m pc Ls (w :: rest))) :=
  own_end X hlk (fun q => by rw [hret] at q; cases q) hC hS hq fun fs hr => retOut X hx hret (by cases t <;> simp [FieldType.isReference] at ht <;> (rcases ref_cases hw with rfl | ⟨z, rfl⟩ <;> rfl)) (Or.inr (Or.inr (Or.inr (Or.inr ⟨rfl, ht, hw⟩)))) hd hr
theorem own_retV (X : Stand p l e R s m args below meth c T locs cells slots) (hx : p.tables.exec = Jvm.exec) {pc : Nat} {Ls : Array Slot} (hret : meth.sig.returnType = none) (hlk : meth.locks = false)
    (hd : decode c.code pc = .ok (.return_, 1)) {Qv : Option Value → Heap → List Loc → Prop} {C S : Nat} (hC : cells ≤ C) (hS : slots ≤ S) (hq : Qv none T.heap locs) :
    own_Fin p.tables e below (fun o t => ∃ v L, o = .returned v ∧ Qv v t.heap L ∧ FrameEnd s o t L C S) (T.setTop (mkF m pc Ls [])) :=
  own_end X hlk (fun _ => rfl) hC hS hq fun fs hr => X.returnOut hx hret hd hr
/-- a byte[] of length z whose j-th byte is B j -/
def own_Byt (Z : State) (h : Heap) (a : Addr) (z : Int32) (B : Int32 → Int32) : Prop := ∃ cl : Cell, Arr Z h a cl .byte ∧ cl.slots.size = z.toNatClampNeg ∧ ¬ z < 0 ∧ ∀ j : Int32, ¬ (j < 0 ∨ cl.slots.size ≤ j.toNatClampNeg) → cl.slots[j.toNatClampNeg]? = some (.int (B j)) ∧ fits .byte (.int (B j)) = true
def own_upd (B : Int32 → Int32) (j v : Int32) : Int32 → Int32 := fun k => if k = j then v else B k
theorem own_Byt.lt (F : own_Byt Z h a z B) : a < h.size := by obtain ⟨c, A, -⟩ := F; exact A.lt
theorem own_Byt.ext (F : own_Byt Z h a z B) (E : Ext h h') : own_Byt Z h' a z B := by obtain ⟨c, A, r⟩ := F; exact ⟨c, A.ext E, r⟩
theorem own_Byt.other (F : own_Byt Z h b z B) {sl : Nat} {w : Value} (W : Wr h h' a sl w) (q : b ≠ a) : own_Byt Z h' b z B := by obtain ⟨c, A, r⟩ := F; exact ⟨c, A.other W q, r⟩
theorem own_Byt.keep {ws : List Addr} (F : own_Byt Z h a z B) (K : Keep h h' ws) (q : a ∉ ws) : own_Byt Z h' a z B := by obtain ⟨c, A, r⟩ := F; exact ⟨c, ⟨K.2.1 a c A.1 q, A.2⟩, r⟩
theorem own_Byt.new {k : ClassId} (A : Arr Z h a (newA k .byte z) .byte) (q : ¬ z < 0) : own_Byt Z h a z (fun _ => (0 : Int32)) :=
  ⟨_, A, sz_new _ _ _, q, fun j hj => by rw [sz_new] at hj; exact ⟨get_new hj, show fits .byte (.int 0) = true from by decide⟩⟩
theorem own_bal (X : Stand p l e R s m args below meth c T locs cells slots) (hx : p.tables.exec = Jvm.exec) (hZ : Z.Warmed39 s.vm) (eT : T.heap = h) (F : own_Byt Z h a z B) (h1 : ¬ j < 0) (h2 : j < z)
    {g : JFrame} (hg : g.method = m) {rest : List Value} (hs : g.stack = .int j :: .ref a :: rest) (hd : decode c.code g.pc = .ok (.baload, 1)) :
    ∀ t, Steps p.tables e below (T.setTop { g with pc := g.pc + 1, stack := .int (B j) :: rest }) t → Steps p.tables e below (T.setTop g) t := by
  obtain ⟨cl, A, S, N, H⟩ := F
  have hin := inb_of S ⟨h1, h2⟩
  exact X.baloadBytes hx (j := j) (v := .int (B j)) (by rw [eT]; exact A.1) (State.isArrayOf_alike hZ.alike A.2.1) A.2.2 hin (H j hin).1 hg hs hd
theorem own_len (X : Stand p l e R s m args below meth c T locs cells slots) (hx : p.tables.exec = Jvm.exec) (hZ : Z.Warmed39 s.vm) (eT : T.heap = h) (F : own_Byt Z h a z B)
    {g : JFrame} (hg : g.method = m) {rest : List Value} (hs : g.stack = .ref a :: rest) (hd : decode c.code g.pc = .ok (.arraylength, 1)) :
    ∀ t, Steps p.tables e below (T.setTop { g with pc := g.pc + 1, stack := .int z :: rest }) t → Steps p.tables e below (T.setTop g) t := by
  obtain ⟨cl, A, S, N, H⟩ := F
  intro t k
  refine X.arraylength hx (by rw [eT]; exact A.1) (State.isArrayOf_alike hZ.alike A.2.1) (g := g) hg hs hd _ ?_
  rw [len_of S N]
  exact k
theorem own_bst (X : Stand p l e R s m args below meth c T locs cells slots) (hx : p.tables.exec = Jvm.exec) (hZ : Z.Warmed39 s.vm) (eT : T.heap = h) (F : own_Byt Z h a z B) (h1 : ¬ j < 0) (h2 : j < z)
    {g : JFrame} (hg : g.method = m) {rest : List Value} (hs : g.stack = .int x :: .int j :: .ref a :: rest) (hd : decode c.code g.pc = .ok (.bastore, 1)) :
    ∃ T' h', Stand p l e R s m args below meth c T' (locs ++ [⟨a, j.toNatClampNeg⟩]) cells slots ∧ T'.heap = h' ∧ own_Byt Z h' a z (own_upd B j (x.toInt8.toInt32)) ∧ Wr h h' a j.toNatClampNeg (.int (nar .byte x)) ∧
      ∀ t, Steps p.tables e below (T'.setTop { g with pc := g.pc + 1, stack := rest }) t → Steps p.tables e below (T.setTop g) t := by
  obtain ⟨cl, A, S, N, H⟩ := F
  have hin := inb_of S ⟨h1, h2⟩
  obtain ⟨T', h', X', e', W, st⟩ := stB X hx hZ eT A (j := j) hin hg hs hd
  refine ⟨T', h', X', e', ⟨_, A.same W, by rw [sz_set]; exact S, N, fun k hk => ?_⟩, W, st⟩
  rw [sz_set] at hk
  by_cases q : k = j
  · rw [get_hit hin q, own_upd, if_pos q]; exact ⟨rfl, fits_nar_byte x⟩
  · rw [get_miss h1 (fun y => hk (Or.inl y)) q, own_upd, if_neg q]; exact H k hk
end Own
theorem own_nar_char (x : Int32) : nar .char (x.toUInt32.toUInt16.toUInt32.toInt32) = x.toUInt32.toUInt16.toUInt32.toInt32 := by
  show x.toUInt32.toUInt16.toUInt32.toInt32.toUInt32.toUInt16.toUInt32.toInt32 = _
  have h1 := c_i2c x
  have h2 := c_i2c (x.toUInt32.toUInt16.toUInt32.toInt32)
  apply Int32.toInt_inj.mp
  omega
theorem own_lt {x y : Int32} : x < y ↔ x.toInt < y.toInt := Int32.lt_iff_toInt_lt
theorem own_eq {x y : Int32} : x = y ↔ x.toInt = y.toInt := Int32.toInt_inj.symm
theorem own_ltL {x y : Int64} : x < y ↔ x.toInt < y.toInt := Int64.lt_iff_toInt_lt
theorem own_eqL {x y : Int64} : x = y ↔ x.toInt = y.toInt := Int64.toInt_inj.symm
theorem own_z : (0 : Int32).toInt = 0 := by decide
theorem own_nn {x : Int32} (h : 0 ≤ x.toInt) : ¬ x < 0 := fun q => by have := own_lt.mp q; rw [own_z] at this; omega
theorem own_ltof {x y : Int32} (h : x.toInt < y.toInt) : x < y := own_lt.mpr h
theorem own_ge {x y : Int32} (h : ¬ x < y) : y.toInt ≤ x.toInt := by rw [own_lt] at h; omega
theorem own_add (x k : Int32) (h1 : -2147483648 ≤ x.toInt + k.toInt) (h2 : x.toInt + k.toInt < 2147483648) : (x + k).toInt = x.toInt + k.toInt := by
  have a := c_iadd x k
  have r := rng32 (x + k)
  omega
theorem own_sub (x k : Int32) (h1 : -2147483648 ≤ x.toInt - k.toInt) (h2 : x.toInt - k.toInt < 2147483648) : (x - k).toInt = x.toInt - k.toInt := by
  have a := c_isub x k
  have r := rng32 (x - k)
  omega
theorem own_clamp {x : Int32} {n : Nat} (h : ¬ x < 0) (q : x.toInt ≤ n) : x.toNatClampNeg ≤ n := by
  have := nat_of h
  omega
section OwnRef
variable {p : Program} {l : Launch} {e : Env} {R : Room} {s : State} {m : MethodId} {args : Array Value} {below : List Frame} {meth : Method} {c : Code} {T : State} {locs : List Loc} {cells slots : Nat} {Z : State} {a0 : Array Value} {h h' : Heap}
theorem own_ready (X : Stand p l e R s m args below meth c T locs cells slots) (hZ : Z.Warmed39 s.vm) {own O n d : String} {index cf i : Nat} {k : Class} {f : Field} (hown : s.vm.findClass own = some m.cls) (w : (Cond.fieldRef own index O n d).before a0 Z = true) (hi : Z.fieldFound? O n d = some (cf, k, i, f)) : T.vm.fieldReady m.cls index cf f := by
  have hT : Z.Warmed39 T.vm := wtrans hZ X.warmed
  have q := Cond.fieldRef_warmed39 hT w
  have hc : (Z.setVm T.vm).vm.findClass own = some m.cls := by
    show T.vm.findClass own = _
    rw [X.warmed.alike.findClass]; exact hown
  obtain ⟨c1, k1, i1, f1, h1, h2⟩ := Cond.fieldRef_spec hc (show (Cond.fieldRef own index O n d).holds _ _ _ _ _ = true from q)
  obtain ⟨k', h3, -⟩ := State.fieldFound?_setVm (s := Z) hT.alike hi
  cases h1.symm.trans h3
  exact h2
theorem own_getR (X : Stand p l e R s m args below meth c T locs cells slots) (hx : p.tables.exec = Jvm.exec) (hZ : Z.Warmed39 s.vm) {own O n d : String} {index : Nat} (hown : s.vm.findClass own = some m.cls) (w : (Cond.fieldRef own index O n d).before a0 Z = true)
    (eT : T.heap = h) {a : Addr} {v : Value} (F : Fld Z h a O n d v) {g : JFrame} (hg : g.method = m) {rest : List Value} (hs : g.stack = .ref a :: rest) (hd : decode c.code g.pc = .ok (.getfield index, 3)) :
    ∀ t, Steps p.tables e below (T.setTop { g with pc := g.pc + 3, stack := v :: rest }) t → Steps p.tables e below (T.setTop g) t := by
  obtain ⟨cell, cf, k, i, f, h1, h2, h3, h4, -, -, h7⟩ := F
  have hr := own_ready X hZ hown w h2
  intro t ht
  subst hg
  jvm_step X.here [hx, hd, getfield.wp_ready (e := e) (s := T) (f := g) X.here.top hr h3 hs (show T.heap[a]? = some cell by rw [eT]; exact h1) h4 h7]
  exact ht
theorem own_putR (X : Stand p l e R s m args below meth c T locs cells slots) (hx : p.tables.exec = Jvm.exec) (hZ : Z.Warmed39 s.vm) {own O n d C : String} {index kk : Nat} {ty : FieldType} (hown : s.vm.findClass own = some m.cls) (w : (Cond.fieldRef own index O n d).before a0 Z = true)
    (eT : T.heap = h) {a : Addr} {v old : Value} (F : Fld Z h a O n d old) (E : Exa Z h a C) (L : (Cond.lays C O n d).before a0 Z = true) (wi : (Cond.instantiable C kk).before a0 Z = true)
    (hty : parseFieldDescriptor d = some ty) (hn : narrow ty v = v) (hf : fits ty v = true) {g : JFrame} (hg : g.method = m) {rest : List Value} (hs : g.stack = v :: .ref a :: rest) (hd : decode c.code g.pc = .ok (.putfield index, 3)) :
    ∃ T' h', Stand p l e R s m args below meth c T' (locs ++ [⟨a, Jvm.RoadKit.slotOf Z O n d⟩]) cells slots ∧ T'.heap = h' ∧ Wr h h' a (Jvm.RoadKit.slotOf Z O n d) v ∧ ∀ target, Steps p.tables e below (T'.setTop { g with pc := g.pc + 3, stack := rest }) target → Steps p.tables e below (T.setTop g) target := by
  obtain ⟨cell, cf, k, i, f, h1, h2, h3, h4, h5, -, h7⟩ := F
  obtain ⟨cell', kc, e1, e2, e3, -⟩ := E
  obtain rfl : cell' = cell := Option.some.inj (e1.symm.trans h1)
  obtain ⟨c1, k1, cf1, kf1, i1, f1, a1, a2, a3, -, a5, -, a6, -⟩ := Cond.lays_spec L
  have hT : Z.Warmed39 T.vm := wtrans hZ X.warmed
  cases h2.symm.trans a3
  cases e2.symm.trans a1
  obtain ⟨c2, k2, b1, b2, b3, -⟩ := Cond.instantiable_spec wi
  cases e2.symm.trans b1
  cases a2.symm.trans b2
  have ht := (State.fieldFound?_type h2 hty).2
  have st : Z.slotType? cell'.cls cell'.vm f.slot = some ty := by
    simp only [State.slotType?, a2, Option.bind_eq_bind, Option.bind_some, b3]
    cases hq : cell'.vm <;> first | (rw [hq] at h5; exact Bool.noConfusion h5) | (rw [a6, ht])
  have fz : Z.fitsSlot cell'.cls cell'.vm f.slot v = true := by simp [State.fitsSlot, st, hf]
  have fT : T.fitsSlot cell'.cls cell'.vm f.slot v = true := by rw [← State.fitsSlot_setVm hT.alike] at fz; exact fz
  have es : Jvm.RoadKit.slotOf Z O n d = f.slot := by simp [Jvm.RoadKit.slotOf, h2]
  have hlt := (Array.getElem?_eq_some_iff.mp h7).1
  rw [es]
  obtain ⟨X', stp⟩ := X.putfieldReady hx (own_ready X hZ hown w h2) h3 (Or.inl a5) (by rw [eT]; exact h1) h4 hlt (by rw [ht]; exact hn) fT hg hs hd
  exact ⟨_, _, X', rfl, ⟨cell', h1, h5, hlt, by rw [← eT]; rfl⟩, stp⟩
end OwnRef
abbrev own_CO : String := "com/example/brazier/brazier/keyspace/ChangeOrder"
abbrev own_LK : String := "com/example/brazier/brazier/keyspace/ChangeOrder$Link"
abbrev own_LD : String := "Lcom/example/brazier/brazier/keyspace/ChangeOrder$Link;"
def own_nx (ad : Nat → Addr) (v : Option Nat) : Value := match v with | none => .null | some k => .ref (ad k)
def own_u {α : Type} (f : Nat → α) (i : Nat) (v : α) : Nat → α := fun k => if k = i then v else f k
theorem own_nxr (ad : Nat → Addr) (v : Option Nat) : (own_nx ad v).isRef = true := by cases v <;> rfl
theorem own_nxf (ad : Nat → Addr) (v : Option Nat) (C : String) : narrow (.object C) (own_nx ad v) = own_nx ad v ∧ fits (.object C) (own_nx ad v) = true := by cases v <;> exact ⟨rfl, rfl⟩
def own_S (Z : State) (h : Heap) (n0 N : Nat) (ad : Nat → Addr) (K : Nat → String) (o : Addr) (bf af : Nat → Option Nat) (nu : Nat → Int64) (nw : Int64) (ps : Int64) : Prop :=
  n0 ≤ h.size ∧ n0 ≤ o ∧ Exa Z h o own_CO ∧ Fld Z h o own_CO "start" own_LD (.ref (ad 0)) ∧ Fld Z h o own_CO "newest" "J" (.long nw) ∧ Fld Z h o own_CO "passed" "J" (.long ps) ∧ (∀ i, i < N → o ≠ ad i) ∧ (∀ i j, i < N → j < N → ad i = ad j → i = j) ∧
    ∀ i, i < N → n0 ≤ ad i ∧ Exa Z h (ad i) (K i) ∧ Fld Z h (ad i) own_LK "before" own_LD (own_nx ad (bf i)) ∧ Fld Z h (ad i) own_LK "after" own_LD (own_nx ad (af i)) ∧ Fld Z h (ad i) own_LK "number" "J" (.long (nu i))
/-- what the sheet lays of each link's class -/
def own_WK (Z : State) (N : Nat) (K : Nat → String) : Prop := ∀ i, i < N → ∃ (a1 : Array Value) (kk : Nat), (Cond.lays (K i) own_LK "before" own_LD).before a1 Z = true ∧ (Cond.lays (K i) own_LK "after" own_LD).before a1 Z = true ∧ (Cond.lays (K i) own_LK "number" "J").before a1 Z = true ∧ (Cond.instantiable (K i) kk).before a1 Z = true
/-- the fields' places are unlike -/
def own_SL (Z : State) : Prop := Jvm.RoadKit.slotOf Z own_LK "before" own_LD ≠ Jvm.RoadKit.slotOf Z own_LK "after" own_LD ∧ Jvm.RoadKit.slotOf Z own_LK "before" own_LD ≠ Jvm.RoadKit.slotOf Z own_LK "number" "J" ∧ Jvm.RoadKit.slotOf Z own_LK "after" own_LD ≠ Jvm.RoadKit.slotOf Z own_LK "number" "J" ∧ Jvm.RoadKit.slotOf Z own_CO "start" own_LD ≠ Jvm.RoadKit.slotOf Z own_CO "newest" "J" ∧ Jvm.RoadKit.slotOf Z own_CO "start" own_LD ≠ Jvm.RoadKit.slotOf Z own_CO "passed" "J" ∧ Jvm.RoadKit.slotOf Z own_CO "newest" "J" ≠ Jvm.RoadKit.slotOf Z own_CO "passed" "J"
section OwnLk
variable {p : Program} {l : Launch} {e : Env} {R : Room} {s : State} {m : MethodId} {args : Array Value} {below : List Frame} {meth : Method} {c : Code} {T : State} {locs : List Loc} {cells slots : Nat} {a0 : Array Value} {Z : State} {h h' : Heap} {n0 N : Nat} {ad : Nat → Addr} {K : Nat → String} {o : Addr} {bf af : Nat → Option Nat} {nu : Nat → Int64} {nw ps : Int64}
theorem own_S.putB (S : own_S Z h n0 N ad K o bf af nu nw ps) (sl : own_SL Z) (i : Nat) (hi : i < N) (v : Option Nat) (W : Wr h h' (ad i) (Jvm.RoadKit.slotOf Z own_LK "before" own_LD) (own_nx ad v)) : own_S Z h' n0 N ad K o (own_u bf i v) af nu nw ps := by
  obtain ⟨s1, s2, s3, s4, s5, s6, s7, s8, s9⟩ := S
  have no := s7 i hi
  refine ⟨by rw [W.size]; exact s1, s2, s3.wr W, s4.other W (Or.inl no), s5.other W (Or.inl no), s6.other W (Or.inl no), s7, s8, fun k hk => ?_⟩
  obtain ⟨t1, t2, t3, t4, t5⟩ := s9 k hk
  by_cases q : k = i
  · subst q
    exact ⟨t1, t2.wr W, by rw [own_u, if_pos rfl]; exact t3.same W, t4.other W (Or.inr (Ne.symm sl.1)), t5.other W (Or.inr (Ne.symm sl.2.1))⟩
  · have ne : ad k ≠ ad i := fun y => q (s8 k i hk hi y)
    exact ⟨t1, t2.wr W, by rw [own_u, if_neg q]; exact t3.other W (Or.inl ne), t4.other W (Or.inl ne), t5.other W (Or.inl ne)⟩
theorem own_pB (X : Stand p l e R s m args below meth c T locs cells slots) (hx : p.tables.exec = Jvm.exec) (hZ : Z.Warmed39 s.vm) {own : String} {index : Nat} (hown : s.vm.findClass own = some m.cls) (w : (Cond.fieldRef own index own_LK "before" own_LD).before a0 Z = true) (eT : T.heap = h) (S : own_S Z h n0 N ad K o bf af nu nw ps) (sl : own_SL Z) (wk : own_WK Z N K) (Nf : Fr n0 locs) (i : Nat) (hi : i < N) (v : Option Nat)
    {g : JFrame} (hg : g.method = m) {rest : List Value} (hs : g.stack = (own_nx ad v) :: .ref (ad i) :: rest) (hd : decode c.code g.pc = .ok (.putfield index, 3)) :
    ∃ T' h' L, Stand p l e R s m args below meth c T' L cells slots ∧ T'.heap = h' ∧ Fr n0 L ∧ own_S Z h' n0 N ad K o (own_u bf i v) af nu nw ps ∧ ∀ target, Steps p.tables e below (T'.setTop { g with pc := g.pc + 3, stack := rest }) target → Steps p.tables e below (T.setTop g) target := by
  obtain ⟨a1, kk, w1, w2, w3, w4⟩ := wk i hi
  have S' := S
  obtain ⟨s1, s2, s3, s4, s5, s6, s7, s8, s9⟩ := S
  obtain ⟨t1, t2, t3, t4, t5⟩ := s9 i hi
  obtain ⟨T', h', X', e', W, st⟩ := own_putR X hx hZ hown w eT t3 t2 w1 w4 (ty := .object own_LK) (by decide) (own_nxf ad v _).1 (own_nxf ad v _).2 hg hs hd
  exact ⟨T', h', _, X', e', Fr.snoc X' Nf t1, S'.putB sl i hi v W, st⟩
theorem own_gB (X : Stand p l e R s m args below meth c T locs cells slots) (hx : p.tables.exec = Jvm.exec) (hZ : Z.Warmed39 s.vm) {own : String} {index : Nat} (hown : s.vm.findClass own = some m.cls) (w : (Cond.fieldRef own index own_LK "before" own_LD).before a0 Z = true) (eT : T.heap = h) (S : own_S Z h n0 N ad K o bf af nu nw ps) (i : Nat) (hi : i < N)
    {g : JFrame} (hg : g.method = m) {rest : List Value} (hs : g.stack = .ref (ad i) :: rest) (hd : decode c.code g.pc = .ok (.getfield index, 3)) {w' : Value} (hw' : (own_nx ad (bf i)) = w') :
    ∀ t, Steps p.tables e below (T.setTop { g with pc := g.pc + 3, stack := w' :: rest }) t → Steps p.tables e below (T.setTop g) t := by
  obtain ⟨s1, s2, s3, s4, s5, s6, s7, s8, s9⟩ := S
  obtain ⟨t1, t2, t3, t4, t5⟩ := s9 i hi
  subst hw'
  exact own_getR X hx hZ hown w eT t3 hg hs hd
theorem own_S.putA (S : own_S Z h n0 N ad K o bf af nu nw ps) (sl : own_SL Z) (i : Nat) (hi : i < N) (v : Option Nat) (W : Wr h h' (ad i) (Jvm.RoadKit.slotOf Z own_LK "after" own_LD) (own_nx ad v)) : own_S Z h' n0 N ad K o bf (own_u af i v) nu nw ps := by
  obtain ⟨s1, s2, s3, s4, s5, s6, s7, s8, s9⟩ := S
  have no := s7 i hi
  refine ⟨by rw [W.size]; exact s1, s2, s3.wr W, s4.other W (Or.inl no), s5.other W (Or.inl no), s6.other W (Or.inl no), s7, s8, fun k hk => ?_⟩
  obtain ⟨t1, t2, t3, t4, t5⟩ := s9 k hk
  by_cases q : k = i
  · subst q
    exact ⟨t1, t2.wr W, t3.other W (Or.inr sl.1), by rw [own_u, if_pos rfl]; exact t4.same W, t5.other W (Or.inr (Ne.symm sl.2.2.1))⟩
  · have ne : ad k ≠ ad i := fun y => q (s8 k i hk hi y)
    exact ⟨t1, t2.wr W, t3.other W (Or.inl ne), by rw [own_u, if_neg q]; exact t4.other W (Or.inl ne), t5.other W (Or.inl ne)⟩
theorem own_pA (X : Stand p l e R s m args below meth c T locs cells slots) (hx : p.tables.exec = Jvm.exec) (hZ : Z.Warmed39 s.vm) {own : String} {index : Nat} (hown : s.vm.findClass own = some m.cls) (w : (Cond.fieldRef own index own_LK "after" own_LD).before a0 Z = true) (eT : T.heap = h) (S : own_S Z h n0 N ad K o bf af nu nw ps) (sl : own_SL Z) (wk : own_WK Z N K) (Nf : Fr n0 locs) (i : Nat) (hi : i < N) (v : Option Nat)
    {g : JFrame} (hg : g.method = m) {rest : List Value} (hs : g.stack = (own_nx ad v) :: .ref (ad i) :: rest) (hd : decode c.code g.pc = .ok (.putfield index, 3)) :
    ∃ T' h' L, Stand p l e R s m args below meth c T' L cells slots ∧ T'.heap = h' ∧ Fr n0 L ∧ own_S Z h' n0 N ad K o bf (own_u af i v) nu nw ps ∧ ∀ target, Steps p.tables e below (T'.setTop { g with pc := g.pc + 3, stack := rest }) target → Steps p.tables e below (T.setTop g) target := by
  obtain ⟨a1, kk, w1, w2, w3, w4⟩ := wk i hi
  have S' := S
  obtain ⟨s1, s2, s3, s4, s5, s6, s7, s8, s9⟩ := S
  obtain ⟨t1, t2, t3, t4, t5⟩ := s9 i hi
  obtain ⟨T', h', X', e', W, st⟩ := own_putR X hx hZ hown w eT t4 t2 w2 w4 (ty := .object own_LK) (by decide) (own_nxf ad v _).1 (own_nxf ad v _).2 hg hs hd
  exact ⟨T', h', _, X', e', Fr.snoc X' Nf t1, S'.putA sl i hi v W, st⟩
theorem own_gA (X : Stand p l e R s m args below meth c T locs cells slots) (hx : p.tables.exec = Jvm.exec) (hZ : Z.Warmed39 s.vm) {own : String} {index : Nat} (hown : s.vm.findClass own = some m.cls) (w : (Cond.fieldRef own index own_LK "after" own_LD).before a0 Z = true) (eT : T.heap = h) (S : own_S Z h n0 N ad K o bf af nu nw ps) (i : Nat) (hi : i < N)
    {g : JFrame} (hg : g.method = m) {rest : List Value} (hs : g.stack = .ref (ad i) :: rest) (hd : decode c.code g.pc = .ok (.getfield index, 3)) {w' : Value} (hw' : (own_nx ad (af i)) = w') :
    ∀ t, Steps p.tables e below (T.setTop { g with pc := g.pc + 3, stack := w' :: rest }) t → Steps p.tables e below (T.setTop g) t := by
  obtain ⟨s1, s2, s3, s4, s5, s6, s7, s8, s9⟩ := S
  obtain ⟨t1, t2, t3, t4, t5⟩ := s9 i hi
  subst hw'
  exact own_getR X hx hZ hown w eT t4 hg hs hd
theorem own_S.putN (S : own_S Z h n0 N ad K o bf af nu nw ps) (sl : own_SL Z) (i : Nat) (hi : i < N) (v : Int64) (W : Wr h h' (ad i) (Jvm.RoadKit.slotOf Z own_LK "number" "J") (.long v)) : own_S Z h' n0 N ad K o bf af (own_u nu i v) nw ps := by
  obtain ⟨s1, s2, s3, s4, s5, s6, s7, s8, s9⟩ := S
  have no := s7 i hi
  refine ⟨by rw [W.size]; exact s1, s2, s3.wr W, s4.other W (Or.inl no), s5.other W (Or.inl no), s6.other W (Or.inl no), s7, s8, fun k hk => ?_⟩
  obtain ⟨t1, t2, t3, t4, t5⟩ := s9 k hk
  by_cases q : k = i
  · subst q
    exact ⟨t1, t2.wr W, t3.other W (Or.inr sl.2.1), t4.other W (Or.inr sl.2.2.1), by rw [own_u, if_pos rfl]; exact t5.same W⟩
  · have ne : ad k ≠ ad i := fun y => q (s8 k i hk hi y)
    exact ⟨t1, t2.wr W, t3.other W (Or.inl ne), t4.other W (Or.inl ne), by rw [own_u, if_neg q]; exact t5.other W (Or.inl ne)⟩
theorem own_pN (X : Stand p l e R s m args below meth c T locs cells slots) (hx : p.tables.exec = Jvm.exec) (hZ : Z.Warmed39 s.vm) {own : String} {index : Nat} (hown : s.vm.findClass own = some m.cls) (w : (Cond.fieldRef own index own_LK "number" "J").before a0 Z = true) (eT : T.heap = h) (S : own_S Z h n0 N ad K o bf af nu nw ps) (sl : own_SL Z) (wk : own_WK Z N K) (Nf : Fr n0 locs) (i : Nat) (hi : i < N) (v : Int64)
    {g : JFrame} (hg : g.method = m) {rest : List Value} (hs : g.stack = (.long v) :: .ref (ad i) :: rest) (hd : decode c.code g.pc = .ok (.putfield index, 3)) :
    ∃ T' h' L, Stand p l e R s m args below meth c T' L cells slots ∧ T'.heap = h' ∧ Fr n0 L ∧ own_S Z h' n0 N ad K o bf af (own_u nu i v) nw ps ∧ ∀ target, Steps p.tables e below (T'.setTop { g with pc := g.pc + 3, stack := rest }) target → Steps p.tables e below (T.setTop g) target := by
  obtain ⟨a1, kk, w1, w2, w3, w4⟩ := wk i hi
  have S' := S
  obtain ⟨s1, s2, s3, s4, s5, s6, s7, s8, s9⟩ := S
  obtain ⟨t1, t2, t3, t4, t5⟩ := s9 i hi
  obtain ⟨T', h', X', e', W, st⟩ := own_putR X hx hZ hown w eT t5 t2 w3 w4 (ty := .long) (by decide) rfl rfl hg hs hd
  exact ⟨T', h', _, X', e', Fr.snoc X' Nf t1, S'.putN sl i hi v W, st⟩
theorem own_gN (X : Stand p l e R s m args below meth c T locs cells slots) (hx : p.tables.exec = Jvm.exec) (hZ : Z.Warmed39 s.vm) {own : String} {index : Nat} (hown : s.vm.findClass own = some m.cls) (w : (Cond.fieldRef own index own_LK "number" "J").before a0 Z = true) (eT : T.heap = h) (S : own_S Z h n0 N ad K o bf af nu nw ps) (i : Nat) (hi : i < N)
    {g : JFrame} (hg : g.method = m) {rest : List Value} (hs : g.stack = .ref (ad i) :: rest) (hd : decode c.code g.pc = .ok (.getfield index, 3)) {w' : Value} (hw' : (.long (nu i)) = w') :
    ∀ t, Steps p.tables e below (T.setTop { g with pc := g.pc + 3, stack := w' :: rest }) t → Steps p.tables e below (T.setTop g) t := by
  obtain ⟨s1, s2, s3, s4, s5, s6, s7, s8, s9⟩ := S
  obtain ⟨t1, t2, t3, t4, t5⟩ := s9 i hi
  subst hw'
  exact own_getR X hx hZ hown w eT t5 hg hs hd
theorem own_S.put_newest (S : own_S Z h n0 N ad K o bf af nu nw ps) (sl : own_SL Z) (v : Int64) (W : Wr h h' o (Jvm.RoadKit.slotOf Z own_CO "newest" "J") (.long v)) : own_S Z h' n0 N ad K o bf af nu v ps := by
  obtain ⟨s1, s2, s3, s4, s5, s6, s7, s8, s9⟩ := S
  refine ⟨by rw [W.size]; exact s1, s2, s3.wr W, s4.other W (Or.inr sl.2.2.2.1), s5.same W, s6.other W (Or.inr (Ne.symm sl.2.2.2.2.2)), s7, s8, fun k hk => ?_⟩
  obtain ⟨t1, t2, t3, t4, t5⟩ := s9 k hk
  have ne : ad k ≠ o := Ne.symm (s7 k hk)
  exact ⟨t1, t2.wr W, t3.other W (Or.inl ne), t4.other W (Or.inl ne), t5.other W (Or.inl ne)⟩
theorem own_p_newest (X : Stand p l e R s m args below meth c T locs cells slots) (hx : p.tables.exec = Jvm.exec) (hZ : Z.Warmed39 s.vm) {own : String} {index kk : Nat} (hown : s.vm.findClass own = some m.cls) (w : (Cond.fieldLink own index own_CO "newest" "J").before a0 Z = true) (wl : (Cond.lays own_CO own_CO "newest" "J").before a0 Z = true) (wi : (Cond.instantiable own_CO kk).before a0 Z = true) (eT : T.heap = h) (S : own_S Z h n0 N ad K o bf af nu nw ps) (sl : own_SL Z) (Nf : Fr n0 locs) (v : Int64)
    {g : JFrame} (hg : g.method = m) {rest : List Value} (hs : g.stack = .long v :: .ref o :: rest) (hd : decode c.code g.pc = .ok (.putfield index, 3)) :
    ∃ T' h' L, Stand p l e R s m args below meth c T' L cells slots ∧ T'.heap = h' ∧ Fr n0 L ∧ own_S Z h' n0 N ad K o bf af nu v ps ∧ ∀ target, Steps p.tables e below (T'.setTop { g with pc := g.pc + 3, stack := rest }) target → Steps p.tables e below (T.setTop g) target := by
  have S' := S
  obtain ⟨s1, s2, s3, s4, s5, s6, s7, s8, s9⟩ := S
  obtain ⟨T', h', X', e', W, st⟩ := putF X hx hZ hown (host := "") (Or.inl w) Via.refl eT s5 s3 (Or.inl wl) wi (ty := .long) (by decide) rfl rfl hg hs hd
  exact ⟨T', h', _, X', e', Fr.snoc X' Nf s2, S'.put_newest sl v W, st⟩
theorem own_S.put_passed (S : own_S Z h n0 N ad K o bf af nu nw ps) (sl : own_SL Z) (v : Int64) (W : Wr h h' o (Jvm.RoadKit.slotOf Z own_CO "passed" "J") (.long v)) : own_S Z h' n0 N ad K o bf af nu nw v := by
  obtain ⟨s1, s2, s3, s4, s5, s6, s7, s8, s9⟩ := S
  refine ⟨by rw [W.size]; exact s1, s2, s3.wr W, s4.other W (Or.inr sl.2.2.2.2.1), s5.other W (Or.inr sl.2.2.2.2.2), s6.same W, s7, s8, fun k hk => ?_⟩
  obtain ⟨t1, t2, t3, t4, t5⟩ := s9 k hk
  have ne : ad k ≠ o := Ne.symm (s7 k hk)
  exact ⟨t1, t2.wr W, t3.other W (Or.inl ne), t4.other W (Or.inl ne), t5.other W (Or.inl ne)⟩
theorem own_p_passed (X : Stand p l e R s m args below meth c T locs cells slots) (hx : p.tables.exec = Jvm.exec) (hZ : Z.Warmed39 s.vm) {own : String} {index kk : Nat} (hown : s.vm.findClass own = some m.cls) (w : (Cond.fieldLink own index own_CO "passed" "J").before a0 Z = true) (wl : (Cond.lays own_CO own_CO "passed" "J").before a0 Z = true) (wi : (Cond.instantiable own_CO kk).before a0 Z = true) (eT : T.heap = h) (S : own_S Z h n0 N ad K o bf af nu nw ps) (sl : own_SL Z) (Nf : Fr n0 locs) (v : Int64)
    {g : JFrame} (hg : g.method = m) {rest : List Value} (hs : g.stack = .long v :: .ref o :: rest) (hd : decode c.code g.pc = .ok (.putfield index, 3)) :
    ∃ T' h' L, Stand p l e R s m args below meth c T' L cells slots ∧ T'.heap = h' ∧ Fr n0 L ∧ own_S Z h' n0 N ad K o bf af nu nw v ∧ ∀ target, Steps p.tables e below (T'.setTop { g with pc := g.pc + 3, stack := rest }) target → Steps p.tables e below (T.setTop g) target := by
  have S' := S
  obtain ⟨s1, s2, s3, s4, s5, s6, s7, s8, s9⟩ := S
  obtain ⟨T', h', X', e', W, st⟩ := putF X hx hZ hown (host := "") (Or.inl w) Via.refl eT s6 s3 (Or.inl wl) wi (ty := .long) (by decide) rfl rfl hg hs hd
  exact ⟨T', h', _, X', e', Fr.snoc X' Nf s2, S'.put_passed sl v W, st⟩
theorem own_g_start (X : Stand p l e R s m args below meth c T locs cells slots) (hx : p.tables.exec = Jvm.exec) (hZ : Z.Warmed39 s.vm) {own : String} {index : Nat} (hown : s.vm.findClass own = some m.cls) (w : (Cond.fieldLink own index own_CO "start" own_LD).before a0 Z = true) (eT : T.heap = h) (S : own_S Z h n0 N ad K o bf af nu nw ps)
    {g : JFrame} (hg : g.method = m) {rest : List Value} (hs : g.stack = .ref o :: rest) (hd : decode c.code g.pc = .ok (.getfield index, 3)) :
    ∃ T', Stand p l e R s m args below meth c T' locs cells slots ∧ T'.heap = h ∧ ∀ target, Steps p.tables e below (T'.setTop { g with pc := g.pc + 3, stack := (.ref (ad 0)) :: rest }) target → Steps p.tables e below (T.setTop g) target := by
  obtain ⟨s1, s2, s3, s4, s5, s6, s7, s8, s9⟩ := S
  exact getF X hx hZ hown (host := "") (Or.inl w) Via.refl eT s4 hg hs hd
theorem own_g_newest (X : Stand p l e R s m args below meth c T locs cells slots) (hx : p.tables.exec = Jvm.exec) (hZ : Z.Warmed39 s.vm) {own : String} {index : Nat} (hown : s.vm.findClass own = some m.cls) (w : (Cond.fieldLink own index own_CO "newest" "J").before a0 Z = true) (eT : T.heap = h) (S : own_S Z h n0 N ad K o bf af nu nw ps)
    {g : JFrame} (hg : g.method = m) {rest : List Value} (hs : g.stack = .ref o :: rest) (hd : decode c.code g.pc = .ok (.getfield index, 3)) :
    ∃ T', Stand p l e R s m args below meth c T' locs cells slots ∧ T'.heap = h ∧ ∀ target, Steps p.tables e below (T'.setTop { g with pc := g.pc + 3, stack := (.long nw) :: rest }) target → Steps p.tables e below (T.setTop g) target := by
  obtain ⟨s1, s2, s3, s4, s5, s6, s7, s8, s9⟩ := S
  exact getF X hx hZ hown (host := "") (Or.inl w) Via.refl eT s5 hg hs hd
theorem own_g_passed (X : Stand p l e R s m args below meth c T locs cells slots) (hx : p.tables.exec = Jvm.exec) (hZ : Z.Warmed39 s.vm) {own : String} {index : Nat} (hown : s.vm.findClass own = some m.cls) (w : (Cond.fieldLink own index own_CO "passed" "J").before a0 Z = true) (eT : T.heap = h) (S : own_S Z h n0 N ad K o bf af nu nw ps)
    {g : JFrame} (hg : g.method = m) {rest : List Value} (hs : g.stack = .ref o :: rest) (hd : decode c.code g.pc = .ok (.getfield index, 3)) :
    ∃ T', Stand p l e R s m args below meth c T' locs cells slots ∧ T'.heap = h ∧ ∀ target, Steps p.tables e below (T'.setTop { g with pc := g.pc + 3, stack := (.long ps) :: rest }) target → Steps p.tables e below (T.setTop g) target := by
  obtain ⟨s1, s2, s3, s4, s5, s6, s7, s8, s9⟩ := S
  exact getF X hx hZ hown (host := "") (Or.inl w) Via.refl eT s6 hg hs hd
theorem own_dup2x1 (X : Stand p l e R s m args below meth c T locs cells slots) (hx : p.tables.exec = Jvm.exec) {x : Int64} {y : Value} (hy : y.category = 1) {g : JFrame} (hg : g.method = m) {rest : List Value} (hs : g.stack = .long x :: y :: rest) (hd : decode c.code g.pc = .ok (.dup2_x1, 1)) :
    ∀ t, Steps p.tables e below (T.setTop { g with pc := g.pc + 1, stack := .long x :: y :: .long x :: rest }) t → Steps p.tables e below (T.setTop g) t := by
  intro t k
  subst hg
  jvm_step X.here [X.here.top, hx, hd, hs, hy, show (Value.long x).category = 2 from rfl]
  exact k
end OwnLk
def own_lb (f : Nat → Option Nat) (i p q : Nat) : Nat → Option Nat := own_u (own_u f i (some p)) q (some i)
def own_rmb (bf af : Nat → Option Nat) (i : Nat) : Nat → Option Nat := match af i, bf i with | some q, some p => own_u (own_u bf q (some p)) i none | _, _ => bf
def own_rma (bf af : Nat → Option Nat) (i : Nat) : Nat → Option Nat := match af i, bf i with | some q, some p => own_u (own_u af p (some q)) i none | _, _ => af
theorem own_us {α : Type} {f : Nat → α} {i p : Nat} {v : α} (h : f i = v) : own_u f p v i = v := by unfold own_u; split <;> simp [h]
theorem own_wf1 {bf af : Nat → Option Nat} {N i q p : Nat} (hA : af i = some q) (hB : bf i = some p) (hq : q < N) (hp : p < N) : ∀ q, af i = some q → q < N ∧ ∃ p, p < N ∧ bf i = some p := fun q' h => by
  rw [hA] at h
  cases h
  exact ⟨hq, p, hp, hB⟩
theorem own_wf0 {bf af : Nat → Option Nat} {N i : Nat} (hA : af i = none) : ∀ q, af i = some q → q < N ∧ ∃ p, p < N ∧ bf i = some p := fun q' h => by
  rw [hA] at h
  cases h
theorem d3_0 : decode prog_38_method_1_code 0 = .ok (.aload_n 0, 1) := by decide +kernel
theorem d3_1 : decode prog_38_method_1_code 1 = .ok (.invokespecial 1, 3) := by decide +kernel
theorem d3_4 : decode prog_38_method_1_code 4 = .ok (.return_, 1) := by decide +kernel
theorem pn_com_example_brazier_brazier_keyspace_ChangeOrder_Link : plainName "com/example/brazier/brazier/keyspace/ChangeOrder$Link" = true := by first | (simp [plainName, overriddenIn]; done) | decide +kernel
theorem ef_3 (m : MethodId) (o0 : Addr) : entryFrame m #[(.ref o0)] 1 = mkF m 0 #[.val (.ref o0)] [] := by first | (simp [entryFrame, mkF, argsToLocals, Value.category]; done) | rfl
def Q3  (h0 : Heap) (n0 : Nat) (v : Option Value) (h : Heap) (L : List Loc) : Prop := v = none ∧ Fr n0 L ∧ h = h0
set_option maxRecDepth 65536 in
set_option maxHeartbeats 40000000 in
theorem rm3 (l : Launch) (Z : State) (a0 : Array Value) (hw : ∀ d ∈ tables_1, d.before a0 Z = true) (ws : List Jvm.Cond) (o0 : Addr)   (h0 : Heap) (n0 : Nat) (Z0 : n0 ≤ h0.size)   :
    MetFree l (⟨"com/example/brazier/brazier/keyspace/ChangeOrder$Link", "<init>", "()V"⟩ : MethodName) (head1 (Jvm.Cond.code (⟨"com/example/brazier/brazier/keyspace/ChangeOrder$Link", "<init>", "()V"⟩ : MethodName) prog_38_method_1_code 1 none :: ws) ({ frames := 1, cells := 0, slots := 0, locals := 12 } : Room)) (fun a U => a = #[(.ref o0)] ∧ Z.Warmed39 U.vm ∧ U.heap = h0) (fun _ _ _ _ _ => True) (fun _ U o U' => ∃ v L, o = .returned v ∧ Q3  h0 n0 v U'.heap L ∧ FrameEnd U o U' L ({ frames := 1, cells := 0, slots := 0, locals := 12 } : Room).cells ({ frames := 1, cells := 0, slots := 0, locals := 12 } : Room).slots) := by
  refine MetFree.of_bodySF (plainFor_of_name pn_com_example_brazier_brazier_keyspace_ChangeOrder_Link) hisR ?_
  intro p e s m args below meth c s₁ Bd hml0 hP hK
  obtain ⟨rfl, hZ, hh⟩ := hP
  have hx := Bd.exec
  have hby := Bd.bytes
  have hlk : meth.locks = false := BodyLoose.notSynchronized Bd
  have hml : c.maxLocals = 1 := hml0
  have hown : s.vm.findClass "com/example/brazier/brazier/keyspace/ChangeOrder$Link" = some m.cls := findClass_of_methodNamed Bd.named
  have hnm := (name_of_methodNamed Bd.named Bd.method).1
  have X0 : Stand p l e ({ frames := 1, cells := 0, slots := 0, locals := 12 } : Room) s m #[(.ref o0)] below meth c s₁ [] 0 0 := Stand.of_body Bd
  have e0 : s₁.heap = h0 := by rw [← hh, Bd.state]; rfl
  have N0 := Fr.nil n0
  refine own_by (U' := s₁.setTop (mkF m 0 #[.val (.ref o0)] [])) (fun t k => castTop (ef_3 m o0) k) ?_
  refine own_by (fun _ k => XS.aloadN X0.here hx rfl (hb hby d3_0) rfl rfl k) ?_
  show own_Fin p.tables e below _ (s₁.setTop (mkF m 1 #[.val (.ref o0)] [(.ref o0)]))
  obtain ⟨T1, X1, e1, st1⟩ := initO X0 hx hZ hown (hw _ (List.mem_of_getElem? (i := 15) rfl)) (hw _ (List.mem_of_getElem? (i := 7) rfl)) (hw _ (List.mem_of_getElem? (i := 8) rfl)) e0 (g := (mkF m 1 #[.val (.ref o0)] [(.ref o0)])) rfl (by rw [hml]; rfl) rfl (hb hby d3_1) (by decide) (W := 0) (by show 2 * 0 + _ ≤ _; exact Nat.le_of_eq rfl) (by decide)
  refine own_by st1 ?_
  show own_Fin p.tables e below _ (T1.setTop (mkF m 4 #[.val (.ref o0)] []))
  exact own_retV X1 hx Bd.returns hlk (hb hby d3_4) (by decide) (by decide) ⟨rfl, N0, e1⟩
theorem d4_0 : decode prog_39_method_1_code 0 = .ok (.aload_n 0, 1) := by decide +kernel
theorem d4_1 : decode prog_39_method_1_code 1 = .ok (.invokespecial 1, 3) := by decide +kernel
theorem d4_4 : decode prog_39_method_1_code 4 = .ok (.return_, 1) := by decide +kernel
theorem pd___V : parseMethodDescriptor "()V" = some ⟨[], none⟩ := by decide +kernel
theorem pn_com_example_brazier_brazier_keyspace_ChangeOrder_Place : plainName "com/example/brazier/brazier/keyspace/ChangeOrder$Place" = true := by first | (simp [plainName, overriddenIn]; done) | decide +kernel
theorem ef_4 (m : MethodId) (o0 : Addr) : entryFrame m #[(.ref o0)] 1 = mkF m 0 #[.val (.ref o0)] [] := by first | (simp [entryFrame, mkF, argsToLocals, Value.category]; done) | rfl
def Q4  (h0 : Heap) (n0 : Nat) (v : Option Value) (h : Heap) (L : List Loc) : Prop := v = none ∧ Fr n0 L ∧ h = h0
set_option maxRecDepth 65536 in
set_option maxHeartbeats 40000000 in
theorem rm4 (l : Launch) (Z : State) (a0 : Array Value) (hw : ∀ d ∈ tables_1, d.before a0 Z = true) (ws : List Jvm.Cond) (o0 : Addr)   (h0 : Heap) (n0 : Nat) (Z0 : n0 ≤ h0.size)   :
    MetFree l (⟨"com/example/brazier/brazier/keyspace/ChangeOrder$Place", "<init>", "()V"⟩ : MethodName) (head1 (Jvm.Cond.code (⟨"com/example/brazier/brazier/keyspace/ChangeOrder$Place", "<init>", "()V"⟩ : MethodName) prog_39_method_1_code 1 none :: ws) ({ frames := 2, cells := 0, slots := 0, locals := 24 } : Room)) (fun a U => a = #[(.ref o0)] ∧ Z.Warmed39 U.vm ∧ U.heap = h0) (fun _ _ _ _ _ => True) (fun _ U o U' => ∃ v L, o = .returned v ∧ Q4  h0 n0 v U'.heap L ∧ FrameEnd U o U' L ({ frames := 2, cells := 0, slots := 0, locals := 24 } : Room).cells ({ frames := 2, cells := 0, slots := 0, locals := 24 } : Room).slots) := by
  refine MetFree.of_bodySF (plainFor_of_name pn_com_example_brazier_brazier_keyspace_ChangeOrder_Place) hisR ?_
  intro p e s m args below meth c s₁ Bd hml0 hP hK
  obtain ⟨rfl, hZ, hh⟩ := hP
  have hx := Bd.exec
  have hby := Bd.bytes
  have hlk : meth.locks = false := BodyLoose.notSynchronized Bd
  have hml : c.maxLocals = 1 := hml0
  have hown : s.vm.findClass "com/example/brazier/brazier/keyspace/ChangeOrder$Place" = some m.cls := findClass_of_methodNamed Bd.named
  have hnm := (name_of_methodNamed Bd.named Bd.method).1
  have X0 : Stand p l e ({ frames := 2, cells := 0, slots := 0, locals := 24 } : Room) s m #[(.ref o0)] below meth c s₁ [] 0 0 := Stand.of_body Bd
  have e0 : s₁.heap = h0 := by rw [← hh, Bd.state]; rfl
  have N0 := Fr.nil n0
  refine own_by (U' := s₁.setTop (mkF m 0 #[.val (.ref o0)] [])) (fun t k => castTop (ef_4 m o0) k) ?_
  refine own_by (fun _ k => XS.aloadN X0.here hx rfl (hb hby d4_0) rfl rfl k) ?_
  show own_Fin p.tables e below _ (s₁.setTop (mkF m 1 #[.val (.ref o0)] [(.ref o0)]))
  obtain ⟨_, _, ⟨T1, L1, k1, n1⟩, -, X1, ⟨Lc1, hQ1, l1, y1, z1⟩, st1⟩ := X0.specialBack hx (y := (⟨"com/example/brazier/brazier/keyspace/ChangeOrder$Link", "<init>", "()V"⟩ : MethodName)) rfl hown (mvT hZ (hw _ (List.mem_of_getElem? (i := 30) rfl))) (mvT hZ (hw _ (List.mem_of_getElem? (i := 13) rfl))) (mvT hZ (hw _ (List.mem_of_getElem? (i := 14) rfl))) (by decide) (backOf (W := 0) (rm3 l Z a0 hw [] o0 h0 n0 Z0 ) hZ (hw _ (List.mem_of_getElem? (i := 14) rfl)) (hw _ (List.mem_of_getElem? (i := 11) rfl)) (by decide) (by decide)) (g := (mkF m 1 #[.val (.ref o0)] [(.ref o0)])) rfl (by rw [hml]; rfl) (Steps.refl _) (a := o0) (argsL := []) (rest := []) (lenOf pd___V rfl) rfl (by show 2 * 0 + _ ≤ _; exact Nat.le_of_eq rfl) (hb hby d4_1) (fun _ _ => ⟨rfl, e0, (by decide : 0 + 0 ≤ _), (by decide : 0 + 0 ≤ _)⟩)
  dsimp only [Pt.U, Pt.locs, Pt.cells, Pt.slots] at X1 l1 y1 z1 st1 hQ1
  subst l1 y1 z1
  obtain ⟨rfl, N1q, e1⟩ := hQ1
  have N1 := Fr.app N0 N1q
  refine own_by (fun _ k => st1.trans k) ?_
  show own_Fin p.tables e below _ (T1.setTop (mkF m 4 #[.val (.ref o0)] []))
  exact own_retV X1 hx Bd.returns hlk (hb hby d4_4) (by decide) (by decide) ⟨rfl, N1, e1⟩
theorem d6_0 : decode prog_37_method_11_code 0 = .ok (.aload_n 0, 1) := by decide +kernel
theorem d6_1 : decode prog_37_method_11_code 1 = .ok (.aload_n 1, 1) := by decide +kernel
theorem d6_2 : decode prog_37_method_11_code 2 = .ok (.putfield 16, 3) := by decide +kernel
theorem d6_5 : decode prog_37_method_11_code 5 = .ok (.aload_n 0, 1) := by decide +kernel
theorem d6_6 : decode prog_37_method_11_code 6 = .ok (.aload_n 2, 1) := by decide +kernel
theorem d6_7 : decode prog_37_method_11_code 7 = .ok (.putfield 19, 3) := by decide +kernel
theorem d6_10 : decode prog_37_method_11_code 10 = .ok (.aload_n 1, 1) := by decide +kernel
theorem d6_11 : decode prog_37_method_11_code 11 = .ok (.aload_n 0, 1) := by decide +kernel
theorem d6_12 : decode prog_37_method_11_code 12 = .ok (.putfield 19, 3) := by decide +kernel
theorem d6_15 : decode prog_37_method_11_code 15 = .ok (.aload_n 2, 1) := by decide +kernel
theorem d6_16 : decode prog_37_method_11_code 16 = .ok (.aload_n 0, 1) := by decide +kernel
theorem d6_17 : decode prog_37_method_11_code 17 = .ok (.putfield 16, 3) := by decide +kernel
theorem d6_20 : decode prog_37_method_11_code 20 = .ok (.return_, 1) := by decide +kernel
theorem pn_com_example_brazier_brazier_keyspace_ChangeOrder : plainName "com/example/brazier/brazier/keyspace/ChangeOrder" = true := by first | (simp [plainName, overriddenIn]; done) | decide +kernel
theorem ef_6 (m : MethodId) (o0 : Addr) (o1 : Addr) (o2 : Addr) : entryFrame m #[(.ref o0), (.ref o1), (.ref o2)] 3 = mkF m 0 #[.val (.ref o0), .val (.ref o1), .val (.ref o2)] [] := by first | (simp [entryFrame, mkF, argsToLocals, Value.category]; done) | rfl
def Q6 (Z : State) (N : Nat) (ad : Nat → Addr) (K : Nat → String) (ow : Addr) (bf af : Nat → Option Nat) (nu : Nat → Int64) (nw ps : Int64) (xi xp xq : Nat) (h0 : Heap) (n0 : Nat) (v : Option Value) (h : Heap) (L : List Loc) : Prop := v = none ∧ Fr n0 L ∧ own_S Z h n0 N ad K ow (own_lb bf xi xp xq) (own_lb af xi xq xp) nu nw ps
set_option maxRecDepth 65536 in
set_option maxHeartbeats 40000000 in
theorem rm6 (l : Launch) (Z : State) (a0 : Array Value) (hw : ∀ d ∈ tables_1, d.before a0 Z = true) (ws : List Jvm.Cond)   (N : Nat) (ad : Nat → Addr) (K : Nat → String) (ow : Addr) (bf af : Nat → Option Nat) (nu : Nat → Int64) (nw ps : Int64) (xi xp xq : Nat) (h0 : Heap) (n0 : Nat) (Z0 : n0 ≤ h0.size)  (S : own_S Z h0 n0 N ad K ow bf af nu nw ps) (sl : own_SL Z) (wk : own_WK Z N K) (hi : xi < N) (hp : xp < N) (hq : xq < N) :
    MetFree l (⟨"com/example/brazier/brazier/keyspace/ChangeOrder", "linkBetween", "(Lcom/example/brazier/brazier/keyspace/ChangeOrder$Link;Lcom/example/brazier/brazier/keyspace/ChangeOrder$Link;Lcom/example/brazier/brazier/keyspace/ChangeOrder$Link;)V"⟩ : MethodName) (head1 (Jvm.Cond.code (⟨"com/example/brazier/brazier/keyspace/ChangeOrder", "linkBetween", "(Lcom/example/brazier/brazier/keyspace/ChangeOrder$Link;Lcom/example/brazier/brazier/keyspace/ChangeOrder$Link;Lcom/example/brazier/brazier/keyspace/ChangeOrder$Link;)V"⟩ : MethodName) prog_37_method_11_code 3 none :: ws) ({ frames := 0, cells := 0, slots := 0, locals := 0 } : Room)) (fun a U => a = #[(.ref (ad xi)), (.ref (ad xp)), (.ref (ad xq))] ∧ Z.Warmed39 U.vm ∧ U.heap = h0) (fun _ _ _ _ _ => True) (fun _ U o U' => ∃ v L, o = .returned v ∧ Q6 Z N ad K ow bf af nu nw ps xi xp xq  h0 n0 v U'.heap L ∧ FrameEnd U o U' L ({ frames := 0, cells := 0, slots := 0, locals := 0 } : Room).cells ({ frames := 0, cells := 0, slots := 0, locals := 0 } : Room).slots) := by
  refine MetFree.of_bodySF (plainFor_of_name pn_com_example_brazier_brazier_keyspace_ChangeOrder) hisR ?_
  intro p e s m args below meth c s₁ Bd hml0 hP hK
  obtain ⟨rfl, hZ, hh⟩ := hP
  have hx := Bd.exec
  have hby := Bd.bytes
  have hlk : meth.locks = false := BodyLoose.notSynchronized Bd
  have hml : c.maxLocals = 3 := hml0
  have hown : s.vm.findClass "com/example/brazier/brazier/keyspace/ChangeOrder" = some m.cls := findClass_of_methodNamed Bd.named
  have hnm := (name_of_methodNamed Bd.named Bd.method).1
  have X0 : Stand p l e ({ frames := 0, cells := 0, slots := 0, locals := 0 } : Room) s m #[(.ref (ad xi)), (.ref (ad xp)), (.ref (ad xq))] below meth c s₁ [] 0 0 := Stand.of_body Bd
  have e0 : s₁.heap = h0 := by rw [← hh, Bd.state]; rfl
  have N0 := Fr.nil n0
  refine own_by (U' := s₁.setTop (mkF m 0 #[.val (.ref (ad xi)), .val (.ref (ad xp)), .val (.ref (ad xq))] [])) (fun t k => castTop (ef_6 m (ad xi) (ad xp) (ad xq)) k) ?_
  refine own_by (fun _ k => XS.aloadN X0.here hx rfl (hb hby d6_0) rfl rfl k) ?_
  show own_Fin p.tables e below _ (s₁.setTop (mkF m 1 #[.val (.ref (ad xi)), .val (.ref (ad xp)), .val (.ref (ad xq))] [(.ref (ad xi))]))
  refine own_by (fun _ k => XS.aloadN X0.here hx rfl (hb hby d6_1) rfl rfl k) ?_
  show own_Fin p.tables e below _ (s₁.setTop (mkF m 2 #[.val (.ref (ad xi)), .val (.ref (ad xp)), .val (.ref (ad xq))] [(.ref (ad xp)), (.ref (ad xi))]))
  obtain ⟨T1, h1, L1, X1, e1, N1, S1, st1⟩ := own_pB X0 hx hZ hown (hw _ (List.mem_of_getElem? (i := 18) rfl)) e0 S sl wk N0 xi hi (some xp) (g := (mkF m 2 #[.val (.ref (ad xi)), .val (.ref (ad xp)), .val (.ref (ad xq))] [(.ref (ad xp)), (.ref (ad xi))])) rfl rfl (hb hby d6_2)
  refine own_by st1 ?_
  show own_Fin p.tables e below _ (T1.setTop (mkF m 5 #[.val (.ref (ad xi)), .val (.ref (ad xp)), .val (.ref (ad xq))] []))
  refine own_by (fun _ k => XS.aloadN X1.here hx rfl (hb hby d6_5) rfl rfl k) ?_
  show own_Fin p.tables e below _ (T1.setTop (mkF m 6 #[.val (.ref (ad xi)), .val (.ref (ad xp)), .val (.ref (ad xq))] [(.ref (ad xi))]))
  refine own_by (fun _ k => XS.aloadN X1.here hx rfl (hb hby d6_6) rfl rfl k) ?_
  show own_Fin p.tables e below _ (T1.setTop (mkF m 7 #[.val (.ref (ad xi)), .val (.ref (ad xp)), .val (.ref (ad xq))] [(.ref (ad xq)), (.ref (ad xi))]))
  obtain ⟨T2, h2, L2, X2, e2, N2, S2, st2⟩ := own_pA X1 hx hZ hown (hw _ (List.mem_of_getElem? (i := 20) rfl)) e1 S1 sl wk N1 xi hi (some xq) (g := (mkF m 7 #[.val (.ref (ad xi)), .val (.ref (ad xp)), .val (.ref (ad xq))] [(.ref (ad xq)), (.ref (ad xi))])) rfl rfl (hb hby d6_7)
  refine own_by st2 ?_
  show own_Fin p.tables e below _ (T2.setTop (mkF m 10 #[.val (.ref (ad xi)), .val (.ref (ad xp)), .val (.ref (ad xq))] []))
  refine own_by (fun _ k => XS.aloadN X2.here hx rfl (hb hby d6_10) rfl rfl k) ?_
  show own_Fin p.tables e below _ (T2.setTop (mkF m 11 #[.val (.ref (ad xi)), .val (.ref (ad xp)), .val (.ref (ad xq))] [(.ref (ad xp))]))
  refine own_by (fun _ k => XS.aloadN X2.here hx rfl (hb hby d6_11) rfl rfl k) ?_
  show own_Fin p.tables e below _ (T2.setTop (mkF m 12 #[.val (.ref (ad xi)), .val (.ref (ad xp)), .val (.ref (ad xq))] [(.ref (ad xi)), (.ref (ad xp))]))
  obtain ⟨T3, h3, L3, X3, e3, N3, S3, st3⟩ := own_pA X2 hx hZ hown (hw _ (List.mem_of_getElem? (i := 20) rfl)) e2 S2 sl wk N2 xp hp (some xi) (g := (mkF m 12 #[.val (.ref (ad xi)), .val (.ref (ad xp)), .val (.ref (ad xq))] [(.ref (ad xi)), (.ref (ad xp))])) rfl rfl (hb hby d6_12)
  refine own_by st3 ?_
  show own_Fin p.tables e below _ (T3.setTop (mkF m 15 #[.val (.ref (ad xi)), .val (.ref (ad xp)), .val (.ref (ad xq))] []))
  refine own_by (fun _ k => XS.aloadN X3.here hx rfl (hb hby d6_15) rfl rfl k) ?_
  show own_Fin p.tables e below _ (T3.setTop (mkF m 16 #[.val (.ref (ad xi)), .val (.ref (ad xp)), .val (.ref (ad xq))] [(.ref (ad xq))]))
  refine own_by (fun _ k => XS.aloadN X3.here hx rfl (hb hby d6_16) rfl rfl k) ?_
  show own_Fin p.tables e below _ (T3.setTop (mkF m 17 #[.val (.ref (ad xi)), .val (.ref (ad xp)), .val (.ref (ad xq))] [(.ref (ad xi)), (.ref (ad xq))]))
  obtain ⟨T4, h4, L4, X4, e4, N4, S4, st4⟩ := own_pB X3 hx hZ hown (hw _ (List.mem_of_getElem? (i := 18) rfl)) e3 S3 sl wk N3 xq hq (some xi) (g := (mkF m 17 #[.val (.ref (ad xi)), .val (.ref (ad xp)), .val (.ref (ad xq))] [(.ref (ad xi)), (.ref (ad xq))])) rfl rfl (hb hby d6_17)
  refine own_by st4 ?_
  show own_Fin p.tables e below _ (T4.setTop (mkF m 20 #[.val (.ref (ad xi)), .val (.ref (ad xp)), .val (.ref (ad xq))] []))
  exact own_retV X4 hx Bd.returns hlk (hb hby d6_20) (by decide) (by decide) (by rw [e4]; exact ⟨rfl, N4, S4⟩)
theorem d5_0 : decode prog_37_method_2_code 0 = .ok (.aload_n 1, 1) := by decide +kernel
theorem d5_1 : decode prog_37_method_2_code 1 = .ok (.aload_n 0, 1) := by decide +kernel
theorem d5_2 : decode prog_37_method_2_code 2 = .ok (.dup, 1) := by decide +kernel
theorem d5_3 : decode prog_37_method_2_code 3 = .ok (.getfield 22, 3) := by decide +kernel
theorem d5_6 : decode prog_37_method_2_code 6 = .ok (.lconst 1, 1) := by decide +kernel
theorem d5_7 : decode prog_37_method_2_code 7 = .ok (.ladd, 1) := by decide +kernel
theorem d5_8 : decode prog_37_method_2_code 8 = .ok (.dup2_x1, 1) := by decide +kernel
theorem d5_9 : decode prog_37_method_2_code 9 = .ok (.putfield 22, 3) := by decide +kernel
theorem d5_12 : decode prog_37_method_2_code 12 = .ok (.putfield 26, 3) := by decide +kernel
theorem d5_15 : decode prog_37_method_2_code 15 = .ok (.aload_n 1, 1) := by decide +kernel
theorem d5_16 : decode prog_37_method_2_code 16 = .ok (.aload_n 0, 1) := by decide +kernel
theorem d5_17 : decode prog_37_method_2_code 17 = .ok (.getfield 10, 3) := by decide +kernel
theorem d5_20 : decode prog_37_method_2_code 20 = .ok (.getfield 16, 3) := by decide +kernel
theorem d5_23 : decode prog_37_method_2_code 23 = .ok (.aload_n 0, 1) := by decide +kernel
theorem d5_24 : decode prog_37_method_2_code 24 = .ok (.getfield 10, 3) := by decide +kernel
theorem d5_27 : decode prog_37_method_2_code 27 = .ok (.invokestatic 29, 3) := by decide +kernel
theorem d5_30 : decode prog_37_method_2_code 30 = .ok (.return_, 1) := by decide +kernel
theorem pd__Lcom_example_brazier_brazier_keyspace_ChangeOrder_Link_Lcom_example_brazier_brazier_keyspace_ChangeOrder_Link_Lcom_example_brazier_brazier_keyspace_ChangeOrder_Link__V : parseMethodDescriptor "(Lcom/example/brazier/brazier/keyspace/ChangeOrder$Link;Lcom/example/brazier/brazier/keyspace/ChangeOrder$Link;Lcom/example/brazier/brazier/keyspace/ChangeOrder$Link;)V" = some ⟨[(.object "com/example/brazier/brazier/keyspace/ChangeOrder$Link"), (.object "com/example/brazier/brazier/keyspace/ChangeOrder$Link"), (.object "com/example/brazier/brazier/keyspace/ChangeOrder$Link")], none⟩ := by decide +kernel
theorem ef_5 (m : MethodId) (o0 : Addr) (o1 : Addr) : entryFrame m #[(.ref o0), (.ref o1)] 2 = mkF m 0 #[.val (.ref o0), .val (.ref o1)] [] := by first | (simp [entryFrame, mkF, argsToLocals, Value.category]; done) | rfl
def Q5 (Z : State) (N : Nat) (ad : Nat → Addr) (K : Nat → String) (ow : Addr) (bf af : Nat → Option Nat) (nu : Nat → Int64) (nw ps : Int64) (xi xp : Nat) (h0 : Heap) (n0 : Nat) (v : Option Value) (h : Heap) (L : List Loc) : Prop := v = none ∧ Fr n0 L ∧ own_S Z h n0 N ad K ow (own_lb bf xi xp 0) (own_lb af xi 0 xp) (own_u nu xi (nw + (1 : Int64))) (nw + (1 : Int64)) ps
set_option maxRecDepth 65536 in
set_option maxHeartbeats 40000000 in
theorem rm5 (l : Launch) (Z : State) (a0 : Array Value) (hw : ∀ d ∈ tables_1, d.before a0 Z = true) (ws : List Jvm.Cond)   (N : Nat) (ad : Nat → Addr) (K : Nat → String) (ow : Addr) (bf af : Nat → Option Nat) (nu : Nat → Int64) (nw ps : Int64) (xi xp : Nat) (h0 : Heap) (n0 : Nat) (Z0 : n0 ≤ h0.size)  (S : own_S Z h0 n0 N ad K ow bf af nu nw ps) (sl : own_SL Z) (wk : own_WK Z N K) (hi : xi < N) (h00 : 0 < N) (hp : xp < N) (hbp : bf 0 = some xp) :
    MetFree l (⟨"com/example/brazier/brazier/keyspace/ChangeOrder", "add", "(Lcom/example/brazier/brazier/keyspace/ChangeOrder$Link;)V"⟩ : MethodName) (head1 (Jvm.Cond.code (⟨"com/example/brazier/brazier/keyspace/ChangeOrder", "add", "(Lcom/example/brazier/brazier/keyspace/ChangeOrder$Link;)V"⟩ : MethodName) prog_37_method_2_code 2 none :: ws) ({ frames := 1, cells := 0, slots := 0, locals := 14 } : Room)) (fun a U => a = #[(.ref ow), (.ref (ad xi))] ∧ Z.Warmed39 U.vm ∧ U.heap = h0) (fun _ _ _ _ _ => True) (fun _ U o U' => ∃ v L, o = .returned v ∧ Q5 Z N ad K ow bf af nu nw ps xi xp  h0 n0 v U'.heap L ∧ FrameEnd U o U' L ({ frames := 1, cells := 0, slots := 0, locals := 14 } : Room).cells ({ frames := 1, cells := 0, slots := 0, locals := 14 } : Room).slots) := by
  refine MetFree.of_bodySF (plainFor_of_name pn_com_example_brazier_brazier_keyspace_ChangeOrder) hisR ?_
  intro p e s m args below meth c s₁ Bd hml0 hP hK
  obtain ⟨rfl, hZ, hh⟩ := hP
  have hx := Bd.exec
  have hby := Bd.bytes
  have hlk : meth.locks = false := BodyLoose.notSynchronized Bd
  have hml : c.maxLocals = 2 := hml0
  have hown : s.vm.findClass "com/example/brazier/brazier/keyspace/ChangeOrder" = some m.cls := findClass_of_methodNamed Bd.named
  have hnm := (name_of_methodNamed Bd.named Bd.method).1
  have X0 : Stand p l e ({ frames := 1, cells := 0, slots := 0, locals := 14 } : Room) s m #[(.ref ow), (.ref (ad xi))] below meth c s₁ [] 0 0 := Stand.of_body Bd
  have e0 : s₁.heap = h0 := by rw [← hh, Bd.state]; rfl
  have N0 := Fr.nil n0
  refine own_by (U' := s₁.setTop (mkF m 0 #[.val (.ref ow), .val (.ref (ad xi))] [])) (fun t k => castTop (ef_5 m ow (ad xi)) k) ?_
  refine own_by (fun _ k => XS.aloadN X0.here hx rfl (hb hby d5_0) rfl rfl k) ?_
  show own_Fin p.tables e below _ (s₁.setTop (mkF m 1 #[.val (.ref ow), .val (.ref (ad xi))] [(.ref (ad xi))]))
  refine own_by (fun _ k => XS.aloadN X0.here hx rfl (hb hby d5_1) rfl rfl k) ?_
  show own_Fin p.tables e below _ (s₁.setTop (mkF m 2 #[.val (.ref ow), .val (.ref (ad xi))] [(.ref ow), (.ref (ad xi))]))
  refine own_by (fun _ k => XS.dup X0.here hx rfl (hb hby d5_2) rfl rfl k) ?_
  show own_Fin p.tables e below _ (s₁.setTop (mkF m 3 #[.val (.ref ow), .val (.ref (ad xi))] [(.ref ow), (.ref ow), (.ref (ad xi))]))
  obtain ⟨T1, X1, e1, st1⟩ := own_g_newest X0 hx hZ hown (hw _ (List.mem_of_getElem? (i := 37) rfl)) e0 S (g := (mkF m 3 #[.val (.ref ow), .val (.ref (ad xi))] [(.ref ow), (.ref ow), (.ref (ad xi))])) rfl rfl (hb hby d5_3)
  refine own_by st1 ?_
  show own_Fin p.tables e below _ (T1.setTop (mkF m 6 #[.val (.ref ow), .val (.ref (ad xi))] [(.long nw), (.ref ow), (.ref (ad xi))]))
  refine own_by (fun _ k => XS.lconst X1.here hx rfl (hb hby d5_6) k) ?_
  show own_Fin p.tables e below _ (T1.setTop (mkF m 7 #[.val (.ref ow), .val (.ref (ad xi))] [(.long (1 : Int64)), (.long nw), (.ref ow), (.ref (ad xi))]))
  refine own_by (fun _ k => XS.ladd X1.here hx rfl (hb hby d5_7) rfl k) ?_
  show own_Fin p.tables e below _ (T1.setTop (mkF m 8 #[.val (.ref ow), .val (.ref (ad xi))] [(.long (nw + (1 : Int64))), (.ref ow), (.ref (ad xi))]))
  refine own_by (own_dup2x1 X1 hx (g := (mkF m 8 #[.val (.ref ow), .val (.ref (ad xi))] [(.long (nw + (1 : Int64))), (.ref ow), (.ref (ad xi))])) rfl rfl rfl (hb hby d5_8)) ?_
  show own_Fin p.tables e below _ (T1.setTop (mkF m 9 #[.val (.ref ow), .val (.ref (ad xi))] [(.long (nw + (1 : Int64))), (.ref ow), (.long (nw + (1 : Int64))), (.ref (ad xi))]))
  obtain ⟨T2, h2, L2, X2, e2, N2, S2, st2⟩ := own_p_newest X1 hx hZ hown (hw _ (List.mem_of_getElem? (i := 37) rfl)) (hw _ (List.mem_of_getElem? (i := 38) rfl)) (hw _ (List.mem_of_getElem? (i := 1) rfl)) e1 S sl N0 (nw + (1 : Int64)) (g := (mkF m 9 #[.val (.ref ow), .val (.ref (ad xi))] [(.long (nw + (1 : Int64))), (.ref ow), (.long (nw + (1 : Int64))), (.ref (ad xi))])) rfl rfl (hb hby d5_9)
  refine own_by st2 ?_
  show own_Fin p.tables e below _ (T2.setTop (mkF m 12 #[.val (.ref ow), .val (.ref (ad xi))] [(.long (nw + (1 : Int64))), (.ref (ad xi))]))
  obtain ⟨T3, h3, L3, X3, e3, N3, S3, st3⟩ := own_pN X2 hx hZ hown (hw _ (List.mem_of_getElem? (i := 39) rfl)) e2 S2 sl wk N2 xi hi (nw + (1 : Int64)) (g := (mkF m 12 #[.val (.ref ow), .val (.ref (ad xi))] [(.long (nw + (1 : Int64))), (.ref (ad xi))])) rfl rfl (hb hby d5_12)
  refine own_by st3 ?_
  show own_Fin p.tables e below _ (T3.setTop (mkF m 15 #[.val (.ref ow), .val (.ref (ad xi))] []))
  refine own_by (fun _ k => XS.aloadN X3.here hx rfl (hb hby d5_15) rfl rfl k) ?_
  show own_Fin p.tables e below _ (T3.setTop (mkF m 16 #[.val (.ref ow), .val (.ref (ad xi))] [(.ref (ad xi))]))
  refine own_by (fun _ k => XS.aloadN X3.here hx rfl (hb hby d5_16) rfl rfl k) ?_
  show own_Fin p.tables e below _ (T3.setTop (mkF m 17 #[.val (.ref ow), .val (.ref (ad xi))] [(.ref ow), (.ref (ad xi))]))
  obtain ⟨T4, X4, e4, st4⟩ := own_g_start X3 hx hZ hown (hw _ (List.mem_of_getElem? (i := 16) rfl)) e3 S3 (g := (mkF m 17 #[.val (.ref ow), .val (.ref (ad xi))] [(.ref ow), (.ref (ad xi))])) rfl rfl (hb hby d5_17)
  refine own_by st4 ?_
  show own_Fin p.tables e below _ (T4.setTop (mkF m 20 #[.val (.ref ow), .val (.ref (ad xi))] [(.ref (ad 0)), (.ref (ad xi))]))
  refine own_by (own_gB X4 hx hZ hown (hw _ (List.mem_of_getElem? (i := 18) rfl)) e4 S3 0 h00 (g := (mkF m 20 #[.val (.ref ow), .val (.ref (ad xi))] [(.ref (ad 0)), (.ref (ad xi))])) rfl rfl (hb hby d5_20) (w' := (.ref (ad xp))) (by rw [hbp]; rfl)) ?_
  show own_Fin p.tables e below _ (T4.setTop (mkF m 23 #[.val (.ref ow), .val (.ref (ad xi))] [(.ref (ad xp)), (.ref (ad xi))]))
  refine own_by (fun _ k => XS.aloadN X4.here hx rfl (hb hby d5_23) rfl rfl k) ?_
  show own_Fin p.tables e below _ (T4.setTop (mkF m 24 #[.val (.ref ow), .val (.ref (ad xi))] [(.ref ow), (.ref (ad xp)), (.ref (ad xi))]))
  obtain ⟨T5, X5, e5, st5⟩ := own_g_start X4 hx hZ hown (hw _ (List.mem_of_getElem? (i := 16) rfl)) e4 S3 (g := (mkF m 24 #[.val (.ref ow), .val (.ref (ad xi))] [(.ref ow), (.ref (ad xp)), (.ref (ad xi))])) rfl rfl (hb hby d5_24)
  refine own_by st5 ?_
  show own_Fin p.tables e below _ (T5.setTop (mkF m 27 #[.val (.ref ow), .val (.ref (ad xi))] [(.ref (ad 0)), (.ref (ad xp)), (.ref (ad xi))]))
  obtain ⟨_, _, ⟨T6, L6, k6, n6⟩, -, X6, ⟨Lc6, hQ6, l6, y6, z6⟩, st6⟩ := Jvm.LawKit.callS X5 hx (y := (⟨"com/example/brazier/brazier/keyspace/ChangeOrder", "linkBetween", "(Lcom/example/brazier/brazier/keyspace/ChangeOrder$Link;Lcom/example/brazier/brazier/keyspace/ChangeOrder$Link;Lcom/example/brazier/brazier/keyspace/ChangeOrder$Link;)V"⟩ : MethodName)) hown (mvT hZ (hw _ (List.mem_of_getElem? (i := 41) rfl))) (mvT hZ (hw _ (List.mem_of_getElem? (i := 42) rfl))) (mvT hZ (hw _ (List.mem_of_getElem? (i := 2) rfl))) (mvT hZ (hw _ (List.mem_of_getElem? (i := 43) rfl))) (by decide) (backOf (W := 0) (rm6 l Z a0 hw [] N ad K ow bf af (own_u nu xi (nw + (1 : Int64))) (nw + (1 : Int64)) ps xi xp 0 h3 n0 S3.1 S3 sl wk hi hp h00) hZ (hw _ (List.mem_of_getElem? (i := 43) rfl)) (hw _ (List.mem_of_getElem? (i := 2) rfl)) (by decide) (by decide)) (g := (mkF m 27 #[.val (.ref ow), .val (.ref (ad xi))] [(.ref (ad 0)), (.ref (ad xp)), (.ref (ad xi))])) rfl (by rw [hml]; rfl) (argsL := [(.ref (ad xi)), (.ref (ad xp)), (.ref (ad 0))]) (rest := []) (lenOf pd__Lcom_example_brazier_brazier_keyspace_ChangeOrder_Link_Lcom_example_brazier_brazier_keyspace_ChangeOrder_Link_Lcom_example_brazier_brazier_keyspace_ChangeOrder_Link__V rfl) rfl (by show 2 * 0 + _ ≤ _; exact Nat.le_of_eq rfl) (hb hby d5_27) (fun _ _ => ⟨rfl, e5, (by decide : 0 + 0 ≤ _), (by decide : 0 + 0 ≤ _)⟩)
  dsimp only [Pt.U, Pt.locs, Pt.cells, Pt.slots] at X6 l6 y6 z6 st6 hQ6
  subst l6 y6 z6
  obtain ⟨rfl, N6q, S6⟩ := hQ6
  have N6 := Fr.app N3 N6q
  refine own_by st6 ?_
  show own_Fin p.tables e below _ (T6.setTop (mkF m 30 #[.val (.ref ow), .val (.ref (ad xi))] []))
  exact own_retV X6 hx Bd.returns hlk (hb hby d5_30) (by decide) (by decide) (by exact ⟨rfl, N6, S6⟩)
theorem d9_0 : decode prog_37_method_4_code 0 = .ok (.aload_n 1, 1) := by decide +kernel
theorem d9_1 : decode prog_37_method_4_code 1 = .ok (.getfield 19, 3) := by decide +kernel
theorem d9_4 : decode prog_37_method_4_code 4 = .ok (.ifnull 35, 3) := by decide +kernel
theorem d9_7 : decode prog_37_method_4_code 7 = .ok (.aload_n 1, 1) := by decide +kernel
theorem d9_8 : decode prog_37_method_4_code 8 = .ok (.getfield 16, 3) := by decide +kernel
theorem d9_11 : decode prog_37_method_4_code 11 = .ok (.aload_n 1, 1) := by decide +kernel
theorem d9_12 : decode prog_37_method_4_code 12 = .ok (.getfield 19, 3) := by decide +kernel
theorem d9_15 : decode prog_37_method_4_code 15 = .ok (.putfield 19, 3) := by decide +kernel
theorem d9_18 : decode prog_37_method_4_code 18 = .ok (.aload_n 1, 1) := by decide +kernel
theorem d9_19 : decode prog_37_method_4_code 19 = .ok (.getfield 19, 3) := by decide +kernel
theorem d9_22 : decode prog_37_method_4_code 22 = .ok (.aload_n 1, 1) := by decide +kernel
theorem d9_23 : decode prog_37_method_4_code 23 = .ok (.getfield 16, 3) := by decide +kernel
theorem d9_26 : decode prog_37_method_4_code 26 = .ok (.putfield 16, 3) := by decide +kernel
theorem d9_29 : decode prog_37_method_4_code 29 = .ok (.aload_n 1, 1) := by decide +kernel
theorem d9_30 : decode prog_37_method_4_code 30 = .ok (.aconst_null, 1) := by decide +kernel
theorem d9_31 : decode prog_37_method_4_code 31 = .ok (.putfield 16, 3) := by decide +kernel
theorem d9_34 : decode prog_37_method_4_code 34 = .ok (.aload_n 1, 1) := by decide +kernel
theorem d9_35 : decode prog_37_method_4_code 35 = .ok (.aconst_null, 1) := by decide +kernel
theorem d9_36 : decode prog_37_method_4_code 36 = .ok (.putfield 19, 3) := by decide +kernel
theorem d9_39 : decode prog_37_method_4_code 39 = .ok (.return_, 1) := by decide +kernel
theorem ef_9 (m : MethodId) (o0 : Addr) (o1 : Addr) : entryFrame m #[(.ref o0), (.ref o1)] 2 = mkF m 0 #[.val (.ref o0), .val (.ref o1)] [] := by first | (simp [entryFrame, mkF, argsToLocals, Value.category]; done) | rfl
def Q9 (Z : State) (N : Nat) (ad : Nat → Addr) (K : Nat → String) (ow : Addr) (bf af : Nat → Option Nat) (nu : Nat → Int64) (nw ps : Int64) (xi : Nat) (h0 : Heap) (n0 : Nat) (v : Option Value) (h : Heap) (L : List Loc) : Prop := v = none ∧ Fr n0 L ∧ own_S Z h n0 N ad K ow (own_rmb bf af xi) (own_rma bf af xi) nu nw ps
set_option maxRecDepth 65536 in
set_option maxHeartbeats 40000000 in
theorem rm9 (l : Launch) (Z : State) (a0 : Array Value) (hw : ∀ d ∈ tables_1, d.before a0 Z = true) (ws : List Jvm.Cond)   (N : Nat) (ad : Nat → Addr) (K : Nat → String) (ow : Addr) (bf af : Nat → Option Nat) (nu : Nat → Int64) (nw ps : Int64) (xi : Nat) (h0 : Heap) (n0 : Nat) (Z0 : n0 ≤ h0.size)  (S : own_S Z h0 n0 N ad K ow bf af nu nw ps) (sl : own_SL Z) (wk : own_WK Z N K) (hi : xi < N) (hw' : ∀ q, af xi = some q → q < N ∧ ∃ p, p < N ∧ bf xi = some p) :
    MetFree l (⟨"com/example/brazier/brazier/keyspace/ChangeOrder", "remove", "(Lcom/example/brazier/brazier/keyspace/ChangeOrder$Link;)V"⟩ : MethodName) (head1 (Jvm.Cond.code (⟨"com/example/brazier/brazier/keyspace/ChangeOrder", "remove", "(Lcom/example/brazier/brazier/keyspace/ChangeOrder$Link;)V"⟩ : MethodName) prog_37_method_4_code 2 none :: ws) ({ frames := 0, cells := 0, slots := 0, locals := 0 } : Room)) (fun a U => a = #[(.ref ow), (.ref (ad xi))] ∧ Z.Warmed39 U.vm ∧ U.heap = h0) (fun _ _ _ _ _ => True) (fun _ U o U' => ∃ v L, o = .returned v ∧ Q9 Z N ad K ow bf af nu nw ps xi  h0 n0 v U'.heap L ∧ FrameEnd U o U' L ({ frames := 0, cells := 0, slots := 0, locals := 0 } : Room).cells ({ frames := 0, cells := 0, slots := 0, locals := 0 } : Room).slots) := by
  refine MetFree.of_bodySF (plainFor_of_name pn_com_example_brazier_brazier_keyspace_ChangeOrder) hisR ?_
  intro p e s m args below meth c s₁ Bd hml0 hP hK
  obtain ⟨rfl, hZ, hh⟩ := hP
  have hx := Bd.exec
  have hby := Bd.bytes
  have hlk : meth.locks = false := BodyLoose.notSynchronized Bd
  have hml : c.maxLocals = 2 := hml0
  have hown : s.vm.findClass "com/example/brazier/brazier/keyspace/ChangeOrder" = some m.cls := findClass_of_methodNamed Bd.named
  have hnm := (name_of_methodNamed Bd.named Bd.method).1
  have X0 : Stand p l e ({ frames := 0, cells := 0, slots := 0, locals := 0 } : Room) s m #[(.ref ow), (.ref (ad xi))] below meth c s₁ [] 0 0 := Stand.of_body Bd
  have e0 : s₁.heap = h0 := by rw [← hh, Bd.state]; rfl
  have N0 := Fr.nil n0
  refine own_by (U' := s₁.setTop (mkF m 0 #[.val (.ref ow), .val (.ref (ad xi))] [])) (fun t k => castTop (ef_9 m ow (ad xi)) k) ?_
  refine own_by (fun _ k => XS.aloadN X0.here hx rfl (hb hby d9_0) rfl rfl k) ?_
  show own_Fin p.tables e below _ (s₁.setTop (mkF m 1 #[.val (.ref ow), .val (.ref (ad xi))] [(.ref (ad xi))]))
  cases hA : af xi with
  | none =>
    refine own_by (own_gA X0 hx hZ hown (hw _ (List.mem_of_getElem? (i := 20) rfl)) e0 S xi hi (g := (mkF m 1 #[.val (.ref ow), .val (.ref (ad xi))] [(.ref (ad xi))])) rfl rfl (hb hby d9_1) (w' := .null) (by rw [hA]; rfl)) ?_
    show own_Fin p.tables e below _ (s₁.setTop (mkF m 4 #[.val (.ref ow), .val (.ref (ad xi))] [.null]))
    refine own_by (fun _ k => XS.ifnullYes X0.here hx rfl (pc0 := 4) (pc' := 39) rfl (hb hby d9_4) rfl (by decide) (by decide) k) ?_
    show own_Fin p.tables e below _ (s₁.setTop (mkF m 39 #[.val (.ref ow), .val (.ref (ad xi))] []))
    exact own_retV X0 hx Bd.returns hlk (hb hby d9_39) (by decide) (by decide) (by rw [e0]; exact ⟨rfl, N0, (by rw [show own_rmb bf af xi = bf from by simp only [own_rmb, hA], show own_rma bf af xi = af from by simp only [own_rma, hA]]; exact S)⟩)
  | some xq =>
    obtain ⟨hq, xp, hp, hB⟩ := hw' xq hA
    refine own_by (own_gA X0 hx hZ hown (hw _ (List.mem_of_getElem? (i := 20) rfl)) e0 S xi hi (g := (mkF m 1 #[.val (.ref ow), .val (.ref (ad xi))] [(.ref (ad xi))])) rfl rfl (hb hby d9_1) (w' := .ref (ad xq)) (by rw [hA]; rfl)) ?_
    show own_Fin p.tables e below _ (s₁.setTop (mkF m 4 #[.val (.ref ow), .val (.ref (ad xi))] [(.ref (ad xq))]))
    refine own_by (fun _ k => XS.ifnullNo X0.here hx rfl (hb hby d9_4) rfl k) ?_
    show own_Fin p.tables e below _ (s₁.setTop (mkF m 7 #[.val (.ref ow), .val (.ref (ad xi))] []))
    refine own_by (fun _ k => XS.aloadN X0.here hx rfl (hb hby d9_7) rfl rfl k) ?_
    show own_Fin p.tables e below _ (s₁.setTop (mkF m 8 #[.val (.ref ow), .val (.ref (ad xi))] [(.ref (ad xi))]))
    refine own_by (own_gB X0 hx hZ hown (hw _ (List.mem_of_getElem? (i := 18) rfl)) e0 S xi hi (g := (mkF m 8 #[.val (.ref ow), .val (.ref (ad xi))] [(.ref (ad xi))])) rfl rfl (hb hby d9_8) (w' := (.ref (ad xp))) (by rw [hB]; rfl)) ?_
    show own_Fin p.tables e below _ (s₁.setTop (mkF m 11 #[.val (.ref ow), .val (.ref (ad xi))] [(.ref (ad xp))]))
    refine own_by (fun _ k => XS.aloadN X0.here hx rfl (hb hby d9_11) rfl rfl k) ?_
    show own_Fin p.tables e below _ (s₁.setTop (mkF m 12 #[.val (.ref ow), .val (.ref (ad xi))] [(.ref (ad xi)), (.ref (ad xp))]))
    refine own_by (own_gA X0 hx hZ hown (hw _ (List.mem_of_getElem? (i := 20) rfl)) e0 S xi hi (g := (mkF m 12 #[.val (.ref ow), .val (.ref (ad xi))] [(.ref (ad xi)), (.ref (ad xp))])) rfl rfl (hb hby d9_12) (w' := (.ref (ad xq))) (by rw [hA]; rfl)) ?_
    show own_Fin p.tables e below _ (s₁.setTop (mkF m 15 #[.val (.ref ow), .val (.ref (ad xi))] [(.ref (ad xq)), (.ref (ad xp))]))
    obtain ⟨T1, h1, L1, X1, e1, N1, S1, st1⟩ := own_pA X0 hx hZ hown (hw _ (List.mem_of_getElem? (i := 20) rfl)) e0 S sl wk N0 xp hp (some xq) (g := (mkF m 15 #[.val (.ref ow), .val (.ref (ad xi))] [(.ref (ad xq)), (.ref (ad xp))])) rfl rfl (hb hby d9_15)
    refine own_by st1 ?_
    show own_Fin p.tables e below _ (T1.setTop (mkF m 18 #[.val (.ref ow), .val (.ref (ad xi))] []))
    refine own_by (fun _ k => XS.aloadN X1.here hx rfl (hb hby d9_18) rfl rfl k) ?_
    show own_Fin p.tables e below _ (T1.setTop (mkF m 19 #[.val (.ref ow), .val (.ref (ad xi))] [(.ref (ad xi))]))
    refine own_by (own_gA X1 hx hZ hown (hw _ (List.mem_of_getElem? (i := 20) rfl)) e1 S1 xi hi (g := (mkF m 19 #[.val (.ref ow), .val (.ref (ad xi))] [(.ref (ad xi))])) rfl rfl (hb hby d9_19) (w' := (.ref (ad xq))) (by rw [own_us hA]; rfl)) ?_
    show own_Fin p.tables e below _ (T1.setTop (mkF m 22 #[.val (.ref ow), .val (.ref (ad xi))] [(.ref (ad xq))]))
    refine own_by (fun _ k => XS.aloadN X1.here hx rfl (hb hby d9_22) rfl rfl k) ?_
    show own_Fin p.tables e below _ (T1.setTop (mkF m 23 #[.val (.ref ow), .val (.ref (ad xi))] [(.ref (ad xi)), (.ref (ad xq))]))
    refine own_by (own_gB X1 hx hZ hown (hw _ (List.mem_of_getElem? (i := 18) rfl)) e1 S1 xi hi (g := (mkF m 23 #[.val (.ref ow), .val (.ref (ad xi))] [(.ref (ad xi)), (.ref (ad xq))])) rfl rfl (hb hby d9_23) (w' := (.ref (ad xp))) (by rw [hB]; rfl)) ?_
    show own_Fin p.tables e below _ (T1.setTop (mkF m 26 #[.val (.ref ow), .val (.ref (ad xi))] [(.ref (ad xp)), (.ref (ad xq))]))
    obtain ⟨T2, h2, L2, X2, e2, N2, S2, st2⟩ := own_pB X1 hx hZ hown (hw _ (List.mem_of_getElem? (i := 18) rfl)) e1 S1 sl wk N1 xq hq (some xp) (g := (mkF m 26 #[.val (.ref ow), .val (.ref (ad xi))] [(.ref (ad xp)), (.ref (ad xq))])) rfl rfl (hb hby d9_26)
    refine own_by st2 ?_
    show own_Fin p.tables e below _ (T2.setTop (mkF m 29 #[.val (.ref ow), .val (.ref (ad xi))] []))
    refine own_by (fun _ k => XS.aloadN X2.here hx rfl (hb hby d9_29) rfl rfl k) ?_
    show own_Fin p.tables e below _ (T2.setTop (mkF m 30 #[.val (.ref ow), .val (.ref (ad xi))] [(.ref (ad xi))]))
    refine own_by (fun _ k => XS.aconstNull X2.here hx rfl (hb hby d9_30) k) ?_
    show own_Fin p.tables e below _ (T2.setTop (mkF m 31 #[.val (.ref ow), .val (.ref (ad xi))] [.null, (.ref (ad xi))]))
    obtain ⟨T3, h3, L3, X3, e3, N3, S3, st3⟩ := own_pB X2 hx hZ hown (hw _ (List.mem_of_getElem? (i := 18) rfl)) e2 S2 sl wk N2 xi hi none (g := (mkF m 31 #[.val (.ref ow), .val (.ref (ad xi))] [.null, (.ref (ad xi))])) rfl rfl (hb hby d9_31)
    refine own_by st3 ?_
    show own_Fin p.tables e below _ (T3.setTop (mkF m 34 #[.val (.ref ow), .val (.ref (ad xi))] []))
    refine own_by (fun _ k => XS.aloadN X3.here hx rfl (hb hby d9_34) rfl rfl k) ?_
    show own_Fin p.tables e below _ (T3.setTop (mkF m 35 #[.val (.ref ow), .val (.ref (ad xi))] [(.ref (ad xi))]))
    refine own_by (fun _ k => XS.aconstNull X3.here hx rfl (hb hby d9_35) k) ?_
    show own_Fin p.tables e below _ (T3.setTop (mkF m 36 #[.val (.ref ow), .val (.ref (ad xi))] [.null, (.ref (ad xi))]))
    obtain ⟨T4, h4, L4, X4, e4, N4, S4, st4⟩ := own_pA X3 hx hZ hown (hw _ (List.mem_of_getElem? (i := 20) rfl)) e3 S3 sl wk N3 xi hi none (g := (mkF m 36 #[.val (.ref ow), .val (.ref (ad xi))] [.null, (.ref (ad xi))])) rfl rfl (hb hby d9_36)
    refine own_by st4 ?_
    show own_Fin p.tables e below _ (T4.setTop (mkF m 39 #[.val (.ref ow), .val (.ref (ad xi))] []))
    exact own_retV X4 hx Bd.returns hlk (hb hby d9_39) (by decide) (by decide) (by rw [e4]; exact ⟨rfl, N4, (by rw [show own_rmb bf af xi = (own_u (own_u bf xq (some xp)) xi none) from by simp only [own_rmb, hA, hB], show own_rma bf af xi = (own_u (own_u af xp (some xq)) xi none) from by simp only [own_rma, hA, hB]]; exact S4)⟩)
abbrev own_raw (v : Value) : Value := v
theorem d7_0 : decode prog_37_method_9_code 0 = .ok (.aload_n 1, 1) := by decide +kernel
theorem d7_1 : decode prog_37_method_9_code 1 = .ok (.getfield 19, 3) := by decide +kernel
theorem d7_4 : decode prog_37_method_9_code 4 = .ok (.areturn, 1) := by decide +kernel
theorem ef_7 (m : MethodId) (o0 : Addr) (o1 : Addr) : entryFrame m #[(.ref o0), (.ref o1)] 2 = mkF m 0 #[.val (.ref o0), .val (.ref o1)] [] := by first | (simp [entryFrame, mkF, argsToLocals, Value.category]; done) | rfl
def Q7 (Z : State) (N : Nat) (ad : Nat → Addr) (K : Nat → String) (ow : Addr) (bf af : Nat → Option Nat) (nu : Nat → Int64) (nw ps : Int64) (xi : Nat) (h0 : Heap) (n0 : Nat) (v : Option Value) (h : Heap) (L : List Loc) : Prop := v = some (own_nx ad (af xi)) ∧ Fr n0 L ∧ h = h0
set_option maxRecDepth 65536 in
set_option maxHeartbeats 40000000 in
theorem rm7 (l : Launch) (Z : State) (a0 : Array Value) (hw : ∀ d ∈ tables_1, d.before a0 Z = true) (ws : List Jvm.Cond)   (N : Nat) (ad : Nat → Addr) (K : Nat → String) (ow : Addr) (bf af : Nat → Option Nat) (nu : Nat → Int64) (nw ps : Int64) (xi : Nat) (h0 : Heap) (n0 : Nat) (Z0 : n0 ≤ h0.size)  (S : own_S Z h0 n0 N ad K ow bf af nu nw ps) (sl : own_SL Z) (wk : own_WK Z N K) (hi : xi < N) :
    MetFree l (⟨"com/example/brazier/brazier/keyspace/ChangeOrder", "after", "(Lcom/example/brazier/brazier/keyspace/ChangeOrder$Link;)Lcom/example/brazier/brazier/keyspace/ChangeOrder$Link;"⟩ : MethodName) (head1 (Jvm.Cond.code (⟨"com/example/brazier/brazier/keyspace/ChangeOrder", "after", "(Lcom/example/brazier/brazier/keyspace/ChangeOrder$Link;)Lcom/example/brazier/brazier/keyspace/ChangeOrder$Link;"⟩ : MethodName) prog_37_method_9_code 2 (some (.object "com/example/brazier/brazier/keyspace/ChangeOrder$Link")) :: ws) ({ frames := 0, cells := 0, slots := 0, locals := 0 } : Room)) (fun a U => a = #[(.ref ow), (.ref (ad xi))] ∧ Z.Warmed39 U.vm ∧ U.heap = h0) (fun _ _ _ _ _ => True) (fun _ U o U' => ∃ v L, o = .returned v ∧ Q7 Z N ad K ow bf af nu nw ps xi  h0 n0 v U'.heap L ∧ FrameEnd U o U' L ({ frames := 0, cells := 0, slots := 0, locals := 0 } : Room).cells ({ frames := 0, cells := 0, slots := 0, locals := 0 } : Room).slots) := by
  refine MetFree.of_bodySF (plainFor_of_name pn_com_example_brazier_brazier_keyspace_ChangeOrder) hisR ?_
  intro p e s m args below meth c s₁ Bd hml0 hP hK
  obtain ⟨rfl, hZ, hh⟩ := hP
  have hx := Bd.exec
  have hby := Bd.bytes
  have hlk : meth.locks = false := BodyLoose.notSynchronized Bd
  have hml : c.maxLocals = 2 := hml0
  have hown : s.vm.findClass "com/example/brazier/brazier/keyspace/ChangeOrder" = some m.cls := findClass_of_methodNamed Bd.named
  have hnm := (name_of_methodNamed Bd.named Bd.method).1
  have X0 : Stand p l e ({ frames := 0, cells := 0, slots := 0, locals := 0 } : Room) s m #[(.ref ow), (.ref (ad xi))] below meth c s₁ [] 0 0 := Stand.of_body Bd
  have e0 : s₁.heap = h0 := by rw [← hh, Bd.state]; rfl
  have N0 := Fr.nil n0
  refine own_by (U' := s₁.setTop (mkF m 0 #[.val (.ref ow), .val (.ref (ad xi))] [])) (fun t k => castTop (ef_7 m ow (ad xi)) k) ?_
  refine own_by (fun _ k => XS.aloadN X0.here hx rfl (hb hby d7_0) rfl rfl k) ?_
  show own_Fin p.tables e below _ (s₁.setTop (mkF m 1 #[.val (.ref ow), .val (.ref (ad xi))] [(.ref (ad xi))]))
  refine own_by (own_gA X0 hx hZ hown (hw _ (List.mem_of_getElem? (i := 20) rfl)) e0 S xi hi (g := (mkF m 1 #[.val (.ref ow), .val (.ref (ad xi))] [(.ref (ad xi))])) rfl rfl (hb hby d7_1) (w' := (own_nx ad (af xi))) rfl) ?_
  show own_Fin p.tables e below _ (s₁.setTop (mkF m 4 #[.val (.ref ow), .val (.ref (ad xi))] [(own_nx ad (af xi))]))
  exact own_retA X0 hx Bd.returns hlk rfl (own_nxr _ _) (hb hby d7_4) (by decide) (by decide) ⟨rfl, N0, e0⟩
theorem d12_0 : decode jdk_29_method_66_code 0 = .ok (.lload_n 0, 1) := by decide +kernel
theorem d12_1 : decode jdk_29_method_66_code 1 = .ok (.lload_n 2, 1) := by decide +kernel
theorem d12_2 : decode jdk_29_method_66_code 2 = .ok (.lcmp, 1) := by decide +kernel
theorem d12_3 : decode jdk_29_method_66_code 3 = .ok (.ifCond .lt 7, 3) := by decide +kernel
theorem d12_6 : decode jdk_29_method_66_code 6 = .ok (.lload_n 0, 1) := by decide +kernel
theorem d12_7 : decode jdk_29_method_66_code 7 = .ok (.goto 4, 3) := by decide +kernel
theorem d12_10 : decode jdk_29_method_66_code 10 = .ok (.lload_n 2, 1) := by decide +kernel
theorem d12_11 : decode jdk_29_method_66_code 11 = .ok (.lreturn, 1) := by decide +kernel
theorem ef_12 (m : MethodId) (q0 : Int64) (q1 : Int64) : entryFrame m #[(.long q0), (.long q1)] 4 = mkF m 0 #[.val (.long q0), .second, .val (.long q1), .second] [] := by first | (simp [entryFrame, mkF, argsToLocals, Value.category]; done) | rfl
def f12 (q0 : Int64) (q1 : Int64) : Int64 :=
  if q0 < q1 then
    q1
  else
    q0
def Q12 (q0 : Int64) (q1 : Int64) (h0 : Heap) (n0 : Nat) (v : Option Value) (h : Heap) (L : List Loc) : Prop := v = some (.long (f12 q0 q1)) ∧ Fr n0 L ∧ h = h0
set_option maxRecDepth 65536 in
set_option maxHeartbeats 40000000 in
theorem rm12 (l : Launch) (Z : State) (a0 : Array Value) (hw : ∀ d ∈ tables_1, d.before a0 Z = true) (ws : List Jvm.Cond) (q0 : Int64) (q1 : Int64)   (h0 : Heap) (n0 : Nat) (Z0 : n0 ≤ h0.size)   :
    MetFree l (⟨"java/lang/Math", "max", "(JJ)J"⟩ : MethodName) (head1 (Jvm.Cond.code (⟨"java/lang/Math", "max", "(JJ)J"⟩ : MethodName) jdk_29_method_66_code 4 (some .long) :: ws) ({ frames := 0, cells := 0, slots := 0, locals := 0 } : Room)) (fun a U => a = #[(.long q0), (.long q1)] ∧ Z.Warmed39 U.vm ∧ U.heap = h0) (fun _ _ _ _ _ => True) (fun _ U o U' => ∃ v L, o = .returned v ∧ Q12 q0 q1 h0 n0 v U'.heap L ∧ FrameEnd U o U' L ({ frames := 0, cells := 0, slots := 0, locals := 0 } : Room).cells ({ frames := 0, cells := 0, slots := 0, locals := 0 } : Room).slots) := by
  refine MetFree.of_bodySF (Jvm.Free.JP.mathPlain rfl (by decide +kernel)) hisR ?_
  intro p e s m args below meth c s₁ Bd hml0 hP hK
  obtain ⟨rfl, hZ, hh⟩ := hP
  have hx := Bd.exec
  have hby := Bd.bytes
  have hlk : meth.locks = false := BodyLoose.notSynchronized Bd
  have hml : c.maxLocals = 4 := hml0
  have hown : s.vm.findClass "java/lang/Math" = some m.cls := findClass_of_methodNamed Bd.named
  have hnm := (name_of_methodNamed Bd.named Bd.method).1
  have X0 : Stand p l e ({ frames := 0, cells := 0, slots := 0, locals := 0 } : Room) s m #[(.long q0), (.long q1)] below meth c s₁ [] 0 0 := Stand.of_body Bd
  have e0 : s₁.heap = h0 := by rw [← hh, Bd.state]; rfl
  have N0 := Fr.nil n0
  refine own_by (U' := s₁.setTop (mkF m 0 #[.val (.long q0), .second, .val (.long q1), .second] [])) (fun t k => castTop (ef_12 m q0 q1) k) ?_
  refine own_by (fun _ k => XS.lloadN X0.here hx rfl (hb hby d12_0) rfl k) ?_
  show own_Fin p.tables e below _ (s₁.setTop (mkF m 1 #[.val (.long q0), .second, .val (.long q1), .second] [(.long q0)]))
  refine own_by (fun _ k => XS.lloadN X0.here hx rfl (hb hby d12_1) rfl k) ?_
  show own_Fin p.tables e below _ (s₁.setTop (mkF m 2 #[.val (.long q0), .second, .val (.long q1), .second] [(.long q1), (.long q0)]))
  refine own_by (fun _ k => XS.lcmp X0.here hx rfl (hb hby d12_2) rfl k) ?_
  show own_Fin p.tables e below _ (s₁.setTop (mkF m 3 #[.val (.long q0), .second, .val (.long q1), .second] [(.int (lcmpW q0 q1))]))
  by_cases hc1 : q0 < q1
  · refine own_by (fun _ k => XS.ifYes X0.here hx rfl (pc0 := 3) (pc' := 10) rfl (hb hby d12_3) rfl ((if0 _ _).trans (tlt ((lw_lt _ _).mpr hc1)).1) (by decide) (by decide) k) ?_
    show own_Fin p.tables e below _ (s₁.setTop (mkF m 10 #[.val (.long q0), .second, .val (.long q1), .second] []))
    refine own_by (fun _ k => XS.lloadN X0.here hx rfl (hb hby d12_10) rfl k) ?_
    show own_Fin p.tables e below _ (s₁.setTop (mkF m 11 #[.val (.long q0), .second, .val (.long q1), .second] [(.long q1)]))
    have ef : f12 q0 q1 = q1 := by unfold f12; rw [if_pos hc1]
    exact own_retJ X0 hx Bd.returns hlk (hb hby d12_11) (by decide) (by decide) ⟨by rw [ef], N0, e0⟩
  · refine own_by (fun _ k => XS.ifNo X0.here hx rfl (hb hby d12_3) rfl ((if0 _ _).trans (flt (fun q => hc1 ((lw_lt _ _).mp q))).1) k) ?_
    show own_Fin p.tables e below _ (s₁.setTop (mkF m 6 #[.val (.long q0), .second, .val (.long q1), .second] []))
    refine own_by (fun _ k => XS.lloadN X0.here hx rfl (hb hby d12_6) rfl k) ?_
    show own_Fin p.tables e below _ (s₁.setTop (mkF m 7 #[.val (.long q0), .second, .val (.long q1), .second] [(.long q0)]))
    refine own_by (fun _ k => XS.goto X0.here hx rfl (pc0 := 7) (pc' := 11) rfl (hb hby d12_7) (by decide) (by decide) k) ?_
    show own_Fin p.tables e below _ (s₁.setTop (mkF m 11 #[.val (.long q0), .second, .val (.long q1), .second] [(.long q0)]))
    have ef : f12 q0 q1 = q0 := by unfold f12; rw [if_neg hc1]
    exact own_retJ X0 hx Bd.returns hlk (hb hby d12_11) (by decide) (by decide) ⟨by rw [ef], N0, e0⟩
theorem d11_0 : decode prog_37_method_13_code 0 = .ok (.aload_n 0, 1) := by decide +kernel
theorem d11_1 : decode prog_37_method_13_code 1 = .ok (.getfield 26, 3) := by decide +kernel
theorem d11_4 : decode prog_37_method_13_code 4 = .ok (.lreturn, 1) := by decide +kernel
theorem ef_11 (m : MethodId) (o0 : Addr) : entryFrame m #[(.ref o0)] 1 = mkF m 0 #[.val (.ref o0)] [] := by first | (simp [entryFrame, mkF, argsToLocals, Value.category]; done) | rfl
def Q11 (Z : State) (N : Nat) (ad : Nat → Addr) (K : Nat → String) (ow : Addr) (bf af : Nat → Option Nat) (nu : Nat → Int64) (nw ps : Int64) (xi : Nat) (h0 : Heap) (n0 : Nat) (v : Option Value) (h : Heap) (L : List Loc) : Prop := v = some (.long (nu xi)) ∧ Fr n0 L ∧ h = h0
set_option maxRecDepth 65536 in
set_option maxHeartbeats 40000000 in
theorem rm11 (l : Launch) (Z : State) (a0 : Array Value) (hw : ∀ d ∈ tables_1, d.before a0 Z = true) (ws : List Jvm.Cond)   (N : Nat) (ad : Nat → Addr) (K : Nat → String) (ow : Addr) (bf af : Nat → Option Nat) (nu : Nat → Int64) (nw ps : Int64) (xi : Nat) (h0 : Heap) (n0 : Nat) (Z0 : n0 ≤ h0.size)  (S : own_S Z h0 n0 N ad K ow bf af nu nw ps) (sl : own_SL Z) (wk : own_WK Z N K) (hi : xi < N) :
    MetFree l (⟨"com/example/brazier/brazier/keyspace/ChangeOrder", "numberOf", "(Lcom/example/brazier/brazier/keyspace/ChangeOrder$Link;)J"⟩ : MethodName) (head1 (Jvm.Cond.code (⟨"com/example/brazier/brazier/keyspace/ChangeOrder", "numberOf", "(Lcom/example/brazier/brazier/keyspace/ChangeOrder$Link;)J"⟩ : MethodName) prog_37_method_13_code 1 (some .long) :: ws) ({ frames := 0, cells := 0, slots := 0, locals := 0 } : Room)) (fun a U => a = #[(.ref (ad xi))] ∧ Z.Warmed39 U.vm ∧ U.heap = h0) (fun _ _ _ _ _ => True) (fun _ U o U' => ∃ v L, o = .returned v ∧ Q11 Z N ad K ow bf af nu nw ps xi  h0 n0 v U'.heap L ∧ FrameEnd U o U' L ({ frames := 0, cells := 0, slots := 0, locals := 0 } : Room).cells ({ frames := 0, cells := 0, slots := 0, locals := 0 } : Room).slots) := by
  refine MetFree.of_bodySF (plainFor_of_name pn_com_example_brazier_brazier_keyspace_ChangeOrder) hisR ?_
  intro p e s m args below meth c s₁ Bd hml0 hP hK
  obtain ⟨rfl, hZ, hh⟩ := hP
  have hx := Bd.exec
  have hby := Bd.bytes
  have hlk : meth.locks = false := BodyLoose.notSynchronized Bd
  have hml : c.maxLocals = 1 := hml0
  have hown : s.vm.findClass "com/example/brazier/brazier/keyspace/ChangeOrder" = some m.cls := findClass_of_methodNamed Bd.named
  have hnm := (name_of_methodNamed Bd.named Bd.method).1
  have X0 : Stand p l e ({ frames := 0, cells := 0, slots := 0, locals := 0 } : Room) s m #[(.ref (ad xi))] below meth c s₁ [] 0 0 := Stand.of_body Bd
  have e0 : s₁.heap = h0 := by rw [← hh, Bd.state]; rfl
  have N0 := Fr.nil n0
  refine own_by (U' := s₁.setTop (mkF m 0 #[.val (.ref (ad xi))] [])) (fun t k => castTop (ef_11 m (ad xi)) k) ?_
  refine own_by (fun _ k => XS.aloadN X0.here hx rfl (hb hby d11_0) rfl rfl k) ?_
  show own_Fin p.tables e below _ (s₁.setTop (mkF m 1 #[.val (.ref (ad xi))] [(.ref (ad xi))]))
  refine own_by (own_gN X0 hx hZ hown (hw _ (List.mem_of_getElem? (i := 39) rfl)) e0 S xi hi (g := (mkF m 1 #[.val (.ref (ad xi))] [(.ref (ad xi))])) rfl rfl (hb hby d11_1) (w' := (.long (nu xi))) rfl) ?_
  show own_Fin p.tables e below _ (s₁.setTop (mkF m 4 #[.val (.ref (ad xi))] [(.long (nu xi))]))
  exact own_retJ X0 hx Bd.returns hlk (hb hby d11_4) (by decide) (by decide) ⟨rfl, N0, e0⟩
theorem d10_0 : decode prog_37_method_12_code 0 = .ok (.aload_n 0, 1) := by decide +kernel
theorem d10_1 : decode prog_37_method_12_code 1 = .ok (.aload_n 1, 1) := by decide +kernel
theorem d10_2 : decode prog_37_method_12_code 2 = .ok (.aload_n 2, 1) := by decide +kernel
theorem d10_3 : decode prog_37_method_12_code 3 = .ok (.invokestatic 29, 3) := by decide +kernel
theorem d10_6 : decode prog_37_method_12_code 6 = .ok (.aload_n 0, 1) := by decide +kernel
theorem d10_7 : decode prog_37_method_12_code 7 = .ok (.aload_n 1, 1) := by decide +kernel
theorem d10_8 : decode prog_37_method_12_code 8 = .ok (.getfield 26, 3) := by decide +kernel
theorem d10_11 : decode prog_37_method_12_code 11 = .ok (.putfield 26, 3) := by decide +kernel
theorem d10_14 : decode prog_37_method_12_code 14 = .ok (.return_, 1) := by decide +kernel
theorem ef_10 (m : MethodId) (o0 : Addr) (o1 : Addr) (o2 : Addr) : entryFrame m #[(.ref o0), (.ref o1), (.ref o2)] 3 = mkF m 0 #[.val (.ref o0), .val (.ref o1), .val (.ref o2)] [] := by first | (simp [entryFrame, mkF, argsToLocals, Value.category]; done) | rfl
def Q10 (Z : State) (N : Nat) (ad : Nat → Addr) (K : Nat → String) (ow : Addr) (bf af : Nat → Option Nat) (nu : Nat → Int64) (nw ps : Int64) (xi xp xq : Nat) (h0 : Heap) (n0 : Nat) (v : Option Value) (h : Heap) (L : List Loc) : Prop := v = none ∧ Fr n0 L ∧ own_S Z h n0 N ad K ow (own_lb bf xi xp xq) (own_lb af xi xq xp) (own_u nu xi (nu xp)) nw ps
set_option maxRecDepth 65536 in
set_option maxHeartbeats 40000000 in
theorem rm10 (l : Launch) (Z : State) (a0 : Array Value) (hw : ∀ d ∈ tables_1, d.before a0 Z = true) (ws : List Jvm.Cond)   (N : Nat) (ad : Nat → Addr) (K : Nat → String) (ow : Addr) (bf af : Nat → Option Nat) (nu : Nat → Int64) (nw ps : Int64) (xi xp xq : Nat) (h0 : Heap) (n0 : Nat) (Z0 : n0 ≤ h0.size)  (S : own_S Z h0 n0 N ad K ow bf af nu nw ps) (sl : own_SL Z) (wk : own_WK Z N K) (hi : xi < N) (hp : xp < N) (hq : xq < N) :
    MetFree l (⟨"com/example/brazier/brazier/keyspace/ChangeOrder", "placeBetween", "(Lcom/example/brazier/brazier/keyspace/ChangeOrder$Link;Lcom/example/brazier/brazier/keyspace/ChangeOrder$Link;Lcom/example/brazier/brazier/keyspace/ChangeOrder$Link;)V"⟩ : MethodName) (head1 (Jvm.Cond.code (⟨"com/example/brazier/brazier/keyspace/ChangeOrder", "placeBetween", "(Lcom/example/brazier/brazier/keyspace/ChangeOrder$Link;Lcom/example/brazier/brazier/keyspace/ChangeOrder$Link;Lcom/example/brazier/brazier/keyspace/ChangeOrder$Link;)V"⟩ : MethodName) prog_37_method_12_code 3 none :: ws) ({ frames := 1, cells := 0, slots := 0, locals := 14 } : Room)) (fun a U => a = #[(.ref (ad xi)), (.ref (ad xp)), (.ref (ad xq))] ∧ Z.Warmed39 U.vm ∧ U.heap = h0) (fun _ _ _ _ _ => True) (fun _ U o U' => ∃ v L, o = .returned v ∧ Q10 Z N ad K ow bf af nu nw ps xi xp xq  h0 n0 v U'.heap L ∧ FrameEnd U o U' L ({ frames := 1, cells := 0, slots := 0, locals := 14 } : Room).cells ({ frames := 1, cells := 0, slots := 0, locals := 14 } : Room).slots) := by
  refine MetFree.of_bodySF (plainFor_of_name pn_com_example_brazier_brazier_keyspace_ChangeOrder) hisR ?_
  intro p e s m args below meth c s₁ Bd hml0 hP hK
  obtain ⟨rfl, hZ, hh⟩ := hP
  have hx := Bd.exec
  have hby := Bd.bytes
  have hlk : meth.locks = false := BodyLoose.notSynchronized Bd
  have hml : c.maxLocals = 3 := hml0
  have hown : s.vm.findClass "com/example/brazier/brazier/keyspace/ChangeOrder" = some m.cls := findClass_of_methodNamed Bd.named
  have hnm := (name_of_methodNamed Bd.named Bd.method).1
  have X0 : Stand p l e ({ frames := 1, cells := 0, slots := 0, locals := 14 } : Room) s m #[(.ref (ad xi)), (.ref (ad xp)), (.ref (ad xq))] below meth c s₁ [] 0 0 := Stand.of_body Bd
  have e0 : s₁.heap = h0 := by rw [← hh, Bd.state]; rfl
  have N0 := Fr.nil n0
  refine own_by (U' := s₁.setTop (mkF m 0 #[.val (.ref (ad xi)), .val (.ref (ad xp)), .val (.ref (ad xq))] [])) (fun t k => castTop (ef_10 m (ad xi) (ad xp) (ad xq)) k) ?_
  refine own_by (fun _ k => XS.aloadN X0.here hx rfl (hb hby d10_0) rfl rfl k) ?_
  show own_Fin p.tables e below _ (s₁.setTop (mkF m 1 #[.val (.ref (ad xi)), .val (.ref (ad xp)), .val (.ref (ad xq))] [(.ref (ad xi))]))
  refine own_by (fun _ k => XS.aloadN X0.here hx rfl (hb hby d10_1) rfl rfl k) ?_
  show own_Fin p.tables e below _ (s₁.setTop (mkF m 2 #[.val (.ref (ad xi)), .val (.ref (ad xp)), .val (.ref (ad xq))] [(.ref (ad xp)), (.ref (ad xi))]))
  refine own_by (fun _ k => XS.aloadN X0.here hx rfl (hb hby d10_2) rfl rfl k) ?_
  show own_Fin p.tables e below _ (s₁.setTop (mkF m 3 #[.val (.ref (ad xi)), .val (.ref (ad xp)), .val (.ref (ad xq))] [(.ref (ad xq)), (.ref (ad xp)), (.ref (ad xi))]))
  obtain ⟨_, _, ⟨T1, L1, k1, n1⟩, -, X1, ⟨Lc1, hQ1, l1, y1, z1⟩, st1⟩ := Jvm.LawKit.callS X0 hx (y := (⟨"com/example/brazier/brazier/keyspace/ChangeOrder", "linkBetween", "(Lcom/example/brazier/brazier/keyspace/ChangeOrder$Link;Lcom/example/brazier/brazier/keyspace/ChangeOrder$Link;Lcom/example/brazier/brazier/keyspace/ChangeOrder$Link;)V"⟩ : MethodName)) hown (mvT hZ (hw _ (List.mem_of_getElem? (i := 41) rfl))) (mvT hZ (hw _ (List.mem_of_getElem? (i := 42) rfl))) (mvT hZ (hw _ (List.mem_of_getElem? (i := 2) rfl))) (mvT hZ (hw _ (List.mem_of_getElem? (i := 43) rfl))) (by decide) (backOf (W := 0) (rm6 l Z a0 hw [] N ad K ow bf af nu nw ps xi xp xq h0 n0 S.1 S sl wk hi hp hq) hZ (hw _ (List.mem_of_getElem? (i := 43) rfl)) (hw _ (List.mem_of_getElem? (i := 2) rfl)) (by decide) (by decide)) (g := (mkF m 3 #[.val (.ref (ad xi)), .val (.ref (ad xp)), .val (.ref (ad xq))] [(.ref (ad xq)), (.ref (ad xp)), (.ref (ad xi))])) rfl (by rw [hml]; rfl) (argsL := [(.ref (ad xi)), (.ref (ad xp)), (.ref (ad xq))]) (rest := []) (lenOf pd__Lcom_example_brazier_brazier_keyspace_ChangeOrder_Link_Lcom_example_brazier_brazier_keyspace_ChangeOrder_Link_Lcom_example_brazier_brazier_keyspace_ChangeOrder_Link__V rfl) rfl (by show 2 * 0 + _ ≤ _; exact Nat.le_of_eq rfl) (hb hby d10_3) (fun _ _ => ⟨rfl, e0, (by decide : 0 + 0 ≤ _), (by decide : 0 + 0 ≤ _)⟩)
  dsimp only [Pt.U, Pt.locs, Pt.cells, Pt.slots] at X1 l1 y1 z1 st1 hQ1
  subst l1 y1 z1
  obtain ⟨rfl, N1q, S1⟩ := hQ1
  have N1 := Fr.app N0 N1q
  refine own_by st1 ?_
  show own_Fin p.tables e below _ (T1.setTop (mkF m 6 #[.val (.ref (ad xi)), .val (.ref (ad xp)), .val (.ref (ad xq))] []))
  refine own_by (fun _ k => XS.aloadN X1.here hx rfl (hb hby d10_6) rfl rfl k) ?_
  show own_Fin p.tables e below _ (T1.setTop (mkF m 7 #[.val (.ref (ad xi)), .val (.ref (ad xp)), .val (.ref (ad xq))] [(.ref (ad xi))]))
  refine own_by (fun _ k => XS.aloadN X1.here hx rfl (hb hby d10_7) rfl rfl k) ?_
  show own_Fin p.tables e below _ (T1.setTop (mkF m 8 #[.val (.ref (ad xi)), .val (.ref (ad xp)), .val (.ref (ad xq))] [(.ref (ad xp)), (.ref (ad xi))]))
  refine own_by (own_gN X1 hx hZ hown (hw _ (List.mem_of_getElem? (i := 39) rfl)) rfl S1 xp hp (g := (mkF m 8 #[.val (.ref (ad xi)), .val (.ref (ad xp)), .val (.ref (ad xq))] [(.ref (ad xp)), (.ref (ad xi))])) rfl rfl (hb hby d10_8) (w' := (.long (nu xp))) rfl) ?_
  show own_Fin p.tables e below _ (T1.setTop (mkF m 11 #[.val (.ref (ad xi)), .val (.ref (ad xp)), .val (.ref (ad xq))] [(.long (nu xp)), (.ref (ad xi))]))
  obtain ⟨T2, h2, L2, X2, e2, N2, S2, st2⟩ := own_pN X1 hx hZ hown (hw _ (List.mem_of_getElem? (i := 39) rfl)) rfl S1 sl wk N1 xi hi (nu xp) (g := (mkF m 11 #[.val (.ref (ad xi)), .val (.ref (ad xp)), .val (.ref (ad xq))] [(.long (nu xp)), (.ref (ad xi))])) rfl rfl (hb hby d10_11)
  refine own_by st2 ?_
  show own_Fin p.tables e below _ (T2.setTop (mkF m 14 #[.val (.ref (ad xi)), .val (.ref (ad xp)), .val (.ref (ad xq))] []))
  exact own_retV X2 hx Bd.returns hlk (hb hby d10_14) (by decide) (by decide) (by rw [e2]; exact ⟨rfl, N2, S2⟩)
theorem d8_0 : decode prog_37_method_8_code 0 = .ok (.aload_n 0, 1) := by decide +kernel
theorem d8_1 : decode prog_37_method_8_code 1 = .ok (.aload_n 1, 1) := by decide +kernel
theorem d8_2 : decode prog_37_method_8_code 2 = .ok (.invokevirtual 36, 3) := by decide +kernel
theorem d8_5 : decode prog_37_method_8_code 5 = .ok (.aload_n 1, 1) := by decide +kernel
theorem d8_6 : decode prog_37_method_8_code 6 = .ok (.aload_n 2, 1) := by decide +kernel
theorem d8_7 : decode prog_37_method_8_code 7 = .ok (.getfield 16, 3) := by decide +kernel
theorem d8_10 : decode prog_37_method_8_code 10 = .ok (.aload_n 2, 1) := by decide +kernel
theorem d8_11 : decode prog_37_method_8_code 11 = .ok (.invokestatic 47, 3) := by decide +kernel
theorem d8_14 : decode prog_37_method_8_code 14 = .ok (.aload_n 0, 1) := by decide +kernel
theorem d8_15 : decode prog_37_method_8_code 15 = .ok (.aload_n 0, 1) := by decide +kernel
theorem d8_16 : decode prog_37_method_8_code 16 = .ok (.getfield 33, 3) := by decide +kernel
theorem d8_19 : decode prog_37_method_8_code 19 = .ok (.aload_n 1, 1) := by decide +kernel
theorem d8_20 : decode prog_37_method_8_code 20 = .ok (.invokestatic 50, 3) := by decide +kernel
theorem d8_23 : decode prog_37_method_8_code 23 = .ok (.invokestatic 54, 3) := by decide +kernel
theorem d8_26 : decode prog_37_method_8_code 26 = .ok (.putfield 33, 3) := by decide +kernel
theorem d8_29 : decode prog_37_method_8_code 29 = .ok (.return_, 1) := by decide +kernel
theorem pd__Lcom_example_brazier_brazier_keyspace_ChangeOrder_Link__V : parseMethodDescriptor "(Lcom/example/brazier/brazier/keyspace/ChangeOrder$Link;)V" = some ⟨[(.object "com/example/brazier/brazier/keyspace/ChangeOrder$Link")], none⟩ := by decide +kernel
theorem pd__Lcom_example_brazier_brazier_keyspace_ChangeOrder_Link__J : parseMethodDescriptor "(Lcom/example/brazier/brazier/keyspace/ChangeOrder$Link;)J" = some ⟨[(.object "com/example/brazier/brazier/keyspace/ChangeOrder$Link")], some .long⟩ := by decide +kernel
theorem pd__JJ_J : parseMethodDescriptor "(JJ)J" = some ⟨[.long, .long], some .long⟩ := by decide +kernel
theorem ef_8 (m : MethodId) (o0 : Addr) (o1 : Addr) (o2 : Addr) : entryFrame m #[(.ref o0), (.ref o1), (.ref o2)] 3 = mkF m 0 #[.val (.ref o0), .val (.ref o1), .val (.ref o2)] [] := by first | (simp [entryFrame, mkF, argsToLocals, Value.category]; done) | rfl
def Q8 (Z : State) (N : Nat) (ad : Nat → Addr) (K : Nat → String) (ow : Addr) (bf af : Nat → Option Nat) (nu : Nat → Int64) (nw ps : Int64) (xi xj xp : Nat) (h0 : Heap) (n0 : Nat) (v : Option Value) (h : Heap) (L : List Loc) : Prop := v = none ∧ Fr n0 L ∧ own_S Z h n0 N ad K ow (own_lb (own_rmb bf af xi) xi xp xj) (own_lb (own_rma bf af xi) xi xj xp) (own_u nu xi (nu xp)) nw (f12 ps ((own_u nu xi (nu xp)) xi))
set_option maxRecDepth 65536 in
set_option maxHeartbeats 40000000 in
theorem rm8 (l : Launch) (Z : State) (a0 : Array Value) (hw : ∀ d ∈ tables_1, d.before a0 Z = true) (ws : List Jvm.Cond)   (N : Nat) (ad : Nat → Addr) (K : Nat → String) (ow : Addr) (bf af : Nat → Option Nat) (nu : Nat → Int64) (nw ps : Int64) (xi xj xp : Nat) (h0 : Heap) (n0 : Nat) (Z0 : n0 ≤ h0.size)  (S : own_S Z h0 n0 N ad K ow bf af nu nw ps) (sl : own_SL Z) (wk : own_WK Z N K) (hi : xi < N) (hj : xj < N) (hp : xp < N) (hw' : ∀ q, af xi = some q → q < N ∧ ∃ p, p < N ∧ bf xi = some p) (hbp : own_rmb bf af xi xj = some xp) :
    MetFree l (⟨"com/example/brazier/brazier/keyspace/ChangeOrder", "passTo", "(Lcom/example/brazier/brazier/keyspace/ChangeOrder$Place;Lcom/example/brazier/brazier/keyspace/ChangeOrder$Link;)V"⟩ : MethodName) (head1 (Jvm.Cond.code (⟨"com/example/brazier/brazier/keyspace/ChangeOrder", "passTo", "(Lcom/example/brazier/brazier/keyspace/ChangeOrder$Place;Lcom/example/brazier/brazier/keyspace/ChangeOrder$Link;)V"⟩ : MethodName) prog_37_method_8_code 3 none :: ws) ({ frames := 2, cells := 0, slots := 0, locals := 28 } : Room)) (fun a U => a = #[(.ref ow), (.ref (ad xi)), (.ref (ad xj))] ∧ Z.Warmed39 U.vm ∧ U.heap = h0) (fun _ _ _ _ _ => True) (fun _ U o U' => ∃ v L, o = .returned v ∧ Q8 Z N ad K ow bf af nu nw ps xi xj xp  h0 n0 v U'.heap L ∧ FrameEnd U o U' L ({ frames := 2, cells := 0, slots := 0, locals := 28 } : Room).cells ({ frames := 2, cells := 0, slots := 0, locals := 28 } : Room).slots) := by
  refine MetFree.of_bodySF (plainFor_of_name pn_com_example_brazier_brazier_keyspace_ChangeOrder) hisR ?_
  intro p e s m args below meth c s₁ Bd hml0 hP hK
  obtain ⟨rfl, hZ, hh⟩ := hP
  have hx := Bd.exec
  have hby := Bd.bytes
  have hlk : meth.locks = false := BodyLoose.notSynchronized Bd
  have hml : c.maxLocals = 3 := hml0
  have hown : s.vm.findClass "com/example/brazier/brazier/keyspace/ChangeOrder" = some m.cls := findClass_of_methodNamed Bd.named
  have hnm := (name_of_methodNamed Bd.named Bd.method).1
  have X0 : Stand p l e ({ frames := 2, cells := 0, slots := 0, locals := 28 } : Room) s m #[(.ref ow), (.ref (ad xi)), (.ref (ad xj))] below meth c s₁ [] 0 0 := Stand.of_body Bd
  have e0 : s₁.heap = h0 := by rw [← hh, Bd.state]; rfl
  have N0 := Fr.nil n0
  refine own_by (U' := s₁.setTop (mkF m 0 #[.val (.ref ow), .val (.ref (ad xi)), .val (.ref (ad xj))] [])) (fun t k => castTop (ef_8 m ow (ad xi) (ad xj)) k) ?_
  refine own_by (fun _ k => XS.aloadN X0.here hx rfl (hb hby d8_0) rfl rfl k) ?_
  show own_Fin p.tables e below _ (s₁.setTop (mkF m 1 #[.val (.ref ow), .val (.ref (ad xi)), .val (.ref (ad xj))] [(.ref ow)]))
  refine own_by (fun _ k => XS.aloadN X0.here hx rfl (hb hby d8_1) rfl rfl k) ?_
  show own_Fin p.tables e below _ (s₁.setTop (mkF m 2 #[.val (.ref ow), .val (.ref (ad xi)), .val (.ref (ad xj))] [(.ref (ad xi)), (.ref ow)]))
  obtain ⟨cq1, kq1, q1a, q1b, q1c⟩ := isOf hZ e0 S.2.2.1
  obtain ⟨_, _, ⟨T1, L1, k1, n1⟩, -, X1, ⟨Lc1, hQ1, l1, y1, z1⟩, st1⟩ := X0.virtualBack hx (y := (⟨"com/example/brazier/brazier/keyspace/ChangeOrder", "remove", "(Lcom/example/brazier/brazier/keyspace/ChangeOrder$Link;)V"⟩ : MethodName)) (z := (⟨"com/example/brazier/brazier/keyspace/ChangeOrder", "remove", "(Lcom/example/brazier/brazier/keyspace/ChangeOrder$Link;)V"⟩ : MethodName)) hown (mvT hZ (hw _ (List.mem_of_getElem? (i := 55) rfl))) (mvT hZ (hw _ (List.mem_of_getElem? (i := 56) rfl))) (notFace_of_selects (args := #[]) (mvT hZ (hw _ (List.mem_of_getElem? (i := 58) rfl)))) (mvT hZ (hw _ (List.mem_of_getElem? (i := 58) rfl))) (mvT hZ (hw _ (List.mem_of_getElem? (i := 57) rfl))) (by decide) (backOf (W := 0) (rm9 l Z a0 hw [] N ad K ow bf af nu nw ps xi h0 n0 S.1 S sl wk hi hw') hZ (hw _ (List.mem_of_getElem? (i := 59) rfl)) (hw _ (List.mem_of_getElem? (i := 2) rfl)) (by decide) (by decide)) q1a q1c (g := (mkF m 2 #[.val (.ref ow), .val (.ref (ad xi)), .val (.ref (ad xj))] [(.ref (ad xi)), (.ref ow)])) rfl (by rw [hml]; rfl) (Steps.refl _) (argsL := [(.ref (ad xi))]) (rest := []) (lenOf pd__Lcom_example_brazier_brazier_keyspace_ChangeOrder_Link__V rfl) rfl (by show 2 * 0 + _ ≤ _; exact Nat.le_of_eq rfl) (hb hby d8_2) (fun _ _ => ⟨rfl, e0, (by decide : 0 + 0 ≤ _), (by decide : 0 + 0 ≤ _)⟩)
  dsimp only [Pt.U, Pt.locs, Pt.cells, Pt.slots] at X1 l1 y1 z1 st1 hQ1
  subst l1 y1 z1
  obtain ⟨rfl, N1q, S1⟩ := hQ1
  have N1 := Fr.app N0 N1q
  refine own_by (fun _ k => st1.trans k) ?_
  show own_Fin p.tables e below _ (T1.setTop (mkF m 5 #[.val (.ref ow), .val (.ref (ad xi)), .val (.ref (ad xj))] []))
  refine own_by (fun _ k => XS.aloadN X1.here hx rfl (hb hby d8_5) rfl rfl k) ?_
  show own_Fin p.tables e below _ (T1.setTop (mkF m 6 #[.val (.ref ow), .val (.ref (ad xi)), .val (.ref (ad xj))] [(.ref (ad xi))]))
  refine own_by (fun _ k => XS.aloadN X1.here hx rfl (hb hby d8_6) rfl rfl k) ?_
  show own_Fin p.tables e below _ (T1.setTop (mkF m 7 #[.val (.ref ow), .val (.ref (ad xi)), .val (.ref (ad xj))] [(.ref (ad xj)), (.ref (ad xi))]))
  refine own_by (own_gB X1 hx hZ hown (hw _ (List.mem_of_getElem? (i := 18) rfl)) rfl S1 xj hj (g := (mkF m 7 #[.val (.ref ow), .val (.ref (ad xi)), .val (.ref (ad xj))] [(.ref (ad xj)), (.ref (ad xi))])) rfl rfl (hb hby d8_7) (w' := (.ref (ad xp))) (by rw [hbp]; rfl)) ?_
  show own_Fin p.tables e below _ (T1.setTop (mkF m 10 #[.val (.ref ow), .val (.ref (ad xi)), .val (.ref (ad xj))] [(.ref (ad xp)), (.ref (ad xi))]))
  refine own_by (fun _ k => XS.aloadN X1.here hx rfl (hb hby d8_10) rfl rfl k) ?_
  show own_Fin p.tables e below _ (T1.setTop (mkF m 11 #[.val (.ref ow), .val (.ref (ad xi)), .val (.ref (ad xj))] [(.ref (ad xj)), (.ref (ad xp)), (.ref (ad xi))]))
  obtain ⟨_, _, ⟨T2, L2, k2, n2⟩, -, X2, ⟨Lc2, hQ2, l2, y2, z2⟩, st2⟩ := Jvm.LawKit.callS X1 hx (y := (⟨"com/example/brazier/brazier/keyspace/ChangeOrder", "placeBetween", "(Lcom/example/brazier/brazier/keyspace/ChangeOrder$Link;Lcom/example/brazier/brazier/keyspace/ChangeOrder$Link;Lcom/example/brazier/brazier/keyspace/ChangeOrder$Link;)V"⟩ : MethodName)) hown (mvT hZ (hw _ (List.mem_of_getElem? (i := 61) rfl))) (mvT hZ (hw _ (List.mem_of_getElem? (i := 62) rfl))) (mvT hZ (hw _ (List.mem_of_getElem? (i := 2) rfl))) (mvT hZ (hw _ (List.mem_of_getElem? (i := 63) rfl))) (by decide) (backOf (W := 0) (rm10 l Z a0 hw [] N ad K ow (own_rmb bf af xi) (own_rma bf af xi) nu nw ps xi xp xj T1.heap n0 S1.1 S1 sl wk hi hp hj) hZ (hw _ (List.mem_of_getElem? (i := 63) rfl)) (hw _ (List.mem_of_getElem? (i := 2) rfl)) (by decide) (by decide)) (g := (mkF m 11 #[.val (.ref ow), .val (.ref (ad xi)), .val (.ref (ad xj))] [(.ref (ad xj)), (.ref (ad xp)), (.ref (ad xi))])) rfl (by rw [hml]; rfl) (argsL := [(.ref (ad xi)), (.ref (ad xp)), (.ref (ad xj))]) (rest := []) (lenOf pd__Lcom_example_brazier_brazier_keyspace_ChangeOrder_Link_Lcom_example_brazier_brazier_keyspace_ChangeOrder_Link_Lcom_example_brazier_brazier_keyspace_ChangeOrder_Link__V rfl) rfl (by show 2 * 0 + _ ≤ _; exact Nat.le_of_eq rfl) (hb hby d8_11) (fun _ _ => ⟨rfl, rfl, (by decide : 0 + 0 ≤ _), (by decide : 0 + 0 ≤ _)⟩)
  dsimp only [Pt.U, Pt.locs, Pt.cells, Pt.slots] at X2 l2 y2 z2 st2 hQ2
  subst l2 y2 z2
  obtain ⟨rfl, N2q, S2⟩ := hQ2
  have N2 := Fr.app N1 N2q
  refine own_by st2 ?_
  show own_Fin p.tables e below _ (T2.setTop (mkF m 14 #[.val (.ref ow), .val (.ref (ad xi)), .val (.ref (ad xj))] []))
  refine own_by (fun _ k => XS.aloadN X2.here hx rfl (hb hby d8_14) rfl rfl k) ?_
  show own_Fin p.tables e below _ (T2.setTop (mkF m 15 #[.val (.ref ow), .val (.ref (ad xi)), .val (.ref (ad xj))] [(.ref ow)]))
  refine own_by (fun _ k => XS.aloadN X2.here hx rfl (hb hby d8_15) rfl rfl k) ?_
  show own_Fin p.tables e below _ (T2.setTop (mkF m 16 #[.val (.ref ow), .val (.ref (ad xi)), .val (.ref (ad xj))] [(.ref ow), (.ref ow)]))
  obtain ⟨T3, X3, e3, st3⟩ := own_g_passed X2 hx hZ hown (hw _ (List.mem_of_getElem? (i := 66) rfl)) rfl S2 (g := (mkF m 16 #[.val (.ref ow), .val (.ref (ad xi)), .val (.ref (ad xj))] [(.ref ow), (.ref ow)])) rfl rfl (hb hby d8_16)
  refine own_by st3 ?_
  show own_Fin p.tables e below _ (T3.setTop (mkF m 19 #[.val (.ref ow), .val (.ref (ad xi)), .val (.ref (ad xj))] [(.long ps), (.ref ow)]))
  refine own_by (fun _ k => XS.aloadN X3.here hx rfl (hb hby d8_19) rfl rfl k) ?_
  show own_Fin p.tables e below _ (T3.setTop (mkF m 20 #[.val (.ref ow), .val (.ref (ad xi)), .val (.ref (ad xj))] [(.ref (ad xi)), (.long ps), (.ref ow)]))
  obtain ⟨_, _, ⟨T4, L4, k4, n4⟩, -, X4, ⟨Lc4, hQ4, l4, y4, z4⟩, st4⟩ := Jvm.LawKit.callS X3 hx (y := (⟨"com/example/brazier/brazier/keyspace/ChangeOrder", "numberOf", "(Lcom/example/brazier/brazier/keyspace/ChangeOrder$Link;)J"⟩ : MethodName)) hown (mvT hZ (hw _ (List.mem_of_getElem? (i := 68) rfl))) (mvT hZ (hw _ (List.mem_of_getElem? (i := 69) rfl))) (mvT hZ (hw _ (List.mem_of_getElem? (i := 2) rfl))) (mvT hZ (hw _ (List.mem_of_getElem? (i := 70) rfl))) (by decide) (backOf (W := 3) (rm11 l Z a0 hw [] N ad K ow (own_lb (own_rmb bf af xi) xi xp xj) (own_lb (own_rma bf af xi) xi xj xp) (own_u nu xi (nu xp)) nw ps xi T2.heap n0 S2.1 S2 sl wk hi) hZ (hw _ (List.mem_of_getElem? (i := 70) rfl)) (hw _ (List.mem_of_getElem? (i := 2) rfl)) (by decide) (by decide)) (g := (mkF m 20 #[.val (.ref ow), .val (.ref (ad xi)), .val (.ref (ad xj))] [(.ref (ad xi)), (.long ps), (.ref ow)])) rfl (by rw [hml]; rfl) (argsL := [(.ref (ad xi))]) (rest := [(.long ps), (.ref ow)]) (lenOf pd__Lcom_example_brazier_brazier_keyspace_ChangeOrder_Link__J rfl) rfl (by show 2 * 0 + _ ≤ _; exact Nat.le_of_eq rfl) (hb hby d8_20) (fun _ _ => ⟨rfl, e3, (by decide : 0 + 0 ≤ _), (by decide : 0 + 0 ≤ _)⟩)
  dsimp only [Pt.U, Pt.locs, Pt.cells, Pt.slots] at X4 l4 y4 z4 st4 hQ4
  subst l4 y4 z4
  obtain ⟨rfl, N4q, e4⟩ := hQ4
  have N4 := Fr.app N2 N4q
  refine own_by st4 ?_
  show own_Fin p.tables e below _ (T4.setTop (mkF m 23 #[.val (.ref ow), .val (.ref (ad xi)), .val (.ref (ad xj))] [(.long ((own_u nu xi (nu xp)) xi)), (.long ps), (.ref ow)]))
  obtain ⟨_, _, ⟨T5, L5, k5, n5⟩, -, X5, ⟨Lc5, hQ5, l5, y5, z5⟩, st5⟩ := Jvm.LawKit.callS X4 hx (y := (⟨"java/lang/Math", "max", "(JJ)J"⟩ : MethodName)) hown (mvT hZ (hw _ (List.mem_of_getElem? (i := 71) rfl))) (mvT hZ (hw _ (List.mem_of_getElem? (i := 72) rfl))) (mvT hZ (hw _ (List.mem_of_getElem? (i := 73) rfl))) (mvT hZ (hw _ (List.mem_of_getElem? (i := 74) rfl))) (by decide) (backOf (W := 1) (rm12 l Z a0 hw [] ps ((own_u nu xi (nu xp)) xi) T2.heap n0 S2.1 ) hZ (hw _ (List.mem_of_getElem? (i := 74) rfl)) (hw _ (List.mem_of_getElem? (i := 73) rfl)) (by decide) (by decide)) (g := (mkF m 23 #[.val (.ref ow), .val (.ref (ad xi)), .val (.ref (ad xj))] [(.long ((own_u nu xi (nu xp)) xi)), (.long ps), (.ref ow)])) rfl (by rw [hml]; rfl) (argsL := [(.long ps), (.long ((own_u nu xi (nu xp)) xi))]) (rest := [(.ref ow)]) (lenOf pd__JJ_J rfl) rfl (by show 2 * 0 + _ ≤ _; exact Nat.le_of_eq rfl) (hb hby d8_23) (fun _ _ => ⟨rfl, e4, (by decide : 0 + 0 ≤ _), (by decide : 0 + 0 ≤ _)⟩)
  dsimp only [Pt.U, Pt.locs, Pt.cells, Pt.slots] at X5 l5 y5 z5 st5 hQ5
  subst l5 y5 z5
  obtain ⟨rfl, N5q, e5⟩ := hQ5
  have N5 := Fr.app N4 N5q
  refine own_by st5 ?_
  show own_Fin p.tables e below _ (T5.setTop (mkF m 26 #[.val (.ref ow), .val (.ref (ad xi)), .val (.ref (ad xj))] [(.long (f12 ps ((own_u nu xi (nu xp)) xi))), (.ref ow)]))
  obtain ⟨T6, h6, L6, X6, e6, N6, S6, st6⟩ := own_p_passed X5 hx hZ hown (hw _ (List.mem_of_getElem? (i := 66) rfl)) (hw _ (List.mem_of_getElem? (i := 67) rfl)) (hw _ (List.mem_of_getElem? (i := 1) rfl)) e5 S2 sl N5 (f12 ps ((own_u nu xi (nu xp)) xi)) (g := (mkF m 26 #[.val (.ref ow), .val (.ref (ad xi)), .val (.ref (ad xj))] [(.long (f12 ps ((own_u nu xi (nu xp)) xi))), (.ref ow)])) rfl rfl (hb hby d8_26)
  refine own_by st6 ?_
  show own_Fin p.tables e below _ (T6.setTop (mkF m 29 #[.val (.ref ow), .val (.ref (ad xi)), .val (.ref (ad xj))] []))
  exact own_retV X6 hx Bd.returns hlk (hb hby d8_29) (by decide) (by decide) (by rw [e6]; exact ⟨rfl, N6, S6⟩)
theorem d13_0 : decode prog_37_method_3_code 0 = .ok (.aload_n 1, 1) := by decide +kernel
theorem d13_1 : decode prog_37_method_3_code 1 = .ok (.getfield 26, 3) := by decide +kernel
theorem d13_4 : decode prog_37_method_3_code 4 = .ok (.aload_n 0, 1) := by decide +kernel
theorem d13_5 : decode prog_37_method_3_code 5 = .ok (.getfield 33, 3) := by decide +kernel
theorem d13_8 : decode prog_37_method_3_code 8 = .ok (.lcmp, 1) := by decide +kernel
theorem d13_9 : decode prog_37_method_3_code 9 = .ok (.ifCond .gt 13, 3) := by decide +kernel
theorem d13_12 : decode prog_37_method_3_code 12 = .ok (.aload_n 0, 1) := by decide +kernel
theorem d13_13 : decode prog_37_method_3_code 13 = .ok (.aload_n 1, 1) := by decide +kernel
theorem d13_14 : decode prog_37_method_3_code 14 = .ok (.invokevirtual 36, 3) := by decide +kernel
theorem d13_17 : decode prog_37_method_3_code 17 = .ok (.aload_n 0, 1) := by decide +kernel
theorem d13_18 : decode prog_37_method_3_code 18 = .ok (.aload_n 1, 1) := by decide +kernel
theorem d13_19 : decode prog_37_method_3_code 19 = .ok (.invokevirtual 40, 3) := by decide +kernel
theorem d13_22 : decode prog_37_method_3_code 22 = .ok (.return_, 1) := by decide +kernel
theorem ef_13 (m : MethodId) (o0 : Addr) (o1 : Addr) : entryFrame m #[(.ref o0), (.ref o1)] 2 = mkF m 0 #[.val (.ref o0), .val (.ref o1)] [] := by first | (simp [entryFrame, mkF, argsToLocals, Value.category]; done) | rfl
def Q13 (Z : State) (N : Nat) (ad : Nat → Addr) (K : Nat → String) (ow : Addr) (bf af : Nat → Option Nat) (nu : Nat → Int64) (nw ps : Int64) (xi xp : Nat) (h0 : Heap) (n0 : Nat) (v : Option Value) (h : Heap) (L : List Loc) : Prop := v = none ∧ Fr n0 L ∧ own_S Z h n0 N ad K ow (if ps < nu xi then bf else own_lb (own_rmb bf af xi) xi xp 0) (if ps < nu xi then af else own_lb (own_rma bf af xi) xi 0 xp) (if ps < nu xi then nu else own_u nu xi (nw + (1 : Int64))) (if ps < nu xi then nw else nw + (1 : Int64)) ps
set_option maxRecDepth 65536 in
set_option maxHeartbeats 40000000 in
theorem rm13 (l : Launch) (Z : State) (a0 : Array Value) (hw : ∀ d ∈ tables_1, d.before a0 Z = true) (ws : List Jvm.Cond)   (N : Nat) (ad : Nat → Addr) (K : Nat → String) (ow : Addr) (bf af : Nat → Option Nat) (nu : Nat → Int64) (nw ps : Int64) (xi xp : Nat) (h0 : Heap) (n0 : Nat) (Z0 : n0 ≤ h0.size)  (S : own_S Z h0 n0 N ad K ow bf af nu nw ps) (sl : own_SL Z) (wk : own_WK Z N K) (hi : xi < N) (h00 : 0 < N) (hp : xp < N) (hch : ¬ ps < nu xi → (∀ q, af xi = some q → q < N ∧ ∃ p, p < N ∧ bf xi = some p) ∧ own_rmb bf af xi 0 = some xp) :
    MetFree l (⟨"com/example/brazier/brazier/keyspace/ChangeOrder", "changed", "(Lcom/example/brazier/brazier/keyspace/ChangeOrder$Link;)V"⟩ : MethodName) (head1 (Jvm.Cond.code (⟨"com/example/brazier/brazier/keyspace/ChangeOrder", "changed", "(Lcom/example/brazier/brazier/keyspace/ChangeOrder$Link;)V"⟩ : MethodName) prog_37_method_3_code 2 none :: ws) ({ frames := 2, cells := 0, slots := 0, locals := 27 } : Room)) (fun a U => a = #[(.ref ow), (.ref (ad xi))] ∧ Z.Warmed39 U.vm ∧ U.heap = h0) (fun _ _ _ _ _ => True) (fun _ U o U' => ∃ v L, o = .returned v ∧ Q13 Z N ad K ow bf af nu nw ps xi xp  h0 n0 v U'.heap L ∧ FrameEnd U o U' L ({ frames := 2, cells := 0, slots := 0, locals := 27 } : Room).cells ({ frames := 2, cells := 0, slots := 0, locals := 27 } : Room).slots) := by
  refine MetFree.of_bodySF (plainFor_of_name pn_com_example_brazier_brazier_keyspace_ChangeOrder) hisR ?_
  intro p e s m args below meth c s₁ Bd hml0 hP hK
  obtain ⟨rfl, hZ, hh⟩ := hP
  have hx := Bd.exec
  have hby := Bd.bytes
  have hlk : meth.locks = false := BodyLoose.notSynchronized Bd
  have hml : c.maxLocals = 2 := hml0
  have hown : s.vm.findClass "com/example/brazier/brazier/keyspace/ChangeOrder" = some m.cls := findClass_of_methodNamed Bd.named
  have hnm := (name_of_methodNamed Bd.named Bd.method).1
  have X0 : Stand p l e ({ frames := 2, cells := 0, slots := 0, locals := 27 } : Room) s m #[(.ref ow), (.ref (ad xi))] below meth c s₁ [] 0 0 := Stand.of_body Bd
  have e0 : s₁.heap = h0 := by rw [← hh, Bd.state]; rfl
  have N0 := Fr.nil n0
  refine own_by (U' := s₁.setTop (mkF m 0 #[.val (.ref ow), .val (.ref (ad xi))] [])) (fun t k => castTop (ef_13 m ow (ad xi)) k) ?_
  refine own_by (fun _ k => XS.aloadN X0.here hx rfl (hb hby d13_0) rfl rfl k) ?_
  show own_Fin p.tables e below _ (s₁.setTop (mkF m 1 #[.val (.ref ow), .val (.ref (ad xi))] [(.ref (ad xi))]))
  refine own_by (own_gN X0 hx hZ hown (hw _ (List.mem_of_getElem? (i := 39) rfl)) e0 S xi hi (g := (mkF m 1 #[.val (.ref ow), .val (.ref (ad xi))] [(.ref (ad xi))])) rfl rfl (hb hby d13_1) (w' := (.long (nu xi))) rfl) ?_
  show own_Fin p.tables e below _ (s₁.setTop (mkF m 4 #[.val (.ref ow), .val (.ref (ad xi))] [(.long (nu xi))]))
  refine own_by (fun _ k => XS.aloadN X0.here hx rfl (hb hby d13_4) rfl rfl k) ?_
  show own_Fin p.tables e below _ (s₁.setTop (mkF m 5 #[.val (.ref ow), .val (.ref (ad xi))] [(.ref ow), (.long (nu xi))]))
  obtain ⟨T1, X1, e1, st1⟩ := own_g_passed X0 hx hZ hown (hw _ (List.mem_of_getElem? (i := 66) rfl)) e0 S (g := (mkF m 5 #[.val (.ref ow), .val (.ref (ad xi))] [(.ref ow), (.long (nu xi))])) rfl rfl (hb hby d13_5)
  refine own_by st1 ?_
  show own_Fin p.tables e below _ (T1.setTop (mkF m 8 #[.val (.ref ow), .val (.ref (ad xi))] [(.long ps), (.long (nu xi))]))
  refine own_by (fun _ k => XS.lcmp X1.here hx rfl (hb hby d13_8) rfl k) ?_
  show own_Fin p.tables e below _ (T1.setTop (mkF m 9 #[.val (.ref ow), .val (.ref (ad xi))] [(.int (lcmpW (nu xi) ps))]))
  by_cases hc2 : ps < (nu xi)
  · refine own_by (fun _ k => XS.ifYes X1.here hx rfl (pc0 := 9) (pc' := 22) rfl (hb hby d13_9) rfl ((if0 _ _).trans (tlt ((lw_gt _ _).mpr hc2)).2.2.1) (by decide) (by decide) k) ?_
    show own_Fin p.tables e below _ (T1.setTop (mkF m 22 #[.val (.ref ow), .val (.ref (ad xi))] []))
    exact own_retV X1 hx Bd.returns hlk (hb hby d13_22) (by decide) (by decide) (by rw [e1]; exact ⟨rfl, N0, (by simp only [if_pos hc2]; exact S)⟩)
  · refine own_by (fun _ k => XS.ifNo X1.here hx rfl (hb hby d13_9) rfl ((if0 _ _).trans (flt (fun q => hc2 ((lw_gt _ _).mp q))).2.2.1) k) ?_
    show own_Fin p.tables e below _ (T1.setTop (mkF m 12 #[.val (.ref ow), .val (.ref (ad xi))] []))
    refine own_by (fun _ k => XS.aloadN X1.here hx rfl (hb hby d13_12) rfl rfl k) ?_
    show own_Fin p.tables e below _ (T1.setTop (mkF m 13 #[.val (.ref ow), .val (.ref (ad xi))] [(.ref ow)]))
    refine own_by (fun _ k => XS.aloadN X1.here hx rfl (hb hby d13_13) rfl rfl k) ?_
    show own_Fin p.tables e below _ (T1.setTop (mkF m 14 #[.val (.ref ow), .val (.ref (ad xi))] [(.ref (ad xi)), (.ref ow)]))
    obtain ⟨cq3, kq3, q3a, q3b, q3c⟩ := isOf hZ e1 S.2.2.1
    obtain ⟨_, _, ⟨T3, L3, k3, n3⟩, -, X3, ⟨Lc3, hQ3, l3, y3, z3⟩, st3⟩ := X1.virtualBack hx (y := (⟨"com/example/brazier/brazier/keyspace/ChangeOrder", "remove", "(Lcom/example/brazier/brazier/keyspace/ChangeOrder$Link;)V"⟩ : MethodName)) (z := (⟨"com/example/brazier/brazier/keyspace/ChangeOrder", "remove", "(Lcom/example/brazier/brazier/keyspace/ChangeOrder$Link;)V"⟩ : MethodName)) hown (mvT hZ (hw _ (List.mem_of_getElem? (i := 55) rfl))) (mvT hZ (hw _ (List.mem_of_getElem? (i := 56) rfl))) (notFace_of_selects (args := #[]) (mvT hZ (hw _ (List.mem_of_getElem? (i := 58) rfl)))) (mvT hZ (hw _ (List.mem_of_getElem? (i := 58) rfl))) (mvT hZ (hw _ (List.mem_of_getElem? (i := 57) rfl))) (by decide) (backOf (W := 0) (rm9 l Z a0 hw [] N ad K ow bf af nu nw ps xi h0 n0 S.1 S sl wk hi (hch hc2).1) hZ (hw _ (List.mem_of_getElem? (i := 59) rfl)) (hw _ (List.mem_of_getElem? (i := 2) rfl)) (by decide) (by decide)) q3a q3c (g := (mkF m 14 #[.val (.ref ow), .val (.ref (ad xi))] [(.ref (ad xi)), (.ref ow)])) rfl (by rw [hml]; rfl) (Steps.refl _) (argsL := [(.ref (ad xi))]) (rest := []) (lenOf pd__Lcom_example_brazier_brazier_keyspace_ChangeOrder_Link__V rfl) rfl (by show 2 * 0 + _ ≤ _; exact Nat.le_of_eq rfl) (hb hby d13_14) (fun _ _ => ⟨rfl, e1, (by decide : 0 + 0 ≤ _), (by decide : 0 + 0 ≤ _)⟩)
    dsimp only [Pt.U, Pt.locs, Pt.cells, Pt.slots] at X3 l3 y3 z3 st3 hQ3
    subst l3 y3 z3
    obtain ⟨rfl, N3q, S3⟩ := hQ3
    have N3 := Fr.app N0 N3q
    refine own_by (fun _ k => st3.trans k) ?_
    show own_Fin p.tables e below _ (T3.setTop (mkF m 17 #[.val (.ref ow), .val (.ref (ad xi))] []))
    refine own_by (fun _ k => XS.aloadN X3.here hx rfl (hb hby d13_17) rfl rfl k) ?_
    show own_Fin p.tables e below _ (T3.setTop (mkF m 18 #[.val (.ref ow), .val (.ref (ad xi))] [(.ref ow)]))
    refine own_by (fun _ k => XS.aloadN X3.here hx rfl (hb hby d13_18) rfl rfl k) ?_
    show own_Fin p.tables e below _ (T3.setTop (mkF m 19 #[.val (.ref ow), .val (.ref (ad xi))] [(.ref (ad xi)), (.ref ow)]))
    obtain ⟨cq4, kq4, q4a, q4b, q4c⟩ := isOf hZ rfl S3.2.2.1
    obtain ⟨_, _, ⟨T4, L4, k4, n4⟩, -, X4, ⟨Lc4, hQ4, l4, y4, z4⟩, st4⟩ := X3.virtualBack hx (y := (⟨"com/example/brazier/brazier/keyspace/ChangeOrder", "add", "(Lcom/example/brazier/brazier/keyspace/ChangeOrder$Link;)V"⟩ : MethodName)) (z := (⟨"com/example/brazier/brazier/keyspace/ChangeOrder", "add", "(Lcom/example/brazier/brazier/keyspace/ChangeOrder$Link;)V"⟩ : MethodName)) hown (mvT hZ (hw _ (List.mem_of_getElem? (i := 84) rfl))) (mvT hZ (hw _ (List.mem_of_getElem? (i := 33) rfl))) (notFace_of_selects (args := #[]) (mvT hZ (hw _ (List.mem_of_getElem? (i := 35) rfl)))) (mvT hZ (hw _ (List.mem_of_getElem? (i := 35) rfl))) (mvT hZ (hw _ (List.mem_of_getElem? (i := 34) rfl))) (by decide) (backOf (W := 0) (rm5 l Z a0 hw [] N ad K ow (own_rmb bf af xi) (own_rma bf af xi) nu nw ps xi xp T3.heap n0 S3.1 S3 sl wk hi h00 hp (hch hc2).2) hZ (hw _ (List.mem_of_getElem? (i := 36) rfl)) (hw _ (List.mem_of_getElem? (i := 2) rfl)) (by decide) (by decide)) q4a q4c (g := (mkF m 19 #[.val (.ref ow), .val (.ref (ad xi))] [(.ref (ad xi)), (.ref ow)])) rfl (by rw [hml]; rfl) (Steps.refl _) (argsL := [(.ref (ad xi))]) (rest := []) (lenOf pd__Lcom_example_brazier_brazier_keyspace_ChangeOrder_Link__V rfl) rfl (by show 2 * 0 + _ ≤ _; exact Nat.le_of_eq rfl) (hb hby d13_19) (fun _ _ => ⟨rfl, rfl, (by decide : 0 + 0 ≤ _), (by decide : 0 + 0 ≤ _)⟩)
    dsimp only [Pt.U, Pt.locs, Pt.cells, Pt.slots] at X4 l4 y4 z4 st4 hQ4
    subst l4 y4 z4
    obtain ⟨rfl, N4q, S4⟩ := hQ4
    have N4 := Fr.app N3 N4q
    refine own_by (fun _ k => st4.trans k) ?_
    show own_Fin p.tables e below _ (T4.setTop (mkF m 22 #[.val (.ref ow), .val (.ref (ad xi))] []))
    exact own_retV X4 hx Bd.returns hlk (hb hby d13_22) (by decide) (by decide) (by exact ⟨rfl, N4, (by simp only [if_neg hc2]; exact S4)⟩)
theorem d14_0 : decode method_2_code 0 = .ok (.aload_n 0, 1) := by decide +kernel
theorem d14_1 : decode method_2_code 1 = .ok (.aload_n 1, 1) := by decide +kernel
theorem d14_2 : decode method_2_code 2 = .ok (.invokevirtual 7, 3) := by decide +kernel
theorem d14_5 : decode method_2_code 5 = .ok (.astore 6, 2) := by decide +kernel
theorem d14_7 : decode method_2_code 7 = .ok (.aload_n 0, 1) := by decide +kernel
theorem d14_8 : decode method_2_code 8 = .ok (.aload 6, 2) := by decide +kernel
theorem d14_10 : decode method_2_code 10 = .ok (.invokevirtual 7, 3) := by decide +kernel
theorem d14_13 : decode method_2_code 13 = .ok (.astore 7, 2) := by decide +kernel
theorem d14_15 : decode method_2_code 15 = .ok (.aload_n 0, 1) := by decide +kernel
theorem d14_16 : decode method_2_code 16 = .ok (.aload 7, 2) := by decide +kernel
theorem d14_18 : decode method_2_code 18 = .ok (.invokevirtual 7, 3) := by decide +kernel
theorem d14_21 : decode method_2_code 21 = .ok (.astore 8, 2) := by decide +kernel
theorem d14_23 : decode method_2_code 23 = .ok (.aload_n 0, 1) := by decide +kernel
theorem d14_24 : decode method_2_code 24 = .ok (.aload 8, 2) := by decide +kernel
theorem d14_26 : decode method_2_code 26 = .ok (.invokevirtual 7, 3) := by decide +kernel
theorem d14_29 : decode method_2_code 29 = .ok (.astore 9, 2) := by decide +kernel
theorem d14_31 : decode method_2_code 31 = .ok (.aload_n 0, 1) := by decide +kernel
theorem d14_32 : decode method_2_code 32 = .ok (.aload 9, 2) := by decide +kernel
theorem d14_34 : decode method_2_code 34 = .ok (.invokevirtual 7, 3) := by decide +kernel
theorem d14_37 : decode method_2_code 37 = .ok (.astore 10, 2) := by decide +kernel
theorem d14_39 : decode method_2_code 39 = .ok (.aload 6, 2) := by decide +kernel
theorem d14_41 : decode method_2_code 41 = .ok (.aload_n 2, 1) := by decide +kernel
theorem d14_42 : decode method_2_code 42 = .ok (.if_acmp .ne 33, 3) := by decide +kernel
theorem d14_45 : decode method_2_code 45 = .ok (.aload 7, 2) := by decide +kernel
theorem d14_47 : decode method_2_code 47 = .ok (.aload_n 3, 1) := by decide +kernel
theorem d14_48 : decode method_2_code 48 = .ok (.if_acmp .ne 27, 3) := by decide +kernel
theorem d14_51 : decode method_2_code 51 = .ok (.aload 8, 2) := by decide +kernel
theorem d14_53 : decode method_2_code 53 = .ok (.aload 4, 2) := by decide +kernel
theorem d14_55 : decode method_2_code 55 = .ok (.if_acmp .ne 20, 3) := by decide +kernel
theorem d14_58 : decode method_2_code 58 = .ok (.aload 9, 2) := by decide +kernel
theorem d14_60 : decode method_2_code 60 = .ok (.aload 5, 2) := by decide +kernel
theorem d14_62 : decode method_2_code 62 = .ok (.if_acmp .ne 13, 3) := by decide +kernel
theorem d14_65 : decode method_2_code 65 = .ok (.aload 10, 2) := by decide +kernel
theorem d14_67 : decode method_2_code 67 = .ok (.aload_n 1, 1) := by decide +kernel
theorem d14_68 : decode method_2_code 68 = .ok (.if_acmp .ne 7, 3) := by decide +kernel
theorem d14_71 : decode method_2_code 71 = .ok (.iconst 1, 1) := by decide +kernel
theorem d14_72 : decode method_2_code 72 = .ok (.goto 4, 3) := by decide +kernel
theorem d14_76 : decode method_2_code 76 = .ok (.ireturn, 1) := by decide +kernel
theorem pd__Lcom_example_brazier_brazier_keyspace_ChangeOrder_Link__Lcom_example_brazier_brazier_keyspace_ChangeOrder_Link_ : parseMethodDescriptor "(Lcom/example/brazier/brazier/keyspace/ChangeOrder$Link;)Lcom/example/brazier/brazier/keyspace/ChangeOrder$Link;" = some ⟨[(.object "com/example/brazier/brazier/keyspace/ChangeOrder$Link")], some (.object "com/example/brazier/brazier/keyspace/ChangeOrder$Link")⟩ := by decide +kernel
theorem pn_com_example_brazier_brazier_keyspace_ChangeOrderAddPinLaw : plainName "com/example/brazier/brazier/keyspace/ChangeOrderAddPinLaw" = true := by first | (simp [plainName, overriddenIn]; done) | decide +kernel
theorem ef_14 (m : MethodId) (o0 : Addr) (o1 : Addr) (o2 : Addr) (o3 : Addr) (o4 : Addr) (o5 : Addr) : entryFrame m #[(.ref o0), (.ref o1), (.ref o2), (.ref o3), (.ref o4), (.ref o5)] 11 = mkF m 0 #[.val (.ref o0), .val (.ref o1), .val (.ref o2), .val (.ref o3), .val (.ref o4), .val (.ref o5), .unset, .unset, .unset, .unset, .unset] [] := by first | (simp [entryFrame, mkF, argsToLocals, Value.category]; done) | rfl
def Q14 (Z : State) (N : Nat) (ad : Nat → Addr) (K : Nat → String) (ow : Addr) (bf af : Nat → Option Nat) (nu : Nat → Int64) (nw ps : Int64) (x0 x1 x2 x3 x4 : Nat) (h0 : Heap) (n0 : Nat) (v : Option Value) (h : Heap) (L : List Loc) : Prop := v = some (.int 1) ∧ Fr n0 L ∧ h = h0
set_option maxRecDepth 65536 in
set_option maxHeartbeats 40000000 in
theorem rm14 (l : Launch) (Z : State) (a0 : Array Value) (hw : ∀ d ∈ tables_1, d.before a0 Z = true) (ws : List Jvm.Cond)   (N : Nat) (ad : Nat → Addr) (K : Nat → String) (ow : Addr) (bf af : Nat → Option Nat) (nu : Nat → Int64) (nw ps : Int64) (x0 x1 x2 x3 x4 : Nat) (h0 : Heap) (n0 : Nat) (Z0 : n0 ≤ h0.size)  (S : own_S Z h0 n0 N ad K ow bf af nu nw ps) (sl : own_SL Z) (wk : own_WK Z N K) (hx0 : x0 < N) (hx1 : x1 < N) (hx2 : x2 < N) (hx3 : x3 < N) (hx4 : x4 < N) (ha0 : af x0 = some x1) (ha1 : af x1 = some x2) (ha2 : af x2 = some x3) (ha3 : af x3 = some x4) (ha4 : af x4 = some x0) :
    MetFree l (⟨"com/example/brazier/brazier/keyspace/ChangeOrderAddPinLaw", "ringIs", "(Lcom/example/brazier/brazier/keyspace/ChangeOrder;Lcom/example/brazier/brazier/keyspace/ChangeOrder$Link;Lcom/example/brazier/brazier/keyspace/ChangeOrder$Link;Lcom/example/brazier/brazier/keyspace/ChangeOrder$Link;Lcom/example/brazier/brazier/keyspace/ChangeOrder$Link;Lcom/example/brazier/brazier/keyspace/ChangeOrder$Link;)Z"⟩ : MethodName) (head1 (Jvm.Cond.code (⟨"com/example/brazier/brazier/keyspace/ChangeOrderAddPinLaw", "ringIs", "(Lcom/example/brazier/brazier/keyspace/ChangeOrder;Lcom/example/brazier/brazier/keyspace/ChangeOrder$Link;Lcom/example/brazier/brazier/keyspace/ChangeOrder$Link;Lcom/example/brazier/brazier/keyspace/ChangeOrder$Link;Lcom/example/brazier/brazier/keyspace/ChangeOrder$Link;Lcom/example/brazier/brazier/keyspace/ChangeOrder$Link;)Z"⟩ : MethodName) method_2_code 11 (some .boolean) :: ws) ({ frames := 1, cells := 0, slots := 0, locals := 13 } : Room)) (fun a U => a = #[(.ref ow), (.ref (ad x0)), (.ref (ad x1)), (.ref (ad x2)), (.ref (ad x3)), (.ref (ad x4))] ∧ Z.Warmed39 U.vm ∧ U.heap = h0) (fun _ _ _ _ _ => True) (fun _ U o U' => ∃ v L, o = .returned v ∧ Q14 Z N ad K ow bf af nu nw ps x0 x1 x2 x3 x4  h0 n0 v U'.heap L ∧ FrameEnd U o U' L ({ frames := 1, cells := 0, slots := 0, locals := 13 } : Room).cells ({ frames := 1, cells := 0, slots := 0, locals := 13 } : Room).slots) := by
  refine MetFree.of_bodySF (plainFor_of_name pn_com_example_brazier_brazier_keyspace_ChangeOrderAddPinLaw) hisR ?_
  intro p e s m args below meth c s₁ Bd hml0 hP hK
  obtain ⟨rfl, hZ, hh⟩ := hP
  have hx := Bd.exec
  have hby := Bd.bytes
  have hlk : meth.locks = false := BodyLoose.notSynchronized Bd
  have hml : c.maxLocals = 11 := hml0
  have hown : s.vm.findClass "com/example/brazier/brazier/keyspace/ChangeOrderAddPinLaw" = some m.cls := findClass_of_methodNamed Bd.named
  have hnm := (name_of_methodNamed Bd.named Bd.method).1
  have X0 : Stand p l e ({ frames := 1, cells := 0, slots := 0, locals := 13 } : Room) s m #[(.ref ow), (.ref (ad x0)), (.ref (ad x1)), (.ref (ad x2)), (.ref (ad x3)), (.ref (ad x4))] below meth c s₁ [] 0 0 := Stand.of_body Bd
  have e0 : s₁.heap = h0 := by rw [← hh, Bd.state]; rfl
  have N0 := Fr.nil n0
  refine own_by (U' := s₁.setTop (mkF m 0 #[.val (.ref ow), .val (.ref (ad x0)), .val (.ref (ad x1)), .val (.ref (ad x2)), .val (.ref (ad x3)), .val (.ref (ad x4)), .unset, .unset, .unset, .unset, .unset] [])) (fun t k => castTop (ef_14 m ow (ad x0) (ad x1) (ad x2) (ad x3) (ad x4)) k) ?_
  refine own_by (fun _ k => XS.aloadN X0.here hx rfl (hb hby d14_0) rfl rfl k) ?_
  show own_Fin p.tables e below _ (s₁.setTop (mkF m 1 #[.val (.ref ow), .val (.ref (ad x0)), .val (.ref (ad x1)), .val (.ref (ad x2)), .val (.ref (ad x3)), .val (.ref (ad x4)), .unset, .unset, .unset, .unset, .unset] [(.ref ow)]))
  refine own_by (fun _ k => XS.aloadN X0.here hx rfl (hb hby d14_1) rfl rfl k) ?_
  show own_Fin p.tables e below _ (s₁.setTop (mkF m 2 #[.val (.ref ow), .val (.ref (ad x0)), .val (.ref (ad x1)), .val (.ref (ad x2)), .val (.ref (ad x3)), .val (.ref (ad x4)), .unset, .unset, .unset, .unset, .unset] [(.ref (ad x0)), (.ref ow)]))
  obtain ⟨cq1, kq1, q1a, q1b, q1c⟩ := isOf hZ e0 S.2.2.1
  obtain ⟨_, _, ⟨T1, L1, k1, n1⟩, -, X1, ⟨Lc1, hQ1, l1, y1, z1⟩, st1⟩ := X0.virtualBack hx (y := (⟨"com/example/brazier/brazier/keyspace/ChangeOrder", "after", "(Lcom/example/brazier/brazier/keyspace/ChangeOrder$Link;)Lcom/example/brazier/brazier/keyspace/ChangeOrder$Link;"⟩ : MethodName)) (z := (⟨"com/example/brazier/brazier/keyspace/ChangeOrder", "after", "(Lcom/example/brazier/brazier/keyspace/ChangeOrder$Link;)Lcom/example/brazier/brazier/keyspace/ChangeOrder$Link;"⟩ : MethodName)) hown (mvT hZ (hw _ (List.mem_of_getElem? (i := 44) rfl))) (mvT hZ (hw _ (List.mem_of_getElem? (i := 45) rfl))) (notFace_of_selects (args := #[]) (mvT hZ (hw _ (List.mem_of_getElem? (i := 47) rfl)))) (mvT hZ (hw _ (List.mem_of_getElem? (i := 47) rfl))) (mvT hZ (hw _ (List.mem_of_getElem? (i := 46) rfl))) (by decide) (backOf (W := 0) (rm7 l Z a0 hw [] N ad K ow bf af nu nw ps x0 h0 n0 S.1 S sl wk hx0) hZ (hw _ (List.mem_of_getElem? (i := 48) rfl)) (hw _ (List.mem_of_getElem? (i := 2) rfl)) (by decide) (by decide)) q1a q1c (g := (mkF m 2 #[.val (.ref ow), .val (.ref (ad x0)), .val (.ref (ad x1)), .val (.ref (ad x2)), .val (.ref (ad x3)), .val (.ref (ad x4)), .unset, .unset, .unset, .unset, .unset] [(.ref (ad x0)), (.ref ow)])) rfl (by rw [hml]; rfl) (Steps.refl _) (argsL := [(.ref (ad x0))]) (rest := []) (lenOf pd__Lcom_example_brazier_brazier_keyspace_ChangeOrder_Link__Lcom_example_brazier_brazier_keyspace_ChangeOrder_Link_ rfl) rfl (by show 2 * 0 + _ ≤ _; exact Nat.le_of_eq rfl) (hb hby d14_2) (fun _ _ => ⟨rfl, e0, (by decide : 0 + 0 ≤ _), (by decide : 0 + 0 ≤ _)⟩)
  dsimp only [Pt.U, Pt.locs, Pt.cells, Pt.slots] at X1 l1 y1 z1 st1 hQ1
  subst l1 y1 z1
  obtain ⟨hv1, N1q, e1⟩ := hQ1
  obtain rfl := hv1.trans (congrArg some (show own_nx ad (af x0) = (.ref (ad x1)) from (by rw [ha0]; rfl)))
  have N1 := Fr.app N0 N1q
  refine own_by (fun _ k => st1.trans k) ?_
  show own_Fin p.tables e below _ (T1.setTop (mkF m 5 #[.val (.ref ow), .val (.ref (ad x0)), .val (.ref (ad x1)), .val (.ref (ad x2)), .val (.ref (ad x3)), .val (.ref (ad x4)), .unset, .unset, .unset, .unset, .unset] [(.ref (ad x1))]))
  refine own_by (fun _ k => XS.astore X1.here hx rfl (hb hby d14_5) rfl rfl (l' := #[.val (.ref ow), .val (.ref (ad x0)), .val (.ref (ad x1)), .val (.ref (ad x2)), .val (.ref (ad x3)), .val (.ref (ad x4)), .val (.ref (ad x1)), .unset, .unset, .unset, .unset]) rfl k) ?_
  show own_Fin p.tables e below _ (T1.setTop (mkF m 7 #[.val (.ref ow), .val (.ref (ad x0)), .val (.ref (ad x1)), .val (.ref (ad x2)), .val (.ref (ad x3)), .val (.ref (ad x4)), .val (.ref (ad x1)), .unset, .unset, .unset, .unset] []))
  refine own_by (fun _ k => XS.aloadN X1.here hx rfl (hb hby d14_7) rfl rfl k) ?_
  show own_Fin p.tables e below _ (T1.setTop (mkF m 8 #[.val (.ref ow), .val (.ref (ad x0)), .val (.ref (ad x1)), .val (.ref (ad x2)), .val (.ref (ad x3)), .val (.ref (ad x4)), .val (.ref (ad x1)), .unset, .unset, .unset, .unset] [(.ref ow)]))
  refine own_by (fun _ k => XS.aload X1.here hx rfl (hb hby d14_8) rfl rfl k) ?_
  show own_Fin p.tables e below _ (T1.setTop (mkF m 10 #[.val (.ref ow), .val (.ref (ad x0)), .val (.ref (ad x1)), .val (.ref (ad x2)), .val (.ref (ad x3)), .val (.ref (ad x4)), .val (.ref (ad x1)), .unset, .unset, .unset, .unset] [(.ref (ad x1)), (.ref ow)]))
  obtain ⟨cq2, kq2, q2a, q2b, q2c⟩ := isOf hZ e1 S.2.2.1
  obtain ⟨_, _, ⟨T2, L2, k2, n2⟩, -, X2, ⟨Lc2, hQ2, l2, y2, z2⟩, st2⟩ := X1.virtualBack hx (y := (⟨"com/example/brazier/brazier/keyspace/ChangeOrder", "after", "(Lcom/example/brazier/brazier/keyspace/ChangeOrder$Link;)Lcom/example/brazier/brazier/keyspace/ChangeOrder$Link;"⟩ : MethodName)) (z := (⟨"com/example/brazier/brazier/keyspace/ChangeOrder", "after", "(Lcom/example/brazier/brazier/keyspace/ChangeOrder$Link;)Lcom/example/brazier/brazier/keyspace/ChangeOrder$Link;"⟩ : MethodName)) hown (mvT hZ (hw _ (List.mem_of_getElem? (i := 44) rfl))) (mvT hZ (hw _ (List.mem_of_getElem? (i := 45) rfl))) (notFace_of_selects (args := #[]) (mvT hZ (hw _ (List.mem_of_getElem? (i := 47) rfl)))) (mvT hZ (hw _ (List.mem_of_getElem? (i := 47) rfl))) (mvT hZ (hw _ (List.mem_of_getElem? (i := 46) rfl))) (by decide) (backOf (W := 0) (rm7 l Z a0 hw [] N ad K ow bf af nu nw ps x1 h0 n0 S.1 S sl wk hx1) hZ (hw _ (List.mem_of_getElem? (i := 48) rfl)) (hw _ (List.mem_of_getElem? (i := 2) rfl)) (by decide) (by decide)) q2a q2c (g := (mkF m 10 #[.val (.ref ow), .val (.ref (ad x0)), .val (.ref (ad x1)), .val (.ref (ad x2)), .val (.ref (ad x3)), .val (.ref (ad x4)), .val (.ref (ad x1)), .unset, .unset, .unset, .unset] [(.ref (ad x1)), (.ref ow)])) rfl (by rw [hml]; rfl) (Steps.refl _) (argsL := [(.ref (ad x1))]) (rest := []) (lenOf pd__Lcom_example_brazier_brazier_keyspace_ChangeOrder_Link__Lcom_example_brazier_brazier_keyspace_ChangeOrder_Link_ rfl) rfl (by show 2 * 0 + _ ≤ _; exact Nat.le_of_eq rfl) (hb hby d14_10) (fun _ _ => ⟨rfl, e1, (by decide : 0 + 0 ≤ _), (by decide : 0 + 0 ≤ _)⟩)
  dsimp only [Pt.U, Pt.locs, Pt.cells, Pt.slots] at X2 l2 y2 z2 st2 hQ2
  subst l2 y2 z2
  obtain ⟨hv2, N2q, e2⟩ := hQ2
  obtain rfl := hv2.trans (congrArg some (show own_nx ad (af x1) = (.ref (ad x2)) from (by rw [ha1]; rfl)))
  have N2 := Fr.app N1 N2q
  refine own_by (fun _ k => st2.trans k) ?_
  show own_Fin p.tables e below _ (T2.setTop (mkF m 13 #[.val (.ref ow), .val (.ref (ad x0)), .val (.ref (ad x1)), .val (.ref (ad x2)), .val (.ref (ad x3)), .val (.ref (ad x4)), .val (.ref (ad x1)), .unset, .unset, .unset, .unset] [(.ref (ad x2))]))
  refine own_by (fun _ k => XS.astore X2.here hx rfl (hb hby d14_13) rfl rfl (l' := #[.val (.ref ow), .val (.ref (ad x0)), .val (.ref (ad x1)), .val (.ref (ad x2)), .val (.ref (ad x3)), .val (.ref (ad x4)), .val (.ref (ad x1)), .val (.ref (ad x2)), .unset, .unset, .unset]) rfl k) ?_
  show own_Fin p.tables e below _ (T2.setTop (mkF m 15 #[.val (.ref ow), .val (.ref (ad x0)), .val (.ref (ad x1)), .val (.ref (ad x2)), .val (.ref (ad x3)), .val (.ref (ad x4)), .val (.ref (ad x1)), .val (.ref (ad x2)), .unset, .unset, .unset] []))
  refine own_by (fun _ k => XS.aloadN X2.here hx rfl (hb hby d14_15) rfl rfl k) ?_
  show own_Fin p.tables e below _ (T2.setTop (mkF m 16 #[.val (.ref ow), .val (.ref (ad x0)), .val (.ref (ad x1)), .val (.ref (ad x2)), .val (.ref (ad x3)), .val (.ref (ad x4)), .val (.ref (ad x1)), .val (.ref (ad x2)), .unset, .unset, .unset] [(.ref ow)]))
  refine own_by (fun _ k => XS.aload X2.here hx rfl (hb hby d14_16) rfl rfl k) ?_
  show own_Fin p.tables e below _ (T2.setTop (mkF m 18 #[.val (.ref ow), .val (.ref (ad x0)), .val (.ref (ad x1)), .val (.ref (ad x2)), .val (.ref (ad x3)), .val (.ref (ad x4)), .val (.ref (ad x1)), .val (.ref (ad x2)), .unset, .unset, .unset] [(.ref (ad x2)), (.ref ow)]))
  obtain ⟨cq3, kq3, q3a, q3b, q3c⟩ := isOf hZ e2 S.2.2.1
  obtain ⟨_, _, ⟨T3, L3, k3, n3⟩, -, X3, ⟨Lc3, hQ3, l3, y3, z3⟩, st3⟩ := X2.virtualBack hx (y := (⟨"com/example/brazier/brazier/keyspace/ChangeOrder", "after", "(Lcom/example/brazier/brazier/keyspace/ChangeOrder$Link;)Lcom/example/brazier/brazier/keyspace/ChangeOrder$Link;"⟩ : MethodName)) (z := (⟨"com/example/brazier/brazier/keyspace/ChangeOrder", "after", "(Lcom/example/brazier/brazier/keyspace/ChangeOrder$Link;)Lcom/example/brazier/brazier/keyspace/ChangeOrder$Link;"⟩ : MethodName)) hown (mvT hZ (hw _ (List.mem_of_getElem? (i := 44) rfl))) (mvT hZ (hw _ (List.mem_of_getElem? (i := 45) rfl))) (notFace_of_selects (args := #[]) (mvT hZ (hw _ (List.mem_of_getElem? (i := 47) rfl)))) (mvT hZ (hw _ (List.mem_of_getElem? (i := 47) rfl))) (mvT hZ (hw _ (List.mem_of_getElem? (i := 46) rfl))) (by decide) (backOf (W := 0) (rm7 l Z a0 hw [] N ad K ow bf af nu nw ps x2 h0 n0 S.1 S sl wk hx2) hZ (hw _ (List.mem_of_getElem? (i := 48) rfl)) (hw _ (List.mem_of_getElem? (i := 2) rfl)) (by decide) (by decide)) q3a q3c (g := (mkF m 18 #[.val (.ref ow), .val (.ref (ad x0)), .val (.ref (ad x1)), .val (.ref (ad x2)), .val (.ref (ad x3)), .val (.ref (ad x4)), .val (.ref (ad x1)), .val (.ref (ad x2)), .unset, .unset, .unset] [(.ref (ad x2)), (.ref ow)])) rfl (by rw [hml]; rfl) (Steps.refl _) (argsL := [(.ref (ad x2))]) (rest := []) (lenOf pd__Lcom_example_brazier_brazier_keyspace_ChangeOrder_Link__Lcom_example_brazier_brazier_keyspace_ChangeOrder_Link_ rfl) rfl (by show 2 * 0 + _ ≤ _; exact Nat.le_of_eq rfl) (hb hby d14_18) (fun _ _ => ⟨rfl, e2, (by decide : 0 + 0 ≤ _), (by decide : 0 + 0 ≤ _)⟩)
  dsimp only [Pt.U, Pt.locs, Pt.cells, Pt.slots] at X3 l3 y3 z3 st3 hQ3
  subst l3 y3 z3
  obtain ⟨hv3, N3q, e3⟩ := hQ3
  obtain rfl := hv3.trans (congrArg some (show own_nx ad (af x2) = (.ref (ad x3)) from (by rw [ha2]; rfl)))
  have N3 := Fr.app N2 N3q
  refine own_by (fun _ k => st3.trans k) ?_
  show own_Fin p.tables e below _ (T3.setTop (mkF m 21 #[.val (.ref ow), .val (.ref (ad x0)), .val (.ref (ad x1)), .val (.ref (ad x2)), .val (.ref (ad x3)), .val (.ref (ad x4)), .val (.ref (ad x1)), .val (.ref (ad x2)), .unset, .unset, .unset] [(.ref (ad x3))]))
  refine own_by (fun _ k => XS.astore X3.here hx rfl (hb hby d14_21) rfl rfl (l' := #[.val (.ref ow), .val (.ref (ad x0)), .val (.ref (ad x1)), .val (.ref (ad x2)), .val (.ref (ad x3)), .val (.ref (ad x4)), .val (.ref (ad x1)), .val (.ref (ad x2)), .val (.ref (ad x3)), .unset, .unset]) rfl k) ?_
  show own_Fin p.tables e below _ (T3.setTop (mkF m 23 #[.val (.ref ow), .val (.ref (ad x0)), .val (.ref (ad x1)), .val (.ref (ad x2)), .val (.ref (ad x3)), .val (.ref (ad x4)), .val (.ref (ad x1)), .val (.ref (ad x2)), .val (.ref (ad x3)), .unset, .unset] []))
  refine own_by (fun _ k => XS.aloadN X3.here hx rfl (hb hby d14_23) rfl rfl k) ?_
  show own_Fin p.tables e below _ (T3.setTop (mkF m 24 #[.val (.ref ow), .val (.ref (ad x0)), .val (.ref (ad x1)), .val (.ref (ad x2)), .val (.ref (ad x3)), .val (.ref (ad x4)), .val (.ref (ad x1)), .val (.ref (ad x2)), .val (.ref (ad x3)), .unset, .unset] [(.ref ow)]))
  refine own_by (fun _ k => XS.aload X3.here hx rfl (hb hby d14_24) rfl rfl k) ?_
  show own_Fin p.tables e below _ (T3.setTop (mkF m 26 #[.val (.ref ow), .val (.ref (ad x0)), .val (.ref (ad x1)), .val (.ref (ad x2)), .val (.ref (ad x3)), .val (.ref (ad x4)), .val (.ref (ad x1)), .val (.ref (ad x2)), .val (.ref (ad x3)), .unset, .unset] [(.ref (ad x3)), (.ref ow)]))
  obtain ⟨cq4, kq4, q4a, q4b, q4c⟩ := isOf hZ e3 S.2.2.1
  obtain ⟨_, _, ⟨T4, L4, k4, n4⟩, -, X4, ⟨Lc4, hQ4, l4, y4, z4⟩, st4⟩ := X3.virtualBack hx (y := (⟨"com/example/brazier/brazier/keyspace/ChangeOrder", "after", "(Lcom/example/brazier/brazier/keyspace/ChangeOrder$Link;)Lcom/example/brazier/brazier/keyspace/ChangeOrder$Link;"⟩ : MethodName)) (z := (⟨"com/example/brazier/brazier/keyspace/ChangeOrder", "after", "(Lcom/example/brazier/brazier/keyspace/ChangeOrder$Link;)Lcom/example/brazier/brazier/keyspace/ChangeOrder$Link;"⟩ : MethodName)) hown (mvT hZ (hw _ (List.mem_of_getElem? (i := 44) rfl))) (mvT hZ (hw _ (List.mem_of_getElem? (i := 45) rfl))) (notFace_of_selects (args := #[]) (mvT hZ (hw _ (List.mem_of_getElem? (i := 47) rfl)))) (mvT hZ (hw _ (List.mem_of_getElem? (i := 47) rfl))) (mvT hZ (hw _ (List.mem_of_getElem? (i := 46) rfl))) (by decide) (backOf (W := 0) (rm7 l Z a0 hw [] N ad K ow bf af nu nw ps x3 h0 n0 S.1 S sl wk hx3) hZ (hw _ (List.mem_of_getElem? (i := 48) rfl)) (hw _ (List.mem_of_getElem? (i := 2) rfl)) (by decide) (by decide)) q4a q4c (g := (mkF m 26 #[.val (.ref ow), .val (.ref (ad x0)), .val (.ref (ad x1)), .val (.ref (ad x2)), .val (.ref (ad x3)), .val (.ref (ad x4)), .val (.ref (ad x1)), .val (.ref (ad x2)), .val (.ref (ad x3)), .unset, .unset] [(.ref (ad x3)), (.ref ow)])) rfl (by rw [hml]; rfl) (Steps.refl _) (argsL := [(.ref (ad x3))]) (rest := []) (lenOf pd__Lcom_example_brazier_brazier_keyspace_ChangeOrder_Link__Lcom_example_brazier_brazier_keyspace_ChangeOrder_Link_ rfl) rfl (by show 2 * 0 + _ ≤ _; exact Nat.le_of_eq rfl) (hb hby d14_26) (fun _ _ => ⟨rfl, e3, (by decide : 0 + 0 ≤ _), (by decide : 0 + 0 ≤ _)⟩)
  dsimp only [Pt.U, Pt.locs, Pt.cells, Pt.slots] at X4 l4 y4 z4 st4 hQ4
  subst l4 y4 z4
  obtain ⟨hv4, N4q, e4⟩ := hQ4
  obtain rfl := hv4.trans (congrArg some (show own_nx ad (af x3) = (.ref (ad x4)) from (by rw [ha3]; rfl)))
  have N4 := Fr.app N3 N4q
  refine own_by (fun _ k => st4.trans k) ?_
  show own_Fin p.tables e below _ (T4.setTop (mkF m 29 #[.val (.ref ow), .val (.ref (ad x0)), .val (.ref (ad x1)), .val (.ref (ad x2)), .val (.ref (ad x3)), .val (.ref (ad x4)), .val (.ref (ad x1)), .val (.ref (ad x2)), .val (.ref (ad x3)), .unset, .unset] [(.ref (ad x4))]))
  refine own_by (fun _ k => XS.astore X4.here hx rfl (hb hby d14_29) rfl rfl (l' := #[.val (.ref ow), .val (.ref (ad x0)), .val (.ref (ad x1)), .val (.ref (ad x2)), .val (.ref (ad x3)), .val (.ref (ad x4)), .val (.ref (ad x1)), .val (.ref (ad x2)), .val (.ref (ad x3)), .val (.ref (ad x4)), .unset]) rfl k) ?_
  show own_Fin p.tables e below _ (T4.setTop (mkF m 31 #[.val (.ref ow), .val (.ref (ad x0)), .val (.ref (ad x1)), .val (.ref (ad x2)), .val (.ref (ad x3)), .val (.ref (ad x4)), .val (.ref (ad x1)), .val (.ref (ad x2)), .val (.ref (ad x3)), .val (.ref (ad x4)), .unset] []))
  refine own_by (fun _ k => XS.aloadN X4.here hx rfl (hb hby d14_31) rfl rfl k) ?_
  show own_Fin p.tables e below _ (T4.setTop (mkF m 32 #[.val (.ref ow), .val (.ref (ad x0)), .val (.ref (ad x1)), .val (.ref (ad x2)), .val (.ref (ad x3)), .val (.ref (ad x4)), .val (.ref (ad x1)), .val (.ref (ad x2)), .val (.ref (ad x3)), .val (.ref (ad x4)), .unset] [(.ref ow)]))
  refine own_by (fun _ k => XS.aload X4.here hx rfl (hb hby d14_32) rfl rfl k) ?_
  show own_Fin p.tables e below _ (T4.setTop (mkF m 34 #[.val (.ref ow), .val (.ref (ad x0)), .val (.ref (ad x1)), .val (.ref (ad x2)), .val (.ref (ad x3)), .val (.ref (ad x4)), .val (.ref (ad x1)), .val (.ref (ad x2)), .val (.ref (ad x3)), .val (.ref (ad x4)), .unset] [(.ref (ad x4)), (.ref ow)]))
  obtain ⟨cq5, kq5, q5a, q5b, q5c⟩ := isOf hZ e4 S.2.2.1
  obtain ⟨_, _, ⟨T5, L5, k5, n5⟩, -, X5, ⟨Lc5, hQ5, l5, y5, z5⟩, st5⟩ := X4.virtualBack hx (y := (⟨"com/example/brazier/brazier/keyspace/ChangeOrder", "after", "(Lcom/example/brazier/brazier/keyspace/ChangeOrder$Link;)Lcom/example/brazier/brazier/keyspace/ChangeOrder$Link;"⟩ : MethodName)) (z := (⟨"com/example/brazier/brazier/keyspace/ChangeOrder", "after", "(Lcom/example/brazier/brazier/keyspace/ChangeOrder$Link;)Lcom/example/brazier/brazier/keyspace/ChangeOrder$Link;"⟩ : MethodName)) hown (mvT hZ (hw _ (List.mem_of_getElem? (i := 44) rfl))) (mvT hZ (hw _ (List.mem_of_getElem? (i := 45) rfl))) (notFace_of_selects (args := #[]) (mvT hZ (hw _ (List.mem_of_getElem? (i := 47) rfl)))) (mvT hZ (hw _ (List.mem_of_getElem? (i := 47) rfl))) (mvT hZ (hw _ (List.mem_of_getElem? (i := 46) rfl))) (by decide) (backOf (W := 0) (rm7 l Z a0 hw [] N ad K ow bf af nu nw ps x4 h0 n0 S.1 S sl wk hx4) hZ (hw _ (List.mem_of_getElem? (i := 48) rfl)) (hw _ (List.mem_of_getElem? (i := 2) rfl)) (by decide) (by decide)) q5a q5c (g := (mkF m 34 #[.val (.ref ow), .val (.ref (ad x0)), .val (.ref (ad x1)), .val (.ref (ad x2)), .val (.ref (ad x3)), .val (.ref (ad x4)), .val (.ref (ad x1)), .val (.ref (ad x2)), .val (.ref (ad x3)), .val (.ref (ad x4)), .unset] [(.ref (ad x4)), (.ref ow)])) rfl (by rw [hml]; rfl) (Steps.refl _) (argsL := [(.ref (ad x4))]) (rest := []) (lenOf pd__Lcom_example_brazier_brazier_keyspace_ChangeOrder_Link__Lcom_example_brazier_brazier_keyspace_ChangeOrder_Link_ rfl) rfl (by show 2 * 0 + _ ≤ _; exact Nat.le_of_eq rfl) (hb hby d14_34) (fun _ _ => ⟨rfl, e4, (by decide : 0 + 0 ≤ _), (by decide : 0 + 0 ≤ _)⟩)
  dsimp only [Pt.U, Pt.locs, Pt.cells, Pt.slots] at X5 l5 y5 z5 st5 hQ5
  subst l5 y5 z5
  obtain ⟨hv5, N5q, e5⟩ := hQ5
  obtain rfl := hv5.trans (congrArg some (show own_nx ad (af x4) = (.ref (ad x0)) from (by rw [ha4]; rfl)))
  have N5 := Fr.app N4 N5q
  refine own_by (fun _ k => st5.trans k) ?_
  show own_Fin p.tables e below _ (T5.setTop (mkF m 37 #[.val (.ref ow), .val (.ref (ad x0)), .val (.ref (ad x1)), .val (.ref (ad x2)), .val (.ref (ad x3)), .val (.ref (ad x4)), .val (.ref (ad x1)), .val (.ref (ad x2)), .val (.ref (ad x3)), .val (.ref (ad x4)), .unset] [(.ref (ad x0))]))
  refine own_by (fun _ k => XS.astore X5.here hx rfl (hb hby d14_37) rfl rfl (l' := #[.val (.ref ow), .val (.ref (ad x0)), .val (.ref (ad x1)), .val (.ref (ad x2)), .val (.ref (ad x3)), .val (.ref (ad x4)), .val (.ref (ad x1)), .val (.ref (ad x2)), .val (.ref (ad x3)), .val (.ref (ad x4)), .val (.ref (ad x0))]) rfl k) ?_
  show own_Fin p.tables e below _ (T5.setTop (mkF m 39 #[.val (.ref ow), .val (.ref (ad x0)), .val (.ref (ad x1)), .val (.ref (ad x2)), .val (.ref (ad x3)), .val (.ref (ad x4)), .val (.ref (ad x1)), .val (.ref (ad x2)), .val (.ref (ad x3)), .val (.ref (ad x4)), .val (.ref (ad x0))] []))
  refine own_by (fun _ k => XS.aload X5.here hx rfl (hb hby d14_39) rfl rfl k) ?_
  show own_Fin p.tables e below _ (T5.setTop (mkF m 41 #[.val (.ref ow), .val (.ref (ad x0)), .val (.ref (ad x1)), .val (.ref (ad x2)), .val (.ref (ad x3)), .val (.ref (ad x4)), .val (.ref (ad x1)), .val (.ref (ad x2)), .val (.ref (ad x3)), .val (.ref (ad x4)), .val (.ref (ad x0))] [(.ref (ad x1))]))
  refine own_by (fun _ k => XS.aloadN X5.here hx rfl (hb hby d14_41) rfl rfl k) ?_
  show own_Fin p.tables e below _ (T5.setTop (mkF m 42 #[.val (.ref ow), .val (.ref (ad x0)), .val (.ref (ad x1)), .val (.ref (ad x2)), .val (.ref (ad x3)), .val (.ref (ad x4)), .val (.ref (ad x1)), .val (.ref (ad x2)), .val (.ref (ad x3)), .val (.ref (ad x4)), .val (.ref (ad x0))] [(.ref (ad x1)), (.ref (ad x1))]))
  refine own_by (fun _ k => Jvm.RoadKit.acmp (g := (mkF m 42 #[.val (.ref ow), .val (.ref (ad x0)), .val (.ref (ad x1)), .val (.ref (ad x2)), .val (.ref (ad x3)), .val (.ref (ad x4)), .val (.ref (ad x1)), .val (.ref (ad x2)), .val (.ref (ad x3)), .val (.ref (ad x4)), .val (.ref (ad x0))] [(.ref (ad x1)), (.ref (ad x1))])) X5 hx rfl rfl rfl (pc0 := 42) (pc' := 45) (same := true) rfl (hb hby d14_42) rfl (decide_eq_true rfl) (by decide) (by decide) k) ?_
  show own_Fin p.tables e below _ (T5.setTop (mkF m 45 #[.val (.ref ow), .val (.ref (ad x0)), .val (.ref (ad x1)), .val (.ref (ad x2)), .val (.ref (ad x3)), .val (.ref (ad x4)), .val (.ref (ad x1)), .val (.ref (ad x2)), .val (.ref (ad x3)), .val (.ref (ad x4)), .val (.ref (ad x0))] []))
  refine own_by (fun _ k => XS.aload X5.here hx rfl (hb hby d14_45) rfl rfl k) ?_
  show own_Fin p.tables e below _ (T5.setTop (mkF m 47 #[.val (.ref ow), .val (.ref (ad x0)), .val (.ref (ad x1)), .val (.ref (ad x2)), .val (.ref (ad x3)), .val (.ref (ad x4)), .val (.ref (ad x1)), .val (.ref (ad x2)), .val (.ref (ad x3)), .val (.ref (ad x4)), .val (.ref (ad x0))] [(.ref (ad x2))]))
  refine own_by (fun _ k => XS.aloadN X5.here hx rfl (hb hby d14_47) rfl rfl k) ?_
  show own_Fin p.tables e below _ (T5.setTop (mkF m 48 #[.val (.ref ow), .val (.ref (ad x0)), .val (.ref (ad x1)), .val (.ref (ad x2)), .val (.ref (ad x3)), .val (.ref (ad x4)), .val (.ref (ad x1)), .val (.ref (ad x2)), .val (.ref (ad x3)), .val (.ref (ad x4)), .val (.ref (ad x0))] [(.ref (ad x2)), (.ref (ad x2))]))
  refine own_by (fun _ k => Jvm.RoadKit.acmp (g := (mkF m 48 #[.val (.ref ow), .val (.ref (ad x0)), .val (.ref (ad x1)), .val (.ref (ad x2)), .val (.ref (ad x3)), .val (.ref (ad x4)), .val (.ref (ad x1)), .val (.ref (ad x2)), .val (.ref (ad x3)), .val (.ref (ad x4)), .val (.ref (ad x0))] [(.ref (ad x2)), (.ref (ad x2))])) X5 hx rfl rfl rfl (pc0 := 48) (pc' := 51) (same := true) rfl (hb hby d14_48) rfl (decide_eq_true rfl) (by decide) (by decide) k) ?_
  show own_Fin p.tables e below _ (T5.setTop (mkF m 51 #[.val (.ref ow), .val (.ref (ad x0)), .val (.ref (ad x1)), .val (.ref (ad x2)), .val (.ref (ad x3)), .val (.ref (ad x4)), .val (.ref (ad x1)), .val (.ref (ad x2)), .val (.ref (ad x3)), .val (.ref (ad x4)), .val (.ref (ad x0))] []))
  refine own_by (fun _ k => XS.aload X5.here hx rfl (hb hby d14_51) rfl rfl k) ?_
  show own_Fin p.tables e below _ (T5.setTop (mkF m 53 #[.val (.ref ow), .val (.ref (ad x0)), .val (.ref (ad x1)), .val (.ref (ad x2)), .val (.ref (ad x3)), .val (.ref (ad x4)), .val (.ref (ad x1)), .val (.ref (ad x2)), .val (.ref (ad x3)), .val (.ref (ad x4)), .val (.ref (ad x0))] [(.ref (ad x3))]))
  refine own_by (fun _ k => XS.aload X5.here hx rfl (hb hby d14_53) rfl rfl k) ?_
  show own_Fin p.tables e below _ (T5.setTop (mkF m 55 #[.val (.ref ow), .val (.ref (ad x0)), .val (.ref (ad x1)), .val (.ref (ad x2)), .val (.ref (ad x3)), .val (.ref (ad x4)), .val (.ref (ad x1)), .val (.ref (ad x2)), .val (.ref (ad x3)), .val (.ref (ad x4)), .val (.ref (ad x0))] [(.ref (ad x3)), (.ref (ad x3))]))
  refine own_by (fun _ k => Jvm.RoadKit.acmp (g := (mkF m 55 #[.val (.ref ow), .val (.ref (ad x0)), .val (.ref (ad x1)), .val (.ref (ad x2)), .val (.ref (ad x3)), .val (.ref (ad x4)), .val (.ref (ad x1)), .val (.ref (ad x2)), .val (.ref (ad x3)), .val (.ref (ad x4)), .val (.ref (ad x0))] [(.ref (ad x3)), (.ref (ad x3))])) X5 hx rfl rfl rfl (pc0 := 55) (pc' := 58) (same := true) rfl (hb hby d14_55) rfl (decide_eq_true rfl) (by decide) (by decide) k) ?_
  show own_Fin p.tables e below _ (T5.setTop (mkF m 58 #[.val (.ref ow), .val (.ref (ad x0)), .val (.ref (ad x1)), .val (.ref (ad x2)), .val (.ref (ad x3)), .val (.ref (ad x4)), .val (.ref (ad x1)), .val (.ref (ad x2)), .val (.ref (ad x3)), .val (.ref (ad x4)), .val (.ref (ad x0))] []))
  refine own_by (fun _ k => XS.aload X5.here hx rfl (hb hby d14_58) rfl rfl k) ?_
  show own_Fin p.tables e below _ (T5.setTop (mkF m 60 #[.val (.ref ow), .val (.ref (ad x0)), .val (.ref (ad x1)), .val (.ref (ad x2)), .val (.ref (ad x3)), .val (.ref (ad x4)), .val (.ref (ad x1)), .val (.ref (ad x2)), .val (.ref (ad x3)), .val (.ref (ad x4)), .val (.ref (ad x0))] [(.ref (ad x4))]))
  refine own_by (fun _ k => XS.aload X5.here hx rfl (hb hby d14_60) rfl rfl k) ?_
  show own_Fin p.tables e below _ (T5.setTop (mkF m 62 #[.val (.ref ow), .val (.ref (ad x0)), .val (.ref (ad x1)), .val (.ref (ad x2)), .val (.ref (ad x3)), .val (.ref (ad x4)), .val (.ref (ad x1)), .val (.ref (ad x2)), .val (.ref (ad x3)), .val (.ref (ad x4)), .val (.ref (ad x0))] [(.ref (ad x4)), (.ref (ad x4))]))
  refine own_by (fun _ k => Jvm.RoadKit.acmp (g := (mkF m 62 #[.val (.ref ow), .val (.ref (ad x0)), .val (.ref (ad x1)), .val (.ref (ad x2)), .val (.ref (ad x3)), .val (.ref (ad x4)), .val (.ref (ad x1)), .val (.ref (ad x2)), .val (.ref (ad x3)), .val (.ref (ad x4)), .val (.ref (ad x0))] [(.ref (ad x4)), (.ref (ad x4))])) X5 hx rfl rfl rfl (pc0 := 62) (pc' := 65) (same := true) rfl (hb hby d14_62) rfl (decide_eq_true rfl) (by decide) (by decide) k) ?_
  show own_Fin p.tables e below _ (T5.setTop (mkF m 65 #[.val (.ref ow), .val (.ref (ad x0)), .val (.ref (ad x1)), .val (.ref (ad x2)), .val (.ref (ad x3)), .val (.ref (ad x4)), .val (.ref (ad x1)), .val (.ref (ad x2)), .val (.ref (ad x3)), .val (.ref (ad x4)), .val (.ref (ad x0))] []))
  refine own_by (fun _ k => XS.aload X5.here hx rfl (hb hby d14_65) rfl rfl k) ?_
  show own_Fin p.tables e below _ (T5.setTop (mkF m 67 #[.val (.ref ow), .val (.ref (ad x0)), .val (.ref (ad x1)), .val (.ref (ad x2)), .val (.ref (ad x3)), .val (.ref (ad x4)), .val (.ref (ad x1)), .val (.ref (ad x2)), .val (.ref (ad x3)), .val (.ref (ad x4)), .val (.ref (ad x0))] [(.ref (ad x0))]))
  refine own_by (fun _ k => XS.aloadN X5.here hx rfl (hb hby d14_67) rfl rfl k) ?_
  show own_Fin p.tables e below _ (T5.setTop (mkF m 68 #[.val (.ref ow), .val (.ref (ad x0)), .val (.ref (ad x1)), .val (.ref (ad x2)), .val (.ref (ad x3)), .val (.ref (ad x4)), .val (.ref (ad x1)), .val (.ref (ad x2)), .val (.ref (ad x3)), .val (.ref (ad x4)), .val (.ref (ad x0))] [(.ref (ad x0)), (.ref (ad x0))]))
  refine own_by (fun _ k => Jvm.RoadKit.acmp (g := (mkF m 68 #[.val (.ref ow), .val (.ref (ad x0)), .val (.ref (ad x1)), .val (.ref (ad x2)), .val (.ref (ad x3)), .val (.ref (ad x4)), .val (.ref (ad x1)), .val (.ref (ad x2)), .val (.ref (ad x3)), .val (.ref (ad x4)), .val (.ref (ad x0))] [(.ref (ad x0)), (.ref (ad x0))])) X5 hx rfl rfl rfl (pc0 := 68) (pc' := 71) (same := true) rfl (hb hby d14_68) rfl (decide_eq_true rfl) (by decide) (by decide) k) ?_
  show own_Fin p.tables e below _ (T5.setTop (mkF m 71 #[.val (.ref ow), .val (.ref (ad x0)), .val (.ref (ad x1)), .val (.ref (ad x2)), .val (.ref (ad x3)), .val (.ref (ad x4)), .val (.ref (ad x1)), .val (.ref (ad x2)), .val (.ref (ad x3)), .val (.ref (ad x4)), .val (.ref (ad x0))] []))
  refine own_by (fun _ k => XS.iconst X5.here hx rfl (hb hby d14_71) k) ?_
  show own_Fin p.tables e below _ (T5.setTop (mkF m 72 #[.val (.ref ow), .val (.ref (ad x0)), .val (.ref (ad x1)), .val (.ref (ad x2)), .val (.ref (ad x3)), .val (.ref (ad x4)), .val (.ref (ad x1)), .val (.ref (ad x2)), .val (.ref (ad x3)), .val (.ref (ad x4)), .val (.ref (ad x0))] [(.int (1 : Int32))]))
  refine own_by (fun _ k => XS.goto X5.here hx rfl (pc0 := 72) (pc' := 76) rfl (hb hby d14_72) (by decide) (by decide) k) ?_
  show own_Fin p.tables e below _ (T5.setTop (mkF m 76 #[.val (.ref ow), .val (.ref (ad x0)), .val (.ref (ad x1)), .val (.ref (ad x2)), .val (.ref (ad x3)), .val (.ref (ad x4)), .val (.ref (ad x1)), .val (.ref (ad x2)), .val (.ref (ad x3)), .val (.ref (ad x4)), .val (.ref (ad x0))] [(.int (1 : Int32))]))
  exact own_retN X5 hx (t := .boolean) Bd.returns hlk (by simp) (hb hby d14_76) (by decide) (by decide) ⟨rfl, N5, e5⟩
theorem d1_0 : decode prog_37_method_1_code 0 = .ok (.aload_n 0, 1) := by decide +kernel
theorem d1_1 : decode prog_37_method_1_code 1 = .ok (.invokespecial 1, 3) := by decide +kernel
theorem d1_4 : decode prog_37_method_1_code 4 = .ok (.aload_n 0, 1) := by decide +kernel
theorem d1_5 : decode prog_37_method_1_code 5 = .ok (.new 7, 3) := by decide +kernel
theorem d1_8 : decode prog_37_method_1_code 8 = .ok (.dup, 1) := by decide +kernel
theorem d1_9 : decode prog_37_method_1_code 9 = .ok (.invokespecial 9, 3) := by decide +kernel
theorem d1_12 : decode prog_37_method_1_code 12 = .ok (.putfield 10, 3) := by decide +kernel
theorem d1_15 : decode prog_37_method_1_code 15 = .ok (.aload_n 0, 1) := by decide +kernel
theorem d1_16 : decode prog_37_method_1_code 16 = .ok (.getfield 10, 3) := by decide +kernel
theorem d1_19 : decode prog_37_method_1_code 19 = .ok (.aload_n 0, 1) := by decide +kernel
theorem d1_20 : decode prog_37_method_1_code 20 = .ok (.getfield 10, 3) := by decide +kernel
theorem d1_23 : decode prog_37_method_1_code 23 = .ok (.putfield 16, 3) := by decide +kernel
theorem d1_26 : decode prog_37_method_1_code 26 = .ok (.aload_n 0, 1) := by decide +kernel
theorem d1_27 : decode prog_37_method_1_code 27 = .ok (.getfield 10, 3) := by decide +kernel
theorem d1_30 : decode prog_37_method_1_code 30 = .ok (.aload_n 0, 1) := by decide +kernel
theorem d1_31 : decode prog_37_method_1_code 31 = .ok (.getfield 10, 3) := by decide +kernel
theorem d1_34 : decode prog_37_method_1_code 34 = .ok (.putfield 19, 3) := by decide +kernel
theorem d1_37 : decode prog_37_method_1_code 37 = .ok (.return_, 1) := by decide +kernel
theorem ef_1 (m : MethodId) (o0 : Addr) : entryFrame m #[(.ref o0)] 1 = mkF m 0 #[.val (.ref o0)] [] := by first | (simp [entryFrame, mkF, argsToLocals, Value.category]; done) | rfl
def Q1 (Z : State) (o0 : Addr) (h0 : Heap) (n0 : Nat) (v : Option Value) (h : Heap) (L : List Loc) : Prop := ∃ st : Addr, v = none ∧ Fr n0 L ∧ n0 ≤ st ∧ n0 ≤ h.size ∧ o0 ≠ st ∧ Exa Z h o0 "com/example/brazier/brazier/keyspace/ChangeOrder" ∧ Fld Z h o0 "com/example/brazier/brazier/keyspace/ChangeOrder" "start" "Lcom/example/brazier/brazier/keyspace/ChangeOrder$Link;" (.ref st) ∧ Fld Z h o0 "com/example/brazier/brazier/keyspace/ChangeOrder" "newest" "J" (.long (0 : Int64)) ∧ Fld Z h o0 "com/example/brazier/brazier/keyspace/ChangeOrder" "passed" "J" (.long (0 : Int64)) ∧ Exa Z h st "com/example/brazier/brazier/keyspace/ChangeOrder$Link" ∧ Fld Z h st "com/example/brazier/brazier/keyspace/ChangeOrder$Link" "before" "Lcom/example/brazier/brazier/keyspace/ChangeOrder$Link;" (.ref st) ∧ Fld Z h st "com/example/brazier/brazier/keyspace/ChangeOrder$Link" "after" "Lcom/example/brazier/brazier/keyspace/ChangeOrder$Link;" (.ref st) ∧ Fld Z h st "com/example/brazier/brazier/keyspace/ChangeOrder$Link" "number" "J" (.long (0 : Int64))
set_option maxRecDepth 65536 in
set_option maxHeartbeats 40000000 in
theorem rm1 (l : Launch) (Z : State) (a0 : Array Value) (hw : ∀ d ∈ tables_1, d.before a0 Z = true) (ws : List Jvm.Cond) (o0 : Addr)   (h0 : Heap) (n0 : Nat) (Z0 : n0 ≤ h0.size)  (E_o0 : Exa Z h0 o0 "com/example/brazier/brazier/keyspace/ChangeOrder") (F_start : Fld Z h0 o0 "com/example/brazier/brazier/keyspace/ChangeOrder" "start" "Lcom/example/brazier/brazier/keyspace/ChangeOrder$Link;" .null) (F_newest : Fld Z h0 o0 "com/example/brazier/brazier/keyspace/ChangeOrder" "newest" "J" (.long (0 : Int64))) (F_passed : Fld Z h0 o0 "com/example/brazier/brazier/keyspace/ChangeOrder" "passed" "J" (.long (0 : Int64))) (g_o0 : n0 ≤ o0) :
    MetFree l (⟨"com/example/brazier/brazier/keyspace/ChangeOrder", "<init>", "()V"⟩ : MethodName) (head1 (Jvm.Cond.code (⟨"com/example/brazier/brazier/keyspace/ChangeOrder", "<init>", "()V"⟩ : MethodName) prog_37_method_1_code 1 none :: ws) ({ frames := 2, cells := 1, slots := 3, locals := 26 } : Room)) (fun a U => a = #[(.ref o0)] ∧ Z.Warmed39 U.vm ∧ U.heap = h0) (fun _ _ _ _ _ => True) (fun _ U o U' => ∃ v L, o = .returned v ∧ Q1 Z o0 h0 n0 v U'.heap L ∧ FrameEnd U o U' L ({ frames := 2, cells := 1, slots := 3, locals := 26 } : Room).cells ({ frames := 2, cells := 1, slots := 3, locals := 26 } : Room).slots) := by
  refine MetFree.of_bodySF (plainFor_of_name pn_com_example_brazier_brazier_keyspace_ChangeOrder) hisR ?_
  intro p e s m args below meth c s₁ Bd hml0 hP hK
  obtain ⟨rfl, hZ, hh⟩ := hP
  have hx := Bd.exec
  have hby := Bd.bytes
  have hlk : meth.locks = false := BodyLoose.notSynchronized Bd
  have hml : c.maxLocals = 1 := hml0
  have hown : s.vm.findClass "com/example/brazier/brazier/keyspace/ChangeOrder" = some m.cls := findClass_of_methodNamed Bd.named
  have hnm := (name_of_methodNamed Bd.named Bd.method).1
  have X0 : Stand p l e ({ frames := 2, cells := 1, slots := 3, locals := 26 } : Room) s m #[(.ref o0)] below meth c s₁ [] 0 0 := Stand.of_body Bd
  have e0 : s₁.heap = h0 := by rw [← hh, Bd.state]; rfl
  have N0 := Fr.nil n0
  refine own_by (U' := s₁.setTop (mkF m 0 #[.val (.ref o0)] [])) (fun t k => castTop (ef_1 m o0) k) ?_
  refine own_by (fun _ k => XS.aloadN X0.here hx rfl (hb hby d1_0) rfl rfl k) ?_
  show own_Fin p.tables e below _ (s₁.setTop (mkF m 1 #[.val (.ref o0)] [(.ref o0)]))
  obtain ⟨T1, X1, e1, st1⟩ := initO X0 hx hZ hown (hw _ (List.mem_of_getElem? (i := 6) rfl)) (hw _ (List.mem_of_getElem? (i := 7) rfl)) (hw _ (List.mem_of_getElem? (i := 8) rfl)) e0 (g := (mkF m 1 #[.val (.ref o0)] [(.ref o0)])) rfl (by rw [hml]; rfl) rfl (hb hby d1_1) (by decide) (W := 0) (by show 2 * 0 + _ ≤ _; exact Nat.le_of_eq rfl) (by decide)
  refine own_by st1 ?_
  show own_Fin p.tables e below _ (T1.setTop (mkF m 4 #[.val (.ref o0)] []))
  refine own_by (fun _ k => XS.aloadN X1.here hx rfl (hb hby d1_4) rfl rfl k) ?_
  show own_Fin p.tables e below _ (T1.setTop (mkF m 5 #[.val (.ref o0)] [(.ref o0)]))
  obtain ⟨T2, h2, X2, e2, E2, A2, D2, -, st2⟩ := newO X1 hx hZ hown (hw _ (List.mem_of_getElem? (i := 9) rfl)) (hw _ (List.mem_of_getElem? (i := 10) rfl)) (hw _ (List.mem_of_getElem? (i := 11) rfl)) e1 (g := (mkF m 5 #[.val (.ref o0)] [(.ref o0)])) rfl (hb hby d1_5) (by decide) (by decide)
  obtain ⟨b2, g2⟩ : ∃ z, z = h0.size := ⟨_, rfl⟩
  rw [← g2] at A2 D2 st2
  have g_b2 : n0 ≤ b2 := Nat.le_trans Z0 (Nat.le_of_eq g2.symm)
  have Z2 : n0 ≤ h2.size := Nat.le_trans Z0 E2.1
  refine own_by st2 ?_
  have ne2_o0 : o0 ≠ b2 := Nat.ne_of_lt (Nat.lt_of_lt_of_le E_o0.lt (Nat.le_of_eq g2.symm))
  have E2_0 : Exa Z h2 o0 "com/example/brazier/brazier/keyspace/ChangeOrder" := (E_o0.ext E2)
  have F2_0 : Fld Z h2 o0 "com/example/brazier/brazier/keyspace/ChangeOrder" "start" "Lcom/example/brazier/brazier/keyspace/ChangeOrder$Link;" .null := (F_start.ext E2)
  have F2_1 : Fld Z h2 o0 "com/example/brazier/brazier/keyspace/ChangeOrder" "newest" "J" (.long (0 : Int64)) := (F_newest.ext E2)
  have F2_2 : Fld Z h2 o0 "com/example/brazier/brazier/keyspace/ChangeOrder" "passed" "J" (.long (0 : Int64)) := (F_passed.ext E2)
  have F2_before : Fld Z h2 b2 "com/example/brazier/brazier/keyspace/ChangeOrder$Link" "before" "Lcom/example/brazier/brazier/keyspace/ChangeOrder$Link;" .null := D2 (Or.inl (hw _ (List.mem_of_getElem? (i := 19) rfl))) (ty := (.object "com/example/brazier/brazier/keyspace/ChangeOrder$Link")) (by decide)
  have F2_after : Fld Z h2 b2 "com/example/brazier/brazier/keyspace/ChangeOrder$Link" "after" "Lcom/example/brazier/brazier/keyspace/ChangeOrder$Link;" .null := D2 (Or.inl (hw _ (List.mem_of_getElem? (i := 21) rfl))) (ty := (.object "com/example/brazier/brazier/keyspace/ChangeOrder$Link")) (by decide)
  have F2_number : Fld Z h2 b2 "com/example/brazier/brazier/keyspace/ChangeOrder$Link" "number" "J" (.long (0 : Int64)) := D2 (Or.inl (hw _ (List.mem_of_getElem? (i := 40) rfl))) (ty := .long) (by decide)
  show own_Fin p.tables e below _ (T2.setTop (mkF m 8 #[.val (.ref o0)] [(.ref b2), (.ref o0)]))
  refine own_by (fun _ k => XS.dup X2.here hx rfl (hb hby d1_8) rfl rfl k) ?_
  show own_Fin p.tables e below _ (T2.setTop (mkF m 9 #[.val (.ref o0)] [(.ref b2), (.ref b2), (.ref o0)]))
  obtain ⟨_, _, ⟨T3, L3, k3, n3⟩, -, X3, ⟨Lc3, hQ3, l3, y3, z3⟩, st3⟩ := X2.specialBack hx (y := (⟨"com/example/brazier/brazier/keyspace/ChangeOrder$Link", "<init>", "()V"⟩ : MethodName)) rfl hown (mvT hZ (hw _ (List.mem_of_getElem? (i := 12) rfl))) (mvT hZ (hw _ (List.mem_of_getElem? (i := 13) rfl))) (mvT hZ (hw _ (List.mem_of_getElem? (i := 14) rfl))) (by decide) (backOf (W := 2) (rm3 l Z a0 hw [] b2 h2 n0 Z2 ) hZ (hw _ (List.mem_of_getElem? (i := 14) rfl)) (hw _ (List.mem_of_getElem? (i := 11) rfl)) (by decide) (by decide)) (g := (mkF m 9 #[.val (.ref o0)] [(.ref b2), (.ref b2), (.ref o0)])) rfl (by rw [hml]; rfl) (Steps.refl _) (a := b2) (argsL := []) (rest := [(.ref b2), (.ref o0)]) (lenOf pd___V rfl) rfl (by show 2 * 0 + _ ≤ _; exact Nat.le_of_eq rfl) (hb hby d1_9) (fun _ _ => ⟨rfl, e2, (by decide : 1 + 0 ≤ _), (by decide : 3 + 0 ≤ _)⟩)
  dsimp only [Pt.U, Pt.locs, Pt.cells, Pt.slots] at X3 l3 y3 z3 st3 hQ3
  subst l3 y3 z3
  obtain ⟨rfl, N3q, e3⟩ := hQ3
  have N3 := Fr.app N0 N3q
  refine own_by (fun _ k => st3.trans k) ?_
  show own_Fin p.tables e below _ (T3.setTop (mkF m 12 #[.val (.ref o0)] [(.ref b2), (.ref o0)]))
  obtain ⟨T4, h4, X4, e4, W4, st4⟩ := putF X3 hx hZ hown (host := "") (Or.inl (hw _ (List.mem_of_getElem? (i := 16) rfl))) Via.refl e3 F2_0 E2_0 (Or.inr ⟨(hw _ (List.mem_of_getElem? (i := 17) rfl)), rfl, hnm⟩) (hw _ (List.mem_of_getElem? (i := 1) rfl)) (ty := (.object "com/example/brazier/brazier/keyspace/ChangeOrder$Link")) (by decide) rfl rfl (g := (mkF m 12 #[.val (.ref o0)] [(.ref b2), (.ref o0)])) rfl rfl (hb hby d1_12)
  have N4 := Fr.snoc X4 N3 g_o0
  have Z4 : n0 ≤ h4.size := Nat.le_trans Z2 (Keep.of_wr W4).1
  refine own_by st4 ?_
  have Fw4 := F2_0.same W4
  have E4_0 : Exa Z h4 o0 "com/example/brazier/brazier/keyspace/ChangeOrder" := (E2_0.wr W4)
  have E4_1 : Exa Z h4 b2 "com/example/brazier/brazier/keyspace/ChangeOrder$Link" := (A2.wr W4)
  have F4_1 : Fld Z h4 o0 "com/example/brazier/brazier/keyspace/ChangeOrder" "newest" "J" (.long (0 : Int64)) := (F2_1.other W4 (Or.inr (slot_ne (Or.inl (hw _ (List.mem_of_getElem? (i := 38) rfl))) (Or.inr (hw _ (List.mem_of_getElem? (i := 17) rfl))) (by decide) (t := .long) (t' := (.object "com/example/brazier/brazier/keyspace/ChangeOrder$Link")) (by decide) (by decide))))
  have F4_2 : Fld Z h4 o0 "com/example/brazier/brazier/keyspace/ChangeOrder" "passed" "J" (.long (0 : Int64)) := (F2_2.other W4 (Or.inr (slot_ne (Or.inl (hw _ (List.mem_of_getElem? (i := 67) rfl))) (Or.inr (hw _ (List.mem_of_getElem? (i := 17) rfl))) (by decide) (t := .long) (t' := (.object "com/example/brazier/brazier/keyspace/ChangeOrder$Link")) (by decide) (by decide))))
  have F4_3 : Fld Z h4 b2 "com/example/brazier/brazier/keyspace/ChangeOrder$Link" "before" "Lcom/example/brazier/brazier/keyspace/ChangeOrder$Link;" .null := (F2_before.other W4 (Or.inl (Ne.symm ne2_o0)))
  have F4_4 : Fld Z h4 b2 "com/example/brazier/brazier/keyspace/ChangeOrder$Link" "after" "Lcom/example/brazier/brazier/keyspace/ChangeOrder$Link;" .null := (F2_after.other W4 (Or.inl (Ne.symm ne2_o0)))
  have F4_5 : Fld Z h4 b2 "com/example/brazier/brazier/keyspace/ChangeOrder$Link" "number" "J" (.long (0 : Int64)) := (F2_number.other W4 (Or.inl (Ne.symm ne2_o0)))
  show own_Fin p.tables e below _ (T4.setTop (mkF m 15 #[.val (.ref o0)] []))
  refine own_by (fun _ k => XS.aloadN X4.here hx rfl (hb hby d1_15) rfl rfl k) ?_
  show own_Fin p.tables e below _ (T4.setTop (mkF m 16 #[.val (.ref o0)] [(.ref o0)]))
  obtain ⟨T5, X5, e5, st5⟩ := getF X4 hx hZ hown (host := "") (Or.inl (hw _ (List.mem_of_getElem? (i := 16) rfl))) Via.refl e4 Fw4 (g := (mkF m 16 #[.val (.ref o0)] [(.ref o0)])) rfl rfl (hb hby d1_16)
  refine own_by st5 ?_
  show own_Fin p.tables e below _ (T5.setTop (mkF m 19 #[.val (.ref o0)] [(.ref b2)]))
  refine own_by (fun _ k => XS.aloadN X5.here hx rfl (hb hby d1_19) rfl rfl k) ?_
  show own_Fin p.tables e below _ (T5.setTop (mkF m 20 #[.val (.ref o0)] [(.ref o0), (.ref b2)]))
  obtain ⟨T6, X6, e6, st6⟩ := getF X5 hx hZ hown (host := "") (Or.inl (hw _ (List.mem_of_getElem? (i := 16) rfl))) Via.refl e5 Fw4 (g := (mkF m 20 #[.val (.ref o0)] [(.ref o0), (.ref b2)])) rfl rfl (hb hby d1_20)
  refine own_by st6 ?_
  show own_Fin p.tables e below _ (T6.setTop (mkF m 23 #[.val (.ref o0)] [(.ref b2), (.ref b2)]))
  obtain ⟨T7, h7, X7, e7, W7, st7⟩ := own_putR X6 hx hZ hown (hw _ (List.mem_of_getElem? (i := 18) rfl)) e6 F4_3 E4_1 (hw _ (List.mem_of_getElem? (i := 19) rfl)) (hw _ (List.mem_of_getElem? (i := 10) rfl)) (ty := (.object "com/example/brazier/brazier/keyspace/ChangeOrder$Link")) (by decide) rfl rfl (g := (mkF m 23 #[.val (.ref o0)] [(.ref b2), (.ref b2)])) rfl rfl (hb hby d1_23)
  have N7 := Fr.snoc X7 N4 g_b2
  have Z7 : n0 ≤ h7.size := Nat.le_trans Z4 (Keep.of_wr W7).1
  refine own_by st7 ?_
  have Fw7 := F4_3.same W7
  have E7_0 : Exa Z h7 o0 "com/example/brazier/brazier/keyspace/ChangeOrder" := (E4_0.wr W7)
  have E7_1 : Exa Z h7 b2 "com/example/brazier/brazier/keyspace/ChangeOrder$Link" := (E4_1.wr W7)
  have F7_0 : Fld Z h7 o0 "com/example/brazier/brazier/keyspace/ChangeOrder" "start" "Lcom/example/brazier/brazier/keyspace/ChangeOrder$Link;" (.ref b2) := (Fw4.other W7 (Or.inl ne2_o0))
  have F7_1 : Fld Z h7 o0 "com/example/brazier/brazier/keyspace/ChangeOrder" "newest" "J" (.long (0 : Int64)) := (F4_1.other W7 (Or.inl ne2_o0))
  have F7_2 : Fld Z h7 o0 "com/example/brazier/brazier/keyspace/ChangeOrder" "passed" "J" (.long (0 : Int64)) := (F4_2.other W7 (Or.inl ne2_o0))
  have F7_4 : Fld Z h7 b2 "com/example/brazier/brazier/keyspace/ChangeOrder$Link" "after" "Lcom/example/brazier/brazier/keyspace/ChangeOrder$Link;" .null := (F4_4.other W7 (Or.inr (slot_ne (Or.inl (hw _ (List.mem_of_getElem? (i := 21) rfl))) (Or.inl (hw _ (List.mem_of_getElem? (i := 19) rfl))) (by decide) (t := (.object "com/example/brazier/brazier/keyspace/ChangeOrder$Link")) (t' := (.object "com/example/brazier/brazier/keyspace/ChangeOrder$Link")) (by decide) (by decide))))
  have F7_5 : Fld Z h7 b2 "com/example/brazier/brazier/keyspace/ChangeOrder$Link" "number" "J" (.long (0 : Int64)) := (F4_5.other W7 (Or.inr (slot_ne (Or.inl (hw _ (List.mem_of_getElem? (i := 40) rfl))) (Or.inl (hw _ (List.mem_of_getElem? (i := 19) rfl))) (by decide) (t := .long) (t' := (.object "com/example/brazier/brazier/keyspace/ChangeOrder$Link")) (by decide) (by decide))))
  show own_Fin p.tables e below _ (T7.setTop (mkF m 26 #[.val (.ref o0)] []))
  refine own_by (fun _ k => XS.aloadN X7.here hx rfl (hb hby d1_26) rfl rfl k) ?_
  show own_Fin p.tables e below _ (T7.setTop (mkF m 27 #[.val (.ref o0)] [(.ref o0)]))
  obtain ⟨T8, X8, e8, st8⟩ := getF X7 hx hZ hown (host := "") (Or.inl (hw _ (List.mem_of_getElem? (i := 16) rfl))) Via.refl e7 F7_0 (g := (mkF m 27 #[.val (.ref o0)] [(.ref o0)])) rfl rfl (hb hby d1_27)
  refine own_by st8 ?_
  show own_Fin p.tables e below _ (T8.setTop (mkF m 30 #[.val (.ref o0)] [(.ref b2)]))
  refine own_by (fun _ k => XS.aloadN X8.here hx rfl (hb hby d1_30) rfl rfl k) ?_
  show own_Fin p.tables e below _ (T8.setTop (mkF m 31 #[.val (.ref o0)] [(.ref o0), (.ref b2)]))
  obtain ⟨T9, X9, e9, st9⟩ := getF X8 hx hZ hown (host := "") (Or.inl (hw _ (List.mem_of_getElem? (i := 16) rfl))) Via.refl e8 F7_0 (g := (mkF m 31 #[.val (.ref o0)] [(.ref o0), (.ref b2)])) rfl rfl (hb hby d1_31)
  refine own_by st9 ?_
  show own_Fin p.tables e below _ (T9.setTop (mkF m 34 #[.val (.ref o0)] [(.ref b2), (.ref b2)]))
  obtain ⟨T10, h10, X10, e10, W10, st10⟩ := own_putR X9 hx hZ hown (hw _ (List.mem_of_getElem? (i := 20) rfl)) e9 F7_4 E7_1 (hw _ (List.mem_of_getElem? (i := 21) rfl)) (hw _ (List.mem_of_getElem? (i := 10) rfl)) (ty := (.object "com/example/brazier/brazier/keyspace/ChangeOrder$Link")) (by decide) rfl rfl (g := (mkF m 34 #[.val (.ref o0)] [(.ref b2), (.ref b2)])) rfl rfl (hb hby d1_34)
  have N10 := Fr.snoc X10 N7 g_b2
  have Z10 : n0 ≤ h10.size := Nat.le_trans Z7 (Keep.of_wr W10).1
  refine own_by st10 ?_
  have Fw10 := F7_4.same W10
  have E10_0 : Exa Z h10 o0 "com/example/brazier/brazier/keyspace/ChangeOrder" := (E7_0.wr W10)
  have E10_1 : Exa Z h10 b2 "com/example/brazier/brazier/keyspace/ChangeOrder$Link" := (E7_1.wr W10)
  have F10_0 : Fld Z h10 o0 "com/example/brazier/brazier/keyspace/ChangeOrder" "start" "Lcom/example/brazier/brazier/keyspace/ChangeOrder$Link;" (.ref b2) := (F7_0.other W10 (Or.inl ne2_o0))
  have F10_1 : Fld Z h10 o0 "com/example/brazier/brazier/keyspace/ChangeOrder" "newest" "J" (.long (0 : Int64)) := (F7_1.other W10 (Or.inl ne2_o0))
  have F10_2 : Fld Z h10 o0 "com/example/brazier/brazier/keyspace/ChangeOrder" "passed" "J" (.long (0 : Int64)) := (F7_2.other W10 (Or.inl ne2_o0))
  have F10_3 : Fld Z h10 b2 "com/example/brazier/brazier/keyspace/ChangeOrder$Link" "before" "Lcom/example/brazier/brazier/keyspace/ChangeOrder$Link;" (.ref b2) := (Fw7.other W10 (Or.inr (slot_ne (Or.inl (hw _ (List.mem_of_getElem? (i := 19) rfl))) (Or.inl (hw _ (List.mem_of_getElem? (i := 21) rfl))) (by decide) (t := (.object "com/example/brazier/brazier/keyspace/ChangeOrder$Link")) (t' := (.object "com/example/brazier/brazier/keyspace/ChangeOrder$Link")) (by decide) (by decide))))
  have F10_5 : Fld Z h10 b2 "com/example/brazier/brazier/keyspace/ChangeOrder$Link" "number" "J" (.long (0 : Int64)) := (F7_5.other W10 (Or.inr (slot_ne (Or.inl (hw _ (List.mem_of_getElem? (i := 40) rfl))) (Or.inl (hw _ (List.mem_of_getElem? (i := 21) rfl))) (by decide) (t := .long) (t' := (.object "com/example/brazier/brazier/keyspace/ChangeOrder$Link")) (by decide) (by decide))))
  show own_Fin p.tables e below _ (T10.setTop (mkF m 37 #[.val (.ref o0)] []))
  exact own_retV X10 hx Bd.returns hlk (hb hby d1_37) (by decide) (by decide) (by rw [e10]; exact ⟨b2, rfl, N10, g_b2, Z10, ne2_o0, E10_0, F10_0, F10_1, F10_2, E10_1, F10_3, Fw10, F10_5⟩)
def own_K : Nat → String := fun k => if k = 4 then "com/example/brazier/brazier/keyspace/ChangeOrder$Place" else "com/example/brazier/brazier/keyspace/ChangeOrder$Link"
def own_b0 : Nat → Option Nat := fun k => if k = 0 then some 0 else none
def own_n0 : Nat → Int64 := fun _ => (0 : Int64)
def own_w0 : Int64 := (0 : Int64)
theorem own_lt5 {i : Nat} (h : i < 5) : i = 0 ∨ i = 1 ∨ i = 2 ∨ i = 3 ∨ i = 4 := by omega
def own_b1 : Nat → Option Nat := (own_lb own_b0 1 0 0)
def own_a2 : Nat → Option Nat := (own_lb own_b0 1 0 0)
def own_n3 : Nat → Int64 := (own_u own_n0 1 (own_w0 + (1 : Int64)))
def own_w4 : Int64 := (own_w0 + (1 : Int64))
def own_b5 : Nat → Option Nat := (own_lb own_b1 2 1 0)
def own_a6 : Nat → Option Nat := (own_lb own_a2 2 0 1)
def own_n7 : Nat → Int64 := (own_u own_n3 2 (own_w4 + (1 : Int64)))
def own_w8 : Int64 := (own_w4 + (1 : Int64))
def own_b9 : Nat → Option Nat := (own_lb own_b5 3 2 0)
def own_a10 : Nat → Option Nat := (own_lb own_a6 3 0 2)
def own_n11 : Nat → Int64 := (own_u own_n7 3 (own_w8 + (1 : Int64)))
def own_w12 : Int64 := (own_w8 + (1 : Int64))
def own_b13 : Nat → Option Nat := (own_lb (own_rmb own_b9 own_a10 4) 4 0 1)
def own_a14 : Nat → Option Nat := (own_lb (own_rma own_b9 own_a10 4) 4 1 0)
def own_n15 : Nat → Int64 := (own_u own_n11 4 (own_n11 0))
def own_p16 : Int64 := (f12 own_w0 ((own_u own_n11 4 (own_n11 0)) 4))
def own_b17 : Nat → Option Nat := (if own_p16 < own_n15 1 then own_b13 else own_lb (own_rmb own_b13 own_a14 1) 1 3 0)
def own_a18 : Nat → Option Nat := (if own_p16 < own_n15 1 then own_a14 else own_lb (own_rma own_b13 own_a14 1) 1 0 3)
def own_n19 : Nat → Int64 := (if own_p16 < own_n15 1 then own_n15 else own_u own_n15 1 (own_w12 + (1 : Int64)))
def own_w20 : Int64 := (if own_p16 < own_n15 1 then own_w12 else own_w12 + (1 : Int64))
def own_b21 : Nat → Option Nat := (own_lb (own_rmb own_b17 own_a18 4) 4 3 0)
def own_a22 : Nat → Option Nat := (own_lb (own_rma own_b17 own_a18 4) 4 0 3)
def own_n23 : Nat → Int64 := (own_u own_n19 4 (own_n19 3))
def own_p24 : Int64 := (f12 own_p16 ((own_u own_n19 4 (own_n19 3)) 4))
def own_b25 : Nat → Option Nat := (if own_p24 < own_n23 3 then own_b21 else own_lb (own_rmb own_b21 own_a22 3) 3 4 0)
def own_a26 : Nat → Option Nat := (if own_p24 < own_n23 3 then own_a22 else own_lb (own_rma own_b21 own_a22 3) 3 0 4)
def own_n27 : Nat → Int64 := (if own_p24 < own_n23 3 then own_n23 else own_u own_n23 3 (own_w20 + (1 : Int64)))
def own_w28 : Int64 := (if own_p24 < own_n23 3 then own_w20 else own_w20 + (1 : Int64))
def own_b29 : Nat → Option Nat := (if own_p16 < own_n15 2 then own_b13 else own_lb (own_rmb own_b13 own_a14 2) 2 3 0)
def own_a30 : Nat → Option Nat := (if own_p16 < own_n15 2 then own_a14 else own_lb (own_rma own_b13 own_a14 2) 2 0 3)
def own_n31 : Nat → Int64 := (if own_p16 < own_n15 2 then own_n15 else own_u own_n15 2 (own_w12 + (1 : Int64)))
def own_w32 : Int64 := (if own_p16 < own_n15 2 then own_w12 else own_w12 + (1 : Int64))
def own_b33 : Nat → Option Nat := (own_lb (own_rmb own_b29 own_a30 4) 4 3 0)
def own_a34 : Nat → Option Nat := (own_lb (own_rma own_b29 own_a30 4) 4 0 3)
def own_n35 : Nat → Int64 := (own_u own_n31 4 (own_n31 3))
def own_p36 : Int64 := (f12 own_p16 ((own_u own_n31 4 (own_n31 3)) 4))
def own_b37 : Nat → Option Nat := (if own_p36 < own_n35 3 then own_b33 else own_lb (own_rmb own_b33 own_a34 3) 3 4 0)
def own_a38 : Nat → Option Nat := (if own_p36 < own_n35 3 then own_a34 else own_lb (own_rma own_b33 own_a34 3) 3 0 4)
def own_n39 : Nat → Int64 := (if own_p36 < own_n35 3 then own_n35 else own_u own_n35 3 (own_w32 + (1 : Int64)))
def own_w40 : Int64 := (if own_p36 < own_n35 3 then own_w32 else own_w32 + (1 : Int64))
def own_b41 : Nat → Option Nat := (if own_p16 < own_n15 3 then own_b13 else own_lb (own_rmb own_b13 own_a14 3) 3 2 0)
def own_a42 : Nat → Option Nat := (if own_p16 < own_n15 3 then own_a14 else own_lb (own_rma own_b13 own_a14 3) 3 0 2)
def own_n43 : Nat → Int64 := (if own_p16 < own_n15 3 then own_n15 else own_u own_n15 3 (own_w12 + (1 : Int64)))
def own_w44 : Int64 := (if own_p16 < own_n15 3 then own_w12 else own_w12 + (1 : Int64))
def own_b45 : Nat → Option Nat := (own_lb (own_rmb own_b41 own_a42 4) 4 3 0)
def own_a46 : Nat → Option Nat := (own_lb (own_rma own_b41 own_a42 4) 4 0 3)
def own_n47 : Nat → Int64 := (own_u own_n43 4 (own_n43 3))
def own_p48 : Int64 := (f12 own_p16 ((own_u own_n43 4 (own_n43 3)) 4))
def own_b49 : Nat → Option Nat := (if own_p48 < own_n47 3 then own_b45 else own_lb (own_rmb own_b45 own_a46 3) 3 4 0)
def own_a50 : Nat → Option Nat := (if own_p48 < own_n47 3 then own_a46 else own_lb (own_rma own_b45 own_a46 3) 3 0 4)
def own_n51 : Nat → Int64 := (if own_p48 < own_n47 3 then own_n47 else own_u own_n47 3 (own_w44 + (1 : Int64)))
def own_w52 : Int64 := (if own_p48 < own_n47 3 then own_w44 else own_w44 + (1 : Int64))
def own_b53 : Nat → Option Nat := (own_lb (own_rmb own_b9 own_a10 4) 4 1 2)
def own_a54 : Nat → Option Nat := (own_lb (own_rma own_b9 own_a10 4) 4 2 1)
def own_n55 : Nat → Int64 := (own_u own_n11 4 (own_n11 1))
def own_p56 : Int64 := (f12 own_w0 ((own_u own_n11 4 (own_n11 1)) 4))
def own_b57 : Nat → Option Nat := (if own_p56 < own_n55 1 then own_b53 else own_lb (own_rmb own_b53 own_a54 1) 1 3 0)
def own_a58 : Nat → Option Nat := (if own_p56 < own_n55 1 then own_a54 else own_lb (own_rma own_b53 own_a54 1) 1 0 3)
def own_n59 : Nat → Int64 := (if own_p56 < own_n55 1 then own_n55 else own_u own_n55 1 (own_w12 + (1 : Int64)))
def own_w60 : Int64 := (if own_p56 < own_n55 1 then own_w12 else own_w12 + (1 : Int64))
def own_b61 : Nat → Option Nat := (own_lb (own_rmb own_b57 own_a58 4) 4 1 0)
def own_a62 : Nat → Option Nat := (own_lb (own_rma own_b57 own_a58 4) 4 0 1)
def own_n63 : Nat → Int64 := (own_u own_n59 4 (own_n59 1))
def own_p64 : Int64 := (f12 own_p56 ((own_u own_n59 4 (own_n59 1)) 4))
def own_b65 : Nat → Option Nat := (if own_p64 < own_n63 3 then own_b61 else own_lb (own_rmb own_b61 own_a62 3) 3 4 0)
def own_a66 : Nat → Option Nat := (if own_p64 < own_n63 3 then own_a62 else own_lb (own_rma own_b61 own_a62 3) 3 0 4)
def own_n67 : Nat → Int64 := (if own_p64 < own_n63 3 then own_n63 else own_u own_n63 3 (own_w60 + (1 : Int64)))
def own_w68 : Int64 := (if own_p64 < own_n63 3 then own_w60 else own_w60 + (1 : Int64))
def own_b69 : Nat → Option Nat := (if own_p56 < own_n55 2 then own_b53 else own_lb (own_rmb own_b53 own_a54 2) 2 3 0)
def own_a70 : Nat → Option Nat := (if own_p56 < own_n55 2 then own_a54 else own_lb (own_rma own_b53 own_a54 2) 2 0 3)
def own_n71 : Nat → Int64 := (if own_p56 < own_n55 2 then own_n55 else own_u own_n55 2 (own_w12 + (1 : Int64)))
def own_w72 : Int64 := (if own_p56 < own_n55 2 then own_w12 else own_w12 + (1 : Int64))
def own_b73 : Nat → Option Nat := (own_lb (own_rmb own_b69 own_a70 4) 4 3 0)
def own_a74 : Nat → Option Nat := (own_lb (own_rma own_b69 own_a70 4) 4 0 3)
def own_n75 : Nat → Int64 := (own_u own_n71 4 (own_n71 3))
def own_p76 : Int64 := (f12 own_p56 ((own_u own_n71 4 (own_n71 3)) 4))
def own_b77 : Nat → Option Nat := (if own_p76 < own_n75 3 then own_b73 else own_lb (own_rmb own_b73 own_a74 3) 3 4 0)
def own_a78 : Nat → Option Nat := (if own_p76 < own_n75 3 then own_a74 else own_lb (own_rma own_b73 own_a74 3) 3 0 4)
def own_n79 : Nat → Int64 := (if own_p76 < own_n75 3 then own_n75 else own_u own_n75 3 (own_w72 + (1 : Int64)))
def own_w80 : Int64 := (if own_p76 < own_n75 3 then own_w72 else own_w72 + (1 : Int64))
def own_b81 : Nat → Option Nat := (if own_p56 < own_n55 3 then own_b53 else own_lb (own_rmb own_b53 own_a54 3) 3 2 0)
def own_a82 : Nat → Option Nat := (if own_p56 < own_n55 3 then own_a54 else own_lb (own_rma own_b53 own_a54 3) 3 0 2)
def own_n83 : Nat → Int64 := (if own_p56 < own_n55 3 then own_n55 else own_u own_n55 3 (own_w12 + (1 : Int64)))
def own_w84 : Int64 := (if own_p56 < own_n55 3 then own_w12 else own_w12 + (1 : Int64))
def own_b85 : Nat → Option Nat := (own_lb (own_rmb own_b81 own_a82 4) 4 3 0)
def own_a86 : Nat → Option Nat := (own_lb (own_rma own_b81 own_a82 4) 4 0 3)
def own_n87 : Nat → Int64 := (own_u own_n83 4 (own_n83 3))
def own_p88 : Int64 := (f12 own_p56 ((own_u own_n83 4 (own_n83 3)) 4))
def own_b89 : Nat → Option Nat := (if own_p88 < own_n87 3 then own_b85 else own_lb (own_rmb own_b85 own_a86 3) 3 4 0)
def own_a90 : Nat → Option Nat := (if own_p88 < own_n87 3 then own_a86 else own_lb (own_rma own_b85 own_a86 3) 3 0 4)
def own_n91 : Nat → Int64 := (if own_p88 < own_n87 3 then own_n87 else own_u own_n87 3 (own_w84 + (1 : Int64)))
def own_w92 : Int64 := (if own_p88 < own_n87 3 then own_w84 else own_w84 + (1 : Int64))
def own_b93 : Nat → Option Nat := (own_lb (own_rmb own_b9 own_a10 4) 4 2 3)
def own_a94 : Nat → Option Nat := (own_lb (own_rma own_b9 own_a10 4) 4 3 2)
def own_n95 : Nat → Int64 := (own_u own_n11 4 (own_n11 2))
def own_p96 : Int64 := (f12 own_w0 ((own_u own_n11 4 (own_n11 2)) 4))
def own_b97 : Nat → Option Nat := (if own_p96 < own_n95 1 then own_b93 else own_lb (own_rmb own_b93 own_a94 1) 1 3 0)
def own_a98 : Nat → Option Nat := (if own_p96 < own_n95 1 then own_a94 else own_lb (own_rma own_b93 own_a94 1) 1 0 3)
def own_n99 : Nat → Int64 := (if own_p96 < own_n95 1 then own_n95 else own_u own_n95 1 (own_w12 + (1 : Int64)))
def own_w100 : Int64 := (if own_p96 < own_n95 1 then own_w12 else own_w12 + (1 : Int64))
def own_b101 : Nat → Option Nat := (own_lb (own_rmb own_b97 own_a98 4) 4 1 0)
def own_a102 : Nat → Option Nat := (own_lb (own_rma own_b97 own_a98 4) 4 0 1)
def own_n103 : Nat → Int64 := (own_u own_n99 4 (own_n99 1))
def own_p104 : Int64 := (f12 own_p96 ((own_u own_n99 4 (own_n99 1)) 4))
def own_b105 : Nat → Option Nat := (if own_p104 < own_n103 3 then own_b101 else own_lb (own_rmb own_b101 own_a102 3) 3 4 0)
def own_a106 : Nat → Option Nat := (if own_p104 < own_n103 3 then own_a102 else own_lb (own_rma own_b101 own_a102 3) 3 0 4)
def own_n107 : Nat → Int64 := (if own_p104 < own_n103 3 then own_n103 else own_u own_n103 3 (own_w100 + (1 : Int64)))
def own_w108 : Int64 := (if own_p104 < own_n103 3 then own_w100 else own_w100 + (1 : Int64))
def own_b109 : Nat → Option Nat := (if own_p96 < own_n95 2 then own_b93 else own_lb (own_rmb own_b93 own_a94 2) 2 3 0)
def own_a110 : Nat → Option Nat := (if own_p96 < own_n95 2 then own_a94 else own_lb (own_rma own_b93 own_a94 2) 2 0 3)
def own_n111 : Nat → Int64 := (if own_p96 < own_n95 2 then own_n95 else own_u own_n95 2 (own_w12 + (1 : Int64)))
def own_w112 : Int64 := (if own_p96 < own_n95 2 then own_w12 else own_w12 + (1 : Int64))
def own_b113 : Nat → Option Nat := (own_lb (own_rmb own_b109 own_a110 4) 4 2 0)
def own_a114 : Nat → Option Nat := (own_lb (own_rma own_b109 own_a110 4) 4 0 2)
def own_n115 : Nat → Int64 := (own_u own_n111 4 (own_n111 2))
def own_p116 : Int64 := (f12 own_p96 ((own_u own_n111 4 (own_n111 2)) 4))
def own_b117 : Nat → Option Nat := (if own_p116 < own_n115 3 then own_b113 else own_lb (own_rmb own_b113 own_a114 3) 3 4 0)
def own_a118 : Nat → Option Nat := (if own_p116 < own_n115 3 then own_a114 else own_lb (own_rma own_b113 own_a114 3) 3 0 4)
def own_n119 : Nat → Int64 := (if own_p116 < own_n115 3 then own_n115 else own_u own_n115 3 (own_w112 + (1 : Int64)))
def own_w120 : Int64 := (if own_p116 < own_n115 3 then own_w112 else own_w112 + (1 : Int64))
def own_b121 : Nat → Option Nat := (if own_p96 < own_n95 3 then own_b93 else own_lb (own_rmb own_b93 own_a94 3) 3 4 0)
def own_a122 : Nat → Option Nat := (if own_p96 < own_n95 3 then own_a94 else own_lb (own_rma own_b93 own_a94 3) 3 0 4)
def own_n123 : Nat → Int64 := (if own_p96 < own_n95 3 then own_n95 else own_u own_n95 3 (own_w12 + (1 : Int64)))
def own_w124 : Int64 := (if own_p96 < own_n95 3 then own_w12 else own_w12 + (1 : Int64))
def own_b125 : Nat → Option Nat := (own_lb (own_rmb own_b121 own_a122 4) 4 3 0)
def own_a126 : Nat → Option Nat := (own_lb (own_rma own_b121 own_a122 4) 4 0 3)
def own_n127 : Nat → Int64 := (own_u own_n123 4 (own_n123 3))
def own_p128 : Int64 := (f12 own_p96 ((own_u own_n123 4 (own_n123 3)) 4))
def own_b129 : Nat → Option Nat := (if own_p128 < own_n127 3 then own_b125 else own_lb (own_rmb own_b125 own_a126 3) 3 4 0)
def own_a130 : Nat → Option Nat := (if own_p128 < own_n127 3 then own_a126 else own_lb (own_rma own_b125 own_a126 3) 3 0 4)
def own_n131 : Nat → Int64 := (if own_p128 < own_n127 3 then own_n127 else own_u own_n127 3 (own_w124 + (1 : Int64)))
def own_w132 : Int64 := (if own_p128 < own_n127 3 then own_w124 else own_w124 + (1 : Int64))
theorem pd__Lcom_example_brazier_brazier_keyspace_ChangeOrder_Place_Lcom_example_brazier_brazier_keyspace_ChangeOrder_Link__V : parseMethodDescriptor "(Lcom/example/brazier/brazier/keyspace/ChangeOrder$Place;Lcom/example/brazier/brazier/keyspace/ChangeOrder$Link;)V" = some ⟨[(.object "com/example/brazier/brazier/keyspace/ChangeOrder$Place"), (.object "com/example/brazier/brazier/keyspace/ChangeOrder$Link")], none⟩ := by decide +kernel
theorem pd__Lcom_example_brazier_brazier_keyspace_ChangeOrder_Lcom_example_brazier_brazier_keyspace_ChangeOrder_Link_Lcom_example_brazier_brazier_keyspace_ChangeOrder_Link_Lcom_example_brazier_brazier_keyspace_ChangeOrder_Link_Lcom_example_brazier_brazier_keyspace_ChangeOrder_Link_Lcom_example_brazier_brazier_keyspace_ChangeOrder_Link__Z : parseMethodDescriptor "(Lcom/example/brazier/brazier/keyspace/ChangeOrder;Lcom/example/brazier/brazier/keyspace/ChangeOrder$Link;Lcom/example/brazier/brazier/keyspace/ChangeOrder$Link;Lcom/example/brazier/brazier/keyspace/ChangeOrder$Link;Lcom/example/brazier/brazier/keyspace/ChangeOrder$Link;Lcom/example/brazier/brazier/keyspace/ChangeOrder$Link;)Z" = some ⟨[(.object "com/example/brazier/brazier/keyspace/ChangeOrder"), (.object "com/example/brazier/brazier/keyspace/ChangeOrder$Link"), (.object "com/example/brazier/brazier/keyspace/ChangeOrder$Link"), (.object "com/example/brazier/brazier/keyspace/ChangeOrder$Link"), (.object "com/example/brazier/brazier/keyspace/ChangeOrder$Link"), (.object "com/example/brazier/brazier/keyspace/ChangeOrder$Link")], some .boolean⟩ := by decide +kernel
theorem ef_0 (m : MethodId) (p0 : Int32) (p1 : Int32) : entryFrame m #[(.int p0), (.int p1)] maxLocals = mkF m 0 #[.val (.int p0), .val (.int p1), .unset, .unset, .unset, .unset, .unset, .unset, .unset, .unset, .unset, .unset, .unset] [] := by first | (simp [entryFrame, mkF, argsToLocals, Value.category, maxLocals]; done) | rfl
def f0 (p0 : Int32) (p1 : Int32) : Int32 :=
  if ((p0 &&& (2147483647 : Int32)) % (3 : Int32)) = (0 : Int32) then
    if ((p1 &&& (2147483647 : Int32)) % (3 : Int32)) = (0 : Int32) then
      (1 : Int32)
    else
      if ((p1 &&& (2147483647 : Int32)) % (3 : Int32)) = (1 : Int32) then
        (1 : Int32)
      else
        (1 : Int32)
  else
    if ((p0 &&& (2147483647 : Int32)) % (3 : Int32)) = (1 : Int32) then
      if ((p1 &&& (2147483647 : Int32)) % (3 : Int32)) = (0 : Int32) then
        (1 : Int32)
      else
        if ((p1 &&& (2147483647 : Int32)) % (3 : Int32)) = (1 : Int32) then
          (1 : Int32)
        else
          (1 : Int32)
    else
      if ((p1 &&& (2147483647 : Int32)) % (3 : Int32)) = (0 : Int32) then
        (1 : Int32)
      else
        if ((p1 &&& (2147483647 : Int32)) % (3 : Int32)) = (1 : Int32) then
          (1 : Int32)
        else
          (1 : Int32)
def Q0 (p0 : Int32) (p1 : Int32) (h0 : Heap) (n0 : Nat) (v : Option Value) (h : Heap) (L : List Loc) : Prop := v = some (.int (f0 p0 p1)) ∧ Fr n0 L
set_option maxRecDepth 65536 in
set_option maxHeartbeats 40000000 in
theorem rm0 (l : Launch) (Z : State) (a0 : Array Value) (hw : ∀ d ∈ tables_1, d.before a0 Z = true) (ws : List Jvm.Cond) (p0 : Int32) (p1 : Int32)   (h0 : Heap) (n0 : Nat) (Z0 : n0 ≤ h0.size)   :
    MetFree l x (head1 (Jvm.Cond.code x code maxLocals ret :: ws) room_1) (fun a U => a = #[(.int p0), (.int p1)] ∧ Z.Warmed39 U.vm ∧ U.heap = h0) (fun _ _ _ _ _ => True) (fun _ U o U' => ∃ v L, o = .returned v ∧ Q0 p0 p1 h0 n0 v U'.heap L ∧ FrameEnd U o U' L 6 18) := by
  refine MetFree.of_bodySF (plainFor_of_name pn_com_example_brazier_brazier_keyspace_ChangeOrderAddPinLaw) hisR ?_
  intro p e s m args below meth c s₁ Bd hml0 hP hK
  obtain ⟨rfl, hZ, hh⟩ := hP
  have hx := Bd.exec
  have hby := Bd.bytes
  have hlk : meth.locks = false := BodyLoose.notSynchronized Bd
  have hml : c.maxLocals = 13 := hml0
  have hown : s.vm.findClass "com/example/brazier/brazier/keyspace/ChangeOrderAddPinLaw" = some m.cls := findClass_of_methodNamed Bd.named
  have hnm := (name_of_methodNamed Bd.named Bd.method).1
  have X0 : Stand p l e room_1 s m #[(.int p0), (.int p1)] below meth c s₁ [] 0 0 := Stand.of_body Bd
  have e0 : s₁.heap = h0 := by rw [← hh, Bd.state]; rfl
  have N0 := Fr.nil n0
  refine own_by (U' := s₁.setTop (mkF m 0 #[.val (.int p0), .val (.int p1), .unset, .unset, .unset, .unset, .unset, .unset, .unset, .unset, .unset, .unset, .unset] [])) (fun t k => castTop (ef_0 m p0 p1) k) ?_
  obtain ⟨T1, h1, X1, e1, E1, A1, D1, -, st1⟩ := newO X0 hx hZ hown (hw _ (List.mem_of_getElem? (i := 0) rfl)) (hw _ (List.mem_of_getElem? (i := 1) rfl)) (hw _ (List.mem_of_getElem? (i := 2) rfl)) e0 (g := (mkF m 0 #[.val (.int p0), .val (.int p1), .unset, .unset, .unset, .unset, .unset, .unset, .unset, .unset, .unset, .unset, .unset] [])) rfl (hb hby at_0) (by decide) (by decide)
  obtain ⟨b1, g1⟩ : ∃ z, z = h0.size := ⟨_, rfl⟩
  rw [← g1] at A1 D1 st1
  have g_b1 : n0 ≤ b1 := Nat.le_trans Z0 (Nat.le_of_eq g1.symm)
  have Z1 : n0 ≤ h1.size := Nat.le_trans Z0 E1.1
  refine own_by st1 ?_
  have F1_start : Fld Z h1 b1 "com/example/brazier/brazier/keyspace/ChangeOrder" "start" "Lcom/example/brazier/brazier/keyspace/ChangeOrder$Link;" .null := D1 (Or.inr (hw _ (List.mem_of_getElem? (i := 17) rfl))) (ty := (.object "com/example/brazier/brazier/keyspace/ChangeOrder$Link")) (by decide)
  have F1_newest : Fld Z h1 b1 "com/example/brazier/brazier/keyspace/ChangeOrder" "newest" "J" (.long (0 : Int64)) := D1 (Or.inl (hw _ (List.mem_of_getElem? (i := 38) rfl))) (ty := .long) (by decide)
  have F1_passed : Fld Z h1 b1 "com/example/brazier/brazier/keyspace/ChangeOrder" "passed" "J" (.long (0 : Int64)) := D1 (Or.inl (hw _ (List.mem_of_getElem? (i := 67) rfl))) (ty := .long) (by decide)
  show own_Fin p.tables e below _ (T1.setTop (mkF m 3 #[.val (.int p0), .val (.int p1), .unset, .unset, .unset, .unset, .unset, .unset, .unset, .unset, .unset, .unset, .unset] [(.ref b1)]))
  refine own_by (fun _ k => XS.dup X1.here hx rfl (hb hby at_3) rfl rfl k) ?_
  show own_Fin p.tables e below _ (T1.setTop (mkF m 4 #[.val (.int p0), .val (.int p1), .unset, .unset, .unset, .unset, .unset, .unset, .unset, .unset, .unset, .unset, .unset] [(.ref b1), (.ref b1)]))
  obtain ⟨_, _, ⟨T2, L2, k2, n2⟩, -, X2, ⟨Lc2, hQ2, l2, y2, z2⟩, st2⟩ := X1.specialBack hx (y := (⟨"com/example/brazier/brazier/keyspace/ChangeOrder", "<init>", "()V"⟩ : MethodName)) rfl hown (mvT hZ (hw _ (List.mem_of_getElem? (i := 3) rfl))) (mvT hZ (hw _ (List.mem_of_getElem? (i := 4) rfl))) (mvT hZ (hw _ (List.mem_of_getElem? (i := 5) rfl))) (by decide) (backOf (W := 1) (rm1 l Z a0 hw [] b1 h1 n0 Z1 A1 F1_start F1_newest F1_passed g_b1) hZ (hw _ (List.mem_of_getElem? (i := 5) rfl)) (hw _ (List.mem_of_getElem? (i := 2) rfl)) (by decide) (by decide)) (g := (mkF m 4 #[.val (.int p0), .val (.int p1), .unset, .unset, .unset, .unset, .unset, .unset, .unset, .unset, .unset, .unset, .unset] [(.ref b1), (.ref b1)])) rfl (by rw [hml]; rfl) (Steps.refl _) (a := b1) (argsL := []) (rest := [(.ref b1)]) (lenOf pd___V rfl) rfl (by show 2 * 0 + _ ≤ _; exact Nat.le_of_eq rfl) (hb hby at_4) (fun _ _ => ⟨rfl, e1, (by decide : 1 + 1 ≤ _), (by decide : 3 + 3 ≤ _)⟩)
  dsimp only [Pt.U, Pt.locs, Pt.cells, Pt.slots] at X2 l2 y2 z2 st2 hQ2
  subst l2 y2 z2
  obtain ⟨st2z, rfl, N2q, g_st2z, Z2, neS2, Eo2, Fs2, Fn2, Fp2, Es2, Fb2, Fa2, Fu2⟩ := hQ2
  have N2 := Fr.app N0 N2q
  refine own_by (fun _ k => st2.trans k) ?_
  show own_Fin p.tables e below _ (T2.setTop (mkF m 7 #[.val (.int p0), .val (.int p1), .unset, .unset, .unset, .unset, .unset, .unset, .unset, .unset, .unset, .unset, .unset] [(.ref b1)]))
  refine own_by (fun _ k => XS.astoreN X2.here hx rfl (hb hby at_7) rfl rfl (l' := #[.val (.int p0), .val (.int p1), .val (.ref b1), .unset, .unset, .unset, .unset, .unset, .unset, .unset, .unset, .unset, .unset]) rfl k) ?_
  show own_Fin p.tables e below _ (T2.setTop (mkF m 8 #[.val (.int p0), .val (.int p1), .val (.ref b1), .unset, .unset, .unset, .unset, .unset, .unset, .unset, .unset, .unset, .unset] []))
  obtain ⟨T3, h3, X3, e3, E3, A3, D3, -, st3⟩ := newO X2 hx hZ hown (hw _ (List.mem_of_getElem? (i := 22) rfl)) (hw _ (List.mem_of_getElem? (i := 10) rfl)) (hw _ (List.mem_of_getElem? (i := 11) rfl)) rfl (g := (mkF m 8 #[.val (.int p0), .val (.int p1), .val (.ref b1), .unset, .unset, .unset, .unset, .unset, .unset, .unset, .unset, .unset, .unset] [])) rfl (hb hby at_8) (by decide) (by decide)
  obtain ⟨b3, g3⟩ : ∃ z, z = T2.heap.size := ⟨_, rfl⟩
  rw [← g3] at A3 D3 st3
  have g_b3 : n0 ≤ b3 := Nat.le_trans Z2 (Nat.le_of_eq g3.symm)
  have Z3 : n0 ≤ h3.size := Nat.le_trans Z2 E3.1
  refine own_by st3 ?_
  have ne3_o0 : b1 ≠ b3 := Nat.ne_of_lt (Nat.lt_of_lt_of_le Eo2.lt (Nat.le_of_eq g3.symm))
  have ne3_o1 : st2z ≠ b3 := Nat.ne_of_lt (Nat.lt_of_lt_of_le Es2.lt (Nat.le_of_eq g3.symm))
  have E3_0 : Exa Z h3 b1 "com/example/brazier/brazier/keyspace/ChangeOrder" := (Eo2.ext E3)
  have E3_1 : Exa Z h3 st2z "com/example/brazier/brazier/keyspace/ChangeOrder$Link" := (Es2.ext E3)
  have F3_0 : Fld Z h3 b1 "com/example/brazier/brazier/keyspace/ChangeOrder" "start" "Lcom/example/brazier/brazier/keyspace/ChangeOrder$Link;" (.ref st2z) := (Fs2.ext E3)
  have F3_1 : Fld Z h3 b1 "com/example/brazier/brazier/keyspace/ChangeOrder" "newest" "J" (.long (0 : Int64)) := (Fn2.ext E3)
  have F3_2 : Fld Z h3 st2z "com/example/brazier/brazier/keyspace/ChangeOrder$Link" "before" "Lcom/example/brazier/brazier/keyspace/ChangeOrder$Link;" (.ref st2z) := (Fb2.ext E3)
  have F3_3 : Fld Z h3 st2z "com/example/brazier/brazier/keyspace/ChangeOrder$Link" "after" "Lcom/example/brazier/brazier/keyspace/ChangeOrder$Link;" (.ref st2z) := (Fa2.ext E3)
  have F3_4 : Fld Z h3 st2z "com/example/brazier/brazier/keyspace/ChangeOrder$Link" "number" "J" (.long (0 : Int64)) := (Fu2.ext E3)
  have F3_5 : Fld Z h3 b1 "com/example/brazier/brazier/keyspace/ChangeOrder" "passed" "J" (.long (0 : Int64)) := (Fp2.ext E3)
  have F3_before : Fld Z h3 b3 "com/example/brazier/brazier/keyspace/ChangeOrder$Link" "before" "Lcom/example/brazier/brazier/keyspace/ChangeOrder$Link;" .null := D3 (Or.inl (hw _ (List.mem_of_getElem? (i := 19) rfl))) (ty := (.object "com/example/brazier/brazier/keyspace/ChangeOrder$Link")) (by decide)
  have F3_after : Fld Z h3 b3 "com/example/brazier/brazier/keyspace/ChangeOrder$Link" "after" "Lcom/example/brazier/brazier/keyspace/ChangeOrder$Link;" .null := D3 (Or.inl (hw _ (List.mem_of_getElem? (i := 21) rfl))) (ty := (.object "com/example/brazier/brazier/keyspace/ChangeOrder$Link")) (by decide)
  have F3_number : Fld Z h3 b3 "com/example/brazier/brazier/keyspace/ChangeOrder$Link" "number" "J" (.long (0 : Int64)) := D3 (Or.inl (hw _ (List.mem_of_getElem? (i := 40) rfl))) (ty := .long) (by decide)
  show own_Fin p.tables e below _ (T3.setTop (mkF m 11 #[.val (.int p0), .val (.int p1), .val (.ref b1), .unset, .unset, .unset, .unset, .unset, .unset, .unset, .unset, .unset, .unset] [(.ref b3)]))
  refine own_by (fun _ k => XS.dup X3.here hx rfl (hb hby at_11) rfl rfl k) ?_
  show own_Fin p.tables e below _ (T3.setTop (mkF m 12 #[.val (.int p0), .val (.int p1), .val (.ref b1), .unset, .unset, .unset, .unset, .unset, .unset, .unset, .unset, .unset, .unset] [(.ref b3), (.ref b3)]))
  obtain ⟨_, _, ⟨T4, L4, k4, n4⟩, -, X4, ⟨Lc4, hQ4, l4, y4, z4⟩, st4⟩ := X3.specialBack hx (y := (⟨"com/example/brazier/brazier/keyspace/ChangeOrder$Link", "<init>", "()V"⟩ : MethodName)) rfl hown (mvT hZ (hw _ (List.mem_of_getElem? (i := 23) rfl))) (mvT hZ (hw _ (List.mem_of_getElem? (i := 13) rfl))) (mvT hZ (hw _ (List.mem_of_getElem? (i := 14) rfl))) (by decide) (backOf (W := 1) (rm3 l Z a0 hw [] b3 h3 n0 Z3 ) hZ (hw _ (List.mem_of_getElem? (i := 14) rfl)) (hw _ (List.mem_of_getElem? (i := 11) rfl)) (by decide) (by decide)) (g := (mkF m 12 #[.val (.int p0), .val (.int p1), .val (.ref b1), .unset, .unset, .unset, .unset, .unset, .unset, .unset, .unset, .unset, .unset] [(.ref b3), (.ref b3)])) rfl (by rw [hml]; rfl) (Steps.refl _) (a := b3) (argsL := []) (rest := [(.ref b3)]) (lenOf pd___V rfl) rfl (by show 2 * 0 + _ ≤ _; exact Nat.le_of_eq rfl) (hb hby at_12) (fun _ _ => ⟨rfl, e3, (by decide : 3 + 0 ≤ _), (by decide : 9 + 0 ≤ _)⟩)
  dsimp only [Pt.U, Pt.locs, Pt.cells, Pt.slots] at X4 l4 y4 z4 st4 hQ4
  subst l4 y4 z4
  obtain ⟨rfl, N4q, e4⟩ := hQ4
  have N4 := Fr.app N2 N4q
  refine own_by (fun _ k => st4.trans k) ?_
  show own_Fin p.tables e below _ (T4.setTop (mkF m 15 #[.val (.int p0), .val (.int p1), .val (.ref b1), .unset, .unset, .unset, .unset, .unset, .unset, .unset, .unset, .unset, .unset] [(.ref b3)]))
  refine own_by (fun _ k => XS.astoreN X4.here hx rfl (hb hby at_15) rfl rfl (l' := #[.val (.int p0), .val (.int p1), .val (.ref b1), .val (.ref b3), .unset, .unset, .unset, .unset, .unset, .unset, .unset, .unset, .unset]) rfl k) ?_
  show own_Fin p.tables e below _ (T4.setTop (mkF m 16 #[.val (.int p0), .val (.int p1), .val (.ref b1), .val (.ref b3), .unset, .unset, .unset, .unset, .unset, .unset, .unset, .unset, .unset] []))
  obtain ⟨T5, h5, X5, e5, E5, A5, D5, -, st5⟩ := newO X4 hx hZ hown (hw _ (List.mem_of_getElem? (i := 22) rfl)) (hw _ (List.mem_of_getElem? (i := 10) rfl)) (hw _ (List.mem_of_getElem? (i := 11) rfl)) e4 (g := (mkF m 16 #[.val (.int p0), .val (.int p1), .val (.ref b1), .val (.ref b3), .unset, .unset, .unset, .unset, .unset, .unset, .unset, .unset, .unset] [])) rfl (hb hby at_16) (by decide) (by decide)
  obtain ⟨b5, g5⟩ : ∃ z, z = h3.size := ⟨_, rfl⟩
  rw [← g5] at A5 D5 st5
  have g_b5 : n0 ≤ b5 := Nat.le_trans Z3 (Nat.le_of_eq g5.symm)
  have Z5 : n0 ≤ h5.size := Nat.le_trans Z3 E5.1
  refine own_by st5 ?_
  have ne5_o0 : b1 ≠ b5 := Nat.ne_of_lt (Nat.lt_of_lt_of_le E3_0.lt (Nat.le_of_eq g5.symm))
  have ne5_o1 : st2z ≠ b5 := Nat.ne_of_lt (Nat.lt_of_lt_of_le E3_1.lt (Nat.le_of_eq g5.symm))
  have ne5_o2 : b3 ≠ b5 := Nat.ne_of_lt (Nat.lt_of_lt_of_le A3.lt (Nat.le_of_eq g5.symm))
  have E5_0 : Exa Z h5 b1 "com/example/brazier/brazier/keyspace/ChangeOrder" := (E3_0.ext E5)
  have E5_1 : Exa Z h5 st2z "com/example/brazier/brazier/keyspace/ChangeOrder$Link" := (E3_1.ext E5)
  have E5_2 : Exa Z h5 b3 "com/example/brazier/brazier/keyspace/ChangeOrder$Link" := (A3.ext E5)
  have F5_0 : Fld Z h5 b1 "com/example/brazier/brazier/keyspace/ChangeOrder" "start" "Lcom/example/brazier/brazier/keyspace/ChangeOrder$Link;" (.ref st2z) := (F3_0.ext E5)
  have F5_1 : Fld Z h5 b1 "com/example/brazier/brazier/keyspace/ChangeOrder" "newest" "J" (.long (0 : Int64)) := (F3_1.ext E5)
  have F5_2 : Fld Z h5 st2z "com/example/brazier/brazier/keyspace/ChangeOrder$Link" "before" "Lcom/example/brazier/brazier/keyspace/ChangeOrder$Link;" (.ref st2z) := (F3_2.ext E5)
  have F5_3 : Fld Z h5 st2z "com/example/brazier/brazier/keyspace/ChangeOrder$Link" "after" "Lcom/example/brazier/brazier/keyspace/ChangeOrder$Link;" (.ref st2z) := (F3_3.ext E5)
  have F5_4 : Fld Z h5 st2z "com/example/brazier/brazier/keyspace/ChangeOrder$Link" "number" "J" (.long (0 : Int64)) := (F3_4.ext E5)
  have F5_5 : Fld Z h5 b1 "com/example/brazier/brazier/keyspace/ChangeOrder" "passed" "J" (.long (0 : Int64)) := (F3_5.ext E5)
  have F5_6 : Fld Z h5 b3 "com/example/brazier/brazier/keyspace/ChangeOrder$Link" "before" "Lcom/example/brazier/brazier/keyspace/ChangeOrder$Link;" .null := (F3_before.ext E5)
  have F5_7 : Fld Z h5 b3 "com/example/brazier/brazier/keyspace/ChangeOrder$Link" "after" "Lcom/example/brazier/brazier/keyspace/ChangeOrder$Link;" .null := (F3_after.ext E5)
  have F5_8 : Fld Z h5 b3 "com/example/brazier/brazier/keyspace/ChangeOrder$Link" "number" "J" (.long (0 : Int64)) := (F3_number.ext E5)
  have F5_before : Fld Z h5 b5 "com/example/brazier/brazier/keyspace/ChangeOrder$Link" "before" "Lcom/example/brazier/brazier/keyspace/ChangeOrder$Link;" .null := D5 (Or.inl (hw _ (List.mem_of_getElem? (i := 19) rfl))) (ty := (.object "com/example/brazier/brazier/keyspace/ChangeOrder$Link")) (by decide)
  have F5_after : Fld Z h5 b5 "com/example/brazier/brazier/keyspace/ChangeOrder$Link" "after" "Lcom/example/brazier/brazier/keyspace/ChangeOrder$Link;" .null := D5 (Or.inl (hw _ (List.mem_of_getElem? (i := 21) rfl))) (ty := (.object "com/example/brazier/brazier/keyspace/ChangeOrder$Link")) (by decide)
  have F5_number : Fld Z h5 b5 "com/example/brazier/brazier/keyspace/ChangeOrder$Link" "number" "J" (.long (0 : Int64)) := D5 (Or.inl (hw _ (List.mem_of_getElem? (i := 40) rfl))) (ty := .long) (by decide)
  show own_Fin p.tables e below _ (T5.setTop (mkF m 19 #[.val (.int p0), .val (.int p1), .val (.ref b1), .val (.ref b3), .unset, .unset, .unset, .unset, .unset, .unset, .unset, .unset, .unset] [(.ref b5)]))
  refine own_by (fun _ k => XS.dup X5.here hx rfl (hb hby at_19) rfl rfl k) ?_
  show own_Fin p.tables e below _ (T5.setTop (mkF m 20 #[.val (.int p0), .val (.int p1), .val (.ref b1), .val (.ref b3), .unset, .unset, .unset, .unset, .unset, .unset, .unset, .unset, .unset] [(.ref b5), (.ref b5)]))
  obtain ⟨_, _, ⟨T6, L6, k6, n6⟩, -, X6, ⟨Lc6, hQ6, l6, y6, z6⟩, st6⟩ := X5.specialBack hx (y := (⟨"com/example/brazier/brazier/keyspace/ChangeOrder$Link", "<init>", "()V"⟩ : MethodName)) rfl hown (mvT hZ (hw _ (List.mem_of_getElem? (i := 23) rfl))) (mvT hZ (hw _ (List.mem_of_getElem? (i := 13) rfl))) (mvT hZ (hw _ (List.mem_of_getElem? (i := 14) rfl))) (by decide) (backOf (W := 1) (rm3 l Z a0 hw [] b5 h5 n0 Z5 ) hZ (hw _ (List.mem_of_getElem? (i := 14) rfl)) (hw _ (List.mem_of_getElem? (i := 11) rfl)) (by decide) (by decide)) (g := (mkF m 20 #[.val (.int p0), .val (.int p1), .val (.ref b1), .val (.ref b3), .unset, .unset, .unset, .unset, .unset, .unset, .unset, .unset, .unset] [(.ref b5), (.ref b5)])) rfl (by rw [hml]; rfl) (Steps.refl _) (a := b5) (argsL := []) (rest := [(.ref b5)]) (lenOf pd___V rfl) rfl (by show 2 * 0 + _ ≤ _; exact Nat.le_of_eq rfl) (hb hby at_20) (fun _ _ => ⟨rfl, e5, (by decide : 4 + 0 ≤ _), (by decide : 12 + 0 ≤ _)⟩)
  dsimp only [Pt.U, Pt.locs, Pt.cells, Pt.slots] at X6 l6 y6 z6 st6 hQ6
  subst l6 y6 z6
  obtain ⟨rfl, N6q, e6⟩ := hQ6
  have N6 := Fr.app N4 N6q
  refine own_by (fun _ k => st6.trans k) ?_
  show own_Fin p.tables e below _ (T6.setTop (mkF m 23 #[.val (.int p0), .val (.int p1), .val (.ref b1), .val (.ref b3), .unset, .unset, .unset, .unset, .unset, .unset, .unset, .unset, .unset] [(.ref b5)]))
  refine own_by (fun _ k => XS.astore X6.here hx rfl (hb hby at_23) rfl rfl (l' := #[.val (.int p0), .val (.int p1), .val (.ref b1), .val (.ref b3), .val (.ref b5), .unset, .unset, .unset, .unset, .unset, .unset, .unset, .unset]) rfl k) ?_
  show own_Fin p.tables e below _ (T6.setTop (mkF m 25 #[.val (.int p0), .val (.int p1), .val (.ref b1), .val (.ref b3), .val (.ref b5), .unset, .unset, .unset, .unset, .unset, .unset, .unset, .unset] []))
  obtain ⟨T7, h7, X7, e7, E7, A7, D7, -, st7⟩ := newO X6 hx hZ hown (hw _ (List.mem_of_getElem? (i := 22) rfl)) (hw _ (List.mem_of_getElem? (i := 10) rfl)) (hw _ (List.mem_of_getElem? (i := 11) rfl)) e6 (g := (mkF m 25 #[.val (.int p0), .val (.int p1), .val (.ref b1), .val (.ref b3), .val (.ref b5), .unset, .unset, .unset, .unset, .unset, .unset, .unset, .unset] [])) rfl (hb hby at_25) (by decide) (by decide)
  obtain ⟨b7, g7⟩ : ∃ z, z = h5.size := ⟨_, rfl⟩
  rw [← g7] at A7 D7 st7
  have g_b7 : n0 ≤ b7 := Nat.le_trans Z5 (Nat.le_of_eq g7.symm)
  have Z7 : n0 ≤ h7.size := Nat.le_trans Z5 E7.1
  refine own_by st7 ?_
  have ne7_o0 : b1 ≠ b7 := Nat.ne_of_lt (Nat.lt_of_lt_of_le E5_0.lt (Nat.le_of_eq g7.symm))
  have ne7_o1 : st2z ≠ b7 := Nat.ne_of_lt (Nat.lt_of_lt_of_le E5_1.lt (Nat.le_of_eq g7.symm))
  have ne7_o2 : b3 ≠ b7 := Nat.ne_of_lt (Nat.lt_of_lt_of_le E5_2.lt (Nat.le_of_eq g7.symm))
  have ne7_o3 : b5 ≠ b7 := Nat.ne_of_lt (Nat.lt_of_lt_of_le A5.lt (Nat.le_of_eq g7.symm))
  have E7_0 : Exa Z h7 b1 "com/example/brazier/brazier/keyspace/ChangeOrder" := (E5_0.ext E7)
  have E7_1 : Exa Z h7 st2z "com/example/brazier/brazier/keyspace/ChangeOrder$Link" := (E5_1.ext E7)
  have E7_2 : Exa Z h7 b3 "com/example/brazier/brazier/keyspace/ChangeOrder$Link" := (E5_2.ext E7)
  have E7_3 : Exa Z h7 b5 "com/example/brazier/brazier/keyspace/ChangeOrder$Link" := (A5.ext E7)
  have F7_0 : Fld Z h7 b1 "com/example/brazier/brazier/keyspace/ChangeOrder" "start" "Lcom/example/brazier/brazier/keyspace/ChangeOrder$Link;" (.ref st2z) := (F5_0.ext E7)
  have F7_1 : Fld Z h7 b1 "com/example/brazier/brazier/keyspace/ChangeOrder" "newest" "J" (.long (0 : Int64)) := (F5_1.ext E7)
  have F7_2 : Fld Z h7 st2z "com/example/brazier/brazier/keyspace/ChangeOrder$Link" "before" "Lcom/example/brazier/brazier/keyspace/ChangeOrder$Link;" (.ref st2z) := (F5_2.ext E7)
  have F7_3 : Fld Z h7 st2z "com/example/brazier/brazier/keyspace/ChangeOrder$Link" "after" "Lcom/example/brazier/brazier/keyspace/ChangeOrder$Link;" (.ref st2z) := (F5_3.ext E7)
  have F7_4 : Fld Z h7 st2z "com/example/brazier/brazier/keyspace/ChangeOrder$Link" "number" "J" (.long (0 : Int64)) := (F5_4.ext E7)
  have F7_5 : Fld Z h7 b1 "com/example/brazier/brazier/keyspace/ChangeOrder" "passed" "J" (.long (0 : Int64)) := (F5_5.ext E7)
  have F7_6 : Fld Z h7 b3 "com/example/brazier/brazier/keyspace/ChangeOrder$Link" "before" "Lcom/example/brazier/brazier/keyspace/ChangeOrder$Link;" .null := (F5_6.ext E7)
  have F7_7 : Fld Z h7 b3 "com/example/brazier/brazier/keyspace/ChangeOrder$Link" "after" "Lcom/example/brazier/brazier/keyspace/ChangeOrder$Link;" .null := (F5_7.ext E7)
  have F7_8 : Fld Z h7 b3 "com/example/brazier/brazier/keyspace/ChangeOrder$Link" "number" "J" (.long (0 : Int64)) := (F5_8.ext E7)
  have F7_9 : Fld Z h7 b5 "com/example/brazier/brazier/keyspace/ChangeOrder$Link" "before" "Lcom/example/brazier/brazier/keyspace/ChangeOrder$Link;" .null := (F5_before.ext E7)
  have F7_10 : Fld Z h7 b5 "com/example/brazier/brazier/keyspace/ChangeOrder$Link" "after" "Lcom/example/brazier/brazier/keyspace/ChangeOrder$Link;" .null := (F5_after.ext E7)
  have F7_11 : Fld Z h7 b5 "com/example/brazier/brazier/keyspace/ChangeOrder$Link" "number" "J" (.long (0 : Int64)) := (F5_number.ext E7)
  have F7_before : Fld Z h7 b7 "com/example/brazier/brazier/keyspace/ChangeOrder$Link" "before" "Lcom/example/brazier/brazier/keyspace/ChangeOrder$Link;" .null := D7 (Or.inl (hw _ (List.mem_of_getElem? (i := 19) rfl))) (ty := (.object "com/example/brazier/brazier/keyspace/ChangeOrder$Link")) (by decide)
  have F7_after : Fld Z h7 b7 "com/example/brazier/brazier/keyspace/ChangeOrder$Link" "after" "Lcom/example/brazier/brazier/keyspace/ChangeOrder$Link;" .null := D7 (Or.inl (hw _ (List.mem_of_getElem? (i := 21) rfl))) (ty := (.object "com/example/brazier/brazier/keyspace/ChangeOrder$Link")) (by decide)
  have F7_number : Fld Z h7 b7 "com/example/brazier/brazier/keyspace/ChangeOrder$Link" "number" "J" (.long (0 : Int64)) := D7 (Or.inl (hw _ (List.mem_of_getElem? (i := 40) rfl))) (ty := .long) (by decide)
  show own_Fin p.tables e below _ (T7.setTop (mkF m 28 #[.val (.int p0), .val (.int p1), .val (.ref b1), .val (.ref b3), .val (.ref b5), .unset, .unset, .unset, .unset, .unset, .unset, .unset, .unset] [(.ref b7)]))
  refine own_by (fun _ k => XS.dup X7.here hx rfl (hb hby at_28) rfl rfl k) ?_
  show own_Fin p.tables e below _ (T7.setTop (mkF m 29 #[.val (.int p0), .val (.int p1), .val (.ref b1), .val (.ref b3), .val (.ref b5), .unset, .unset, .unset, .unset, .unset, .unset, .unset, .unset] [(.ref b7), (.ref b7)]))
  obtain ⟨_, _, ⟨T8, L8, k8, n8⟩, -, X8, ⟨Lc8, hQ8, l8, y8, z8⟩, st8⟩ := X7.specialBack hx (y := (⟨"com/example/brazier/brazier/keyspace/ChangeOrder$Link", "<init>", "()V"⟩ : MethodName)) rfl hown (mvT hZ (hw _ (List.mem_of_getElem? (i := 23) rfl))) (mvT hZ (hw _ (List.mem_of_getElem? (i := 13) rfl))) (mvT hZ (hw _ (List.mem_of_getElem? (i := 14) rfl))) (by decide) (backOf (W := 1) (rm3 l Z a0 hw [] b7 h7 n0 Z7 ) hZ (hw _ (List.mem_of_getElem? (i := 14) rfl)) (hw _ (List.mem_of_getElem? (i := 11) rfl)) (by decide) (by decide)) (g := (mkF m 29 #[.val (.int p0), .val (.int p1), .val (.ref b1), .val (.ref b3), .val (.ref b5), .unset, .unset, .unset, .unset, .unset, .unset, .unset, .unset] [(.ref b7), (.ref b7)])) rfl (by rw [hml]; rfl) (Steps.refl _) (a := b7) (argsL := []) (rest := [(.ref b7)]) (lenOf pd___V rfl) rfl (by show 2 * 0 + _ ≤ _; exact Nat.le_of_eq rfl) (hb hby at_29) (fun _ _ => ⟨rfl, e7, (by decide : 5 + 0 ≤ _), (by decide : 15 + 0 ≤ _)⟩)
  dsimp only [Pt.U, Pt.locs, Pt.cells, Pt.slots] at X8 l8 y8 z8 st8 hQ8
  subst l8 y8 z8
  obtain ⟨rfl, N8q, e8⟩ := hQ8
  have N8 := Fr.app N6 N8q
  refine own_by (fun _ k => st8.trans k) ?_
  show own_Fin p.tables e below _ (T8.setTop (mkF m 32 #[.val (.int p0), .val (.int p1), .val (.ref b1), .val (.ref b3), .val (.ref b5), .unset, .unset, .unset, .unset, .unset, .unset, .unset, .unset] [(.ref b7)]))
  refine own_by (fun _ k => XS.astore X8.here hx rfl (hb hby at_32) rfl rfl (l' := #[.val (.int p0), .val (.int p1), .val (.ref b1), .val (.ref b3), .val (.ref b5), .val (.ref b7), .unset, .unset, .unset, .unset, .unset, .unset, .unset]) rfl k) ?_
  show own_Fin p.tables e below _ (T8.setTop (mkF m 34 #[.val (.int p0), .val (.int p1), .val (.ref b1), .val (.ref b3), .val (.ref b5), .val (.ref b7), .unset, .unset, .unset, .unset, .unset, .unset, .unset] []))
  obtain ⟨T9, h9, X9, e9, E9, A9, D9, -, st9⟩ := newO X8 hx hZ hown (hw _ (List.mem_of_getElem? (i := 24) rfl)) (hw _ (List.mem_of_getElem? (i := 25) rfl)) (hw _ (List.mem_of_getElem? (i := 26) rfl)) e8 (g := (mkF m 34 #[.val (.int p0), .val (.int p1), .val (.ref b1), .val (.ref b3), .val (.ref b5), .val (.ref b7), .unset, .unset, .unset, .unset, .unset, .unset, .unset] [])) rfl (hb hby at_34) (by decide) (by decide)
  obtain ⟨b9, g9⟩ : ∃ z, z = h7.size := ⟨_, rfl⟩
  rw [← g9] at A9 D9 st9
  have g_b9 : n0 ≤ b9 := Nat.le_trans Z7 (Nat.le_of_eq g9.symm)
  have Z9 : n0 ≤ h9.size := Nat.le_trans Z7 E9.1
  refine own_by st9 ?_
  have ne9_o0 : b1 ≠ b9 := Nat.ne_of_lt (Nat.lt_of_lt_of_le E7_0.lt (Nat.le_of_eq g9.symm))
  have ne9_o1 : st2z ≠ b9 := Nat.ne_of_lt (Nat.lt_of_lt_of_le E7_1.lt (Nat.le_of_eq g9.symm))
  have ne9_o2 : b3 ≠ b9 := Nat.ne_of_lt (Nat.lt_of_lt_of_le E7_2.lt (Nat.le_of_eq g9.symm))
  have ne9_o3 : b5 ≠ b9 := Nat.ne_of_lt (Nat.lt_of_lt_of_le E7_3.lt (Nat.le_of_eq g9.symm))
  have ne9_o4 : b7 ≠ b9 := Nat.ne_of_lt (Nat.lt_of_lt_of_le A7.lt (Nat.le_of_eq g9.symm))
  have E9_0 : Exa Z h9 b1 "com/example/brazier/brazier/keyspace/ChangeOrder" := (E7_0.ext E9)
  have E9_1 : Exa Z h9 st2z "com/example/brazier/brazier/keyspace/ChangeOrder$Link" := (E7_1.ext E9)
  have E9_2 : Exa Z h9 b3 "com/example/brazier/brazier/keyspace/ChangeOrder$Link" := (E7_2.ext E9)
  have E9_3 : Exa Z h9 b5 "com/example/brazier/brazier/keyspace/ChangeOrder$Link" := (E7_3.ext E9)
  have E9_4 : Exa Z h9 b7 "com/example/brazier/brazier/keyspace/ChangeOrder$Link" := (A7.ext E9)
  have F9_0 : Fld Z h9 b1 "com/example/brazier/brazier/keyspace/ChangeOrder" "start" "Lcom/example/brazier/brazier/keyspace/ChangeOrder$Link;" (.ref st2z) := (F7_0.ext E9)
  have F9_1 : Fld Z h9 b1 "com/example/brazier/brazier/keyspace/ChangeOrder" "newest" "J" (.long (0 : Int64)) := (F7_1.ext E9)
  have F9_2 : Fld Z h9 st2z "com/example/brazier/brazier/keyspace/ChangeOrder$Link" "before" "Lcom/example/brazier/brazier/keyspace/ChangeOrder$Link;" (.ref st2z) := (F7_2.ext E9)
  have F9_3 : Fld Z h9 st2z "com/example/brazier/brazier/keyspace/ChangeOrder$Link" "after" "Lcom/example/brazier/brazier/keyspace/ChangeOrder$Link;" (.ref st2z) := (F7_3.ext E9)
  have F9_4 : Fld Z h9 st2z "com/example/brazier/brazier/keyspace/ChangeOrder$Link" "number" "J" (.long (0 : Int64)) := (F7_4.ext E9)
  have F9_5 : Fld Z h9 b1 "com/example/brazier/brazier/keyspace/ChangeOrder" "passed" "J" (.long (0 : Int64)) := (F7_5.ext E9)
  have F9_6 : Fld Z h9 b3 "com/example/brazier/brazier/keyspace/ChangeOrder$Link" "before" "Lcom/example/brazier/brazier/keyspace/ChangeOrder$Link;" .null := (F7_6.ext E9)
  have F9_7 : Fld Z h9 b3 "com/example/brazier/brazier/keyspace/ChangeOrder$Link" "after" "Lcom/example/brazier/brazier/keyspace/ChangeOrder$Link;" .null := (F7_7.ext E9)
  have F9_8 : Fld Z h9 b3 "com/example/brazier/brazier/keyspace/ChangeOrder$Link" "number" "J" (.long (0 : Int64)) := (F7_8.ext E9)
  have F9_9 : Fld Z h9 b5 "com/example/brazier/brazier/keyspace/ChangeOrder$Link" "before" "Lcom/example/brazier/brazier/keyspace/ChangeOrder$Link;" .null := (F7_9.ext E9)
  have F9_10 : Fld Z h9 b5 "com/example/brazier/brazier/keyspace/ChangeOrder$Link" "after" "Lcom/example/brazier/brazier/keyspace/ChangeOrder$Link;" .null := (F7_10.ext E9)
  have F9_11 : Fld Z h9 b5 "com/example/brazier/brazier/keyspace/ChangeOrder$Link" "number" "J" (.long (0 : Int64)) := (F7_11.ext E9)
  have F9_12 : Fld Z h9 b7 "com/example/brazier/brazier/keyspace/ChangeOrder$Link" "before" "Lcom/example/brazier/brazier/keyspace/ChangeOrder$Link;" .null := (F7_before.ext E9)
  have F9_13 : Fld Z h9 b7 "com/example/brazier/brazier/keyspace/ChangeOrder$Link" "after" "Lcom/example/brazier/brazier/keyspace/ChangeOrder$Link;" .null := (F7_after.ext E9)
  have F9_14 : Fld Z h9 b7 "com/example/brazier/brazier/keyspace/ChangeOrder$Link" "number" "J" (.long (0 : Int64)) := (F7_number.ext E9)
  have F9_after : Fld Z h9 b9 "com/example/brazier/brazier/keyspace/ChangeOrder$Link" "after" "Lcom/example/brazier/brazier/keyspace/ChangeOrder$Link;" .null := D9 (Or.inl (hw _ (List.mem_of_getElem? (i := 60) rfl))) (ty := (.object "com/example/brazier/brazier/keyspace/ChangeOrder$Link")) (by decide)
  have F9_before : Fld Z h9 b9 "com/example/brazier/brazier/keyspace/ChangeOrder$Link" "before" "Lcom/example/brazier/brazier/keyspace/ChangeOrder$Link;" .null := D9 (Or.inl (hw _ (List.mem_of_getElem? (i := 64) rfl))) (ty := (.object "com/example/brazier/brazier/keyspace/ChangeOrder$Link")) (by decide)
  have F9_number : Fld Z h9 b9 "com/example/brazier/brazier/keyspace/ChangeOrder$Link" "number" "J" (.long (0 : Int64)) := D9 (Or.inl (hw _ (List.mem_of_getElem? (i := 65) rfl))) (ty := .long) (by decide)
  show own_Fin p.tables e below _ (T9.setTop (mkF m 37 #[.val (.int p0), .val (.int p1), .val (.ref b1), .val (.ref b3), .val (.ref b5), .val (.ref b7), .unset, .unset, .unset, .unset, .unset, .unset, .unset] [(.ref b9)]))
  refine own_by (fun _ k => XS.dup X9.here hx rfl (hb hby at_37) rfl rfl k) ?_
  show own_Fin p.tables e below _ (T9.setTop (mkF m 38 #[.val (.int p0), .val (.int p1), .val (.ref b1), .val (.ref b3), .val (.ref b5), .val (.ref b7), .unset, .unset, .unset, .unset, .unset, .unset, .unset] [(.ref b9), (.ref b9)]))
  obtain ⟨_, _, ⟨T10, L10, k10, n10⟩, -, X10, ⟨Lc10, hQ10, l10, y10, z10⟩, st10⟩ := X9.specialBack hx (y := (⟨"com/example/brazier/brazier/keyspace/ChangeOrder$Place", "<init>", "()V"⟩ : MethodName)) rfl hown (mvT hZ (hw _ (List.mem_of_getElem? (i := 27) rfl))) (mvT hZ (hw _ (List.mem_of_getElem? (i := 28) rfl))) (mvT hZ (hw _ (List.mem_of_getElem? (i := 29) rfl))) (by decide) (backOf (W := 1) (rm4 l Z a0 hw [] b9 h9 n0 Z9 ) hZ (hw _ (List.mem_of_getElem? (i := 29) rfl)) (hw _ (List.mem_of_getElem? (i := 26) rfl)) (by decide) (by decide)) (g := (mkF m 38 #[.val (.int p0), .val (.int p1), .val (.ref b1), .val (.ref b3), .val (.ref b5), .val (.ref b7), .unset, .unset, .unset, .unset, .unset, .unset, .unset] [(.ref b9), (.ref b9)])) rfl (by rw [hml]; rfl) (Steps.refl _) (a := b9) (argsL := []) (rest := [(.ref b9)]) (lenOf pd___V rfl) rfl (by show 2 * 0 + _ ≤ _; exact Nat.le_of_eq rfl) (hb hby at_38) (fun _ _ => ⟨rfl, e9, (by decide : 6 + 0 ≤ _), (by decide : 18 + 0 ≤ _)⟩)
  dsimp only [Pt.U, Pt.locs, Pt.cells, Pt.slots] at X10 l10 y10 z10 st10 hQ10
  subst l10 y10 z10
  obtain ⟨rfl, N10q, e10⟩ := hQ10
  have N10 := Fr.app N8 N10q
  refine own_by (fun _ k => st10.trans k) ?_
  show own_Fin p.tables e below _ (T10.setTop (mkF m 41 #[.val (.int p0), .val (.int p1), .val (.ref b1), .val (.ref b3), .val (.ref b5), .val (.ref b7), .unset, .unset, .unset, .unset, .unset, .unset, .unset] [(.ref b9)]))
  refine own_by (fun _ k => XS.astore X10.here hx rfl (hb hby at_41) rfl rfl (l' := #[.val (.int p0), .val (.int p1), .val (.ref b1), .val (.ref b3), .val (.ref b5), .val (.ref b7), .val (.ref b9), .unset, .unset, .unset, .unset, .unset, .unset]) rfl k) ?_
  show own_Fin p.tables e below _ (T10.setTop (mkF m 43 #[.val (.int p0), .val (.int p1), .val (.ref b1), .val (.ref b3), .val (.ref b5), .val (.ref b7), .val (.ref b9), .unset, .unset, .unset, .unset, .unset, .unset] []))
  obtain ⟨ad, q0_, q1_, q2_, q3_, q4_⟩ : ∃ ad : Nat → Addr, st2z = ad 0 ∧ b3 = ad 1 ∧ b5 = ad 2 ∧ b7 = ad 3 ∧ b9 = ad 4 := ⟨fun k => if k = 0 then st2z else if k = 1 then b3 else if k = 2 then b5 else if k = 3 then b7 else b9, rfl, rfl, rfl, rfl, rfl⟩
  subst q0_
  subst q1_
  subst q2_
  subst q3_
  subst q4_
  have wk : own_WK Z 5 own_K := fun i hi => by
    rcases own_lt5 hi with rfl | rfl | rfl | rfl | rfl
    · exact ⟨a0, 3, (hw _ (List.mem_of_getElem? (i := 19) rfl)), (hw _ (List.mem_of_getElem? (i := 21) rfl)), (hw _ (List.mem_of_getElem? (i := 40) rfl)), (hw _ (List.mem_of_getElem? (i := 10) rfl))⟩
    · exact ⟨a0, 3, (hw _ (List.mem_of_getElem? (i := 19) rfl)), (hw _ (List.mem_of_getElem? (i := 21) rfl)), (hw _ (List.mem_of_getElem? (i := 40) rfl)), (hw _ (List.mem_of_getElem? (i := 10) rfl))⟩
    · exact ⟨a0, 3, (hw _ (List.mem_of_getElem? (i := 19) rfl)), (hw _ (List.mem_of_getElem? (i := 21) rfl)), (hw _ (List.mem_of_getElem? (i := 40) rfl)), (hw _ (List.mem_of_getElem? (i := 10) rfl))⟩
    · exact ⟨a0, 3, (hw _ (List.mem_of_getElem? (i := 19) rfl)), (hw _ (List.mem_of_getElem? (i := 21) rfl)), (hw _ (List.mem_of_getElem? (i := 40) rfl)), (hw _ (List.mem_of_getElem? (i := 10) rfl))⟩
    · exact ⟨a0, 3, (hw _ (List.mem_of_getElem? (i := 64) rfl)), (hw _ (List.mem_of_getElem? (i := 60) rfl)), (hw _ (List.mem_of_getElem? (i := 65) rfl)), (hw _ (List.mem_of_getElem? (i := 25) rfl))⟩
  have sl : own_SL Z := ⟨slot_ne (Or.inl (hw _ (List.mem_of_getElem? (i := 19) rfl))) (Or.inl (hw _ (List.mem_of_getElem? (i := 21) rfl))) (by decide) (t := (.object "com/example/brazier/brazier/keyspace/ChangeOrder$Link")) (t' := (.object "com/example/brazier/brazier/keyspace/ChangeOrder$Link")) (by decide) (by decide), slot_ne (Or.inl (hw _ (List.mem_of_getElem? (i := 19) rfl))) (Or.inl (hw _ (List.mem_of_getElem? (i := 40) rfl))) (by decide) (t := (.object "com/example/brazier/brazier/keyspace/ChangeOrder$Link")) (t' := .long) (by decide) (by decide), slot_ne (Or.inl (hw _ (List.mem_of_getElem? (i := 21) rfl))) (Or.inl (hw _ (List.mem_of_getElem? (i := 40) rfl))) (by decide) (t := (.object "com/example/brazier/brazier/keyspace/ChangeOrder$Link")) (t' := .long) (by decide) (by decide), slot_ne (Or.inr (hw _ (List.mem_of_getElem? (i := 17) rfl))) (Or.inl (hw _ (List.mem_of_getElem? (i := 38) rfl))) (by decide) (t := (.object "com/example/brazier/brazier/keyspace/ChangeOrder$Link")) (t' := .long) (by decide) (by decide), slot_ne (Or.inr (hw _ (List.mem_of_getElem? (i := 17) rfl))) (Or.inl (hw _ (List.mem_of_getElem? (i := 67) rfl))) (by decide) (t := (.object "com/example/brazier/brazier/keyspace/ChangeOrder$Link")) (t' := .long) (by decide) (by decide), slot_ne (Or.inl (hw _ (List.mem_of_getElem? (i := 38) rfl))) (Or.inl (hw _ (List.mem_of_getElem? (i := 67) rfl))) (by decide) (t := .long) (t' := .long) (by decide) (by decide)⟩
  have S0 : own_S Z h9 n0 5 ad own_K b1 own_b0 own_b0 own_n0 own_w0 own_w0 := by
    refine ⟨Z9, g_b1, E9_0, F9_0, F9_1, F9_5, fun i hi => ?_, fun i j hi hj h => ?_, fun i hi => ?_⟩
    · rcases own_lt5 hi with rfl | rfl | rfl | rfl | rfl
      · exact neS2
      · exact ne3_o0
      · exact ne5_o0
      · exact ne7_o0
      · exact ne9_o0
    · rcases own_lt5 hi with rfl | rfl | rfl | rfl | rfl <;> rcases own_lt5 hj with rfl | rfl | rfl | rfl | rfl <;> first | rfl | exact absurd h ne3_o1 | exact absurd h.symm ne3_o1 | exact absurd h ne5_o1 | exact absurd h.symm ne5_o1 | exact absurd h ne7_o1 | exact absurd h.symm ne7_o1 | exact absurd h ne9_o1 | exact absurd h.symm ne9_o1 | exact absurd h ne5_o2 | exact absurd h.symm ne5_o2 | exact absurd h ne7_o2 | exact absurd h.symm ne7_o2 | exact absurd h ne9_o2 | exact absurd h.symm ne9_o2 | exact absurd h ne7_o3 | exact absurd h.symm ne7_o3 | exact absurd h ne9_o3 | exact absurd h.symm ne9_o3 | exact absurd h ne9_o4 | exact absurd h.symm ne9_o4
    · rcases own_lt5 hi with rfl | rfl | rfl | rfl | rfl
      · exact ⟨g_st2z, E9_1, F9_2, F9_3, F9_4⟩
      · exact ⟨g_b3, E9_2, F9_6, F9_7, F9_8⟩
      · exact ⟨g_b5, E9_3, F9_9, F9_10, F9_11⟩
      · exact ⟨g_b7, E9_4, F9_12, F9_13, F9_14⟩
      · exact ⟨g_b9, A9, F9_before, F9_after, F9_number⟩
  show own_Fin p.tables e below _ (T10.setTop (mkF m 43 #[.val (.int p0), .val (.int p1), .val (.ref b1), .val (.ref (ad 1)), .val (.ref (ad 2)), .val (.ref (ad 3)), .val (.ref (ad 4)), .unset, .unset, .unset, .unset, .unset, .unset] []))
  refine own_by (fun _ k => XS.aloadN X10.here hx rfl (hb hby at_43) rfl rfl k) ?_
  show own_Fin p.tables e below _ (T10.setTop (mkF m 44 #[.val (.int p0), .val (.int p1), .val (.ref b1), .val (.ref (ad 1)), .val (.ref (ad 2)), .val (.ref (ad 3)), .val (.ref (ad 4)), .unset, .unset, .unset, .unset, .unset, .unset] [(.ref b1)]))
  refine own_by (fun _ k => XS.aloadN X10.here hx rfl (hb hby at_44) rfl rfl k) ?_
  show own_Fin p.tables e below _ (T10.setTop (mkF m 45 #[.val (.int p0), .val (.int p1), .val (.ref b1), .val (.ref (ad 1)), .val (.ref (ad 2)), .val (.ref (ad 3)), .val (.ref (ad 4)), .unset, .unset, .unset, .unset, .unset, .unset] [(.ref (ad 1)), (.ref b1)]))
  obtain ⟨cq11, kq11, q11a, q11b, q11c⟩ := isOf hZ e10 S0.2.2.1
  obtain ⟨_, _, ⟨T11, L11, k11, n11⟩, -, X11, ⟨Lc11, hQ11, l11, y11, z11⟩, st11⟩ := X10.virtualBack hx (y := (⟨"com/example/brazier/brazier/keyspace/ChangeOrder", "add", "(Lcom/example/brazier/brazier/keyspace/ChangeOrder$Link;)V"⟩ : MethodName)) (z := (⟨"com/example/brazier/brazier/keyspace/ChangeOrder", "add", "(Lcom/example/brazier/brazier/keyspace/ChangeOrder$Link;)V"⟩ : MethodName)) hown (mvT hZ (hw _ (List.mem_of_getElem? (i := 32) rfl))) (mvT hZ (hw _ (List.mem_of_getElem? (i := 33) rfl))) (notFace_of_selects (args := #[]) (mvT hZ (hw _ (List.mem_of_getElem? (i := 35) rfl)))) (mvT hZ (hw _ (List.mem_of_getElem? (i := 35) rfl))) (mvT hZ (hw _ (List.mem_of_getElem? (i := 34) rfl))) (by decide) (backOf (W := 0) (rm5 l Z a0 hw [] 5 ad own_K b1 own_b0 own_b0 own_n0 own_w0 own_w0 1 0 h9 n0 S0.1 S0 sl wk (by decide) (by decide) (by decide) (by decide)) hZ (hw _ (List.mem_of_getElem? (i := 36) rfl)) (hw _ (List.mem_of_getElem? (i := 2) rfl)) (by decide) (by decide)) q11a q11c (g := (mkF m 45 #[.val (.int p0), .val (.int p1), .val (.ref b1), .val (.ref (ad 1)), .val (.ref (ad 2)), .val (.ref (ad 3)), .val (.ref (ad 4)), .unset, .unset, .unset, .unset, .unset, .unset] [(.ref (ad 1)), (.ref b1)])) rfl (by rw [hml]; rfl) (Steps.refl _) (argsL := [(.ref (ad 1))]) (rest := []) (lenOf pd__Lcom_example_brazier_brazier_keyspace_ChangeOrder_Link__V rfl) rfl (by show 2 * 0 + _ ≤ _; exact Nat.le_of_eq rfl) (hb hby at_45) (fun _ _ => ⟨rfl, e10, (by decide : 6 + 0 ≤ _), (by decide : 18 + 0 ≤ _)⟩)
  dsimp only [Pt.U, Pt.locs, Pt.cells, Pt.slots] at X11 l11 y11 z11 st11 hQ11
  subst l11 y11 z11
  obtain ⟨rfl, N11q, S11q⟩ := hQ11
  have N11 := Fr.app N10 N11q
  refine own_by (fun _ k => st11.trans k) ?_
  have S11 : own_S Z T11.heap n0 5 ad own_K b1 own_b1 own_a2 own_n3 own_w4 own_w0 := S11q
  show own_Fin p.tables e below _ (T11.setTop (mkF m 48 #[.val (.int p0), .val (.int p1), .val (.ref b1), .val (.ref (ad 1)), .val (.ref (ad 2)), .val (.ref (ad 3)), .val (.ref (ad 4)), .unset, .unset, .unset, .unset, .unset, .unset] []))
  refine own_by (fun _ k => XS.aloadN X11.here hx rfl (hb hby at_48) rfl rfl k) ?_
  show own_Fin p.tables e below _ (T11.setTop (mkF m 49 #[.val (.int p0), .val (.int p1), .val (.ref b1), .val (.ref (ad 1)), .val (.ref (ad 2)), .val (.ref (ad 3)), .val (.ref (ad 4)), .unset, .unset, .unset, .unset, .unset, .unset] [(.ref b1)]))
  refine own_by (fun _ k => XS.aload X11.here hx rfl (hb hby at_49) rfl rfl k) ?_
  show own_Fin p.tables e below _ (T11.setTop (mkF m 51 #[.val (.int p0), .val (.int p1), .val (.ref b1), .val (.ref (ad 1)), .val (.ref (ad 2)), .val (.ref (ad 3)), .val (.ref (ad 4)), .unset, .unset, .unset, .unset, .unset, .unset] [(.ref (ad 2)), (.ref b1)]))
  obtain ⟨cq12, kq12, q12a, q12b, q12c⟩ := isOf hZ rfl S11.2.2.1
  obtain ⟨_, _, ⟨T12, L12, k12, n12⟩, -, X12, ⟨Lc12, hQ12, l12, y12, z12⟩, st12⟩ := X11.virtualBack hx (y := (⟨"com/example/brazier/brazier/keyspace/ChangeOrder", "add", "(Lcom/example/brazier/brazier/keyspace/ChangeOrder$Link;)V"⟩ : MethodName)) (z := (⟨"com/example/brazier/brazier/keyspace/ChangeOrder", "add", "(Lcom/example/brazier/brazier/keyspace/ChangeOrder$Link;)V"⟩ : MethodName)) hown (mvT hZ (hw _ (List.mem_of_getElem? (i := 32) rfl))) (mvT hZ (hw _ (List.mem_of_getElem? (i := 33) rfl))) (notFace_of_selects (args := #[]) (mvT hZ (hw _ (List.mem_of_getElem? (i := 35) rfl)))) (mvT hZ (hw _ (List.mem_of_getElem? (i := 35) rfl))) (mvT hZ (hw _ (List.mem_of_getElem? (i := 34) rfl))) (by decide) (backOf (W := 0) (rm5 l Z a0 hw [] 5 ad own_K b1 own_b1 own_a2 own_n3 own_w4 own_w0 2 1 T11.heap n0 S11.1 S11 sl wk (by decide) (by decide) (by decide) (by decide)) hZ (hw _ (List.mem_of_getElem? (i := 36) rfl)) (hw _ (List.mem_of_getElem? (i := 2) rfl)) (by decide) (by decide)) q12a q12c (g := (mkF m 51 #[.val (.int p0), .val (.int p1), .val (.ref b1), .val (.ref (ad 1)), .val (.ref (ad 2)), .val (.ref (ad 3)), .val (.ref (ad 4)), .unset, .unset, .unset, .unset, .unset, .unset] [(.ref (ad 2)), (.ref b1)])) rfl (by rw [hml]; rfl) (Steps.refl _) (argsL := [(.ref (ad 2))]) (rest := []) (lenOf pd__Lcom_example_brazier_brazier_keyspace_ChangeOrder_Link__V rfl) rfl (by show 2 * 0 + _ ≤ _; exact Nat.le_of_eq rfl) (hb hby at_51) (fun _ _ => ⟨rfl, rfl, (by decide : 6 + 0 ≤ _), (by decide : 18 + 0 ≤ _)⟩)
  dsimp only [Pt.U, Pt.locs, Pt.cells, Pt.slots] at X12 l12 y12 z12 st12 hQ12
  subst l12 y12 z12
  obtain ⟨rfl, N12q, S12q⟩ := hQ12
  have N12 := Fr.app N11 N12q
  refine own_by (fun _ k => st12.trans k) ?_
  have S12 : own_S Z T12.heap n0 5 ad own_K b1 own_b5 own_a6 own_n7 own_w8 own_w0 := S12q
  show own_Fin p.tables e below _ (T12.setTop (mkF m 54 #[.val (.int p0), .val (.int p1), .val (.ref b1), .val (.ref (ad 1)), .val (.ref (ad 2)), .val (.ref (ad 3)), .val (.ref (ad 4)), .unset, .unset, .unset, .unset, .unset, .unset] []))
  refine own_by (fun _ k => XS.aloadN X12.here hx rfl (hb hby at_54) rfl rfl k) ?_
  show own_Fin p.tables e below _ (T12.setTop (mkF m 55 #[.val (.int p0), .val (.int p1), .val (.ref b1), .val (.ref (ad 1)), .val (.ref (ad 2)), .val (.ref (ad 3)), .val (.ref (ad 4)), .unset, .unset, .unset, .unset, .unset, .unset] [(.ref b1)]))
  refine own_by (fun _ k => XS.aload X12.here hx rfl (hb hby at_55) rfl rfl k) ?_
  show own_Fin p.tables e below _ (T12.setTop (mkF m 57 #[.val (.int p0), .val (.int p1), .val (.ref b1), .val (.ref (ad 1)), .val (.ref (ad 2)), .val (.ref (ad 3)), .val (.ref (ad 4)), .unset, .unset, .unset, .unset, .unset, .unset] [(.ref (ad 3)), (.ref b1)]))
  obtain ⟨cq13, kq13, q13a, q13b, q13c⟩ := isOf hZ rfl S12.2.2.1
  obtain ⟨_, _, ⟨T13, L13, k13, n13⟩, -, X13, ⟨Lc13, hQ13, l13, y13, z13⟩, st13⟩ := X12.virtualBack hx (y := (⟨"com/example/brazier/brazier/keyspace/ChangeOrder", "add", "(Lcom/example/brazier/brazier/keyspace/ChangeOrder$Link;)V"⟩ : MethodName)) (z := (⟨"com/example/brazier/brazier/keyspace/ChangeOrder", "add", "(Lcom/example/brazier/brazier/keyspace/ChangeOrder$Link;)V"⟩ : MethodName)) hown (mvT hZ (hw _ (List.mem_of_getElem? (i := 32) rfl))) (mvT hZ (hw _ (List.mem_of_getElem? (i := 33) rfl))) (notFace_of_selects (args := #[]) (mvT hZ (hw _ (List.mem_of_getElem? (i := 35) rfl)))) (mvT hZ (hw _ (List.mem_of_getElem? (i := 35) rfl))) (mvT hZ (hw _ (List.mem_of_getElem? (i := 34) rfl))) (by decide) (backOf (W := 0) (rm5 l Z a0 hw [] 5 ad own_K b1 own_b5 own_a6 own_n7 own_w8 own_w0 3 2 T12.heap n0 S12.1 S12 sl wk (by decide) (by decide) (by decide) (by decide)) hZ (hw _ (List.mem_of_getElem? (i := 36) rfl)) (hw _ (List.mem_of_getElem? (i := 2) rfl)) (by decide) (by decide)) q13a q13c (g := (mkF m 57 #[.val (.int p0), .val (.int p1), .val (.ref b1), .val (.ref (ad 1)), .val (.ref (ad 2)), .val (.ref (ad 3)), .val (.ref (ad 4)), .unset, .unset, .unset, .unset, .unset, .unset] [(.ref (ad 3)), (.ref b1)])) rfl (by rw [hml]; rfl) (Steps.refl _) (argsL := [(.ref (ad 3))]) (rest := []) (lenOf pd__Lcom_example_brazier_brazier_keyspace_ChangeOrder_Link__V rfl) rfl (by show 2 * 0 + _ ≤ _; exact Nat.le_of_eq rfl) (hb hby at_57) (fun _ _ => ⟨rfl, rfl, (by decide : 6 + 0 ≤ _), (by decide : 18 + 0 ≤ _)⟩)
  dsimp only [Pt.U, Pt.locs, Pt.cells, Pt.slots] at X13 l13 y13 z13 st13 hQ13
  subst l13 y13 z13
  obtain ⟨rfl, N13q, S13q⟩ := hQ13
  have N13 := Fr.app N12 N13q
  refine own_by (fun _ k => st13.trans k) ?_
  have S13 : own_S Z T13.heap n0 5 ad own_K b1 own_b9 own_a10 own_n11 own_w12 own_w0 := S13q
  show own_Fin p.tables e below _ (T13.setTop (mkF m 60 #[.val (.int p0), .val (.int p1), .val (.ref b1), .val (.ref (ad 1)), .val (.ref (ad 2)), .val (.ref (ad 3)), .val (.ref (ad 4)), .unset, .unset, .unset, .unset, .unset, .unset] []))
  refine own_by (fun _ k => XS.aloadN X13.here hx rfl (hb hby at_60) rfl rfl k) ?_
  show own_Fin p.tables e below _ (T13.setTop (mkF m 61 #[.val (.int p0), .val (.int p1), .val (.ref b1), .val (.ref (ad 1)), .val (.ref (ad 2)), .val (.ref (ad 3)), .val (.ref (ad 4)), .unset, .unset, .unset, .unset, .unset, .unset] [(.ref b1)]))
  refine own_by (fun _ k => XS.aload X13.here hx rfl (hb hby at_61) rfl rfl k) ?_
  show own_Fin p.tables e below _ (T13.setTop (mkF m 63 #[.val (.int p0), .val (.int p1), .val (.ref b1), .val (.ref (ad 1)), .val (.ref (ad 2)), .val (.ref (ad 3)), .val (.ref (ad 4)), .unset, .unset, .unset, .unset, .unset, .unset] [(.ref (ad 3)), (.ref b1)]))
  obtain ⟨cq14, kq14, q14a, q14b, q14c⟩ := isOf hZ rfl S13.2.2.1
  obtain ⟨_, _, ⟨T14, L14, k14, n14⟩, -, X14, ⟨Lc14, hQ14, l14, y14, z14⟩, st14⟩ := X13.virtualBack hx (y := (⟨"com/example/brazier/brazier/keyspace/ChangeOrder", "after", "(Lcom/example/brazier/brazier/keyspace/ChangeOrder$Link;)Lcom/example/brazier/brazier/keyspace/ChangeOrder$Link;"⟩ : MethodName)) (z := (⟨"com/example/brazier/brazier/keyspace/ChangeOrder", "after", "(Lcom/example/brazier/brazier/keyspace/ChangeOrder$Link;)Lcom/example/brazier/brazier/keyspace/ChangeOrder$Link;"⟩ : MethodName)) hown (mvT hZ (hw _ (List.mem_of_getElem? (i := 44) rfl))) (mvT hZ (hw _ (List.mem_of_getElem? (i := 45) rfl))) (notFace_of_selects (args := #[]) (mvT hZ (hw _ (List.mem_of_getElem? (i := 47) rfl)))) (mvT hZ (hw _ (List.mem_of_getElem? (i := 47) rfl))) (mvT hZ (hw _ (List.mem_of_getElem? (i := 46) rfl))) (by decide) (backOf (W := 0) (rm7 l Z a0 hw [] 5 ad own_K b1 own_b9 own_a10 own_n11 own_w12 own_w0 3 T13.heap n0 S13.1 S13 sl wk (by decide)) hZ (hw _ (List.mem_of_getElem? (i := 48) rfl)) (hw _ (List.mem_of_getElem? (i := 2) rfl)) (by decide) (by decide)) q14a q14c (g := (mkF m 63 #[.val (.int p0), .val (.int p1), .val (.ref b1), .val (.ref (ad 1)), .val (.ref (ad 2)), .val (.ref (ad 3)), .val (.ref (ad 4)), .unset, .unset, .unset, .unset, .unset, .unset] [(.ref (ad 3)), (.ref b1)])) rfl (by rw [hml]; rfl) (Steps.refl _) (argsL := [(.ref (ad 3))]) (rest := []) (lenOf pd__Lcom_example_brazier_brazier_keyspace_ChangeOrder_Link__Lcom_example_brazier_brazier_keyspace_ChangeOrder_Link_ rfl) rfl (by show 2 * 0 + _ ≤ _; exact Nat.le_of_eq rfl) (hb hby at_63) (fun _ _ => ⟨rfl, rfl, (by decide : 6 + 0 ≤ _), (by decide : 18 + 0 ≤ _)⟩)
  dsimp only [Pt.U, Pt.locs, Pt.cells, Pt.slots] at X14 l14 y14 z14 st14 hQ14
  subst l14 y14 z14
  obtain ⟨hv14, N14q, e14⟩ := hQ14
  obtain rfl := hv14.trans (congrArg some (show own_nx ad (own_a10 3) = (.ref (ad 0)) from (by rw [show own_a10 3 = some 0 from by decide]; rfl)))
  have N14 := Fr.app N13 N14q
  refine own_by (fun _ k => st14.trans k) ?_
  show own_Fin p.tables e below _ (T14.setTop (mkF m 66 #[.val (.int p0), .val (.int p1), .val (.ref b1), .val (.ref (ad 1)), .val (.ref (ad 2)), .val (.ref (ad 3)), .val (.ref (ad 4)), .unset, .unset, .unset, .unset, .unset, .unset] [(.ref (ad 0))]))
  refine own_by (fun _ k => XS.astore X14.here hx rfl (hb hby at_66) rfl rfl (l' := #[.val (.int p0), .val (.int p1), .val (.ref b1), .val (.ref (ad 1)), .val (.ref (ad 2)), .val (.ref (ad 3)), .val (.ref (ad 4)), .val (.ref (ad 0)), .unset, .unset, .unset, .unset, .unset]) rfl k) ?_
  show own_Fin p.tables e below _ (T14.setTop (mkF m 68 #[.val (.int p0), .val (.int p1), .val (.ref b1), .val (.ref (ad 1)), .val (.ref (ad 2)), .val (.ref (ad 3)), .val (.ref (ad 4)), .val (.ref (ad 0)), .unset, .unset, .unset, .unset, .unset] []))
  refine own_by (fun _ k => XS.aload X14.here hx rfl (hb hby at_68) rfl rfl k) ?_
  show own_Fin p.tables e below _ (T14.setTop (mkF m 70 #[.val (.int p0), .val (.int p1), .val (.ref b1), .val (.ref (ad 1)), .val (.ref (ad 2)), .val (.ref (ad 3)), .val (.ref (ad 4)), .val (.ref (ad 0)), .unset, .unset, .unset, .unset, .unset] [(.ref (ad 0))]))
  refine own_by (fun _ k => XS.ifnullNo X14.here hx rfl (hb hby at_70) rfl k) ?_
  show own_Fin p.tables e below _ (T14.setTop (mkF m 73 #[.val (.int p0), .val (.int p1), .val (.ref b1), .val (.ref (ad 1)), .val (.ref (ad 2)), .val (.ref (ad 3)), .val (.ref (ad 4)), .val (.ref (ad 0)), .unset, .unset, .unset, .unset, .unset] []))
  refine own_by (fun _ k => XS.aload X14.here hx rfl (hb hby at_73) rfl rfl k) ?_
  show own_Fin p.tables e below _ (T14.setTop (mkF m 75 #[.val (.int p0), .val (.int p1), .val (.ref b1), .val (.ref (ad 1)), .val (.ref (ad 2)), .val (.ref (ad 3)), .val (.ref (ad 4)), .val (.ref (ad 0)), .unset, .unset, .unset, .unset, .unset] [(.ref (ad 0))]))
  refine own_by (fun _ k => XS.aloadN X14.here hx rfl (hb hby at_75) rfl rfl k) ?_
  show own_Fin p.tables e below _ (T14.setTop (mkF m 76 #[.val (.int p0), .val (.int p1), .val (.ref b1), .val (.ref (ad 1)), .val (.ref (ad 2)), .val (.ref (ad 3)), .val (.ref (ad 4)), .val (.ref (ad 0)), .unset, .unset, .unset, .unset, .unset] [(.ref (ad 1)), (.ref (ad 0))]))
  refine own_by (fun _ k => Jvm.RoadKit.acmp (g := (mkF m 76 #[.val (.int p0), .val (.int p1), .val (.ref b1), .val (.ref (ad 1)), .val (.ref (ad 2)), .val (.ref (ad 3)), .val (.ref (ad 4)), .val (.ref (ad 0)), .unset, .unset, .unset, .unset, .unset] [(.ref (ad 1)), (.ref (ad 0))])) X14 hx rfl rfl rfl (pc0 := 76) (pc' := 79) (same := false) rfl (hb hby at_76) rfl (decide_eq_false fun q => (fun q => absurd (S13.2.2.2.2.2.2.2.1 0 1 (by decide) (by decide) q) (by decide)) (Value.ref.inj q)) (by decide) (by decide) k) ?_
  show own_Fin p.tables e below _ (T14.setTop (mkF m 79 #[.val (.int p0), .val (.int p1), .val (.ref b1), .val (.ref (ad 1)), .val (.ref (ad 2)), .val (.ref (ad 3)), .val (.ref (ad 4)), .val (.ref (ad 0)), .unset, .unset, .unset, .unset, .unset] []))
  refine own_by (fun _ k => XS.aload X14.here hx rfl (hb hby at_79) rfl rfl k) ?_
  show own_Fin p.tables e below _ (T14.setTop (mkF m 81 #[.val (.int p0), .val (.int p1), .val (.ref b1), .val (.ref (ad 1)), .val (.ref (ad 2)), .val (.ref (ad 3)), .val (.ref (ad 4)), .val (.ref (ad 0)), .unset, .unset, .unset, .unset, .unset] [(.ref (ad 0))]))
  refine own_by (fun _ k => XS.aload X14.here hx rfl (hb hby at_81) rfl rfl k) ?_
  show own_Fin p.tables e below _ (T14.setTop (mkF m 83 #[.val (.int p0), .val (.int p1), .val (.ref b1), .val (.ref (ad 1)), .val (.ref (ad 2)), .val (.ref (ad 3)), .val (.ref (ad 4)), .val (.ref (ad 0)), .unset, .unset, .unset, .unset, .unset] [(.ref (ad 2)), (.ref (ad 0))]))
  refine own_by (fun _ k => Jvm.RoadKit.acmp (g := (mkF m 83 #[.val (.int p0), .val (.int p1), .val (.ref b1), .val (.ref (ad 1)), .val (.ref (ad 2)), .val (.ref (ad 3)), .val (.ref (ad 4)), .val (.ref (ad 0)), .unset, .unset, .unset, .unset, .unset] [(.ref (ad 2)), (.ref (ad 0))])) X14 hx rfl rfl rfl (pc0 := 83) (pc' := 86) (same := false) rfl (hb hby at_83) rfl (decide_eq_false fun q => (fun q => absurd (S13.2.2.2.2.2.2.2.1 0 2 (by decide) (by decide) q) (by decide)) (Value.ref.inj q)) (by decide) (by decide) k) ?_
  show own_Fin p.tables e below _ (T14.setTop (mkF m 86 #[.val (.int p0), .val (.int p1), .val (.ref b1), .val (.ref (ad 1)), .val (.ref (ad 2)), .val (.ref (ad 3)), .val (.ref (ad 4)), .val (.ref (ad 0)), .unset, .unset, .unset, .unset, .unset] []))
  refine own_by (fun _ k => XS.aload X14.here hx rfl (hb hby at_86) rfl rfl k) ?_
  show own_Fin p.tables e below _ (T14.setTop (mkF m 88 #[.val (.int p0), .val (.int p1), .val (.ref b1), .val (.ref (ad 1)), .val (.ref (ad 2)), .val (.ref (ad 3)), .val (.ref (ad 4)), .val (.ref (ad 0)), .unset, .unset, .unset, .unset, .unset] [(.ref (ad 0))]))
  refine own_by (fun _ k => XS.aload X14.here hx rfl (hb hby at_88) rfl rfl k) ?_
  show own_Fin p.tables e below _ (T14.setTop (mkF m 90 #[.val (.int p0), .val (.int p1), .val (.ref b1), .val (.ref (ad 1)), .val (.ref (ad 2)), .val (.ref (ad 3)), .val (.ref (ad 4)), .val (.ref (ad 0)), .unset, .unset, .unset, .unset, .unset] [(.ref (ad 3)), (.ref (ad 0))]))
  refine own_by (fun _ k => Jvm.RoadKit.acmp (g := (mkF m 90 #[.val (.int p0), .val (.int p1), .val (.ref b1), .val (.ref (ad 1)), .val (.ref (ad 2)), .val (.ref (ad 3)), .val (.ref (ad 4)), .val (.ref (ad 0)), .unset, .unset, .unset, .unset, .unset] [(.ref (ad 3)), (.ref (ad 0))])) X14 hx rfl rfl rfl (pc0 := 90) (pc' := 93) (same := false) rfl (hb hby at_90) rfl (decide_eq_false fun q => (fun q => absurd (S13.2.2.2.2.2.2.2.1 0 3 (by decide) (by decide) q) (by decide)) (Value.ref.inj q)) (by decide) (by decide) k) ?_
  show own_Fin p.tables e below _ (T14.setTop (mkF m 93 #[.val (.int p0), .val (.int p1), .val (.ref b1), .val (.ref (ad 1)), .val (.ref (ad 2)), .val (.ref (ad 3)), .val (.ref (ad 4)), .val (.ref (ad 0)), .unset, .unset, .unset, .unset, .unset] []))
  refine own_by (fun _ k => XS.aload X14.here hx rfl (hb hby at_93) rfl rfl k) ?_
  show own_Fin p.tables e below _ (T14.setTop (mkF m 95 #[.val (.int p0), .val (.int p1), .val (.ref b1), .val (.ref (ad 1)), .val (.ref (ad 2)), .val (.ref (ad 3)), .val (.ref (ad 4)), .val (.ref (ad 0)), .unset, .unset, .unset, .unset, .unset] [(.ref (ad 0))]))
  refine own_by (fun _ k => XS.aload X14.here hx rfl (hb hby at_95) rfl rfl k) ?_
  show own_Fin p.tables e below _ (T14.setTop (mkF m 97 #[.val (.int p0), .val (.int p1), .val (.ref b1), .val (.ref (ad 1)), .val (.ref (ad 2)), .val (.ref (ad 3)), .val (.ref (ad 4)), .val (.ref (ad 0)), .unset, .unset, .unset, .unset, .unset] [(.ref (ad 4)), (.ref (ad 0))]))
  refine own_by (fun _ k => Jvm.RoadKit.acmp (g := (mkF m 97 #[.val (.int p0), .val (.int p1), .val (.ref b1), .val (.ref (ad 1)), .val (.ref (ad 2)), .val (.ref (ad 3)), .val (.ref (ad 4)), .val (.ref (ad 0)), .unset, .unset, .unset, .unset, .unset] [(.ref (ad 4)), (.ref (ad 0))])) X14 hx rfl rfl rfl (pc0 := 97) (pc' := 102) (same := false) rfl (hb hby at_97) rfl (decide_eq_false fun q => (fun q => absurd (S13.2.2.2.2.2.2.2.1 0 4 (by decide) (by decide) q) (by decide)) (Value.ref.inj q)) (by decide) (by decide) k) ?_
  show own_Fin p.tables e below _ (T14.setTop (mkF m 102 #[.val (.int p0), .val (.int p1), .val (.ref b1), .val (.ref (ad 1)), .val (.ref (ad 2)), .val (.ref (ad 3)), .val (.ref (ad 4)), .val (.ref (ad 0)), .unset, .unset, .unset, .unset, .unset] []))
  refine own_by (fun _ k => XS.iloadN X14.here hx rfl (hb hby at_102) rfl k) ?_
  show own_Fin p.tables e below _ (T14.setTop (mkF m 103 #[.val (.int p0), .val (.int p1), .val (.ref b1), .val (.ref (ad 1)), .val (.ref (ad 2)), .val (.ref (ad 3)), .val (.ref (ad 4)), .val (.ref (ad 0)), .unset, .unset, .unset, .unset, .unset] [(.int p0)]))
  refine own_by (X14.ldcInt hx hown (mvT hZ (hw _ (List.mem_of_getElem? (i := 49) rfl))) (g := (mkF m 103 #[.val (.int p0), .val (.int p1), .val (.ref b1), .val (.ref (ad 1)), .val (.ref (ad 2)), .val (.ref (ad 3)), .val (.ref (ad 4)), .val (.ref (ad 0)), .unset, .unset, .unset, .unset, .unset] [(.int p0)])) rfl (hb hby at_103)) ?_
  show own_Fin p.tables e below _ (T14.setTop (mkF m 105 #[.val (.int p0), .val (.int p1), .val (.ref b1), .val (.ref (ad 1)), .val (.ref (ad 2)), .val (.ref (ad 3)), .val (.ref (ad 4)), .val (.ref (ad 0)), .unset, .unset, .unset, .unset, .unset] [(.int (2147483647 : Int32)), (.int p0)]))
  refine own_by (fun _ k => XS.iand X14.here hx rfl (hb hby at_105) rfl k) ?_
  show own_Fin p.tables e below _ (T14.setTop (mkF m 106 #[.val (.int p0), .val (.int p1), .val (.ref b1), .val (.ref (ad 1)), .val (.ref (ad 2)), .val (.ref (ad 3)), .val (.ref (ad 4)), .val (.ref (ad 0)), .unset, .unset, .unset, .unset, .unset] [(.int (p0 &&& (2147483647 : Int32)))]))
  refine own_by (fun _ k => XS.iconst X14.here hx rfl (hb hby at_106) k) ?_
  show own_Fin p.tables e below _ (T14.setTop (mkF m 107 #[.val (.int p0), .val (.int p1), .val (.ref b1), .val (.ref (ad 1)), .val (.ref (ad 2)), .val (.ref (ad 3)), .val (.ref (ad 4)), .val (.ref (ad 0)), .unset, .unset, .unset, .unset, .unset] [(.int (3 : Int32)), (.int (p0 &&& (2147483647 : Int32)))]))
  refine own_by (fun _ k => iremM X14 hx rfl (hb hby at_107) rfl (by decide) k) ?_
  show own_Fin p.tables e below _ (T14.setTop (mkF m 108 #[.val (.int p0), .val (.int p1), .val (.ref b1), .val (.ref (ad 1)), .val (.ref (ad 2)), .val (.ref (ad 3)), .val (.ref (ad 4)), .val (.ref (ad 0)), .unset, .unset, .unset, .unset, .unset] [(.int ((p0 &&& (2147483647 : Int32)) % (3 : Int32)))]))
  refine own_by (fun _ k => XS.istore X14.here hx rfl (hb hby at_108) rfl (l' := #[.val (.int p0), .val (.int p1), .val (.ref b1), .val (.ref (ad 1)), .val (.ref (ad 2)), .val (.ref (ad 3)), .val (.ref (ad 4)), .val (.ref (ad 0)), .val (.int ((p0 &&& (2147483647 : Int32)) % (3 : Int32))), .unset, .unset, .unset, .unset]) rfl k) ?_
  show own_Fin p.tables e below _ (T14.setTop (mkF m 110 #[.val (.int p0), .val (.int p1), .val (.ref b1), .val (.ref (ad 1)), .val (.ref (ad 2)), .val (.ref (ad 3)), .val (.ref (ad 4)), .val (.ref (ad 0)), .val (.int ((p0 &&& (2147483647 : Int32)) % (3 : Int32))), .unset, .unset, .unset, .unset] []))
  refine own_by (fun _ k => XS.iloadN X14.here hx rfl (hb hby at_110) rfl k) ?_
  show own_Fin p.tables e below _ (T14.setTop (mkF m 111 #[.val (.int p0), .val (.int p1), .val (.ref b1), .val (.ref (ad 1)), .val (.ref (ad 2)), .val (.ref (ad 3)), .val (.ref (ad 4)), .val (.ref (ad 0)), .val (.int ((p0 &&& (2147483647 : Int32)) % (3 : Int32))), .unset, .unset, .unset, .unset] [(.int p1)]))
  refine own_by (X14.ldcInt hx hown (mvT hZ (hw _ (List.mem_of_getElem? (i := 49) rfl))) (g := (mkF m 111 #[.val (.int p0), .val (.int p1), .val (.ref b1), .val (.ref (ad 1)), .val (.ref (ad 2)), .val (.ref (ad 3)), .val (.ref (ad 4)), .val (.ref (ad 0)), .val (.int ((p0 &&& (2147483647 : Int32)) % (3 : Int32))), .unset, .unset, .unset, .unset] [(.int p1)])) rfl (hb hby at_111)) ?_
  show own_Fin p.tables e below _ (T14.setTop (mkF m 113 #[.val (.int p0), .val (.int p1), .val (.ref b1), .val (.ref (ad 1)), .val (.ref (ad 2)), .val (.ref (ad 3)), .val (.ref (ad 4)), .val (.ref (ad 0)), .val (.int ((p0 &&& (2147483647 : Int32)) % (3 : Int32))), .unset, .unset, .unset, .unset] [(.int (2147483647 : Int32)), (.int p1)]))
  refine own_by (fun _ k => XS.iand X14.here hx rfl (hb hby at_113) rfl k) ?_
  show own_Fin p.tables e below _ (T14.setTop (mkF m 114 #[.val (.int p0), .val (.int p1), .val (.ref b1), .val (.ref (ad 1)), .val (.ref (ad 2)), .val (.ref (ad 3)), .val (.ref (ad 4)), .val (.ref (ad 0)), .val (.int ((p0 &&& (2147483647 : Int32)) % (3 : Int32))), .unset, .unset, .unset, .unset] [(.int (p1 &&& (2147483647 : Int32)))]))
  refine own_by (fun _ k => XS.iconst X14.here hx rfl (hb hby at_114) k) ?_
  show own_Fin p.tables e below _ (T14.setTop (mkF m 115 #[.val (.int p0), .val (.int p1), .val (.ref b1), .val (.ref (ad 1)), .val (.ref (ad 2)), .val (.ref (ad 3)), .val (.ref (ad 4)), .val (.ref (ad 0)), .val (.int ((p0 &&& (2147483647 : Int32)) % (3 : Int32))), .unset, .unset, .unset, .unset] [(.int (3 : Int32)), (.int (p1 &&& (2147483647 : Int32)))]))
  refine own_by (fun _ k => iremM X14 hx rfl (hb hby at_115) rfl (by decide) k) ?_
  show own_Fin p.tables e below _ (T14.setTop (mkF m 116 #[.val (.int p0), .val (.int p1), .val (.ref b1), .val (.ref (ad 1)), .val (.ref (ad 2)), .val (.ref (ad 3)), .val (.ref (ad 4)), .val (.ref (ad 0)), .val (.int ((p0 &&& (2147483647 : Int32)) % (3 : Int32))), .unset, .unset, .unset, .unset] [(.int ((p1 &&& (2147483647 : Int32)) % (3 : Int32)))]))
  refine own_by (fun _ k => XS.istore X14.here hx rfl (hb hby at_116) rfl (l' := #[.val (.int p0), .val (.int p1), .val (.ref b1), .val (.ref (ad 1)), .val (.ref (ad 2)), .val (.ref (ad 3)), .val (.ref (ad 4)), .val (.ref (ad 0)), .val (.int ((p0 &&& (2147483647 : Int32)) % (3 : Int32))), .val (.int ((p1 &&& (2147483647 : Int32)) % (3 : Int32))), .unset, .unset, .unset]) rfl k) ?_
  show own_Fin p.tables e below _ (T14.setTop (mkF m 118 #[.val (.int p0), .val (.int p1), .val (.ref b1), .val (.ref (ad 1)), .val (.ref (ad 2)), .val (.ref (ad 3)), .val (.ref (ad 4)), .val (.ref (ad 0)), .val (.int ((p0 &&& (2147483647 : Int32)) % (3 : Int32))), .val (.int ((p1 &&& (2147483647 : Int32)) % (3 : Int32))), .unset, .unset, .unset] []))
  refine own_by (fun _ k => XS.iload X14.here hx rfl (hb hby at_118) rfl k) ?_
  show own_Fin p.tables e below _ (T14.setTop (mkF m 120 #[.val (.int p0), .val (.int p1), .val (.ref b1), .val (.ref (ad 1)), .val (.ref (ad 2)), .val (.ref (ad 3)), .val (.ref (ad 4)), .val (.ref (ad 0)), .val (.int ((p0 &&& (2147483647 : Int32)) % (3 : Int32))), .val (.int ((p1 &&& (2147483647 : Int32)) % (3 : Int32))), .unset, .unset, .unset] [(.int ((p0 &&& (2147483647 : Int32)) % (3 : Int32)))]))
  by_cases hc15 : ((p0 &&& (2147483647 : Int32)) % (3 : Int32)) = (0 : Int32)
  · refine own_by (fun _ k => XS.ifNo X14.here hx rfl (hb hby at_120) rfl ((if0 _ _).trans (teq hc15).2) k) ?_
    show own_Fin p.tables e below _ (T14.setTop (mkF m 123 #[.val (.int p0), .val (.int p1), .val (.ref b1), .val (.ref (ad 1)), .val (.ref (ad 2)), .val (.ref (ad 3)), .val (.ref (ad 4)), .val (.ref (ad 0)), .val (.int ((p0 &&& (2147483647 : Int32)) % (3 : Int32))), .val (.int ((p1 &&& (2147483647 : Int32)) % (3 : Int32))), .unset, .unset, .unset] []))
    refine own_by (fun _ k => XS.aloadN X14.here hx rfl (hb hby at_123) rfl rfl k) ?_
    show own_Fin p.tables e below _ (T14.setTop (mkF m 124 #[.val (.int p0), .val (.int p1), .val (.ref b1), .val (.ref (ad 1)), .val (.ref (ad 2)), .val (.ref (ad 3)), .val (.ref (ad 4)), .val (.ref (ad 0)), .val (.int ((p0 &&& (2147483647 : Int32)) % (3 : Int32))), .val (.int ((p1 &&& (2147483647 : Int32)) % (3 : Int32))), .unset, .unset, .unset] [(.ref (ad 1))]))
    refine own_by (fun _ k => XS.goto X14.here hx rfl (pc0 := 124) (pc' := 140) rfl (hb hby at_124) (by decide) (by decide) k) ?_
    show own_Fin p.tables e below _ (T14.setTop (mkF m 140 #[.val (.int p0), .val (.int p1), .val (.ref b1), .val (.ref (ad 1)), .val (.ref (ad 2)), .val (.ref (ad 3)), .val (.ref (ad 4)), .val (.ref (ad 0)), .val (.int ((p0 &&& (2147483647 : Int32)) % (3 : Int32))), .val (.int ((p1 &&& (2147483647 : Int32)) % (3 : Int32))), .unset, .unset, .unset] [(.ref (ad 1))]))
    refine own_by (fun _ k => XS.astore X14.here hx rfl (hb hby at_140) rfl rfl (l' := #[.val (.int p0), .val (.int p1), .val (.ref b1), .val (.ref (ad 1)), .val (.ref (ad 2)), .val (.ref (ad 3)), .val (.ref (ad 4)), .val (.ref (ad 0)), .val (.int ((p0 &&& (2147483647 : Int32)) % (3 : Int32))), .val (.int ((p1 &&& (2147483647 : Int32)) % (3 : Int32))), .val (.ref (ad 1)), .unset, .unset]) rfl k) ?_
    show own_Fin p.tables e below _ (T14.setTop (mkF m 142 #[.val (.int p0), .val (.int p1), .val (.ref b1), .val (.ref (ad 1)), .val (.ref (ad 2)), .val (.ref (ad 3)), .val (.ref (ad 4)), .val (.ref (ad 0)), .val (.int ((p0 &&& (2147483647 : Int32)) % (3 : Int32))), .val (.int ((p1 &&& (2147483647 : Int32)) % (3 : Int32))), .val (.ref (ad 1)), .unset, .unset] []))
    refine own_by (fun _ k => XS.iload X14.here hx rfl (hb hby at_142) rfl k) ?_
    show own_Fin p.tables e below _ (T14.setTop (mkF m 144 #[.val (.int p0), .val (.int p1), .val (.ref b1), .val (.ref (ad 1)), .val (.ref (ad 2)), .val (.ref (ad 3)), .val (.ref (ad 4)), .val (.ref (ad 0)), .val (.int ((p0 &&& (2147483647 : Int32)) % (3 : Int32))), .val (.int ((p1 &&& (2147483647 : Int32)) % (3 : Int32))), .val (.ref (ad 1)), .unset, .unset] [(.int ((p1 &&& (2147483647 : Int32)) % (3 : Int32)))]))
    by_cases hc16 : ((p1 &&& (2147483647 : Int32)) % (3 : Int32)) = (0 : Int32)
    · refine own_by (fun _ k => XS.ifNo X14.here hx rfl (hb hby at_144) rfl ((if0 _ _).trans (teq hc16).2) k) ?_
      show own_Fin p.tables e below _ (T14.setTop (mkF m 147 #[.val (.int p0), .val (.int p1), .val (.ref b1), .val (.ref (ad 1)), .val (.ref (ad 2)), .val (.ref (ad 3)), .val (.ref (ad 4)), .val (.ref (ad 0)), .val (.int ((p0 &&& (2147483647 : Int32)) % (3 : Int32))), .val (.int ((p1 &&& (2147483647 : Int32)) % (3 : Int32))), .val (.ref (ad 1)), .unset, .unset] []))
      refine own_by (fun _ k => XS.aloadN X14.here hx rfl (hb hby at_147) rfl rfl k) ?_
      show own_Fin p.tables e below _ (T14.setTop (mkF m 148 #[.val (.int p0), .val (.int p1), .val (.ref b1), .val (.ref (ad 1)), .val (.ref (ad 2)), .val (.ref (ad 3)), .val (.ref (ad 4)), .val (.ref (ad 0)), .val (.int ((p0 &&& (2147483647 : Int32)) % (3 : Int32))), .val (.int ((p1 &&& (2147483647 : Int32)) % (3 : Int32))), .val (.ref (ad 1)), .unset, .unset] [(.ref (ad 1))]))
      refine own_by (fun _ k => XS.goto X14.here hx rfl (pc0 := 148) (pc' := 164) rfl (hb hby at_148) (by decide) (by decide) k) ?_
      show own_Fin p.tables e below _ (T14.setTop (mkF m 164 #[.val (.int p0), .val (.int p1), .val (.ref b1), .val (.ref (ad 1)), .val (.ref (ad 2)), .val (.ref (ad 3)), .val (.ref (ad 4)), .val (.ref (ad 0)), .val (.int ((p0 &&& (2147483647 : Int32)) % (3 : Int32))), .val (.int ((p1 &&& (2147483647 : Int32)) % (3 : Int32))), .val (.ref (ad 1)), .unset, .unset] [(.ref (ad 1))]))
      refine own_by (fun _ k => XS.astore X14.here hx rfl (hb hby at_164) rfl rfl (l' := #[.val (.int p0), .val (.int p1), .val (.ref b1), .val (.ref (ad 1)), .val (.ref (ad 2)), .val (.ref (ad 3)), .val (.ref (ad 4)), .val (.ref (ad 0)), .val (.int ((p0 &&& (2147483647 : Int32)) % (3 : Int32))), .val (.int ((p1 &&& (2147483647 : Int32)) % (3 : Int32))), .val (.ref (ad 1)), .val (.ref (ad 1)), .unset]) rfl k) ?_
      show own_Fin p.tables e below _ (T14.setTop (mkF m 166 #[.val (.int p0), .val (.int p1), .val (.ref b1), .val (.ref (ad 1)), .val (.ref (ad 2)), .val (.ref (ad 3)), .val (.ref (ad 4)), .val (.ref (ad 0)), .val (.int ((p0 &&& (2147483647 : Int32)) % (3 : Int32))), .val (.int ((p1 &&& (2147483647 : Int32)) % (3 : Int32))), .val (.ref (ad 1)), .val (.ref (ad 1)), .unset] []))
      refine own_by (fun _ k => XS.aloadN X14.here hx rfl (hb hby at_166) rfl rfl k) ?_
      show own_Fin p.tables e below _ (T14.setTop (mkF m 167 #[.val (.int p0), .val (.int p1), .val (.ref b1), .val (.ref (ad 1)), .val (.ref (ad 2)), .val (.ref (ad 3)), .val (.ref (ad 4)), .val (.ref (ad 0)), .val (.int ((p0 &&& (2147483647 : Int32)) % (3 : Int32))), .val (.int ((p1 &&& (2147483647 : Int32)) % (3 : Int32))), .val (.ref (ad 1)), .val (.ref (ad 1)), .unset] [(.ref b1)]))
      refine own_by (fun _ k => XS.aload X14.here hx rfl (hb hby at_167) rfl rfl k) ?_
      show own_Fin p.tables e below _ (T14.setTop (mkF m 169 #[.val (.int p0), .val (.int p1), .val (.ref b1), .val (.ref (ad 1)), .val (.ref (ad 2)), .val (.ref (ad 3)), .val (.ref (ad 4)), .val (.ref (ad 0)), .val (.int ((p0 &&& (2147483647 : Int32)) % (3 : Int32))), .val (.int ((p1 &&& (2147483647 : Int32)) % (3 : Int32))), .val (.ref (ad 1)), .val (.ref (ad 1)), .unset] [(.ref (ad 4)), (.ref b1)]))
      refine own_by (fun _ k => XS.aload X14.here hx rfl (hb hby at_169) rfl rfl k) ?_
      show own_Fin p.tables e below _ (T14.setTop (mkF m 171 #[.val (.int p0), .val (.int p1), .val (.ref b1), .val (.ref (ad 1)), .val (.ref (ad 2)), .val (.ref (ad 3)), .val (.ref (ad 4)), .val (.ref (ad 0)), .val (.int ((p0 &&& (2147483647 : Int32)) % (3 : Int32))), .val (.int ((p1 &&& (2147483647 : Int32)) % (3 : Int32))), .val (.ref (ad 1)), .val (.ref (ad 1)), .unset] [(.ref (ad 1)), (.ref (ad 4)), (.ref b1)]))
      obtain ⟨cq17, kq17, q17a, q17b, q17c⟩ := isOf hZ e14 S13.2.2.1
      obtain ⟨_, _, ⟨T17, L17, k17, n17⟩, -, X17, ⟨Lc17, hQ17, l17, y17, z17⟩, st17⟩ := X14.virtualBack hx (y := (⟨"com/example/brazier/brazier/keyspace/ChangeOrder", "passTo", "(Lcom/example/brazier/brazier/keyspace/ChangeOrder$Place;Lcom/example/brazier/brazier/keyspace/ChangeOrder$Link;)V"⟩ : MethodName)) (z := (⟨"com/example/brazier/brazier/keyspace/ChangeOrder", "passTo", "(Lcom/example/brazier/brazier/keyspace/ChangeOrder$Place;Lcom/example/brazier/brazier/keyspace/ChangeOrder$Link;)V"⟩ : MethodName)) hown (mvT hZ (hw _ (List.mem_of_getElem? (i := 50) rfl))) (mvT hZ (hw _ (List.mem_of_getElem? (i := 51) rfl))) (notFace_of_selects (args := #[]) (mvT hZ (hw _ (List.mem_of_getElem? (i := 53) rfl)))) (mvT hZ (hw _ (List.mem_of_getElem? (i := 53) rfl))) (mvT hZ (hw _ (List.mem_of_getElem? (i := 52) rfl))) (by decide) (backOf (W := 0) (rm8 l Z a0 hw [] 5 ad own_K b1 own_b9 own_a10 own_n11 own_w12 own_w0 4 1 0 T13.heap n0 S13.1 S13 sl wk (by decide) (by decide) (by decide) (own_wf0 (by decide)) (by decide)) hZ (hw _ (List.mem_of_getElem? (i := 54) rfl)) (hw _ (List.mem_of_getElem? (i := 2) rfl)) (by decide) (by decide)) q17a q17c (g := (mkF m 171 #[.val (.int p0), .val (.int p1), .val (.ref b1), .val (.ref (ad 1)), .val (.ref (ad 2)), .val (.ref (ad 3)), .val (.ref (ad 4)), .val (.ref (ad 0)), .val (.int ((p0 &&& (2147483647 : Int32)) % (3 : Int32))), .val (.int ((p1 &&& (2147483647 : Int32)) % (3 : Int32))), .val (.ref (ad 1)), .val (.ref (ad 1)), .unset] [(.ref (ad 1)), (.ref (ad 4)), (.ref b1)])) rfl (by rw [hml]; rfl) (Steps.refl _) (argsL := [(.ref (ad 4)), (.ref (ad 1))]) (rest := []) (lenOf pd__Lcom_example_brazier_brazier_keyspace_ChangeOrder_Place_Lcom_example_brazier_brazier_keyspace_ChangeOrder_Link__V rfl) rfl (by show 2 * 0 + _ ≤ _; exact Nat.le_of_eq rfl) (hb hby at_171) (fun _ _ => ⟨rfl, e14, (by decide : 6 + 0 ≤ _), (by decide : 18 + 0 ≤ _)⟩)
      dsimp only [Pt.U, Pt.locs, Pt.cells, Pt.slots] at X17 l17 y17 z17 st17 hQ17
      subst l17 y17 z17
      obtain ⟨rfl, N17q, S17q⟩ := hQ17
      have N17 := Fr.app N14 N17q
      refine own_by (fun _ k => st17.trans k) ?_
      have S17 : own_S Z T17.heap n0 5 ad own_K b1 own_b13 own_a14 own_n15 own_w12 own_p16 := S17q
      show own_Fin p.tables e below _ (T17.setTop (mkF m 174 #[.val (.int p0), .val (.int p1), .val (.ref b1), .val (.ref (ad 1)), .val (.ref (ad 2)), .val (.ref (ad 3)), .val (.ref (ad 4)), .val (.ref (ad 0)), .val (.int ((p0 &&& (2147483647 : Int32)) % (3 : Int32))), .val (.int ((p1 &&& (2147483647 : Int32)) % (3 : Int32))), .val (.ref (ad 1)), .val (.ref (ad 1)), .unset] []))
      refine own_by (fun _ k => XS.aloadN X17.here hx rfl (hb hby at_174) rfl rfl k) ?_
      show own_Fin p.tables e below _ (T17.setTop (mkF m 175 #[.val (.int p0), .val (.int p1), .val (.ref b1), .val (.ref (ad 1)), .val (.ref (ad 2)), .val (.ref (ad 3)), .val (.ref (ad 4)), .val (.ref (ad 0)), .val (.int ((p0 &&& (2147483647 : Int32)) % (3 : Int32))), .val (.int ((p1 &&& (2147483647 : Int32)) % (3 : Int32))), .val (.ref (ad 1)), .val (.ref (ad 1)), .unset] [(.ref b1)]))
      refine own_by (fun _ k => XS.aload X17.here hx rfl (hb hby at_175) rfl rfl k) ?_
      show own_Fin p.tables e below _ (T17.setTop (mkF m 177 #[.val (.int p0), .val (.int p1), .val (.ref b1), .val (.ref (ad 1)), .val (.ref (ad 2)), .val (.ref (ad 3)), .val (.ref (ad 4)), .val (.ref (ad 0)), .val (.int ((p0 &&& (2147483647 : Int32)) % (3 : Int32))), .val (.int ((p1 &&& (2147483647 : Int32)) % (3 : Int32))), .val (.ref (ad 1)), .val (.ref (ad 1)), .unset] [(.ref (ad 1)), (.ref b1)]))
      obtain ⟨cq18, kq18, q18a, q18b, q18c⟩ := isOf hZ rfl S17.2.2.1
      obtain ⟨_, _, ⟨T18, L18, k18, n18⟩, -, X18, ⟨Lc18, hQ18, l18, y18, z18⟩, st18⟩ := X17.virtualBack hx (y := (⟨"com/example/brazier/brazier/keyspace/ChangeOrder", "changed", "(Lcom/example/brazier/brazier/keyspace/ChangeOrder$Link;)V"⟩ : MethodName)) (z := (⟨"com/example/brazier/brazier/keyspace/ChangeOrder", "changed", "(Lcom/example/brazier/brazier/keyspace/ChangeOrder$Link;)V"⟩ : MethodName)) hown (mvT hZ (hw _ (List.mem_of_getElem? (i := 75) rfl))) (mvT hZ (hw _ (List.mem_of_getElem? (i := 76) rfl))) (notFace_of_selects (args := #[]) (mvT hZ (hw _ (List.mem_of_getElem? (i := 78) rfl)))) (mvT hZ (hw _ (List.mem_of_getElem? (i := 78) rfl))) (mvT hZ (hw _ (List.mem_of_getElem? (i := 77) rfl))) (by decide) (backOf (W := 0) (rm13 l Z a0 hw [] 5 ad own_K b1 own_b13 own_a14 own_n15 own_w12 own_p16 1 3 T17.heap n0 S17.1 S17 sl wk (by decide) (by decide) (by decide) (fun q => absurd (by decide) q)) hZ (hw _ (List.mem_of_getElem? (i := 79) rfl)) (hw _ (List.mem_of_getElem? (i := 2) rfl)) (by decide) (by decide)) q18a q18c (g := (mkF m 177 #[.val (.int p0), .val (.int p1), .val (.ref b1), .val (.ref (ad 1)), .val (.ref (ad 2)), .val (.ref (ad 3)), .val (.ref (ad 4)), .val (.ref (ad 0)), .val (.int ((p0 &&& (2147483647 : Int32)) % (3 : Int32))), .val (.int ((p1 &&& (2147483647 : Int32)) % (3 : Int32))), .val (.ref (ad 1)), .val (.ref (ad 1)), .unset] [(.ref (ad 1)), (.ref b1)])) rfl (by rw [hml]; rfl) (Steps.refl _) (argsL := [(.ref (ad 1))]) (rest := []) (lenOf pd__Lcom_example_brazier_brazier_keyspace_ChangeOrder_Link__V rfl) rfl (by show 2 * 0 + _ ≤ _; exact Nat.le_of_eq rfl) (hb hby at_177) (fun _ _ => ⟨rfl, rfl, (by decide : 6 + 0 ≤ _), (by decide : 18 + 0 ≤ _)⟩)
      dsimp only [Pt.U, Pt.locs, Pt.cells, Pt.slots] at X18 l18 y18 z18 st18 hQ18
      subst l18 y18 z18
      obtain ⟨rfl, N18q, S18q⟩ := hQ18
      have N18 := Fr.app N17 N18q
      refine own_by (fun _ k => st18.trans k) ?_
      have S18 : own_S Z T18.heap n0 5 ad own_K b1 own_b17 own_a18 own_n19 own_w20 own_p16 := S18q
      show own_Fin p.tables e below _ (T18.setTop (mkF m 180 #[.val (.int p0), .val (.int p1), .val (.ref b1), .val (.ref (ad 1)), .val (.ref (ad 2)), .val (.ref (ad 3)), .val (.ref (ad 4)), .val (.ref (ad 0)), .val (.int ((p0 &&& (2147483647 : Int32)) % (3 : Int32))), .val (.int ((p1 &&& (2147483647 : Int32)) % (3 : Int32))), .val (.ref (ad 1)), .val (.ref (ad 1)), .unset] []))
      refine own_by (fun _ k => XS.iload X18.here hx rfl (hb hby at_180) rfl k) ?_
      show own_Fin p.tables e below _ (T18.setTop (mkF m 182 #[.val (.int p0), .val (.int p1), .val (.ref b1), .val (.ref (ad 1)), .val (.ref (ad 2)), .val (.ref (ad 3)), .val (.ref (ad 4)), .val (.ref (ad 0)), .val (.int ((p0 &&& (2147483647 : Int32)) % (3 : Int32))), .val (.int ((p1 &&& (2147483647 : Int32)) % (3 : Int32))), .val (.ref (ad 1)), .val (.ref (ad 1)), .unset] [(.int ((p0 &&& (2147483647 : Int32)) % (3 : Int32)))]))
      refine own_by (fun _ k => XS.ifNo X18.here hx rfl (hb hby at_182) rfl ((if0 _ _).trans (teq hc15).2) k) ?_
      show own_Fin p.tables e below _ (T18.setTop (mkF m 185 #[.val (.int p0), .val (.int p1), .val (.ref b1), .val (.ref (ad 1)), .val (.ref (ad 2)), .val (.ref (ad 3)), .val (.ref (ad 4)), .val (.ref (ad 0)), .val (.int ((p0 &&& (2147483647 : Int32)) % (3 : Int32))), .val (.int ((p1 &&& (2147483647 : Int32)) % (3 : Int32))), .val (.ref (ad 1)), .val (.ref (ad 1)), .unset] []))
      refine own_by (fun _ k => XS.aloadN X18.here hx rfl (hb hby at_185) rfl rfl k) ?_
      show own_Fin p.tables e below _ (T18.setTop (mkF m 186 #[.val (.int p0), .val (.int p1), .val (.ref b1), .val (.ref (ad 1)), .val (.ref (ad 2)), .val (.ref (ad 3)), .val (.ref (ad 4)), .val (.ref (ad 0)), .val (.int ((p0 &&& (2147483647 : Int32)) % (3 : Int32))), .val (.int ((p1 &&& (2147483647 : Int32)) % (3 : Int32))), .val (.ref (ad 1)), .val (.ref (ad 1)), .unset] [(.ref b1)]))
      refine own_by (fun _ k => XS.aload X18.here hx rfl (hb hby at_186) rfl rfl k) ?_
      show own_Fin p.tables e below _ (T18.setTop (mkF m 188 #[.val (.int p0), .val (.int p1), .val (.ref b1), .val (.ref (ad 1)), .val (.ref (ad 2)), .val (.ref (ad 3)), .val (.ref (ad 4)), .val (.ref (ad 0)), .val (.int ((p0 &&& (2147483647 : Int32)) % (3 : Int32))), .val (.int ((p1 &&& (2147483647 : Int32)) % (3 : Int32))), .val (.ref (ad 1)), .val (.ref (ad 1)), .unset] [(.ref (ad 0)), (.ref b1)]))
      refine own_by (fun _ k => XS.aload X18.here hx rfl (hb hby at_188) rfl rfl k) ?_
      show own_Fin p.tables e below _ (T18.setTop (mkF m 190 #[.val (.int p0), .val (.int p1), .val (.ref b1), .val (.ref (ad 1)), .val (.ref (ad 2)), .val (.ref (ad 3)), .val (.ref (ad 4)), .val (.ref (ad 0)), .val (.int ((p0 &&& (2147483647 : Int32)) % (3 : Int32))), .val (.int ((p1 &&& (2147483647 : Int32)) % (3 : Int32))), .val (.ref (ad 1)), .val (.ref (ad 1)), .unset] [(.ref (ad 4)), (.ref (ad 0)), (.ref b1)]))
      refine own_by (fun _ k => XS.aloadN X18.here hx rfl (hb hby at_190) rfl rfl k) ?_
      show own_Fin p.tables e below _ (T18.setTop (mkF m 191 #[.val (.int p0), .val (.int p1), .val (.ref b1), .val (.ref (ad 1)), .val (.ref (ad 2)), .val (.ref (ad 3)), .val (.ref (ad 4)), .val (.ref (ad 0)), .val (.int ((p0 &&& (2147483647 : Int32)) % (3 : Int32))), .val (.int ((p1 &&& (2147483647 : Int32)) % (3 : Int32))), .val (.ref (ad 1)), .val (.ref (ad 1)), .unset] [(.ref (ad 1)), (.ref (ad 4)), (.ref (ad 0)), (.ref b1)]))
      refine own_by (fun _ k => XS.aload X18.here hx rfl (hb hby at_191) rfl rfl k) ?_
      show own_Fin p.tables e below _ (T18.setTop (mkF m 193 #[.val (.int p0), .val (.int p1), .val (.ref b1), .val (.ref (ad 1)), .val (.ref (ad 2)), .val (.ref (ad 3)), .val (.ref (ad 4)), .val (.ref (ad 0)), .val (.int ((p0 &&& (2147483647 : Int32)) % (3 : Int32))), .val (.int ((p1 &&& (2147483647 : Int32)) % (3 : Int32))), .val (.ref (ad 1)), .val (.ref (ad 1)), .unset] [(.ref (ad 2)), (.ref (ad 1)), (.ref (ad 4)), (.ref (ad 0)), (.ref b1)]))
      refine own_by (fun _ k => XS.aload X18.here hx rfl (hb hby at_193) rfl rfl k) ?_
      show own_Fin p.tables e below _ (T18.setTop (mkF m 195 #[.val (.int p0), .val (.int p1), .val (.ref b1), .val (.ref (ad 1)), .val (.ref (ad 2)), .val (.ref (ad 3)), .val (.ref (ad 4)), .val (.ref (ad 0)), .val (.int ((p0 &&& (2147483647 : Int32)) % (3 : Int32))), .val (.int ((p1 &&& (2147483647 : Int32)) % (3 : Int32))), .val (.ref (ad 1)), .val (.ref (ad 1)), .unset] [(.ref (ad 3)), (.ref (ad 2)), (.ref (ad 1)), (.ref (ad 4)), (.ref (ad 0)), (.ref b1)]))
      obtain ⟨_, _, ⟨T19, L19, k19, n19⟩, -, X19, ⟨Lc19, hQ19, l19, y19, z19⟩, st19⟩ := Jvm.LawKit.callS X18 hx (y := (⟨"com/example/brazier/brazier/keyspace/ChangeOrderAddPinLaw", "ringIs", "(Lcom/example/brazier/brazier/keyspace/ChangeOrder;Lcom/example/brazier/brazier/keyspace/ChangeOrder$Link;Lcom/example/brazier/brazier/keyspace/ChangeOrder$Link;Lcom/example/brazier/brazier/keyspace/ChangeOrder$Link;Lcom/example/brazier/brazier/keyspace/ChangeOrder$Link;Lcom/example/brazier/brazier/keyspace/ChangeOrder$Link;)Z"⟩ : MethodName)) hown (mvT hZ (hw _ (List.mem_of_getElem? (i := 80) rfl))) (mvT hZ (hw _ (List.mem_of_getElem? (i := 81) rfl))) (mvT hZ (hw _ (List.mem_of_getElem? (i := 82) rfl))) (mvT hZ (hw _ (List.mem_of_getElem? (i := 83) rfl))) (by decide) (backOf (W := 0) (rm14 l Z a0 hw [] 5 ad own_K b1 own_b17 own_a18 own_n19 own_w20 own_p16 0 4 1 2 3 T18.heap n0 S18.1 S18 sl wk (by decide) (by decide) (by decide) (by decide) (by decide) (by decide) (by decide) (by decide) (by decide) (by decide)) hZ (hw _ (List.mem_of_getElem? (i := 83) rfl)) (hw _ (List.mem_of_getElem? (i := 82) rfl)) (by decide) (by decide)) (g := (mkF m 195 #[.val (.int p0), .val (.int p1), .val (.ref b1), .val (.ref (ad 1)), .val (.ref (ad 2)), .val (.ref (ad 3)), .val (.ref (ad 4)), .val (.ref (ad 0)), .val (.int ((p0 &&& (2147483647 : Int32)) % (3 : Int32))), .val (.int ((p1 &&& (2147483647 : Int32)) % (3 : Int32))), .val (.ref (ad 1)), .val (.ref (ad 1)), .unset] [(.ref (ad 3)), (.ref (ad 2)), (.ref (ad 1)), (.ref (ad 4)), (.ref (ad 0)), (.ref b1)])) rfl (by rw [hml]; rfl) (argsL := [(.ref b1), (.ref (ad 0)), (.ref (ad 4)), (.ref (ad 1)), (.ref (ad 2)), (.ref (ad 3))]) (rest := []) (lenOf pd__Lcom_example_brazier_brazier_keyspace_ChangeOrder_Lcom_example_brazier_brazier_keyspace_ChangeOrder_Link_Lcom_example_brazier_brazier_keyspace_ChangeOrder_Link_Lcom_example_brazier_brazier_keyspace_ChangeOrder_Link_Lcom_example_brazier_brazier_keyspace_ChangeOrder_Link_Lcom_example_brazier_brazier_keyspace_ChangeOrder_Link__Z rfl) rfl (by show 2 * 0 + _ ≤ _; exact Nat.le_of_eq rfl) (hb hby at_195) (fun _ _ => ⟨rfl, rfl, (by decide : 6 + 0 ≤ _), (by decide : 18 + 0 ≤ _)⟩)
      dsimp only [Pt.U, Pt.locs, Pt.cells, Pt.slots] at X19 l19 y19 z19 st19 hQ19
      subst l19 y19 z19
      obtain ⟨rfl, N19q, e19⟩ := hQ19
      have N19 := Fr.app N18 N19q
      refine own_by st19 ?_
      show own_Fin p.tables e below _ (T19.setTop (mkF m 198 #[.val (.int p0), .val (.int p1), .val (.ref b1), .val (.ref (ad 1)), .val (.ref (ad 2)), .val (.ref (ad 3)), .val (.ref (ad 4)), .val (.ref (ad 0)), .val (.int ((p0 &&& (2147483647 : Int32)) % (3 : Int32))), .val (.int ((p1 &&& (2147483647 : Int32)) % (3 : Int32))), .val (.ref (ad 1)), .val (.ref (ad 1)), .unset] [(.int (1 : Int32))]))
      refine own_by (fun _ k => XS.istore X19.here hx rfl (hb hby at_198) rfl (l' := #[.val (.int p0), .val (.int p1), .val (.ref b1), .val (.ref (ad 1)), .val (.ref (ad 2)), .val (.ref (ad 3)), .val (.ref (ad 4)), .val (.ref (ad 0)), .val (.int ((p0 &&& (2147483647 : Int32)) % (3 : Int32))), .val (.int ((p1 &&& (2147483647 : Int32)) % (3 : Int32))), .val (.ref (ad 1)), .val (.ref (ad 1)), .val (.int (1 : Int32))]) rfl k) ?_
      show own_Fin p.tables e below _ (T19.setTop (mkF m 200 #[.val (.int p0), .val (.int p1), .val (.ref b1), .val (.ref (ad 1)), .val (.ref (ad 2)), .val (.ref (ad 3)), .val (.ref (ad 4)), .val (.ref (ad 0)), .val (.int ((p0 &&& (2147483647 : Int32)) % (3 : Int32))), .val (.int ((p1 &&& (2147483647 : Int32)) % (3 : Int32))), .val (.ref (ad 1)), .val (.ref (ad 1)), .val (.int (1 : Int32))] []))
      refine own_by (fun _ k => XS.goto X19.here hx rfl (pc0 := 200) (pc' := 312) rfl (hb hby at_200) (by decide) (by decide) k) ?_
      show own_Fin p.tables e below _ (T19.setTop (mkF m 312 #[.val (.int p0), .val (.int p1), .val (.ref b1), .val (.ref (ad 1)), .val (.ref (ad 2)), .val (.ref (ad 3)), .val (.ref (ad 4)), .val (.ref (ad 0)), .val (.int ((p0 &&& (2147483647 : Int32)) % (3 : Int32))), .val (.int ((p1 &&& (2147483647 : Int32)) % (3 : Int32))), .val (.ref (ad 1)), .val (.ref (ad 1)), .val (.int (1 : Int32))] []))
      refine own_by (fun _ k => XS.iload X19.here hx rfl (hb hby at_312) rfl k) ?_
      show own_Fin p.tables e below _ (T19.setTop (mkF m 314 #[.val (.int p0), .val (.int p1), .val (.ref b1), .val (.ref (ad 1)), .val (.ref (ad 2)), .val (.ref (ad 3)), .val (.ref (ad 4)), .val (.ref (ad 0)), .val (.int ((p0 &&& (2147483647 : Int32)) % (3 : Int32))), .val (.int ((p1 &&& (2147483647 : Int32)) % (3 : Int32))), .val (.ref (ad 1)), .val (.ref (ad 1)), .val (.int (1 : Int32))] [(.int (1 : Int32))]))
      refine own_by (fun _ k => XS.ifYes X19.here hx rfl (pc0 := 314) (pc' := 319) rfl (hb hby at_314) rfl ((if0 _ _).trans (feq (by decide)).2) (by decide) (by decide) k) ?_
      show own_Fin p.tables e below _ (T19.setTop (mkF m 319 #[.val (.int p0), .val (.int p1), .val (.ref b1), .val (.ref (ad 1)), .val (.ref (ad 2)), .val (.ref (ad 3)), .val (.ref (ad 4)), .val (.ref (ad 0)), .val (.int ((p0 &&& (2147483647 : Int32)) % (3 : Int32))), .val (.int ((p1 &&& (2147483647 : Int32)) % (3 : Int32))), .val (.ref (ad 1)), .val (.ref (ad 1)), .val (.int (1 : Int32))] []))
      refine own_by (fun _ k => XS.aloadN X19.here hx rfl (hb hby at_319) rfl rfl k) ?_
      show own_Fin p.tables e below _ (T19.setTop (mkF m 320 #[.val (.int p0), .val (.int p1), .val (.ref b1), .val (.ref (ad 1)), .val (.ref (ad 2)), .val (.ref (ad 3)), .val (.ref (ad 4)), .val (.ref (ad 0)), .val (.int ((p0 &&& (2147483647 : Int32)) % (3 : Int32))), .val (.int ((p1 &&& (2147483647 : Int32)) % (3 : Int32))), .val (.ref (ad 1)), .val (.ref (ad 1)), .val (.int (1 : Int32))] [(.ref b1)]))
      refine own_by (fun _ k => XS.aload X19.here hx rfl (hb hby at_320) rfl rfl k) ?_
      show own_Fin p.tables e below _ (T19.setTop (mkF m 322 #[.val (.int p0), .val (.int p1), .val (.ref b1), .val (.ref (ad 1)), .val (.ref (ad 2)), .val (.ref (ad 3)), .val (.ref (ad 4)), .val (.ref (ad 0)), .val (.int ((p0 &&& (2147483647 : Int32)) % (3 : Int32))), .val (.int ((p1 &&& (2147483647 : Int32)) % (3 : Int32))), .val (.ref (ad 1)), .val (.ref (ad 1)), .val (.int (1 : Int32))] [(.ref (ad 4)), (.ref b1)]))
      refine own_by (fun _ k => XS.aload X19.here hx rfl (hb hby at_322) rfl rfl k) ?_
      show own_Fin p.tables e below _ (T19.setTop (mkF m 324 #[.val (.int p0), .val (.int p1), .val (.ref b1), .val (.ref (ad 1)), .val (.ref (ad 2)), .val (.ref (ad 3)), .val (.ref (ad 4)), .val (.ref (ad 0)), .val (.int ((p0 &&& (2147483647 : Int32)) % (3 : Int32))), .val (.int ((p1 &&& (2147483647 : Int32)) % (3 : Int32))), .val (.ref (ad 1)), .val (.ref (ad 1)), .val (.int (1 : Int32))] [(.ref (ad 0)), (.ref (ad 4)), (.ref b1)]))
      obtain ⟨cq20, kq20, q20a, q20b, q20c⟩ := isOf hZ e19 S18.2.2.1
      obtain ⟨_, _, ⟨T20, L20, k20, n20⟩, -, X20, ⟨Lc20, hQ20, l20, y20, z20⟩, st20⟩ := X19.virtualBack hx (y := (⟨"com/example/brazier/brazier/keyspace/ChangeOrder", "passTo", "(Lcom/example/brazier/brazier/keyspace/ChangeOrder$Place;Lcom/example/brazier/brazier/keyspace/ChangeOrder$Link;)V"⟩ : MethodName)) (z := (⟨"com/example/brazier/brazier/keyspace/ChangeOrder", "passTo", "(Lcom/example/brazier/brazier/keyspace/ChangeOrder$Place;Lcom/example/brazier/brazier/keyspace/ChangeOrder$Link;)V"⟩ : MethodName)) hown (mvT hZ (hw _ (List.mem_of_getElem? (i := 50) rfl))) (mvT hZ (hw _ (List.mem_of_getElem? (i := 51) rfl))) (notFace_of_selects (args := #[]) (mvT hZ (hw _ (List.mem_of_getElem? (i := 53) rfl)))) (mvT hZ (hw _ (List.mem_of_getElem? (i := 53) rfl))) (mvT hZ (hw _ (List.mem_of_getElem? (i := 52) rfl))) (by decide) (backOf (W := 0) (rm8 l Z a0 hw [] 5 ad own_K b1 own_b17 own_a18 own_n19 own_w20 own_p16 4 0 3 T18.heap n0 S18.1 S18 sl wk (by decide) (by decide) (by decide) (own_wf1 (q := 1) (p := 0) (by decide) (by decide) (by decide) (by decide)) (by decide)) hZ (hw _ (List.mem_of_getElem? (i := 54) rfl)) (hw _ (List.mem_of_getElem? (i := 2) rfl)) (by decide) (by decide)) q20a q20c (g := (mkF m 324 #[.val (.int p0), .val (.int p1), .val (.ref b1), .val (.ref (ad 1)), .val (.ref (ad 2)), .val (.ref (ad 3)), .val (.ref (ad 4)), .val (.ref (ad 0)), .val (.int ((p0 &&& (2147483647 : Int32)) % (3 : Int32))), .val (.int ((p1 &&& (2147483647 : Int32)) % (3 : Int32))), .val (.ref (ad 1)), .val (.ref (ad 1)), .val (.int (1 : Int32))] [(.ref (ad 0)), (.ref (ad 4)), (.ref b1)])) rfl (by rw [hml]; rfl) (Steps.refl _) (argsL := [(.ref (ad 4)), (.ref (ad 0))]) (rest := []) (lenOf pd__Lcom_example_brazier_brazier_keyspace_ChangeOrder_Place_Lcom_example_brazier_brazier_keyspace_ChangeOrder_Link__V rfl) rfl (by show 2 * 0 + _ ≤ _; exact Nat.le_of_eq rfl) (hb hby at_324) (fun _ _ => ⟨rfl, e19, (by decide : 6 + 0 ≤ _), (by decide : 18 + 0 ≤ _)⟩)
      dsimp only [Pt.U, Pt.locs, Pt.cells, Pt.slots] at X20 l20 y20 z20 st20 hQ20
      subst l20 y20 z20
      obtain ⟨rfl, N20q, S20q⟩ := hQ20
      have N20 := Fr.app N19 N20q
      refine own_by (fun _ k => st20.trans k) ?_
      have S20 : own_S Z T20.heap n0 5 ad own_K b1 own_b21 own_a22 own_n23 own_w20 own_p24 := S20q
      show own_Fin p.tables e below _ (T20.setTop (mkF m 327 #[.val (.int p0), .val (.int p1), .val (.ref b1), .val (.ref (ad 1)), .val (.ref (ad 2)), .val (.ref (ad 3)), .val (.ref (ad 4)), .val (.ref (ad 0)), .val (.int ((p0 &&& (2147483647 : Int32)) % (3 : Int32))), .val (.int ((p1 &&& (2147483647 : Int32)) % (3 : Int32))), .val (.ref (ad 1)), .val (.ref (ad 1)), .val (.int (1 : Int32))] []))
      refine own_by (fun _ k => XS.aloadN X20.here hx rfl (hb hby at_327) rfl rfl k) ?_
      show own_Fin p.tables e below _ (T20.setTop (mkF m 328 #[.val (.int p0), .val (.int p1), .val (.ref b1), .val (.ref (ad 1)), .val (.ref (ad 2)), .val (.ref (ad 3)), .val (.ref (ad 4)), .val (.ref (ad 0)), .val (.int ((p0 &&& (2147483647 : Int32)) % (3 : Int32))), .val (.int ((p1 &&& (2147483647 : Int32)) % (3 : Int32))), .val (.ref (ad 1)), .val (.ref (ad 1)), .val (.int (1 : Int32))] [(.ref b1)]))
      refine own_by (fun _ k => XS.aload X20.here hx rfl (hb hby at_328) rfl rfl k) ?_
      show own_Fin p.tables e below _ (T20.setTop (mkF m 330 #[.val (.int p0), .val (.int p1), .val (.ref b1), .val (.ref (ad 1)), .val (.ref (ad 2)), .val (.ref (ad 3)), .val (.ref (ad 4)), .val (.ref (ad 0)), .val (.int ((p0 &&& (2147483647 : Int32)) % (3 : Int32))), .val (.int ((p1 &&& (2147483647 : Int32)) % (3 : Int32))), .val (.ref (ad 1)), .val (.ref (ad 1)), .val (.int (1 : Int32))] [(.ref (ad 3)), (.ref b1)]))
      obtain ⟨cq21, kq21, q21a, q21b, q21c⟩ := isOf hZ rfl S20.2.2.1
      obtain ⟨_, _, ⟨T21, L21, k21, n21⟩, -, X21, ⟨Lc21, hQ21, l21, y21, z21⟩, st21⟩ := X20.virtualBack hx (y := (⟨"com/example/brazier/brazier/keyspace/ChangeOrder", "changed", "(Lcom/example/brazier/brazier/keyspace/ChangeOrder$Link;)V"⟩ : MethodName)) (z := (⟨"com/example/brazier/brazier/keyspace/ChangeOrder", "changed", "(Lcom/example/brazier/brazier/keyspace/ChangeOrder$Link;)V"⟩ : MethodName)) hown (mvT hZ (hw _ (List.mem_of_getElem? (i := 75) rfl))) (mvT hZ (hw _ (List.mem_of_getElem? (i := 76) rfl))) (notFace_of_selects (args := #[]) (mvT hZ (hw _ (List.mem_of_getElem? (i := 78) rfl)))) (mvT hZ (hw _ (List.mem_of_getElem? (i := 78) rfl))) (mvT hZ (hw _ (List.mem_of_getElem? (i := 77) rfl))) (by decide) (backOf (W := 0) (rm13 l Z a0 hw [] 5 ad own_K b1 own_b21 own_a22 own_n23 own_w20 own_p24 3 4 T20.heap n0 S20.1 S20 sl wk (by decide) (by decide) (by decide) (fun _ => ⟨(own_wf1 (q := 4) (p := 2) (by decide) (by decide) (by decide) (by decide)), by decide⟩)) hZ (hw _ (List.mem_of_getElem? (i := 79) rfl)) (hw _ (List.mem_of_getElem? (i := 2) rfl)) (by decide) (by decide)) q21a q21c (g := (mkF m 330 #[.val (.int p0), .val (.int p1), .val (.ref b1), .val (.ref (ad 1)), .val (.ref (ad 2)), .val (.ref (ad 3)), .val (.ref (ad 4)), .val (.ref (ad 0)), .val (.int ((p0 &&& (2147483647 : Int32)) % (3 : Int32))), .val (.int ((p1 &&& (2147483647 : Int32)) % (3 : Int32))), .val (.ref (ad 1)), .val (.ref (ad 1)), .val (.int (1 : Int32))] [(.ref (ad 3)), (.ref b1)])) rfl (by rw [hml]; rfl) (Steps.refl _) (argsL := [(.ref (ad 3))]) (rest := []) (lenOf pd__Lcom_example_brazier_brazier_keyspace_ChangeOrder_Link__V rfl) rfl (by show 2 * 0 + _ ≤ _; exact Nat.le_of_eq rfl) (hb hby at_330) (fun _ _ => ⟨rfl, rfl, (by decide : 6 + 0 ≤ _), (by decide : 18 + 0 ≤ _)⟩)
      dsimp only [Pt.U, Pt.locs, Pt.cells, Pt.slots] at X21 l21 y21 z21 st21 hQ21
      subst l21 y21 z21
      obtain ⟨rfl, N21q, S21q⟩ := hQ21
      have N21 := Fr.app N20 N21q
      refine own_by (fun _ k => st21.trans k) ?_
      have S21 : own_S Z T21.heap n0 5 ad own_K b1 own_b25 own_a26 own_n27 own_w28 own_p24 := S21q
      show own_Fin p.tables e below _ (T21.setTop (mkF m 333 #[.val (.int p0), .val (.int p1), .val (.ref b1), .val (.ref (ad 1)), .val (.ref (ad 2)), .val (.ref (ad 3)), .val (.ref (ad 4)), .val (.ref (ad 0)), .val (.int ((p0 &&& (2147483647 : Int32)) % (3 : Int32))), .val (.int ((p1 &&& (2147483647 : Int32)) % (3 : Int32))), .val (.ref (ad 1)), .val (.ref (ad 1)), .val (.int (1 : Int32))] []))
      refine own_by (fun _ k => XS.aloadN X21.here hx rfl (hb hby at_333) rfl rfl k) ?_
      show own_Fin p.tables e below _ (T21.setTop (mkF m 334 #[.val (.int p0), .val (.int p1), .val (.ref b1), .val (.ref (ad 1)), .val (.ref (ad 2)), .val (.ref (ad 3)), .val (.ref (ad 4)), .val (.ref (ad 0)), .val (.int ((p0 &&& (2147483647 : Int32)) % (3 : Int32))), .val (.int ((p1 &&& (2147483647 : Int32)) % (3 : Int32))), .val (.ref (ad 1)), .val (.ref (ad 1)), .val (.int (1 : Int32))] [(.ref b1)]))
      refine own_by (fun _ k => XS.aload X21.here hx rfl (hb hby at_334) rfl rfl k) ?_
      show own_Fin p.tables e below _ (T21.setTop (mkF m 336 #[.val (.int p0), .val (.int p1), .val (.ref b1), .val (.ref (ad 1)), .val (.ref (ad 2)), .val (.ref (ad 3)), .val (.ref (ad 4)), .val (.ref (ad 0)), .val (.int ((p0 &&& (2147483647 : Int32)) % (3 : Int32))), .val (.int ((p1 &&& (2147483647 : Int32)) % (3 : Int32))), .val (.ref (ad 1)), .val (.ref (ad 1)), .val (.int (1 : Int32))] [(.ref (ad 4)), (.ref b1)]))
      obtain ⟨cq22, kq22, q22a, q22b, q22c⟩ := isOf hZ rfl S21.2.2.1
      obtain ⟨_, _, ⟨T22, L22, k22, n22⟩, -, X22, ⟨Lc22, hQ22, l22, y22, z22⟩, st22⟩ := X21.virtualBack hx (y := (⟨"com/example/brazier/brazier/keyspace/ChangeOrder", "after", "(Lcom/example/brazier/brazier/keyspace/ChangeOrder$Link;)Lcom/example/brazier/brazier/keyspace/ChangeOrder$Link;"⟩ : MethodName)) (z := (⟨"com/example/brazier/brazier/keyspace/ChangeOrder", "after", "(Lcom/example/brazier/brazier/keyspace/ChangeOrder$Link;)Lcom/example/brazier/brazier/keyspace/ChangeOrder$Link;"⟩ : MethodName)) hown (mvT hZ (hw _ (List.mem_of_getElem? (i := 44) rfl))) (mvT hZ (hw _ (List.mem_of_getElem? (i := 45) rfl))) (notFace_of_selects (args := #[]) (mvT hZ (hw _ (List.mem_of_getElem? (i := 47) rfl)))) (mvT hZ (hw _ (List.mem_of_getElem? (i := 47) rfl))) (mvT hZ (hw _ (List.mem_of_getElem? (i := 46) rfl))) (by decide) (backOf (W := 0) (rm7 l Z a0 hw [] 5 ad own_K b1 own_b25 own_a26 own_n27 own_w28 own_p24 4 T21.heap n0 S21.1 S21 sl wk (by decide)) hZ (hw _ (List.mem_of_getElem? (i := 48) rfl)) (hw _ (List.mem_of_getElem? (i := 2) rfl)) (by decide) (by decide)) q22a q22c (g := (mkF m 336 #[.val (.int p0), .val (.int p1), .val (.ref b1), .val (.ref (ad 1)), .val (.ref (ad 2)), .val (.ref (ad 3)), .val (.ref (ad 4)), .val (.ref (ad 0)), .val (.int ((p0 &&& (2147483647 : Int32)) % (3 : Int32))), .val (.int ((p1 &&& (2147483647 : Int32)) % (3 : Int32))), .val (.ref (ad 1)), .val (.ref (ad 1)), .val (.int (1 : Int32))] [(.ref (ad 4)), (.ref b1)])) rfl (by rw [hml]; rfl) (Steps.refl _) (argsL := [(.ref (ad 4))]) (rest := []) (lenOf pd__Lcom_example_brazier_brazier_keyspace_ChangeOrder_Link__Lcom_example_brazier_brazier_keyspace_ChangeOrder_Link_ rfl) rfl (by show 2 * 0 + _ ≤ _; exact Nat.le_of_eq rfl) (hb hby at_336) (fun _ _ => ⟨rfl, rfl, (by decide : 6 + 0 ≤ _), (by decide : 18 + 0 ≤ _)⟩)
      dsimp only [Pt.U, Pt.locs, Pt.cells, Pt.slots] at X22 l22 y22 z22 st22 hQ22
      subst l22 y22 z22
      obtain ⟨hv22, N22q, e22⟩ := hQ22
      obtain rfl := hv22.trans (congrArg some (show own_nx ad (own_a26 4) = (.ref (ad 3)) from (by rw [show own_a26 4 = some 3 from by decide]; rfl)))
      have N22 := Fr.app N21 N22q
      refine own_by (fun _ k => st22.trans k) ?_
      show own_Fin p.tables e below _ (T22.setTop (mkF m 339 #[.val (.int p0), .val (.int p1), .val (.ref b1), .val (.ref (ad 1)), .val (.ref (ad 2)), .val (.ref (ad 3)), .val (.ref (ad 4)), .val (.ref (ad 0)), .val (.int ((p0 &&& (2147483647 : Int32)) % (3 : Int32))), .val (.int ((p1 &&& (2147483647 : Int32)) % (3 : Int32))), .val (.ref (ad 1)), .val (.ref (ad 1)), .val (.int (1 : Int32))] [(.ref (ad 3))]))
      refine own_by (fun _ k => XS.aload X22.here hx rfl (hb hby at_339) rfl rfl k) ?_
      show own_Fin p.tables e below _ (T22.setTop (mkF m 341 #[.val (.int p0), .val (.int p1), .val (.ref b1), .val (.ref (ad 1)), .val (.ref (ad 2)), .val (.ref (ad 3)), .val (.ref (ad 4)), .val (.ref (ad 0)), .val (.int ((p0 &&& (2147483647 : Int32)) % (3 : Int32))), .val (.int ((p1 &&& (2147483647 : Int32)) % (3 : Int32))), .val (.ref (ad 1)), .val (.ref (ad 1)), .val (.int (1 : Int32))] [(.ref (ad 3)), (.ref (ad 3))]))
      refine own_by (fun _ k => Jvm.RoadKit.acmp (g := (mkF m 341 #[.val (.int p0), .val (.int p1), .val (.ref b1), .val (.ref (ad 1)), .val (.ref (ad 2)), .val (.ref (ad 3)), .val (.ref (ad 4)), .val (.ref (ad 0)), .val (.int ((p0 &&& (2147483647 : Int32)) % (3 : Int32))), .val (.int ((p1 &&& (2147483647 : Int32)) % (3 : Int32))), .val (.ref (ad 1)), .val (.ref (ad 1)), .val (.int (1 : Int32))] [(.ref (ad 3)), (.ref (ad 3))])) X22 hx rfl rfl rfl (pc0 := 341) (pc' := 344) (same := true) rfl (hb hby at_341) rfl (decide_eq_true rfl) (by decide) (by decide) k) ?_
      show own_Fin p.tables e below _ (T22.setTop (mkF m 344 #[.val (.int p0), .val (.int p1), .val (.ref b1), .val (.ref (ad 1)), .val (.ref (ad 2)), .val (.ref (ad 3)), .val (.ref (ad 4)), .val (.ref (ad 0)), .val (.int ((p0 &&& (2147483647 : Int32)) % (3 : Int32))), .val (.int ((p1 &&& (2147483647 : Int32)) % (3 : Int32))), .val (.ref (ad 1)), .val (.ref (ad 1)), .val (.int (1 : Int32))] []))
      refine own_by (fun _ k => XS.aloadN X22.here hx rfl (hb hby at_344) rfl rfl k) ?_
      show own_Fin p.tables e below _ (T22.setTop (mkF m 345 #[.val (.int p0), .val (.int p1), .val (.ref b1), .val (.ref (ad 1)), .val (.ref (ad 2)), .val (.ref (ad 3)), .val (.ref (ad 4)), .val (.ref (ad 0)), .val (.int ((p0 &&& (2147483647 : Int32)) % (3 : Int32))), .val (.int ((p1 &&& (2147483647 : Int32)) % (3 : Int32))), .val (.ref (ad 1)), .val (.ref (ad 1)), .val (.int (1 : Int32))] [(.ref b1)]))
      refine own_by (fun _ k => XS.aload X22.here hx rfl (hb hby at_345) rfl rfl k) ?_
      show own_Fin p.tables e below _ (T22.setTop (mkF m 347 #[.val (.int p0), .val (.int p1), .val (.ref b1), .val (.ref (ad 1)), .val (.ref (ad 2)), .val (.ref (ad 3)), .val (.ref (ad 4)), .val (.ref (ad 0)), .val (.int ((p0 &&& (2147483647 : Int32)) % (3 : Int32))), .val (.int ((p1 &&& (2147483647 : Int32)) % (3 : Int32))), .val (.ref (ad 1)), .val (.ref (ad 1)), .val (.int (1 : Int32))] [(.ref (ad 3)), (.ref b1)]))
      obtain ⟨cq23, kq23, q23a, q23b, q23c⟩ := isOf hZ e22 S21.2.2.1
      obtain ⟨_, _, ⟨T23, L23, k23, n23⟩, -, X23, ⟨Lc23, hQ23, l23, y23, z23⟩, st23⟩ := X22.virtualBack hx (y := (⟨"com/example/brazier/brazier/keyspace/ChangeOrder", "after", "(Lcom/example/brazier/brazier/keyspace/ChangeOrder$Link;)Lcom/example/brazier/brazier/keyspace/ChangeOrder$Link;"⟩ : MethodName)) (z := (⟨"com/example/brazier/brazier/keyspace/ChangeOrder", "after", "(Lcom/example/brazier/brazier/keyspace/ChangeOrder$Link;)Lcom/example/brazier/brazier/keyspace/ChangeOrder$Link;"⟩ : MethodName)) hown (mvT hZ (hw _ (List.mem_of_getElem? (i := 44) rfl))) (mvT hZ (hw _ (List.mem_of_getElem? (i := 45) rfl))) (notFace_of_selects (args := #[]) (mvT hZ (hw _ (List.mem_of_getElem? (i := 47) rfl)))) (mvT hZ (hw _ (List.mem_of_getElem? (i := 47) rfl))) (mvT hZ (hw _ (List.mem_of_getElem? (i := 46) rfl))) (by decide) (backOf (W := 0) (rm7 l Z a0 hw [] 5 ad own_K b1 own_b25 own_a26 own_n27 own_w28 own_p24 3 T21.heap n0 S21.1 S21 sl wk (by decide)) hZ (hw _ (List.mem_of_getElem? (i := 48) rfl)) (hw _ (List.mem_of_getElem? (i := 2) rfl)) (by decide) (by decide)) q23a q23c (g := (mkF m 347 #[.val (.int p0), .val (.int p1), .val (.ref b1), .val (.ref (ad 1)), .val (.ref (ad 2)), .val (.ref (ad 3)), .val (.ref (ad 4)), .val (.ref (ad 0)), .val (.int ((p0 &&& (2147483647 : Int32)) % (3 : Int32))), .val (.int ((p1 &&& (2147483647 : Int32)) % (3 : Int32))), .val (.ref (ad 1)), .val (.ref (ad 1)), .val (.int (1 : Int32))] [(.ref (ad 3)), (.ref b1)])) rfl (by rw [hml]; rfl) (Steps.refl _) (argsL := [(.ref (ad 3))]) (rest := []) (lenOf pd__Lcom_example_brazier_brazier_keyspace_ChangeOrder_Link__Lcom_example_brazier_brazier_keyspace_ChangeOrder_Link_ rfl) rfl (by show 2 * 0 + _ ≤ _; exact Nat.le_of_eq rfl) (hb hby at_347) (fun _ _ => ⟨rfl, e22, (by decide : 6 + 0 ≤ _), (by decide : 18 + 0 ≤ _)⟩)
      dsimp only [Pt.U, Pt.locs, Pt.cells, Pt.slots] at X23 l23 y23 z23 st23 hQ23
      subst l23 y23 z23
      obtain ⟨hv23, N23q, e23⟩ := hQ23
      obtain rfl := hv23.trans (congrArg some (show own_nx ad (own_a26 3) = (.ref (ad 0)) from (by rw [show own_a26 3 = some 0 from by decide]; rfl)))
      have N23 := Fr.app N22 N23q
      refine own_by (fun _ k => st23.trans k) ?_
      show own_Fin p.tables e below _ (T23.setTop (mkF m 350 #[.val (.int p0), .val (.int p1), .val (.ref b1), .val (.ref (ad 1)), .val (.ref (ad 2)), .val (.ref (ad 3)), .val (.ref (ad 4)), .val (.ref (ad 0)), .val (.int ((p0 &&& (2147483647 : Int32)) % (3 : Int32))), .val (.int ((p1 &&& (2147483647 : Int32)) % (3 : Int32))), .val (.ref (ad 1)), .val (.ref (ad 1)), .val (.int (1 : Int32))] [(.ref (ad 0))]))
      refine own_by (fun _ k => XS.aload X23.here hx rfl (hb hby at_350) rfl rfl k) ?_
      show own_Fin p.tables e below _ (T23.setTop (mkF m 352 #[.val (.int p0), .val (.int p1), .val (.ref b1), .val (.ref (ad 1)), .val (.ref (ad 2)), .val (.ref (ad 3)), .val (.ref (ad 4)), .val (.ref (ad 0)), .val (.int ((p0 &&& (2147483647 : Int32)) % (3 : Int32))), .val (.int ((p1 &&& (2147483647 : Int32)) % (3 : Int32))), .val (.ref (ad 1)), .val (.ref (ad 1)), .val (.int (1 : Int32))] [(.ref (ad 0)), (.ref (ad 0))]))
      refine own_by (fun _ k => Jvm.RoadKit.acmp (g := (mkF m 352 #[.val (.int p0), .val (.int p1), .val (.ref b1), .val (.ref (ad 1)), .val (.ref (ad 2)), .val (.ref (ad 3)), .val (.ref (ad 4)), .val (.ref (ad 0)), .val (.int ((p0 &&& (2147483647 : Int32)) % (3 : Int32))), .val (.int ((p1 &&& (2147483647 : Int32)) % (3 : Int32))), .val (.ref (ad 1)), .val (.ref (ad 1)), .val (.int (1 : Int32))] [(.ref (ad 0)), (.ref (ad 0))])) X23 hx rfl rfl rfl (pc0 := 352) (pc' := 355) (same := true) rfl (hb hby at_352) rfl (decide_eq_true rfl) (by decide) (by decide) k) ?_
      show own_Fin p.tables e below _ (T23.setTop (mkF m 355 #[.val (.int p0), .val (.int p1), .val (.ref b1), .val (.ref (ad 1)), .val (.ref (ad 2)), .val (.ref (ad 3)), .val (.ref (ad 4)), .val (.ref (ad 0)), .val (.int ((p0 &&& (2147483647 : Int32)) % (3 : Int32))), .val (.int ((p1 &&& (2147483647 : Int32)) % (3 : Int32))), .val (.ref (ad 1)), .val (.ref (ad 1)), .val (.int (1 : Int32))] []))
      refine own_by (fun _ k => XS.iconst X23.here hx rfl (hb hby at_355) k) ?_
      show own_Fin p.tables e below _ (T23.setTop (mkF m 356 #[.val (.int p0), .val (.int p1), .val (.ref b1), .val (.ref (ad 1)), .val (.ref (ad 2)), .val (.ref (ad 3)), .val (.ref (ad 4)), .val (.ref (ad 0)), .val (.int ((p0 &&& (2147483647 : Int32)) % (3 : Int32))), .val (.int ((p1 &&& (2147483647 : Int32)) % (3 : Int32))), .val (.ref (ad 1)), .val (.ref (ad 1)), .val (.int (1 : Int32))] [(.int (1 : Int32))]))
      refine own_by (fun _ k => XS.goto X23.here hx rfl (pc0 := 356) (pc' := 360) rfl (hb hby at_356) (by decide) (by decide) k) ?_
      show own_Fin p.tables e below _ (T23.setTop (mkF m 360 #[.val (.int p0), .val (.int p1), .val (.ref b1), .val (.ref (ad 1)), .val (.ref (ad 2)), .val (.ref (ad 3)), .val (.ref (ad 4)), .val (.ref (ad 0)), .val (.int ((p0 &&& (2147483647 : Int32)) % (3 : Int32))), .val (.int ((p1 &&& (2147483647 : Int32)) % (3 : Int32))), .val (.ref (ad 1)), .val (.ref (ad 1)), .val (.int (1 : Int32))] [(.int (1 : Int32))]))
      have ef : f0 p0 p1 = (1 : Int32) := by unfold f0; rw [if_pos hc15, if_pos hc16]
      exact own_retN X23 hx (t := .boolean) Bd.returns hlk (by simp) (hb hby at_360) (by decide) (by decide) ⟨by rw [ef]; rfl, N23⟩
    · refine own_by (fun _ k => XS.ifYes X14.here hx rfl (pc0 := 144) (pc' := 151) rfl (hb hby at_144) rfl ((if0 _ _).trans (feq hc16).2) (by decide) (by decide) k) ?_
      show own_Fin p.tables e below _ (T14.setTop (mkF m 151 #[.val (.int p0), .val (.int p1), .val (.ref b1), .val (.ref (ad 1)), .val (.ref (ad 2)), .val (.ref (ad 3)), .val (.ref (ad 4)), .val (.ref (ad 0)), .val (.int ((p0 &&& (2147483647 : Int32)) % (3 : Int32))), .val (.int ((p1 &&& (2147483647 : Int32)) % (3 : Int32))), .val (.ref (ad 1)), .unset, .unset] []))
      refine own_by (fun _ k => XS.iload X14.here hx rfl (hb hby at_151) rfl k) ?_
      show own_Fin p.tables e below _ (T14.setTop (mkF m 153 #[.val (.int p0), .val (.int p1), .val (.ref b1), .val (.ref (ad 1)), .val (.ref (ad 2)), .val (.ref (ad 3)), .val (.ref (ad 4)), .val (.ref (ad 0)), .val (.int ((p0 &&& (2147483647 : Int32)) % (3 : Int32))), .val (.int ((p1 &&& (2147483647 : Int32)) % (3 : Int32))), .val (.ref (ad 1)), .unset, .unset] [(.int ((p1 &&& (2147483647 : Int32)) % (3 : Int32)))]))
      refine own_by (fun _ k => XS.iconst X14.here hx rfl (hb hby at_153) k) ?_
      show own_Fin p.tables e below _ (T14.setTop (mkF m 154 #[.val (.int p0), .val (.int p1), .val (.ref b1), .val (.ref (ad 1)), .val (.ref (ad 2)), .val (.ref (ad 3)), .val (.ref (ad 4)), .val (.ref (ad 0)), .val (.int ((p0 &&& (2147483647 : Int32)) % (3 : Int32))), .val (.int ((p1 &&& (2147483647 : Int32)) % (3 : Int32))), .val (.ref (ad 1)), .unset, .unset] [(.int (1 : Int32)), (.int ((p1 &&& (2147483647 : Int32)) % (3 : Int32)))]))
      by_cases hc24 : ((p1 &&& (2147483647 : Int32)) % (3 : Int32)) = (1 : Int32)
      · refine own_by (fun _ k => XS.icmpNo X14.here hx rfl (hb hby at_154) rfl (teq hc24).2 k) ?_
        show own_Fin p.tables e below _ (T14.setTop (mkF m 157 #[.val (.int p0), .val (.int p1), .val (.ref b1), .val (.ref (ad 1)), .val (.ref (ad 2)), .val (.ref (ad 3)), .val (.ref (ad 4)), .val (.ref (ad 0)), .val (.int ((p0 &&& (2147483647 : Int32)) % (3 : Int32))), .val (.int ((p1 &&& (2147483647 : Int32)) % (3 : Int32))), .val (.ref (ad 1)), .unset, .unset] []))
        refine own_by (fun _ k => XS.aload X14.here hx rfl (hb hby at_157) rfl rfl k) ?_
        show own_Fin p.tables e below _ (T14.setTop (mkF m 159 #[.val (.int p0), .val (.int p1), .val (.ref b1), .val (.ref (ad 1)), .val (.ref (ad 2)), .val (.ref (ad 3)), .val (.ref (ad 4)), .val (.ref (ad 0)), .val (.int ((p0 &&& (2147483647 : Int32)) % (3 : Int32))), .val (.int ((p1 &&& (2147483647 : Int32)) % (3 : Int32))), .val (.ref (ad 1)), .unset, .unset] [(.ref (ad 2))]))
        refine own_by (fun _ k => XS.goto X14.here hx rfl (pc0 := 159) (pc' := 164) rfl (hb hby at_159) (by decide) (by decide) k) ?_
        show own_Fin p.tables e below _ (T14.setTop (mkF m 164 #[.val (.int p0), .val (.int p1), .val (.ref b1), .val (.ref (ad 1)), .val (.ref (ad 2)), .val (.ref (ad 3)), .val (.ref (ad 4)), .val (.ref (ad 0)), .val (.int ((p0 &&& (2147483647 : Int32)) % (3 : Int32))), .val (.int ((p1 &&& (2147483647 : Int32)) % (3 : Int32))), .val (.ref (ad 1)), .unset, .unset] [(.ref (ad 2))]))
        refine own_by (fun _ k => XS.astore X14.here hx rfl (hb hby at_164) rfl rfl (l' := #[.val (.int p0), .val (.int p1), .val (.ref b1), .val (.ref (ad 1)), .val (.ref (ad 2)), .val (.ref (ad 3)), .val (.ref (ad 4)), .val (.ref (ad 0)), .val (.int ((p0 &&& (2147483647 : Int32)) % (3 : Int32))), .val (.int ((p1 &&& (2147483647 : Int32)) % (3 : Int32))), .val (.ref (ad 1)), .val (.ref (ad 2)), .unset]) rfl k) ?_
        show own_Fin p.tables e below _ (T14.setTop (mkF m 166 #[.val (.int p0), .val (.int p1), .val (.ref b1), .val (.ref (ad 1)), .val (.ref (ad 2)), .val (.ref (ad 3)), .val (.ref (ad 4)), .val (.ref (ad 0)), .val (.int ((p0 &&& (2147483647 : Int32)) % (3 : Int32))), .val (.int ((p1 &&& (2147483647 : Int32)) % (3 : Int32))), .val (.ref (ad 1)), .val (.ref (ad 2)), .unset] []))
        refine own_by (fun _ k => XS.aloadN X14.here hx rfl (hb hby at_166) rfl rfl k) ?_
        show own_Fin p.tables e below _ (T14.setTop (mkF m 167 #[.val (.int p0), .val (.int p1), .val (.ref b1), .val (.ref (ad 1)), .val (.ref (ad 2)), .val (.ref (ad 3)), .val (.ref (ad 4)), .val (.ref (ad 0)), .val (.int ((p0 &&& (2147483647 : Int32)) % (3 : Int32))), .val (.int ((p1 &&& (2147483647 : Int32)) % (3 : Int32))), .val (.ref (ad 1)), .val (.ref (ad 2)), .unset] [(.ref b1)]))
        refine own_by (fun _ k => XS.aload X14.here hx rfl (hb hby at_167) rfl rfl k) ?_
        show own_Fin p.tables e below _ (T14.setTop (mkF m 169 #[.val (.int p0), .val (.int p1), .val (.ref b1), .val (.ref (ad 1)), .val (.ref (ad 2)), .val (.ref (ad 3)), .val (.ref (ad 4)), .val (.ref (ad 0)), .val (.int ((p0 &&& (2147483647 : Int32)) % (3 : Int32))), .val (.int ((p1 &&& (2147483647 : Int32)) % (3 : Int32))), .val (.ref (ad 1)), .val (.ref (ad 2)), .unset] [(.ref (ad 4)), (.ref b1)]))
        refine own_by (fun _ k => XS.aload X14.here hx rfl (hb hby at_169) rfl rfl k) ?_
        show own_Fin p.tables e below _ (T14.setTop (mkF m 171 #[.val (.int p0), .val (.int p1), .val (.ref b1), .val (.ref (ad 1)), .val (.ref (ad 2)), .val (.ref (ad 3)), .val (.ref (ad 4)), .val (.ref (ad 0)), .val (.int ((p0 &&& (2147483647 : Int32)) % (3 : Int32))), .val (.int ((p1 &&& (2147483647 : Int32)) % (3 : Int32))), .val (.ref (ad 1)), .val (.ref (ad 2)), .unset] [(.ref (ad 1)), (.ref (ad 4)), (.ref b1)]))
        obtain ⟨cq25, kq25, q25a, q25b, q25c⟩ := isOf hZ e14 S13.2.2.1
        obtain ⟨_, _, ⟨T25, L25, k25, n25⟩, -, X25, ⟨Lc25, hQ25, l25, y25, z25⟩, st25⟩ := X14.virtualBack hx (y := (⟨"com/example/brazier/brazier/keyspace/ChangeOrder", "passTo", "(Lcom/example/brazier/brazier/keyspace/ChangeOrder$Place;Lcom/example/brazier/brazier/keyspace/ChangeOrder$Link;)V"⟩ : MethodName)) (z := (⟨"com/example/brazier/brazier/keyspace/ChangeOrder", "passTo", "(Lcom/example/brazier/brazier/keyspace/ChangeOrder$Place;Lcom/example/brazier/brazier/keyspace/ChangeOrder$Link;)V"⟩ : MethodName)) hown (mvT hZ (hw _ (List.mem_of_getElem? (i := 50) rfl))) (mvT hZ (hw _ (List.mem_of_getElem? (i := 51) rfl))) (notFace_of_selects (args := #[]) (mvT hZ (hw _ (List.mem_of_getElem? (i := 53) rfl)))) (mvT hZ (hw _ (List.mem_of_getElem? (i := 53) rfl))) (mvT hZ (hw _ (List.mem_of_getElem? (i := 52) rfl))) (by decide) (backOf (W := 0) (rm8 l Z a0 hw [] 5 ad own_K b1 own_b9 own_a10 own_n11 own_w12 own_w0 4 1 0 T13.heap n0 S13.1 S13 sl wk (by decide) (by decide) (by decide) (own_wf0 (by decide)) (by decide)) hZ (hw _ (List.mem_of_getElem? (i := 54) rfl)) (hw _ (List.mem_of_getElem? (i := 2) rfl)) (by decide) (by decide)) q25a q25c (g := (mkF m 171 #[.val (.int p0), .val (.int p1), .val (.ref b1), .val (.ref (ad 1)), .val (.ref (ad 2)), .val (.ref (ad 3)), .val (.ref (ad 4)), .val (.ref (ad 0)), .val (.int ((p0 &&& (2147483647 : Int32)) % (3 : Int32))), .val (.int ((p1 &&& (2147483647 : Int32)) % (3 : Int32))), .val (.ref (ad 1)), .val (.ref (ad 2)), .unset] [(.ref (ad 1)), (.ref (ad 4)), (.ref b1)])) rfl (by rw [hml]; rfl) (Steps.refl _) (argsL := [(.ref (ad 4)), (.ref (ad 1))]) (rest := []) (lenOf pd__Lcom_example_brazier_brazier_keyspace_ChangeOrder_Place_Lcom_example_brazier_brazier_keyspace_ChangeOrder_Link__V rfl) rfl (by show 2 * 0 + _ ≤ _; exact Nat.le_of_eq rfl) (hb hby at_171) (fun _ _ => ⟨rfl, e14, (by decide : 6 + 0 ≤ _), (by decide : 18 + 0 ≤ _)⟩)
        dsimp only [Pt.U, Pt.locs, Pt.cells, Pt.slots] at X25 l25 y25 z25 st25 hQ25
        subst l25 y25 z25
        obtain ⟨rfl, N25q, S25q⟩ := hQ25
        have N25 := Fr.app N14 N25q
        refine own_by (fun _ k => st25.trans k) ?_
        have S25 : own_S Z T25.heap n0 5 ad own_K b1 own_b13 own_a14 own_n15 own_w12 own_p16 := S25q
        show own_Fin p.tables e below _ (T25.setTop (mkF m 174 #[.val (.int p0), .val (.int p1), .val (.ref b1), .val (.ref (ad 1)), .val (.ref (ad 2)), .val (.ref (ad 3)), .val (.ref (ad 4)), .val (.ref (ad 0)), .val (.int ((p0 &&& (2147483647 : Int32)) % (3 : Int32))), .val (.int ((p1 &&& (2147483647 : Int32)) % (3 : Int32))), .val (.ref (ad 1)), .val (.ref (ad 2)), .unset] []))
        refine own_by (fun _ k => XS.aloadN X25.here hx rfl (hb hby at_174) rfl rfl k) ?_
        show own_Fin p.tables e below _ (T25.setTop (mkF m 175 #[.val (.int p0), .val (.int p1), .val (.ref b1), .val (.ref (ad 1)), .val (.ref (ad 2)), .val (.ref (ad 3)), .val (.ref (ad 4)), .val (.ref (ad 0)), .val (.int ((p0 &&& (2147483647 : Int32)) % (3 : Int32))), .val (.int ((p1 &&& (2147483647 : Int32)) % (3 : Int32))), .val (.ref (ad 1)), .val (.ref (ad 2)), .unset] [(.ref b1)]))
        refine own_by (fun _ k => XS.aload X25.here hx rfl (hb hby at_175) rfl rfl k) ?_
        show own_Fin p.tables e below _ (T25.setTop (mkF m 177 #[.val (.int p0), .val (.int p1), .val (.ref b1), .val (.ref (ad 1)), .val (.ref (ad 2)), .val (.ref (ad 3)), .val (.ref (ad 4)), .val (.ref (ad 0)), .val (.int ((p0 &&& (2147483647 : Int32)) % (3 : Int32))), .val (.int ((p1 &&& (2147483647 : Int32)) % (3 : Int32))), .val (.ref (ad 1)), .val (.ref (ad 2)), .unset] [(.ref (ad 2)), (.ref b1)]))
        obtain ⟨cq26, kq26, q26a, q26b, q26c⟩ := isOf hZ rfl S25.2.2.1
        obtain ⟨_, _, ⟨T26, L26, k26, n26⟩, -, X26, ⟨Lc26, hQ26, l26, y26, z26⟩, st26⟩ := X25.virtualBack hx (y := (⟨"com/example/brazier/brazier/keyspace/ChangeOrder", "changed", "(Lcom/example/brazier/brazier/keyspace/ChangeOrder$Link;)V"⟩ : MethodName)) (z := (⟨"com/example/brazier/brazier/keyspace/ChangeOrder", "changed", "(Lcom/example/brazier/brazier/keyspace/ChangeOrder$Link;)V"⟩ : MethodName)) hown (mvT hZ (hw _ (List.mem_of_getElem? (i := 75) rfl))) (mvT hZ (hw _ (List.mem_of_getElem? (i := 76) rfl))) (notFace_of_selects (args := #[]) (mvT hZ (hw _ (List.mem_of_getElem? (i := 78) rfl)))) (mvT hZ (hw _ (List.mem_of_getElem? (i := 78) rfl))) (mvT hZ (hw _ (List.mem_of_getElem? (i := 77) rfl))) (by decide) (backOf (W := 0) (rm13 l Z a0 hw [] 5 ad own_K b1 own_b13 own_a14 own_n15 own_w12 own_p16 2 3 T25.heap n0 S25.1 S25 sl wk (by decide) (by decide) (by decide) (fun q => absurd (by decide) q)) hZ (hw _ (List.mem_of_getElem? (i := 79) rfl)) (hw _ (List.mem_of_getElem? (i := 2) rfl)) (by decide) (by decide)) q26a q26c (g := (mkF m 177 #[.val (.int p0), .val (.int p1), .val (.ref b1), .val (.ref (ad 1)), .val (.ref (ad 2)), .val (.ref (ad 3)), .val (.ref (ad 4)), .val (.ref (ad 0)), .val (.int ((p0 &&& (2147483647 : Int32)) % (3 : Int32))), .val (.int ((p1 &&& (2147483647 : Int32)) % (3 : Int32))), .val (.ref (ad 1)), .val (.ref (ad 2)), .unset] [(.ref (ad 2)), (.ref b1)])) rfl (by rw [hml]; rfl) (Steps.refl _) (argsL := [(.ref (ad 2))]) (rest := []) (lenOf pd__Lcom_example_brazier_brazier_keyspace_ChangeOrder_Link__V rfl) rfl (by show 2 * 0 + _ ≤ _; exact Nat.le_of_eq rfl) (hb hby at_177) (fun _ _ => ⟨rfl, rfl, (by decide : 6 + 0 ≤ _), (by decide : 18 + 0 ≤ _)⟩)
        dsimp only [Pt.U, Pt.locs, Pt.cells, Pt.slots] at X26 l26 y26 z26 st26 hQ26
        subst l26 y26 z26
        obtain ⟨rfl, N26q, S26q⟩ := hQ26
        have N26 := Fr.app N25 N26q
        refine own_by (fun _ k => st26.trans k) ?_
        have S26 : own_S Z T26.heap n0 5 ad own_K b1 own_b29 own_a30 own_n31 own_w32 own_p16 := S26q
        show own_Fin p.tables e below _ (T26.setTop (mkF m 180 #[.val (.int p0), .val (.int p1), .val (.ref b1), .val (.ref (ad 1)), .val (.ref (ad 2)), .val (.ref (ad 3)), .val (.ref (ad 4)), .val (.ref (ad 0)), .val (.int ((p0 &&& (2147483647 : Int32)) % (3 : Int32))), .val (.int ((p1 &&& (2147483647 : Int32)) % (3 : Int32))), .val (.ref (ad 1)), .val (.ref (ad 2)), .unset] []))
        refine own_by (fun _ k => XS.iload X26.here hx rfl (hb hby at_180) rfl k) ?_
        show own_Fin p.tables e below _ (T26.setTop (mkF m 182 #[.val (.int p0), .val (.int p1), .val (.ref b1), .val (.ref (ad 1)), .val (.ref (ad 2)), .val (.ref (ad 3)), .val (.ref (ad 4)), .val (.ref (ad 0)), .val (.int ((p0 &&& (2147483647 : Int32)) % (3 : Int32))), .val (.int ((p1 &&& (2147483647 : Int32)) % (3 : Int32))), .val (.ref (ad 1)), .val (.ref (ad 2)), .unset] [(.int ((p0 &&& (2147483647 : Int32)) % (3 : Int32)))]))
        refine own_by (fun _ k => XS.ifNo X26.here hx rfl (hb hby at_182) rfl ((if0 _ _).trans (teq hc15).2) k) ?_
        show own_Fin p.tables e below _ (T26.setTop (mkF m 185 #[.val (.int p0), .val (.int p1), .val (.ref b1), .val (.ref (ad 1)), .val (.ref (ad 2)), .val (.ref (ad 3)), .val (.ref (ad 4)), .val (.ref (ad 0)), .val (.int ((p0 &&& (2147483647 : Int32)) % (3 : Int32))), .val (.int ((p1 &&& (2147483647 : Int32)) % (3 : Int32))), .val (.ref (ad 1)), .val (.ref (ad 2)), .unset] []))
        refine own_by (fun _ k => XS.aloadN X26.here hx rfl (hb hby at_185) rfl rfl k) ?_
        show own_Fin p.tables e below _ (T26.setTop (mkF m 186 #[.val (.int p0), .val (.int p1), .val (.ref b1), .val (.ref (ad 1)), .val (.ref (ad 2)), .val (.ref (ad 3)), .val (.ref (ad 4)), .val (.ref (ad 0)), .val (.int ((p0 &&& (2147483647 : Int32)) % (3 : Int32))), .val (.int ((p1 &&& (2147483647 : Int32)) % (3 : Int32))), .val (.ref (ad 1)), .val (.ref (ad 2)), .unset] [(.ref b1)]))
        refine own_by (fun _ k => XS.aload X26.here hx rfl (hb hby at_186) rfl rfl k) ?_
        show own_Fin p.tables e below _ (T26.setTop (mkF m 188 #[.val (.int p0), .val (.int p1), .val (.ref b1), .val (.ref (ad 1)), .val (.ref (ad 2)), .val (.ref (ad 3)), .val (.ref (ad 4)), .val (.ref (ad 0)), .val (.int ((p0 &&& (2147483647 : Int32)) % (3 : Int32))), .val (.int ((p1 &&& (2147483647 : Int32)) % (3 : Int32))), .val (.ref (ad 1)), .val (.ref (ad 2)), .unset] [(.ref (ad 0)), (.ref b1)]))
        refine own_by (fun _ k => XS.aload X26.here hx rfl (hb hby at_188) rfl rfl k) ?_
        show own_Fin p.tables e below _ (T26.setTop (mkF m 190 #[.val (.int p0), .val (.int p1), .val (.ref b1), .val (.ref (ad 1)), .val (.ref (ad 2)), .val (.ref (ad 3)), .val (.ref (ad 4)), .val (.ref (ad 0)), .val (.int ((p0 &&& (2147483647 : Int32)) % (3 : Int32))), .val (.int ((p1 &&& (2147483647 : Int32)) % (3 : Int32))), .val (.ref (ad 1)), .val (.ref (ad 2)), .unset] [(.ref (ad 4)), (.ref (ad 0)), (.ref b1)]))
        refine own_by (fun _ k => XS.aloadN X26.here hx rfl (hb hby at_190) rfl rfl k) ?_
        show own_Fin p.tables e below _ (T26.setTop (mkF m 191 #[.val (.int p0), .val (.int p1), .val (.ref b1), .val (.ref (ad 1)), .val (.ref (ad 2)), .val (.ref (ad 3)), .val (.ref (ad 4)), .val (.ref (ad 0)), .val (.int ((p0 &&& (2147483647 : Int32)) % (3 : Int32))), .val (.int ((p1 &&& (2147483647 : Int32)) % (3 : Int32))), .val (.ref (ad 1)), .val (.ref (ad 2)), .unset] [(.ref (ad 1)), (.ref (ad 4)), (.ref (ad 0)), (.ref b1)]))
        refine own_by (fun _ k => XS.aload X26.here hx rfl (hb hby at_191) rfl rfl k) ?_
        show own_Fin p.tables e below _ (T26.setTop (mkF m 193 #[.val (.int p0), .val (.int p1), .val (.ref b1), .val (.ref (ad 1)), .val (.ref (ad 2)), .val (.ref (ad 3)), .val (.ref (ad 4)), .val (.ref (ad 0)), .val (.int ((p0 &&& (2147483647 : Int32)) % (3 : Int32))), .val (.int ((p1 &&& (2147483647 : Int32)) % (3 : Int32))), .val (.ref (ad 1)), .val (.ref (ad 2)), .unset] [(.ref (ad 2)), (.ref (ad 1)), (.ref (ad 4)), (.ref (ad 0)), (.ref b1)]))
        refine own_by (fun _ k => XS.aload X26.here hx rfl (hb hby at_193) rfl rfl k) ?_
        show own_Fin p.tables e below _ (T26.setTop (mkF m 195 #[.val (.int p0), .val (.int p1), .val (.ref b1), .val (.ref (ad 1)), .val (.ref (ad 2)), .val (.ref (ad 3)), .val (.ref (ad 4)), .val (.ref (ad 0)), .val (.int ((p0 &&& (2147483647 : Int32)) % (3 : Int32))), .val (.int ((p1 &&& (2147483647 : Int32)) % (3 : Int32))), .val (.ref (ad 1)), .val (.ref (ad 2)), .unset] [(.ref (ad 3)), (.ref (ad 2)), (.ref (ad 1)), (.ref (ad 4)), (.ref (ad 0)), (.ref b1)]))
        obtain ⟨_, _, ⟨T27, L27, k27, n27⟩, -, X27, ⟨Lc27, hQ27, l27, y27, z27⟩, st27⟩ := Jvm.LawKit.callS X26 hx (y := (⟨"com/example/brazier/brazier/keyspace/ChangeOrderAddPinLaw", "ringIs", "(Lcom/example/brazier/brazier/keyspace/ChangeOrder;Lcom/example/brazier/brazier/keyspace/ChangeOrder$Link;Lcom/example/brazier/brazier/keyspace/ChangeOrder$Link;Lcom/example/brazier/brazier/keyspace/ChangeOrder$Link;Lcom/example/brazier/brazier/keyspace/ChangeOrder$Link;Lcom/example/brazier/brazier/keyspace/ChangeOrder$Link;)Z"⟩ : MethodName)) hown (mvT hZ (hw _ (List.mem_of_getElem? (i := 80) rfl))) (mvT hZ (hw _ (List.mem_of_getElem? (i := 81) rfl))) (mvT hZ (hw _ (List.mem_of_getElem? (i := 82) rfl))) (mvT hZ (hw _ (List.mem_of_getElem? (i := 83) rfl))) (by decide) (backOf (W := 0) (rm14 l Z a0 hw [] 5 ad own_K b1 own_b29 own_a30 own_n31 own_w32 own_p16 0 4 1 2 3 T26.heap n0 S26.1 S26 sl wk (by decide) (by decide) (by decide) (by decide) (by decide) (by decide) (by decide) (by decide) (by decide) (by decide)) hZ (hw _ (List.mem_of_getElem? (i := 83) rfl)) (hw _ (List.mem_of_getElem? (i := 82) rfl)) (by decide) (by decide)) (g := (mkF m 195 #[.val (.int p0), .val (.int p1), .val (.ref b1), .val (.ref (ad 1)), .val (.ref (ad 2)), .val (.ref (ad 3)), .val (.ref (ad 4)), .val (.ref (ad 0)), .val (.int ((p0 &&& (2147483647 : Int32)) % (3 : Int32))), .val (.int ((p1 &&& (2147483647 : Int32)) % (3 : Int32))), .val (.ref (ad 1)), .val (.ref (ad 2)), .unset] [(.ref (ad 3)), (.ref (ad 2)), (.ref (ad 1)), (.ref (ad 4)), (.ref (ad 0)), (.ref b1)])) rfl (by rw [hml]; rfl) (argsL := [(.ref b1), (.ref (ad 0)), (.ref (ad 4)), (.ref (ad 1)), (.ref (ad 2)), (.ref (ad 3))]) (rest := []) (lenOf pd__Lcom_example_brazier_brazier_keyspace_ChangeOrder_Lcom_example_brazier_brazier_keyspace_ChangeOrder_Link_Lcom_example_brazier_brazier_keyspace_ChangeOrder_Link_Lcom_example_brazier_brazier_keyspace_ChangeOrder_Link_Lcom_example_brazier_brazier_keyspace_ChangeOrder_Link_Lcom_example_brazier_brazier_keyspace_ChangeOrder_Link__Z rfl) rfl (by show 2 * 0 + _ ≤ _; exact Nat.le_of_eq rfl) (hb hby at_195) (fun _ _ => ⟨rfl, rfl, (by decide : 6 + 0 ≤ _), (by decide : 18 + 0 ≤ _)⟩)
        dsimp only [Pt.U, Pt.locs, Pt.cells, Pt.slots] at X27 l27 y27 z27 st27 hQ27
        subst l27 y27 z27
        obtain ⟨rfl, N27q, e27⟩ := hQ27
        have N27 := Fr.app N26 N27q
        refine own_by st27 ?_
        show own_Fin p.tables e below _ (T27.setTop (mkF m 198 #[.val (.int p0), .val (.int p1), .val (.ref b1), .val (.ref (ad 1)), .val (.ref (ad 2)), .val (.ref (ad 3)), .val (.ref (ad 4)), .val (.ref (ad 0)), .val (.int ((p0 &&& (2147483647 : Int32)) % (3 : Int32))), .val (.int ((p1 &&& (2147483647 : Int32)) % (3 : Int32))), .val (.ref (ad 1)), .val (.ref (ad 2)), .unset] [(.int (1 : Int32))]))
        refine own_by (fun _ k => XS.istore X27.here hx rfl (hb hby at_198) rfl (l' := #[.val (.int p0), .val (.int p1), .val (.ref b1), .val (.ref (ad 1)), .val (.ref (ad 2)), .val (.ref (ad 3)), .val (.ref (ad 4)), .val (.ref (ad 0)), .val (.int ((p0 &&& (2147483647 : Int32)) % (3 : Int32))), .val (.int ((p1 &&& (2147483647 : Int32)) % (3 : Int32))), .val (.ref (ad 1)), .val (.ref (ad 2)), .val (.int (1 : Int32))]) rfl k) ?_
        show own_Fin p.tables e below _ (T27.setTop (mkF m 200 #[.val (.int p0), .val (.int p1), .val (.ref b1), .val (.ref (ad 1)), .val (.ref (ad 2)), .val (.ref (ad 3)), .val (.ref (ad 4)), .val (.ref (ad 0)), .val (.int ((p0 &&& (2147483647 : Int32)) % (3 : Int32))), .val (.int ((p1 &&& (2147483647 : Int32)) % (3 : Int32))), .val (.ref (ad 1)), .val (.ref (ad 2)), .val (.int (1 : Int32))] []))
        refine own_by (fun _ k => XS.goto X27.here hx rfl (pc0 := 200) (pc' := 312) rfl (hb hby at_200) (by decide) (by decide) k) ?_
        show own_Fin p.tables e below _ (T27.setTop (mkF m 312 #[.val (.int p0), .val (.int p1), .val (.ref b1), .val (.ref (ad 1)), .val (.ref (ad 2)), .val (.ref (ad 3)), .val (.ref (ad 4)), .val (.ref (ad 0)), .val (.int ((p0 &&& (2147483647 : Int32)) % (3 : Int32))), .val (.int ((p1 &&& (2147483647 : Int32)) % (3 : Int32))), .val (.ref (ad 1)), .val (.ref (ad 2)), .val (.int (1 : Int32))] []))
        refine own_by (fun _ k => XS.iload X27.here hx rfl (hb hby at_312) rfl k) ?_
        show own_Fin p.tables e below _ (T27.setTop (mkF m 314 #[.val (.int p0), .val (.int p1), .val (.ref b1), .val (.ref (ad 1)), .val (.ref (ad 2)), .val (.ref (ad 3)), .val (.ref (ad 4)), .val (.ref (ad 0)), .val (.int ((p0 &&& (2147483647 : Int32)) % (3 : Int32))), .val (.int ((p1 &&& (2147483647 : Int32)) % (3 : Int32))), .val (.ref (ad 1)), .val (.ref (ad 2)), .val (.int (1 : Int32))] [(.int (1 : Int32))]))
        refine own_by (fun _ k => XS.ifYes X27.here hx rfl (pc0 := 314) (pc' := 319) rfl (hb hby at_314) rfl ((if0 _ _).trans (feq (by decide)).2) (by decide) (by decide) k) ?_
        show own_Fin p.tables e below _ (T27.setTop (mkF m 319 #[.val (.int p0), .val (.int p1), .val (.ref b1), .val (.ref (ad 1)), .val (.ref (ad 2)), .val (.ref (ad 3)), .val (.ref (ad 4)), .val (.ref (ad 0)), .val (.int ((p0 &&& (2147483647 : Int32)) % (3 : Int32))), .val (.int ((p1 &&& (2147483647 : Int32)) % (3 : Int32))), .val (.ref (ad 1)), .val (.ref (ad 2)), .val (.int (1 : Int32))] []))
        refine own_by (fun _ k => XS.aloadN X27.here hx rfl (hb hby at_319) rfl rfl k) ?_
        show own_Fin p.tables e below _ (T27.setTop (mkF m 320 #[.val (.int p0), .val (.int p1), .val (.ref b1), .val (.ref (ad 1)), .val (.ref (ad 2)), .val (.ref (ad 3)), .val (.ref (ad 4)), .val (.ref (ad 0)), .val (.int ((p0 &&& (2147483647 : Int32)) % (3 : Int32))), .val (.int ((p1 &&& (2147483647 : Int32)) % (3 : Int32))), .val (.ref (ad 1)), .val (.ref (ad 2)), .val (.int (1 : Int32))] [(.ref b1)]))
        refine own_by (fun _ k => XS.aload X27.here hx rfl (hb hby at_320) rfl rfl k) ?_
        show own_Fin p.tables e below _ (T27.setTop (mkF m 322 #[.val (.int p0), .val (.int p1), .val (.ref b1), .val (.ref (ad 1)), .val (.ref (ad 2)), .val (.ref (ad 3)), .val (.ref (ad 4)), .val (.ref (ad 0)), .val (.int ((p0 &&& (2147483647 : Int32)) % (3 : Int32))), .val (.int ((p1 &&& (2147483647 : Int32)) % (3 : Int32))), .val (.ref (ad 1)), .val (.ref (ad 2)), .val (.int (1 : Int32))] [(.ref (ad 4)), (.ref b1)]))
        refine own_by (fun _ k => XS.aload X27.here hx rfl (hb hby at_322) rfl rfl k) ?_
        show own_Fin p.tables e below _ (T27.setTop (mkF m 324 #[.val (.int p0), .val (.int p1), .val (.ref b1), .val (.ref (ad 1)), .val (.ref (ad 2)), .val (.ref (ad 3)), .val (.ref (ad 4)), .val (.ref (ad 0)), .val (.int ((p0 &&& (2147483647 : Int32)) % (3 : Int32))), .val (.int ((p1 &&& (2147483647 : Int32)) % (3 : Int32))), .val (.ref (ad 1)), .val (.ref (ad 2)), .val (.int (1 : Int32))] [(.ref (ad 0)), (.ref (ad 4)), (.ref b1)]))
        obtain ⟨cq28, kq28, q28a, q28b, q28c⟩ := isOf hZ e27 S26.2.2.1
        obtain ⟨_, _, ⟨T28, L28, k28, n28⟩, -, X28, ⟨Lc28, hQ28, l28, y28, z28⟩, st28⟩ := X27.virtualBack hx (y := (⟨"com/example/brazier/brazier/keyspace/ChangeOrder", "passTo", "(Lcom/example/brazier/brazier/keyspace/ChangeOrder$Place;Lcom/example/brazier/brazier/keyspace/ChangeOrder$Link;)V"⟩ : MethodName)) (z := (⟨"com/example/brazier/brazier/keyspace/ChangeOrder", "passTo", "(Lcom/example/brazier/brazier/keyspace/ChangeOrder$Place;Lcom/example/brazier/brazier/keyspace/ChangeOrder$Link;)V"⟩ : MethodName)) hown (mvT hZ (hw _ (List.mem_of_getElem? (i := 50) rfl))) (mvT hZ (hw _ (List.mem_of_getElem? (i := 51) rfl))) (notFace_of_selects (args := #[]) (mvT hZ (hw _ (List.mem_of_getElem? (i := 53) rfl)))) (mvT hZ (hw _ (List.mem_of_getElem? (i := 53) rfl))) (mvT hZ (hw _ (List.mem_of_getElem? (i := 52) rfl))) (by decide) (backOf (W := 0) (rm8 l Z a0 hw [] 5 ad own_K b1 own_b29 own_a30 own_n31 own_w32 own_p16 4 0 3 T26.heap n0 S26.1 S26 sl wk (by decide) (by decide) (by decide) (own_wf1 (q := 1) (p := 0) (by decide) (by decide) (by decide) (by decide)) (by decide)) hZ (hw _ (List.mem_of_getElem? (i := 54) rfl)) (hw _ (List.mem_of_getElem? (i := 2) rfl)) (by decide) (by decide)) q28a q28c (g := (mkF m 324 #[.val (.int p0), .val (.int p1), .val (.ref b1), .val (.ref (ad 1)), .val (.ref (ad 2)), .val (.ref (ad 3)), .val (.ref (ad 4)), .val (.ref (ad 0)), .val (.int ((p0 &&& (2147483647 : Int32)) % (3 : Int32))), .val (.int ((p1 &&& (2147483647 : Int32)) % (3 : Int32))), .val (.ref (ad 1)), .val (.ref (ad 2)), .val (.int (1 : Int32))] [(.ref (ad 0)), (.ref (ad 4)), (.ref b1)])) rfl (by rw [hml]; rfl) (Steps.refl _) (argsL := [(.ref (ad 4)), (.ref (ad 0))]) (rest := []) (lenOf pd__Lcom_example_brazier_brazier_keyspace_ChangeOrder_Place_Lcom_example_brazier_brazier_keyspace_ChangeOrder_Link__V rfl) rfl (by show 2 * 0 + _ ≤ _; exact Nat.le_of_eq rfl) (hb hby at_324) (fun _ _ => ⟨rfl, e27, (by decide : 6 + 0 ≤ _), (by decide : 18 + 0 ≤ _)⟩)
        dsimp only [Pt.U, Pt.locs, Pt.cells, Pt.slots] at X28 l28 y28 z28 st28 hQ28
        subst l28 y28 z28
        obtain ⟨rfl, N28q, S28q⟩ := hQ28
        have N28 := Fr.app N27 N28q
        refine own_by (fun _ k => st28.trans k) ?_
        have S28 : own_S Z T28.heap n0 5 ad own_K b1 own_b33 own_a34 own_n35 own_w32 own_p36 := S28q
        show own_Fin p.tables e below _ (T28.setTop (mkF m 327 #[.val (.int p0), .val (.int p1), .val (.ref b1), .val (.ref (ad 1)), .val (.ref (ad 2)), .val (.ref (ad 3)), .val (.ref (ad 4)), .val (.ref (ad 0)), .val (.int ((p0 &&& (2147483647 : Int32)) % (3 : Int32))), .val (.int ((p1 &&& (2147483647 : Int32)) % (3 : Int32))), .val (.ref (ad 1)), .val (.ref (ad 2)), .val (.int (1 : Int32))] []))
        refine own_by (fun _ k => XS.aloadN X28.here hx rfl (hb hby at_327) rfl rfl k) ?_
        show own_Fin p.tables e below _ (T28.setTop (mkF m 328 #[.val (.int p0), .val (.int p1), .val (.ref b1), .val (.ref (ad 1)), .val (.ref (ad 2)), .val (.ref (ad 3)), .val (.ref (ad 4)), .val (.ref (ad 0)), .val (.int ((p0 &&& (2147483647 : Int32)) % (3 : Int32))), .val (.int ((p1 &&& (2147483647 : Int32)) % (3 : Int32))), .val (.ref (ad 1)), .val (.ref (ad 2)), .val (.int (1 : Int32))] [(.ref b1)]))
        refine own_by (fun _ k => XS.aload X28.here hx rfl (hb hby at_328) rfl rfl k) ?_
        show own_Fin p.tables e below _ (T28.setTop (mkF m 330 #[.val (.int p0), .val (.int p1), .val (.ref b1), .val (.ref (ad 1)), .val (.ref (ad 2)), .val (.ref (ad 3)), .val (.ref (ad 4)), .val (.ref (ad 0)), .val (.int ((p0 &&& (2147483647 : Int32)) % (3 : Int32))), .val (.int ((p1 &&& (2147483647 : Int32)) % (3 : Int32))), .val (.ref (ad 1)), .val (.ref (ad 2)), .val (.int (1 : Int32))] [(.ref (ad 3)), (.ref b1)]))
        obtain ⟨cq29, kq29, q29a, q29b, q29c⟩ := isOf hZ rfl S28.2.2.1
        obtain ⟨_, _, ⟨T29, L29, k29, n29⟩, -, X29, ⟨Lc29, hQ29, l29, y29, z29⟩, st29⟩ := X28.virtualBack hx (y := (⟨"com/example/brazier/brazier/keyspace/ChangeOrder", "changed", "(Lcom/example/brazier/brazier/keyspace/ChangeOrder$Link;)V"⟩ : MethodName)) (z := (⟨"com/example/brazier/brazier/keyspace/ChangeOrder", "changed", "(Lcom/example/brazier/brazier/keyspace/ChangeOrder$Link;)V"⟩ : MethodName)) hown (mvT hZ (hw _ (List.mem_of_getElem? (i := 75) rfl))) (mvT hZ (hw _ (List.mem_of_getElem? (i := 76) rfl))) (notFace_of_selects (args := #[]) (mvT hZ (hw _ (List.mem_of_getElem? (i := 78) rfl)))) (mvT hZ (hw _ (List.mem_of_getElem? (i := 78) rfl))) (mvT hZ (hw _ (List.mem_of_getElem? (i := 77) rfl))) (by decide) (backOf (W := 0) (rm13 l Z a0 hw [] 5 ad own_K b1 own_b33 own_a34 own_n35 own_w32 own_p36 3 4 T28.heap n0 S28.1 S28 sl wk (by decide) (by decide) (by decide) (fun _ => ⟨(own_wf1 (q := 4) (p := 2) (by decide) (by decide) (by decide) (by decide)), by decide⟩)) hZ (hw _ (List.mem_of_getElem? (i := 79) rfl)) (hw _ (List.mem_of_getElem? (i := 2) rfl)) (by decide) (by decide)) q29a q29c (g := (mkF m 330 #[.val (.int p0), .val (.int p1), .val (.ref b1), .val (.ref (ad 1)), .val (.ref (ad 2)), .val (.ref (ad 3)), .val (.ref (ad 4)), .val (.ref (ad 0)), .val (.int ((p0 &&& (2147483647 : Int32)) % (3 : Int32))), .val (.int ((p1 &&& (2147483647 : Int32)) % (3 : Int32))), .val (.ref (ad 1)), .val (.ref (ad 2)), .val (.int (1 : Int32))] [(.ref (ad 3)), (.ref b1)])) rfl (by rw [hml]; rfl) (Steps.refl _) (argsL := [(.ref (ad 3))]) (rest := []) (lenOf pd__Lcom_example_brazier_brazier_keyspace_ChangeOrder_Link__V rfl) rfl (by show 2 * 0 + _ ≤ _; exact Nat.le_of_eq rfl) (hb hby at_330) (fun _ _ => ⟨rfl, rfl, (by decide : 6 + 0 ≤ _), (by decide : 18 + 0 ≤ _)⟩)
        dsimp only [Pt.U, Pt.locs, Pt.cells, Pt.slots] at X29 l29 y29 z29 st29 hQ29
        subst l29 y29 z29
        obtain ⟨rfl, N29q, S29q⟩ := hQ29
        have N29 := Fr.app N28 N29q
        refine own_by (fun _ k => st29.trans k) ?_
        have S29 : own_S Z T29.heap n0 5 ad own_K b1 own_b37 own_a38 own_n39 own_w40 own_p36 := S29q
        show own_Fin p.tables e below _ (T29.setTop (mkF m 333 #[.val (.int p0), .val (.int p1), .val (.ref b1), .val (.ref (ad 1)), .val (.ref (ad 2)), .val (.ref (ad 3)), .val (.ref (ad 4)), .val (.ref (ad 0)), .val (.int ((p0 &&& (2147483647 : Int32)) % (3 : Int32))), .val (.int ((p1 &&& (2147483647 : Int32)) % (3 : Int32))), .val (.ref (ad 1)), .val (.ref (ad 2)), .val (.int (1 : Int32))] []))
        refine own_by (fun _ k => XS.aloadN X29.here hx rfl (hb hby at_333) rfl rfl k) ?_
        show own_Fin p.tables e below _ (T29.setTop (mkF m 334 #[.val (.int p0), .val (.int p1), .val (.ref b1), .val (.ref (ad 1)), .val (.ref (ad 2)), .val (.ref (ad 3)), .val (.ref (ad 4)), .val (.ref (ad 0)), .val (.int ((p0 &&& (2147483647 : Int32)) % (3 : Int32))), .val (.int ((p1 &&& (2147483647 : Int32)) % (3 : Int32))), .val (.ref (ad 1)), .val (.ref (ad 2)), .val (.int (1 : Int32))] [(.ref b1)]))
        refine own_by (fun _ k => XS.aload X29.here hx rfl (hb hby at_334) rfl rfl k) ?_
        show own_Fin p.tables e below _ (T29.setTop (mkF m 336 #[.val (.int p0), .val (.int p1), .val (.ref b1), .val (.ref (ad 1)), .val (.ref (ad 2)), .val (.ref (ad 3)), .val (.ref (ad 4)), .val (.ref (ad 0)), .val (.int ((p0 &&& (2147483647 : Int32)) % (3 : Int32))), .val (.int ((p1 &&& (2147483647 : Int32)) % (3 : Int32))), .val (.ref (ad 1)), .val (.ref (ad 2)), .val (.int (1 : Int32))] [(.ref (ad 4)), (.ref b1)]))
        obtain ⟨cq30, kq30, q30a, q30b, q30c⟩ := isOf hZ rfl S29.2.2.1
        obtain ⟨_, _, ⟨T30, L30, k30, n30⟩, -, X30, ⟨Lc30, hQ30, l30, y30, z30⟩, st30⟩ := X29.virtualBack hx (y := (⟨"com/example/brazier/brazier/keyspace/ChangeOrder", "after", "(Lcom/example/brazier/brazier/keyspace/ChangeOrder$Link;)Lcom/example/brazier/brazier/keyspace/ChangeOrder$Link;"⟩ : MethodName)) (z := (⟨"com/example/brazier/brazier/keyspace/ChangeOrder", "after", "(Lcom/example/brazier/brazier/keyspace/ChangeOrder$Link;)Lcom/example/brazier/brazier/keyspace/ChangeOrder$Link;"⟩ : MethodName)) hown (mvT hZ (hw _ (List.mem_of_getElem? (i := 44) rfl))) (mvT hZ (hw _ (List.mem_of_getElem? (i := 45) rfl))) (notFace_of_selects (args := #[]) (mvT hZ (hw _ (List.mem_of_getElem? (i := 47) rfl)))) (mvT hZ (hw _ (List.mem_of_getElem? (i := 47) rfl))) (mvT hZ (hw _ (List.mem_of_getElem? (i := 46) rfl))) (by decide) (backOf (W := 0) (rm7 l Z a0 hw [] 5 ad own_K b1 own_b37 own_a38 own_n39 own_w40 own_p36 4 T29.heap n0 S29.1 S29 sl wk (by decide)) hZ (hw _ (List.mem_of_getElem? (i := 48) rfl)) (hw _ (List.mem_of_getElem? (i := 2) rfl)) (by decide) (by decide)) q30a q30c (g := (mkF m 336 #[.val (.int p0), .val (.int p1), .val (.ref b1), .val (.ref (ad 1)), .val (.ref (ad 2)), .val (.ref (ad 3)), .val (.ref (ad 4)), .val (.ref (ad 0)), .val (.int ((p0 &&& (2147483647 : Int32)) % (3 : Int32))), .val (.int ((p1 &&& (2147483647 : Int32)) % (3 : Int32))), .val (.ref (ad 1)), .val (.ref (ad 2)), .val (.int (1 : Int32))] [(.ref (ad 4)), (.ref b1)])) rfl (by rw [hml]; rfl) (Steps.refl _) (argsL := [(.ref (ad 4))]) (rest := []) (lenOf pd__Lcom_example_brazier_brazier_keyspace_ChangeOrder_Link__Lcom_example_brazier_brazier_keyspace_ChangeOrder_Link_ rfl) rfl (by show 2 * 0 + _ ≤ _; exact Nat.le_of_eq rfl) (hb hby at_336) (fun _ _ => ⟨rfl, rfl, (by decide : 6 + 0 ≤ _), (by decide : 18 + 0 ≤ _)⟩)
        dsimp only [Pt.U, Pt.locs, Pt.cells, Pt.slots] at X30 l30 y30 z30 st30 hQ30
        subst l30 y30 z30
        obtain ⟨hv30, N30q, e30⟩ := hQ30
        obtain rfl := hv30.trans (congrArg some (show own_nx ad (own_a38 4) = (.ref (ad 3)) from (by rw [show own_a38 4 = some 3 from by decide]; rfl)))
        have N30 := Fr.app N29 N30q
        refine own_by (fun _ k => st30.trans k) ?_
        show own_Fin p.tables e below _ (T30.setTop (mkF m 339 #[.val (.int p0), .val (.int p1), .val (.ref b1), .val (.ref (ad 1)), .val (.ref (ad 2)), .val (.ref (ad 3)), .val (.ref (ad 4)), .val (.ref (ad 0)), .val (.int ((p0 &&& (2147483647 : Int32)) % (3 : Int32))), .val (.int ((p1 &&& (2147483647 : Int32)) % (3 : Int32))), .val (.ref (ad 1)), .val (.ref (ad 2)), .val (.int (1 : Int32))] [(.ref (ad 3))]))
        refine own_by (fun _ k => XS.aload X30.here hx rfl (hb hby at_339) rfl rfl k) ?_
        show own_Fin p.tables e below _ (T30.setTop (mkF m 341 #[.val (.int p0), .val (.int p1), .val (.ref b1), .val (.ref (ad 1)), .val (.ref (ad 2)), .val (.ref (ad 3)), .val (.ref (ad 4)), .val (.ref (ad 0)), .val (.int ((p0 &&& (2147483647 : Int32)) % (3 : Int32))), .val (.int ((p1 &&& (2147483647 : Int32)) % (3 : Int32))), .val (.ref (ad 1)), .val (.ref (ad 2)), .val (.int (1 : Int32))] [(.ref (ad 3)), (.ref (ad 3))]))
        refine own_by (fun _ k => Jvm.RoadKit.acmp (g := (mkF m 341 #[.val (.int p0), .val (.int p1), .val (.ref b1), .val (.ref (ad 1)), .val (.ref (ad 2)), .val (.ref (ad 3)), .val (.ref (ad 4)), .val (.ref (ad 0)), .val (.int ((p0 &&& (2147483647 : Int32)) % (3 : Int32))), .val (.int ((p1 &&& (2147483647 : Int32)) % (3 : Int32))), .val (.ref (ad 1)), .val (.ref (ad 2)), .val (.int (1 : Int32))] [(.ref (ad 3)), (.ref (ad 3))])) X30 hx rfl rfl rfl (pc0 := 341) (pc' := 344) (same := true) rfl (hb hby at_341) rfl (decide_eq_true rfl) (by decide) (by decide) k) ?_
        show own_Fin p.tables e below _ (T30.setTop (mkF m 344 #[.val (.int p0), .val (.int p1), .val (.ref b1), .val (.ref (ad 1)), .val (.ref (ad 2)), .val (.ref (ad 3)), .val (.ref (ad 4)), .val (.ref (ad 0)), .val (.int ((p0 &&& (2147483647 : Int32)) % (3 : Int32))), .val (.int ((p1 &&& (2147483647 : Int32)) % (3 : Int32))), .val (.ref (ad 1)), .val (.ref (ad 2)), .val (.int (1 : Int32))] []))
        refine own_by (fun _ k => XS.aloadN X30.here hx rfl (hb hby at_344) rfl rfl k) ?_
        show own_Fin p.tables e below _ (T30.setTop (mkF m 345 #[.val (.int p0), .val (.int p1), .val (.ref b1), .val (.ref (ad 1)), .val (.ref (ad 2)), .val (.ref (ad 3)), .val (.ref (ad 4)), .val (.ref (ad 0)), .val (.int ((p0 &&& (2147483647 : Int32)) % (3 : Int32))), .val (.int ((p1 &&& (2147483647 : Int32)) % (3 : Int32))), .val (.ref (ad 1)), .val (.ref (ad 2)), .val (.int (1 : Int32))] [(.ref b1)]))
        refine own_by (fun _ k => XS.aload X30.here hx rfl (hb hby at_345) rfl rfl k) ?_
        show own_Fin p.tables e below _ (T30.setTop (mkF m 347 #[.val (.int p0), .val (.int p1), .val (.ref b1), .val (.ref (ad 1)), .val (.ref (ad 2)), .val (.ref (ad 3)), .val (.ref (ad 4)), .val (.ref (ad 0)), .val (.int ((p0 &&& (2147483647 : Int32)) % (3 : Int32))), .val (.int ((p1 &&& (2147483647 : Int32)) % (3 : Int32))), .val (.ref (ad 1)), .val (.ref (ad 2)), .val (.int (1 : Int32))] [(.ref (ad 3)), (.ref b1)]))
        obtain ⟨cq31, kq31, q31a, q31b, q31c⟩ := isOf hZ e30 S29.2.2.1
        obtain ⟨_, _, ⟨T31, L31, k31, n31⟩, -, X31, ⟨Lc31, hQ31, l31, y31, z31⟩, st31⟩ := X30.virtualBack hx (y := (⟨"com/example/brazier/brazier/keyspace/ChangeOrder", "after", "(Lcom/example/brazier/brazier/keyspace/ChangeOrder$Link;)Lcom/example/brazier/brazier/keyspace/ChangeOrder$Link;"⟩ : MethodName)) (z := (⟨"com/example/brazier/brazier/keyspace/ChangeOrder", "after", "(Lcom/example/brazier/brazier/keyspace/ChangeOrder$Link;)Lcom/example/brazier/brazier/keyspace/ChangeOrder$Link;"⟩ : MethodName)) hown (mvT hZ (hw _ (List.mem_of_getElem? (i := 44) rfl))) (mvT hZ (hw _ (List.mem_of_getElem? (i := 45) rfl))) (notFace_of_selects (args := #[]) (mvT hZ (hw _ (List.mem_of_getElem? (i := 47) rfl)))) (mvT hZ (hw _ (List.mem_of_getElem? (i := 47) rfl))) (mvT hZ (hw _ (List.mem_of_getElem? (i := 46) rfl))) (by decide) (backOf (W := 0) (rm7 l Z a0 hw [] 5 ad own_K b1 own_b37 own_a38 own_n39 own_w40 own_p36 3 T29.heap n0 S29.1 S29 sl wk (by decide)) hZ (hw _ (List.mem_of_getElem? (i := 48) rfl)) (hw _ (List.mem_of_getElem? (i := 2) rfl)) (by decide) (by decide)) q31a q31c (g := (mkF m 347 #[.val (.int p0), .val (.int p1), .val (.ref b1), .val (.ref (ad 1)), .val (.ref (ad 2)), .val (.ref (ad 3)), .val (.ref (ad 4)), .val (.ref (ad 0)), .val (.int ((p0 &&& (2147483647 : Int32)) % (3 : Int32))), .val (.int ((p1 &&& (2147483647 : Int32)) % (3 : Int32))), .val (.ref (ad 1)), .val (.ref (ad 2)), .val (.int (1 : Int32))] [(.ref (ad 3)), (.ref b1)])) rfl (by rw [hml]; rfl) (Steps.refl _) (argsL := [(.ref (ad 3))]) (rest := []) (lenOf pd__Lcom_example_brazier_brazier_keyspace_ChangeOrder_Link__Lcom_example_brazier_brazier_keyspace_ChangeOrder_Link_ rfl) rfl (by show 2 * 0 + _ ≤ _; exact Nat.le_of_eq rfl) (hb hby at_347) (fun _ _ => ⟨rfl, e30, (by decide : 6 + 0 ≤ _), (by decide : 18 + 0 ≤ _)⟩)
        dsimp only [Pt.U, Pt.locs, Pt.cells, Pt.slots] at X31 l31 y31 z31 st31 hQ31
        subst l31 y31 z31
        obtain ⟨hv31, N31q, e31⟩ := hQ31
        obtain rfl := hv31.trans (congrArg some (show own_nx ad (own_a38 3) = (.ref (ad 0)) from (by rw [show own_a38 3 = some 0 from by decide]; rfl)))
        have N31 := Fr.app N30 N31q
        refine own_by (fun _ k => st31.trans k) ?_
        show own_Fin p.tables e below _ (T31.setTop (mkF m 350 #[.val (.int p0), .val (.int p1), .val (.ref b1), .val (.ref (ad 1)), .val (.ref (ad 2)), .val (.ref (ad 3)), .val (.ref (ad 4)), .val (.ref (ad 0)), .val (.int ((p0 &&& (2147483647 : Int32)) % (3 : Int32))), .val (.int ((p1 &&& (2147483647 : Int32)) % (3 : Int32))), .val (.ref (ad 1)), .val (.ref (ad 2)), .val (.int (1 : Int32))] [(.ref (ad 0))]))
        refine own_by (fun _ k => XS.aload X31.here hx rfl (hb hby at_350) rfl rfl k) ?_
        show own_Fin p.tables e below _ (T31.setTop (mkF m 352 #[.val (.int p0), .val (.int p1), .val (.ref b1), .val (.ref (ad 1)), .val (.ref (ad 2)), .val (.ref (ad 3)), .val (.ref (ad 4)), .val (.ref (ad 0)), .val (.int ((p0 &&& (2147483647 : Int32)) % (3 : Int32))), .val (.int ((p1 &&& (2147483647 : Int32)) % (3 : Int32))), .val (.ref (ad 1)), .val (.ref (ad 2)), .val (.int (1 : Int32))] [(.ref (ad 0)), (.ref (ad 0))]))
        refine own_by (fun _ k => Jvm.RoadKit.acmp (g := (mkF m 352 #[.val (.int p0), .val (.int p1), .val (.ref b1), .val (.ref (ad 1)), .val (.ref (ad 2)), .val (.ref (ad 3)), .val (.ref (ad 4)), .val (.ref (ad 0)), .val (.int ((p0 &&& (2147483647 : Int32)) % (3 : Int32))), .val (.int ((p1 &&& (2147483647 : Int32)) % (3 : Int32))), .val (.ref (ad 1)), .val (.ref (ad 2)), .val (.int (1 : Int32))] [(.ref (ad 0)), (.ref (ad 0))])) X31 hx rfl rfl rfl (pc0 := 352) (pc' := 355) (same := true) rfl (hb hby at_352) rfl (decide_eq_true rfl) (by decide) (by decide) k) ?_
        show own_Fin p.tables e below _ (T31.setTop (mkF m 355 #[.val (.int p0), .val (.int p1), .val (.ref b1), .val (.ref (ad 1)), .val (.ref (ad 2)), .val (.ref (ad 3)), .val (.ref (ad 4)), .val (.ref (ad 0)), .val (.int ((p0 &&& (2147483647 : Int32)) % (3 : Int32))), .val (.int ((p1 &&& (2147483647 : Int32)) % (3 : Int32))), .val (.ref (ad 1)), .val (.ref (ad 2)), .val (.int (1 : Int32))] []))
        refine own_by (fun _ k => XS.iconst X31.here hx rfl (hb hby at_355) k) ?_
        show own_Fin p.tables e below _ (T31.setTop (mkF m 356 #[.val (.int p0), .val (.int p1), .val (.ref b1), .val (.ref (ad 1)), .val (.ref (ad 2)), .val (.ref (ad 3)), .val (.ref (ad 4)), .val (.ref (ad 0)), .val (.int ((p0 &&& (2147483647 : Int32)) % (3 : Int32))), .val (.int ((p1 &&& (2147483647 : Int32)) % (3 : Int32))), .val (.ref (ad 1)), .val (.ref (ad 2)), .val (.int (1 : Int32))] [(.int (1 : Int32))]))
        refine own_by (fun _ k => XS.goto X31.here hx rfl (pc0 := 356) (pc' := 360) rfl (hb hby at_356) (by decide) (by decide) k) ?_
        show own_Fin p.tables e below _ (T31.setTop (mkF m 360 #[.val (.int p0), .val (.int p1), .val (.ref b1), .val (.ref (ad 1)), .val (.ref (ad 2)), .val (.ref (ad 3)), .val (.ref (ad 4)), .val (.ref (ad 0)), .val (.int ((p0 &&& (2147483647 : Int32)) % (3 : Int32))), .val (.int ((p1 &&& (2147483647 : Int32)) % (3 : Int32))), .val (.ref (ad 1)), .val (.ref (ad 2)), .val (.int (1 : Int32))] [(.int (1 : Int32))]))
        have ef : f0 p0 p1 = (1 : Int32) := by unfold f0; rw [if_pos hc15, if_neg hc16, if_pos hc24]
        exact own_retN X31 hx (t := .boolean) Bd.returns hlk (by simp) (hb hby at_360) (by decide) (by decide) ⟨by rw [ef]; rfl, N31⟩
      · refine own_by (fun _ k => XS.icmpYes X14.here hx rfl (pc0 := 154) (pc' := 162) rfl (hb hby at_154) rfl (feq hc24).2 (by decide) (by decide) k) ?_
        show own_Fin p.tables e below _ (T14.setTop (mkF m 162 #[.val (.int p0), .val (.int p1), .val (.ref b1), .val (.ref (ad 1)), .val (.ref (ad 2)), .val (.ref (ad 3)), .val (.ref (ad 4)), .val (.ref (ad 0)), .val (.int ((p0 &&& (2147483647 : Int32)) % (3 : Int32))), .val (.int ((p1 &&& (2147483647 : Int32)) % (3 : Int32))), .val (.ref (ad 1)), .unset, .unset] []))
        refine own_by (fun _ k => XS.aload X14.here hx rfl (hb hby at_162) rfl rfl k) ?_
        show own_Fin p.tables e below _ (T14.setTop (mkF m 164 #[.val (.int p0), .val (.int p1), .val (.ref b1), .val (.ref (ad 1)), .val (.ref (ad 2)), .val (.ref (ad 3)), .val (.ref (ad 4)), .val (.ref (ad 0)), .val (.int ((p0 &&& (2147483647 : Int32)) % (3 : Int32))), .val (.int ((p1 &&& (2147483647 : Int32)) % (3 : Int32))), .val (.ref (ad 1)), .unset, .unset] [(.ref (ad 3))]))
        refine own_by (fun _ k => XS.astore X14.here hx rfl (hb hby at_164) rfl rfl (l' := #[.val (.int p0), .val (.int p1), .val (.ref b1), .val (.ref (ad 1)), .val (.ref (ad 2)), .val (.ref (ad 3)), .val (.ref (ad 4)), .val (.ref (ad 0)), .val (.int ((p0 &&& (2147483647 : Int32)) % (3 : Int32))), .val (.int ((p1 &&& (2147483647 : Int32)) % (3 : Int32))), .val (.ref (ad 1)), .val (.ref (ad 3)), .unset]) rfl k) ?_
        show own_Fin p.tables e below _ (T14.setTop (mkF m 166 #[.val (.int p0), .val (.int p1), .val (.ref b1), .val (.ref (ad 1)), .val (.ref (ad 2)), .val (.ref (ad 3)), .val (.ref (ad 4)), .val (.ref (ad 0)), .val (.int ((p0 &&& (2147483647 : Int32)) % (3 : Int32))), .val (.int ((p1 &&& (2147483647 : Int32)) % (3 : Int32))), .val (.ref (ad 1)), .val (.ref (ad 3)), .unset] []))
        refine own_by (fun _ k => XS.aloadN X14.here hx rfl (hb hby at_166) rfl rfl k) ?_
        show own_Fin p.tables e below _ (T14.setTop (mkF m 167 #[.val (.int p0), .val (.int p1), .val (.ref b1), .val (.ref (ad 1)), .val (.ref (ad 2)), .val (.ref (ad 3)), .val (.ref (ad 4)), .val (.ref (ad 0)), .val (.int ((p0 &&& (2147483647 : Int32)) % (3 : Int32))), .val (.int ((p1 &&& (2147483647 : Int32)) % (3 : Int32))), .val (.ref (ad 1)), .val (.ref (ad 3)), .unset] [(.ref b1)]))
        refine own_by (fun _ k => XS.aload X14.here hx rfl (hb hby at_167) rfl rfl k) ?_
        show own_Fin p.tables e below _ (T14.setTop (mkF m 169 #[.val (.int p0), .val (.int p1), .val (.ref b1), .val (.ref (ad 1)), .val (.ref (ad 2)), .val (.ref (ad 3)), .val (.ref (ad 4)), .val (.ref (ad 0)), .val (.int ((p0 &&& (2147483647 : Int32)) % (3 : Int32))), .val (.int ((p1 &&& (2147483647 : Int32)) % (3 : Int32))), .val (.ref (ad 1)), .val (.ref (ad 3)), .unset] [(.ref (ad 4)), (.ref b1)]))
        refine own_by (fun _ k => XS.aload X14.here hx rfl (hb hby at_169) rfl rfl k) ?_
        show own_Fin p.tables e below _ (T14.setTop (mkF m 171 #[.val (.int p0), .val (.int p1), .val (.ref b1), .val (.ref (ad 1)), .val (.ref (ad 2)), .val (.ref (ad 3)), .val (.ref (ad 4)), .val (.ref (ad 0)), .val (.int ((p0 &&& (2147483647 : Int32)) % (3 : Int32))), .val (.int ((p1 &&& (2147483647 : Int32)) % (3 : Int32))), .val (.ref (ad 1)), .val (.ref (ad 3)), .unset] [(.ref (ad 1)), (.ref (ad 4)), (.ref b1)]))
        obtain ⟨cq32, kq32, q32a, q32b, q32c⟩ := isOf hZ e14 S13.2.2.1
        obtain ⟨_, _, ⟨T32, L32, k32, n32⟩, -, X32, ⟨Lc32, hQ32, l32, y32, z32⟩, st32⟩ := X14.virtualBack hx (y := (⟨"com/example/brazier/brazier/keyspace/ChangeOrder", "passTo", "(Lcom/example/brazier/brazier/keyspace/ChangeOrder$Place;Lcom/example/brazier/brazier/keyspace/ChangeOrder$Link;)V"⟩ : MethodName)) (z := (⟨"com/example/brazier/brazier/keyspace/ChangeOrder", "passTo", "(Lcom/example/brazier/brazier/keyspace/ChangeOrder$Place;Lcom/example/brazier/brazier/keyspace/ChangeOrder$Link;)V"⟩ : MethodName)) hown (mvT hZ (hw _ (List.mem_of_getElem? (i := 50) rfl))) (mvT hZ (hw _ (List.mem_of_getElem? (i := 51) rfl))) (notFace_of_selects (args := #[]) (mvT hZ (hw _ (List.mem_of_getElem? (i := 53) rfl)))) (mvT hZ (hw _ (List.mem_of_getElem? (i := 53) rfl))) (mvT hZ (hw _ (List.mem_of_getElem? (i := 52) rfl))) (by decide) (backOf (W := 0) (rm8 l Z a0 hw [] 5 ad own_K b1 own_b9 own_a10 own_n11 own_w12 own_w0 4 1 0 T13.heap n0 S13.1 S13 sl wk (by decide) (by decide) (by decide) (own_wf0 (by decide)) (by decide)) hZ (hw _ (List.mem_of_getElem? (i := 54) rfl)) (hw _ (List.mem_of_getElem? (i := 2) rfl)) (by decide) (by decide)) q32a q32c (g := (mkF m 171 #[.val (.int p0), .val (.int p1), .val (.ref b1), .val (.ref (ad 1)), .val (.ref (ad 2)), .val (.ref (ad 3)), .val (.ref (ad 4)), .val (.ref (ad 0)), .val (.int ((p0 &&& (2147483647 : Int32)) % (3 : Int32))), .val (.int ((p1 &&& (2147483647 : Int32)) % (3 : Int32))), .val (.ref (ad 1)), .val (.ref (ad 3)), .unset] [(.ref (ad 1)), (.ref (ad 4)), (.ref b1)])) rfl (by rw [hml]; rfl) (Steps.refl _) (argsL := [(.ref (ad 4)), (.ref (ad 1))]) (rest := []) (lenOf pd__Lcom_example_brazier_brazier_keyspace_ChangeOrder_Place_Lcom_example_brazier_brazier_keyspace_ChangeOrder_Link__V rfl) rfl (by show 2 * 0 + _ ≤ _; exact Nat.le_of_eq rfl) (hb hby at_171) (fun _ _ => ⟨rfl, e14, (by decide : 6 + 0 ≤ _), (by decide : 18 + 0 ≤ _)⟩)
        dsimp only [Pt.U, Pt.locs, Pt.cells, Pt.slots] at X32 l32 y32 z32 st32 hQ32
        subst l32 y32 z32
        obtain ⟨rfl, N32q, S32q⟩ := hQ32
        have N32 := Fr.app N14 N32q
        refine own_by (fun _ k => st32.trans k) ?_
        have S32 : own_S Z T32.heap n0 5 ad own_K b1 own_b13 own_a14 own_n15 own_w12 own_p16 := S32q
        show own_Fin p.tables e below _ (T32.setTop (mkF m 174 #[.val (.int p0), .val (.int p1), .val (.ref b1), .val (.ref (ad 1)), .val (.ref (ad 2)), .val (.ref (ad 3)), .val (.ref (ad 4)), .val (.ref (ad 0)), .val (.int ((p0 &&& (2147483647 : Int32)) % (3 : Int32))), .val (.int ((p1 &&& (2147483647 : Int32)) % (3 : Int32))), .val (.ref (ad 1)), .val (.ref (ad 3)), .unset] []))
        refine own_by (fun _ k => XS.aloadN X32.here hx rfl (hb hby at_174) rfl rfl k) ?_
        show own_Fin p.tables e below _ (T32.setTop (mkF m 175 #[.val (.int p0), .val (.int p1), .val (.ref b1), .val (.ref (ad 1)), .val (.ref (ad 2)), .val (.ref (ad 3)), .val (.ref (ad 4)), .val (.ref (ad 0)), .val (.int ((p0 &&& (2147483647 : Int32)) % (3 : Int32))), .val (.int ((p1 &&& (2147483647 : Int32)) % (3 : Int32))), .val (.ref (ad 1)), .val (.ref (ad 3)), .unset] [(.ref b1)]))
        refine own_by (fun _ k => XS.aload X32.here hx rfl (hb hby at_175) rfl rfl k) ?_
        show own_Fin p.tables e below _ (T32.setTop (mkF m 177 #[.val (.int p0), .val (.int p1), .val (.ref b1), .val (.ref (ad 1)), .val (.ref (ad 2)), .val (.ref (ad 3)), .val (.ref (ad 4)), .val (.ref (ad 0)), .val (.int ((p0 &&& (2147483647 : Int32)) % (3 : Int32))), .val (.int ((p1 &&& (2147483647 : Int32)) % (3 : Int32))), .val (.ref (ad 1)), .val (.ref (ad 3)), .unset] [(.ref (ad 3)), (.ref b1)]))
        obtain ⟨cq33, kq33, q33a, q33b, q33c⟩ := isOf hZ rfl S32.2.2.1
        obtain ⟨_, _, ⟨T33, L33, k33, n33⟩, -, X33, ⟨Lc33, hQ33, l33, y33, z33⟩, st33⟩ := X32.virtualBack hx (y := (⟨"com/example/brazier/brazier/keyspace/ChangeOrder", "changed", "(Lcom/example/brazier/brazier/keyspace/ChangeOrder$Link;)V"⟩ : MethodName)) (z := (⟨"com/example/brazier/brazier/keyspace/ChangeOrder", "changed", "(Lcom/example/brazier/brazier/keyspace/ChangeOrder$Link;)V"⟩ : MethodName)) hown (mvT hZ (hw _ (List.mem_of_getElem? (i := 75) rfl))) (mvT hZ (hw _ (List.mem_of_getElem? (i := 76) rfl))) (notFace_of_selects (args := #[]) (mvT hZ (hw _ (List.mem_of_getElem? (i := 78) rfl)))) (mvT hZ (hw _ (List.mem_of_getElem? (i := 78) rfl))) (mvT hZ (hw _ (List.mem_of_getElem? (i := 77) rfl))) (by decide) (backOf (W := 0) (rm13 l Z a0 hw [] 5 ad own_K b1 own_b13 own_a14 own_n15 own_w12 own_p16 3 2 T32.heap n0 S32.1 S32 sl wk (by decide) (by decide) (by decide) (fun q => absurd (by decide) q)) hZ (hw _ (List.mem_of_getElem? (i := 79) rfl)) (hw _ (List.mem_of_getElem? (i := 2) rfl)) (by decide) (by decide)) q33a q33c (g := (mkF m 177 #[.val (.int p0), .val (.int p1), .val (.ref b1), .val (.ref (ad 1)), .val (.ref (ad 2)), .val (.ref (ad 3)), .val (.ref (ad 4)), .val (.ref (ad 0)), .val (.int ((p0 &&& (2147483647 : Int32)) % (3 : Int32))), .val (.int ((p1 &&& (2147483647 : Int32)) % (3 : Int32))), .val (.ref (ad 1)), .val (.ref (ad 3)), .unset] [(.ref (ad 3)), (.ref b1)])) rfl (by rw [hml]; rfl) (Steps.refl _) (argsL := [(.ref (ad 3))]) (rest := []) (lenOf pd__Lcom_example_brazier_brazier_keyspace_ChangeOrder_Link__V rfl) rfl (by show 2 * 0 + _ ≤ _; exact Nat.le_of_eq rfl) (hb hby at_177) (fun _ _ => ⟨rfl, rfl, (by decide : 6 + 0 ≤ _), (by decide : 18 + 0 ≤ _)⟩)
        dsimp only [Pt.U, Pt.locs, Pt.cells, Pt.slots] at X33 l33 y33 z33 st33 hQ33
        subst l33 y33 z33
        obtain ⟨rfl, N33q, S33q⟩ := hQ33
        have N33 := Fr.app N32 N33q
        refine own_by (fun _ k => st33.trans k) ?_
        have S33 : own_S Z T33.heap n0 5 ad own_K b1 own_b41 own_a42 own_n43 own_w44 own_p16 := S33q
        show own_Fin p.tables e below _ (T33.setTop (mkF m 180 #[.val (.int p0), .val (.int p1), .val (.ref b1), .val (.ref (ad 1)), .val (.ref (ad 2)), .val (.ref (ad 3)), .val (.ref (ad 4)), .val (.ref (ad 0)), .val (.int ((p0 &&& (2147483647 : Int32)) % (3 : Int32))), .val (.int ((p1 &&& (2147483647 : Int32)) % (3 : Int32))), .val (.ref (ad 1)), .val (.ref (ad 3)), .unset] []))
        refine own_by (fun _ k => XS.iload X33.here hx rfl (hb hby at_180) rfl k) ?_
        show own_Fin p.tables e below _ (T33.setTop (mkF m 182 #[.val (.int p0), .val (.int p1), .val (.ref b1), .val (.ref (ad 1)), .val (.ref (ad 2)), .val (.ref (ad 3)), .val (.ref (ad 4)), .val (.ref (ad 0)), .val (.int ((p0 &&& (2147483647 : Int32)) % (3 : Int32))), .val (.int ((p1 &&& (2147483647 : Int32)) % (3 : Int32))), .val (.ref (ad 1)), .val (.ref (ad 3)), .unset] [(.int ((p0 &&& (2147483647 : Int32)) % (3 : Int32)))]))
        refine own_by (fun _ k => XS.ifNo X33.here hx rfl (hb hby at_182) rfl ((if0 _ _).trans (teq hc15).2) k) ?_
        show own_Fin p.tables e below _ (T33.setTop (mkF m 185 #[.val (.int p0), .val (.int p1), .val (.ref b1), .val (.ref (ad 1)), .val (.ref (ad 2)), .val (.ref (ad 3)), .val (.ref (ad 4)), .val (.ref (ad 0)), .val (.int ((p0 &&& (2147483647 : Int32)) % (3 : Int32))), .val (.int ((p1 &&& (2147483647 : Int32)) % (3 : Int32))), .val (.ref (ad 1)), .val (.ref (ad 3)), .unset] []))
        refine own_by (fun _ k => XS.aloadN X33.here hx rfl (hb hby at_185) rfl rfl k) ?_
        show own_Fin p.tables e below _ (T33.setTop (mkF m 186 #[.val (.int p0), .val (.int p1), .val (.ref b1), .val (.ref (ad 1)), .val (.ref (ad 2)), .val (.ref (ad 3)), .val (.ref (ad 4)), .val (.ref (ad 0)), .val (.int ((p0 &&& (2147483647 : Int32)) % (3 : Int32))), .val (.int ((p1 &&& (2147483647 : Int32)) % (3 : Int32))), .val (.ref (ad 1)), .val (.ref (ad 3)), .unset] [(.ref b1)]))
        refine own_by (fun _ k => XS.aload X33.here hx rfl (hb hby at_186) rfl rfl k) ?_
        show own_Fin p.tables e below _ (T33.setTop (mkF m 188 #[.val (.int p0), .val (.int p1), .val (.ref b1), .val (.ref (ad 1)), .val (.ref (ad 2)), .val (.ref (ad 3)), .val (.ref (ad 4)), .val (.ref (ad 0)), .val (.int ((p0 &&& (2147483647 : Int32)) % (3 : Int32))), .val (.int ((p1 &&& (2147483647 : Int32)) % (3 : Int32))), .val (.ref (ad 1)), .val (.ref (ad 3)), .unset] [(.ref (ad 0)), (.ref b1)]))
        refine own_by (fun _ k => XS.aload X33.here hx rfl (hb hby at_188) rfl rfl k) ?_
        show own_Fin p.tables e below _ (T33.setTop (mkF m 190 #[.val (.int p0), .val (.int p1), .val (.ref b1), .val (.ref (ad 1)), .val (.ref (ad 2)), .val (.ref (ad 3)), .val (.ref (ad 4)), .val (.ref (ad 0)), .val (.int ((p0 &&& (2147483647 : Int32)) % (3 : Int32))), .val (.int ((p1 &&& (2147483647 : Int32)) % (3 : Int32))), .val (.ref (ad 1)), .val (.ref (ad 3)), .unset] [(.ref (ad 4)), (.ref (ad 0)), (.ref b1)]))
        refine own_by (fun _ k => XS.aloadN X33.here hx rfl (hb hby at_190) rfl rfl k) ?_
        show own_Fin p.tables e below _ (T33.setTop (mkF m 191 #[.val (.int p0), .val (.int p1), .val (.ref b1), .val (.ref (ad 1)), .val (.ref (ad 2)), .val (.ref (ad 3)), .val (.ref (ad 4)), .val (.ref (ad 0)), .val (.int ((p0 &&& (2147483647 : Int32)) % (3 : Int32))), .val (.int ((p1 &&& (2147483647 : Int32)) % (3 : Int32))), .val (.ref (ad 1)), .val (.ref (ad 3)), .unset] [(.ref (ad 1)), (.ref (ad 4)), (.ref (ad 0)), (.ref b1)]))
        refine own_by (fun _ k => XS.aload X33.here hx rfl (hb hby at_191) rfl rfl k) ?_
        show own_Fin p.tables e below _ (T33.setTop (mkF m 193 #[.val (.int p0), .val (.int p1), .val (.ref b1), .val (.ref (ad 1)), .val (.ref (ad 2)), .val (.ref (ad 3)), .val (.ref (ad 4)), .val (.ref (ad 0)), .val (.int ((p0 &&& (2147483647 : Int32)) % (3 : Int32))), .val (.int ((p1 &&& (2147483647 : Int32)) % (3 : Int32))), .val (.ref (ad 1)), .val (.ref (ad 3)), .unset] [(.ref (ad 2)), (.ref (ad 1)), (.ref (ad 4)), (.ref (ad 0)), (.ref b1)]))
        refine own_by (fun _ k => XS.aload X33.here hx rfl (hb hby at_193) rfl rfl k) ?_
        show own_Fin p.tables e below _ (T33.setTop (mkF m 195 #[.val (.int p0), .val (.int p1), .val (.ref b1), .val (.ref (ad 1)), .val (.ref (ad 2)), .val (.ref (ad 3)), .val (.ref (ad 4)), .val (.ref (ad 0)), .val (.int ((p0 &&& (2147483647 : Int32)) % (3 : Int32))), .val (.int ((p1 &&& (2147483647 : Int32)) % (3 : Int32))), .val (.ref (ad 1)), .val (.ref (ad 3)), .unset] [(.ref (ad 3)), (.ref (ad 2)), (.ref (ad 1)), (.ref (ad 4)), (.ref (ad 0)), (.ref b1)]))
        obtain ⟨_, _, ⟨T34, L34, k34, n34⟩, -, X34, ⟨Lc34, hQ34, l34, y34, z34⟩, st34⟩ := Jvm.LawKit.callS X33 hx (y := (⟨"com/example/brazier/brazier/keyspace/ChangeOrderAddPinLaw", "ringIs", "(Lcom/example/brazier/brazier/keyspace/ChangeOrder;Lcom/example/brazier/brazier/keyspace/ChangeOrder$Link;Lcom/example/brazier/brazier/keyspace/ChangeOrder$Link;Lcom/example/brazier/brazier/keyspace/ChangeOrder$Link;Lcom/example/brazier/brazier/keyspace/ChangeOrder$Link;Lcom/example/brazier/brazier/keyspace/ChangeOrder$Link;)Z"⟩ : MethodName)) hown (mvT hZ (hw _ (List.mem_of_getElem? (i := 80) rfl))) (mvT hZ (hw _ (List.mem_of_getElem? (i := 81) rfl))) (mvT hZ (hw _ (List.mem_of_getElem? (i := 82) rfl))) (mvT hZ (hw _ (List.mem_of_getElem? (i := 83) rfl))) (by decide) (backOf (W := 0) (rm14 l Z a0 hw [] 5 ad own_K b1 own_b41 own_a42 own_n43 own_w44 own_p16 0 4 1 2 3 T33.heap n0 S33.1 S33 sl wk (by decide) (by decide) (by decide) (by decide) (by decide) (by decide) (by decide) (by decide) (by decide) (by decide)) hZ (hw _ (List.mem_of_getElem? (i := 83) rfl)) (hw _ (List.mem_of_getElem? (i := 82) rfl)) (by decide) (by decide)) (g := (mkF m 195 #[.val (.int p0), .val (.int p1), .val (.ref b1), .val (.ref (ad 1)), .val (.ref (ad 2)), .val (.ref (ad 3)), .val (.ref (ad 4)), .val (.ref (ad 0)), .val (.int ((p0 &&& (2147483647 : Int32)) % (3 : Int32))), .val (.int ((p1 &&& (2147483647 : Int32)) % (3 : Int32))), .val (.ref (ad 1)), .val (.ref (ad 3)), .unset] [(.ref (ad 3)), (.ref (ad 2)), (.ref (ad 1)), (.ref (ad 4)), (.ref (ad 0)), (.ref b1)])) rfl (by rw [hml]; rfl) (argsL := [(.ref b1), (.ref (ad 0)), (.ref (ad 4)), (.ref (ad 1)), (.ref (ad 2)), (.ref (ad 3))]) (rest := []) (lenOf pd__Lcom_example_brazier_brazier_keyspace_ChangeOrder_Lcom_example_brazier_brazier_keyspace_ChangeOrder_Link_Lcom_example_brazier_brazier_keyspace_ChangeOrder_Link_Lcom_example_brazier_brazier_keyspace_ChangeOrder_Link_Lcom_example_brazier_brazier_keyspace_ChangeOrder_Link_Lcom_example_brazier_brazier_keyspace_ChangeOrder_Link__Z rfl) rfl (by show 2 * 0 + _ ≤ _; exact Nat.le_of_eq rfl) (hb hby at_195) (fun _ _ => ⟨rfl, rfl, (by decide : 6 + 0 ≤ _), (by decide : 18 + 0 ≤ _)⟩)
        dsimp only [Pt.U, Pt.locs, Pt.cells, Pt.slots] at X34 l34 y34 z34 st34 hQ34
        subst l34 y34 z34
        obtain ⟨rfl, N34q, e34⟩ := hQ34
        have N34 := Fr.app N33 N34q
        refine own_by st34 ?_
        show own_Fin p.tables e below _ (T34.setTop (mkF m 198 #[.val (.int p0), .val (.int p1), .val (.ref b1), .val (.ref (ad 1)), .val (.ref (ad 2)), .val (.ref (ad 3)), .val (.ref (ad 4)), .val (.ref (ad 0)), .val (.int ((p0 &&& (2147483647 : Int32)) % (3 : Int32))), .val (.int ((p1 &&& (2147483647 : Int32)) % (3 : Int32))), .val (.ref (ad 1)), .val (.ref (ad 3)), .unset] [(.int (1 : Int32))]))
        refine own_by (fun _ k => XS.istore X34.here hx rfl (hb hby at_198) rfl (l' := #[.val (.int p0), .val (.int p1), .val (.ref b1), .val (.ref (ad 1)), .val (.ref (ad 2)), .val (.ref (ad 3)), .val (.ref (ad 4)), .val (.ref (ad 0)), .val (.int ((p0 &&& (2147483647 : Int32)) % (3 : Int32))), .val (.int ((p1 &&& (2147483647 : Int32)) % (3 : Int32))), .val (.ref (ad 1)), .val (.ref (ad 3)), .val (.int (1 : Int32))]) rfl k) ?_
        show own_Fin p.tables e below _ (T34.setTop (mkF m 200 #[.val (.int p0), .val (.int p1), .val (.ref b1), .val (.ref (ad 1)), .val (.ref (ad 2)), .val (.ref (ad 3)), .val (.ref (ad 4)), .val (.ref (ad 0)), .val (.int ((p0 &&& (2147483647 : Int32)) % (3 : Int32))), .val (.int ((p1 &&& (2147483647 : Int32)) % (3 : Int32))), .val (.ref (ad 1)), .val (.ref (ad 3)), .val (.int (1 : Int32))] []))
        refine own_by (fun _ k => XS.goto X34.here hx rfl (pc0 := 200) (pc' := 312) rfl (hb hby at_200) (by decide) (by decide) k) ?_
        show own_Fin p.tables e below _ (T34.setTop (mkF m 312 #[.val (.int p0), .val (.int p1), .val (.ref b1), .val (.ref (ad 1)), .val (.ref (ad 2)), .val (.ref (ad 3)), .val (.ref (ad 4)), .val (.ref (ad 0)), .val (.int ((p0 &&& (2147483647 : Int32)) % (3 : Int32))), .val (.int ((p1 &&& (2147483647 : Int32)) % (3 : Int32))), .val (.ref (ad 1)), .val (.ref (ad 3)), .val (.int (1 : Int32))] []))
        refine own_by (fun _ k => XS.iload X34.here hx rfl (hb hby at_312) rfl k) ?_
        show own_Fin p.tables e below _ (T34.setTop (mkF m 314 #[.val (.int p0), .val (.int p1), .val (.ref b1), .val (.ref (ad 1)), .val (.ref (ad 2)), .val (.ref (ad 3)), .val (.ref (ad 4)), .val (.ref (ad 0)), .val (.int ((p0 &&& (2147483647 : Int32)) % (3 : Int32))), .val (.int ((p1 &&& (2147483647 : Int32)) % (3 : Int32))), .val (.ref (ad 1)), .val (.ref (ad 3)), .val (.int (1 : Int32))] [(.int (1 : Int32))]))
        refine own_by (fun _ k => XS.ifYes X34.here hx rfl (pc0 := 314) (pc' := 319) rfl (hb hby at_314) rfl ((if0 _ _).trans (feq (by decide)).2) (by decide) (by decide) k) ?_
        show own_Fin p.tables e below _ (T34.setTop (mkF m 319 #[.val (.int p0), .val (.int p1), .val (.ref b1), .val (.ref (ad 1)), .val (.ref (ad 2)), .val (.ref (ad 3)), .val (.ref (ad 4)), .val (.ref (ad 0)), .val (.int ((p0 &&& (2147483647 : Int32)) % (3 : Int32))), .val (.int ((p1 &&& (2147483647 : Int32)) % (3 : Int32))), .val (.ref (ad 1)), .val (.ref (ad 3)), .val (.int (1 : Int32))] []))
        refine own_by (fun _ k => XS.aloadN X34.here hx rfl (hb hby at_319) rfl rfl k) ?_
        show own_Fin p.tables e below _ (T34.setTop (mkF m 320 #[.val (.int p0), .val (.int p1), .val (.ref b1), .val (.ref (ad 1)), .val (.ref (ad 2)), .val (.ref (ad 3)), .val (.ref (ad 4)), .val (.ref (ad 0)), .val (.int ((p0 &&& (2147483647 : Int32)) % (3 : Int32))), .val (.int ((p1 &&& (2147483647 : Int32)) % (3 : Int32))), .val (.ref (ad 1)), .val (.ref (ad 3)), .val (.int (1 : Int32))] [(.ref b1)]))
        refine own_by (fun _ k => XS.aload X34.here hx rfl (hb hby at_320) rfl rfl k) ?_
        show own_Fin p.tables e below _ (T34.setTop (mkF m 322 #[.val (.int p0), .val (.int p1), .val (.ref b1), .val (.ref (ad 1)), .val (.ref (ad 2)), .val (.ref (ad 3)), .val (.ref (ad 4)), .val (.ref (ad 0)), .val (.int ((p0 &&& (2147483647 : Int32)) % (3 : Int32))), .val (.int ((p1 &&& (2147483647 : Int32)) % (3 : Int32))), .val (.ref (ad 1)), .val (.ref (ad 3)), .val (.int (1 : Int32))] [(.ref (ad 4)), (.ref b1)]))
        refine own_by (fun _ k => XS.aload X34.here hx rfl (hb hby at_322) rfl rfl k) ?_
        show own_Fin p.tables e below _ (T34.setTop (mkF m 324 #[.val (.int p0), .val (.int p1), .val (.ref b1), .val (.ref (ad 1)), .val (.ref (ad 2)), .val (.ref (ad 3)), .val (.ref (ad 4)), .val (.ref (ad 0)), .val (.int ((p0 &&& (2147483647 : Int32)) % (3 : Int32))), .val (.int ((p1 &&& (2147483647 : Int32)) % (3 : Int32))), .val (.ref (ad 1)), .val (.ref (ad 3)), .val (.int (1 : Int32))] [(.ref (ad 0)), (.ref (ad 4)), (.ref b1)]))
        obtain ⟨cq35, kq35, q35a, q35b, q35c⟩ := isOf hZ e34 S33.2.2.1
        obtain ⟨_, _, ⟨T35, L35, k35, n35⟩, -, X35, ⟨Lc35, hQ35, l35, y35, z35⟩, st35⟩ := X34.virtualBack hx (y := (⟨"com/example/brazier/brazier/keyspace/ChangeOrder", "passTo", "(Lcom/example/brazier/brazier/keyspace/ChangeOrder$Place;Lcom/example/brazier/brazier/keyspace/ChangeOrder$Link;)V"⟩ : MethodName)) (z := (⟨"com/example/brazier/brazier/keyspace/ChangeOrder", "passTo", "(Lcom/example/brazier/brazier/keyspace/ChangeOrder$Place;Lcom/example/brazier/brazier/keyspace/ChangeOrder$Link;)V"⟩ : MethodName)) hown (mvT hZ (hw _ (List.mem_of_getElem? (i := 50) rfl))) (mvT hZ (hw _ (List.mem_of_getElem? (i := 51) rfl))) (notFace_of_selects (args := #[]) (mvT hZ (hw _ (List.mem_of_getElem? (i := 53) rfl)))) (mvT hZ (hw _ (List.mem_of_getElem? (i := 53) rfl))) (mvT hZ (hw _ (List.mem_of_getElem? (i := 52) rfl))) (by decide) (backOf (W := 0) (rm8 l Z a0 hw [] 5 ad own_K b1 own_b41 own_a42 own_n43 own_w44 own_p16 4 0 3 T33.heap n0 S33.1 S33 sl wk (by decide) (by decide) (by decide) (own_wf1 (q := 1) (p := 0) (by decide) (by decide) (by decide) (by decide)) (by decide)) hZ (hw _ (List.mem_of_getElem? (i := 54) rfl)) (hw _ (List.mem_of_getElem? (i := 2) rfl)) (by decide) (by decide)) q35a q35c (g := (mkF m 324 #[.val (.int p0), .val (.int p1), .val (.ref b1), .val (.ref (ad 1)), .val (.ref (ad 2)), .val (.ref (ad 3)), .val (.ref (ad 4)), .val (.ref (ad 0)), .val (.int ((p0 &&& (2147483647 : Int32)) % (3 : Int32))), .val (.int ((p1 &&& (2147483647 : Int32)) % (3 : Int32))), .val (.ref (ad 1)), .val (.ref (ad 3)), .val (.int (1 : Int32))] [(.ref (ad 0)), (.ref (ad 4)), (.ref b1)])) rfl (by rw [hml]; rfl) (Steps.refl _) (argsL := [(.ref (ad 4)), (.ref (ad 0))]) (rest := []) (lenOf pd__Lcom_example_brazier_brazier_keyspace_ChangeOrder_Place_Lcom_example_brazier_brazier_keyspace_ChangeOrder_Link__V rfl) rfl (by show 2 * 0 + _ ≤ _; exact Nat.le_of_eq rfl) (hb hby at_324) (fun _ _ => ⟨rfl, e34, (by decide : 6 + 0 ≤ _), (by decide : 18 + 0 ≤ _)⟩)
        dsimp only [Pt.U, Pt.locs, Pt.cells, Pt.slots] at X35 l35 y35 z35 st35 hQ35
        subst l35 y35 z35
        obtain ⟨rfl, N35q, S35q⟩ := hQ35
        have N35 := Fr.app N34 N35q
        refine own_by (fun _ k => st35.trans k) ?_
        have S35 : own_S Z T35.heap n0 5 ad own_K b1 own_b45 own_a46 own_n47 own_w44 own_p48 := S35q
        show own_Fin p.tables e below _ (T35.setTop (mkF m 327 #[.val (.int p0), .val (.int p1), .val (.ref b1), .val (.ref (ad 1)), .val (.ref (ad 2)), .val (.ref (ad 3)), .val (.ref (ad 4)), .val (.ref (ad 0)), .val (.int ((p0 &&& (2147483647 : Int32)) % (3 : Int32))), .val (.int ((p1 &&& (2147483647 : Int32)) % (3 : Int32))), .val (.ref (ad 1)), .val (.ref (ad 3)), .val (.int (1 : Int32))] []))
        refine own_by (fun _ k => XS.aloadN X35.here hx rfl (hb hby at_327) rfl rfl k) ?_
        show own_Fin p.tables e below _ (T35.setTop (mkF m 328 #[.val (.int p0), .val (.int p1), .val (.ref b1), .val (.ref (ad 1)), .val (.ref (ad 2)), .val (.ref (ad 3)), .val (.ref (ad 4)), .val (.ref (ad 0)), .val (.int ((p0 &&& (2147483647 : Int32)) % (3 : Int32))), .val (.int ((p1 &&& (2147483647 : Int32)) % (3 : Int32))), .val (.ref (ad 1)), .val (.ref (ad 3)), .val (.int (1 : Int32))] [(.ref b1)]))
        refine own_by (fun _ k => XS.aload X35.here hx rfl (hb hby at_328) rfl rfl k) ?_
        show own_Fin p.tables e below _ (T35.setTop (mkF m 330 #[.val (.int p0), .val (.int p1), .val (.ref b1), .val (.ref (ad 1)), .val (.ref (ad 2)), .val (.ref (ad 3)), .val (.ref (ad 4)), .val (.ref (ad 0)), .val (.int ((p0 &&& (2147483647 : Int32)) % (3 : Int32))), .val (.int ((p1 &&& (2147483647 : Int32)) % (3 : Int32))), .val (.ref (ad 1)), .val (.ref (ad 3)), .val (.int (1 : Int32))] [(.ref (ad 3)), (.ref b1)]))
        obtain ⟨cq36, kq36, q36a, q36b, q36c⟩ := isOf hZ rfl S35.2.2.1
        obtain ⟨_, _, ⟨T36, L36, k36, n36⟩, -, X36, ⟨Lc36, hQ36, l36, y36, z36⟩, st36⟩ := X35.virtualBack hx (y := (⟨"com/example/brazier/brazier/keyspace/ChangeOrder", "changed", "(Lcom/example/brazier/brazier/keyspace/ChangeOrder$Link;)V"⟩ : MethodName)) (z := (⟨"com/example/brazier/brazier/keyspace/ChangeOrder", "changed", "(Lcom/example/brazier/brazier/keyspace/ChangeOrder$Link;)V"⟩ : MethodName)) hown (mvT hZ (hw _ (List.mem_of_getElem? (i := 75) rfl))) (mvT hZ (hw _ (List.mem_of_getElem? (i := 76) rfl))) (notFace_of_selects (args := #[]) (mvT hZ (hw _ (List.mem_of_getElem? (i := 78) rfl)))) (mvT hZ (hw _ (List.mem_of_getElem? (i := 78) rfl))) (mvT hZ (hw _ (List.mem_of_getElem? (i := 77) rfl))) (by decide) (backOf (W := 0) (rm13 l Z a0 hw [] 5 ad own_K b1 own_b45 own_a46 own_n47 own_w44 own_p48 3 4 T35.heap n0 S35.1 S35 sl wk (by decide) (by decide) (by decide) (fun _ => ⟨(own_wf1 (q := 4) (p := 2) (by decide) (by decide) (by decide) (by decide)), by decide⟩)) hZ (hw _ (List.mem_of_getElem? (i := 79) rfl)) (hw _ (List.mem_of_getElem? (i := 2) rfl)) (by decide) (by decide)) q36a q36c (g := (mkF m 330 #[.val (.int p0), .val (.int p1), .val (.ref b1), .val (.ref (ad 1)), .val (.ref (ad 2)), .val (.ref (ad 3)), .val (.ref (ad 4)), .val (.ref (ad 0)), .val (.int ((p0 &&& (2147483647 : Int32)) % (3 : Int32))), .val (.int ((p1 &&& (2147483647 : Int32)) % (3 : Int32))), .val (.ref (ad 1)), .val (.ref (ad 3)), .val (.int (1 : Int32))] [(.ref (ad 3)), (.ref b1)])) rfl (by rw [hml]; rfl) (Steps.refl _) (argsL := [(.ref (ad 3))]) (rest := []) (lenOf pd__Lcom_example_brazier_brazier_keyspace_ChangeOrder_Link__V rfl) rfl (by show 2 * 0 + _ ≤ _; exact Nat.le_of_eq rfl) (hb hby at_330) (fun _ _ => ⟨rfl, rfl, (by decide : 6 + 0 ≤ _), (by decide : 18 + 0 ≤ _)⟩)
        dsimp only [Pt.U, Pt.locs, Pt.cells, Pt.slots] at X36 l36 y36 z36 st36 hQ36
        subst l36 y36 z36
        obtain ⟨rfl, N36q, S36q⟩ := hQ36
        have N36 := Fr.app N35 N36q
        refine own_by (fun _ k => st36.trans k) ?_
        have S36 : own_S Z T36.heap n0 5 ad own_K b1 own_b49 own_a50 own_n51 own_w52 own_p48 := S36q
        show own_Fin p.tables e below _ (T36.setTop (mkF m 333 #[.val (.int p0), .val (.int p1), .val (.ref b1), .val (.ref (ad 1)), .val (.ref (ad 2)), .val (.ref (ad 3)), .val (.ref (ad 4)), .val (.ref (ad 0)), .val (.int ((p0 &&& (2147483647 : Int32)) % (3 : Int32))), .val (.int ((p1 &&& (2147483647 : Int32)) % (3 : Int32))), .val (.ref (ad 1)), .val (.ref (ad 3)), .val (.int (1 : Int32))] []))
        refine own_by (fun _ k => XS.aloadN X36.here hx rfl (hb hby at_333) rfl rfl k) ?_
        show own_Fin p.tables e below _ (T36.setTop (mkF m 334 #[.val (.int p0), .val (.int p1), .val (.ref b1), .val (.ref (ad 1)), .val (.ref (ad 2)), .val (.ref (ad 3)), .val (.ref (ad 4)), .val (.ref (ad 0)), .val (.int ((p0 &&& (2147483647 : Int32)) % (3 : Int32))), .val (.int ((p1 &&& (2147483647 : Int32)) % (3 : Int32))), .val (.ref (ad 1)), .val (.ref (ad 3)), .val (.int (1 : Int32))] [(.ref b1)]))
        refine own_by (fun _ k => XS.aload X36.here hx rfl (hb hby at_334) rfl rfl k) ?_
        show own_Fin p.tables e below _ (T36.setTop (mkF m 336 #[.val (.int p0), .val (.int p1), .val (.ref b1), .val (.ref (ad 1)), .val (.ref (ad 2)), .val (.ref (ad 3)), .val (.ref (ad 4)), .val (.ref (ad 0)), .val (.int ((p0 &&& (2147483647 : Int32)) % (3 : Int32))), .val (.int ((p1 &&& (2147483647 : Int32)) % (3 : Int32))), .val (.ref (ad 1)), .val (.ref (ad 3)), .val (.int (1 : Int32))] [(.ref (ad 4)), (.ref b1)]))
        obtain ⟨cq37, kq37, q37a, q37b, q37c⟩ := isOf hZ rfl S36.2.2.1
        obtain ⟨_, _, ⟨T37, L37, k37, n37⟩, -, X37, ⟨Lc37, hQ37, l37, y37, z37⟩, st37⟩ := X36.virtualBack hx (y := (⟨"com/example/brazier/brazier/keyspace/ChangeOrder", "after", "(Lcom/example/brazier/brazier/keyspace/ChangeOrder$Link;)Lcom/example/brazier/brazier/keyspace/ChangeOrder$Link;"⟩ : MethodName)) (z := (⟨"com/example/brazier/brazier/keyspace/ChangeOrder", "after", "(Lcom/example/brazier/brazier/keyspace/ChangeOrder$Link;)Lcom/example/brazier/brazier/keyspace/ChangeOrder$Link;"⟩ : MethodName)) hown (mvT hZ (hw _ (List.mem_of_getElem? (i := 44) rfl))) (mvT hZ (hw _ (List.mem_of_getElem? (i := 45) rfl))) (notFace_of_selects (args := #[]) (mvT hZ (hw _ (List.mem_of_getElem? (i := 47) rfl)))) (mvT hZ (hw _ (List.mem_of_getElem? (i := 47) rfl))) (mvT hZ (hw _ (List.mem_of_getElem? (i := 46) rfl))) (by decide) (backOf (W := 0) (rm7 l Z a0 hw [] 5 ad own_K b1 own_b49 own_a50 own_n51 own_w52 own_p48 4 T36.heap n0 S36.1 S36 sl wk (by decide)) hZ (hw _ (List.mem_of_getElem? (i := 48) rfl)) (hw _ (List.mem_of_getElem? (i := 2) rfl)) (by decide) (by decide)) q37a q37c (g := (mkF m 336 #[.val (.int p0), .val (.int p1), .val (.ref b1), .val (.ref (ad 1)), .val (.ref (ad 2)), .val (.ref (ad 3)), .val (.ref (ad 4)), .val (.ref (ad 0)), .val (.int ((p0 &&& (2147483647 : Int32)) % (3 : Int32))), .val (.int ((p1 &&& (2147483647 : Int32)) % (3 : Int32))), .val (.ref (ad 1)), .val (.ref (ad 3)), .val (.int (1 : Int32))] [(.ref (ad 4)), (.ref b1)])) rfl (by rw [hml]; rfl) (Steps.refl _) (argsL := [(.ref (ad 4))]) (rest := []) (lenOf pd__Lcom_example_brazier_brazier_keyspace_ChangeOrder_Link__Lcom_example_brazier_brazier_keyspace_ChangeOrder_Link_ rfl) rfl (by show 2 * 0 + _ ≤ _; exact Nat.le_of_eq rfl) (hb hby at_336) (fun _ _ => ⟨rfl, rfl, (by decide : 6 + 0 ≤ _), (by decide : 18 + 0 ≤ _)⟩)
        dsimp only [Pt.U, Pt.locs, Pt.cells, Pt.slots] at X37 l37 y37 z37 st37 hQ37
        subst l37 y37 z37
        obtain ⟨hv37, N37q, e37⟩ := hQ37
        obtain rfl := hv37.trans (congrArg some (show own_nx ad (own_a50 4) = (.ref (ad 3)) from (by rw [show own_a50 4 = some 3 from by decide]; rfl)))
        have N37 := Fr.app N36 N37q
        refine own_by (fun _ k => st37.trans k) ?_
        show own_Fin p.tables e below _ (T37.setTop (mkF m 339 #[.val (.int p0), .val (.int p1), .val (.ref b1), .val (.ref (ad 1)), .val (.ref (ad 2)), .val (.ref (ad 3)), .val (.ref (ad 4)), .val (.ref (ad 0)), .val (.int ((p0 &&& (2147483647 : Int32)) % (3 : Int32))), .val (.int ((p1 &&& (2147483647 : Int32)) % (3 : Int32))), .val (.ref (ad 1)), .val (.ref (ad 3)), .val (.int (1 : Int32))] [(.ref (ad 3))]))
        refine own_by (fun _ k => XS.aload X37.here hx rfl (hb hby at_339) rfl rfl k) ?_
        show own_Fin p.tables e below _ (T37.setTop (mkF m 341 #[.val (.int p0), .val (.int p1), .val (.ref b1), .val (.ref (ad 1)), .val (.ref (ad 2)), .val (.ref (ad 3)), .val (.ref (ad 4)), .val (.ref (ad 0)), .val (.int ((p0 &&& (2147483647 : Int32)) % (3 : Int32))), .val (.int ((p1 &&& (2147483647 : Int32)) % (3 : Int32))), .val (.ref (ad 1)), .val (.ref (ad 3)), .val (.int (1 : Int32))] [(.ref (ad 3)), (.ref (ad 3))]))
        refine own_by (fun _ k => Jvm.RoadKit.acmp (g := (mkF m 341 #[.val (.int p0), .val (.int p1), .val (.ref b1), .val (.ref (ad 1)), .val (.ref (ad 2)), .val (.ref (ad 3)), .val (.ref (ad 4)), .val (.ref (ad 0)), .val (.int ((p0 &&& (2147483647 : Int32)) % (3 : Int32))), .val (.int ((p1 &&& (2147483647 : Int32)) % (3 : Int32))), .val (.ref (ad 1)), .val (.ref (ad 3)), .val (.int (1 : Int32))] [(.ref (ad 3)), (.ref (ad 3))])) X37 hx rfl rfl rfl (pc0 := 341) (pc' := 344) (same := true) rfl (hb hby at_341) rfl (decide_eq_true rfl) (by decide) (by decide) k) ?_
        show own_Fin p.tables e below _ (T37.setTop (mkF m 344 #[.val (.int p0), .val (.int p1), .val (.ref b1), .val (.ref (ad 1)), .val (.ref (ad 2)), .val (.ref (ad 3)), .val (.ref (ad 4)), .val (.ref (ad 0)), .val (.int ((p0 &&& (2147483647 : Int32)) % (3 : Int32))), .val (.int ((p1 &&& (2147483647 : Int32)) % (3 : Int32))), .val (.ref (ad 1)), .val (.ref (ad 3)), .val (.int (1 : Int32))] []))
        refine own_by (fun _ k => XS.aloadN X37.here hx rfl (hb hby at_344) rfl rfl k) ?_
        show own_Fin p.tables e below _ (T37.setTop (mkF m 345 #[.val (.int p0), .val (.int p1), .val (.ref b1), .val (.ref (ad 1)), .val (.ref (ad 2)), .val (.ref (ad 3)), .val (.ref (ad 4)), .val (.ref (ad 0)), .val (.int ((p0 &&& (2147483647 : Int32)) % (3 : Int32))), .val (.int ((p1 &&& (2147483647 : Int32)) % (3 : Int32))), .val (.ref (ad 1)), .val (.ref (ad 3)), .val (.int (1 : Int32))] [(.ref b1)]))
        refine own_by (fun _ k => XS.aload X37.here hx rfl (hb hby at_345) rfl rfl k) ?_
        show own_Fin p.tables e below _ (T37.setTop (mkF m 347 #[.val (.int p0), .val (.int p1), .val (.ref b1), .val (.ref (ad 1)), .val (.ref (ad 2)), .val (.ref (ad 3)), .val (.ref (ad 4)), .val (.ref (ad 0)), .val (.int ((p0 &&& (2147483647 : Int32)) % (3 : Int32))), .val (.int ((p1 &&& (2147483647 : Int32)) % (3 : Int32))), .val (.ref (ad 1)), .val (.ref (ad 3)), .val (.int (1 : Int32))] [(.ref (ad 3)), (.ref b1)]))
        obtain ⟨cq38, kq38, q38a, q38b, q38c⟩ := isOf hZ e37 S36.2.2.1
        obtain ⟨_, _, ⟨T38, L38, k38, n38⟩, -, X38, ⟨Lc38, hQ38, l38, y38, z38⟩, st38⟩ := X37.virtualBack hx (y := (⟨"com/example/brazier/brazier/keyspace/ChangeOrder", "after", "(Lcom/example/brazier/brazier/keyspace/ChangeOrder$Link;)Lcom/example/brazier/brazier/keyspace/ChangeOrder$Link;"⟩ : MethodName)) (z := (⟨"com/example/brazier/brazier/keyspace/ChangeOrder", "after", "(Lcom/example/brazier/brazier/keyspace/ChangeOrder$Link;)Lcom/example/brazier/brazier/keyspace/ChangeOrder$Link;"⟩ : MethodName)) hown (mvT hZ (hw _ (List.mem_of_getElem? (i := 44) rfl))) (mvT hZ (hw _ (List.mem_of_getElem? (i := 45) rfl))) (notFace_of_selects (args := #[]) (mvT hZ (hw _ (List.mem_of_getElem? (i := 47) rfl)))) (mvT hZ (hw _ (List.mem_of_getElem? (i := 47) rfl))) (mvT hZ (hw _ (List.mem_of_getElem? (i := 46) rfl))) (by decide) (backOf (W := 0) (rm7 l Z a0 hw [] 5 ad own_K b1 own_b49 own_a50 own_n51 own_w52 own_p48 3 T36.heap n0 S36.1 S36 sl wk (by decide)) hZ (hw _ (List.mem_of_getElem? (i := 48) rfl)) (hw _ (List.mem_of_getElem? (i := 2) rfl)) (by decide) (by decide)) q38a q38c (g := (mkF m 347 #[.val (.int p0), .val (.int p1), .val (.ref b1), .val (.ref (ad 1)), .val (.ref (ad 2)), .val (.ref (ad 3)), .val (.ref (ad 4)), .val (.ref (ad 0)), .val (.int ((p0 &&& (2147483647 : Int32)) % (3 : Int32))), .val (.int ((p1 &&& (2147483647 : Int32)) % (3 : Int32))), .val (.ref (ad 1)), .val (.ref (ad 3)), .val (.int (1 : Int32))] [(.ref (ad 3)), (.ref b1)])) rfl (by rw [hml]; rfl) (Steps.refl _) (argsL := [(.ref (ad 3))]) (rest := []) (lenOf pd__Lcom_example_brazier_brazier_keyspace_ChangeOrder_Link__Lcom_example_brazier_brazier_keyspace_ChangeOrder_Link_ rfl) rfl (by show 2 * 0 + _ ≤ _; exact Nat.le_of_eq rfl) (hb hby at_347) (fun _ _ => ⟨rfl, e37, (by decide : 6 + 0 ≤ _), (by decide : 18 + 0 ≤ _)⟩)
        dsimp only [Pt.U, Pt.locs, Pt.cells, Pt.slots] at X38 l38 y38 z38 st38 hQ38
        subst l38 y38 z38
        obtain ⟨hv38, N38q, e38⟩ := hQ38
        obtain rfl := hv38.trans (congrArg some (show own_nx ad (own_a50 3) = (.ref (ad 0)) from (by rw [show own_a50 3 = some 0 from by decide]; rfl)))
        have N38 := Fr.app N37 N38q
        refine own_by (fun _ k => st38.trans k) ?_
        show own_Fin p.tables e below _ (T38.setTop (mkF m 350 #[.val (.int p0), .val (.int p1), .val (.ref b1), .val (.ref (ad 1)), .val (.ref (ad 2)), .val (.ref (ad 3)), .val (.ref (ad 4)), .val (.ref (ad 0)), .val (.int ((p0 &&& (2147483647 : Int32)) % (3 : Int32))), .val (.int ((p1 &&& (2147483647 : Int32)) % (3 : Int32))), .val (.ref (ad 1)), .val (.ref (ad 3)), .val (.int (1 : Int32))] [(.ref (ad 0))]))
        refine own_by (fun _ k => XS.aload X38.here hx rfl (hb hby at_350) rfl rfl k) ?_
        show own_Fin p.tables e below _ (T38.setTop (mkF m 352 #[.val (.int p0), .val (.int p1), .val (.ref b1), .val (.ref (ad 1)), .val (.ref (ad 2)), .val (.ref (ad 3)), .val (.ref (ad 4)), .val (.ref (ad 0)), .val (.int ((p0 &&& (2147483647 : Int32)) % (3 : Int32))), .val (.int ((p1 &&& (2147483647 : Int32)) % (3 : Int32))), .val (.ref (ad 1)), .val (.ref (ad 3)), .val (.int (1 : Int32))] [(.ref (ad 0)), (.ref (ad 0))]))
        refine own_by (fun _ k => Jvm.RoadKit.acmp (g := (mkF m 352 #[.val (.int p0), .val (.int p1), .val (.ref b1), .val (.ref (ad 1)), .val (.ref (ad 2)), .val (.ref (ad 3)), .val (.ref (ad 4)), .val (.ref (ad 0)), .val (.int ((p0 &&& (2147483647 : Int32)) % (3 : Int32))), .val (.int ((p1 &&& (2147483647 : Int32)) % (3 : Int32))), .val (.ref (ad 1)), .val (.ref (ad 3)), .val (.int (1 : Int32))] [(.ref (ad 0)), (.ref (ad 0))])) X38 hx rfl rfl rfl (pc0 := 352) (pc' := 355) (same := true) rfl (hb hby at_352) rfl (decide_eq_true rfl) (by decide) (by decide) k) ?_
        show own_Fin p.tables e below _ (T38.setTop (mkF m 355 #[.val (.int p0), .val (.int p1), .val (.ref b1), .val (.ref (ad 1)), .val (.ref (ad 2)), .val (.ref (ad 3)), .val (.ref (ad 4)), .val (.ref (ad 0)), .val (.int ((p0 &&& (2147483647 : Int32)) % (3 : Int32))), .val (.int ((p1 &&& (2147483647 : Int32)) % (3 : Int32))), .val (.ref (ad 1)), .val (.ref (ad 3)), .val (.int (1 : Int32))] []))
        refine own_by (fun _ k => XS.iconst X38.here hx rfl (hb hby at_355) k) ?_
        show own_Fin p.tables e below _ (T38.setTop (mkF m 356 #[.val (.int p0), .val (.int p1), .val (.ref b1), .val (.ref (ad 1)), .val (.ref (ad 2)), .val (.ref (ad 3)), .val (.ref (ad 4)), .val (.ref (ad 0)), .val (.int ((p0 &&& (2147483647 : Int32)) % (3 : Int32))), .val (.int ((p1 &&& (2147483647 : Int32)) % (3 : Int32))), .val (.ref (ad 1)), .val (.ref (ad 3)), .val (.int (1 : Int32))] [(.int (1 : Int32))]))
        refine own_by (fun _ k => XS.goto X38.here hx rfl (pc0 := 356) (pc' := 360) rfl (hb hby at_356) (by decide) (by decide) k) ?_
        show own_Fin p.tables e below _ (T38.setTop (mkF m 360 #[.val (.int p0), .val (.int p1), .val (.ref b1), .val (.ref (ad 1)), .val (.ref (ad 2)), .val (.ref (ad 3)), .val (.ref (ad 4)), .val (.ref (ad 0)), .val (.int ((p0 &&& (2147483647 : Int32)) % (3 : Int32))), .val (.int ((p1 &&& (2147483647 : Int32)) % (3 : Int32))), .val (.ref (ad 1)), .val (.ref (ad 3)), .val (.int (1 : Int32))] [(.int (1 : Int32))]))
        have ef : f0 p0 p1 = (1 : Int32) := by unfold f0; rw [if_pos hc15, if_neg hc16, if_neg hc24]
        exact own_retN X38 hx (t := .boolean) Bd.returns hlk (by simp) (hb hby at_360) (by decide) (by decide) ⟨by rw [ef]; rfl, N38⟩
  · refine own_by (fun _ k => XS.ifYes X14.here hx rfl (pc0 := 120) (pc' := 127) rfl (hb hby at_120) rfl ((if0 _ _).trans (feq hc15).2) (by decide) (by decide) k) ?_
    show own_Fin p.tables e below _ (T14.setTop (mkF m 127 #[.val (.int p0), .val (.int p1), .val (.ref b1), .val (.ref (ad 1)), .val (.ref (ad 2)), .val (.ref (ad 3)), .val (.ref (ad 4)), .val (.ref (ad 0)), .val (.int ((p0 &&& (2147483647 : Int32)) % (3 : Int32))), .val (.int ((p1 &&& (2147483647 : Int32)) % (3 : Int32))), .unset, .unset, .unset] []))
    refine own_by (fun _ k => XS.iload X14.here hx rfl (hb hby at_127) rfl k) ?_
    show own_Fin p.tables e below _ (T14.setTop (mkF m 129 #[.val (.int p0), .val (.int p1), .val (.ref b1), .val (.ref (ad 1)), .val (.ref (ad 2)), .val (.ref (ad 3)), .val (.ref (ad 4)), .val (.ref (ad 0)), .val (.int ((p0 &&& (2147483647 : Int32)) % (3 : Int32))), .val (.int ((p1 &&& (2147483647 : Int32)) % (3 : Int32))), .unset, .unset, .unset] [(.int ((p0 &&& (2147483647 : Int32)) % (3 : Int32)))]))
    refine own_by (fun _ k => XS.iconst X14.here hx rfl (hb hby at_129) k) ?_
    show own_Fin p.tables e below _ (T14.setTop (mkF m 130 #[.val (.int p0), .val (.int p1), .val (.ref b1), .val (.ref (ad 1)), .val (.ref (ad 2)), .val (.ref (ad 3)), .val (.ref (ad 4)), .val (.ref (ad 0)), .val (.int ((p0 &&& (2147483647 : Int32)) % (3 : Int32))), .val (.int ((p1 &&& (2147483647 : Int32)) % (3 : Int32))), .unset, .unset, .unset] [(.int (1 : Int32)), (.int ((p0 &&& (2147483647 : Int32)) % (3 : Int32)))]))
    by_cases hc39 : ((p0 &&& (2147483647 : Int32)) % (3 : Int32)) = (1 : Int32)
    · refine own_by (fun _ k => XS.icmpNo X14.here hx rfl (hb hby at_130) rfl (teq hc39).2 k) ?_
      show own_Fin p.tables e below _ (T14.setTop (mkF m 133 #[.val (.int p0), .val (.int p1), .val (.ref b1), .val (.ref (ad 1)), .val (.ref (ad 2)), .val (.ref (ad 3)), .val (.ref (ad 4)), .val (.ref (ad 0)), .val (.int ((p0 &&& (2147483647 : Int32)) % (3 : Int32))), .val (.int ((p1 &&& (2147483647 : Int32)) % (3 : Int32))), .unset, .unset, .unset] []))
      refine own_by (fun _ k => XS.aload X14.here hx rfl (hb hby at_133) rfl rfl k) ?_
      show own_Fin p.tables e below _ (T14.setTop (mkF m 135 #[.val (.int p0), .val (.int p1), .val (.ref b1), .val (.ref (ad 1)), .val (.ref (ad 2)), .val (.ref (ad 3)), .val (.ref (ad 4)), .val (.ref (ad 0)), .val (.int ((p0 &&& (2147483647 : Int32)) % (3 : Int32))), .val (.int ((p1 &&& (2147483647 : Int32)) % (3 : Int32))), .unset, .unset, .unset] [(.ref (ad 2))]))
      refine own_by (fun _ k => XS.goto X14.here hx rfl (pc0 := 135) (pc' := 140) rfl (hb hby at_135) (by decide) (by decide) k) ?_
      show own_Fin p.tables e below _ (T14.setTop (mkF m 140 #[.val (.int p0), .val (.int p1), .val (.ref b1), .val (.ref (ad 1)), .val (.ref (ad 2)), .val (.ref (ad 3)), .val (.ref (ad 4)), .val (.ref (ad 0)), .val (.int ((p0 &&& (2147483647 : Int32)) % (3 : Int32))), .val (.int ((p1 &&& (2147483647 : Int32)) % (3 : Int32))), .unset, .unset, .unset] [(.ref (ad 2))]))
      refine own_by (fun _ k => XS.astore X14.here hx rfl (hb hby at_140) rfl rfl (l' := #[.val (.int p0), .val (.int p1), .val (.ref b1), .val (.ref (ad 1)), .val (.ref (ad 2)), .val (.ref (ad 3)), .val (.ref (ad 4)), .val (.ref (ad 0)), .val (.int ((p0 &&& (2147483647 : Int32)) % (3 : Int32))), .val (.int ((p1 &&& (2147483647 : Int32)) % (3 : Int32))), .val (.ref (ad 2)), .unset, .unset]) rfl k) ?_
      show own_Fin p.tables e below _ (T14.setTop (mkF m 142 #[.val (.int p0), .val (.int p1), .val (.ref b1), .val (.ref (ad 1)), .val (.ref (ad 2)), .val (.ref (ad 3)), .val (.ref (ad 4)), .val (.ref (ad 0)), .val (.int ((p0 &&& (2147483647 : Int32)) % (3 : Int32))), .val (.int ((p1 &&& (2147483647 : Int32)) % (3 : Int32))), .val (.ref (ad 2)), .unset, .unset] []))
      refine own_by (fun _ k => XS.iload X14.here hx rfl (hb hby at_142) rfl k) ?_
      show own_Fin p.tables e below _ (T14.setTop (mkF m 144 #[.val (.int p0), .val (.int p1), .val (.ref b1), .val (.ref (ad 1)), .val (.ref (ad 2)), .val (.ref (ad 3)), .val (.ref (ad 4)), .val (.ref (ad 0)), .val (.int ((p0 &&& (2147483647 : Int32)) % (3 : Int32))), .val (.int ((p1 &&& (2147483647 : Int32)) % (3 : Int32))), .val (.ref (ad 2)), .unset, .unset] [(.int ((p1 &&& (2147483647 : Int32)) % (3 : Int32)))]))
      by_cases hc40 : ((p1 &&& (2147483647 : Int32)) % (3 : Int32)) = (0 : Int32)
      · refine own_by (fun _ k => XS.ifNo X14.here hx rfl (hb hby at_144) rfl ((if0 _ _).trans (teq hc40).2) k) ?_
        show own_Fin p.tables e below _ (T14.setTop (mkF m 147 #[.val (.int p0), .val (.int p1), .val (.ref b1), .val (.ref (ad 1)), .val (.ref (ad 2)), .val (.ref (ad 3)), .val (.ref (ad 4)), .val (.ref (ad 0)), .val (.int ((p0 &&& (2147483647 : Int32)) % (3 : Int32))), .val (.int ((p1 &&& (2147483647 : Int32)) % (3 : Int32))), .val (.ref (ad 2)), .unset, .unset] []))
        refine own_by (fun _ k => XS.aloadN X14.here hx rfl (hb hby at_147) rfl rfl k) ?_
        show own_Fin p.tables e below _ (T14.setTop (mkF m 148 #[.val (.int p0), .val (.int p1), .val (.ref b1), .val (.ref (ad 1)), .val (.ref (ad 2)), .val (.ref (ad 3)), .val (.ref (ad 4)), .val (.ref (ad 0)), .val (.int ((p0 &&& (2147483647 : Int32)) % (3 : Int32))), .val (.int ((p1 &&& (2147483647 : Int32)) % (3 : Int32))), .val (.ref (ad 2)), .unset, .unset] [(.ref (ad 1))]))
        refine own_by (fun _ k => XS.goto X14.here hx rfl (pc0 := 148) (pc' := 164) rfl (hb hby at_148) (by decide) (by decide) k) ?_
        show own_Fin p.tables e below _ (T14.setTop (mkF m 164 #[.val (.int p0), .val (.int p1), .val (.ref b1), .val (.ref (ad 1)), .val (.ref (ad 2)), .val (.ref (ad 3)), .val (.ref (ad 4)), .val (.ref (ad 0)), .val (.int ((p0 &&& (2147483647 : Int32)) % (3 : Int32))), .val (.int ((p1 &&& (2147483647 : Int32)) % (3 : Int32))), .val (.ref (ad 2)), .unset, .unset] [(.ref (ad 1))]))
        refine own_by (fun _ k => XS.astore X14.here hx rfl (hb hby at_164) rfl rfl (l' := #[.val (.int p0), .val (.int p1), .val (.ref b1), .val (.ref (ad 1)), .val (.ref (ad 2)), .val (.ref (ad 3)), .val (.ref (ad 4)), .val (.ref (ad 0)), .val (.int ((p0 &&& (2147483647 : Int32)) % (3 : Int32))), .val (.int ((p1 &&& (2147483647 : Int32)) % (3 : Int32))), .val (.ref (ad 2)), .val (.ref (ad 1)), .unset]) rfl k) ?_
        show own_Fin p.tables e below _ (T14.setTop (mkF m 166 #[.val (.int p0), .val (.int p1), .val (.ref b1), .val (.ref (ad 1)), .val (.ref (ad 2)), .val (.ref (ad 3)), .val (.ref (ad 4)), .val (.ref (ad 0)), .val (.int ((p0 &&& (2147483647 : Int32)) % (3 : Int32))), .val (.int ((p1 &&& (2147483647 : Int32)) % (3 : Int32))), .val (.ref (ad 2)), .val (.ref (ad 1)), .unset] []))
        refine own_by (fun _ k => XS.aloadN X14.here hx rfl (hb hby at_166) rfl rfl k) ?_
        show own_Fin p.tables e below _ (T14.setTop (mkF m 167 #[.val (.int p0), .val (.int p1), .val (.ref b1), .val (.ref (ad 1)), .val (.ref (ad 2)), .val (.ref (ad 3)), .val (.ref (ad 4)), .val (.ref (ad 0)), .val (.int ((p0 &&& (2147483647 : Int32)) % (3 : Int32))), .val (.int ((p1 &&& (2147483647 : Int32)) % (3 : Int32))), .val (.ref (ad 2)), .val (.ref (ad 1)), .unset] [(.ref b1)]))
        refine own_by (fun _ k => XS.aload X14.here hx rfl (hb hby at_167) rfl rfl k) ?_
        show own_Fin p.tables e below _ (T14.setTop (mkF m 169 #[.val (.int p0), .val (.int p1), .val (.ref b1), .val (.ref (ad 1)), .val (.ref (ad 2)), .val (.ref (ad 3)), .val (.ref (ad 4)), .val (.ref (ad 0)), .val (.int ((p0 &&& (2147483647 : Int32)) % (3 : Int32))), .val (.int ((p1 &&& (2147483647 : Int32)) % (3 : Int32))), .val (.ref (ad 2)), .val (.ref (ad 1)), .unset] [(.ref (ad 4)), (.ref b1)]))
        refine own_by (fun _ k => XS.aload X14.here hx rfl (hb hby at_169) rfl rfl k) ?_
        show own_Fin p.tables e below _ (T14.setTop (mkF m 171 #[.val (.int p0), .val (.int p1), .val (.ref b1), .val (.ref (ad 1)), .val (.ref (ad 2)), .val (.ref (ad 3)), .val (.ref (ad 4)), .val (.ref (ad 0)), .val (.int ((p0 &&& (2147483647 : Int32)) % (3 : Int32))), .val (.int ((p1 &&& (2147483647 : Int32)) % (3 : Int32))), .val (.ref (ad 2)), .val (.ref (ad 1)), .unset] [(.ref (ad 2)), (.ref (ad 4)), (.ref b1)]))
        obtain ⟨cq41, kq41, q41a, q41b, q41c⟩ := isOf hZ e14 S13.2.2.1
        obtain ⟨_, _, ⟨T41, L41, k41, n41⟩, -, X41, ⟨Lc41, hQ41, l41, y41, z41⟩, st41⟩ := X14.virtualBack hx (y := (⟨"com/example/brazier/brazier/keyspace/ChangeOrder", "passTo", "(Lcom/example/brazier/brazier/keyspace/ChangeOrder$Place;Lcom/example/brazier/brazier/keyspace/ChangeOrder$Link;)V"⟩ : MethodName)) (z := (⟨"com/example/brazier/brazier/keyspace/ChangeOrder", "passTo", "(Lcom/example/brazier/brazier/keyspace/ChangeOrder$Place;Lcom/example/brazier/brazier/keyspace/ChangeOrder$Link;)V"⟩ : MethodName)) hown (mvT hZ (hw _ (List.mem_of_getElem? (i := 50) rfl))) (mvT hZ (hw _ (List.mem_of_getElem? (i := 51) rfl))) (notFace_of_selects (args := #[]) (mvT hZ (hw _ (List.mem_of_getElem? (i := 53) rfl)))) (mvT hZ (hw _ (List.mem_of_getElem? (i := 53) rfl))) (mvT hZ (hw _ (List.mem_of_getElem? (i := 52) rfl))) (by decide) (backOf (W := 0) (rm8 l Z a0 hw [] 5 ad own_K b1 own_b9 own_a10 own_n11 own_w12 own_w0 4 2 1 T13.heap n0 S13.1 S13 sl wk (by decide) (by decide) (by decide) (own_wf0 (by decide)) (by decide)) hZ (hw _ (List.mem_of_getElem? (i := 54) rfl)) (hw _ (List.mem_of_getElem? (i := 2) rfl)) (by decide) (by decide)) q41a q41c (g := (mkF m 171 #[.val (.int p0), .val (.int p1), .val (.ref b1), .val (.ref (ad 1)), .val (.ref (ad 2)), .val (.ref (ad 3)), .val (.ref (ad 4)), .val (.ref (ad 0)), .val (.int ((p0 &&& (2147483647 : Int32)) % (3 : Int32))), .val (.int ((p1 &&& (2147483647 : Int32)) % (3 : Int32))), .val (.ref (ad 2)), .val (.ref (ad 1)), .unset] [(.ref (ad 2)), (.ref (ad 4)), (.ref b1)])) rfl (by rw [hml]; rfl) (Steps.refl _) (argsL := [(.ref (ad 4)), (.ref (ad 2))]) (rest := []) (lenOf pd__Lcom_example_brazier_brazier_keyspace_ChangeOrder_Place_Lcom_example_brazier_brazier_keyspace_ChangeOrder_Link__V rfl) rfl (by show 2 * 0 + _ ≤ _; exact Nat.le_of_eq rfl) (hb hby at_171) (fun _ _ => ⟨rfl, e14, (by decide : 6 + 0 ≤ _), (by decide : 18 + 0 ≤ _)⟩)
        dsimp only [Pt.U, Pt.locs, Pt.cells, Pt.slots] at X41 l41 y41 z41 st41 hQ41
        subst l41 y41 z41
        obtain ⟨rfl, N41q, S41q⟩ := hQ41
        have N41 := Fr.app N14 N41q
        refine own_by (fun _ k => st41.trans k) ?_
        have S41 : own_S Z T41.heap n0 5 ad own_K b1 own_b53 own_a54 own_n55 own_w12 own_p56 := S41q
        show own_Fin p.tables e below _ (T41.setTop (mkF m 174 #[.val (.int p0), .val (.int p1), .val (.ref b1), .val (.ref (ad 1)), .val (.ref (ad 2)), .val (.ref (ad 3)), .val (.ref (ad 4)), .val (.ref (ad 0)), .val (.int ((p0 &&& (2147483647 : Int32)) % (3 : Int32))), .val (.int ((p1 &&& (2147483647 : Int32)) % (3 : Int32))), .val (.ref (ad 2)), .val (.ref (ad 1)), .unset] []))
        refine own_by (fun _ k => XS.aloadN X41.here hx rfl (hb hby at_174) rfl rfl k) ?_
        show own_Fin p.tables e below _ (T41.setTop (mkF m 175 #[.val (.int p0), .val (.int p1), .val (.ref b1), .val (.ref (ad 1)), .val (.ref (ad 2)), .val (.ref (ad 3)), .val (.ref (ad 4)), .val (.ref (ad 0)), .val (.int ((p0 &&& (2147483647 : Int32)) % (3 : Int32))), .val (.int ((p1 &&& (2147483647 : Int32)) % (3 : Int32))), .val (.ref (ad 2)), .val (.ref (ad 1)), .unset] [(.ref b1)]))
        refine own_by (fun _ k => XS.aload X41.here hx rfl (hb hby at_175) rfl rfl k) ?_
        show own_Fin p.tables e below _ (T41.setTop (mkF m 177 #[.val (.int p0), .val (.int p1), .val (.ref b1), .val (.ref (ad 1)), .val (.ref (ad 2)), .val (.ref (ad 3)), .val (.ref (ad 4)), .val (.ref (ad 0)), .val (.int ((p0 &&& (2147483647 : Int32)) % (3 : Int32))), .val (.int ((p1 &&& (2147483647 : Int32)) % (3 : Int32))), .val (.ref (ad 2)), .val (.ref (ad 1)), .unset] [(.ref (ad 1)), (.ref b1)]))
        obtain ⟨cq42, kq42, q42a, q42b, q42c⟩ := isOf hZ rfl S41.2.2.1
        obtain ⟨_, _, ⟨T42, L42, k42, n42⟩, -, X42, ⟨Lc42, hQ42, l42, y42, z42⟩, st42⟩ := X41.virtualBack hx (y := (⟨"com/example/brazier/brazier/keyspace/ChangeOrder", "changed", "(Lcom/example/brazier/brazier/keyspace/ChangeOrder$Link;)V"⟩ : MethodName)) (z := (⟨"com/example/brazier/brazier/keyspace/ChangeOrder", "changed", "(Lcom/example/brazier/brazier/keyspace/ChangeOrder$Link;)V"⟩ : MethodName)) hown (mvT hZ (hw _ (List.mem_of_getElem? (i := 75) rfl))) (mvT hZ (hw _ (List.mem_of_getElem? (i := 76) rfl))) (notFace_of_selects (args := #[]) (mvT hZ (hw _ (List.mem_of_getElem? (i := 78) rfl)))) (mvT hZ (hw _ (List.mem_of_getElem? (i := 78) rfl))) (mvT hZ (hw _ (List.mem_of_getElem? (i := 77) rfl))) (by decide) (backOf (W := 0) (rm13 l Z a0 hw [] 5 ad own_K b1 own_b53 own_a54 own_n55 own_w12 own_p56 1 3 T41.heap n0 S41.1 S41 sl wk (by decide) (by decide) (by decide) (fun _ => ⟨(own_wf1 (q := 4) (p := 0) (by decide) (by decide) (by decide) (by decide)), by decide⟩)) hZ (hw _ (List.mem_of_getElem? (i := 79) rfl)) (hw _ (List.mem_of_getElem? (i := 2) rfl)) (by decide) (by decide)) q42a q42c (g := (mkF m 177 #[.val (.int p0), .val (.int p1), .val (.ref b1), .val (.ref (ad 1)), .val (.ref (ad 2)), .val (.ref (ad 3)), .val (.ref (ad 4)), .val (.ref (ad 0)), .val (.int ((p0 &&& (2147483647 : Int32)) % (3 : Int32))), .val (.int ((p1 &&& (2147483647 : Int32)) % (3 : Int32))), .val (.ref (ad 2)), .val (.ref (ad 1)), .unset] [(.ref (ad 1)), (.ref b1)])) rfl (by rw [hml]; rfl) (Steps.refl _) (argsL := [(.ref (ad 1))]) (rest := []) (lenOf pd__Lcom_example_brazier_brazier_keyspace_ChangeOrder_Link__V rfl) rfl (by show 2 * 0 + _ ≤ _; exact Nat.le_of_eq rfl) (hb hby at_177) (fun _ _ => ⟨rfl, rfl, (by decide : 6 + 0 ≤ _), (by decide : 18 + 0 ≤ _)⟩)
        dsimp only [Pt.U, Pt.locs, Pt.cells, Pt.slots] at X42 l42 y42 z42 st42 hQ42
        subst l42 y42 z42
        obtain ⟨rfl, N42q, S42q⟩ := hQ42
        have N42 := Fr.app N41 N42q
        refine own_by (fun _ k => st42.trans k) ?_
        have S42 : own_S Z T42.heap n0 5 ad own_K b1 own_b57 own_a58 own_n59 own_w60 own_p56 := S42q
        show own_Fin p.tables e below _ (T42.setTop (mkF m 180 #[.val (.int p0), .val (.int p1), .val (.ref b1), .val (.ref (ad 1)), .val (.ref (ad 2)), .val (.ref (ad 3)), .val (.ref (ad 4)), .val (.ref (ad 0)), .val (.int ((p0 &&& (2147483647 : Int32)) % (3 : Int32))), .val (.int ((p1 &&& (2147483647 : Int32)) % (3 : Int32))), .val (.ref (ad 2)), .val (.ref (ad 1)), .unset] []))
        refine own_by (fun _ k => XS.iload X42.here hx rfl (hb hby at_180) rfl k) ?_
        show own_Fin p.tables e below _ (T42.setTop (mkF m 182 #[.val (.int p0), .val (.int p1), .val (.ref b1), .val (.ref (ad 1)), .val (.ref (ad 2)), .val (.ref (ad 3)), .val (.ref (ad 4)), .val (.ref (ad 0)), .val (.int ((p0 &&& (2147483647 : Int32)) % (3 : Int32))), .val (.int ((p1 &&& (2147483647 : Int32)) % (3 : Int32))), .val (.ref (ad 2)), .val (.ref (ad 1)), .unset] [(.int ((p0 &&& (2147483647 : Int32)) % (3 : Int32)))]))
        refine own_by (fun _ k => XS.ifYes X42.here hx rfl (pc0 := 182) (pc' := 203) rfl (hb hby at_182) rfl ((if0 _ _).trans (feq hc15).2) (by decide) (by decide) k) ?_
        show own_Fin p.tables e below _ (T42.setTop (mkF m 203 #[.val (.int p0), .val (.int p1), .val (.ref b1), .val (.ref (ad 1)), .val (.ref (ad 2)), .val (.ref (ad 3)), .val (.ref (ad 4)), .val (.ref (ad 0)), .val (.int ((p0 &&& (2147483647 : Int32)) % (3 : Int32))), .val (.int ((p1 &&& (2147483647 : Int32)) % (3 : Int32))), .val (.ref (ad 2)), .val (.ref (ad 1)), .unset] []))
        refine own_by (fun _ k => XS.iload X42.here hx rfl (hb hby at_203) rfl k) ?_
        show own_Fin p.tables e below _ (T42.setTop (mkF m 205 #[.val (.int p0), .val (.int p1), .val (.ref b1), .val (.ref (ad 1)), .val (.ref (ad 2)), .val (.ref (ad 3)), .val (.ref (ad 4)), .val (.ref (ad 0)), .val (.int ((p0 &&& (2147483647 : Int32)) % (3 : Int32))), .val (.int ((p1 &&& (2147483647 : Int32)) % (3 : Int32))), .val (.ref (ad 2)), .val (.ref (ad 1)), .unset] [(.int ((p0 &&& (2147483647 : Int32)) % (3 : Int32)))]))
        refine own_by (fun _ k => XS.iconst X42.here hx rfl (hb hby at_205) k) ?_
        show own_Fin p.tables e below _ (T42.setTop (mkF m 206 #[.val (.int p0), .val (.int p1), .val (.ref b1), .val (.ref (ad 1)), .val (.ref (ad 2)), .val (.ref (ad 3)), .val (.ref (ad 4)), .val (.ref (ad 0)), .val (.int ((p0 &&& (2147483647 : Int32)) % (3 : Int32))), .val (.int ((p1 &&& (2147483647 : Int32)) % (3 : Int32))), .val (.ref (ad 2)), .val (.ref (ad 1)), .unset] [(.int (1 : Int32)), (.int ((p0 &&& (2147483647 : Int32)) % (3 : Int32)))]))
        refine own_by (fun _ k => XS.icmpNo X42.here hx rfl (hb hby at_206) rfl (teq hc39).2 k) ?_
        show own_Fin p.tables e below _ (T42.setTop (mkF m 209 #[.val (.int p0), .val (.int p1), .val (.ref b1), .val (.ref (ad 1)), .val (.ref (ad 2)), .val (.ref (ad 3)), .val (.ref (ad 4)), .val (.ref (ad 0)), .val (.int ((p0 &&& (2147483647 : Int32)) % (3 : Int32))), .val (.int ((p1 &&& (2147483647 : Int32)) % (3 : Int32))), .val (.ref (ad 2)), .val (.ref (ad 1)), .unset] []))
        refine own_by (fun _ k => XS.iload X42.here hx rfl (hb hby at_209) rfl k) ?_
        show own_Fin p.tables e below _ (T42.setTop (mkF m 211 #[.val (.int p0), .val (.int p1), .val (.ref b1), .val (.ref (ad 1)), .val (.ref (ad 2)), .val (.ref (ad 3)), .val (.ref (ad 4)), .val (.ref (ad 0)), .val (.int ((p0 &&& (2147483647 : Int32)) % (3 : Int32))), .val (.int ((p1 &&& (2147483647 : Int32)) % (3 : Int32))), .val (.ref (ad 2)), .val (.ref (ad 1)), .unset] [(.int ((p1 &&& (2147483647 : Int32)) % (3 : Int32)))]))
        refine own_by (fun _ k => XS.ifNo X42.here hx rfl (hb hby at_211) rfl ((if0 _ _).trans (teq hc40).2) k) ?_
        show own_Fin p.tables e below _ (T42.setTop (mkF m 214 #[.val (.int p0), .val (.int p1), .val (.ref b1), .val (.ref (ad 1)), .val (.ref (ad 2)), .val (.ref (ad 3)), .val (.ref (ad 4)), .val (.ref (ad 0)), .val (.int ((p0 &&& (2147483647 : Int32)) % (3 : Int32))), .val (.int ((p1 &&& (2147483647 : Int32)) % (3 : Int32))), .val (.ref (ad 2)), .val (.ref (ad 1)), .unset] []))
        refine own_by (fun _ k => XS.aloadN X42.here hx rfl (hb hby at_214) rfl rfl k) ?_
        show own_Fin p.tables e below _ (T42.setTop (mkF m 215 #[.val (.int p0), .val (.int p1), .val (.ref b1), .val (.ref (ad 1)), .val (.ref (ad 2)), .val (.ref (ad 3)), .val (.ref (ad 4)), .val (.ref (ad 0)), .val (.int ((p0 &&& (2147483647 : Int32)) % (3 : Int32))), .val (.int ((p1 &&& (2147483647 : Int32)) % (3 : Int32))), .val (.ref (ad 2)), .val (.ref (ad 1)), .unset] [(.ref b1)]))
        refine own_by (fun _ k => XS.aload X42.here hx rfl (hb hby at_215) rfl rfl k) ?_
        show own_Fin p.tables e below _ (T42.setTop (mkF m 217 #[.val (.int p0), .val (.int p1), .val (.ref b1), .val (.ref (ad 1)), .val (.ref (ad 2)), .val (.ref (ad 3)), .val (.ref (ad 4)), .val (.ref (ad 0)), .val (.int ((p0 &&& (2147483647 : Int32)) % (3 : Int32))), .val (.int ((p1 &&& (2147483647 : Int32)) % (3 : Int32))), .val (.ref (ad 2)), .val (.ref (ad 1)), .unset] [(.ref (ad 0)), (.ref b1)]))
        refine own_by (fun _ k => XS.aload X42.here hx rfl (hb hby at_217) rfl rfl k) ?_
        show own_Fin p.tables e below _ (T42.setTop (mkF m 219 #[.val (.int p0), .val (.int p1), .val (.ref b1), .val (.ref (ad 1)), .val (.ref (ad 2)), .val (.ref (ad 3)), .val (.ref (ad 4)), .val (.ref (ad 0)), .val (.int ((p0 &&& (2147483647 : Int32)) % (3 : Int32))), .val (.int ((p1 &&& (2147483647 : Int32)) % (3 : Int32))), .val (.ref (ad 2)), .val (.ref (ad 1)), .unset] [(.ref (ad 4)), (.ref (ad 0)), (.ref b1)]))
        refine own_by (fun _ k => XS.aload X42.here hx rfl (hb hby at_219) rfl rfl k) ?_
        show own_Fin p.tables e below _ (T42.setTop (mkF m 221 #[.val (.int p0), .val (.int p1), .val (.ref b1), .val (.ref (ad 1)), .val (.ref (ad 2)), .val (.ref (ad 3)), .val (.ref (ad 4)), .val (.ref (ad 0)), .val (.int ((p0 &&& (2147483647 : Int32)) % (3 : Int32))), .val (.int ((p1 &&& (2147483647 : Int32)) % (3 : Int32))), .val (.ref (ad 2)), .val (.ref (ad 1)), .unset] [(.ref (ad 2)), (.ref (ad 4)), (.ref (ad 0)), (.ref b1)]))
        refine own_by (fun _ k => XS.aload X42.here hx rfl (hb hby at_221) rfl rfl k) ?_
        show own_Fin p.tables e below _ (T42.setTop (mkF m 223 #[.val (.int p0), .val (.int p1), .val (.ref b1), .val (.ref (ad 1)), .val (.ref (ad 2)), .val (.ref (ad 3)), .val (.ref (ad 4)), .val (.ref (ad 0)), .val (.int ((p0 &&& (2147483647 : Int32)) % (3 : Int32))), .val (.int ((p1 &&& (2147483647 : Int32)) % (3 : Int32))), .val (.ref (ad 2)), .val (.ref (ad 1)), .unset] [(.ref (ad 3)), (.ref (ad 2)), (.ref (ad 4)), (.ref (ad 0)), (.ref b1)]))
        refine own_by (fun _ k => XS.aloadN X42.here hx rfl (hb hby at_223) rfl rfl k) ?_
        show own_Fin p.tables e below _ (T42.setTop (mkF m 224 #[.val (.int p0), .val (.int p1), .val (.ref b1), .val (.ref (ad 1)), .val (.ref (ad 2)), .val (.ref (ad 3)), .val (.ref (ad 4)), .val (.ref (ad 0)), .val (.int ((p0 &&& (2147483647 : Int32)) % (3 : Int32))), .val (.int ((p1 &&& (2147483647 : Int32)) % (3 : Int32))), .val (.ref (ad 2)), .val (.ref (ad 1)), .unset] [(.ref (ad 1)), (.ref (ad 3)), (.ref (ad 2)), (.ref (ad 4)), (.ref (ad 0)), (.ref b1)]))
        obtain ⟨_, _, ⟨T43, L43, k43, n43⟩, -, X43, ⟨Lc43, hQ43, l43, y43, z43⟩, st43⟩ := Jvm.LawKit.callS X42 hx (y := (⟨"com/example/brazier/brazier/keyspace/ChangeOrderAddPinLaw", "ringIs", "(Lcom/example/brazier/brazier/keyspace/ChangeOrder;Lcom/example/brazier/brazier/keyspace/ChangeOrder$Link;Lcom/example/brazier/brazier/keyspace/ChangeOrder$Link;Lcom/example/brazier/brazier/keyspace/ChangeOrder$Link;Lcom/example/brazier/brazier/keyspace/ChangeOrder$Link;Lcom/example/brazier/brazier/keyspace/ChangeOrder$Link;)Z"⟩ : MethodName)) hown (mvT hZ (hw _ (List.mem_of_getElem? (i := 80) rfl))) (mvT hZ (hw _ (List.mem_of_getElem? (i := 81) rfl))) (mvT hZ (hw _ (List.mem_of_getElem? (i := 82) rfl))) (mvT hZ (hw _ (List.mem_of_getElem? (i := 83) rfl))) (by decide) (backOf (W := 0) (rm14 l Z a0 hw [] 5 ad own_K b1 own_b57 own_a58 own_n59 own_w60 own_p56 0 4 2 3 1 T42.heap n0 S42.1 S42 sl wk (by decide) (by decide) (by decide) (by decide) (by decide) (by decide) (by decide) (by decide) (by decide) (by decide)) hZ (hw _ (List.mem_of_getElem? (i := 83) rfl)) (hw _ (List.mem_of_getElem? (i := 82) rfl)) (by decide) (by decide)) (g := (mkF m 224 #[.val (.int p0), .val (.int p1), .val (.ref b1), .val (.ref (ad 1)), .val (.ref (ad 2)), .val (.ref (ad 3)), .val (.ref (ad 4)), .val (.ref (ad 0)), .val (.int ((p0 &&& (2147483647 : Int32)) % (3 : Int32))), .val (.int ((p1 &&& (2147483647 : Int32)) % (3 : Int32))), .val (.ref (ad 2)), .val (.ref (ad 1)), .unset] [(.ref (ad 1)), (.ref (ad 3)), (.ref (ad 2)), (.ref (ad 4)), (.ref (ad 0)), (.ref b1)])) rfl (by rw [hml]; rfl) (argsL := [(.ref b1), (.ref (ad 0)), (.ref (ad 4)), (.ref (ad 2)), (.ref (ad 3)), (.ref (ad 1))]) (rest := []) (lenOf pd__Lcom_example_brazier_brazier_keyspace_ChangeOrder_Lcom_example_brazier_brazier_keyspace_ChangeOrder_Link_Lcom_example_brazier_brazier_keyspace_ChangeOrder_Link_Lcom_example_brazier_brazier_keyspace_ChangeOrder_Link_Lcom_example_brazier_brazier_keyspace_ChangeOrder_Link_Lcom_example_brazier_brazier_keyspace_ChangeOrder_Link__Z rfl) rfl (by show 2 * 0 + _ ≤ _; exact Nat.le_of_eq rfl) (hb hby at_224) (fun _ _ => ⟨rfl, rfl, (by decide : 6 + 0 ≤ _), (by decide : 18 + 0 ≤ _)⟩)
        dsimp only [Pt.U, Pt.locs, Pt.cells, Pt.slots] at X43 l43 y43 z43 st43 hQ43
        subst l43 y43 z43
        obtain ⟨rfl, N43q, e43⟩ := hQ43
        have N43 := Fr.app N42 N43q
        refine own_by st43 ?_
        show own_Fin p.tables e below _ (T43.setTop (mkF m 227 #[.val (.int p0), .val (.int p1), .val (.ref b1), .val (.ref (ad 1)), .val (.ref (ad 2)), .val (.ref (ad 3)), .val (.ref (ad 4)), .val (.ref (ad 0)), .val (.int ((p0 &&& (2147483647 : Int32)) % (3 : Int32))), .val (.int ((p1 &&& (2147483647 : Int32)) % (3 : Int32))), .val (.ref (ad 2)), .val (.ref (ad 1)), .unset] [(.int (1 : Int32))]))
        refine own_by (fun _ k => XS.istore X43.here hx rfl (hb hby at_227) rfl (l' := #[.val (.int p0), .val (.int p1), .val (.ref b1), .val (.ref (ad 1)), .val (.ref (ad 2)), .val (.ref (ad 3)), .val (.ref (ad 4)), .val (.ref (ad 0)), .val (.int ((p0 &&& (2147483647 : Int32)) % (3 : Int32))), .val (.int ((p1 &&& (2147483647 : Int32)) % (3 : Int32))), .val (.ref (ad 2)), .val (.ref (ad 1)), .val (.int (1 : Int32))]) rfl k) ?_
        show own_Fin p.tables e below _ (T43.setTop (mkF m 229 #[.val (.int p0), .val (.int p1), .val (.ref b1), .val (.ref (ad 1)), .val (.ref (ad 2)), .val (.ref (ad 3)), .val (.ref (ad 4)), .val (.ref (ad 0)), .val (.int ((p0 &&& (2147483647 : Int32)) % (3 : Int32))), .val (.int ((p1 &&& (2147483647 : Int32)) % (3 : Int32))), .val (.ref (ad 2)), .val (.ref (ad 1)), .val (.int (1 : Int32))] []))
        refine own_by (fun _ k => XS.goto X43.here hx rfl (pc0 := 229) (pc' := 312) rfl (hb hby at_229) (by decide) (by decide) k) ?_
        show own_Fin p.tables e below _ (T43.setTop (mkF m 312 #[.val (.int p0), .val (.int p1), .val (.ref b1), .val (.ref (ad 1)), .val (.ref (ad 2)), .val (.ref (ad 3)), .val (.ref (ad 4)), .val (.ref (ad 0)), .val (.int ((p0 &&& (2147483647 : Int32)) % (3 : Int32))), .val (.int ((p1 &&& (2147483647 : Int32)) % (3 : Int32))), .val (.ref (ad 2)), .val (.ref (ad 1)), .val (.int (1 : Int32))] []))
        refine own_by (fun _ k => XS.iload X43.here hx rfl (hb hby at_312) rfl k) ?_
        show own_Fin p.tables e below _ (T43.setTop (mkF m 314 #[.val (.int p0), .val (.int p1), .val (.ref b1), .val (.ref (ad 1)), .val (.ref (ad 2)), .val (.ref (ad 3)), .val (.ref (ad 4)), .val (.ref (ad 0)), .val (.int ((p0 &&& (2147483647 : Int32)) % (3 : Int32))), .val (.int ((p1 &&& (2147483647 : Int32)) % (3 : Int32))), .val (.ref (ad 2)), .val (.ref (ad 1)), .val (.int (1 : Int32))] [(.int (1 : Int32))]))
        refine own_by (fun _ k => XS.ifYes X43.here hx rfl (pc0 := 314) (pc' := 319) rfl (hb hby at_314) rfl ((if0 _ _).trans (feq (by decide)).2) (by decide) (by decide) k) ?_
        show own_Fin p.tables e below _ (T43.setTop (mkF m 319 #[.val (.int p0), .val (.int p1), .val (.ref b1), .val (.ref (ad 1)), .val (.ref (ad 2)), .val (.ref (ad 3)), .val (.ref (ad 4)), .val (.ref (ad 0)), .val (.int ((p0 &&& (2147483647 : Int32)) % (3 : Int32))), .val (.int ((p1 &&& (2147483647 : Int32)) % (3 : Int32))), .val (.ref (ad 2)), .val (.ref (ad 1)), .val (.int (1 : Int32))] []))
        refine own_by (fun _ k => XS.aloadN X43.here hx rfl (hb hby at_319) rfl rfl k) ?_
        show own_Fin p.tables e below _ (T43.setTop (mkF m 320 #[.val (.int p0), .val (.int p1), .val (.ref b1), .val (.ref (ad 1)), .val (.ref (ad 2)), .val (.ref (ad 3)), .val (.ref (ad 4)), .val (.ref (ad 0)), .val (.int ((p0 &&& (2147483647 : Int32)) % (3 : Int32))), .val (.int ((p1 &&& (2147483647 : Int32)) % (3 : Int32))), .val (.ref (ad 2)), .val (.ref (ad 1)), .val (.int (1 : Int32))] [(.ref b1)]))
        refine own_by (fun _ k => XS.aload X43.here hx rfl (hb hby at_320) rfl rfl k) ?_
        show own_Fin p.tables e below _ (T43.setTop (mkF m 322 #[.val (.int p0), .val (.int p1), .val (.ref b1), .val (.ref (ad 1)), .val (.ref (ad 2)), .val (.ref (ad 3)), .val (.ref (ad 4)), .val (.ref (ad 0)), .val (.int ((p0 &&& (2147483647 : Int32)) % (3 : Int32))), .val (.int ((p1 &&& (2147483647 : Int32)) % (3 : Int32))), .val (.ref (ad 2)), .val (.ref (ad 1)), .val (.int (1 : Int32))] [(.ref (ad 4)), (.ref b1)]))
        refine own_by (fun _ k => XS.aload X43.here hx rfl (hb hby at_322) rfl rfl k) ?_
        show own_Fin p.tables e below _ (T43.setTop (mkF m 324 #[.val (.int p0), .val (.int p1), .val (.ref b1), .val (.ref (ad 1)), .val (.ref (ad 2)), .val (.ref (ad 3)), .val (.ref (ad 4)), .val (.ref (ad 0)), .val (.int ((p0 &&& (2147483647 : Int32)) % (3 : Int32))), .val (.int ((p1 &&& (2147483647 : Int32)) % (3 : Int32))), .val (.ref (ad 2)), .val (.ref (ad 1)), .val (.int (1 : Int32))] [(.ref (ad 0)), (.ref (ad 4)), (.ref b1)]))
        obtain ⟨cq44, kq44, q44a, q44b, q44c⟩ := isOf hZ e43 S42.2.2.1
        obtain ⟨_, _, ⟨T44, L44, k44, n44⟩, -, X44, ⟨Lc44, hQ44, l44, y44, z44⟩, st44⟩ := X43.virtualBack hx (y := (⟨"com/example/brazier/brazier/keyspace/ChangeOrder", "passTo", "(Lcom/example/brazier/brazier/keyspace/ChangeOrder$Place;Lcom/example/brazier/brazier/keyspace/ChangeOrder$Link;)V"⟩ : MethodName)) (z := (⟨"com/example/brazier/brazier/keyspace/ChangeOrder", "passTo", "(Lcom/example/brazier/brazier/keyspace/ChangeOrder$Place;Lcom/example/brazier/brazier/keyspace/ChangeOrder$Link;)V"⟩ : MethodName)) hown (mvT hZ (hw _ (List.mem_of_getElem? (i := 50) rfl))) (mvT hZ (hw _ (List.mem_of_getElem? (i := 51) rfl))) (notFace_of_selects (args := #[]) (mvT hZ (hw _ (List.mem_of_getElem? (i := 53) rfl)))) (mvT hZ (hw _ (List.mem_of_getElem? (i := 53) rfl))) (mvT hZ (hw _ (List.mem_of_getElem? (i := 52) rfl))) (by decide) (backOf (W := 0) (rm8 l Z a0 hw [] 5 ad own_K b1 own_b57 own_a58 own_n59 own_w60 own_p56 4 0 1 T42.heap n0 S42.1 S42 sl wk (by decide) (by decide) (by decide) (own_wf1 (q := 2) (p := 0) (by decide) (by decide) (by decide) (by decide)) (by decide)) hZ (hw _ (List.mem_of_getElem? (i := 54) rfl)) (hw _ (List.mem_of_getElem? (i := 2) rfl)) (by decide) (by decide)) q44a q44c (g := (mkF m 324 #[.val (.int p0), .val (.int p1), .val (.ref b1), .val (.ref (ad 1)), .val (.ref (ad 2)), .val (.ref (ad 3)), .val (.ref (ad 4)), .val (.ref (ad 0)), .val (.int ((p0 &&& (2147483647 : Int32)) % (3 : Int32))), .val (.int ((p1 &&& (2147483647 : Int32)) % (3 : Int32))), .val (.ref (ad 2)), .val (.ref (ad 1)), .val (.int (1 : Int32))] [(.ref (ad 0)), (.ref (ad 4)), (.ref b1)])) rfl (by rw [hml]; rfl) (Steps.refl _) (argsL := [(.ref (ad 4)), (.ref (ad 0))]) (rest := []) (lenOf pd__Lcom_example_brazier_brazier_keyspace_ChangeOrder_Place_Lcom_example_brazier_brazier_keyspace_ChangeOrder_Link__V rfl) rfl (by show 2 * 0 + _ ≤ _; exact Nat.le_of_eq rfl) (hb hby at_324) (fun _ _ => ⟨rfl, e43, (by decide : 6 + 0 ≤ _), (by decide : 18 + 0 ≤ _)⟩)
        dsimp only [Pt.U, Pt.locs, Pt.cells, Pt.slots] at X44 l44 y44 z44 st44 hQ44
        subst l44 y44 z44
        obtain ⟨rfl, N44q, S44q⟩ := hQ44
        have N44 := Fr.app N43 N44q
        refine own_by (fun _ k => st44.trans k) ?_
        have S44 : own_S Z T44.heap n0 5 ad own_K b1 own_b61 own_a62 own_n63 own_w60 own_p64 := S44q
        show own_Fin p.tables e below _ (T44.setTop (mkF m 327 #[.val (.int p0), .val (.int p1), .val (.ref b1), .val (.ref (ad 1)), .val (.ref (ad 2)), .val (.ref (ad 3)), .val (.ref (ad 4)), .val (.ref (ad 0)), .val (.int ((p0 &&& (2147483647 : Int32)) % (3 : Int32))), .val (.int ((p1 &&& (2147483647 : Int32)) % (3 : Int32))), .val (.ref (ad 2)), .val (.ref (ad 1)), .val (.int (1 : Int32))] []))
        refine own_by (fun _ k => XS.aloadN X44.here hx rfl (hb hby at_327) rfl rfl k) ?_
        show own_Fin p.tables e below _ (T44.setTop (mkF m 328 #[.val (.int p0), .val (.int p1), .val (.ref b1), .val (.ref (ad 1)), .val (.ref (ad 2)), .val (.ref (ad 3)), .val (.ref (ad 4)), .val (.ref (ad 0)), .val (.int ((p0 &&& (2147483647 : Int32)) % (3 : Int32))), .val (.int ((p1 &&& (2147483647 : Int32)) % (3 : Int32))), .val (.ref (ad 2)), .val (.ref (ad 1)), .val (.int (1 : Int32))] [(.ref b1)]))
        refine own_by (fun _ k => XS.aload X44.here hx rfl (hb hby at_328) rfl rfl k) ?_
        show own_Fin p.tables e below _ (T44.setTop (mkF m 330 #[.val (.int p0), .val (.int p1), .val (.ref b1), .val (.ref (ad 1)), .val (.ref (ad 2)), .val (.ref (ad 3)), .val (.ref (ad 4)), .val (.ref (ad 0)), .val (.int ((p0 &&& (2147483647 : Int32)) % (3 : Int32))), .val (.int ((p1 &&& (2147483647 : Int32)) % (3 : Int32))), .val (.ref (ad 2)), .val (.ref (ad 1)), .val (.int (1 : Int32))] [(.ref (ad 3)), (.ref b1)]))
        obtain ⟨cq45, kq45, q45a, q45b, q45c⟩ := isOf hZ rfl S44.2.2.1
        obtain ⟨_, _, ⟨T45, L45, k45, n45⟩, -, X45, ⟨Lc45, hQ45, l45, y45, z45⟩, st45⟩ := X44.virtualBack hx (y := (⟨"com/example/brazier/brazier/keyspace/ChangeOrder", "changed", "(Lcom/example/brazier/brazier/keyspace/ChangeOrder$Link;)V"⟩ : MethodName)) (z := (⟨"com/example/brazier/brazier/keyspace/ChangeOrder", "changed", "(Lcom/example/brazier/brazier/keyspace/ChangeOrder$Link;)V"⟩ : MethodName)) hown (mvT hZ (hw _ (List.mem_of_getElem? (i := 75) rfl))) (mvT hZ (hw _ (List.mem_of_getElem? (i := 76) rfl))) (notFace_of_selects (args := #[]) (mvT hZ (hw _ (List.mem_of_getElem? (i := 78) rfl)))) (mvT hZ (hw _ (List.mem_of_getElem? (i := 78) rfl))) (mvT hZ (hw _ (List.mem_of_getElem? (i := 77) rfl))) (by decide) (backOf (W := 0) (rm13 l Z a0 hw [] 5 ad own_K b1 own_b61 own_a62 own_n63 own_w60 own_p64 3 4 T44.heap n0 S44.1 S44 sl wk (by decide) (by decide) (by decide) (fun _ => ⟨(own_wf1 (q := 1) (p := 2) (by decide) (by decide) (by decide) (by decide)), by decide⟩)) hZ (hw _ (List.mem_of_getElem? (i := 79) rfl)) (hw _ (List.mem_of_getElem? (i := 2) rfl)) (by decide) (by decide)) q45a q45c (g := (mkF m 330 #[.val (.int p0), .val (.int p1), .val (.ref b1), .val (.ref (ad 1)), .val (.ref (ad 2)), .val (.ref (ad 3)), .val (.ref (ad 4)), .val (.ref (ad 0)), .val (.int ((p0 &&& (2147483647 : Int32)) % (3 : Int32))), .val (.int ((p1 &&& (2147483647 : Int32)) % (3 : Int32))), .val (.ref (ad 2)), .val (.ref (ad 1)), .val (.int (1 : Int32))] [(.ref (ad 3)), (.ref b1)])) rfl (by rw [hml]; rfl) (Steps.refl _) (argsL := [(.ref (ad 3))]) (rest := []) (lenOf pd__Lcom_example_brazier_brazier_keyspace_ChangeOrder_Link__V rfl) rfl (by show 2 * 0 + _ ≤ _; exact Nat.le_of_eq rfl) (hb hby at_330) (fun _ _ => ⟨rfl, rfl, (by decide : 6 + 0 ≤ _), (by decide : 18 + 0 ≤ _)⟩)
        dsimp only [Pt.U, Pt.locs, Pt.cells, Pt.slots] at X45 l45 y45 z45 st45 hQ45
        subst l45 y45 z45
        obtain ⟨rfl, N45q, S45q⟩ := hQ45
        have N45 := Fr.app N44 N45q
        refine own_by (fun _ k => st45.trans k) ?_
        have S45 : own_S Z T45.heap n0 5 ad own_K b1 own_b65 own_a66 own_n67 own_w68 own_p64 := S45q
        show own_Fin p.tables e below _ (T45.setTop (mkF m 333 #[.val (.int p0), .val (.int p1), .val (.ref b1), .val (.ref (ad 1)), .val (.ref (ad 2)), .val (.ref (ad 3)), .val (.ref (ad 4)), .val (.ref (ad 0)), .val (.int ((p0 &&& (2147483647 : Int32)) % (3 : Int32))), .val (.int ((p1 &&& (2147483647 : Int32)) % (3 : Int32))), .val (.ref (ad 2)), .val (.ref (ad 1)), .val (.int (1 : Int32))] []))
        refine own_by (fun _ k => XS.aloadN X45.here hx rfl (hb hby at_333) rfl rfl k) ?_
        show own_Fin p.tables e below _ (T45.setTop (mkF m 334 #[.val (.int p0), .val (.int p1), .val (.ref b1), .val (.ref (ad 1)), .val (.ref (ad 2)), .val (.ref (ad 3)), .val (.ref (ad 4)), .val (.ref (ad 0)), .val (.int ((p0 &&& (2147483647 : Int32)) % (3 : Int32))), .val (.int ((p1 &&& (2147483647 : Int32)) % (3 : Int32))), .val (.ref (ad 2)), .val (.ref (ad 1)), .val (.int (1 : Int32))] [(.ref b1)]))
        refine own_by (fun _ k => XS.aload X45.here hx rfl (hb hby at_334) rfl rfl k) ?_
        show own_Fin p.tables e below _ (T45.setTop (mkF m 336 #[.val (.int p0), .val (.int p1), .val (.ref b1), .val (.ref (ad 1)), .val (.ref (ad 2)), .val (.ref (ad 3)), .val (.ref (ad 4)), .val (.ref (ad 0)), .val (.int ((p0 &&& (2147483647 : Int32)) % (3 : Int32))), .val (.int ((p1 &&& (2147483647 : Int32)) % (3 : Int32))), .val (.ref (ad 2)), .val (.ref (ad 1)), .val (.int (1 : Int32))] [(.ref (ad 4)), (.ref b1)]))
        obtain ⟨cq46, kq46, q46a, q46b, q46c⟩ := isOf hZ rfl S45.2.2.1
        obtain ⟨_, _, ⟨T46, L46, k46, n46⟩, -, X46, ⟨Lc46, hQ46, l46, y46, z46⟩, st46⟩ := X45.virtualBack hx (y := (⟨"com/example/brazier/brazier/keyspace/ChangeOrder", "after", "(Lcom/example/brazier/brazier/keyspace/ChangeOrder$Link;)Lcom/example/brazier/brazier/keyspace/ChangeOrder$Link;"⟩ : MethodName)) (z := (⟨"com/example/brazier/brazier/keyspace/ChangeOrder", "after", "(Lcom/example/brazier/brazier/keyspace/ChangeOrder$Link;)Lcom/example/brazier/brazier/keyspace/ChangeOrder$Link;"⟩ : MethodName)) hown (mvT hZ (hw _ (List.mem_of_getElem? (i := 44) rfl))) (mvT hZ (hw _ (List.mem_of_getElem? (i := 45) rfl))) (notFace_of_selects (args := #[]) (mvT hZ (hw _ (List.mem_of_getElem? (i := 47) rfl)))) (mvT hZ (hw _ (List.mem_of_getElem? (i := 47) rfl))) (mvT hZ (hw _ (List.mem_of_getElem? (i := 46) rfl))) (by decide) (backOf (W := 0) (rm7 l Z a0 hw [] 5 ad own_K b1 own_b65 own_a66 own_n67 own_w68 own_p64 4 T45.heap n0 S45.1 S45 sl wk (by decide)) hZ (hw _ (List.mem_of_getElem? (i := 48) rfl)) (hw _ (List.mem_of_getElem? (i := 2) rfl)) (by decide) (by decide)) q46a q46c (g := (mkF m 336 #[.val (.int p0), .val (.int p1), .val (.ref b1), .val (.ref (ad 1)), .val (.ref (ad 2)), .val (.ref (ad 3)), .val (.ref (ad 4)), .val (.ref (ad 0)), .val (.int ((p0 &&& (2147483647 : Int32)) % (3 : Int32))), .val (.int ((p1 &&& (2147483647 : Int32)) % (3 : Int32))), .val (.ref (ad 2)), .val (.ref (ad 1)), .val (.int (1 : Int32))] [(.ref (ad 4)), (.ref b1)])) rfl (by rw [hml]; rfl) (Steps.refl _) (argsL := [(.ref (ad 4))]) (rest := []) (lenOf pd__Lcom_example_brazier_brazier_keyspace_ChangeOrder_Link__Lcom_example_brazier_brazier_keyspace_ChangeOrder_Link_ rfl) rfl (by show 2 * 0 + _ ≤ _; exact Nat.le_of_eq rfl) (hb hby at_336) (fun _ _ => ⟨rfl, rfl, (by decide : 6 + 0 ≤ _), (by decide : 18 + 0 ≤ _)⟩)
        dsimp only [Pt.U, Pt.locs, Pt.cells, Pt.slots] at X46 l46 y46 z46 st46 hQ46
        subst l46 y46 z46
        obtain ⟨hv46, N46q, e46⟩ := hQ46
        obtain rfl := hv46.trans (congrArg some (show own_nx ad (own_a66 4) = (.ref (ad 3)) from (by rw [show own_a66 4 = some 3 from by decide]; rfl)))
        have N46 := Fr.app N45 N46q
        refine own_by (fun _ k => st46.trans k) ?_
        show own_Fin p.tables e below _ (T46.setTop (mkF m 339 #[.val (.int p0), .val (.int p1), .val (.ref b1), .val (.ref (ad 1)), .val (.ref (ad 2)), .val (.ref (ad 3)), .val (.ref (ad 4)), .val (.ref (ad 0)), .val (.int ((p0 &&& (2147483647 : Int32)) % (3 : Int32))), .val (.int ((p1 &&& (2147483647 : Int32)) % (3 : Int32))), .val (.ref (ad 2)), .val (.ref (ad 1)), .val (.int (1 : Int32))] [(.ref (ad 3))]))
        refine own_by (fun _ k => XS.aload X46.here hx rfl (hb hby at_339) rfl rfl k) ?_
        show own_Fin p.tables e below _ (T46.setTop (mkF m 341 #[.val (.int p0), .val (.int p1), .val (.ref b1), .val (.ref (ad 1)), .val (.ref (ad 2)), .val (.ref (ad 3)), .val (.ref (ad 4)), .val (.ref (ad 0)), .val (.int ((p0 &&& (2147483647 : Int32)) % (3 : Int32))), .val (.int ((p1 &&& (2147483647 : Int32)) % (3 : Int32))), .val (.ref (ad 2)), .val (.ref (ad 1)), .val (.int (1 : Int32))] [(.ref (ad 3)), (.ref (ad 3))]))
        refine own_by (fun _ k => Jvm.RoadKit.acmp (g := (mkF m 341 #[.val (.int p0), .val (.int p1), .val (.ref b1), .val (.ref (ad 1)), .val (.ref (ad 2)), .val (.ref (ad 3)), .val (.ref (ad 4)), .val (.ref (ad 0)), .val (.int ((p0 &&& (2147483647 : Int32)) % (3 : Int32))), .val (.int ((p1 &&& (2147483647 : Int32)) % (3 : Int32))), .val (.ref (ad 2)), .val (.ref (ad 1)), .val (.int (1 : Int32))] [(.ref (ad 3)), (.ref (ad 3))])) X46 hx rfl rfl rfl (pc0 := 341) (pc' := 344) (same := true) rfl (hb hby at_341) rfl (decide_eq_true rfl) (by decide) (by decide) k) ?_
        show own_Fin p.tables e below _ (T46.setTop (mkF m 344 #[.val (.int p0), .val (.int p1), .val (.ref b1), .val (.ref (ad 1)), .val (.ref (ad 2)), .val (.ref (ad 3)), .val (.ref (ad 4)), .val (.ref (ad 0)), .val (.int ((p0 &&& (2147483647 : Int32)) % (3 : Int32))), .val (.int ((p1 &&& (2147483647 : Int32)) % (3 : Int32))), .val (.ref (ad 2)), .val (.ref (ad 1)), .val (.int (1 : Int32))] []))
        refine own_by (fun _ k => XS.aloadN X46.here hx rfl (hb hby at_344) rfl rfl k) ?_
        show own_Fin p.tables e below _ (T46.setTop (mkF m 345 #[.val (.int p0), .val (.int p1), .val (.ref b1), .val (.ref (ad 1)), .val (.ref (ad 2)), .val (.ref (ad 3)), .val (.ref (ad 4)), .val (.ref (ad 0)), .val (.int ((p0 &&& (2147483647 : Int32)) % (3 : Int32))), .val (.int ((p1 &&& (2147483647 : Int32)) % (3 : Int32))), .val (.ref (ad 2)), .val (.ref (ad 1)), .val (.int (1 : Int32))] [(.ref b1)]))
        refine own_by (fun _ k => XS.aload X46.here hx rfl (hb hby at_345) rfl rfl k) ?_
        show own_Fin p.tables e below _ (T46.setTop (mkF m 347 #[.val (.int p0), .val (.int p1), .val (.ref b1), .val (.ref (ad 1)), .val (.ref (ad 2)), .val (.ref (ad 3)), .val (.ref (ad 4)), .val (.ref (ad 0)), .val (.int ((p0 &&& (2147483647 : Int32)) % (3 : Int32))), .val (.int ((p1 &&& (2147483647 : Int32)) % (3 : Int32))), .val (.ref (ad 2)), .val (.ref (ad 1)), .val (.int (1 : Int32))] [(.ref (ad 3)), (.ref b1)]))
        obtain ⟨cq47, kq47, q47a, q47b, q47c⟩ := isOf hZ e46 S45.2.2.1
        obtain ⟨_, _, ⟨T47, L47, k47, n47⟩, -, X47, ⟨Lc47, hQ47, l47, y47, z47⟩, st47⟩ := X46.virtualBack hx (y := (⟨"com/example/brazier/brazier/keyspace/ChangeOrder", "after", "(Lcom/example/brazier/brazier/keyspace/ChangeOrder$Link;)Lcom/example/brazier/brazier/keyspace/ChangeOrder$Link;"⟩ : MethodName)) (z := (⟨"com/example/brazier/brazier/keyspace/ChangeOrder", "after", "(Lcom/example/brazier/brazier/keyspace/ChangeOrder$Link;)Lcom/example/brazier/brazier/keyspace/ChangeOrder$Link;"⟩ : MethodName)) hown (mvT hZ (hw _ (List.mem_of_getElem? (i := 44) rfl))) (mvT hZ (hw _ (List.mem_of_getElem? (i := 45) rfl))) (notFace_of_selects (args := #[]) (mvT hZ (hw _ (List.mem_of_getElem? (i := 47) rfl)))) (mvT hZ (hw _ (List.mem_of_getElem? (i := 47) rfl))) (mvT hZ (hw _ (List.mem_of_getElem? (i := 46) rfl))) (by decide) (backOf (W := 0) (rm7 l Z a0 hw [] 5 ad own_K b1 own_b65 own_a66 own_n67 own_w68 own_p64 3 T45.heap n0 S45.1 S45 sl wk (by decide)) hZ (hw _ (List.mem_of_getElem? (i := 48) rfl)) (hw _ (List.mem_of_getElem? (i := 2) rfl)) (by decide) (by decide)) q47a q47c (g := (mkF m 347 #[.val (.int p0), .val (.int p1), .val (.ref b1), .val (.ref (ad 1)), .val (.ref (ad 2)), .val (.ref (ad 3)), .val (.ref (ad 4)), .val (.ref (ad 0)), .val (.int ((p0 &&& (2147483647 : Int32)) % (3 : Int32))), .val (.int ((p1 &&& (2147483647 : Int32)) % (3 : Int32))), .val (.ref (ad 2)), .val (.ref (ad 1)), .val (.int (1 : Int32))] [(.ref (ad 3)), (.ref b1)])) rfl (by rw [hml]; rfl) (Steps.refl _) (argsL := [(.ref (ad 3))]) (rest := []) (lenOf pd__Lcom_example_brazier_brazier_keyspace_ChangeOrder_Link__Lcom_example_brazier_brazier_keyspace_ChangeOrder_Link_ rfl) rfl (by show 2 * 0 + _ ≤ _; exact Nat.le_of_eq rfl) (hb hby at_347) (fun _ _ => ⟨rfl, e46, (by decide : 6 + 0 ≤ _), (by decide : 18 + 0 ≤ _)⟩)
        dsimp only [Pt.U, Pt.locs, Pt.cells, Pt.slots] at X47 l47 y47 z47 st47 hQ47
        subst l47 y47 z47
        obtain ⟨hv47, N47q, e47⟩ := hQ47
        obtain rfl := hv47.trans (congrArg some (show own_nx ad (own_a66 3) = (.ref (ad 0)) from (by rw [show own_a66 3 = some 0 from by decide]; rfl)))
        have N47 := Fr.app N46 N47q
        refine own_by (fun _ k => st47.trans k) ?_
        show own_Fin p.tables e below _ (T47.setTop (mkF m 350 #[.val (.int p0), .val (.int p1), .val (.ref b1), .val (.ref (ad 1)), .val (.ref (ad 2)), .val (.ref (ad 3)), .val (.ref (ad 4)), .val (.ref (ad 0)), .val (.int ((p0 &&& (2147483647 : Int32)) % (3 : Int32))), .val (.int ((p1 &&& (2147483647 : Int32)) % (3 : Int32))), .val (.ref (ad 2)), .val (.ref (ad 1)), .val (.int (1 : Int32))] [(.ref (ad 0))]))
        refine own_by (fun _ k => XS.aload X47.here hx rfl (hb hby at_350) rfl rfl k) ?_
        show own_Fin p.tables e below _ (T47.setTop (mkF m 352 #[.val (.int p0), .val (.int p1), .val (.ref b1), .val (.ref (ad 1)), .val (.ref (ad 2)), .val (.ref (ad 3)), .val (.ref (ad 4)), .val (.ref (ad 0)), .val (.int ((p0 &&& (2147483647 : Int32)) % (3 : Int32))), .val (.int ((p1 &&& (2147483647 : Int32)) % (3 : Int32))), .val (.ref (ad 2)), .val (.ref (ad 1)), .val (.int (1 : Int32))] [(.ref (ad 0)), (.ref (ad 0))]))
        refine own_by (fun _ k => Jvm.RoadKit.acmp (g := (mkF m 352 #[.val (.int p0), .val (.int p1), .val (.ref b1), .val (.ref (ad 1)), .val (.ref (ad 2)), .val (.ref (ad 3)), .val (.ref (ad 4)), .val (.ref (ad 0)), .val (.int ((p0 &&& (2147483647 : Int32)) % (3 : Int32))), .val (.int ((p1 &&& (2147483647 : Int32)) % (3 : Int32))), .val (.ref (ad 2)), .val (.ref (ad 1)), .val (.int (1 : Int32))] [(.ref (ad 0)), (.ref (ad 0))])) X47 hx rfl rfl rfl (pc0 := 352) (pc' := 355) (same := true) rfl (hb hby at_352) rfl (decide_eq_true rfl) (by decide) (by decide) k) ?_
        show own_Fin p.tables e below _ (T47.setTop (mkF m 355 #[.val (.int p0), .val (.int p1), .val (.ref b1), .val (.ref (ad 1)), .val (.ref (ad 2)), .val (.ref (ad 3)), .val (.ref (ad 4)), .val (.ref (ad 0)), .val (.int ((p0 &&& (2147483647 : Int32)) % (3 : Int32))), .val (.int ((p1 &&& (2147483647 : Int32)) % (3 : Int32))), .val (.ref (ad 2)), .val (.ref (ad 1)), .val (.int (1 : Int32))] []))
        refine own_by (fun _ k => XS.iconst X47.here hx rfl (hb hby at_355) k) ?_
        show own_Fin p.tables e below _ (T47.setTop (mkF m 356 #[.val (.int p0), .val (.int p1), .val (.ref b1), .val (.ref (ad 1)), .val (.ref (ad 2)), .val (.ref (ad 3)), .val (.ref (ad 4)), .val (.ref (ad 0)), .val (.int ((p0 &&& (2147483647 : Int32)) % (3 : Int32))), .val (.int ((p1 &&& (2147483647 : Int32)) % (3 : Int32))), .val (.ref (ad 2)), .val (.ref (ad 1)), .val (.int (1 : Int32))] [(.int (1 : Int32))]))
        refine own_by (fun _ k => XS.goto X47.here hx rfl (pc0 := 356) (pc' := 360) rfl (hb hby at_356) (by decide) (by decide) k) ?_
        show own_Fin p.tables e below _ (T47.setTop (mkF m 360 #[.val (.int p0), .val (.int p1), .val (.ref b1), .val (.ref (ad 1)), .val (.ref (ad 2)), .val (.ref (ad 3)), .val (.ref (ad 4)), .val (.ref (ad 0)), .val (.int ((p0 &&& (2147483647 : Int32)) % (3 : Int32))), .val (.int ((p1 &&& (2147483647 : Int32)) % (3 : Int32))), .val (.ref (ad 2)), .val (.ref (ad 1)), .val (.int (1 : Int32))] [(.int (1 : Int32))]))
        have ef : f0 p0 p1 = (1 : Int32) := by unfold f0; rw [if_neg hc15, if_pos hc39, if_pos hc40]
        exact own_retN X47 hx (t := .boolean) Bd.returns hlk (by simp) (hb hby at_360) (by decide) (by decide) ⟨by rw [ef]; rfl, N47⟩
      · refine own_by (fun _ k => XS.ifYes X14.here hx rfl (pc0 := 144) (pc' := 151) rfl (hb hby at_144) rfl ((if0 _ _).trans (feq hc40).2) (by decide) (by decide) k) ?_
        show own_Fin p.tables e below _ (T14.setTop (mkF m 151 #[.val (.int p0), .val (.int p1), .val (.ref b1), .val (.ref (ad 1)), .val (.ref (ad 2)), .val (.ref (ad 3)), .val (.ref (ad 4)), .val (.ref (ad 0)), .val (.int ((p0 &&& (2147483647 : Int32)) % (3 : Int32))), .val (.int ((p1 &&& (2147483647 : Int32)) % (3 : Int32))), .val (.ref (ad 2)), .unset, .unset] []))
        refine own_by (fun _ k => XS.iload X14.here hx rfl (hb hby at_151) rfl k) ?_
        show own_Fin p.tables e below _ (T14.setTop (mkF m 153 #[.val (.int p0), .val (.int p1), .val (.ref b1), .val (.ref (ad 1)), .val (.ref (ad 2)), .val (.ref (ad 3)), .val (.ref (ad 4)), .val (.ref (ad 0)), .val (.int ((p0 &&& (2147483647 : Int32)) % (3 : Int32))), .val (.int ((p1 &&& (2147483647 : Int32)) % (3 : Int32))), .val (.ref (ad 2)), .unset, .unset] [(.int ((p1 &&& (2147483647 : Int32)) % (3 : Int32)))]))
        refine own_by (fun _ k => XS.iconst X14.here hx rfl (hb hby at_153) k) ?_
        show own_Fin p.tables e below _ (T14.setTop (mkF m 154 #[.val (.int p0), .val (.int p1), .val (.ref b1), .val (.ref (ad 1)), .val (.ref (ad 2)), .val (.ref (ad 3)), .val (.ref (ad 4)), .val (.ref (ad 0)), .val (.int ((p0 &&& (2147483647 : Int32)) % (3 : Int32))), .val (.int ((p1 &&& (2147483647 : Int32)) % (3 : Int32))), .val (.ref (ad 2)), .unset, .unset] [(.int (1 : Int32)), (.int ((p1 &&& (2147483647 : Int32)) % (3 : Int32)))]))
        by_cases hc48 : ((p1 &&& (2147483647 : Int32)) % (3 : Int32)) = (1 : Int32)
        · refine own_by (fun _ k => XS.icmpNo X14.here hx rfl (hb hby at_154) rfl (teq hc48).2 k) ?_
          show own_Fin p.tables e below _ (T14.setTop (mkF m 157 #[.val (.int p0), .val (.int p1), .val (.ref b1), .val (.ref (ad 1)), .val (.ref (ad 2)), .val (.ref (ad 3)), .val (.ref (ad 4)), .val (.ref (ad 0)), .val (.int ((p0 &&& (2147483647 : Int32)) % (3 : Int32))), .val (.int ((p1 &&& (2147483647 : Int32)) % (3 : Int32))), .val (.ref (ad 2)), .unset, .unset] []))
          refine own_by (fun _ k => XS.aload X14.here hx rfl (hb hby at_157) rfl rfl k) ?_
          show own_Fin p.tables e below _ (T14.setTop (mkF m 159 #[.val (.int p0), .val (.int p1), .val (.ref b1), .val (.ref (ad 1)), .val (.ref (ad 2)), .val (.ref (ad 3)), .val (.ref (ad 4)), .val (.ref (ad 0)), .val (.int ((p0 &&& (2147483647 : Int32)) % (3 : Int32))), .val (.int ((p1 &&& (2147483647 : Int32)) % (3 : Int32))), .val (.ref (ad 2)), .unset, .unset] [(.ref (ad 2))]))
          refine own_by (fun _ k => XS.goto X14.here hx rfl (pc0 := 159) (pc' := 164) rfl (hb hby at_159) (by decide) (by decide) k) ?_
          show own_Fin p.tables e below _ (T14.setTop (mkF m 164 #[.val (.int p0), .val (.int p1), .val (.ref b1), .val (.ref (ad 1)), .val (.ref (ad 2)), .val (.ref (ad 3)), .val (.ref (ad 4)), .val (.ref (ad 0)), .val (.int ((p0 &&& (2147483647 : Int32)) % (3 : Int32))), .val (.int ((p1 &&& (2147483647 : Int32)) % (3 : Int32))), .val (.ref (ad 2)), .unset, .unset] [(.ref (ad 2))]))
          refine own_by (fun _ k => XS.astore X14.here hx rfl (hb hby at_164) rfl rfl (l' := #[.val (.int p0), .val (.int p1), .val (.ref b1), .val (.ref (ad 1)), .val (.ref (ad 2)), .val (.ref (ad 3)), .val (.ref (ad 4)), .val (.ref (ad 0)), .val (.int ((p0 &&& (2147483647 : Int32)) % (3 : Int32))), .val (.int ((p1 &&& (2147483647 : Int32)) % (3 : Int32))), .val (.ref (ad 2)), .val (.ref (ad 2)), .unset]) rfl k) ?_
          show own_Fin p.tables e below _ (T14.setTop (mkF m 166 #[.val (.int p0), .val (.int p1), .val (.ref b1), .val (.ref (ad 1)), .val (.ref (ad 2)), .val (.ref (ad 3)), .val (.ref (ad 4)), .val (.ref (ad 0)), .val (.int ((p0 &&& (2147483647 : Int32)) % (3 : Int32))), .val (.int ((p1 &&& (2147483647 : Int32)) % (3 : Int32))), .val (.ref (ad 2)), .val (.ref (ad 2)), .unset] []))
          refine own_by (fun _ k => XS.aloadN X14.here hx rfl (hb hby at_166) rfl rfl k) ?_
          show own_Fin p.tables e below _ (T14.setTop (mkF m 167 #[.val (.int p0), .val (.int p1), .val (.ref b1), .val (.ref (ad 1)), .val (.ref (ad 2)), .val (.ref (ad 3)), .val (.ref (ad 4)), .val (.ref (ad 0)), .val (.int ((p0 &&& (2147483647 : Int32)) % (3 : Int32))), .val (.int ((p1 &&& (2147483647 : Int32)) % (3 : Int32))), .val (.ref (ad 2)), .val (.ref (ad 2)), .unset] [(.ref b1)]))
          refine own_by (fun _ k => XS.aload X14.here hx rfl (hb hby at_167) rfl rfl k) ?_
          show own_Fin p.tables e below _ (T14.setTop (mkF m 169 #[.val (.int p0), .val (.int p1), .val (.ref b1), .val (.ref (ad 1)), .val (.ref (ad 2)), .val (.ref (ad 3)), .val (.ref (ad 4)), .val (.ref (ad 0)), .val (.int ((p0 &&& (2147483647 : Int32)) % (3 : Int32))), .val (.int ((p1 &&& (2147483647 : Int32)) % (3 : Int32))), .val (.ref (ad 2)), .val (.ref (ad 2)), .unset] [(.ref (ad 4)), (.ref b1)]))
          refine own_by (fun _ k => XS.aload X14.here hx rfl (hb hby at_169) rfl rfl k) ?_
          show own_Fin p.tables e below _ (T14.setTop (mkF m 171 #[.val (.int p0), .val (.int p1), .val (.ref b1), .val (.ref (ad 1)), .val (.ref (ad 2)), .val (.ref (ad 3)), .val (.ref (ad 4)), .val (.ref (ad 0)), .val (.int ((p0 &&& (2147483647 : Int32)) % (3 : Int32))), .val (.int ((p1 &&& (2147483647 : Int32)) % (3 : Int32))), .val (.ref (ad 2)), .val (.ref (ad 2)), .unset] [(.ref (ad 2)), (.ref (ad 4)), (.ref b1)]))
          obtain ⟨cq49, kq49, q49a, q49b, q49c⟩ := isOf hZ e14 S13.2.2.1
          obtain ⟨_, _, ⟨T49, L49, k49, n49⟩, -, X49, ⟨Lc49, hQ49, l49, y49, z49⟩, st49⟩ := X14.virtualBack hx (y := (⟨"com/example/brazier/brazier/keyspace/ChangeOrder", "passTo", "(Lcom/example/brazier/brazier/keyspace/ChangeOrder$Place;Lcom/example/brazier/brazier/keyspace/ChangeOrder$Link;)V"⟩ : MethodName)) (z := (⟨"com/example/brazier/brazier/keyspace/ChangeOrder", "passTo", "(Lcom/example/brazier/brazier/keyspace/ChangeOrder$Place;Lcom/example/brazier/brazier/keyspace/ChangeOrder$Link;)V"⟩ : MethodName)) hown (mvT hZ (hw _ (List.mem_of_getElem? (i := 50) rfl))) (mvT hZ (hw _ (List.mem_of_getElem? (i := 51) rfl))) (notFace_of_selects (args := #[]) (mvT hZ (hw _ (List.mem_of_getElem? (i := 53) rfl)))) (mvT hZ (hw _ (List.mem_of_getElem? (i := 53) rfl))) (mvT hZ (hw _ (List.mem_of_getElem? (i := 52) rfl))) (by decide) (backOf (W := 0) (rm8 l Z a0 hw [] 5 ad own_K b1 own_b9 own_a10 own_n11 own_w12 own_w0 4 2 1 T13.heap n0 S13.1 S13 sl wk (by decide) (by decide) (by decide) (own_wf0 (by decide)) (by decide)) hZ (hw _ (List.mem_of_getElem? (i := 54) rfl)) (hw _ (List.mem_of_getElem? (i := 2) rfl)) (by decide) (by decide)) q49a q49c (g := (mkF m 171 #[.val (.int p0), .val (.int p1), .val (.ref b1), .val (.ref (ad 1)), .val (.ref (ad 2)), .val (.ref (ad 3)), .val (.ref (ad 4)), .val (.ref (ad 0)), .val (.int ((p0 &&& (2147483647 : Int32)) % (3 : Int32))), .val (.int ((p1 &&& (2147483647 : Int32)) % (3 : Int32))), .val (.ref (ad 2)), .val (.ref (ad 2)), .unset] [(.ref (ad 2)), (.ref (ad 4)), (.ref b1)])) rfl (by rw [hml]; rfl) (Steps.refl _) (argsL := [(.ref (ad 4)), (.ref (ad 2))]) (rest := []) (lenOf pd__Lcom_example_brazier_brazier_keyspace_ChangeOrder_Place_Lcom_example_brazier_brazier_keyspace_ChangeOrder_Link__V rfl) rfl (by show 2 * 0 + _ ≤ _; exact Nat.le_of_eq rfl) (hb hby at_171) (fun _ _ => ⟨rfl, e14, (by decide : 6 + 0 ≤ _), (by decide : 18 + 0 ≤ _)⟩)
          dsimp only [Pt.U, Pt.locs, Pt.cells, Pt.slots] at X49 l49 y49 z49 st49 hQ49
          subst l49 y49 z49
          obtain ⟨rfl, N49q, S49q⟩ := hQ49
          have N49 := Fr.app N14 N49q
          refine own_by (fun _ k => st49.trans k) ?_
          have S49 : own_S Z T49.heap n0 5 ad own_K b1 own_b53 own_a54 own_n55 own_w12 own_p56 := S49q
          show own_Fin p.tables e below _ (T49.setTop (mkF m 174 #[.val (.int p0), .val (.int p1), .val (.ref b1), .val (.ref (ad 1)), .val (.ref (ad 2)), .val (.ref (ad 3)), .val (.ref (ad 4)), .val (.ref (ad 0)), .val (.int ((p0 &&& (2147483647 : Int32)) % (3 : Int32))), .val (.int ((p1 &&& (2147483647 : Int32)) % (3 : Int32))), .val (.ref (ad 2)), .val (.ref (ad 2)), .unset] []))
          refine own_by (fun _ k => XS.aloadN X49.here hx rfl (hb hby at_174) rfl rfl k) ?_
          show own_Fin p.tables e below _ (T49.setTop (mkF m 175 #[.val (.int p0), .val (.int p1), .val (.ref b1), .val (.ref (ad 1)), .val (.ref (ad 2)), .val (.ref (ad 3)), .val (.ref (ad 4)), .val (.ref (ad 0)), .val (.int ((p0 &&& (2147483647 : Int32)) % (3 : Int32))), .val (.int ((p1 &&& (2147483647 : Int32)) % (3 : Int32))), .val (.ref (ad 2)), .val (.ref (ad 2)), .unset] [(.ref b1)]))
          refine own_by (fun _ k => XS.aload X49.here hx rfl (hb hby at_175) rfl rfl k) ?_
          show own_Fin p.tables e below _ (T49.setTop (mkF m 177 #[.val (.int p0), .val (.int p1), .val (.ref b1), .val (.ref (ad 1)), .val (.ref (ad 2)), .val (.ref (ad 3)), .val (.ref (ad 4)), .val (.ref (ad 0)), .val (.int ((p0 &&& (2147483647 : Int32)) % (3 : Int32))), .val (.int ((p1 &&& (2147483647 : Int32)) % (3 : Int32))), .val (.ref (ad 2)), .val (.ref (ad 2)), .unset] [(.ref (ad 2)), (.ref b1)]))
          obtain ⟨cq50, kq50, q50a, q50b, q50c⟩ := isOf hZ rfl S49.2.2.1
          obtain ⟨_, _, ⟨T50, L50, k50, n50⟩, -, X50, ⟨Lc50, hQ50, l50, y50, z50⟩, st50⟩ := X49.virtualBack hx (y := (⟨"com/example/brazier/brazier/keyspace/ChangeOrder", "changed", "(Lcom/example/brazier/brazier/keyspace/ChangeOrder$Link;)V"⟩ : MethodName)) (z := (⟨"com/example/brazier/brazier/keyspace/ChangeOrder", "changed", "(Lcom/example/brazier/brazier/keyspace/ChangeOrder$Link;)V"⟩ : MethodName)) hown (mvT hZ (hw _ (List.mem_of_getElem? (i := 75) rfl))) (mvT hZ (hw _ (List.mem_of_getElem? (i := 76) rfl))) (notFace_of_selects (args := #[]) (mvT hZ (hw _ (List.mem_of_getElem? (i := 78) rfl)))) (mvT hZ (hw _ (List.mem_of_getElem? (i := 78) rfl))) (mvT hZ (hw _ (List.mem_of_getElem? (i := 77) rfl))) (by decide) (backOf (W := 0) (rm13 l Z a0 hw [] 5 ad own_K b1 own_b53 own_a54 own_n55 own_w12 own_p56 2 3 T49.heap n0 S49.1 S49 sl wk (by decide) (by decide) (by decide) (fun q => absurd (by decide) q)) hZ (hw _ (List.mem_of_getElem? (i := 79) rfl)) (hw _ (List.mem_of_getElem? (i := 2) rfl)) (by decide) (by decide)) q50a q50c (g := (mkF m 177 #[.val (.int p0), .val (.int p1), .val (.ref b1), .val (.ref (ad 1)), .val (.ref (ad 2)), .val (.ref (ad 3)), .val (.ref (ad 4)), .val (.ref (ad 0)), .val (.int ((p0 &&& (2147483647 : Int32)) % (3 : Int32))), .val (.int ((p1 &&& (2147483647 : Int32)) % (3 : Int32))), .val (.ref (ad 2)), .val (.ref (ad 2)), .unset] [(.ref (ad 2)), (.ref b1)])) rfl (by rw [hml]; rfl) (Steps.refl _) (argsL := [(.ref (ad 2))]) (rest := []) (lenOf pd__Lcom_example_brazier_brazier_keyspace_ChangeOrder_Link__V rfl) rfl (by show 2 * 0 + _ ≤ _; exact Nat.le_of_eq rfl) (hb hby at_177) (fun _ _ => ⟨rfl, rfl, (by decide : 6 + 0 ≤ _), (by decide : 18 + 0 ≤ _)⟩)
          dsimp only [Pt.U, Pt.locs, Pt.cells, Pt.slots] at X50 l50 y50 z50 st50 hQ50
          subst l50 y50 z50
          obtain ⟨rfl, N50q, S50q⟩ := hQ50
          have N50 := Fr.app N49 N50q
          refine own_by (fun _ k => st50.trans k) ?_
          have S50 : own_S Z T50.heap n0 5 ad own_K b1 own_b69 own_a70 own_n71 own_w72 own_p56 := S50q
          show own_Fin p.tables e below _ (T50.setTop (mkF m 180 #[.val (.int p0), .val (.int p1), .val (.ref b1), .val (.ref (ad 1)), .val (.ref (ad 2)), .val (.ref (ad 3)), .val (.ref (ad 4)), .val (.ref (ad 0)), .val (.int ((p0 &&& (2147483647 : Int32)) % (3 : Int32))), .val (.int ((p1 &&& (2147483647 : Int32)) % (3 : Int32))), .val (.ref (ad 2)), .val (.ref (ad 2)), .unset] []))
          refine own_by (fun _ k => XS.iload X50.here hx rfl (hb hby at_180) rfl k) ?_
          show own_Fin p.tables e below _ (T50.setTop (mkF m 182 #[.val (.int p0), .val (.int p1), .val (.ref b1), .val (.ref (ad 1)), .val (.ref (ad 2)), .val (.ref (ad 3)), .val (.ref (ad 4)), .val (.ref (ad 0)), .val (.int ((p0 &&& (2147483647 : Int32)) % (3 : Int32))), .val (.int ((p1 &&& (2147483647 : Int32)) % (3 : Int32))), .val (.ref (ad 2)), .val (.ref (ad 2)), .unset] [(.int ((p0 &&& (2147483647 : Int32)) % (3 : Int32)))]))
          refine own_by (fun _ k => XS.ifYes X50.here hx rfl (pc0 := 182) (pc' := 203) rfl (hb hby at_182) rfl ((if0 _ _).trans (feq hc15).2) (by decide) (by decide) k) ?_
          show own_Fin p.tables e below _ (T50.setTop (mkF m 203 #[.val (.int p0), .val (.int p1), .val (.ref b1), .val (.ref (ad 1)), .val (.ref (ad 2)), .val (.ref (ad 3)), .val (.ref (ad 4)), .val (.ref (ad 0)), .val (.int ((p0 &&& (2147483647 : Int32)) % (3 : Int32))), .val (.int ((p1 &&& (2147483647 : Int32)) % (3 : Int32))), .val (.ref (ad 2)), .val (.ref (ad 2)), .unset] []))
          refine own_by (fun _ k => XS.iload X50.here hx rfl (hb hby at_203) rfl k) ?_
          show own_Fin p.tables e below _ (T50.setTop (mkF m 205 #[.val (.int p0), .val (.int p1), .val (.ref b1), .val (.ref (ad 1)), .val (.ref (ad 2)), .val (.ref (ad 3)), .val (.ref (ad 4)), .val (.ref (ad 0)), .val (.int ((p0 &&& (2147483647 : Int32)) % (3 : Int32))), .val (.int ((p1 &&& (2147483647 : Int32)) % (3 : Int32))), .val (.ref (ad 2)), .val (.ref (ad 2)), .unset] [(.int ((p0 &&& (2147483647 : Int32)) % (3 : Int32)))]))
          refine own_by (fun _ k => XS.iconst X50.here hx rfl (hb hby at_205) k) ?_
          show own_Fin p.tables e below _ (T50.setTop (mkF m 206 #[.val (.int p0), .val (.int p1), .val (.ref b1), .val (.ref (ad 1)), .val (.ref (ad 2)), .val (.ref (ad 3)), .val (.ref (ad 4)), .val (.ref (ad 0)), .val (.int ((p0 &&& (2147483647 : Int32)) % (3 : Int32))), .val (.int ((p1 &&& (2147483647 : Int32)) % (3 : Int32))), .val (.ref (ad 2)), .val (.ref (ad 2)), .unset] [(.int (1 : Int32)), (.int ((p0 &&& (2147483647 : Int32)) % (3 : Int32)))]))
          refine own_by (fun _ k => XS.icmpNo X50.here hx rfl (hb hby at_206) rfl (teq hc39).2 k) ?_
          show own_Fin p.tables e below _ (T50.setTop (mkF m 209 #[.val (.int p0), .val (.int p1), .val (.ref b1), .val (.ref (ad 1)), .val (.ref (ad 2)), .val (.ref (ad 3)), .val (.ref (ad 4)), .val (.ref (ad 0)), .val (.int ((p0 &&& (2147483647 : Int32)) % (3 : Int32))), .val (.int ((p1 &&& (2147483647 : Int32)) % (3 : Int32))), .val (.ref (ad 2)), .val (.ref (ad 2)), .unset] []))
          refine own_by (fun _ k => XS.iload X50.here hx rfl (hb hby at_209) rfl k) ?_
          show own_Fin p.tables e below _ (T50.setTop (mkF m 211 #[.val (.int p0), .val (.int p1), .val (.ref b1), .val (.ref (ad 1)), .val (.ref (ad 2)), .val (.ref (ad 3)), .val (.ref (ad 4)), .val (.ref (ad 0)), .val (.int ((p0 &&& (2147483647 : Int32)) % (3 : Int32))), .val (.int ((p1 &&& (2147483647 : Int32)) % (3 : Int32))), .val (.ref (ad 2)), .val (.ref (ad 2)), .unset] [(.int ((p1 &&& (2147483647 : Int32)) % (3 : Int32)))]))
          refine own_by (fun _ k => XS.ifYes X50.here hx rfl (pc0 := 211) (pc' := 232) rfl (hb hby at_211) rfl ((if0 _ _).trans (feq hc40).2) (by decide) (by decide) k) ?_
          show own_Fin p.tables e below _ (T50.setTop (mkF m 232 #[.val (.int p0), .val (.int p1), .val (.ref b1), .val (.ref (ad 1)), .val (.ref (ad 2)), .val (.ref (ad 3)), .val (.ref (ad 4)), .val (.ref (ad 0)), .val (.int ((p0 &&& (2147483647 : Int32)) % (3 : Int32))), .val (.int ((p1 &&& (2147483647 : Int32)) % (3 : Int32))), .val (.ref (ad 2)), .val (.ref (ad 2)), .unset] []))
          refine own_by (fun _ k => XS.aloadN X50.here hx rfl (hb hby at_232) rfl rfl k) ?_
          show own_Fin p.tables e below _ (T50.setTop (mkF m 233 #[.val (.int p0), .val (.int p1), .val (.ref b1), .val (.ref (ad 1)), .val (.ref (ad 2)), .val (.ref (ad 3)), .val (.ref (ad 4)), .val (.ref (ad 0)), .val (.int ((p0 &&& (2147483647 : Int32)) % (3 : Int32))), .val (.int ((p1 &&& (2147483647 : Int32)) % (3 : Int32))), .val (.ref (ad 2)), .val (.ref (ad 2)), .unset] [(.ref b1)]))
          refine own_by (fun _ k => XS.aload X50.here hx rfl (hb hby at_233) rfl rfl k) ?_
          show own_Fin p.tables e below _ (T50.setTop (mkF m 235 #[.val (.int p0), .val (.int p1), .val (.ref b1), .val (.ref (ad 1)), .val (.ref (ad 2)), .val (.ref (ad 3)), .val (.ref (ad 4)), .val (.ref (ad 0)), .val (.int ((p0 &&& (2147483647 : Int32)) % (3 : Int32))), .val (.int ((p1 &&& (2147483647 : Int32)) % (3 : Int32))), .val (.ref (ad 2)), .val (.ref (ad 2)), .unset] [(.ref (ad 0)), (.ref b1)]))
          refine own_by (fun _ k => XS.aloadN X50.here hx rfl (hb hby at_235) rfl rfl k) ?_
          show own_Fin p.tables e below _ (T50.setTop (mkF m 236 #[.val (.int p0), .val (.int p1), .val (.ref b1), .val (.ref (ad 1)), .val (.ref (ad 2)), .val (.ref (ad 3)), .val (.ref (ad 4)), .val (.ref (ad 0)), .val (.int ((p0 &&& (2147483647 : Int32)) % (3 : Int32))), .val (.int ((p1 &&& (2147483647 : Int32)) % (3 : Int32))), .val (.ref (ad 2)), .val (.ref (ad 2)), .unset] [(.ref (ad 1)), (.ref (ad 0)), (.ref b1)]))
          refine own_by (fun _ k => XS.aload X50.here hx rfl (hb hby at_236) rfl rfl k) ?_
          show own_Fin p.tables e below _ (T50.setTop (mkF m 238 #[.val (.int p0), .val (.int p1), .val (.ref b1), .val (.ref (ad 1)), .val (.ref (ad 2)), .val (.ref (ad 3)), .val (.ref (ad 4)), .val (.ref (ad 0)), .val (.int ((p0 &&& (2147483647 : Int32)) % (3 : Int32))), .val (.int ((p1 &&& (2147483647 : Int32)) % (3 : Int32))), .val (.ref (ad 2)), .val (.ref (ad 2)), .unset] [(.ref (ad 4)), (.ref (ad 1)), (.ref (ad 0)), (.ref b1)]))
          refine own_by (fun _ k => XS.aload X50.here hx rfl (hb hby at_238) rfl rfl k) ?_
          show own_Fin p.tables e below _ (T50.setTop (mkF m 240 #[.val (.int p0), .val (.int p1), .val (.ref b1), .val (.ref (ad 1)), .val (.ref (ad 2)), .val (.ref (ad 3)), .val (.ref (ad 4)), .val (.ref (ad 0)), .val (.int ((p0 &&& (2147483647 : Int32)) % (3 : Int32))), .val (.int ((p1 &&& (2147483647 : Int32)) % (3 : Int32))), .val (.ref (ad 2)), .val (.ref (ad 2)), .unset] [(.ref (ad 2)), (.ref (ad 4)), (.ref (ad 1)), (.ref (ad 0)), (.ref b1)]))
          refine own_by (fun _ k => XS.aload X50.here hx rfl (hb hby at_240) rfl rfl k) ?_
          show own_Fin p.tables e below _ (T50.setTop (mkF m 242 #[.val (.int p0), .val (.int p1), .val (.ref b1), .val (.ref (ad 1)), .val (.ref (ad 2)), .val (.ref (ad 3)), .val (.ref (ad 4)), .val (.ref (ad 0)), .val (.int ((p0 &&& (2147483647 : Int32)) % (3 : Int32))), .val (.int ((p1 &&& (2147483647 : Int32)) % (3 : Int32))), .val (.ref (ad 2)), .val (.ref (ad 2)), .unset] [(.ref (ad 3)), (.ref (ad 2)), (.ref (ad 4)), (.ref (ad 1)), (.ref (ad 0)), (.ref b1)]))
          obtain ⟨_, _, ⟨T51, L51, k51, n51⟩, -, X51, ⟨Lc51, hQ51, l51, y51, z51⟩, st51⟩ := Jvm.LawKit.callS X50 hx (y := (⟨"com/example/brazier/brazier/keyspace/ChangeOrderAddPinLaw", "ringIs", "(Lcom/example/brazier/brazier/keyspace/ChangeOrder;Lcom/example/brazier/brazier/keyspace/ChangeOrder$Link;Lcom/example/brazier/brazier/keyspace/ChangeOrder$Link;Lcom/example/brazier/brazier/keyspace/ChangeOrder$Link;Lcom/example/brazier/brazier/keyspace/ChangeOrder$Link;Lcom/example/brazier/brazier/keyspace/ChangeOrder$Link;)Z"⟩ : MethodName)) hown (mvT hZ (hw _ (List.mem_of_getElem? (i := 80) rfl))) (mvT hZ (hw _ (List.mem_of_getElem? (i := 81) rfl))) (mvT hZ (hw _ (List.mem_of_getElem? (i := 82) rfl))) (mvT hZ (hw _ (List.mem_of_getElem? (i := 83) rfl))) (by decide) (backOf (W := 0) (rm14 l Z a0 hw [] 5 ad own_K b1 own_b69 own_a70 own_n71 own_w72 own_p56 0 1 4 2 3 T50.heap n0 S50.1 S50 sl wk (by decide) (by decide) (by decide) (by decide) (by decide) (by decide) (by decide) (by decide) (by decide) (by decide)) hZ (hw _ (List.mem_of_getElem? (i := 83) rfl)) (hw _ (List.mem_of_getElem? (i := 82) rfl)) (by decide) (by decide)) (g := (mkF m 242 #[.val (.int p0), .val (.int p1), .val (.ref b1), .val (.ref (ad 1)), .val (.ref (ad 2)), .val (.ref (ad 3)), .val (.ref (ad 4)), .val (.ref (ad 0)), .val (.int ((p0 &&& (2147483647 : Int32)) % (3 : Int32))), .val (.int ((p1 &&& (2147483647 : Int32)) % (3 : Int32))), .val (.ref (ad 2)), .val (.ref (ad 2)), .unset] [(.ref (ad 3)), (.ref (ad 2)), (.ref (ad 4)), (.ref (ad 1)), (.ref (ad 0)), (.ref b1)])) rfl (by rw [hml]; rfl) (argsL := [(.ref b1), (.ref (ad 0)), (.ref (ad 1)), (.ref (ad 4)), (.ref (ad 2)), (.ref (ad 3))]) (rest := []) (lenOf pd__Lcom_example_brazier_brazier_keyspace_ChangeOrder_Lcom_example_brazier_brazier_keyspace_ChangeOrder_Link_Lcom_example_brazier_brazier_keyspace_ChangeOrder_Link_Lcom_example_brazier_brazier_keyspace_ChangeOrder_Link_Lcom_example_brazier_brazier_keyspace_ChangeOrder_Link_Lcom_example_brazier_brazier_keyspace_ChangeOrder_Link__Z rfl) rfl (by show 2 * 0 + _ ≤ _; exact Nat.le_of_eq rfl) (hb hby at_242) (fun _ _ => ⟨rfl, rfl, (by decide : 6 + 0 ≤ _), (by decide : 18 + 0 ≤ _)⟩)
          dsimp only [Pt.U, Pt.locs, Pt.cells, Pt.slots] at X51 l51 y51 z51 st51 hQ51
          subst l51 y51 z51
          obtain ⟨rfl, N51q, e51⟩ := hQ51
          have N51 := Fr.app N50 N51q
          refine own_by st51 ?_
          show own_Fin p.tables e below _ (T51.setTop (mkF m 245 #[.val (.int p0), .val (.int p1), .val (.ref b1), .val (.ref (ad 1)), .val (.ref (ad 2)), .val (.ref (ad 3)), .val (.ref (ad 4)), .val (.ref (ad 0)), .val (.int ((p0 &&& (2147483647 : Int32)) % (3 : Int32))), .val (.int ((p1 &&& (2147483647 : Int32)) % (3 : Int32))), .val (.ref (ad 2)), .val (.ref (ad 2)), .unset] [(.int (1 : Int32))]))
          refine own_by (fun _ k => XS.istore X51.here hx rfl (hb hby at_245) rfl (l' := #[.val (.int p0), .val (.int p1), .val (.ref b1), .val (.ref (ad 1)), .val (.ref (ad 2)), .val (.ref (ad 3)), .val (.ref (ad 4)), .val (.ref (ad 0)), .val (.int ((p0 &&& (2147483647 : Int32)) % (3 : Int32))), .val (.int ((p1 &&& (2147483647 : Int32)) % (3 : Int32))), .val (.ref (ad 2)), .val (.ref (ad 2)), .val (.int (1 : Int32))]) rfl k) ?_
          show own_Fin p.tables e below _ (T51.setTop (mkF m 247 #[.val (.int p0), .val (.int p1), .val (.ref b1), .val (.ref (ad 1)), .val (.ref (ad 2)), .val (.ref (ad 3)), .val (.ref (ad 4)), .val (.ref (ad 0)), .val (.int ((p0 &&& (2147483647 : Int32)) % (3 : Int32))), .val (.int ((p1 &&& (2147483647 : Int32)) % (3 : Int32))), .val (.ref (ad 2)), .val (.ref (ad 2)), .val (.int (1 : Int32))] []))
          refine own_by (fun _ k => XS.goto X51.here hx rfl (pc0 := 247) (pc' := 312) rfl (hb hby at_247) (by decide) (by decide) k) ?_
          show own_Fin p.tables e below _ (T51.setTop (mkF m 312 #[.val (.int p0), .val (.int p1), .val (.ref b1), .val (.ref (ad 1)), .val (.ref (ad 2)), .val (.ref (ad 3)), .val (.ref (ad 4)), .val (.ref (ad 0)), .val (.int ((p0 &&& (2147483647 : Int32)) % (3 : Int32))), .val (.int ((p1 &&& (2147483647 : Int32)) % (3 : Int32))), .val (.ref (ad 2)), .val (.ref (ad 2)), .val (.int (1 : Int32))] []))
          refine own_by (fun _ k => XS.iload X51.here hx rfl (hb hby at_312) rfl k) ?_
          show own_Fin p.tables e below _ (T51.setTop (mkF m 314 #[.val (.int p0), .val (.int p1), .val (.ref b1), .val (.ref (ad 1)), .val (.ref (ad 2)), .val (.ref (ad 3)), .val (.ref (ad 4)), .val (.ref (ad 0)), .val (.int ((p0 &&& (2147483647 : Int32)) % (3 : Int32))), .val (.int ((p1 &&& (2147483647 : Int32)) % (3 : Int32))), .val (.ref (ad 2)), .val (.ref (ad 2)), .val (.int (1 : Int32))] [(.int (1 : Int32))]))
          refine own_by (fun _ k => XS.ifYes X51.here hx rfl (pc0 := 314) (pc' := 319) rfl (hb hby at_314) rfl ((if0 _ _).trans (feq (by decide)).2) (by decide) (by decide) k) ?_
          show own_Fin p.tables e below _ (T51.setTop (mkF m 319 #[.val (.int p0), .val (.int p1), .val (.ref b1), .val (.ref (ad 1)), .val (.ref (ad 2)), .val (.ref (ad 3)), .val (.ref (ad 4)), .val (.ref (ad 0)), .val (.int ((p0 &&& (2147483647 : Int32)) % (3 : Int32))), .val (.int ((p1 &&& (2147483647 : Int32)) % (3 : Int32))), .val (.ref (ad 2)), .val (.ref (ad 2)), .val (.int (1 : Int32))] []))
          refine own_by (fun _ k => XS.aloadN X51.here hx rfl (hb hby at_319) rfl rfl k) ?_
          show own_Fin p.tables e below _ (T51.setTop (mkF m 320 #[.val (.int p0), .val (.int p1), .val (.ref b1), .val (.ref (ad 1)), .val (.ref (ad 2)), .val (.ref (ad 3)), .val (.ref (ad 4)), .val (.ref (ad 0)), .val (.int ((p0 &&& (2147483647 : Int32)) % (3 : Int32))), .val (.int ((p1 &&& (2147483647 : Int32)) % (3 : Int32))), .val (.ref (ad 2)), .val (.ref (ad 2)), .val (.int (1 : Int32))] [(.ref b1)]))
          refine own_by (fun _ k => XS.aload X51.here hx rfl (hb hby at_320) rfl rfl k) ?_
          show own_Fin p.tables e below _ (T51.setTop (mkF m 322 #[.val (.int p0), .val (.int p1), .val (.ref b1), .val (.ref (ad 1)), .val (.ref (ad 2)), .val (.ref (ad 3)), .val (.ref (ad 4)), .val (.ref (ad 0)), .val (.int ((p0 &&& (2147483647 : Int32)) % (3 : Int32))), .val (.int ((p1 &&& (2147483647 : Int32)) % (3 : Int32))), .val (.ref (ad 2)), .val (.ref (ad 2)), .val (.int (1 : Int32))] [(.ref (ad 4)), (.ref b1)]))
          refine own_by (fun _ k => XS.aload X51.here hx rfl (hb hby at_322) rfl rfl k) ?_
          show own_Fin p.tables e below _ (T51.setTop (mkF m 324 #[.val (.int p0), .val (.int p1), .val (.ref b1), .val (.ref (ad 1)), .val (.ref (ad 2)), .val (.ref (ad 3)), .val (.ref (ad 4)), .val (.ref (ad 0)), .val (.int ((p0 &&& (2147483647 : Int32)) % (3 : Int32))), .val (.int ((p1 &&& (2147483647 : Int32)) % (3 : Int32))), .val (.ref (ad 2)), .val (.ref (ad 2)), .val (.int (1 : Int32))] [(.ref (ad 0)), (.ref (ad 4)), (.ref b1)]))
          obtain ⟨cq52, kq52, q52a, q52b, q52c⟩ := isOf hZ e51 S50.2.2.1
          obtain ⟨_, _, ⟨T52, L52, k52, n52⟩, -, X52, ⟨Lc52, hQ52, l52, y52, z52⟩, st52⟩ := X51.virtualBack hx (y := (⟨"com/example/brazier/brazier/keyspace/ChangeOrder", "passTo", "(Lcom/example/brazier/brazier/keyspace/ChangeOrder$Place;Lcom/example/brazier/brazier/keyspace/ChangeOrder$Link;)V"⟩ : MethodName)) (z := (⟨"com/example/brazier/brazier/keyspace/ChangeOrder", "passTo", "(Lcom/example/brazier/brazier/keyspace/ChangeOrder$Place;Lcom/example/brazier/brazier/keyspace/ChangeOrder$Link;)V"⟩ : MethodName)) hown (mvT hZ (hw _ (List.mem_of_getElem? (i := 50) rfl))) (mvT hZ (hw _ (List.mem_of_getElem? (i := 51) rfl))) (notFace_of_selects (args := #[]) (mvT hZ (hw _ (List.mem_of_getElem? (i := 53) rfl)))) (mvT hZ (hw _ (List.mem_of_getElem? (i := 53) rfl))) (mvT hZ (hw _ (List.mem_of_getElem? (i := 52) rfl))) (by decide) (backOf (W := 0) (rm8 l Z a0 hw [] 5 ad own_K b1 own_b69 own_a70 own_n71 own_w72 own_p56 4 0 3 T50.heap n0 S50.1 S50 sl wk (by decide) (by decide) (by decide) (own_wf1 (q := 2) (p := 1) (by decide) (by decide) (by decide) (by decide)) (by decide)) hZ (hw _ (List.mem_of_getElem? (i := 54) rfl)) (hw _ (List.mem_of_getElem? (i := 2) rfl)) (by decide) (by decide)) q52a q52c (g := (mkF m 324 #[.val (.int p0), .val (.int p1), .val (.ref b1), .val (.ref (ad 1)), .val (.ref (ad 2)), .val (.ref (ad 3)), .val (.ref (ad 4)), .val (.ref (ad 0)), .val (.int ((p0 &&& (2147483647 : Int32)) % (3 : Int32))), .val (.int ((p1 &&& (2147483647 : Int32)) % (3 : Int32))), .val (.ref (ad 2)), .val (.ref (ad 2)), .val (.int (1 : Int32))] [(.ref (ad 0)), (.ref (ad 4)), (.ref b1)])) rfl (by rw [hml]; rfl) (Steps.refl _) (argsL := [(.ref (ad 4)), (.ref (ad 0))]) (rest := []) (lenOf pd__Lcom_example_brazier_brazier_keyspace_ChangeOrder_Place_Lcom_example_brazier_brazier_keyspace_ChangeOrder_Link__V rfl) rfl (by show 2 * 0 + _ ≤ _; exact Nat.le_of_eq rfl) (hb hby at_324) (fun _ _ => ⟨rfl, e51, (by decide : 6 + 0 ≤ _), (by decide : 18 + 0 ≤ _)⟩)
          dsimp only [Pt.U, Pt.locs, Pt.cells, Pt.slots] at X52 l52 y52 z52 st52 hQ52
          subst l52 y52 z52
          obtain ⟨rfl, N52q, S52q⟩ := hQ52
          have N52 := Fr.app N51 N52q
          refine own_by (fun _ k => st52.trans k) ?_
          have S52 : own_S Z T52.heap n0 5 ad own_K b1 own_b73 own_a74 own_n75 own_w72 own_p76 := S52q
          show own_Fin p.tables e below _ (T52.setTop (mkF m 327 #[.val (.int p0), .val (.int p1), .val (.ref b1), .val (.ref (ad 1)), .val (.ref (ad 2)), .val (.ref (ad 3)), .val (.ref (ad 4)), .val (.ref (ad 0)), .val (.int ((p0 &&& (2147483647 : Int32)) % (3 : Int32))), .val (.int ((p1 &&& (2147483647 : Int32)) % (3 : Int32))), .val (.ref (ad 2)), .val (.ref (ad 2)), .val (.int (1 : Int32))] []))
          refine own_by (fun _ k => XS.aloadN X52.here hx rfl (hb hby at_327) rfl rfl k) ?_
          show own_Fin p.tables e below _ (T52.setTop (mkF m 328 #[.val (.int p0), .val (.int p1), .val (.ref b1), .val (.ref (ad 1)), .val (.ref (ad 2)), .val (.ref (ad 3)), .val (.ref (ad 4)), .val (.ref (ad 0)), .val (.int ((p0 &&& (2147483647 : Int32)) % (3 : Int32))), .val (.int ((p1 &&& (2147483647 : Int32)) % (3 : Int32))), .val (.ref (ad 2)), .val (.ref (ad 2)), .val (.int (1 : Int32))] [(.ref b1)]))
          refine own_by (fun _ k => XS.aload X52.here hx rfl (hb hby at_328) rfl rfl k) ?_
          show own_Fin p.tables e below _ (T52.setTop (mkF m 330 #[.val (.int p0), .val (.int p1), .val (.ref b1), .val (.ref (ad 1)), .val (.ref (ad 2)), .val (.ref (ad 3)), .val (.ref (ad 4)), .val (.ref (ad 0)), .val (.int ((p0 &&& (2147483647 : Int32)) % (3 : Int32))), .val (.int ((p1 &&& (2147483647 : Int32)) % (3 : Int32))), .val (.ref (ad 2)), .val (.ref (ad 2)), .val (.int (1 : Int32))] [(.ref (ad 3)), (.ref b1)]))
          obtain ⟨cq53, kq53, q53a, q53b, q53c⟩ := isOf hZ rfl S52.2.2.1
          obtain ⟨_, _, ⟨T53, L53, k53, n53⟩, -, X53, ⟨Lc53, hQ53, l53, y53, z53⟩, st53⟩ := X52.virtualBack hx (y := (⟨"com/example/brazier/brazier/keyspace/ChangeOrder", "changed", "(Lcom/example/brazier/brazier/keyspace/ChangeOrder$Link;)V"⟩ : MethodName)) (z := (⟨"com/example/brazier/brazier/keyspace/ChangeOrder", "changed", "(Lcom/example/brazier/brazier/keyspace/ChangeOrder$Link;)V"⟩ : MethodName)) hown (mvT hZ (hw _ (List.mem_of_getElem? (i := 75) rfl))) (mvT hZ (hw _ (List.mem_of_getElem? (i := 76) rfl))) (notFace_of_selects (args := #[]) (mvT hZ (hw _ (List.mem_of_getElem? (i := 78) rfl)))) (mvT hZ (hw _ (List.mem_of_getElem? (i := 78) rfl))) (mvT hZ (hw _ (List.mem_of_getElem? (i := 77) rfl))) (by decide) (backOf (W := 0) (rm13 l Z a0 hw [] 5 ad own_K b1 own_b73 own_a74 own_n75 own_w72 own_p76 3 4 T52.heap n0 S52.1 S52 sl wk (by decide) (by decide) (by decide) (fun _ => ⟨(own_wf1 (q := 4) (p := 2) (by decide) (by decide) (by decide) (by decide)), by decide⟩)) hZ (hw _ (List.mem_of_getElem? (i := 79) rfl)) (hw _ (List.mem_of_getElem? (i := 2) rfl)) (by decide) (by decide)) q53a q53c (g := (mkF m 330 #[.val (.int p0), .val (.int p1), .val (.ref b1), .val (.ref (ad 1)), .val (.ref (ad 2)), .val (.ref (ad 3)), .val (.ref (ad 4)), .val (.ref (ad 0)), .val (.int ((p0 &&& (2147483647 : Int32)) % (3 : Int32))), .val (.int ((p1 &&& (2147483647 : Int32)) % (3 : Int32))), .val (.ref (ad 2)), .val (.ref (ad 2)), .val (.int (1 : Int32))] [(.ref (ad 3)), (.ref b1)])) rfl (by rw [hml]; rfl) (Steps.refl _) (argsL := [(.ref (ad 3))]) (rest := []) (lenOf pd__Lcom_example_brazier_brazier_keyspace_ChangeOrder_Link__V rfl) rfl (by show 2 * 0 + _ ≤ _; exact Nat.le_of_eq rfl) (hb hby at_330) (fun _ _ => ⟨rfl, rfl, (by decide : 6 + 0 ≤ _), (by decide : 18 + 0 ≤ _)⟩)
          dsimp only [Pt.U, Pt.locs, Pt.cells, Pt.slots] at X53 l53 y53 z53 st53 hQ53
          subst l53 y53 z53
          obtain ⟨rfl, N53q, S53q⟩ := hQ53
          have N53 := Fr.app N52 N53q
          refine own_by (fun _ k => st53.trans k) ?_
          have S53 : own_S Z T53.heap n0 5 ad own_K b1 own_b77 own_a78 own_n79 own_w80 own_p76 := S53q
          show own_Fin p.tables e below _ (T53.setTop (mkF m 333 #[.val (.int p0), .val (.int p1), .val (.ref b1), .val (.ref (ad 1)), .val (.ref (ad 2)), .val (.ref (ad 3)), .val (.ref (ad 4)), .val (.ref (ad 0)), .val (.int ((p0 &&& (2147483647 : Int32)) % (3 : Int32))), .val (.int ((p1 &&& (2147483647 : Int32)) % (3 : Int32))), .val (.ref (ad 2)), .val (.ref (ad 2)), .val (.int (1 : Int32))] []))
          refine own_by (fun _ k => XS.aloadN X53.here hx rfl (hb hby at_333) rfl rfl k) ?_
          show own_Fin p.tables e below _ (T53.setTop (mkF m 334 #[.val (.int p0), .val (.int p1), .val (.ref b1), .val (.ref (ad 1)), .val (.ref (ad 2)), .val (.ref (ad 3)), .val (.ref (ad 4)), .val (.ref (ad 0)), .val (.int ((p0 &&& (2147483647 : Int32)) % (3 : Int32))), .val (.int ((p1 &&& (2147483647 : Int32)) % (3 : Int32))), .val (.ref (ad 2)), .val (.ref (ad 2)), .val (.int (1 : Int32))] [(.ref b1)]))
          refine own_by (fun _ k => XS.aload X53.here hx rfl (hb hby at_334) rfl rfl k) ?_
          show own_Fin p.tables e below _ (T53.setTop (mkF m 336 #[.val (.int p0), .val (.int p1), .val (.ref b1), .val (.ref (ad 1)), .val (.ref (ad 2)), .val (.ref (ad 3)), .val (.ref (ad 4)), .val (.ref (ad 0)), .val (.int ((p0 &&& (2147483647 : Int32)) % (3 : Int32))), .val (.int ((p1 &&& (2147483647 : Int32)) % (3 : Int32))), .val (.ref (ad 2)), .val (.ref (ad 2)), .val (.int (1 : Int32))] [(.ref (ad 4)), (.ref b1)]))
          obtain ⟨cq54, kq54, q54a, q54b, q54c⟩ := isOf hZ rfl S53.2.2.1
          obtain ⟨_, _, ⟨T54, L54, k54, n54⟩, -, X54, ⟨Lc54, hQ54, l54, y54, z54⟩, st54⟩ := X53.virtualBack hx (y := (⟨"com/example/brazier/brazier/keyspace/ChangeOrder", "after", "(Lcom/example/brazier/brazier/keyspace/ChangeOrder$Link;)Lcom/example/brazier/brazier/keyspace/ChangeOrder$Link;"⟩ : MethodName)) (z := (⟨"com/example/brazier/brazier/keyspace/ChangeOrder", "after", "(Lcom/example/brazier/brazier/keyspace/ChangeOrder$Link;)Lcom/example/brazier/brazier/keyspace/ChangeOrder$Link;"⟩ : MethodName)) hown (mvT hZ (hw _ (List.mem_of_getElem? (i := 44) rfl))) (mvT hZ (hw _ (List.mem_of_getElem? (i := 45) rfl))) (notFace_of_selects (args := #[]) (mvT hZ (hw _ (List.mem_of_getElem? (i := 47) rfl)))) (mvT hZ (hw _ (List.mem_of_getElem? (i := 47) rfl))) (mvT hZ (hw _ (List.mem_of_getElem? (i := 46) rfl))) (by decide) (backOf (W := 0) (rm7 l Z a0 hw [] 5 ad own_K b1 own_b77 own_a78 own_n79 own_w80 own_p76 4 T53.heap n0 S53.1 S53 sl wk (by decide)) hZ (hw _ (List.mem_of_getElem? (i := 48) rfl)) (hw _ (List.mem_of_getElem? (i := 2) rfl)) (by decide) (by decide)) q54a q54c (g := (mkF m 336 #[.val (.int p0), .val (.int p1), .val (.ref b1), .val (.ref (ad 1)), .val (.ref (ad 2)), .val (.ref (ad 3)), .val (.ref (ad 4)), .val (.ref (ad 0)), .val (.int ((p0 &&& (2147483647 : Int32)) % (3 : Int32))), .val (.int ((p1 &&& (2147483647 : Int32)) % (3 : Int32))), .val (.ref (ad 2)), .val (.ref (ad 2)), .val (.int (1 : Int32))] [(.ref (ad 4)), (.ref b1)])) rfl (by rw [hml]; rfl) (Steps.refl _) (argsL := [(.ref (ad 4))]) (rest := []) (lenOf pd__Lcom_example_brazier_brazier_keyspace_ChangeOrder_Link__Lcom_example_brazier_brazier_keyspace_ChangeOrder_Link_ rfl) rfl (by show 2 * 0 + _ ≤ _; exact Nat.le_of_eq rfl) (hb hby at_336) (fun _ _ => ⟨rfl, rfl, (by decide : 6 + 0 ≤ _), (by decide : 18 + 0 ≤ _)⟩)
          dsimp only [Pt.U, Pt.locs, Pt.cells, Pt.slots] at X54 l54 y54 z54 st54 hQ54
          subst l54 y54 z54
          obtain ⟨hv54, N54q, e54⟩ := hQ54
          obtain rfl := hv54.trans (congrArg some (show own_nx ad (own_a78 4) = (.ref (ad 3)) from (by rw [show own_a78 4 = some 3 from by decide]; rfl)))
          have N54 := Fr.app N53 N54q
          refine own_by (fun _ k => st54.trans k) ?_
          show own_Fin p.tables e below _ (T54.setTop (mkF m 339 #[.val (.int p0), .val (.int p1), .val (.ref b1), .val (.ref (ad 1)), .val (.ref (ad 2)), .val (.ref (ad 3)), .val (.ref (ad 4)), .val (.ref (ad 0)), .val (.int ((p0 &&& (2147483647 : Int32)) % (3 : Int32))), .val (.int ((p1 &&& (2147483647 : Int32)) % (3 : Int32))), .val (.ref (ad 2)), .val (.ref (ad 2)), .val (.int (1 : Int32))] [(.ref (ad 3))]))
          refine own_by (fun _ k => XS.aload X54.here hx rfl (hb hby at_339) rfl rfl k) ?_
          show own_Fin p.tables e below _ (T54.setTop (mkF m 341 #[.val (.int p0), .val (.int p1), .val (.ref b1), .val (.ref (ad 1)), .val (.ref (ad 2)), .val (.ref (ad 3)), .val (.ref (ad 4)), .val (.ref (ad 0)), .val (.int ((p0 &&& (2147483647 : Int32)) % (3 : Int32))), .val (.int ((p1 &&& (2147483647 : Int32)) % (3 : Int32))), .val (.ref (ad 2)), .val (.ref (ad 2)), .val (.int (1 : Int32))] [(.ref (ad 3)), (.ref (ad 3))]))
          refine own_by (fun _ k => Jvm.RoadKit.acmp (g := (mkF m 341 #[.val (.int p0), .val (.int p1), .val (.ref b1), .val (.ref (ad 1)), .val (.ref (ad 2)), .val (.ref (ad 3)), .val (.ref (ad 4)), .val (.ref (ad 0)), .val (.int ((p0 &&& (2147483647 : Int32)) % (3 : Int32))), .val (.int ((p1 &&& (2147483647 : Int32)) % (3 : Int32))), .val (.ref (ad 2)), .val (.ref (ad 2)), .val (.int (1 : Int32))] [(.ref (ad 3)), (.ref (ad 3))])) X54 hx rfl rfl rfl (pc0 := 341) (pc' := 344) (same := true) rfl (hb hby at_341) rfl (decide_eq_true rfl) (by decide) (by decide) k) ?_
          show own_Fin p.tables e below _ (T54.setTop (mkF m 344 #[.val (.int p0), .val (.int p1), .val (.ref b1), .val (.ref (ad 1)), .val (.ref (ad 2)), .val (.ref (ad 3)), .val (.ref (ad 4)), .val (.ref (ad 0)), .val (.int ((p0 &&& (2147483647 : Int32)) % (3 : Int32))), .val (.int ((p1 &&& (2147483647 : Int32)) % (3 : Int32))), .val (.ref (ad 2)), .val (.ref (ad 2)), .val (.int (1 : Int32))] []))
          refine own_by (fun _ k => XS.aloadN X54.here hx rfl (hb hby at_344) rfl rfl k) ?_
          show own_Fin p.tables e below _ (T54.setTop (mkF m 345 #[.val (.int p0), .val (.int p1), .val (.ref b1), .val (.ref (ad 1)), .val (.ref (ad 2)), .val (.ref (ad 3)), .val (.ref (ad 4)), .val (.ref (ad 0)), .val (.int ((p0 &&& (2147483647 : Int32)) % (3 : Int32))), .val (.int ((p1 &&& (2147483647 : Int32)) % (3 : Int32))), .val (.ref (ad 2)), .val (.ref (ad 2)), .val (.int (1 : Int32))] [(.ref b1)]))
          refine own_by (fun _ k => XS.aload X54.here hx rfl (hb hby at_345) rfl rfl k) ?_
          show own_Fin p.tables e below _ (T54.setTop (mkF m 347 #[.val (.int p0), .val (.int p1), .val (.ref b1), .val (.ref (ad 1)), .val (.ref (ad 2)), .val (.ref (ad 3)), .val (.ref (ad 4)), .val (.ref (ad 0)), .val (.int ((p0 &&& (2147483647 : Int32)) % (3 : Int32))), .val (.int ((p1 &&& (2147483647 : Int32)) % (3 : Int32))), .val (.ref (ad 2)), .val (.ref (ad 2)), .val (.int (1 : Int32))] [(.ref (ad 3)), (.ref b1)]))
          obtain ⟨cq55, kq55, q55a, q55b, q55c⟩ := isOf hZ e54 S53.2.2.1
          obtain ⟨_, _, ⟨T55, L55, k55, n55⟩, -, X55, ⟨Lc55, hQ55, l55, y55, z55⟩, st55⟩ := X54.virtualBack hx (y := (⟨"com/example/brazier/brazier/keyspace/ChangeOrder", "after", "(Lcom/example/brazier/brazier/keyspace/ChangeOrder$Link;)Lcom/example/brazier/brazier/keyspace/ChangeOrder$Link;"⟩ : MethodName)) (z := (⟨"com/example/brazier/brazier/keyspace/ChangeOrder", "after", "(Lcom/example/brazier/brazier/keyspace/ChangeOrder$Link;)Lcom/example/brazier/brazier/keyspace/ChangeOrder$Link;"⟩ : MethodName)) hown (mvT hZ (hw _ (List.mem_of_getElem? (i := 44) rfl))) (mvT hZ (hw _ (List.mem_of_getElem? (i := 45) rfl))) (notFace_of_selects (args := #[]) (mvT hZ (hw _ (List.mem_of_getElem? (i := 47) rfl)))) (mvT hZ (hw _ (List.mem_of_getElem? (i := 47) rfl))) (mvT hZ (hw _ (List.mem_of_getElem? (i := 46) rfl))) (by decide) (backOf (W := 0) (rm7 l Z a0 hw [] 5 ad own_K b1 own_b77 own_a78 own_n79 own_w80 own_p76 3 T53.heap n0 S53.1 S53 sl wk (by decide)) hZ (hw _ (List.mem_of_getElem? (i := 48) rfl)) (hw _ (List.mem_of_getElem? (i := 2) rfl)) (by decide) (by decide)) q55a q55c (g := (mkF m 347 #[.val (.int p0), .val (.int p1), .val (.ref b1), .val (.ref (ad 1)), .val (.ref (ad 2)), .val (.ref (ad 3)), .val (.ref (ad 4)), .val (.ref (ad 0)), .val (.int ((p0 &&& (2147483647 : Int32)) % (3 : Int32))), .val (.int ((p1 &&& (2147483647 : Int32)) % (3 : Int32))), .val (.ref (ad 2)), .val (.ref (ad 2)), .val (.int (1 : Int32))] [(.ref (ad 3)), (.ref b1)])) rfl (by rw [hml]; rfl) (Steps.refl _) (argsL := [(.ref (ad 3))]) (rest := []) (lenOf pd__Lcom_example_brazier_brazier_keyspace_ChangeOrder_Link__Lcom_example_brazier_brazier_keyspace_ChangeOrder_Link_ rfl) rfl (by show 2 * 0 + _ ≤ _; exact Nat.le_of_eq rfl) (hb hby at_347) (fun _ _ => ⟨rfl, e54, (by decide : 6 + 0 ≤ _), (by decide : 18 + 0 ≤ _)⟩)
          dsimp only [Pt.U, Pt.locs, Pt.cells, Pt.slots] at X55 l55 y55 z55 st55 hQ55
          subst l55 y55 z55
          obtain ⟨hv55, N55q, e55⟩ := hQ55
          obtain rfl := hv55.trans (congrArg some (show own_nx ad (own_a78 3) = (.ref (ad 0)) from (by rw [show own_a78 3 = some 0 from by decide]; rfl)))
          have N55 := Fr.app N54 N55q
          refine own_by (fun _ k => st55.trans k) ?_
          show own_Fin p.tables e below _ (T55.setTop (mkF m 350 #[.val (.int p0), .val (.int p1), .val (.ref b1), .val (.ref (ad 1)), .val (.ref (ad 2)), .val (.ref (ad 3)), .val (.ref (ad 4)), .val (.ref (ad 0)), .val (.int ((p0 &&& (2147483647 : Int32)) % (3 : Int32))), .val (.int ((p1 &&& (2147483647 : Int32)) % (3 : Int32))), .val (.ref (ad 2)), .val (.ref (ad 2)), .val (.int (1 : Int32))] [(.ref (ad 0))]))
          refine own_by (fun _ k => XS.aload X55.here hx rfl (hb hby at_350) rfl rfl k) ?_
          show own_Fin p.tables e below _ (T55.setTop (mkF m 352 #[.val (.int p0), .val (.int p1), .val (.ref b1), .val (.ref (ad 1)), .val (.ref (ad 2)), .val (.ref (ad 3)), .val (.ref (ad 4)), .val (.ref (ad 0)), .val (.int ((p0 &&& (2147483647 : Int32)) % (3 : Int32))), .val (.int ((p1 &&& (2147483647 : Int32)) % (3 : Int32))), .val (.ref (ad 2)), .val (.ref (ad 2)), .val (.int (1 : Int32))] [(.ref (ad 0)), (.ref (ad 0))]))
          refine own_by (fun _ k => Jvm.RoadKit.acmp (g := (mkF m 352 #[.val (.int p0), .val (.int p1), .val (.ref b1), .val (.ref (ad 1)), .val (.ref (ad 2)), .val (.ref (ad 3)), .val (.ref (ad 4)), .val (.ref (ad 0)), .val (.int ((p0 &&& (2147483647 : Int32)) % (3 : Int32))), .val (.int ((p1 &&& (2147483647 : Int32)) % (3 : Int32))), .val (.ref (ad 2)), .val (.ref (ad 2)), .val (.int (1 : Int32))] [(.ref (ad 0)), (.ref (ad 0))])) X55 hx rfl rfl rfl (pc0 := 352) (pc' := 355) (same := true) rfl (hb hby at_352) rfl (decide_eq_true rfl) (by decide) (by decide) k) ?_
          show own_Fin p.tables e below _ (T55.setTop (mkF m 355 #[.val (.int p0), .val (.int p1), .val (.ref b1), .val (.ref (ad 1)), .val (.ref (ad 2)), .val (.ref (ad 3)), .val (.ref (ad 4)), .val (.ref (ad 0)), .val (.int ((p0 &&& (2147483647 : Int32)) % (3 : Int32))), .val (.int ((p1 &&& (2147483647 : Int32)) % (3 : Int32))), .val (.ref (ad 2)), .val (.ref (ad 2)), .val (.int (1 : Int32))] []))
          refine own_by (fun _ k => XS.iconst X55.here hx rfl (hb hby at_355) k) ?_
          show own_Fin p.tables e below _ (T55.setTop (mkF m 356 #[.val (.int p0), .val (.int p1), .val (.ref b1), .val (.ref (ad 1)), .val (.ref (ad 2)), .val (.ref (ad 3)), .val (.ref (ad 4)), .val (.ref (ad 0)), .val (.int ((p0 &&& (2147483647 : Int32)) % (3 : Int32))), .val (.int ((p1 &&& (2147483647 : Int32)) % (3 : Int32))), .val (.ref (ad 2)), .val (.ref (ad 2)), .val (.int (1 : Int32))] [(.int (1 : Int32))]))
          refine own_by (fun _ k => XS.goto X55.here hx rfl (pc0 := 356) (pc' := 360) rfl (hb hby at_356) (by decide) (by decide) k) ?_
          show own_Fin p.tables e below _ (T55.setTop (mkF m 360 #[.val (.int p0), .val (.int p1), .val (.ref b1), .val (.ref (ad 1)), .val (.ref (ad 2)), .val (.ref (ad 3)), .val (.ref (ad 4)), .val (.ref (ad 0)), .val (.int ((p0 &&& (2147483647 : Int32)) % (3 : Int32))), .val (.int ((p1 &&& (2147483647 : Int32)) % (3 : Int32))), .val (.ref (ad 2)), .val (.ref (ad 2)), .val (.int (1 : Int32))] [(.int (1 : Int32))]))
          have ef : f0 p0 p1 = (1 : Int32) := by unfold f0; rw [if_neg hc15, if_pos hc39, if_neg hc40, if_pos hc48]
          exact own_retN X55 hx (t := .boolean) Bd.returns hlk (by simp) (hb hby at_360) (by decide) (by decide) ⟨by rw [ef]; rfl, N55⟩
        · refine own_by (fun _ k => XS.icmpYes X14.here hx rfl (pc0 := 154) (pc' := 162) rfl (hb hby at_154) rfl (feq hc48).2 (by decide) (by decide) k) ?_
          show own_Fin p.tables e below _ (T14.setTop (mkF m 162 #[.val (.int p0), .val (.int p1), .val (.ref b1), .val (.ref (ad 1)), .val (.ref (ad 2)), .val (.ref (ad 3)), .val (.ref (ad 4)), .val (.ref (ad 0)), .val (.int ((p0 &&& (2147483647 : Int32)) % (3 : Int32))), .val (.int ((p1 &&& (2147483647 : Int32)) % (3 : Int32))), .val (.ref (ad 2)), .unset, .unset] []))
          refine own_by (fun _ k => XS.aload X14.here hx rfl (hb hby at_162) rfl rfl k) ?_
          show own_Fin p.tables e below _ (T14.setTop (mkF m 164 #[.val (.int p0), .val (.int p1), .val (.ref b1), .val (.ref (ad 1)), .val (.ref (ad 2)), .val (.ref (ad 3)), .val (.ref (ad 4)), .val (.ref (ad 0)), .val (.int ((p0 &&& (2147483647 : Int32)) % (3 : Int32))), .val (.int ((p1 &&& (2147483647 : Int32)) % (3 : Int32))), .val (.ref (ad 2)), .unset, .unset] [(.ref (ad 3))]))
          refine own_by (fun _ k => XS.astore X14.here hx rfl (hb hby at_164) rfl rfl (l' := #[.val (.int p0), .val (.int p1), .val (.ref b1), .val (.ref (ad 1)), .val (.ref (ad 2)), .val (.ref (ad 3)), .val (.ref (ad 4)), .val (.ref (ad 0)), .val (.int ((p0 &&& (2147483647 : Int32)) % (3 : Int32))), .val (.int ((p1 &&& (2147483647 : Int32)) % (3 : Int32))), .val (.ref (ad 2)), .val (.ref (ad 3)), .unset]) rfl k) ?_
          show own_Fin p.tables e below _ (T14.setTop (mkF m 166 #[.val (.int p0), .val (.int p1), .val (.ref b1), .val (.ref (ad 1)), .val (.ref (ad 2)), .val (.ref (ad 3)), .val (.ref (ad 4)), .val (.ref (ad 0)), .val (.int ((p0 &&& (2147483647 : Int32)) % (3 : Int32))), .val (.int ((p1 &&& (2147483647 : Int32)) % (3 : Int32))), .val (.ref (ad 2)), .val (.ref (ad 3)), .unset] []))
          refine own_by (fun _ k => XS.aloadN X14.here hx rfl (hb hby at_166) rfl rfl k) ?_
          show own_Fin p.tables e below _ (T14.setTop (mkF m 167 #[.val (.int p0), .val (.int p1), .val (.ref b1), .val (.ref (ad 1)), .val (.ref (ad 2)), .val (.ref (ad 3)), .val (.ref (ad 4)), .val (.ref (ad 0)), .val (.int ((p0 &&& (2147483647 : Int32)) % (3 : Int32))), .val (.int ((p1 &&& (2147483647 : Int32)) % (3 : Int32))), .val (.ref (ad 2)), .val (.ref (ad 3)), .unset] [(.ref b1)]))
          refine own_by (fun _ k => XS.aload X14.here hx rfl (hb hby at_167) rfl rfl k) ?_
          show own_Fin p.tables e below _ (T14.setTop (mkF m 169 #[.val (.int p0), .val (.int p1), .val (.ref b1), .val (.ref (ad 1)), .val (.ref (ad 2)), .val (.ref (ad 3)), .val (.ref (ad 4)), .val (.ref (ad 0)), .val (.int ((p0 &&& (2147483647 : Int32)) % (3 : Int32))), .val (.int ((p1 &&& (2147483647 : Int32)) % (3 : Int32))), .val (.ref (ad 2)), .val (.ref (ad 3)), .unset] [(.ref (ad 4)), (.ref b1)]))
          refine own_by (fun _ k => XS.aload X14.here hx rfl (hb hby at_169) rfl rfl k) ?_
          show own_Fin p.tables e below _ (T14.setTop (mkF m 171 #[.val (.int p0), .val (.int p1), .val (.ref b1), .val (.ref (ad 1)), .val (.ref (ad 2)), .val (.ref (ad 3)), .val (.ref (ad 4)), .val (.ref (ad 0)), .val (.int ((p0 &&& (2147483647 : Int32)) % (3 : Int32))), .val (.int ((p1 &&& (2147483647 : Int32)) % (3 : Int32))), .val (.ref (ad 2)), .val (.ref (ad 3)), .unset] [(.ref (ad 2)), (.ref (ad 4)), (.ref b1)]))
          obtain ⟨cq56, kq56, q56a, q56b, q56c⟩ := isOf hZ e14 S13.2.2.1
          obtain ⟨_, _, ⟨T56, L56, k56, n56⟩, -, X56, ⟨Lc56, hQ56, l56, y56, z56⟩, st56⟩ := X14.virtualBack hx (y := (⟨"com/example/brazier/brazier/keyspace/ChangeOrder", "passTo", "(Lcom/example/brazier/brazier/keyspace/ChangeOrder$Place;Lcom/example/brazier/brazier/keyspace/ChangeOrder$Link;)V"⟩ : MethodName)) (z := (⟨"com/example/brazier/brazier/keyspace/ChangeOrder", "passTo", "(Lcom/example/brazier/brazier/keyspace/ChangeOrder$Place;Lcom/example/brazier/brazier/keyspace/ChangeOrder$Link;)V"⟩ : MethodName)) hown (mvT hZ (hw _ (List.mem_of_getElem? (i := 50) rfl))) (mvT hZ (hw _ (List.mem_of_getElem? (i := 51) rfl))) (notFace_of_selects (args := #[]) (mvT hZ (hw _ (List.mem_of_getElem? (i := 53) rfl)))) (mvT hZ (hw _ (List.mem_of_getElem? (i := 53) rfl))) (mvT hZ (hw _ (List.mem_of_getElem? (i := 52) rfl))) (by decide) (backOf (W := 0) (rm8 l Z a0 hw [] 5 ad own_K b1 own_b9 own_a10 own_n11 own_w12 own_w0 4 2 1 T13.heap n0 S13.1 S13 sl wk (by decide) (by decide) (by decide) (own_wf0 (by decide)) (by decide)) hZ (hw _ (List.mem_of_getElem? (i := 54) rfl)) (hw _ (List.mem_of_getElem? (i := 2) rfl)) (by decide) (by decide)) q56a q56c (g := (mkF m 171 #[.val (.int p0), .val (.int p1), .val (.ref b1), .val (.ref (ad 1)), .val (.ref (ad 2)), .val (.ref (ad 3)), .val (.ref (ad 4)), .val (.ref (ad 0)), .val (.int ((p0 &&& (2147483647 : Int32)) % (3 : Int32))), .val (.int ((p1 &&& (2147483647 : Int32)) % (3 : Int32))), .val (.ref (ad 2)), .val (.ref (ad 3)), .unset] [(.ref (ad 2)), (.ref (ad 4)), (.ref b1)])) rfl (by rw [hml]; rfl) (Steps.refl _) (argsL := [(.ref (ad 4)), (.ref (ad 2))]) (rest := []) (lenOf pd__Lcom_example_brazier_brazier_keyspace_ChangeOrder_Place_Lcom_example_brazier_brazier_keyspace_ChangeOrder_Link__V rfl) rfl (by show 2 * 0 + _ ≤ _; exact Nat.le_of_eq rfl) (hb hby at_171) (fun _ _ => ⟨rfl, e14, (by decide : 6 + 0 ≤ _), (by decide : 18 + 0 ≤ _)⟩)
          dsimp only [Pt.U, Pt.locs, Pt.cells, Pt.slots] at X56 l56 y56 z56 st56 hQ56
          subst l56 y56 z56
          obtain ⟨rfl, N56q, S56q⟩ := hQ56
          have N56 := Fr.app N14 N56q
          refine own_by (fun _ k => st56.trans k) ?_
          have S56 : own_S Z T56.heap n0 5 ad own_K b1 own_b53 own_a54 own_n55 own_w12 own_p56 := S56q
          show own_Fin p.tables e below _ (T56.setTop (mkF m 174 #[.val (.int p0), .val (.int p1), .val (.ref b1), .val (.ref (ad 1)), .val (.ref (ad 2)), .val (.ref (ad 3)), .val (.ref (ad 4)), .val (.ref (ad 0)), .val (.int ((p0 &&& (2147483647 : Int32)) % (3 : Int32))), .val (.int ((p1 &&& (2147483647 : Int32)) % (3 : Int32))), .val (.ref (ad 2)), .val (.ref (ad 3)), .unset] []))
          refine own_by (fun _ k => XS.aloadN X56.here hx rfl (hb hby at_174) rfl rfl k) ?_
          show own_Fin p.tables e below _ (T56.setTop (mkF m 175 #[.val (.int p0), .val (.int p1), .val (.ref b1), .val (.ref (ad 1)), .val (.ref (ad 2)), .val (.ref (ad 3)), .val (.ref (ad 4)), .val (.ref (ad 0)), .val (.int ((p0 &&& (2147483647 : Int32)) % (3 : Int32))), .val (.int ((p1 &&& (2147483647 : Int32)) % (3 : Int32))), .val (.ref (ad 2)), .val (.ref (ad 3)), .unset] [(.ref b1)]))
          refine own_by (fun _ k => XS.aload X56.here hx rfl (hb hby at_175) rfl rfl k) ?_
          show own_Fin p.tables e below _ (T56.setTop (mkF m 177 #[.val (.int p0), .val (.int p1), .val (.ref b1), .val (.ref (ad 1)), .val (.ref (ad 2)), .val (.ref (ad 3)), .val (.ref (ad 4)), .val (.ref (ad 0)), .val (.int ((p0 &&& (2147483647 : Int32)) % (3 : Int32))), .val (.int ((p1 &&& (2147483647 : Int32)) % (3 : Int32))), .val (.ref (ad 2)), .val (.ref (ad 3)), .unset] [(.ref (ad 3)), (.ref b1)]))
          obtain ⟨cq57, kq57, q57a, q57b, q57c⟩ := isOf hZ rfl S56.2.2.1
          obtain ⟨_, _, ⟨T57, L57, k57, n57⟩, -, X57, ⟨Lc57, hQ57, l57, y57, z57⟩, st57⟩ := X56.virtualBack hx (y := (⟨"com/example/brazier/brazier/keyspace/ChangeOrder", "changed", "(Lcom/example/brazier/brazier/keyspace/ChangeOrder$Link;)V"⟩ : MethodName)) (z := (⟨"com/example/brazier/brazier/keyspace/ChangeOrder", "changed", "(Lcom/example/brazier/brazier/keyspace/ChangeOrder$Link;)V"⟩ : MethodName)) hown (mvT hZ (hw _ (List.mem_of_getElem? (i := 75) rfl))) (mvT hZ (hw _ (List.mem_of_getElem? (i := 76) rfl))) (notFace_of_selects (args := #[]) (mvT hZ (hw _ (List.mem_of_getElem? (i := 78) rfl)))) (mvT hZ (hw _ (List.mem_of_getElem? (i := 78) rfl))) (mvT hZ (hw _ (List.mem_of_getElem? (i := 77) rfl))) (by decide) (backOf (W := 0) (rm13 l Z a0 hw [] 5 ad own_K b1 own_b53 own_a54 own_n55 own_w12 own_p56 3 2 T56.heap n0 S56.1 S56 sl wk (by decide) (by decide) (by decide) (fun q => absurd (by decide) q)) hZ (hw _ (List.mem_of_getElem? (i := 79) rfl)) (hw _ (List.mem_of_getElem? (i := 2) rfl)) (by decide) (by decide)) q57a q57c (g := (mkF m 177 #[.val (.int p0), .val (.int p1), .val (.ref b1), .val (.ref (ad 1)), .val (.ref (ad 2)), .val (.ref (ad 3)), .val (.ref (ad 4)), .val (.ref (ad 0)), .val (.int ((p0 &&& (2147483647 : Int32)) % (3 : Int32))), .val (.int ((p1 &&& (2147483647 : Int32)) % (3 : Int32))), .val (.ref (ad 2)), .val (.ref (ad 3)), .unset] [(.ref (ad 3)), (.ref b1)])) rfl (by rw [hml]; rfl) (Steps.refl _) (argsL := [(.ref (ad 3))]) (rest := []) (lenOf pd__Lcom_example_brazier_brazier_keyspace_ChangeOrder_Link__V rfl) rfl (by show 2 * 0 + _ ≤ _; exact Nat.le_of_eq rfl) (hb hby at_177) (fun _ _ => ⟨rfl, rfl, (by decide : 6 + 0 ≤ _), (by decide : 18 + 0 ≤ _)⟩)
          dsimp only [Pt.U, Pt.locs, Pt.cells, Pt.slots] at X57 l57 y57 z57 st57 hQ57
          subst l57 y57 z57
          obtain ⟨rfl, N57q, S57q⟩ := hQ57
          have N57 := Fr.app N56 N57q
          refine own_by (fun _ k => st57.trans k) ?_
          have S57 : own_S Z T57.heap n0 5 ad own_K b1 own_b81 own_a82 own_n83 own_w84 own_p56 := S57q
          show own_Fin p.tables e below _ (T57.setTop (mkF m 180 #[.val (.int p0), .val (.int p1), .val (.ref b1), .val (.ref (ad 1)), .val (.ref (ad 2)), .val (.ref (ad 3)), .val (.ref (ad 4)), .val (.ref (ad 0)), .val (.int ((p0 &&& (2147483647 : Int32)) % (3 : Int32))), .val (.int ((p1 &&& (2147483647 : Int32)) % (3 : Int32))), .val (.ref (ad 2)), .val (.ref (ad 3)), .unset] []))
          refine own_by (fun _ k => XS.iload X57.here hx rfl (hb hby at_180) rfl k) ?_
          show own_Fin p.tables e below _ (T57.setTop (mkF m 182 #[.val (.int p0), .val (.int p1), .val (.ref b1), .val (.ref (ad 1)), .val (.ref (ad 2)), .val (.ref (ad 3)), .val (.ref (ad 4)), .val (.ref (ad 0)), .val (.int ((p0 &&& (2147483647 : Int32)) % (3 : Int32))), .val (.int ((p1 &&& (2147483647 : Int32)) % (3 : Int32))), .val (.ref (ad 2)), .val (.ref (ad 3)), .unset] [(.int ((p0 &&& (2147483647 : Int32)) % (3 : Int32)))]))
          refine own_by (fun _ k => XS.ifYes X57.here hx rfl (pc0 := 182) (pc' := 203) rfl (hb hby at_182) rfl ((if0 _ _).trans (feq hc15).2) (by decide) (by decide) k) ?_
          show own_Fin p.tables e below _ (T57.setTop (mkF m 203 #[.val (.int p0), .val (.int p1), .val (.ref b1), .val (.ref (ad 1)), .val (.ref (ad 2)), .val (.ref (ad 3)), .val (.ref (ad 4)), .val (.ref (ad 0)), .val (.int ((p0 &&& (2147483647 : Int32)) % (3 : Int32))), .val (.int ((p1 &&& (2147483647 : Int32)) % (3 : Int32))), .val (.ref (ad 2)), .val (.ref (ad 3)), .unset] []))
          refine own_by (fun _ k => XS.iload X57.here hx rfl (hb hby at_203) rfl k) ?_
          show own_Fin p.tables e below _ (T57.setTop (mkF m 205 #[.val (.int p0), .val (.int p1), .val (.ref b1), .val (.ref (ad 1)), .val (.ref (ad 2)), .val (.ref (ad 3)), .val (.ref (ad 4)), .val (.ref (ad 0)), .val (.int ((p0 &&& (2147483647 : Int32)) % (3 : Int32))), .val (.int ((p1 &&& (2147483647 : Int32)) % (3 : Int32))), .val (.ref (ad 2)), .val (.ref (ad 3)), .unset] [(.int ((p0 &&& (2147483647 : Int32)) % (3 : Int32)))]))
          refine own_by (fun _ k => XS.iconst X57.here hx rfl (hb hby at_205) k) ?_
          show own_Fin p.tables e below _ (T57.setTop (mkF m 206 #[.val (.int p0), .val (.int p1), .val (.ref b1), .val (.ref (ad 1)), .val (.ref (ad 2)), .val (.ref (ad 3)), .val (.ref (ad 4)), .val (.ref (ad 0)), .val (.int ((p0 &&& (2147483647 : Int32)) % (3 : Int32))), .val (.int ((p1 &&& (2147483647 : Int32)) % (3 : Int32))), .val (.ref (ad 2)), .val (.ref (ad 3)), .unset] [(.int (1 : Int32)), (.int ((p0 &&& (2147483647 : Int32)) % (3 : Int32)))]))
          refine own_by (fun _ k => XS.icmpNo X57.here hx rfl (hb hby at_206) rfl (teq hc39).2 k) ?_
          show own_Fin p.tables e below _ (T57.setTop (mkF m 209 #[.val (.int p0), .val (.int p1), .val (.ref b1), .val (.ref (ad 1)), .val (.ref (ad 2)), .val (.ref (ad 3)), .val (.ref (ad 4)), .val (.ref (ad 0)), .val (.int ((p0 &&& (2147483647 : Int32)) % (3 : Int32))), .val (.int ((p1 &&& (2147483647 : Int32)) % (3 : Int32))), .val (.ref (ad 2)), .val (.ref (ad 3)), .unset] []))
          refine own_by (fun _ k => XS.iload X57.here hx rfl (hb hby at_209) rfl k) ?_
          show own_Fin p.tables e below _ (T57.setTop (mkF m 211 #[.val (.int p0), .val (.int p1), .val (.ref b1), .val (.ref (ad 1)), .val (.ref (ad 2)), .val (.ref (ad 3)), .val (.ref (ad 4)), .val (.ref (ad 0)), .val (.int ((p0 &&& (2147483647 : Int32)) % (3 : Int32))), .val (.int ((p1 &&& (2147483647 : Int32)) % (3 : Int32))), .val (.ref (ad 2)), .val (.ref (ad 3)), .unset] [(.int ((p1 &&& (2147483647 : Int32)) % (3 : Int32)))]))
          refine own_by (fun _ k => XS.ifYes X57.here hx rfl (pc0 := 211) (pc' := 232) rfl (hb hby at_211) rfl ((if0 _ _).trans (feq hc40).2) (by decide) (by decide) k) ?_
          show own_Fin p.tables e below _ (T57.setTop (mkF m 232 #[.val (.int p0), .val (.int p1), .val (.ref b1), .val (.ref (ad 1)), .val (.ref (ad 2)), .val (.ref (ad 3)), .val (.ref (ad 4)), .val (.ref (ad 0)), .val (.int ((p0 &&& (2147483647 : Int32)) % (3 : Int32))), .val (.int ((p1 &&& (2147483647 : Int32)) % (3 : Int32))), .val (.ref (ad 2)), .val (.ref (ad 3)), .unset] []))
          refine own_by (fun _ k => XS.aloadN X57.here hx rfl (hb hby at_232) rfl rfl k) ?_
          show own_Fin p.tables e below _ (T57.setTop (mkF m 233 #[.val (.int p0), .val (.int p1), .val (.ref b1), .val (.ref (ad 1)), .val (.ref (ad 2)), .val (.ref (ad 3)), .val (.ref (ad 4)), .val (.ref (ad 0)), .val (.int ((p0 &&& (2147483647 : Int32)) % (3 : Int32))), .val (.int ((p1 &&& (2147483647 : Int32)) % (3 : Int32))), .val (.ref (ad 2)), .val (.ref (ad 3)), .unset] [(.ref b1)]))
          refine own_by (fun _ k => XS.aload X57.here hx rfl (hb hby at_233) rfl rfl k) ?_
          show own_Fin p.tables e below _ (T57.setTop (mkF m 235 #[.val (.int p0), .val (.int p1), .val (.ref b1), .val (.ref (ad 1)), .val (.ref (ad 2)), .val (.ref (ad 3)), .val (.ref (ad 4)), .val (.ref (ad 0)), .val (.int ((p0 &&& (2147483647 : Int32)) % (3 : Int32))), .val (.int ((p1 &&& (2147483647 : Int32)) % (3 : Int32))), .val (.ref (ad 2)), .val (.ref (ad 3)), .unset] [(.ref (ad 0)), (.ref b1)]))
          refine own_by (fun _ k => XS.aloadN X57.here hx rfl (hb hby at_235) rfl rfl k) ?_
          show own_Fin p.tables e below _ (T57.setTop (mkF m 236 #[.val (.int p0), .val (.int p1), .val (.ref b1), .val (.ref (ad 1)), .val (.ref (ad 2)), .val (.ref (ad 3)), .val (.ref (ad 4)), .val (.ref (ad 0)), .val (.int ((p0 &&& (2147483647 : Int32)) % (3 : Int32))), .val (.int ((p1 &&& (2147483647 : Int32)) % (3 : Int32))), .val (.ref (ad 2)), .val (.ref (ad 3)), .unset] [(.ref (ad 1)), (.ref (ad 0)), (.ref b1)]))
          refine own_by (fun _ k => XS.aload X57.here hx rfl (hb hby at_236) rfl rfl k) ?_
          show own_Fin p.tables e below _ (T57.setTop (mkF m 238 #[.val (.int p0), .val (.int p1), .val (.ref b1), .val (.ref (ad 1)), .val (.ref (ad 2)), .val (.ref (ad 3)), .val (.ref (ad 4)), .val (.ref (ad 0)), .val (.int ((p0 &&& (2147483647 : Int32)) % (3 : Int32))), .val (.int ((p1 &&& (2147483647 : Int32)) % (3 : Int32))), .val (.ref (ad 2)), .val (.ref (ad 3)), .unset] [(.ref (ad 4)), (.ref (ad 1)), (.ref (ad 0)), (.ref b1)]))
          refine own_by (fun _ k => XS.aload X57.here hx rfl (hb hby at_238) rfl rfl k) ?_
          show own_Fin p.tables e below _ (T57.setTop (mkF m 240 #[.val (.int p0), .val (.int p1), .val (.ref b1), .val (.ref (ad 1)), .val (.ref (ad 2)), .val (.ref (ad 3)), .val (.ref (ad 4)), .val (.ref (ad 0)), .val (.int ((p0 &&& (2147483647 : Int32)) % (3 : Int32))), .val (.int ((p1 &&& (2147483647 : Int32)) % (3 : Int32))), .val (.ref (ad 2)), .val (.ref (ad 3)), .unset] [(.ref (ad 2)), (.ref (ad 4)), (.ref (ad 1)), (.ref (ad 0)), (.ref b1)]))
          refine own_by (fun _ k => XS.aload X57.here hx rfl (hb hby at_240) rfl rfl k) ?_
          show own_Fin p.tables e below _ (T57.setTop (mkF m 242 #[.val (.int p0), .val (.int p1), .val (.ref b1), .val (.ref (ad 1)), .val (.ref (ad 2)), .val (.ref (ad 3)), .val (.ref (ad 4)), .val (.ref (ad 0)), .val (.int ((p0 &&& (2147483647 : Int32)) % (3 : Int32))), .val (.int ((p1 &&& (2147483647 : Int32)) % (3 : Int32))), .val (.ref (ad 2)), .val (.ref (ad 3)), .unset] [(.ref (ad 3)), (.ref (ad 2)), (.ref (ad 4)), (.ref (ad 1)), (.ref (ad 0)), (.ref b1)]))
          obtain ⟨_, _, ⟨T58, L58, k58, n58⟩, -, X58, ⟨Lc58, hQ58, l58, y58, z58⟩, st58⟩ := Jvm.LawKit.callS X57 hx (y := (⟨"com/example/brazier/brazier/keyspace/ChangeOrderAddPinLaw", "ringIs", "(Lcom/example/brazier/brazier/keyspace/ChangeOrder;Lcom/example/brazier/brazier/keyspace/ChangeOrder$Link;Lcom/example/brazier/brazier/keyspace/ChangeOrder$Link;Lcom/example/brazier/brazier/keyspace/ChangeOrder$Link;Lcom/example/brazier/brazier/keyspace/ChangeOrder$Link;Lcom/example/brazier/brazier/keyspace/ChangeOrder$Link;)Z"⟩ : MethodName)) hown (mvT hZ (hw _ (List.mem_of_getElem? (i := 80) rfl))) (mvT hZ (hw _ (List.mem_of_getElem? (i := 81) rfl))) (mvT hZ (hw _ (List.mem_of_getElem? (i := 82) rfl))) (mvT hZ (hw _ (List.mem_of_getElem? (i := 83) rfl))) (by decide) (backOf (W := 0) (rm14 l Z a0 hw [] 5 ad own_K b1 own_b81 own_a82 own_n83 own_w84 own_p56 0 1 4 2 3 T57.heap n0 S57.1 S57 sl wk (by decide) (by decide) (by decide) (by decide) (by decide) (by decide) (by decide) (by decide) (by decide) (by decide)) hZ (hw _ (List.mem_of_getElem? (i := 83) rfl)) (hw _ (List.mem_of_getElem? (i := 82) rfl)) (by decide) (by decide)) (g := (mkF m 242 #[.val (.int p0), .val (.int p1), .val (.ref b1), .val (.ref (ad 1)), .val (.ref (ad 2)), .val (.ref (ad 3)), .val (.ref (ad 4)), .val (.ref (ad 0)), .val (.int ((p0 &&& (2147483647 : Int32)) % (3 : Int32))), .val (.int ((p1 &&& (2147483647 : Int32)) % (3 : Int32))), .val (.ref (ad 2)), .val (.ref (ad 3)), .unset] [(.ref (ad 3)), (.ref (ad 2)), (.ref (ad 4)), (.ref (ad 1)), (.ref (ad 0)), (.ref b1)])) rfl (by rw [hml]; rfl) (argsL := [(.ref b1), (.ref (ad 0)), (.ref (ad 1)), (.ref (ad 4)), (.ref (ad 2)), (.ref (ad 3))]) (rest := []) (lenOf pd__Lcom_example_brazier_brazier_keyspace_ChangeOrder_Lcom_example_brazier_brazier_keyspace_ChangeOrder_Link_Lcom_example_brazier_brazier_keyspace_ChangeOrder_Link_Lcom_example_brazier_brazier_keyspace_ChangeOrder_Link_Lcom_example_brazier_brazier_keyspace_ChangeOrder_Link_Lcom_example_brazier_brazier_keyspace_ChangeOrder_Link__Z rfl) rfl (by show 2 * 0 + _ ≤ _; exact Nat.le_of_eq rfl) (hb hby at_242) (fun _ _ => ⟨rfl, rfl, (by decide : 6 + 0 ≤ _), (by decide : 18 + 0 ≤ _)⟩)
          dsimp only [Pt.U, Pt.locs, Pt.cells, Pt.slots] at X58 l58 y58 z58 st58 hQ58
          subst l58 y58 z58
          obtain ⟨rfl, N58q, e58⟩ := hQ58
          have N58 := Fr.app N57 N58q
          refine own_by st58 ?_
          show own_Fin p.tables e below _ (T58.setTop (mkF m 245 #[.val (.int p0), .val (.int p1), .val (.ref b1), .val (.ref (ad 1)), .val (.ref (ad 2)), .val (.ref (ad 3)), .val (.ref (ad 4)), .val (.ref (ad 0)), .val (.int ((p0 &&& (2147483647 : Int32)) % (3 : Int32))), .val (.int ((p1 &&& (2147483647 : Int32)) % (3 : Int32))), .val (.ref (ad 2)), .val (.ref (ad 3)), .unset] [(.int (1 : Int32))]))
          refine own_by (fun _ k => XS.istore X58.here hx rfl (hb hby at_245) rfl (l' := #[.val (.int p0), .val (.int p1), .val (.ref b1), .val (.ref (ad 1)), .val (.ref (ad 2)), .val (.ref (ad 3)), .val (.ref (ad 4)), .val (.ref (ad 0)), .val (.int ((p0 &&& (2147483647 : Int32)) % (3 : Int32))), .val (.int ((p1 &&& (2147483647 : Int32)) % (3 : Int32))), .val (.ref (ad 2)), .val (.ref (ad 3)), .val (.int (1 : Int32))]) rfl k) ?_
          show own_Fin p.tables e below _ (T58.setTop (mkF m 247 #[.val (.int p0), .val (.int p1), .val (.ref b1), .val (.ref (ad 1)), .val (.ref (ad 2)), .val (.ref (ad 3)), .val (.ref (ad 4)), .val (.ref (ad 0)), .val (.int ((p0 &&& (2147483647 : Int32)) % (3 : Int32))), .val (.int ((p1 &&& (2147483647 : Int32)) % (3 : Int32))), .val (.ref (ad 2)), .val (.ref (ad 3)), .val (.int (1 : Int32))] []))
          refine own_by (fun _ k => XS.goto X58.here hx rfl (pc0 := 247) (pc' := 312) rfl (hb hby at_247) (by decide) (by decide) k) ?_
          show own_Fin p.tables e below _ (T58.setTop (mkF m 312 #[.val (.int p0), .val (.int p1), .val (.ref b1), .val (.ref (ad 1)), .val (.ref (ad 2)), .val (.ref (ad 3)), .val (.ref (ad 4)), .val (.ref (ad 0)), .val (.int ((p0 &&& (2147483647 : Int32)) % (3 : Int32))), .val (.int ((p1 &&& (2147483647 : Int32)) % (3 : Int32))), .val (.ref (ad 2)), .val (.ref (ad 3)), .val (.int (1 : Int32))] []))
          refine own_by (fun _ k => XS.iload X58.here hx rfl (hb hby at_312) rfl k) ?_
          show own_Fin p.tables e below _ (T58.setTop (mkF m 314 #[.val (.int p0), .val (.int p1), .val (.ref b1), .val (.ref (ad 1)), .val (.ref (ad 2)), .val (.ref (ad 3)), .val (.ref (ad 4)), .val (.ref (ad 0)), .val (.int ((p0 &&& (2147483647 : Int32)) % (3 : Int32))), .val (.int ((p1 &&& (2147483647 : Int32)) % (3 : Int32))), .val (.ref (ad 2)), .val (.ref (ad 3)), .val (.int (1 : Int32))] [(.int (1 : Int32))]))
          refine own_by (fun _ k => XS.ifYes X58.here hx rfl (pc0 := 314) (pc' := 319) rfl (hb hby at_314) rfl ((if0 _ _).trans (feq (by decide)).2) (by decide) (by decide) k) ?_
          show own_Fin p.tables e below _ (T58.setTop (mkF m 319 #[.val (.int p0), .val (.int p1), .val (.ref b1), .val (.ref (ad 1)), .val (.ref (ad 2)), .val (.ref (ad 3)), .val (.ref (ad 4)), .val (.ref (ad 0)), .val (.int ((p0 &&& (2147483647 : Int32)) % (3 : Int32))), .val (.int ((p1 &&& (2147483647 : Int32)) % (3 : Int32))), .val (.ref (ad 2)), .val (.ref (ad 3)), .val (.int (1 : Int32))] []))
          refine own_by (fun _ k => XS.aloadN X58.here hx rfl (hb hby at_319) rfl rfl k) ?_
          show own_Fin p.tables e below _ (T58.setTop (mkF m 320 #[.val (.int p0), .val (.int p1), .val (.ref b1), .val (.ref (ad 1)), .val (.ref (ad 2)), .val (.ref (ad 3)), .val (.ref (ad 4)), .val (.ref (ad 0)), .val (.int ((p0 &&& (2147483647 : Int32)) % (3 : Int32))), .val (.int ((p1 &&& (2147483647 : Int32)) % (3 : Int32))), .val (.ref (ad 2)), .val (.ref (ad 3)), .val (.int (1 : Int32))] [(.ref b1)]))
          refine own_by (fun _ k => XS.aload X58.here hx rfl (hb hby at_320) rfl rfl k) ?_
          show own_Fin p.tables e below _ (T58.setTop (mkF m 322 #[.val (.int p0), .val (.int p1), .val (.ref b1), .val (.ref (ad 1)), .val (.ref (ad 2)), .val (.ref (ad 3)), .val (.ref (ad 4)), .val (.ref (ad 0)), .val (.int ((p0 &&& (2147483647 : Int32)) % (3 : Int32))), .val (.int ((p1 &&& (2147483647 : Int32)) % (3 : Int32))), .val (.ref (ad 2)), .val (.ref (ad 3)), .val (.int (1 : Int32))] [(.ref (ad 4)), (.ref b1)]))
          refine own_by (fun _ k => XS.aload X58.here hx rfl (hb hby at_322) rfl rfl k) ?_
          show own_Fin p.tables e below _ (T58.setTop (mkF m 324 #[.val (.int p0), .val (.int p1), .val (.ref b1), .val (.ref (ad 1)), .val (.ref (ad 2)), .val (.ref (ad 3)), .val (.ref (ad 4)), .val (.ref (ad 0)), .val (.int ((p0 &&& (2147483647 : Int32)) % (3 : Int32))), .val (.int ((p1 &&& (2147483647 : Int32)) % (3 : Int32))), .val (.ref (ad 2)), .val (.ref (ad 3)), .val (.int (1 : Int32))] [(.ref (ad 0)), (.ref (ad 4)), (.ref b1)]))
          obtain ⟨cq59, kq59, q59a, q59b, q59c⟩ := isOf hZ e58 S57.2.2.1
          obtain ⟨_, _, ⟨T59, L59, k59, n59⟩, -, X59, ⟨Lc59, hQ59, l59, y59, z59⟩, st59⟩ := X58.virtualBack hx (y := (⟨"com/example/brazier/brazier/keyspace/ChangeOrder", "passTo", "(Lcom/example/brazier/brazier/keyspace/ChangeOrder$Place;Lcom/example/brazier/brazier/keyspace/ChangeOrder$Link;)V"⟩ : MethodName)) (z := (⟨"com/example/brazier/brazier/keyspace/ChangeOrder", "passTo", "(Lcom/example/brazier/brazier/keyspace/ChangeOrder$Place;Lcom/example/brazier/brazier/keyspace/ChangeOrder$Link;)V"⟩ : MethodName)) hown (mvT hZ (hw _ (List.mem_of_getElem? (i := 50) rfl))) (mvT hZ (hw _ (List.mem_of_getElem? (i := 51) rfl))) (notFace_of_selects (args := #[]) (mvT hZ (hw _ (List.mem_of_getElem? (i := 53) rfl)))) (mvT hZ (hw _ (List.mem_of_getElem? (i := 53) rfl))) (mvT hZ (hw _ (List.mem_of_getElem? (i := 52) rfl))) (by decide) (backOf (W := 0) (rm8 l Z a0 hw [] 5 ad own_K b1 own_b81 own_a82 own_n83 own_w84 own_p56 4 0 3 T57.heap n0 S57.1 S57 sl wk (by decide) (by decide) (by decide) (own_wf1 (q := 2) (p := 1) (by decide) (by decide) (by decide) (by decide)) (by decide)) hZ (hw _ (List.mem_of_getElem? (i := 54) rfl)) (hw _ (List.mem_of_getElem? (i := 2) rfl)) (by decide) (by decide)) q59a q59c (g := (mkF m 324 #[.val (.int p0), .val (.int p1), .val (.ref b1), .val (.ref (ad 1)), .val (.ref (ad 2)), .val (.ref (ad 3)), .val (.ref (ad 4)), .val (.ref (ad 0)), .val (.int ((p0 &&& (2147483647 : Int32)) % (3 : Int32))), .val (.int ((p1 &&& (2147483647 : Int32)) % (3 : Int32))), .val (.ref (ad 2)), .val (.ref (ad 3)), .val (.int (1 : Int32))] [(.ref (ad 0)), (.ref (ad 4)), (.ref b1)])) rfl (by rw [hml]; rfl) (Steps.refl _) (argsL := [(.ref (ad 4)), (.ref (ad 0))]) (rest := []) (lenOf pd__Lcom_example_brazier_brazier_keyspace_ChangeOrder_Place_Lcom_example_brazier_brazier_keyspace_ChangeOrder_Link__V rfl) rfl (by show 2 * 0 + _ ≤ _; exact Nat.le_of_eq rfl) (hb hby at_324) (fun _ _ => ⟨rfl, e58, (by decide : 6 + 0 ≤ _), (by decide : 18 + 0 ≤ _)⟩)
          dsimp only [Pt.U, Pt.locs, Pt.cells, Pt.slots] at X59 l59 y59 z59 st59 hQ59
          subst l59 y59 z59
          obtain ⟨rfl, N59q, S59q⟩ := hQ59
          have N59 := Fr.app N58 N59q
          refine own_by (fun _ k => st59.trans k) ?_
          have S59 : own_S Z T59.heap n0 5 ad own_K b1 own_b85 own_a86 own_n87 own_w84 own_p88 := S59q
          show own_Fin p.tables e below _ (T59.setTop (mkF m 327 #[.val (.int p0), .val (.int p1), .val (.ref b1), .val (.ref (ad 1)), .val (.ref (ad 2)), .val (.ref (ad 3)), .val (.ref (ad 4)), .val (.ref (ad 0)), .val (.int ((p0 &&& (2147483647 : Int32)) % (3 : Int32))), .val (.int ((p1 &&& (2147483647 : Int32)) % (3 : Int32))), .val (.ref (ad 2)), .val (.ref (ad 3)), .val (.int (1 : Int32))] []))
          refine own_by (fun _ k => XS.aloadN X59.here hx rfl (hb hby at_327) rfl rfl k) ?_
          show own_Fin p.tables e below _ (T59.setTop (mkF m 328 #[.val (.int p0), .val (.int p1), .val (.ref b1), .val (.ref (ad 1)), .val (.ref (ad 2)), .val (.ref (ad 3)), .val (.ref (ad 4)), .val (.ref (ad 0)), .val (.int ((p0 &&& (2147483647 : Int32)) % (3 : Int32))), .val (.int ((p1 &&& (2147483647 : Int32)) % (3 : Int32))), .val (.ref (ad 2)), .val (.ref (ad 3)), .val (.int (1 : Int32))] [(.ref b1)]))
          refine own_by (fun _ k => XS.aload X59.here hx rfl (hb hby at_328) rfl rfl k) ?_
          show own_Fin p.tables e below _ (T59.setTop (mkF m 330 #[.val (.int p0), .val (.int p1), .val (.ref b1), .val (.ref (ad 1)), .val (.ref (ad 2)), .val (.ref (ad 3)), .val (.ref (ad 4)), .val (.ref (ad 0)), .val (.int ((p0 &&& (2147483647 : Int32)) % (3 : Int32))), .val (.int ((p1 &&& (2147483647 : Int32)) % (3 : Int32))), .val (.ref (ad 2)), .val (.ref (ad 3)), .val (.int (1 : Int32))] [(.ref (ad 3)), (.ref b1)]))
          obtain ⟨cq60, kq60, q60a, q60b, q60c⟩ := isOf hZ rfl S59.2.2.1
          obtain ⟨_, _, ⟨T60, L60, k60, n60⟩, -, X60, ⟨Lc60, hQ60, l60, y60, z60⟩, st60⟩ := X59.virtualBack hx (y := (⟨"com/example/brazier/brazier/keyspace/ChangeOrder", "changed", "(Lcom/example/brazier/brazier/keyspace/ChangeOrder$Link;)V"⟩ : MethodName)) (z := (⟨"com/example/brazier/brazier/keyspace/ChangeOrder", "changed", "(Lcom/example/brazier/brazier/keyspace/ChangeOrder$Link;)V"⟩ : MethodName)) hown (mvT hZ (hw _ (List.mem_of_getElem? (i := 75) rfl))) (mvT hZ (hw _ (List.mem_of_getElem? (i := 76) rfl))) (notFace_of_selects (args := #[]) (mvT hZ (hw _ (List.mem_of_getElem? (i := 78) rfl)))) (mvT hZ (hw _ (List.mem_of_getElem? (i := 78) rfl))) (mvT hZ (hw _ (List.mem_of_getElem? (i := 77) rfl))) (by decide) (backOf (W := 0) (rm13 l Z a0 hw [] 5 ad own_K b1 own_b85 own_a86 own_n87 own_w84 own_p88 3 4 T59.heap n0 S59.1 S59 sl wk (by decide) (by decide) (by decide) (fun _ => ⟨(own_wf1 (q := 4) (p := 2) (by decide) (by decide) (by decide) (by decide)), by decide⟩)) hZ (hw _ (List.mem_of_getElem? (i := 79) rfl)) (hw _ (List.mem_of_getElem? (i := 2) rfl)) (by decide) (by decide)) q60a q60c (g := (mkF m 330 #[.val (.int p0), .val (.int p1), .val (.ref b1), .val (.ref (ad 1)), .val (.ref (ad 2)), .val (.ref (ad 3)), .val (.ref (ad 4)), .val (.ref (ad 0)), .val (.int ((p0 &&& (2147483647 : Int32)) % (3 : Int32))), .val (.int ((p1 &&& (2147483647 : Int32)) % (3 : Int32))), .val (.ref (ad 2)), .val (.ref (ad 3)), .val (.int (1 : Int32))] [(.ref (ad 3)), (.ref b1)])) rfl (by rw [hml]; rfl) (Steps.refl _) (argsL := [(.ref (ad 3))]) (rest := []) (lenOf pd__Lcom_example_brazier_brazier_keyspace_ChangeOrder_Link__V rfl) rfl (by show 2 * 0 + _ ≤ _; exact Nat.le_of_eq rfl) (hb hby at_330) (fun _ _ => ⟨rfl, rfl, (by decide : 6 + 0 ≤ _), (by decide : 18 + 0 ≤ _)⟩)
          dsimp only [Pt.U, Pt.locs, Pt.cells, Pt.slots] at X60 l60 y60 z60 st60 hQ60
          subst l60 y60 z60
          obtain ⟨rfl, N60q, S60q⟩ := hQ60
          have N60 := Fr.app N59 N60q
          refine own_by (fun _ k => st60.trans k) ?_
          have S60 : own_S Z T60.heap n0 5 ad own_K b1 own_b89 own_a90 own_n91 own_w92 own_p88 := S60q
          show own_Fin p.tables e below _ (T60.setTop (mkF m 333 #[.val (.int p0), .val (.int p1), .val (.ref b1), .val (.ref (ad 1)), .val (.ref (ad 2)), .val (.ref (ad 3)), .val (.ref (ad 4)), .val (.ref (ad 0)), .val (.int ((p0 &&& (2147483647 : Int32)) % (3 : Int32))), .val (.int ((p1 &&& (2147483647 : Int32)) % (3 : Int32))), .val (.ref (ad 2)), .val (.ref (ad 3)), .val (.int (1 : Int32))] []))
          refine own_by (fun _ k => XS.aloadN X60.here hx rfl (hb hby at_333) rfl rfl k) ?_
          show own_Fin p.tables e below _ (T60.setTop (mkF m 334 #[.val (.int p0), .val (.int p1), .val (.ref b1), .val (.ref (ad 1)), .val (.ref (ad 2)), .val (.ref (ad 3)), .val (.ref (ad 4)), .val (.ref (ad 0)), .val (.int ((p0 &&& (2147483647 : Int32)) % (3 : Int32))), .val (.int ((p1 &&& (2147483647 : Int32)) % (3 : Int32))), .val (.ref (ad 2)), .val (.ref (ad 3)), .val (.int (1 : Int32))] [(.ref b1)]))
          refine own_by (fun _ k => XS.aload X60.here hx rfl (hb hby at_334) rfl rfl k) ?_
          show own_Fin p.tables e below _ (T60.setTop (mkF m 336 #[.val (.int p0), .val (.int p1), .val (.ref b1), .val (.ref (ad 1)), .val (.ref (ad 2)), .val (.ref (ad 3)), .val (.ref (ad 4)), .val (.ref (ad 0)), .val (.int ((p0 &&& (2147483647 : Int32)) % (3 : Int32))), .val (.int ((p1 &&& (2147483647 : Int32)) % (3 : Int32))), .val (.ref (ad 2)), .val (.ref (ad 3)), .val (.int (1 : Int32))] [(.ref (ad 4)), (.ref b1)]))
          obtain ⟨cq61, kq61, q61a, q61b, q61c⟩ := isOf hZ rfl S60.2.2.1
          obtain ⟨_, _, ⟨T61, L61, k61, n61⟩, -, X61, ⟨Lc61, hQ61, l61, y61, z61⟩, st61⟩ := X60.virtualBack hx (y := (⟨"com/example/brazier/brazier/keyspace/ChangeOrder", "after", "(Lcom/example/brazier/brazier/keyspace/ChangeOrder$Link;)Lcom/example/brazier/brazier/keyspace/ChangeOrder$Link;"⟩ : MethodName)) (z := (⟨"com/example/brazier/brazier/keyspace/ChangeOrder", "after", "(Lcom/example/brazier/brazier/keyspace/ChangeOrder$Link;)Lcom/example/brazier/brazier/keyspace/ChangeOrder$Link;"⟩ : MethodName)) hown (mvT hZ (hw _ (List.mem_of_getElem? (i := 44) rfl))) (mvT hZ (hw _ (List.mem_of_getElem? (i := 45) rfl))) (notFace_of_selects (args := #[]) (mvT hZ (hw _ (List.mem_of_getElem? (i := 47) rfl)))) (mvT hZ (hw _ (List.mem_of_getElem? (i := 47) rfl))) (mvT hZ (hw _ (List.mem_of_getElem? (i := 46) rfl))) (by decide) (backOf (W := 0) (rm7 l Z a0 hw [] 5 ad own_K b1 own_b89 own_a90 own_n91 own_w92 own_p88 4 T60.heap n0 S60.1 S60 sl wk (by decide)) hZ (hw _ (List.mem_of_getElem? (i := 48) rfl)) (hw _ (List.mem_of_getElem? (i := 2) rfl)) (by decide) (by decide)) q61a q61c (g := (mkF m 336 #[.val (.int p0), .val (.int p1), .val (.ref b1), .val (.ref (ad 1)), .val (.ref (ad 2)), .val (.ref (ad 3)), .val (.ref (ad 4)), .val (.ref (ad 0)), .val (.int ((p0 &&& (2147483647 : Int32)) % (3 : Int32))), .val (.int ((p1 &&& (2147483647 : Int32)) % (3 : Int32))), .val (.ref (ad 2)), .val (.ref (ad 3)), .val (.int (1 : Int32))] [(.ref (ad 4)), (.ref b1)])) rfl (by rw [hml]; rfl) (Steps.refl _) (argsL := [(.ref (ad 4))]) (rest := []) (lenOf pd__Lcom_example_brazier_brazier_keyspace_ChangeOrder_Link__Lcom_example_brazier_brazier_keyspace_ChangeOrder_Link_ rfl) rfl (by show 2 * 0 + _ ≤ _; exact Nat.le_of_eq rfl) (hb hby at_336) (fun _ _ => ⟨rfl, rfl, (by decide : 6 + 0 ≤ _), (by decide : 18 + 0 ≤ _)⟩)
          dsimp only [Pt.U, Pt.locs, Pt.cells, Pt.slots] at X61 l61 y61 z61 st61 hQ61
          subst l61 y61 z61
          obtain ⟨hv61, N61q, e61⟩ := hQ61
          obtain rfl := hv61.trans (congrArg some (show own_nx ad (own_a90 4) = (.ref (ad 3)) from (by rw [show own_a90 4 = some 3 from by decide]; rfl)))
          have N61 := Fr.app N60 N61q
          refine own_by (fun _ k => st61.trans k) ?_
          show own_Fin p.tables e below _ (T61.setTop (mkF m 339 #[.val (.int p0), .val (.int p1), .val (.ref b1), .val (.ref (ad 1)), .val (.ref (ad 2)), .val (.ref (ad 3)), .val (.ref (ad 4)), .val (.ref (ad 0)), .val (.int ((p0 &&& (2147483647 : Int32)) % (3 : Int32))), .val (.int ((p1 &&& (2147483647 : Int32)) % (3 : Int32))), .val (.ref (ad 2)), .val (.ref (ad 3)), .val (.int (1 : Int32))] [(.ref (ad 3))]))
          refine own_by (fun _ k => XS.aload X61.here hx rfl (hb hby at_339) rfl rfl k) ?_
          show own_Fin p.tables e below _ (T61.setTop (mkF m 341 #[.val (.int p0), .val (.int p1), .val (.ref b1), .val (.ref (ad 1)), .val (.ref (ad 2)), .val (.ref (ad 3)), .val (.ref (ad 4)), .val (.ref (ad 0)), .val (.int ((p0 &&& (2147483647 : Int32)) % (3 : Int32))), .val (.int ((p1 &&& (2147483647 : Int32)) % (3 : Int32))), .val (.ref (ad 2)), .val (.ref (ad 3)), .val (.int (1 : Int32))] [(.ref (ad 3)), (.ref (ad 3))]))
          refine own_by (fun _ k => Jvm.RoadKit.acmp (g := (mkF m 341 #[.val (.int p0), .val (.int p1), .val (.ref b1), .val (.ref (ad 1)), .val (.ref (ad 2)), .val (.ref (ad 3)), .val (.ref (ad 4)), .val (.ref (ad 0)), .val (.int ((p0 &&& (2147483647 : Int32)) % (3 : Int32))), .val (.int ((p1 &&& (2147483647 : Int32)) % (3 : Int32))), .val (.ref (ad 2)), .val (.ref (ad 3)), .val (.int (1 : Int32))] [(.ref (ad 3)), (.ref (ad 3))])) X61 hx rfl rfl rfl (pc0 := 341) (pc' := 344) (same := true) rfl (hb hby at_341) rfl (decide_eq_true rfl) (by decide) (by decide) k) ?_
          show own_Fin p.tables e below _ (T61.setTop (mkF m 344 #[.val (.int p0), .val (.int p1), .val (.ref b1), .val (.ref (ad 1)), .val (.ref (ad 2)), .val (.ref (ad 3)), .val (.ref (ad 4)), .val (.ref (ad 0)), .val (.int ((p0 &&& (2147483647 : Int32)) % (3 : Int32))), .val (.int ((p1 &&& (2147483647 : Int32)) % (3 : Int32))), .val (.ref (ad 2)), .val (.ref (ad 3)), .val (.int (1 : Int32))] []))
          refine own_by (fun _ k => XS.aloadN X61.here hx rfl (hb hby at_344) rfl rfl k) ?_
          show own_Fin p.tables e below _ (T61.setTop (mkF m 345 #[.val (.int p0), .val (.int p1), .val (.ref b1), .val (.ref (ad 1)), .val (.ref (ad 2)), .val (.ref (ad 3)), .val (.ref (ad 4)), .val (.ref (ad 0)), .val (.int ((p0 &&& (2147483647 : Int32)) % (3 : Int32))), .val (.int ((p1 &&& (2147483647 : Int32)) % (3 : Int32))), .val (.ref (ad 2)), .val (.ref (ad 3)), .val (.int (1 : Int32))] [(.ref b1)]))
          refine own_by (fun _ k => XS.aload X61.here hx rfl (hb hby at_345) rfl rfl k) ?_
          show own_Fin p.tables e below _ (T61.setTop (mkF m 347 #[.val (.int p0), .val (.int p1), .val (.ref b1), .val (.ref (ad 1)), .val (.ref (ad 2)), .val (.ref (ad 3)), .val (.ref (ad 4)), .val (.ref (ad 0)), .val (.int ((p0 &&& (2147483647 : Int32)) % (3 : Int32))), .val (.int ((p1 &&& (2147483647 : Int32)) % (3 : Int32))), .val (.ref (ad 2)), .val (.ref (ad 3)), .val (.int (1 : Int32))] [(.ref (ad 3)), (.ref b1)]))
          obtain ⟨cq62, kq62, q62a, q62b, q62c⟩ := isOf hZ e61 S60.2.2.1
          obtain ⟨_, _, ⟨T62, L62, k62, n62⟩, -, X62, ⟨Lc62, hQ62, l62, y62, z62⟩, st62⟩ := X61.virtualBack hx (y := (⟨"com/example/brazier/brazier/keyspace/ChangeOrder", "after", "(Lcom/example/brazier/brazier/keyspace/ChangeOrder$Link;)Lcom/example/brazier/brazier/keyspace/ChangeOrder$Link;"⟩ : MethodName)) (z := (⟨"com/example/brazier/brazier/keyspace/ChangeOrder", "after", "(Lcom/example/brazier/brazier/keyspace/ChangeOrder$Link;)Lcom/example/brazier/brazier/keyspace/ChangeOrder$Link;"⟩ : MethodName)) hown (mvT hZ (hw _ (List.mem_of_getElem? (i := 44) rfl))) (mvT hZ (hw _ (List.mem_of_getElem? (i := 45) rfl))) (notFace_of_selects (args := #[]) (mvT hZ (hw _ (List.mem_of_getElem? (i := 47) rfl)))) (mvT hZ (hw _ (List.mem_of_getElem? (i := 47) rfl))) (mvT hZ (hw _ (List.mem_of_getElem? (i := 46) rfl))) (by decide) (backOf (W := 0) (rm7 l Z a0 hw [] 5 ad own_K b1 own_b89 own_a90 own_n91 own_w92 own_p88 3 T60.heap n0 S60.1 S60 sl wk (by decide)) hZ (hw _ (List.mem_of_getElem? (i := 48) rfl)) (hw _ (List.mem_of_getElem? (i := 2) rfl)) (by decide) (by decide)) q62a q62c (g := (mkF m 347 #[.val (.int p0), .val (.int p1), .val (.ref b1), .val (.ref (ad 1)), .val (.ref (ad 2)), .val (.ref (ad 3)), .val (.ref (ad 4)), .val (.ref (ad 0)), .val (.int ((p0 &&& (2147483647 : Int32)) % (3 : Int32))), .val (.int ((p1 &&& (2147483647 : Int32)) % (3 : Int32))), .val (.ref (ad 2)), .val (.ref (ad 3)), .val (.int (1 : Int32))] [(.ref (ad 3)), (.ref b1)])) rfl (by rw [hml]; rfl) (Steps.refl _) (argsL := [(.ref (ad 3))]) (rest := []) (lenOf pd__Lcom_example_brazier_brazier_keyspace_ChangeOrder_Link__Lcom_example_brazier_brazier_keyspace_ChangeOrder_Link_ rfl) rfl (by show 2 * 0 + _ ≤ _; exact Nat.le_of_eq rfl) (hb hby at_347) (fun _ _ => ⟨rfl, e61, (by decide : 6 + 0 ≤ _), (by decide : 18 + 0 ≤ _)⟩)
          dsimp only [Pt.U, Pt.locs, Pt.cells, Pt.slots] at X62 l62 y62 z62 st62 hQ62
          subst l62 y62 z62
          obtain ⟨hv62, N62q, e62⟩ := hQ62
          obtain rfl := hv62.trans (congrArg some (show own_nx ad (own_a90 3) = (.ref (ad 0)) from (by rw [show own_a90 3 = some 0 from by decide]; rfl)))
          have N62 := Fr.app N61 N62q
          refine own_by (fun _ k => st62.trans k) ?_
          show own_Fin p.tables e below _ (T62.setTop (mkF m 350 #[.val (.int p0), .val (.int p1), .val (.ref b1), .val (.ref (ad 1)), .val (.ref (ad 2)), .val (.ref (ad 3)), .val (.ref (ad 4)), .val (.ref (ad 0)), .val (.int ((p0 &&& (2147483647 : Int32)) % (3 : Int32))), .val (.int ((p1 &&& (2147483647 : Int32)) % (3 : Int32))), .val (.ref (ad 2)), .val (.ref (ad 3)), .val (.int (1 : Int32))] [(.ref (ad 0))]))
          refine own_by (fun _ k => XS.aload X62.here hx rfl (hb hby at_350) rfl rfl k) ?_
          show own_Fin p.tables e below _ (T62.setTop (mkF m 352 #[.val (.int p0), .val (.int p1), .val (.ref b1), .val (.ref (ad 1)), .val (.ref (ad 2)), .val (.ref (ad 3)), .val (.ref (ad 4)), .val (.ref (ad 0)), .val (.int ((p0 &&& (2147483647 : Int32)) % (3 : Int32))), .val (.int ((p1 &&& (2147483647 : Int32)) % (3 : Int32))), .val (.ref (ad 2)), .val (.ref (ad 3)), .val (.int (1 : Int32))] [(.ref (ad 0)), (.ref (ad 0))]))
          refine own_by (fun _ k => Jvm.RoadKit.acmp (g := (mkF m 352 #[.val (.int p0), .val (.int p1), .val (.ref b1), .val (.ref (ad 1)), .val (.ref (ad 2)), .val (.ref (ad 3)), .val (.ref (ad 4)), .val (.ref (ad 0)), .val (.int ((p0 &&& (2147483647 : Int32)) % (3 : Int32))), .val (.int ((p1 &&& (2147483647 : Int32)) % (3 : Int32))), .val (.ref (ad 2)), .val (.ref (ad 3)), .val (.int (1 : Int32))] [(.ref (ad 0)), (.ref (ad 0))])) X62 hx rfl rfl rfl (pc0 := 352) (pc' := 355) (same := true) rfl (hb hby at_352) rfl (decide_eq_true rfl) (by decide) (by decide) k) ?_
          show own_Fin p.tables e below _ (T62.setTop (mkF m 355 #[.val (.int p0), .val (.int p1), .val (.ref b1), .val (.ref (ad 1)), .val (.ref (ad 2)), .val (.ref (ad 3)), .val (.ref (ad 4)), .val (.ref (ad 0)), .val (.int ((p0 &&& (2147483647 : Int32)) % (3 : Int32))), .val (.int ((p1 &&& (2147483647 : Int32)) % (3 : Int32))), .val (.ref (ad 2)), .val (.ref (ad 3)), .val (.int (1 : Int32))] []))
          refine own_by (fun _ k => XS.iconst X62.here hx rfl (hb hby at_355) k) ?_
          show own_Fin p.tables e below _ (T62.setTop (mkF m 356 #[.val (.int p0), .val (.int p1), .val (.ref b1), .val (.ref (ad 1)), .val (.ref (ad 2)), .val (.ref (ad 3)), .val (.ref (ad 4)), .val (.ref (ad 0)), .val (.int ((p0 &&& (2147483647 : Int32)) % (3 : Int32))), .val (.int ((p1 &&& (2147483647 : Int32)) % (3 : Int32))), .val (.ref (ad 2)), .val (.ref (ad 3)), .val (.int (1 : Int32))] [(.int (1 : Int32))]))
          refine own_by (fun _ k => XS.goto X62.here hx rfl (pc0 := 356) (pc' := 360) rfl (hb hby at_356) (by decide) (by decide) k) ?_
          show own_Fin p.tables e below _ (T62.setTop (mkF m 360 #[.val (.int p0), .val (.int p1), .val (.ref b1), .val (.ref (ad 1)), .val (.ref (ad 2)), .val (.ref (ad 3)), .val (.ref (ad 4)), .val (.ref (ad 0)), .val (.int ((p0 &&& (2147483647 : Int32)) % (3 : Int32))), .val (.int ((p1 &&& (2147483647 : Int32)) % (3 : Int32))), .val (.ref (ad 2)), .val (.ref (ad 3)), .val (.int (1 : Int32))] [(.int (1 : Int32))]))
          have ef : f0 p0 p1 = (1 : Int32) := by unfold f0; rw [if_neg hc15, if_pos hc39, if_neg hc40, if_neg hc48]
          exact own_retN X62 hx (t := .boolean) Bd.returns hlk (by simp) (hb hby at_360) (by decide) (by decide) ⟨by rw [ef]; rfl, N62⟩
    · refine own_by (fun _ k => XS.icmpYes X14.here hx rfl (pc0 := 130) (pc' := 138) rfl (hb hby at_130) rfl (feq hc39).2 (by decide) (by decide) k) ?_
      show own_Fin p.tables e below _ (T14.setTop (mkF m 138 #[.val (.int p0), .val (.int p1), .val (.ref b1), .val (.ref (ad 1)), .val (.ref (ad 2)), .val (.ref (ad 3)), .val (.ref (ad 4)), .val (.ref (ad 0)), .val (.int ((p0 &&& (2147483647 : Int32)) % (3 : Int32))), .val (.int ((p1 &&& (2147483647 : Int32)) % (3 : Int32))), .unset, .unset, .unset] []))
      refine own_by (fun _ k => XS.aload X14.here hx rfl (hb hby at_138) rfl rfl k) ?_
      show own_Fin p.tables e below _ (T14.setTop (mkF m 140 #[.val (.int p0), .val (.int p1), .val (.ref b1), .val (.ref (ad 1)), .val (.ref (ad 2)), .val (.ref (ad 3)), .val (.ref (ad 4)), .val (.ref (ad 0)), .val (.int ((p0 &&& (2147483647 : Int32)) % (3 : Int32))), .val (.int ((p1 &&& (2147483647 : Int32)) % (3 : Int32))), .unset, .unset, .unset] [(.ref (ad 3))]))
      refine own_by (fun _ k => XS.astore X14.here hx rfl (hb hby at_140) rfl rfl (l' := #[.val (.int p0), .val (.int p1), .val (.ref b1), .val (.ref (ad 1)), .val (.ref (ad 2)), .val (.ref (ad 3)), .val (.ref (ad 4)), .val (.ref (ad 0)), .val (.int ((p0 &&& (2147483647 : Int32)) % (3 : Int32))), .val (.int ((p1 &&& (2147483647 : Int32)) % (3 : Int32))), .val (.ref (ad 3)), .unset, .unset]) rfl k) ?_
      show own_Fin p.tables e below _ (T14.setTop (mkF m 142 #[.val (.int p0), .val (.int p1), .val (.ref b1), .val (.ref (ad 1)), .val (.ref (ad 2)), .val (.ref (ad 3)), .val (.ref (ad 4)), .val (.ref (ad 0)), .val (.int ((p0 &&& (2147483647 : Int32)) % (3 : Int32))), .val (.int ((p1 &&& (2147483647 : Int32)) % (3 : Int32))), .val (.ref (ad 3)), .unset, .unset] []))
      refine own_by (fun _ k => XS.iload X14.here hx rfl (hb hby at_142) rfl k) ?_
      show own_Fin p.tables e below _ (T14.setTop (mkF m 144 #[.val (.int p0), .val (.int p1), .val (.ref b1), .val (.ref (ad 1)), .val (.ref (ad 2)), .val (.ref (ad 3)), .val (.ref (ad 4)), .val (.ref (ad 0)), .val (.int ((p0 &&& (2147483647 : Int32)) % (3 : Int32))), .val (.int ((p1 &&& (2147483647 : Int32)) % (3 : Int32))), .val (.ref (ad 3)), .unset, .unset] [(.int ((p1 &&& (2147483647 : Int32)) % (3 : Int32)))]))
      by_cases hc63 : ((p1 &&& (2147483647 : Int32)) % (3 : Int32)) = (0 : Int32)
      · refine own_by (fun _ k => XS.ifNo X14.here hx rfl (hb hby at_144) rfl ((if0 _ _).trans (teq hc63).2) k) ?_
        show own_Fin p.tables e below _ (T14.setTop (mkF m 147 #[.val (.int p0), .val (.int p1), .val (.ref b1), .val (.ref (ad 1)), .val (.ref (ad 2)), .val (.ref (ad 3)), .val (.ref (ad 4)), .val (.ref (ad 0)), .val (.int ((p0 &&& (2147483647 : Int32)) % (3 : Int32))), .val (.int ((p1 &&& (2147483647 : Int32)) % (3 : Int32))), .val (.ref (ad 3)), .unset, .unset] []))
        refine own_by (fun _ k => XS.aloadN X14.here hx rfl (hb hby at_147) rfl rfl k) ?_
        show own_Fin p.tables e below _ (T14.setTop (mkF m 148 #[.val (.int p0), .val (.int p1), .val (.ref b1), .val (.ref (ad 1)), .val (.ref (ad 2)), .val (.ref (ad 3)), .val (.ref (ad 4)), .val (.ref (ad 0)), .val (.int ((p0 &&& (2147483647 : Int32)) % (3 : Int32))), .val (.int ((p1 &&& (2147483647 : Int32)) % (3 : Int32))), .val (.ref (ad 3)), .unset, .unset] [(.ref (ad 1))]))
        refine own_by (fun _ k => XS.goto X14.here hx rfl (pc0 := 148) (pc' := 164) rfl (hb hby at_148) (by decide) (by decide) k) ?_
        show own_Fin p.tables e below _ (T14.setTop (mkF m 164 #[.val (.int p0), .val (.int p1), .val (.ref b1), .val (.ref (ad 1)), .val (.ref (ad 2)), .val (.ref (ad 3)), .val (.ref (ad 4)), .val (.ref (ad 0)), .val (.int ((p0 &&& (2147483647 : Int32)) % (3 : Int32))), .val (.int ((p1 &&& (2147483647 : Int32)) % (3 : Int32))), .val (.ref (ad 3)), .unset, .unset] [(.ref (ad 1))]))
        refine own_by (fun _ k => XS.astore X14.here hx rfl (hb hby at_164) rfl rfl (l' := #[.val (.int p0), .val (.int p1), .val (.ref b1), .val (.ref (ad 1)), .val (.ref (ad 2)), .val (.ref (ad 3)), .val (.ref (ad 4)), .val (.ref (ad 0)), .val (.int ((p0 &&& (2147483647 : Int32)) % (3 : Int32))), .val (.int ((p1 &&& (2147483647 : Int32)) % (3 : Int32))), .val (.ref (ad 3)), .val (.ref (ad 1)), .unset]) rfl k) ?_
        show own_Fin p.tables e below _ (T14.setTop (mkF m 166 #[.val (.int p0), .val (.int p1), .val (.ref b1), .val (.ref (ad 1)), .val (.ref (ad 2)), .val (.ref (ad 3)), .val (.ref (ad 4)), .val (.ref (ad 0)), .val (.int ((p0 &&& (2147483647 : Int32)) % (3 : Int32))), .val (.int ((p1 &&& (2147483647 : Int32)) % (3 : Int32))), .val (.ref (ad 3)), .val (.ref (ad 1)), .unset] []))
        refine own_by (fun _ k => XS.aloadN X14.here hx rfl (hb hby at_166) rfl rfl k) ?_
        show own_Fin p.tables e below _ (T14.setTop (mkF m 167 #[.val (.int p0), .val (.int p1), .val (.ref b1), .val (.ref (ad 1)), .val (.ref (ad 2)), .val (.ref (ad 3)), .val (.ref (ad 4)), .val (.ref (ad 0)), .val (.int ((p0 &&& (2147483647 : Int32)) % (3 : Int32))), .val (.int ((p1 &&& (2147483647 : Int32)) % (3 : Int32))), .val (.ref (ad 3)), .val (.ref (ad 1)), .unset] [(.ref b1)]))
        refine own_by (fun _ k => XS.aload X14.here hx rfl (hb hby at_167) rfl rfl k) ?_
        show own_Fin p.tables e below _ (T14.setTop (mkF m 169 #[.val (.int p0), .val (.int p1), .val (.ref b1), .val (.ref (ad 1)), .val (.ref (ad 2)), .val (.ref (ad 3)), .val (.ref (ad 4)), .val (.ref (ad 0)), .val (.int ((p0 &&& (2147483647 : Int32)) % (3 : Int32))), .val (.int ((p1 &&& (2147483647 : Int32)) % (3 : Int32))), .val (.ref (ad 3)), .val (.ref (ad 1)), .unset] [(.ref (ad 4)), (.ref b1)]))
        refine own_by (fun _ k => XS.aload X14.here hx rfl (hb hby at_169) rfl rfl k) ?_
        show own_Fin p.tables e below _ (T14.setTop (mkF m 171 #[.val (.int p0), .val (.int p1), .val (.ref b1), .val (.ref (ad 1)), .val (.ref (ad 2)), .val (.ref (ad 3)), .val (.ref (ad 4)), .val (.ref (ad 0)), .val (.int ((p0 &&& (2147483647 : Int32)) % (3 : Int32))), .val (.int ((p1 &&& (2147483647 : Int32)) % (3 : Int32))), .val (.ref (ad 3)), .val (.ref (ad 1)), .unset] [(.ref (ad 3)), (.ref (ad 4)), (.ref b1)]))
        obtain ⟨cq64, kq64, q64a, q64b, q64c⟩ := isOf hZ e14 S13.2.2.1
        obtain ⟨_, _, ⟨T64, L64, k64, n64⟩, -, X64, ⟨Lc64, hQ64, l64, y64, z64⟩, st64⟩ := X14.virtualBack hx (y := (⟨"com/example/brazier/brazier/keyspace/ChangeOrder", "passTo", "(Lcom/example/brazier/brazier/keyspace/ChangeOrder$Place;Lcom/example/brazier/brazier/keyspace/ChangeOrder$Link;)V"⟩ : MethodName)) (z := (⟨"com/example/brazier/brazier/keyspace/ChangeOrder", "passTo", "(Lcom/example/brazier/brazier/keyspace/ChangeOrder$Place;Lcom/example/brazier/brazier/keyspace/ChangeOrder$Link;)V"⟩ : MethodName)) hown (mvT hZ (hw _ (List.mem_of_getElem? (i := 50) rfl))) (mvT hZ (hw _ (List.mem_of_getElem? (i := 51) rfl))) (notFace_of_selects (args := #[]) (mvT hZ (hw _ (List.mem_of_getElem? (i := 53) rfl)))) (mvT hZ (hw _ (List.mem_of_getElem? (i := 53) rfl))) (mvT hZ (hw _ (List.mem_of_getElem? (i := 52) rfl))) (by decide) (backOf (W := 0) (rm8 l Z a0 hw [] 5 ad own_K b1 own_b9 own_a10 own_n11 own_w12 own_w0 4 3 2 T13.heap n0 S13.1 S13 sl wk (by decide) (by decide) (by decide) (own_wf0 (by decide)) (by decide)) hZ (hw _ (List.mem_of_getElem? (i := 54) rfl)) (hw _ (List.mem_of_getElem? (i := 2) rfl)) (by decide) (by decide)) q64a q64c (g := (mkF m 171 #[.val (.int p0), .val (.int p1), .val (.ref b1), .val (.ref (ad 1)), .val (.ref (ad 2)), .val (.ref (ad 3)), .val (.ref (ad 4)), .val (.ref (ad 0)), .val (.int ((p0 &&& (2147483647 : Int32)) % (3 : Int32))), .val (.int ((p1 &&& (2147483647 : Int32)) % (3 : Int32))), .val (.ref (ad 3)), .val (.ref (ad 1)), .unset] [(.ref (ad 3)), (.ref (ad 4)), (.ref b1)])) rfl (by rw [hml]; rfl) (Steps.refl _) (argsL := [(.ref (ad 4)), (.ref (ad 3))]) (rest := []) (lenOf pd__Lcom_example_brazier_brazier_keyspace_ChangeOrder_Place_Lcom_example_brazier_brazier_keyspace_ChangeOrder_Link__V rfl) rfl (by show 2 * 0 + _ ≤ _; exact Nat.le_of_eq rfl) (hb hby at_171) (fun _ _ => ⟨rfl, e14, (by decide : 6 + 0 ≤ _), (by decide : 18 + 0 ≤ _)⟩)
        dsimp only [Pt.U, Pt.locs, Pt.cells, Pt.slots] at X64 l64 y64 z64 st64 hQ64
        subst l64 y64 z64
        obtain ⟨rfl, N64q, S64q⟩ := hQ64
        have N64 := Fr.app N14 N64q
        refine own_by (fun _ k => st64.trans k) ?_
        have S64 : own_S Z T64.heap n0 5 ad own_K b1 own_b93 own_a94 own_n95 own_w12 own_p96 := S64q
        show own_Fin p.tables e below _ (T64.setTop (mkF m 174 #[.val (.int p0), .val (.int p1), .val (.ref b1), .val (.ref (ad 1)), .val (.ref (ad 2)), .val (.ref (ad 3)), .val (.ref (ad 4)), .val (.ref (ad 0)), .val (.int ((p0 &&& (2147483647 : Int32)) % (3 : Int32))), .val (.int ((p1 &&& (2147483647 : Int32)) % (3 : Int32))), .val (.ref (ad 3)), .val (.ref (ad 1)), .unset] []))
        refine own_by (fun _ k => XS.aloadN X64.here hx rfl (hb hby at_174) rfl rfl k) ?_
        show own_Fin p.tables e below _ (T64.setTop (mkF m 175 #[.val (.int p0), .val (.int p1), .val (.ref b1), .val (.ref (ad 1)), .val (.ref (ad 2)), .val (.ref (ad 3)), .val (.ref (ad 4)), .val (.ref (ad 0)), .val (.int ((p0 &&& (2147483647 : Int32)) % (3 : Int32))), .val (.int ((p1 &&& (2147483647 : Int32)) % (3 : Int32))), .val (.ref (ad 3)), .val (.ref (ad 1)), .unset] [(.ref b1)]))
        refine own_by (fun _ k => XS.aload X64.here hx rfl (hb hby at_175) rfl rfl k) ?_
        show own_Fin p.tables e below _ (T64.setTop (mkF m 177 #[.val (.int p0), .val (.int p1), .val (.ref b1), .val (.ref (ad 1)), .val (.ref (ad 2)), .val (.ref (ad 3)), .val (.ref (ad 4)), .val (.ref (ad 0)), .val (.int ((p0 &&& (2147483647 : Int32)) % (3 : Int32))), .val (.int ((p1 &&& (2147483647 : Int32)) % (3 : Int32))), .val (.ref (ad 3)), .val (.ref (ad 1)), .unset] [(.ref (ad 1)), (.ref b1)]))
        obtain ⟨cq65, kq65, q65a, q65b, q65c⟩ := isOf hZ rfl S64.2.2.1
        obtain ⟨_, _, ⟨T65, L65, k65, n65⟩, -, X65, ⟨Lc65, hQ65, l65, y65, z65⟩, st65⟩ := X64.virtualBack hx (y := (⟨"com/example/brazier/brazier/keyspace/ChangeOrder", "changed", "(Lcom/example/brazier/brazier/keyspace/ChangeOrder$Link;)V"⟩ : MethodName)) (z := (⟨"com/example/brazier/brazier/keyspace/ChangeOrder", "changed", "(Lcom/example/brazier/brazier/keyspace/ChangeOrder$Link;)V"⟩ : MethodName)) hown (mvT hZ (hw _ (List.mem_of_getElem? (i := 75) rfl))) (mvT hZ (hw _ (List.mem_of_getElem? (i := 76) rfl))) (notFace_of_selects (args := #[]) (mvT hZ (hw _ (List.mem_of_getElem? (i := 78) rfl)))) (mvT hZ (hw _ (List.mem_of_getElem? (i := 78) rfl))) (mvT hZ (hw _ (List.mem_of_getElem? (i := 77) rfl))) (by decide) (backOf (W := 0) (rm13 l Z a0 hw [] 5 ad own_K b1 own_b93 own_a94 own_n95 own_w12 own_p96 1 3 T64.heap n0 S64.1 S64 sl wk (by decide) (by decide) (by decide) (fun _ => ⟨(own_wf1 (q := 2) (p := 0) (by decide) (by decide) (by decide) (by decide)), by decide⟩)) hZ (hw _ (List.mem_of_getElem? (i := 79) rfl)) (hw _ (List.mem_of_getElem? (i := 2) rfl)) (by decide) (by decide)) q65a q65c (g := (mkF m 177 #[.val (.int p0), .val (.int p1), .val (.ref b1), .val (.ref (ad 1)), .val (.ref (ad 2)), .val (.ref (ad 3)), .val (.ref (ad 4)), .val (.ref (ad 0)), .val (.int ((p0 &&& (2147483647 : Int32)) % (3 : Int32))), .val (.int ((p1 &&& (2147483647 : Int32)) % (3 : Int32))), .val (.ref (ad 3)), .val (.ref (ad 1)), .unset] [(.ref (ad 1)), (.ref b1)])) rfl (by rw [hml]; rfl) (Steps.refl _) (argsL := [(.ref (ad 1))]) (rest := []) (lenOf pd__Lcom_example_brazier_brazier_keyspace_ChangeOrder_Link__V rfl) rfl (by show 2 * 0 + _ ≤ _; exact Nat.le_of_eq rfl) (hb hby at_177) (fun _ _ => ⟨rfl, rfl, (by decide : 6 + 0 ≤ _), (by decide : 18 + 0 ≤ _)⟩)
        dsimp only [Pt.U, Pt.locs, Pt.cells, Pt.slots] at X65 l65 y65 z65 st65 hQ65
        subst l65 y65 z65
        obtain ⟨rfl, N65q, S65q⟩ := hQ65
        have N65 := Fr.app N64 N65q
        refine own_by (fun _ k => st65.trans k) ?_
        have S65 : own_S Z T65.heap n0 5 ad own_K b1 own_b97 own_a98 own_n99 own_w100 own_p96 := S65q
        show own_Fin p.tables e below _ (T65.setTop (mkF m 180 #[.val (.int p0), .val (.int p1), .val (.ref b1), .val (.ref (ad 1)), .val (.ref (ad 2)), .val (.ref (ad 3)), .val (.ref (ad 4)), .val (.ref (ad 0)), .val (.int ((p0 &&& (2147483647 : Int32)) % (3 : Int32))), .val (.int ((p1 &&& (2147483647 : Int32)) % (3 : Int32))), .val (.ref (ad 3)), .val (.ref (ad 1)), .unset] []))
        refine own_by (fun _ k => XS.iload X65.here hx rfl (hb hby at_180) rfl k) ?_
        show own_Fin p.tables e below _ (T65.setTop (mkF m 182 #[.val (.int p0), .val (.int p1), .val (.ref b1), .val (.ref (ad 1)), .val (.ref (ad 2)), .val (.ref (ad 3)), .val (.ref (ad 4)), .val (.ref (ad 0)), .val (.int ((p0 &&& (2147483647 : Int32)) % (3 : Int32))), .val (.int ((p1 &&& (2147483647 : Int32)) % (3 : Int32))), .val (.ref (ad 3)), .val (.ref (ad 1)), .unset] [(.int ((p0 &&& (2147483647 : Int32)) % (3 : Int32)))]))
        refine own_by (fun _ k => XS.ifYes X65.here hx rfl (pc0 := 182) (pc' := 203) rfl (hb hby at_182) rfl ((if0 _ _).trans (feq hc15).2) (by decide) (by decide) k) ?_
        show own_Fin p.tables e below _ (T65.setTop (mkF m 203 #[.val (.int p0), .val (.int p1), .val (.ref b1), .val (.ref (ad 1)), .val (.ref (ad 2)), .val (.ref (ad 3)), .val (.ref (ad 4)), .val (.ref (ad 0)), .val (.int ((p0 &&& (2147483647 : Int32)) % (3 : Int32))), .val (.int ((p1 &&& (2147483647 : Int32)) % (3 : Int32))), .val (.ref (ad 3)), .val (.ref (ad 1)), .unset] []))
        refine own_by (fun _ k => XS.iload X65.here hx rfl (hb hby at_203) rfl k) ?_
        show own_Fin p.tables e below _ (T65.setTop (mkF m 205 #[.val (.int p0), .val (.int p1), .val (.ref b1), .val (.ref (ad 1)), .val (.ref (ad 2)), .val (.ref (ad 3)), .val (.ref (ad 4)), .val (.ref (ad 0)), .val (.int ((p0 &&& (2147483647 : Int32)) % (3 : Int32))), .val (.int ((p1 &&& (2147483647 : Int32)) % (3 : Int32))), .val (.ref (ad 3)), .val (.ref (ad 1)), .unset] [(.int ((p0 &&& (2147483647 : Int32)) % (3 : Int32)))]))
        refine own_by (fun _ k => XS.iconst X65.here hx rfl (hb hby at_205) k) ?_
        show own_Fin p.tables e below _ (T65.setTop (mkF m 206 #[.val (.int p0), .val (.int p1), .val (.ref b1), .val (.ref (ad 1)), .val (.ref (ad 2)), .val (.ref (ad 3)), .val (.ref (ad 4)), .val (.ref (ad 0)), .val (.int ((p0 &&& (2147483647 : Int32)) % (3 : Int32))), .val (.int ((p1 &&& (2147483647 : Int32)) % (3 : Int32))), .val (.ref (ad 3)), .val (.ref (ad 1)), .unset] [(.int (1 : Int32)), (.int ((p0 &&& (2147483647 : Int32)) % (3 : Int32)))]))
        refine own_by (fun _ k => XS.icmpYes X65.here hx rfl (pc0 := 206) (pc' := 250) rfl (hb hby at_206) rfl (feq hc39).2 (by decide) (by decide) k) ?_
        show own_Fin p.tables e below _ (T65.setTop (mkF m 250 #[.val (.int p0), .val (.int p1), .val (.ref b1), .val (.ref (ad 1)), .val (.ref (ad 2)), .val (.ref (ad 3)), .val (.ref (ad 4)), .val (.ref (ad 0)), .val (.int ((p0 &&& (2147483647 : Int32)) % (3 : Int32))), .val (.int ((p1 &&& (2147483647 : Int32)) % (3 : Int32))), .val (.ref (ad 3)), .val (.ref (ad 1)), .unset] []))
        refine own_by (fun _ k => XS.iload X65.here hx rfl (hb hby at_250) rfl k) ?_
        show own_Fin p.tables e below _ (T65.setTop (mkF m 252 #[.val (.int p0), .val (.int p1), .val (.ref b1), .val (.ref (ad 1)), .val (.ref (ad 2)), .val (.ref (ad 3)), .val (.ref (ad 4)), .val (.ref (ad 0)), .val (.int ((p0 &&& (2147483647 : Int32)) % (3 : Int32))), .val (.int ((p1 &&& (2147483647 : Int32)) % (3 : Int32))), .val (.ref (ad 3)), .val (.ref (ad 1)), .unset] [(.int ((p1 &&& (2147483647 : Int32)) % (3 : Int32)))]))
        refine own_by (fun _ k => XS.ifNo X65.here hx rfl (hb hby at_252) rfl ((if0 _ _).trans (teq hc63).2) k) ?_
        show own_Fin p.tables e below _ (T65.setTop (mkF m 255 #[.val (.int p0), .val (.int p1), .val (.ref b1), .val (.ref (ad 1)), .val (.ref (ad 2)), .val (.ref (ad 3)), .val (.ref (ad 4)), .val (.ref (ad 0)), .val (.int ((p0 &&& (2147483647 : Int32)) % (3 : Int32))), .val (.int ((p1 &&& (2147483647 : Int32)) % (3 : Int32))), .val (.ref (ad 3)), .val (.ref (ad 1)), .unset] []))
        refine own_by (fun _ k => XS.aloadN X65.here hx rfl (hb hby at_255) rfl rfl k) ?_
        show own_Fin p.tables e below _ (T65.setTop (mkF m 256 #[.val (.int p0), .val (.int p1), .val (.ref b1), .val (.ref (ad 1)), .val (.ref (ad 2)), .val (.ref (ad 3)), .val (.ref (ad 4)), .val (.ref (ad 0)), .val (.int ((p0 &&& (2147483647 : Int32)) % (3 : Int32))), .val (.int ((p1 &&& (2147483647 : Int32)) % (3 : Int32))), .val (.ref (ad 3)), .val (.ref (ad 1)), .unset] [(.ref b1)]))
        refine own_by (fun _ k => XS.aload X65.here hx rfl (hb hby at_256) rfl rfl k) ?_
        show own_Fin p.tables e below _ (T65.setTop (mkF m 258 #[.val (.int p0), .val (.int p1), .val (.ref b1), .val (.ref (ad 1)), .val (.ref (ad 2)), .val (.ref (ad 3)), .val (.ref (ad 4)), .val (.ref (ad 0)), .val (.int ((p0 &&& (2147483647 : Int32)) % (3 : Int32))), .val (.int ((p1 &&& (2147483647 : Int32)) % (3 : Int32))), .val (.ref (ad 3)), .val (.ref (ad 1)), .unset] [(.ref (ad 0)), (.ref b1)]))
        refine own_by (fun _ k => XS.aload X65.here hx rfl (hb hby at_258) rfl rfl k) ?_
        show own_Fin p.tables e below _ (T65.setTop (mkF m 260 #[.val (.int p0), .val (.int p1), .val (.ref b1), .val (.ref (ad 1)), .val (.ref (ad 2)), .val (.ref (ad 3)), .val (.ref (ad 4)), .val (.ref (ad 0)), .val (.int ((p0 &&& (2147483647 : Int32)) % (3 : Int32))), .val (.int ((p1 &&& (2147483647 : Int32)) % (3 : Int32))), .val (.ref (ad 3)), .val (.ref (ad 1)), .unset] [(.ref (ad 2)), (.ref (ad 0)), (.ref b1)]))
        refine own_by (fun _ k => XS.aload X65.here hx rfl (hb hby at_260) rfl rfl k) ?_
        show own_Fin p.tables e below _ (T65.setTop (mkF m 262 #[.val (.int p0), .val (.int p1), .val (.ref b1), .val (.ref (ad 1)), .val (.ref (ad 2)), .val (.ref (ad 3)), .val (.ref (ad 4)), .val (.ref (ad 0)), .val (.int ((p0 &&& (2147483647 : Int32)) % (3 : Int32))), .val (.int ((p1 &&& (2147483647 : Int32)) % (3 : Int32))), .val (.ref (ad 3)), .val (.ref (ad 1)), .unset] [(.ref (ad 4)), (.ref (ad 2)), (.ref (ad 0)), (.ref b1)]))
        refine own_by (fun _ k => XS.aload X65.here hx rfl (hb hby at_262) rfl rfl k) ?_
        show own_Fin p.tables e below _ (T65.setTop (mkF m 264 #[.val (.int p0), .val (.int p1), .val (.ref b1), .val (.ref (ad 1)), .val (.ref (ad 2)), .val (.ref (ad 3)), .val (.ref (ad 4)), .val (.ref (ad 0)), .val (.int ((p0 &&& (2147483647 : Int32)) % (3 : Int32))), .val (.int ((p1 &&& (2147483647 : Int32)) % (3 : Int32))), .val (.ref (ad 3)), .val (.ref (ad 1)), .unset] [(.ref (ad 3)), (.ref (ad 4)), (.ref (ad 2)), (.ref (ad 0)), (.ref b1)]))
        refine own_by (fun _ k => XS.aloadN X65.here hx rfl (hb hby at_264) rfl rfl k) ?_
        show own_Fin p.tables e below _ (T65.setTop (mkF m 265 #[.val (.int p0), .val (.int p1), .val (.ref b1), .val (.ref (ad 1)), .val (.ref (ad 2)), .val (.ref (ad 3)), .val (.ref (ad 4)), .val (.ref (ad 0)), .val (.int ((p0 &&& (2147483647 : Int32)) % (3 : Int32))), .val (.int ((p1 &&& (2147483647 : Int32)) % (3 : Int32))), .val (.ref (ad 3)), .val (.ref (ad 1)), .unset] [(.ref (ad 1)), (.ref (ad 3)), (.ref (ad 4)), (.ref (ad 2)), (.ref (ad 0)), (.ref b1)]))
        obtain ⟨_, _, ⟨T66, L66, k66, n66⟩, -, X66, ⟨Lc66, hQ66, l66, y66, z66⟩, st66⟩ := Jvm.LawKit.callS X65 hx (y := (⟨"com/example/brazier/brazier/keyspace/ChangeOrderAddPinLaw", "ringIs", "(Lcom/example/brazier/brazier/keyspace/ChangeOrder;Lcom/example/brazier/brazier/keyspace/ChangeOrder$Link;Lcom/example/brazier/brazier/keyspace/ChangeOrder$Link;Lcom/example/brazier/brazier/keyspace/ChangeOrder$Link;Lcom/example/brazier/brazier/keyspace/ChangeOrder$Link;Lcom/example/brazier/brazier/keyspace/ChangeOrder$Link;)Z"⟩ : MethodName)) hown (mvT hZ (hw _ (List.mem_of_getElem? (i := 80) rfl))) (mvT hZ (hw _ (List.mem_of_getElem? (i := 81) rfl))) (mvT hZ (hw _ (List.mem_of_getElem? (i := 82) rfl))) (mvT hZ (hw _ (List.mem_of_getElem? (i := 83) rfl))) (by decide) (backOf (W := 0) (rm14 l Z a0 hw [] 5 ad own_K b1 own_b97 own_a98 own_n99 own_w100 own_p96 0 2 4 3 1 T65.heap n0 S65.1 S65 sl wk (by decide) (by decide) (by decide) (by decide) (by decide) (by decide) (by decide) (by decide) (by decide) (by decide)) hZ (hw _ (List.mem_of_getElem? (i := 83) rfl)) (hw _ (List.mem_of_getElem? (i := 82) rfl)) (by decide) (by decide)) (g := (mkF m 265 #[.val (.int p0), .val (.int p1), .val (.ref b1), .val (.ref (ad 1)), .val (.ref (ad 2)), .val (.ref (ad 3)), .val (.ref (ad 4)), .val (.ref (ad 0)), .val (.int ((p0 &&& (2147483647 : Int32)) % (3 : Int32))), .val (.int ((p1 &&& (2147483647 : Int32)) % (3 : Int32))), .val (.ref (ad 3)), .val (.ref (ad 1)), .unset] [(.ref (ad 1)), (.ref (ad 3)), (.ref (ad 4)), (.ref (ad 2)), (.ref (ad 0)), (.ref b1)])) rfl (by rw [hml]; rfl) (argsL := [(.ref b1), (.ref (ad 0)), (.ref (ad 2)), (.ref (ad 4)), (.ref (ad 3)), (.ref (ad 1))]) (rest := []) (lenOf pd__Lcom_example_brazier_brazier_keyspace_ChangeOrder_Lcom_example_brazier_brazier_keyspace_ChangeOrder_Link_Lcom_example_brazier_brazier_keyspace_ChangeOrder_Link_Lcom_example_brazier_brazier_keyspace_ChangeOrder_Link_Lcom_example_brazier_brazier_keyspace_ChangeOrder_Link_Lcom_example_brazier_brazier_keyspace_ChangeOrder_Link__Z rfl) rfl (by show 2 * 0 + _ ≤ _; exact Nat.le_of_eq rfl) (hb hby at_265) (fun _ _ => ⟨rfl, rfl, (by decide : 6 + 0 ≤ _), (by decide : 18 + 0 ≤ _)⟩)
        dsimp only [Pt.U, Pt.locs, Pt.cells, Pt.slots] at X66 l66 y66 z66 st66 hQ66
        subst l66 y66 z66
        obtain ⟨rfl, N66q, e66⟩ := hQ66
        have N66 := Fr.app N65 N66q
        refine own_by st66 ?_
        show own_Fin p.tables e below _ (T66.setTop (mkF m 268 #[.val (.int p0), .val (.int p1), .val (.ref b1), .val (.ref (ad 1)), .val (.ref (ad 2)), .val (.ref (ad 3)), .val (.ref (ad 4)), .val (.ref (ad 0)), .val (.int ((p0 &&& (2147483647 : Int32)) % (3 : Int32))), .val (.int ((p1 &&& (2147483647 : Int32)) % (3 : Int32))), .val (.ref (ad 3)), .val (.ref (ad 1)), .unset] [(.int (1 : Int32))]))
        refine own_by (fun _ k => XS.istore X66.here hx rfl (hb hby at_268) rfl (l' := #[.val (.int p0), .val (.int p1), .val (.ref b1), .val (.ref (ad 1)), .val (.ref (ad 2)), .val (.ref (ad 3)), .val (.ref (ad 4)), .val (.ref (ad 0)), .val (.int ((p0 &&& (2147483647 : Int32)) % (3 : Int32))), .val (.int ((p1 &&& (2147483647 : Int32)) % (3 : Int32))), .val (.ref (ad 3)), .val (.ref (ad 1)), .val (.int (1 : Int32))]) rfl k) ?_
        show own_Fin p.tables e below _ (T66.setTop (mkF m 270 #[.val (.int p0), .val (.int p1), .val (.ref b1), .val (.ref (ad 1)), .val (.ref (ad 2)), .val (.ref (ad 3)), .val (.ref (ad 4)), .val (.ref (ad 0)), .val (.int ((p0 &&& (2147483647 : Int32)) % (3 : Int32))), .val (.int ((p1 &&& (2147483647 : Int32)) % (3 : Int32))), .val (.ref (ad 3)), .val (.ref (ad 1)), .val (.int (1 : Int32))] []))
        refine own_by (fun _ k => XS.goto X66.here hx rfl (pc0 := 270) (pc' := 312) rfl (hb hby at_270) (by decide) (by decide) k) ?_
        show own_Fin p.tables e below _ (T66.setTop (mkF m 312 #[.val (.int p0), .val (.int p1), .val (.ref b1), .val (.ref (ad 1)), .val (.ref (ad 2)), .val (.ref (ad 3)), .val (.ref (ad 4)), .val (.ref (ad 0)), .val (.int ((p0 &&& (2147483647 : Int32)) % (3 : Int32))), .val (.int ((p1 &&& (2147483647 : Int32)) % (3 : Int32))), .val (.ref (ad 3)), .val (.ref (ad 1)), .val (.int (1 : Int32))] []))
        refine own_by (fun _ k => XS.iload X66.here hx rfl (hb hby at_312) rfl k) ?_
        show own_Fin p.tables e below _ (T66.setTop (mkF m 314 #[.val (.int p0), .val (.int p1), .val (.ref b1), .val (.ref (ad 1)), .val (.ref (ad 2)), .val (.ref (ad 3)), .val (.ref (ad 4)), .val (.ref (ad 0)), .val (.int ((p0 &&& (2147483647 : Int32)) % (3 : Int32))), .val (.int ((p1 &&& (2147483647 : Int32)) % (3 : Int32))), .val (.ref (ad 3)), .val (.ref (ad 1)), .val (.int (1 : Int32))] [(.int (1 : Int32))]))
        refine own_by (fun _ k => XS.ifYes X66.here hx rfl (pc0 := 314) (pc' := 319) rfl (hb hby at_314) rfl ((if0 _ _).trans (feq (by decide)).2) (by decide) (by decide) k) ?_
        show own_Fin p.tables e below _ (T66.setTop (mkF m 319 #[.val (.int p0), .val (.int p1), .val (.ref b1), .val (.ref (ad 1)), .val (.ref (ad 2)), .val (.ref (ad 3)), .val (.ref (ad 4)), .val (.ref (ad 0)), .val (.int ((p0 &&& (2147483647 : Int32)) % (3 : Int32))), .val (.int ((p1 &&& (2147483647 : Int32)) % (3 : Int32))), .val (.ref (ad 3)), .val (.ref (ad 1)), .val (.int (1 : Int32))] []))
        refine own_by (fun _ k => XS.aloadN X66.here hx rfl (hb hby at_319) rfl rfl k) ?_
        show own_Fin p.tables e below _ (T66.setTop (mkF m 320 #[.val (.int p0), .val (.int p1), .val (.ref b1), .val (.ref (ad 1)), .val (.ref (ad 2)), .val (.ref (ad 3)), .val (.ref (ad 4)), .val (.ref (ad 0)), .val (.int ((p0 &&& (2147483647 : Int32)) % (3 : Int32))), .val (.int ((p1 &&& (2147483647 : Int32)) % (3 : Int32))), .val (.ref (ad 3)), .val (.ref (ad 1)), .val (.int (1 : Int32))] [(.ref b1)]))
        refine own_by (fun _ k => XS.aload X66.here hx rfl (hb hby at_320) rfl rfl k) ?_
        show own_Fin p.tables e below _ (T66.setTop (mkF m 322 #[.val (.int p0), .val (.int p1), .val (.ref b1), .val (.ref (ad 1)), .val (.ref (ad 2)), .val (.ref (ad 3)), .val (.ref (ad 4)), .val (.ref (ad 0)), .val (.int ((p0 &&& (2147483647 : Int32)) % (3 : Int32))), .val (.int ((p1 &&& (2147483647 : Int32)) % (3 : Int32))), .val (.ref (ad 3)), .val (.ref (ad 1)), .val (.int (1 : Int32))] [(.ref (ad 4)), (.ref b1)]))
        refine own_by (fun _ k => XS.aload X66.here hx rfl (hb hby at_322) rfl rfl k) ?_
        show own_Fin p.tables e below _ (T66.setTop (mkF m 324 #[.val (.int p0), .val (.int p1), .val (.ref b1), .val (.ref (ad 1)), .val (.ref (ad 2)), .val (.ref (ad 3)), .val (.ref (ad 4)), .val (.ref (ad 0)), .val (.int ((p0 &&& (2147483647 : Int32)) % (3 : Int32))), .val (.int ((p1 &&& (2147483647 : Int32)) % (3 : Int32))), .val (.ref (ad 3)), .val (.ref (ad 1)), .val (.int (1 : Int32))] [(.ref (ad 0)), (.ref (ad 4)), (.ref b1)]))
        obtain ⟨cq67, kq67, q67a, q67b, q67c⟩ := isOf hZ e66 S65.2.2.1
        obtain ⟨_, _, ⟨T67, L67, k67, n67⟩, -, X67, ⟨Lc67, hQ67, l67, y67, z67⟩, st67⟩ := X66.virtualBack hx (y := (⟨"com/example/brazier/brazier/keyspace/ChangeOrder", "passTo", "(Lcom/example/brazier/brazier/keyspace/ChangeOrder$Place;Lcom/example/brazier/brazier/keyspace/ChangeOrder$Link;)V"⟩ : MethodName)) (z := (⟨"com/example/brazier/brazier/keyspace/ChangeOrder", "passTo", "(Lcom/example/brazier/brazier/keyspace/ChangeOrder$Place;Lcom/example/brazier/brazier/keyspace/ChangeOrder$Link;)V"⟩ : MethodName)) hown (mvT hZ (hw _ (List.mem_of_getElem? (i := 50) rfl))) (mvT hZ (hw _ (List.mem_of_getElem? (i := 51) rfl))) (notFace_of_selects (args := #[]) (mvT hZ (hw _ (List.mem_of_getElem? (i := 53) rfl)))) (mvT hZ (hw _ (List.mem_of_getElem? (i := 53) rfl))) (mvT hZ (hw _ (List.mem_of_getElem? (i := 52) rfl))) (by decide) (backOf (W := 0) (rm8 l Z a0 hw [] 5 ad own_K b1 own_b97 own_a98 own_n99 own_w100 own_p96 4 0 1 T65.heap n0 S65.1 S65 sl wk (by decide) (by decide) (by decide) (own_wf1 (q := 3) (p := 2) (by decide) (by decide) (by decide) (by decide)) (by decide)) hZ (hw _ (List.mem_of_getElem? (i := 54) rfl)) (hw _ (List.mem_of_getElem? (i := 2) rfl)) (by decide) (by decide)) q67a q67c (g := (mkF m 324 #[.val (.int p0), .val (.int p1), .val (.ref b1), .val (.ref (ad 1)), .val (.ref (ad 2)), .val (.ref (ad 3)), .val (.ref (ad 4)), .val (.ref (ad 0)), .val (.int ((p0 &&& (2147483647 : Int32)) % (3 : Int32))), .val (.int ((p1 &&& (2147483647 : Int32)) % (3 : Int32))), .val (.ref (ad 3)), .val (.ref (ad 1)), .val (.int (1 : Int32))] [(.ref (ad 0)), (.ref (ad 4)), (.ref b1)])) rfl (by rw [hml]; rfl) (Steps.refl _) (argsL := [(.ref (ad 4)), (.ref (ad 0))]) (rest := []) (lenOf pd__Lcom_example_brazier_brazier_keyspace_ChangeOrder_Place_Lcom_example_brazier_brazier_keyspace_ChangeOrder_Link__V rfl) rfl (by show 2 * 0 + _ ≤ _; exact Nat.le_of_eq rfl) (hb hby at_324) (fun _ _ => ⟨rfl, e66, (by decide : 6 + 0 ≤ _), (by decide : 18 + 0 ≤ _)⟩)
        dsimp only [Pt.U, Pt.locs, Pt.cells, Pt.slots] at X67 l67 y67 z67 st67 hQ67
        subst l67 y67 z67
        obtain ⟨rfl, N67q, S67q⟩ := hQ67
        have N67 := Fr.app N66 N67q
        refine own_by (fun _ k => st67.trans k) ?_
        have S67 : own_S Z T67.heap n0 5 ad own_K b1 own_b101 own_a102 own_n103 own_w100 own_p104 := S67q
        show own_Fin p.tables e below _ (T67.setTop (mkF m 327 #[.val (.int p0), .val (.int p1), .val (.ref b1), .val (.ref (ad 1)), .val (.ref (ad 2)), .val (.ref (ad 3)), .val (.ref (ad 4)), .val (.ref (ad 0)), .val (.int ((p0 &&& (2147483647 : Int32)) % (3 : Int32))), .val (.int ((p1 &&& (2147483647 : Int32)) % (3 : Int32))), .val (.ref (ad 3)), .val (.ref (ad 1)), .val (.int (1 : Int32))] []))
        refine own_by (fun _ k => XS.aloadN X67.here hx rfl (hb hby at_327) rfl rfl k) ?_
        show own_Fin p.tables e below _ (T67.setTop (mkF m 328 #[.val (.int p0), .val (.int p1), .val (.ref b1), .val (.ref (ad 1)), .val (.ref (ad 2)), .val (.ref (ad 3)), .val (.ref (ad 4)), .val (.ref (ad 0)), .val (.int ((p0 &&& (2147483647 : Int32)) % (3 : Int32))), .val (.int ((p1 &&& (2147483647 : Int32)) % (3 : Int32))), .val (.ref (ad 3)), .val (.ref (ad 1)), .val (.int (1 : Int32))] [(.ref b1)]))
        refine own_by (fun _ k => XS.aload X67.here hx rfl (hb hby at_328) rfl rfl k) ?_
        show own_Fin p.tables e below _ (T67.setTop (mkF m 330 #[.val (.int p0), .val (.int p1), .val (.ref b1), .val (.ref (ad 1)), .val (.ref (ad 2)), .val (.ref (ad 3)), .val (.ref (ad 4)), .val (.ref (ad 0)), .val (.int ((p0 &&& (2147483647 : Int32)) % (3 : Int32))), .val (.int ((p1 &&& (2147483647 : Int32)) % (3 : Int32))), .val (.ref (ad 3)), .val (.ref (ad 1)), .val (.int (1 : Int32))] [(.ref (ad 3)), (.ref b1)]))
        obtain ⟨cq68, kq68, q68a, q68b, q68c⟩ := isOf hZ rfl S67.2.2.1
        obtain ⟨_, _, ⟨T68, L68, k68, n68⟩, -, X68, ⟨Lc68, hQ68, l68, y68, z68⟩, st68⟩ := X67.virtualBack hx (y := (⟨"com/example/brazier/brazier/keyspace/ChangeOrder", "changed", "(Lcom/example/brazier/brazier/keyspace/ChangeOrder$Link;)V"⟩ : MethodName)) (z := (⟨"com/example/brazier/brazier/keyspace/ChangeOrder", "changed", "(Lcom/example/brazier/brazier/keyspace/ChangeOrder$Link;)V"⟩ : MethodName)) hown (mvT hZ (hw _ (List.mem_of_getElem? (i := 75) rfl))) (mvT hZ (hw _ (List.mem_of_getElem? (i := 76) rfl))) (notFace_of_selects (args := #[]) (mvT hZ (hw _ (List.mem_of_getElem? (i := 78) rfl)))) (mvT hZ (hw _ (List.mem_of_getElem? (i := 78) rfl))) (mvT hZ (hw _ (List.mem_of_getElem? (i := 77) rfl))) (by decide) (backOf (W := 0) (rm13 l Z a0 hw [] 5 ad own_K b1 own_b101 own_a102 own_n103 own_w100 own_p104 3 4 T67.heap n0 S67.1 S67 sl wk (by decide) (by decide) (by decide) (fun _ => ⟨(own_wf1 (q := 1) (p := 2) (by decide) (by decide) (by decide) (by decide)), by decide⟩)) hZ (hw _ (List.mem_of_getElem? (i := 79) rfl)) (hw _ (List.mem_of_getElem? (i := 2) rfl)) (by decide) (by decide)) q68a q68c (g := (mkF m 330 #[.val (.int p0), .val (.int p1), .val (.ref b1), .val (.ref (ad 1)), .val (.ref (ad 2)), .val (.ref (ad 3)), .val (.ref (ad 4)), .val (.ref (ad 0)), .val (.int ((p0 &&& (2147483647 : Int32)) % (3 : Int32))), .val (.int ((p1 &&& (2147483647 : Int32)) % (3 : Int32))), .val (.ref (ad 3)), .val (.ref (ad 1)), .val (.int (1 : Int32))] [(.ref (ad 3)), (.ref b1)])) rfl (by rw [hml]; rfl) (Steps.refl _) (argsL := [(.ref (ad 3))]) (rest := []) (lenOf pd__Lcom_example_brazier_brazier_keyspace_ChangeOrder_Link__V rfl) rfl (by show 2 * 0 + _ ≤ _; exact Nat.le_of_eq rfl) (hb hby at_330) (fun _ _ => ⟨rfl, rfl, (by decide : 6 + 0 ≤ _), (by decide : 18 + 0 ≤ _)⟩)
        dsimp only [Pt.U, Pt.locs, Pt.cells, Pt.slots] at X68 l68 y68 z68 st68 hQ68
        subst l68 y68 z68
        obtain ⟨rfl, N68q, S68q⟩ := hQ68
        have N68 := Fr.app N67 N68q
        refine own_by (fun _ k => st68.trans k) ?_
        have S68 : own_S Z T68.heap n0 5 ad own_K b1 own_b105 own_a106 own_n107 own_w108 own_p104 := S68q
        show own_Fin p.tables e below _ (T68.setTop (mkF m 333 #[.val (.int p0), .val (.int p1), .val (.ref b1), .val (.ref (ad 1)), .val (.ref (ad 2)), .val (.ref (ad 3)), .val (.ref (ad 4)), .val (.ref (ad 0)), .val (.int ((p0 &&& (2147483647 : Int32)) % (3 : Int32))), .val (.int ((p1 &&& (2147483647 : Int32)) % (3 : Int32))), .val (.ref (ad 3)), .val (.ref (ad 1)), .val (.int (1 : Int32))] []))
        refine own_by (fun _ k => XS.aloadN X68.here hx rfl (hb hby at_333) rfl rfl k) ?_
        show own_Fin p.tables e below _ (T68.setTop (mkF m 334 #[.val (.int p0), .val (.int p1), .val (.ref b1), .val (.ref (ad 1)), .val (.ref (ad 2)), .val (.ref (ad 3)), .val (.ref (ad 4)), .val (.ref (ad 0)), .val (.int ((p0 &&& (2147483647 : Int32)) % (3 : Int32))), .val (.int ((p1 &&& (2147483647 : Int32)) % (3 : Int32))), .val (.ref (ad 3)), .val (.ref (ad 1)), .val (.int (1 : Int32))] [(.ref b1)]))
        refine own_by (fun _ k => XS.aload X68.here hx rfl (hb hby at_334) rfl rfl k) ?_
        show own_Fin p.tables e below _ (T68.setTop (mkF m 336 #[.val (.int p0), .val (.int p1), .val (.ref b1), .val (.ref (ad 1)), .val (.ref (ad 2)), .val (.ref (ad 3)), .val (.ref (ad 4)), .val (.ref (ad 0)), .val (.int ((p0 &&& (2147483647 : Int32)) % (3 : Int32))), .val (.int ((p1 &&& (2147483647 : Int32)) % (3 : Int32))), .val (.ref (ad 3)), .val (.ref (ad 1)), .val (.int (1 : Int32))] [(.ref (ad 4)), (.ref b1)]))
        obtain ⟨cq69, kq69, q69a, q69b, q69c⟩ := isOf hZ rfl S68.2.2.1
        obtain ⟨_, _, ⟨T69, L69, k69, n69⟩, -, X69, ⟨Lc69, hQ69, l69, y69, z69⟩, st69⟩ := X68.virtualBack hx (y := (⟨"com/example/brazier/brazier/keyspace/ChangeOrder", "after", "(Lcom/example/brazier/brazier/keyspace/ChangeOrder$Link;)Lcom/example/brazier/brazier/keyspace/ChangeOrder$Link;"⟩ : MethodName)) (z := (⟨"com/example/brazier/brazier/keyspace/ChangeOrder", "after", "(Lcom/example/brazier/brazier/keyspace/ChangeOrder$Link;)Lcom/example/brazier/brazier/keyspace/ChangeOrder$Link;"⟩ : MethodName)) hown (mvT hZ (hw _ (List.mem_of_getElem? (i := 44) rfl))) (mvT hZ (hw _ (List.mem_of_getElem? (i := 45) rfl))) (notFace_of_selects (args := #[]) (mvT hZ (hw _ (List.mem_of_getElem? (i := 47) rfl)))) (mvT hZ (hw _ (List.mem_of_getElem? (i := 47) rfl))) (mvT hZ (hw _ (List.mem_of_getElem? (i := 46) rfl))) (by decide) (backOf (W := 0) (rm7 l Z a0 hw [] 5 ad own_K b1 own_b105 own_a106 own_n107 own_w108 own_p104 4 T68.heap n0 S68.1 S68 sl wk (by decide)) hZ (hw _ (List.mem_of_getElem? (i := 48) rfl)) (hw _ (List.mem_of_getElem? (i := 2) rfl)) (by decide) (by decide)) q69a q69c (g := (mkF m 336 #[.val (.int p0), .val (.int p1), .val (.ref b1), .val (.ref (ad 1)), .val (.ref (ad 2)), .val (.ref (ad 3)), .val (.ref (ad 4)), .val (.ref (ad 0)), .val (.int ((p0 &&& (2147483647 : Int32)) % (3 : Int32))), .val (.int ((p1 &&& (2147483647 : Int32)) % (3 : Int32))), .val (.ref (ad 3)), .val (.ref (ad 1)), .val (.int (1 : Int32))] [(.ref (ad 4)), (.ref b1)])) rfl (by rw [hml]; rfl) (Steps.refl _) (argsL := [(.ref (ad 4))]) (rest := []) (lenOf pd__Lcom_example_brazier_brazier_keyspace_ChangeOrder_Link__Lcom_example_brazier_brazier_keyspace_ChangeOrder_Link_ rfl) rfl (by show 2 * 0 + _ ≤ _; exact Nat.le_of_eq rfl) (hb hby at_336) (fun _ _ => ⟨rfl, rfl, (by decide : 6 + 0 ≤ _), (by decide : 18 + 0 ≤ _)⟩)
        dsimp only [Pt.U, Pt.locs, Pt.cells, Pt.slots] at X69 l69 y69 z69 st69 hQ69
        subst l69 y69 z69
        obtain ⟨hv69, N69q, e69⟩ := hQ69
        obtain rfl := hv69.trans (congrArg some (show own_nx ad (own_a106 4) = (.ref (ad 3)) from (by rw [show own_a106 4 = some 3 from by decide]; rfl)))
        have N69 := Fr.app N68 N69q
        refine own_by (fun _ k => st69.trans k) ?_
        show own_Fin p.tables e below _ (T69.setTop (mkF m 339 #[.val (.int p0), .val (.int p1), .val (.ref b1), .val (.ref (ad 1)), .val (.ref (ad 2)), .val (.ref (ad 3)), .val (.ref (ad 4)), .val (.ref (ad 0)), .val (.int ((p0 &&& (2147483647 : Int32)) % (3 : Int32))), .val (.int ((p1 &&& (2147483647 : Int32)) % (3 : Int32))), .val (.ref (ad 3)), .val (.ref (ad 1)), .val (.int (1 : Int32))] [(.ref (ad 3))]))
        refine own_by (fun _ k => XS.aload X69.here hx rfl (hb hby at_339) rfl rfl k) ?_
        show own_Fin p.tables e below _ (T69.setTop (mkF m 341 #[.val (.int p0), .val (.int p1), .val (.ref b1), .val (.ref (ad 1)), .val (.ref (ad 2)), .val (.ref (ad 3)), .val (.ref (ad 4)), .val (.ref (ad 0)), .val (.int ((p0 &&& (2147483647 : Int32)) % (3 : Int32))), .val (.int ((p1 &&& (2147483647 : Int32)) % (3 : Int32))), .val (.ref (ad 3)), .val (.ref (ad 1)), .val (.int (1 : Int32))] [(.ref (ad 3)), (.ref (ad 3))]))
        refine own_by (fun _ k => Jvm.RoadKit.acmp (g := (mkF m 341 #[.val (.int p0), .val (.int p1), .val (.ref b1), .val (.ref (ad 1)), .val (.ref (ad 2)), .val (.ref (ad 3)), .val (.ref (ad 4)), .val (.ref (ad 0)), .val (.int ((p0 &&& (2147483647 : Int32)) % (3 : Int32))), .val (.int ((p1 &&& (2147483647 : Int32)) % (3 : Int32))), .val (.ref (ad 3)), .val (.ref (ad 1)), .val (.int (1 : Int32))] [(.ref (ad 3)), (.ref (ad 3))])) X69 hx rfl rfl rfl (pc0 := 341) (pc' := 344) (same := true) rfl (hb hby at_341) rfl (decide_eq_true rfl) (by decide) (by decide) k) ?_
        show own_Fin p.tables e below _ (T69.setTop (mkF m 344 #[.val (.int p0), .val (.int p1), .val (.ref b1), .val (.ref (ad 1)), .val (.ref (ad 2)), .val (.ref (ad 3)), .val (.ref (ad 4)), .val (.ref (ad 0)), .val (.int ((p0 &&& (2147483647 : Int32)) % (3 : Int32))), .val (.int ((p1 &&& (2147483647 : Int32)) % (3 : Int32))), .val (.ref (ad 3)), .val (.ref (ad 1)), .val (.int (1 : Int32))] []))
        refine own_by (fun _ k => XS.aloadN X69.here hx rfl (hb hby at_344) rfl rfl k) ?_
        show own_Fin p.tables e below _ (T69.setTop (mkF m 345 #[.val (.int p0), .val (.int p1), .val (.ref b1), .val (.ref (ad 1)), .val (.ref (ad 2)), .val (.ref (ad 3)), .val (.ref (ad 4)), .val (.ref (ad 0)), .val (.int ((p0 &&& (2147483647 : Int32)) % (3 : Int32))), .val (.int ((p1 &&& (2147483647 : Int32)) % (3 : Int32))), .val (.ref (ad 3)), .val (.ref (ad 1)), .val (.int (1 : Int32))] [(.ref b1)]))
        refine own_by (fun _ k => XS.aload X69.here hx rfl (hb hby at_345) rfl rfl k) ?_
        show own_Fin p.tables e below _ (T69.setTop (mkF m 347 #[.val (.int p0), .val (.int p1), .val (.ref b1), .val (.ref (ad 1)), .val (.ref (ad 2)), .val (.ref (ad 3)), .val (.ref (ad 4)), .val (.ref (ad 0)), .val (.int ((p0 &&& (2147483647 : Int32)) % (3 : Int32))), .val (.int ((p1 &&& (2147483647 : Int32)) % (3 : Int32))), .val (.ref (ad 3)), .val (.ref (ad 1)), .val (.int (1 : Int32))] [(.ref (ad 3)), (.ref b1)]))
        obtain ⟨cq70, kq70, q70a, q70b, q70c⟩ := isOf hZ e69 S68.2.2.1
        obtain ⟨_, _, ⟨T70, L70, k70, n70⟩, -, X70, ⟨Lc70, hQ70, l70, y70, z70⟩, st70⟩ := X69.virtualBack hx (y := (⟨"com/example/brazier/brazier/keyspace/ChangeOrder", "after", "(Lcom/example/brazier/brazier/keyspace/ChangeOrder$Link;)Lcom/example/brazier/brazier/keyspace/ChangeOrder$Link;"⟩ : MethodName)) (z := (⟨"com/example/brazier/brazier/keyspace/ChangeOrder", "after", "(Lcom/example/brazier/brazier/keyspace/ChangeOrder$Link;)Lcom/example/brazier/brazier/keyspace/ChangeOrder$Link;"⟩ : MethodName)) hown (mvT hZ (hw _ (List.mem_of_getElem? (i := 44) rfl))) (mvT hZ (hw _ (List.mem_of_getElem? (i := 45) rfl))) (notFace_of_selects (args := #[]) (mvT hZ (hw _ (List.mem_of_getElem? (i := 47) rfl)))) (mvT hZ (hw _ (List.mem_of_getElem? (i := 47) rfl))) (mvT hZ (hw _ (List.mem_of_getElem? (i := 46) rfl))) (by decide) (backOf (W := 0) (rm7 l Z a0 hw [] 5 ad own_K b1 own_b105 own_a106 own_n107 own_w108 own_p104 3 T68.heap n0 S68.1 S68 sl wk (by decide)) hZ (hw _ (List.mem_of_getElem? (i := 48) rfl)) (hw _ (List.mem_of_getElem? (i := 2) rfl)) (by decide) (by decide)) q70a q70c (g := (mkF m 347 #[.val (.int p0), .val (.int p1), .val (.ref b1), .val (.ref (ad 1)), .val (.ref (ad 2)), .val (.ref (ad 3)), .val (.ref (ad 4)), .val (.ref (ad 0)), .val (.int ((p0 &&& (2147483647 : Int32)) % (3 : Int32))), .val (.int ((p1 &&& (2147483647 : Int32)) % (3 : Int32))), .val (.ref (ad 3)), .val (.ref (ad 1)), .val (.int (1 : Int32))] [(.ref (ad 3)), (.ref b1)])) rfl (by rw [hml]; rfl) (Steps.refl _) (argsL := [(.ref (ad 3))]) (rest := []) (lenOf pd__Lcom_example_brazier_brazier_keyspace_ChangeOrder_Link__Lcom_example_brazier_brazier_keyspace_ChangeOrder_Link_ rfl) rfl (by show 2 * 0 + _ ≤ _; exact Nat.le_of_eq rfl) (hb hby at_347) (fun _ _ => ⟨rfl, e69, (by decide : 6 + 0 ≤ _), (by decide : 18 + 0 ≤ _)⟩)
        dsimp only [Pt.U, Pt.locs, Pt.cells, Pt.slots] at X70 l70 y70 z70 st70 hQ70
        subst l70 y70 z70
        obtain ⟨hv70, N70q, e70⟩ := hQ70
        obtain rfl := hv70.trans (congrArg some (show own_nx ad (own_a106 3) = (.ref (ad 0)) from (by rw [show own_a106 3 = some 0 from by decide]; rfl)))
        have N70 := Fr.app N69 N70q
        refine own_by (fun _ k => st70.trans k) ?_
        show own_Fin p.tables e below _ (T70.setTop (mkF m 350 #[.val (.int p0), .val (.int p1), .val (.ref b1), .val (.ref (ad 1)), .val (.ref (ad 2)), .val (.ref (ad 3)), .val (.ref (ad 4)), .val (.ref (ad 0)), .val (.int ((p0 &&& (2147483647 : Int32)) % (3 : Int32))), .val (.int ((p1 &&& (2147483647 : Int32)) % (3 : Int32))), .val (.ref (ad 3)), .val (.ref (ad 1)), .val (.int (1 : Int32))] [(.ref (ad 0))]))
        refine own_by (fun _ k => XS.aload X70.here hx rfl (hb hby at_350) rfl rfl k) ?_
        show own_Fin p.tables e below _ (T70.setTop (mkF m 352 #[.val (.int p0), .val (.int p1), .val (.ref b1), .val (.ref (ad 1)), .val (.ref (ad 2)), .val (.ref (ad 3)), .val (.ref (ad 4)), .val (.ref (ad 0)), .val (.int ((p0 &&& (2147483647 : Int32)) % (3 : Int32))), .val (.int ((p1 &&& (2147483647 : Int32)) % (3 : Int32))), .val (.ref (ad 3)), .val (.ref (ad 1)), .val (.int (1 : Int32))] [(.ref (ad 0)), (.ref (ad 0))]))
        refine own_by (fun _ k => Jvm.RoadKit.acmp (g := (mkF m 352 #[.val (.int p0), .val (.int p1), .val (.ref b1), .val (.ref (ad 1)), .val (.ref (ad 2)), .val (.ref (ad 3)), .val (.ref (ad 4)), .val (.ref (ad 0)), .val (.int ((p0 &&& (2147483647 : Int32)) % (3 : Int32))), .val (.int ((p1 &&& (2147483647 : Int32)) % (3 : Int32))), .val (.ref (ad 3)), .val (.ref (ad 1)), .val (.int (1 : Int32))] [(.ref (ad 0)), (.ref (ad 0))])) X70 hx rfl rfl rfl (pc0 := 352) (pc' := 355) (same := true) rfl (hb hby at_352) rfl (decide_eq_true rfl) (by decide) (by decide) k) ?_
        show own_Fin p.tables e below _ (T70.setTop (mkF m 355 #[.val (.int p0), .val (.int p1), .val (.ref b1), .val (.ref (ad 1)), .val (.ref (ad 2)), .val (.ref (ad 3)), .val (.ref (ad 4)), .val (.ref (ad 0)), .val (.int ((p0 &&& (2147483647 : Int32)) % (3 : Int32))), .val (.int ((p1 &&& (2147483647 : Int32)) % (3 : Int32))), .val (.ref (ad 3)), .val (.ref (ad 1)), .val (.int (1 : Int32))] []))
        refine own_by (fun _ k => XS.iconst X70.here hx rfl (hb hby at_355) k) ?_
        show own_Fin p.tables e below _ (T70.setTop (mkF m 356 #[.val (.int p0), .val (.int p1), .val (.ref b1), .val (.ref (ad 1)), .val (.ref (ad 2)), .val (.ref (ad 3)), .val (.ref (ad 4)), .val (.ref (ad 0)), .val (.int ((p0 &&& (2147483647 : Int32)) % (3 : Int32))), .val (.int ((p1 &&& (2147483647 : Int32)) % (3 : Int32))), .val (.ref (ad 3)), .val (.ref (ad 1)), .val (.int (1 : Int32))] [(.int (1 : Int32))]))
        refine own_by (fun _ k => XS.goto X70.here hx rfl (pc0 := 356) (pc' := 360) rfl (hb hby at_356) (by decide) (by decide) k) ?_
        show own_Fin p.tables e below _ (T70.setTop (mkF m 360 #[.val (.int p0), .val (.int p1), .val (.ref b1), .val (.ref (ad 1)), .val (.ref (ad 2)), .val (.ref (ad 3)), .val (.ref (ad 4)), .val (.ref (ad 0)), .val (.int ((p0 &&& (2147483647 : Int32)) % (3 : Int32))), .val (.int ((p1 &&& (2147483647 : Int32)) % (3 : Int32))), .val (.ref (ad 3)), .val (.ref (ad 1)), .val (.int (1 : Int32))] [(.int (1 : Int32))]))
        have ef : f0 p0 p1 = (1 : Int32) := by unfold f0; rw [if_neg hc15, if_neg hc39, if_pos hc63]
        exact own_retN X70 hx (t := .boolean) Bd.returns hlk (by simp) (hb hby at_360) (by decide) (by decide) ⟨by rw [ef]; rfl, N70⟩
      · refine own_by (fun _ k => XS.ifYes X14.here hx rfl (pc0 := 144) (pc' := 151) rfl (hb hby at_144) rfl ((if0 _ _).trans (feq hc63).2) (by decide) (by decide) k) ?_
        show own_Fin p.tables e below _ (T14.setTop (mkF m 151 #[.val (.int p0), .val (.int p1), .val (.ref b1), .val (.ref (ad 1)), .val (.ref (ad 2)), .val (.ref (ad 3)), .val (.ref (ad 4)), .val (.ref (ad 0)), .val (.int ((p0 &&& (2147483647 : Int32)) % (3 : Int32))), .val (.int ((p1 &&& (2147483647 : Int32)) % (3 : Int32))), .val (.ref (ad 3)), .unset, .unset] []))
        refine own_by (fun _ k => XS.iload X14.here hx rfl (hb hby at_151) rfl k) ?_
        show own_Fin p.tables e below _ (T14.setTop (mkF m 153 #[.val (.int p0), .val (.int p1), .val (.ref b1), .val (.ref (ad 1)), .val (.ref (ad 2)), .val (.ref (ad 3)), .val (.ref (ad 4)), .val (.ref (ad 0)), .val (.int ((p0 &&& (2147483647 : Int32)) % (3 : Int32))), .val (.int ((p1 &&& (2147483647 : Int32)) % (3 : Int32))), .val (.ref (ad 3)), .unset, .unset] [(.int ((p1 &&& (2147483647 : Int32)) % (3 : Int32)))]))
        refine own_by (fun _ k => XS.iconst X14.here hx rfl (hb hby at_153) k) ?_
        show own_Fin p.tables e below _ (T14.setTop (mkF m 154 #[.val (.int p0), .val (.int p1), .val (.ref b1), .val (.ref (ad 1)), .val (.ref (ad 2)), .val (.ref (ad 3)), .val (.ref (ad 4)), .val (.ref (ad 0)), .val (.int ((p0 &&& (2147483647 : Int32)) % (3 : Int32))), .val (.int ((p1 &&& (2147483647 : Int32)) % (3 : Int32))), .val (.ref (ad 3)), .unset, .unset] [(.int (1 : Int32)), (.int ((p1 &&& (2147483647 : Int32)) % (3 : Int32)))]))
        by_cases hc71 : ((p1 &&& (2147483647 : Int32)) % (3 : Int32)) = (1 : Int32)
        · refine own_by (fun _ k => XS.icmpNo X14.here hx rfl (hb hby at_154) rfl (teq hc71).2 k) ?_
          show own_Fin p.tables e below _ (T14.setTop (mkF m 157 #[.val (.int p0), .val (.int p1), .val (.ref b1), .val (.ref (ad 1)), .val (.ref (ad 2)), .val (.ref (ad 3)), .val (.ref (ad 4)), .val (.ref (ad 0)), .val (.int ((p0 &&& (2147483647 : Int32)) % (3 : Int32))), .val (.int ((p1 &&& (2147483647 : Int32)) % (3 : Int32))), .val (.ref (ad 3)), .unset, .unset] []))
          refine own_by (fun _ k => XS.aload X14.here hx rfl (hb hby at_157) rfl rfl k) ?_
          show own_Fin p.tables e below _ (T14.setTop (mkF m 159 #[.val (.int p0), .val (.int p1), .val (.ref b1), .val (.ref (ad 1)), .val (.ref (ad 2)), .val (.ref (ad 3)), .val (.ref (ad 4)), .val (.ref (ad 0)), .val (.int ((p0 &&& (2147483647 : Int32)) % (3 : Int32))), .val (.int ((p1 &&& (2147483647 : Int32)) % (3 : Int32))), .val (.ref (ad 3)), .unset, .unset] [(.ref (ad 2))]))
          refine own_by (fun _ k => XS.goto X14.here hx rfl (pc0 := 159) (pc' := 164) rfl (hb hby at_159) (by decide) (by decide) k) ?_
          show own_Fin p.tables e below _ (T14.setTop (mkF m 164 #[.val (.int p0), .val (.int p1), .val (.ref b1), .val (.ref (ad 1)), .val (.ref (ad 2)), .val (.ref (ad 3)), .val (.ref (ad 4)), .val (.ref (ad 0)), .val (.int ((p0 &&& (2147483647 : Int32)) % (3 : Int32))), .val (.int ((p1 &&& (2147483647 : Int32)) % (3 : Int32))), .val (.ref (ad 3)), .unset, .unset] [(.ref (ad 2))]))
          refine own_by (fun _ k => XS.astore X14.here hx rfl (hb hby at_164) rfl rfl (l' := #[.val (.int p0), .val (.int p1), .val (.ref b1), .val (.ref (ad 1)), .val (.ref (ad 2)), .val (.ref (ad 3)), .val (.ref (ad 4)), .val (.ref (ad 0)), .val (.int ((p0 &&& (2147483647 : Int32)) % (3 : Int32))), .val (.int ((p1 &&& (2147483647 : Int32)) % (3 : Int32))), .val (.ref (ad 3)), .val (.ref (ad 2)), .unset]) rfl k) ?_
          show own_Fin p.tables e below _ (T14.setTop (mkF m 166 #[.val (.int p0), .val (.int p1), .val (.ref b1), .val (.ref (ad 1)), .val (.ref (ad 2)), .val (.ref (ad 3)), .val (.ref (ad 4)), .val (.ref (ad 0)), .val (.int ((p0 &&& (2147483647 : Int32)) % (3 : Int32))), .val (.int ((p1 &&& (2147483647 : Int32)) % (3 : Int32))), .val (.ref (ad 3)), .val (.ref (ad 2)), .unset] []))
          refine own_by (fun _ k => XS.aloadN X14.here hx rfl (hb hby at_166) rfl rfl k) ?_
          show own_Fin p.tables e below _ (T14.setTop (mkF m 167 #[.val (.int p0), .val (.int p1), .val (.ref b1), .val (.ref (ad 1)), .val (.ref (ad 2)), .val (.ref (ad 3)), .val (.ref (ad 4)), .val (.ref (ad 0)), .val (.int ((p0 &&& (2147483647 : Int32)) % (3 : Int32))), .val (.int ((p1 &&& (2147483647 : Int32)) % (3 : Int32))), .val (.ref (ad 3)), .val (.ref (ad 2)), .unset] [(.ref b1)]))
          refine own_by (fun _ k => XS.aload X14.here hx rfl (hb hby at_167) rfl rfl k) ?_
          show own_Fin p.tables e below _ (T14.setTop (mkF m 169 #[.val (.int p0), .val (.int p1), .val (.ref b1), .val (.ref (ad 1)), .val (.ref (ad 2)), .val (.ref (ad 3)), .val (.ref (ad 4)), .val (.ref (ad 0)), .val (.int ((p0 &&& (2147483647 : Int32)) % (3 : Int32))), .val (.int ((p1 &&& (2147483647 : Int32)) % (3 : Int32))), .val (.ref (ad 3)), .val (.ref (ad 2)), .unset] [(.ref (ad 4)), (.ref b1)]))
          refine own_by (fun _ k => XS.aload X14.here hx rfl (hb hby at_169) rfl rfl k) ?_
          show own_Fin p.tables e below _ (T14.setTop (mkF m 171 #[.val (.int p0), .val (.int p1), .val (.ref b1), .val (.ref (ad 1)), .val (.ref (ad 2)), .val (.ref (ad 3)), .val (.ref (ad 4)), .val (.ref (ad 0)), .val (.int ((p0 &&& (2147483647 : Int32)) % (3 : Int32))), .val (.int ((p1 &&& (2147483647 : Int32)) % (3 : Int32))), .val (.ref (ad 3)), .val (.ref (ad 2)), .unset] [(.ref (ad 3)), (.ref (ad 4)), (.ref b1)]))
          obtain ⟨cq72, kq72, q72a, q72b, q72c⟩ := isOf hZ e14 S13.2.2.1
          obtain ⟨_, _, ⟨T72, L72, k72, n72⟩, -, X72, ⟨Lc72, hQ72, l72, y72, z72⟩, st72⟩ := X14.virtualBack hx (y := (⟨"com/example/brazier/brazier/keyspace/ChangeOrder", "passTo", "(Lcom/example/brazier/brazier/keyspace/ChangeOrder$Place;Lcom/example/brazier/brazier/keyspace/ChangeOrder$Link;)V"⟩ : MethodName)) (z := (⟨"com/example/brazier/brazier/keyspace/ChangeOrder", "passTo", "(Lcom/example/brazier/brazier/keyspace/ChangeOrder$Place;Lcom/example/brazier/brazier/keyspace/ChangeOrder$Link;)V"⟩ : MethodName)) hown (mvT hZ (hw _ (List.mem_of_getElem? (i := 50) rfl))) (mvT hZ (hw _ (List.mem_of_getElem? (i := 51) rfl))) (notFace_of_selects (args := #[]) (mvT hZ (hw _ (List.mem_of_getElem? (i := 53) rfl)))) (mvT hZ (hw _ (List.mem_of_getElem? (i := 53) rfl))) (mvT hZ (hw _ (List.mem_of_getElem? (i := 52) rfl))) (by decide) (backOf (W := 0) (rm8 l Z a0 hw [] 5 ad own_K b1 own_b9 own_a10 own_n11 own_w12 own_w0 4 3 2 T13.heap n0 S13.1 S13 sl wk (by decide) (by decide) (by decide) (own_wf0 (by decide)) (by decide)) hZ (hw _ (List.mem_of_getElem? (i := 54) rfl)) (hw _ (List.mem_of_getElem? (i := 2) rfl)) (by decide) (by decide)) q72a q72c (g := (mkF m 171 #[.val (.int p0), .val (.int p1), .val (.ref b1), .val (.ref (ad 1)), .val (.ref (ad 2)), .val (.ref (ad 3)), .val (.ref (ad 4)), .val (.ref (ad 0)), .val (.int ((p0 &&& (2147483647 : Int32)) % (3 : Int32))), .val (.int ((p1 &&& (2147483647 : Int32)) % (3 : Int32))), .val (.ref (ad 3)), .val (.ref (ad 2)), .unset] [(.ref (ad 3)), (.ref (ad 4)), (.ref b1)])) rfl (by rw [hml]; rfl) (Steps.refl _) (argsL := [(.ref (ad 4)), (.ref (ad 3))]) (rest := []) (lenOf pd__Lcom_example_brazier_brazier_keyspace_ChangeOrder_Place_Lcom_example_brazier_brazier_keyspace_ChangeOrder_Link__V rfl) rfl (by show 2 * 0 + _ ≤ _; exact Nat.le_of_eq rfl) (hb hby at_171) (fun _ _ => ⟨rfl, e14, (by decide : 6 + 0 ≤ _), (by decide : 18 + 0 ≤ _)⟩)
          dsimp only [Pt.U, Pt.locs, Pt.cells, Pt.slots] at X72 l72 y72 z72 st72 hQ72
          subst l72 y72 z72
          obtain ⟨rfl, N72q, S72q⟩ := hQ72
          have N72 := Fr.app N14 N72q
          refine own_by (fun _ k => st72.trans k) ?_
          have S72 : own_S Z T72.heap n0 5 ad own_K b1 own_b93 own_a94 own_n95 own_w12 own_p96 := S72q
          show own_Fin p.tables e below _ (T72.setTop (mkF m 174 #[.val (.int p0), .val (.int p1), .val (.ref b1), .val (.ref (ad 1)), .val (.ref (ad 2)), .val (.ref (ad 3)), .val (.ref (ad 4)), .val (.ref (ad 0)), .val (.int ((p0 &&& (2147483647 : Int32)) % (3 : Int32))), .val (.int ((p1 &&& (2147483647 : Int32)) % (3 : Int32))), .val (.ref (ad 3)), .val (.ref (ad 2)), .unset] []))
          refine own_by (fun _ k => XS.aloadN X72.here hx rfl (hb hby at_174) rfl rfl k) ?_
          show own_Fin p.tables e below _ (T72.setTop (mkF m 175 #[.val (.int p0), .val (.int p1), .val (.ref b1), .val (.ref (ad 1)), .val (.ref (ad 2)), .val (.ref (ad 3)), .val (.ref (ad 4)), .val (.ref (ad 0)), .val (.int ((p0 &&& (2147483647 : Int32)) % (3 : Int32))), .val (.int ((p1 &&& (2147483647 : Int32)) % (3 : Int32))), .val (.ref (ad 3)), .val (.ref (ad 2)), .unset] [(.ref b1)]))
          refine own_by (fun _ k => XS.aload X72.here hx rfl (hb hby at_175) rfl rfl k) ?_
          show own_Fin p.tables e below _ (T72.setTop (mkF m 177 #[.val (.int p0), .val (.int p1), .val (.ref b1), .val (.ref (ad 1)), .val (.ref (ad 2)), .val (.ref (ad 3)), .val (.ref (ad 4)), .val (.ref (ad 0)), .val (.int ((p0 &&& (2147483647 : Int32)) % (3 : Int32))), .val (.int ((p1 &&& (2147483647 : Int32)) % (3 : Int32))), .val (.ref (ad 3)), .val (.ref (ad 2)), .unset] [(.ref (ad 2)), (.ref b1)]))
          obtain ⟨cq73, kq73, q73a, q73b, q73c⟩ := isOf hZ rfl S72.2.2.1
          obtain ⟨_, _, ⟨T73, L73, k73, n73⟩, -, X73, ⟨Lc73, hQ73, l73, y73, z73⟩, st73⟩ := X72.virtualBack hx (y := (⟨"com/example/brazier/brazier/keyspace/ChangeOrder", "changed", "(Lcom/example/brazier/brazier/keyspace/ChangeOrder$Link;)V"⟩ : MethodName)) (z := (⟨"com/example/brazier/brazier/keyspace/ChangeOrder", "changed", "(Lcom/example/brazier/brazier/keyspace/ChangeOrder$Link;)V"⟩ : MethodName)) hown (mvT hZ (hw _ (List.mem_of_getElem? (i := 75) rfl))) (mvT hZ (hw _ (List.mem_of_getElem? (i := 76) rfl))) (notFace_of_selects (args := #[]) (mvT hZ (hw _ (List.mem_of_getElem? (i := 78) rfl)))) (mvT hZ (hw _ (List.mem_of_getElem? (i := 78) rfl))) (mvT hZ (hw _ (List.mem_of_getElem? (i := 77) rfl))) (by decide) (backOf (W := 0) (rm13 l Z a0 hw [] 5 ad own_K b1 own_b93 own_a94 own_n95 own_w12 own_p96 2 3 T72.heap n0 S72.1 S72 sl wk (by decide) (by decide) (by decide) (fun _ => ⟨(own_wf1 (q := 4) (p := 1) (by decide) (by decide) (by decide) (by decide)), by decide⟩)) hZ (hw _ (List.mem_of_getElem? (i := 79) rfl)) (hw _ (List.mem_of_getElem? (i := 2) rfl)) (by decide) (by decide)) q73a q73c (g := (mkF m 177 #[.val (.int p0), .val (.int p1), .val (.ref b1), .val (.ref (ad 1)), .val (.ref (ad 2)), .val (.ref (ad 3)), .val (.ref (ad 4)), .val (.ref (ad 0)), .val (.int ((p0 &&& (2147483647 : Int32)) % (3 : Int32))), .val (.int ((p1 &&& (2147483647 : Int32)) % (3 : Int32))), .val (.ref (ad 3)), .val (.ref (ad 2)), .unset] [(.ref (ad 2)), (.ref b1)])) rfl (by rw [hml]; rfl) (Steps.refl _) (argsL := [(.ref (ad 2))]) (rest := []) (lenOf pd__Lcom_example_brazier_brazier_keyspace_ChangeOrder_Link__V rfl) rfl (by show 2 * 0 + _ ≤ _; exact Nat.le_of_eq rfl) (hb hby at_177) (fun _ _ => ⟨rfl, rfl, (by decide : 6 + 0 ≤ _), (by decide : 18 + 0 ≤ _)⟩)
          dsimp only [Pt.U, Pt.locs, Pt.cells, Pt.slots] at X73 l73 y73 z73 st73 hQ73
          subst l73 y73 z73
          obtain ⟨rfl, N73q, S73q⟩ := hQ73
          have N73 := Fr.app N72 N73q
          refine own_by (fun _ k => st73.trans k) ?_
          have S73 : own_S Z T73.heap n0 5 ad own_K b1 own_b109 own_a110 own_n111 own_w112 own_p96 := S73q
          show own_Fin p.tables e below _ (T73.setTop (mkF m 180 #[.val (.int p0), .val (.int p1), .val (.ref b1), .val (.ref (ad 1)), .val (.ref (ad 2)), .val (.ref (ad 3)), .val (.ref (ad 4)), .val (.ref (ad 0)), .val (.int ((p0 &&& (2147483647 : Int32)) % (3 : Int32))), .val (.int ((p1 &&& (2147483647 : Int32)) % (3 : Int32))), .val (.ref (ad 3)), .val (.ref (ad 2)), .unset] []))
          refine own_by (fun _ k => XS.iload X73.here hx rfl (hb hby at_180) rfl k) ?_
          show own_Fin p.tables e below _ (T73.setTop (mkF m 182 #[.val (.int p0), .val (.int p1), .val (.ref b1), .val (.ref (ad 1)), .val (.ref (ad 2)), .val (.ref (ad 3)), .val (.ref (ad 4)), .val (.ref (ad 0)), .val (.int ((p0 &&& (2147483647 : Int32)) % (3 : Int32))), .val (.int ((p1 &&& (2147483647 : Int32)) % (3 : Int32))), .val (.ref (ad 3)), .val (.ref (ad 2)), .unset] [(.int ((p0 &&& (2147483647 : Int32)) % (3 : Int32)))]))
          refine own_by (fun _ k => XS.ifYes X73.here hx rfl (pc0 := 182) (pc' := 203) rfl (hb hby at_182) rfl ((if0 _ _).trans (feq hc15).2) (by decide) (by decide) k) ?_
          show own_Fin p.tables e below _ (T73.setTop (mkF m 203 #[.val (.int p0), .val (.int p1), .val (.ref b1), .val (.ref (ad 1)), .val (.ref (ad 2)), .val (.ref (ad 3)), .val (.ref (ad 4)), .val (.ref (ad 0)), .val (.int ((p0 &&& (2147483647 : Int32)) % (3 : Int32))), .val (.int ((p1 &&& (2147483647 : Int32)) % (3 : Int32))), .val (.ref (ad 3)), .val (.ref (ad 2)), .unset] []))
          refine own_by (fun _ k => XS.iload X73.here hx rfl (hb hby at_203) rfl k) ?_
          show own_Fin p.tables e below _ (T73.setTop (mkF m 205 #[.val (.int p0), .val (.int p1), .val (.ref b1), .val (.ref (ad 1)), .val (.ref (ad 2)), .val (.ref (ad 3)), .val (.ref (ad 4)), .val (.ref (ad 0)), .val (.int ((p0 &&& (2147483647 : Int32)) % (3 : Int32))), .val (.int ((p1 &&& (2147483647 : Int32)) % (3 : Int32))), .val (.ref (ad 3)), .val (.ref (ad 2)), .unset] [(.int ((p0 &&& (2147483647 : Int32)) % (3 : Int32)))]))
          refine own_by (fun _ k => XS.iconst X73.here hx rfl (hb hby at_205) k) ?_
          show own_Fin p.tables e below _ (T73.setTop (mkF m 206 #[.val (.int p0), .val (.int p1), .val (.ref b1), .val (.ref (ad 1)), .val (.ref (ad 2)), .val (.ref (ad 3)), .val (.ref (ad 4)), .val (.ref (ad 0)), .val (.int ((p0 &&& (2147483647 : Int32)) % (3 : Int32))), .val (.int ((p1 &&& (2147483647 : Int32)) % (3 : Int32))), .val (.ref (ad 3)), .val (.ref (ad 2)), .unset] [(.int (1 : Int32)), (.int ((p0 &&& (2147483647 : Int32)) % (3 : Int32)))]))
          refine own_by (fun _ k => XS.icmpYes X73.here hx rfl (pc0 := 206) (pc' := 250) rfl (hb hby at_206) rfl (feq hc39).2 (by decide) (by decide) k) ?_
          show own_Fin p.tables e below _ (T73.setTop (mkF m 250 #[.val (.int p0), .val (.int p1), .val (.ref b1), .val (.ref (ad 1)), .val (.ref (ad 2)), .val (.ref (ad 3)), .val (.ref (ad 4)), .val (.ref (ad 0)), .val (.int ((p0 &&& (2147483647 : Int32)) % (3 : Int32))), .val (.int ((p1 &&& (2147483647 : Int32)) % (3 : Int32))), .val (.ref (ad 3)), .val (.ref (ad 2)), .unset] []))
          refine own_by (fun _ k => XS.iload X73.here hx rfl (hb hby at_250) rfl k) ?_
          show own_Fin p.tables e below _ (T73.setTop (mkF m 252 #[.val (.int p0), .val (.int p1), .val (.ref b1), .val (.ref (ad 1)), .val (.ref (ad 2)), .val (.ref (ad 3)), .val (.ref (ad 4)), .val (.ref (ad 0)), .val (.int ((p0 &&& (2147483647 : Int32)) % (3 : Int32))), .val (.int ((p1 &&& (2147483647 : Int32)) % (3 : Int32))), .val (.ref (ad 3)), .val (.ref (ad 2)), .unset] [(.int ((p1 &&& (2147483647 : Int32)) % (3 : Int32)))]))
          refine own_by (fun _ k => XS.ifYes X73.here hx rfl (pc0 := 252) (pc' := 273) rfl (hb hby at_252) rfl ((if0 _ _).trans (feq hc63).2) (by decide) (by decide) k) ?_
          show own_Fin p.tables e below _ (T73.setTop (mkF m 273 #[.val (.int p0), .val (.int p1), .val (.ref b1), .val (.ref (ad 1)), .val (.ref (ad 2)), .val (.ref (ad 3)), .val (.ref (ad 4)), .val (.ref (ad 0)), .val (.int ((p0 &&& (2147483647 : Int32)) % (3 : Int32))), .val (.int ((p1 &&& (2147483647 : Int32)) % (3 : Int32))), .val (.ref (ad 3)), .val (.ref (ad 2)), .unset] []))
          refine own_by (fun _ k => XS.iload X73.here hx rfl (hb hby at_273) rfl k) ?_
          show own_Fin p.tables e below _ (T73.setTop (mkF m 275 #[.val (.int p0), .val (.int p1), .val (.ref b1), .val (.ref (ad 1)), .val (.ref (ad 2)), .val (.ref (ad 3)), .val (.ref (ad 4)), .val (.ref (ad 0)), .val (.int ((p0 &&& (2147483647 : Int32)) % (3 : Int32))), .val (.int ((p1 &&& (2147483647 : Int32)) % (3 : Int32))), .val (.ref (ad 3)), .val (.ref (ad 2)), .unset] [(.int ((p1 &&& (2147483647 : Int32)) % (3 : Int32)))]))
          refine own_by (fun _ k => XS.iconst X73.here hx rfl (hb hby at_275) k) ?_
          show own_Fin p.tables e below _ (T73.setTop (mkF m 276 #[.val (.int p0), .val (.int p1), .val (.ref b1), .val (.ref (ad 1)), .val (.ref (ad 2)), .val (.ref (ad 3)), .val (.ref (ad 4)), .val (.ref (ad 0)), .val (.int ((p0 &&& (2147483647 : Int32)) % (3 : Int32))), .val (.int ((p1 &&& (2147483647 : Int32)) % (3 : Int32))), .val (.ref (ad 3)), .val (.ref (ad 2)), .unset] [(.int (1 : Int32)), (.int ((p1 &&& (2147483647 : Int32)) % (3 : Int32)))]))
          refine own_by (fun _ k => XS.icmpNo X73.here hx rfl (hb hby at_276) rfl (teq hc71).2 k) ?_
          show own_Fin p.tables e below _ (T73.setTop (mkF m 279 #[.val (.int p0), .val (.int p1), .val (.ref b1), .val (.ref (ad 1)), .val (.ref (ad 2)), .val (.ref (ad 3)), .val (.ref (ad 4)), .val (.ref (ad 0)), .val (.int ((p0 &&& (2147483647 : Int32)) % (3 : Int32))), .val (.int ((p1 &&& (2147483647 : Int32)) % (3 : Int32))), .val (.ref (ad 3)), .val (.ref (ad 2)), .unset] []))
          refine own_by (fun _ k => XS.aloadN X73.here hx rfl (hb hby at_279) rfl rfl k) ?_
          show own_Fin p.tables e below _ (T73.setTop (mkF m 280 #[.val (.int p0), .val (.int p1), .val (.ref b1), .val (.ref (ad 1)), .val (.ref (ad 2)), .val (.ref (ad 3)), .val (.ref (ad 4)), .val (.ref (ad 0)), .val (.int ((p0 &&& (2147483647 : Int32)) % (3 : Int32))), .val (.int ((p1 &&& (2147483647 : Int32)) % (3 : Int32))), .val (.ref (ad 3)), .val (.ref (ad 2)), .unset] [(.ref b1)]))
          refine own_by (fun _ k => XS.aload X73.here hx rfl (hb hby at_280) rfl rfl k) ?_
          show own_Fin p.tables e below _ (T73.setTop (mkF m 282 #[.val (.int p0), .val (.int p1), .val (.ref b1), .val (.ref (ad 1)), .val (.ref (ad 2)), .val (.ref (ad 3)), .val (.ref (ad 4)), .val (.ref (ad 0)), .val (.int ((p0 &&& (2147483647 : Int32)) % (3 : Int32))), .val (.int ((p1 &&& (2147483647 : Int32)) % (3 : Int32))), .val (.ref (ad 3)), .val (.ref (ad 2)), .unset] [(.ref (ad 0)), (.ref b1)]))
          refine own_by (fun _ k => XS.aloadN X73.here hx rfl (hb hby at_282) rfl rfl k) ?_
          show own_Fin p.tables e below _ (T73.setTop (mkF m 283 #[.val (.int p0), .val (.int p1), .val (.ref b1), .val (.ref (ad 1)), .val (.ref (ad 2)), .val (.ref (ad 3)), .val (.ref (ad 4)), .val (.ref (ad 0)), .val (.int ((p0 &&& (2147483647 : Int32)) % (3 : Int32))), .val (.int ((p1 &&& (2147483647 : Int32)) % (3 : Int32))), .val (.ref (ad 3)), .val (.ref (ad 2)), .unset] [(.ref (ad 1)), (.ref (ad 0)), (.ref b1)]))
          refine own_by (fun _ k => XS.aload X73.here hx rfl (hb hby at_283) rfl rfl k) ?_
          show own_Fin p.tables e below _ (T73.setTop (mkF m 285 #[.val (.int p0), .val (.int p1), .val (.ref b1), .val (.ref (ad 1)), .val (.ref (ad 2)), .val (.ref (ad 3)), .val (.ref (ad 4)), .val (.ref (ad 0)), .val (.int ((p0 &&& (2147483647 : Int32)) % (3 : Int32))), .val (.int ((p1 &&& (2147483647 : Int32)) % (3 : Int32))), .val (.ref (ad 3)), .val (.ref (ad 2)), .unset] [(.ref (ad 4)), (.ref (ad 1)), (.ref (ad 0)), (.ref b1)]))
          refine own_by (fun _ k => XS.aload X73.here hx rfl (hb hby at_285) rfl rfl k) ?_
          show own_Fin p.tables e below _ (T73.setTop (mkF m 287 #[.val (.int p0), .val (.int p1), .val (.ref b1), .val (.ref (ad 1)), .val (.ref (ad 2)), .val (.ref (ad 3)), .val (.ref (ad 4)), .val (.ref (ad 0)), .val (.int ((p0 &&& (2147483647 : Int32)) % (3 : Int32))), .val (.int ((p1 &&& (2147483647 : Int32)) % (3 : Int32))), .val (.ref (ad 3)), .val (.ref (ad 2)), .unset] [(.ref (ad 3)), (.ref (ad 4)), (.ref (ad 1)), (.ref (ad 0)), (.ref b1)]))
          refine own_by (fun _ k => XS.aload X73.here hx rfl (hb hby at_287) rfl rfl k) ?_
          show own_Fin p.tables e below _ (T73.setTop (mkF m 289 #[.val (.int p0), .val (.int p1), .val (.ref b1), .val (.ref (ad 1)), .val (.ref (ad 2)), .val (.ref (ad 3)), .val (.ref (ad 4)), .val (.ref (ad 0)), .val (.int ((p0 &&& (2147483647 : Int32)) % (3 : Int32))), .val (.int ((p1 &&& (2147483647 : Int32)) % (3 : Int32))), .val (.ref (ad 3)), .val (.ref (ad 2)), .unset] [(.ref (ad 2)), (.ref (ad 3)), (.ref (ad 4)), (.ref (ad 1)), (.ref (ad 0)), (.ref b1)]))
          obtain ⟨_, _, ⟨T74, L74, k74, n74⟩, -, X74, ⟨Lc74, hQ74, l74, y74, z74⟩, st74⟩ := Jvm.LawKit.callS X73 hx (y := (⟨"com/example/brazier/brazier/keyspace/ChangeOrderAddPinLaw", "ringIs", "(Lcom/example/brazier/brazier/keyspace/ChangeOrder;Lcom/example/brazier/brazier/keyspace/ChangeOrder$Link;Lcom/example/brazier/brazier/keyspace/ChangeOrder$Link;Lcom/example/brazier/brazier/keyspace/ChangeOrder$Link;Lcom/example/brazier/brazier/keyspace/ChangeOrder$Link;Lcom/example/brazier/brazier/keyspace/ChangeOrder$Link;)Z"⟩ : MethodName)) hown (mvT hZ (hw _ (List.mem_of_getElem? (i := 80) rfl))) (mvT hZ (hw _ (List.mem_of_getElem? (i := 81) rfl))) (mvT hZ (hw _ (List.mem_of_getElem? (i := 82) rfl))) (mvT hZ (hw _ (List.mem_of_getElem? (i := 83) rfl))) (by decide) (backOf (W := 0) (rm14 l Z a0 hw [] 5 ad own_K b1 own_b109 own_a110 own_n111 own_w112 own_p96 0 1 4 3 2 T73.heap n0 S73.1 S73 sl wk (by decide) (by decide) (by decide) (by decide) (by decide) (by decide) (by decide) (by decide) (by decide) (by decide)) hZ (hw _ (List.mem_of_getElem? (i := 83) rfl)) (hw _ (List.mem_of_getElem? (i := 82) rfl)) (by decide) (by decide)) (g := (mkF m 289 #[.val (.int p0), .val (.int p1), .val (.ref b1), .val (.ref (ad 1)), .val (.ref (ad 2)), .val (.ref (ad 3)), .val (.ref (ad 4)), .val (.ref (ad 0)), .val (.int ((p0 &&& (2147483647 : Int32)) % (3 : Int32))), .val (.int ((p1 &&& (2147483647 : Int32)) % (3 : Int32))), .val (.ref (ad 3)), .val (.ref (ad 2)), .unset] [(.ref (ad 2)), (.ref (ad 3)), (.ref (ad 4)), (.ref (ad 1)), (.ref (ad 0)), (.ref b1)])) rfl (by rw [hml]; rfl) (argsL := [(.ref b1), (.ref (ad 0)), (.ref (ad 1)), (.ref (ad 4)), (.ref (ad 3)), (.ref (ad 2))]) (rest := []) (lenOf pd__Lcom_example_brazier_brazier_keyspace_ChangeOrder_Lcom_example_brazier_brazier_keyspace_ChangeOrder_Link_Lcom_example_brazier_brazier_keyspace_ChangeOrder_Link_Lcom_example_brazier_brazier_keyspace_ChangeOrder_Link_Lcom_example_brazier_brazier_keyspace_ChangeOrder_Link_Lcom_example_brazier_brazier_keyspace_ChangeOrder_Link__Z rfl) rfl (by show 2 * 0 + _ ≤ _; exact Nat.le_of_eq rfl) (hb hby at_289) (fun _ _ => ⟨rfl, rfl, (by decide : 6 + 0 ≤ _), (by decide : 18 + 0 ≤ _)⟩)
          dsimp only [Pt.U, Pt.locs, Pt.cells, Pt.slots] at X74 l74 y74 z74 st74 hQ74
          subst l74 y74 z74
          obtain ⟨rfl, N74q, e74⟩ := hQ74
          have N74 := Fr.app N73 N74q
          refine own_by st74 ?_
          show own_Fin p.tables e below _ (T74.setTop (mkF m 292 #[.val (.int p0), .val (.int p1), .val (.ref b1), .val (.ref (ad 1)), .val (.ref (ad 2)), .val (.ref (ad 3)), .val (.ref (ad 4)), .val (.ref (ad 0)), .val (.int ((p0 &&& (2147483647 : Int32)) % (3 : Int32))), .val (.int ((p1 &&& (2147483647 : Int32)) % (3 : Int32))), .val (.ref (ad 3)), .val (.ref (ad 2)), .unset] [(.int (1 : Int32))]))
          refine own_by (fun _ k => XS.istore X74.here hx rfl (hb hby at_292) rfl (l' := #[.val (.int p0), .val (.int p1), .val (.ref b1), .val (.ref (ad 1)), .val (.ref (ad 2)), .val (.ref (ad 3)), .val (.ref (ad 4)), .val (.ref (ad 0)), .val (.int ((p0 &&& (2147483647 : Int32)) % (3 : Int32))), .val (.int ((p1 &&& (2147483647 : Int32)) % (3 : Int32))), .val (.ref (ad 3)), .val (.ref (ad 2)), .val (.int (1 : Int32))]) rfl k) ?_
          show own_Fin p.tables e below _ (T74.setTop (mkF m 294 #[.val (.int p0), .val (.int p1), .val (.ref b1), .val (.ref (ad 1)), .val (.ref (ad 2)), .val (.ref (ad 3)), .val (.ref (ad 4)), .val (.ref (ad 0)), .val (.int ((p0 &&& (2147483647 : Int32)) % (3 : Int32))), .val (.int ((p1 &&& (2147483647 : Int32)) % (3 : Int32))), .val (.ref (ad 3)), .val (.ref (ad 2)), .val (.int (1 : Int32))] []))
          refine own_by (fun _ k => XS.goto X74.here hx rfl (pc0 := 294) (pc' := 312) rfl (hb hby at_294) (by decide) (by decide) k) ?_
          show own_Fin p.tables e below _ (T74.setTop (mkF m 312 #[.val (.int p0), .val (.int p1), .val (.ref b1), .val (.ref (ad 1)), .val (.ref (ad 2)), .val (.ref (ad 3)), .val (.ref (ad 4)), .val (.ref (ad 0)), .val (.int ((p0 &&& (2147483647 : Int32)) % (3 : Int32))), .val (.int ((p1 &&& (2147483647 : Int32)) % (3 : Int32))), .val (.ref (ad 3)), .val (.ref (ad 2)), .val (.int (1 : Int32))] []))
          refine own_by (fun _ k => XS.iload X74.here hx rfl (hb hby at_312) rfl k) ?_
          show own_Fin p.tables e below _ (T74.setTop (mkF m 314 #[.val (.int p0), .val (.int p1), .val (.ref b1), .val (.ref (ad 1)), .val (.ref (ad 2)), .val (.ref (ad 3)), .val (.ref (ad 4)), .val (.ref (ad 0)), .val (.int ((p0 &&& (2147483647 : Int32)) % (3 : Int32))), .val (.int ((p1 &&& (2147483647 : Int32)) % (3 : Int32))), .val (.ref (ad 3)), .val (.ref (ad 2)), .val (.int (1 : Int32))] [(.int (1 : Int32))]))
          refine own_by (fun _ k => XS.ifYes X74.here hx rfl (pc0 := 314) (pc' := 319) rfl (hb hby at_314) rfl ((if0 _ _).trans (feq (by decide)).2) (by decide) (by decide) k) ?_
          show own_Fin p.tables e below _ (T74.setTop (mkF m 319 #[.val (.int p0), .val (.int p1), .val (.ref b1), .val (.ref (ad 1)), .val (.ref (ad 2)), .val (.ref (ad 3)), .val (.ref (ad 4)), .val (.ref (ad 0)), .val (.int ((p0 &&& (2147483647 : Int32)) % (3 : Int32))), .val (.int ((p1 &&& (2147483647 : Int32)) % (3 : Int32))), .val (.ref (ad 3)), .val (.ref (ad 2)), .val (.int (1 : Int32))] []))
          refine own_by (fun _ k => XS.aloadN X74.here hx rfl (hb hby at_319) rfl rfl k) ?_
          show own_Fin p.tables e below _ (T74.setTop (mkF m 320 #[.val (.int p0), .val (.int p1), .val (.ref b1), .val (.ref (ad 1)), .val (.ref (ad 2)), .val (.ref (ad 3)), .val (.ref (ad 4)), .val (.ref (ad 0)), .val (.int ((p0 &&& (2147483647 : Int32)) % (3 : Int32))), .val (.int ((p1 &&& (2147483647 : Int32)) % (3 : Int32))), .val (.ref (ad 3)), .val (.ref (ad 2)), .val (.int (1 : Int32))] [(.ref b1)]))
          refine own_by (fun _ k => XS.aload X74.here hx rfl (hb hby at_320) rfl rfl k) ?_
          show own_Fin p.tables e below _ (T74.setTop (mkF m 322 #[.val (.int p0), .val (.int p1), .val (.ref b1), .val (.ref (ad 1)), .val (.ref (ad 2)), .val (.ref (ad 3)), .val (.ref (ad 4)), .val (.ref (ad 0)), .val (.int ((p0 &&& (2147483647 : Int32)) % (3 : Int32))), .val (.int ((p1 &&& (2147483647 : Int32)) % (3 : Int32))), .val (.ref (ad 3)), .val (.ref (ad 2)), .val (.int (1 : Int32))] [(.ref (ad 4)), (.ref b1)]))
          refine own_by (fun _ k => XS.aload X74.here hx rfl (hb hby at_322) rfl rfl k) ?_
          show own_Fin p.tables e below _ (T74.setTop (mkF m 324 #[.val (.int p0), .val (.int p1), .val (.ref b1), .val (.ref (ad 1)), .val (.ref (ad 2)), .val (.ref (ad 3)), .val (.ref (ad 4)), .val (.ref (ad 0)), .val (.int ((p0 &&& (2147483647 : Int32)) % (3 : Int32))), .val (.int ((p1 &&& (2147483647 : Int32)) % (3 : Int32))), .val (.ref (ad 3)), .val (.ref (ad 2)), .val (.int (1 : Int32))] [(.ref (ad 0)), (.ref (ad 4)), (.ref b1)]))
          obtain ⟨cq75, kq75, q75a, q75b, q75c⟩ := isOf hZ e74 S73.2.2.1
          obtain ⟨_, _, ⟨T75, L75, k75, n75⟩, -, X75, ⟨Lc75, hQ75, l75, y75, z75⟩, st75⟩ := X74.virtualBack hx (y := (⟨"com/example/brazier/brazier/keyspace/ChangeOrder", "passTo", "(Lcom/example/brazier/brazier/keyspace/ChangeOrder$Place;Lcom/example/brazier/brazier/keyspace/ChangeOrder$Link;)V"⟩ : MethodName)) (z := (⟨"com/example/brazier/brazier/keyspace/ChangeOrder", "passTo", "(Lcom/example/brazier/brazier/keyspace/ChangeOrder$Place;Lcom/example/brazier/brazier/keyspace/ChangeOrder$Link;)V"⟩ : MethodName)) hown (mvT hZ (hw _ (List.mem_of_getElem? (i := 50) rfl))) (mvT hZ (hw _ (List.mem_of_getElem? (i := 51) rfl))) (notFace_of_selects (args := #[]) (mvT hZ (hw _ (List.mem_of_getElem? (i := 53) rfl)))) (mvT hZ (hw _ (List.mem_of_getElem? (i := 53) rfl))) (mvT hZ (hw _ (List.mem_of_getElem? (i := 52) rfl))) (by decide) (backOf (W := 0) (rm8 l Z a0 hw [] 5 ad own_K b1 own_b109 own_a110 own_n111 own_w112 own_p96 4 0 2 T73.heap n0 S73.1 S73 sl wk (by decide) (by decide) (by decide) (own_wf1 (q := 3) (p := 1) (by decide) (by decide) (by decide) (by decide)) (by decide)) hZ (hw _ (List.mem_of_getElem? (i := 54) rfl)) (hw _ (List.mem_of_getElem? (i := 2) rfl)) (by decide) (by decide)) q75a q75c (g := (mkF m 324 #[.val (.int p0), .val (.int p1), .val (.ref b1), .val (.ref (ad 1)), .val (.ref (ad 2)), .val (.ref (ad 3)), .val (.ref (ad 4)), .val (.ref (ad 0)), .val (.int ((p0 &&& (2147483647 : Int32)) % (3 : Int32))), .val (.int ((p1 &&& (2147483647 : Int32)) % (3 : Int32))), .val (.ref (ad 3)), .val (.ref (ad 2)), .val (.int (1 : Int32))] [(.ref (ad 0)), (.ref (ad 4)), (.ref b1)])) rfl (by rw [hml]; rfl) (Steps.refl _) (argsL := [(.ref (ad 4)), (.ref (ad 0))]) (rest := []) (lenOf pd__Lcom_example_brazier_brazier_keyspace_ChangeOrder_Place_Lcom_example_brazier_brazier_keyspace_ChangeOrder_Link__V rfl) rfl (by show 2 * 0 + _ ≤ _; exact Nat.le_of_eq rfl) (hb hby at_324) (fun _ _ => ⟨rfl, e74, (by decide : 6 + 0 ≤ _), (by decide : 18 + 0 ≤ _)⟩)
          dsimp only [Pt.U, Pt.locs, Pt.cells, Pt.slots] at X75 l75 y75 z75 st75 hQ75
          subst l75 y75 z75
          obtain ⟨rfl, N75q, S75q⟩ := hQ75
          have N75 := Fr.app N74 N75q
          refine own_by (fun _ k => st75.trans k) ?_
          have S75 : own_S Z T75.heap n0 5 ad own_K b1 own_b113 own_a114 own_n115 own_w112 own_p116 := S75q
          show own_Fin p.tables e below _ (T75.setTop (mkF m 327 #[.val (.int p0), .val (.int p1), .val (.ref b1), .val (.ref (ad 1)), .val (.ref (ad 2)), .val (.ref (ad 3)), .val (.ref (ad 4)), .val (.ref (ad 0)), .val (.int ((p0 &&& (2147483647 : Int32)) % (3 : Int32))), .val (.int ((p1 &&& (2147483647 : Int32)) % (3 : Int32))), .val (.ref (ad 3)), .val (.ref (ad 2)), .val (.int (1 : Int32))] []))
          refine own_by (fun _ k => XS.aloadN X75.here hx rfl (hb hby at_327) rfl rfl k) ?_
          show own_Fin p.tables e below _ (T75.setTop (mkF m 328 #[.val (.int p0), .val (.int p1), .val (.ref b1), .val (.ref (ad 1)), .val (.ref (ad 2)), .val (.ref (ad 3)), .val (.ref (ad 4)), .val (.ref (ad 0)), .val (.int ((p0 &&& (2147483647 : Int32)) % (3 : Int32))), .val (.int ((p1 &&& (2147483647 : Int32)) % (3 : Int32))), .val (.ref (ad 3)), .val (.ref (ad 2)), .val (.int (1 : Int32))] [(.ref b1)]))
          refine own_by (fun _ k => XS.aload X75.here hx rfl (hb hby at_328) rfl rfl k) ?_
          show own_Fin p.tables e below _ (T75.setTop (mkF m 330 #[.val (.int p0), .val (.int p1), .val (.ref b1), .val (.ref (ad 1)), .val (.ref (ad 2)), .val (.ref (ad 3)), .val (.ref (ad 4)), .val (.ref (ad 0)), .val (.int ((p0 &&& (2147483647 : Int32)) % (3 : Int32))), .val (.int ((p1 &&& (2147483647 : Int32)) % (3 : Int32))), .val (.ref (ad 3)), .val (.ref (ad 2)), .val (.int (1 : Int32))] [(.ref (ad 3)), (.ref b1)]))
          obtain ⟨cq76, kq76, q76a, q76b, q76c⟩ := isOf hZ rfl S75.2.2.1
          obtain ⟨_, _, ⟨T76, L76, k76, n76⟩, -, X76, ⟨Lc76, hQ76, l76, y76, z76⟩, st76⟩ := X75.virtualBack hx (y := (⟨"com/example/brazier/brazier/keyspace/ChangeOrder", "changed", "(Lcom/example/brazier/brazier/keyspace/ChangeOrder$Link;)V"⟩ : MethodName)) (z := (⟨"com/example/brazier/brazier/keyspace/ChangeOrder", "changed", "(Lcom/example/brazier/brazier/keyspace/ChangeOrder$Link;)V"⟩ : MethodName)) hown (mvT hZ (hw _ (List.mem_of_getElem? (i := 75) rfl))) (mvT hZ (hw _ (List.mem_of_getElem? (i := 76) rfl))) (notFace_of_selects (args := #[]) (mvT hZ (hw _ (List.mem_of_getElem? (i := 78) rfl)))) (mvT hZ (hw _ (List.mem_of_getElem? (i := 78) rfl))) (mvT hZ (hw _ (List.mem_of_getElem? (i := 77) rfl))) (by decide) (backOf (W := 0) (rm13 l Z a0 hw [] 5 ad own_K b1 own_b113 own_a114 own_n115 own_w112 own_p116 3 4 T75.heap n0 S75.1 S75 sl wk (by decide) (by decide) (by decide) (fun _ => ⟨(own_wf1 (q := 2) (p := 1) (by decide) (by decide) (by decide) (by decide)), by decide⟩)) hZ (hw _ (List.mem_of_getElem? (i := 79) rfl)) (hw _ (List.mem_of_getElem? (i := 2) rfl)) (by decide) (by decide)) q76a q76c (g := (mkF m 330 #[.val (.int p0), .val (.int p1), .val (.ref b1), .val (.ref (ad 1)), .val (.ref (ad 2)), .val (.ref (ad 3)), .val (.ref (ad 4)), .val (.ref (ad 0)), .val (.int ((p0 &&& (2147483647 : Int32)) % (3 : Int32))), .val (.int ((p1 &&& (2147483647 : Int32)) % (3 : Int32))), .val (.ref (ad 3)), .val (.ref (ad 2)), .val (.int (1 : Int32))] [(.ref (ad 3)), (.ref b1)])) rfl (by rw [hml]; rfl) (Steps.refl _) (argsL := [(.ref (ad 3))]) (rest := []) (lenOf pd__Lcom_example_brazier_brazier_keyspace_ChangeOrder_Link__V rfl) rfl (by show 2 * 0 + _ ≤ _; exact Nat.le_of_eq rfl) (hb hby at_330) (fun _ _ => ⟨rfl, rfl, (by decide : 6 + 0 ≤ _), (by decide : 18 + 0 ≤ _)⟩)
          dsimp only [Pt.U, Pt.locs, Pt.cells, Pt.slots] at X76 l76 y76 z76 st76 hQ76
          subst l76 y76 z76
          obtain ⟨rfl, N76q, S76q⟩ := hQ76
          have N76 := Fr.app N75 N76q
          refine own_by (fun _ k => st76.trans k) ?_
          have S76 : own_S Z T76.heap n0 5 ad own_K b1 own_b117 own_a118 own_n119 own_w120 own_p116 := S76q
          show own_Fin p.tables e below _ (T76.setTop (mkF m 333 #[.val (.int p0), .val (.int p1), .val (.ref b1), .val (.ref (ad 1)), .val (.ref (ad 2)), .val (.ref (ad 3)), .val (.ref (ad 4)), .val (.ref (ad 0)), .val (.int ((p0 &&& (2147483647 : Int32)) % (3 : Int32))), .val (.int ((p1 &&& (2147483647 : Int32)) % (3 : Int32))), .val (.ref (ad 3)), .val (.ref (ad 2)), .val (.int (1 : Int32))] []))
          refine own_by (fun _ k => XS.aloadN X76.here hx rfl (hb hby at_333) rfl rfl k) ?_
          show own_Fin p.tables e below _ (T76.setTop (mkF m 334 #[.val (.int p0), .val (.int p1), .val (.ref b1), .val (.ref (ad 1)), .val (.ref (ad 2)), .val (.ref (ad 3)), .val (.ref (ad 4)), .val (.ref (ad 0)), .val (.int ((p0 &&& (2147483647 : Int32)) % (3 : Int32))), .val (.int ((p1 &&& (2147483647 : Int32)) % (3 : Int32))), .val (.ref (ad 3)), .val (.ref (ad 2)), .val (.int (1 : Int32))] [(.ref b1)]))
          refine own_by (fun _ k => XS.aload X76.here hx rfl (hb hby at_334) rfl rfl k) ?_
          show own_Fin p.tables e below _ (T76.setTop (mkF m 336 #[.val (.int p0), .val (.int p1), .val (.ref b1), .val (.ref (ad 1)), .val (.ref (ad 2)), .val (.ref (ad 3)), .val (.ref (ad 4)), .val (.ref (ad 0)), .val (.int ((p0 &&& (2147483647 : Int32)) % (3 : Int32))), .val (.int ((p1 &&& (2147483647 : Int32)) % (3 : Int32))), .val (.ref (ad 3)), .val (.ref (ad 2)), .val (.int (1 : Int32))] [(.ref (ad 4)), (.ref b1)]))
          obtain ⟨cq77, kq77, q77a, q77b, q77c⟩ := isOf hZ rfl S76.2.2.1
          obtain ⟨_, _, ⟨T77, L77, k77, n77⟩, -, X77, ⟨Lc77, hQ77, l77, y77, z77⟩, st77⟩ := X76.virtualBack hx (y := (⟨"com/example/brazier/brazier/keyspace/ChangeOrder", "after", "(Lcom/example/brazier/brazier/keyspace/ChangeOrder$Link;)Lcom/example/brazier/brazier/keyspace/ChangeOrder$Link;"⟩ : MethodName)) (z := (⟨"com/example/brazier/brazier/keyspace/ChangeOrder", "after", "(Lcom/example/brazier/brazier/keyspace/ChangeOrder$Link;)Lcom/example/brazier/brazier/keyspace/ChangeOrder$Link;"⟩ : MethodName)) hown (mvT hZ (hw _ (List.mem_of_getElem? (i := 44) rfl))) (mvT hZ (hw _ (List.mem_of_getElem? (i := 45) rfl))) (notFace_of_selects (args := #[]) (mvT hZ (hw _ (List.mem_of_getElem? (i := 47) rfl)))) (mvT hZ (hw _ (List.mem_of_getElem? (i := 47) rfl))) (mvT hZ (hw _ (List.mem_of_getElem? (i := 46) rfl))) (by decide) (backOf (W := 0) (rm7 l Z a0 hw [] 5 ad own_K b1 own_b117 own_a118 own_n119 own_w120 own_p116 4 T76.heap n0 S76.1 S76 sl wk (by decide)) hZ (hw _ (List.mem_of_getElem? (i := 48) rfl)) (hw _ (List.mem_of_getElem? (i := 2) rfl)) (by decide) (by decide)) q77a q77c (g := (mkF m 336 #[.val (.int p0), .val (.int p1), .val (.ref b1), .val (.ref (ad 1)), .val (.ref (ad 2)), .val (.ref (ad 3)), .val (.ref (ad 4)), .val (.ref (ad 0)), .val (.int ((p0 &&& (2147483647 : Int32)) % (3 : Int32))), .val (.int ((p1 &&& (2147483647 : Int32)) % (3 : Int32))), .val (.ref (ad 3)), .val (.ref (ad 2)), .val (.int (1 : Int32))] [(.ref (ad 4)), (.ref b1)])) rfl (by rw [hml]; rfl) (Steps.refl _) (argsL := [(.ref (ad 4))]) (rest := []) (lenOf pd__Lcom_example_brazier_brazier_keyspace_ChangeOrder_Link__Lcom_example_brazier_brazier_keyspace_ChangeOrder_Link_ rfl) rfl (by show 2 * 0 + _ ≤ _; exact Nat.le_of_eq rfl) (hb hby at_336) (fun _ _ => ⟨rfl, rfl, (by decide : 6 + 0 ≤ _), (by decide : 18 + 0 ≤ _)⟩)
          dsimp only [Pt.U, Pt.locs, Pt.cells, Pt.slots] at X77 l77 y77 z77 st77 hQ77
          subst l77 y77 z77
          obtain ⟨hv77, N77q, e77⟩ := hQ77
          obtain rfl := hv77.trans (congrArg some (show own_nx ad (own_a118 4) = (.ref (ad 3)) from (by rw [show own_a118 4 = some 3 from by decide]; rfl)))
          have N77 := Fr.app N76 N77q
          refine own_by (fun _ k => st77.trans k) ?_
          show own_Fin p.tables e below _ (T77.setTop (mkF m 339 #[.val (.int p0), .val (.int p1), .val (.ref b1), .val (.ref (ad 1)), .val (.ref (ad 2)), .val (.ref (ad 3)), .val (.ref (ad 4)), .val (.ref (ad 0)), .val (.int ((p0 &&& (2147483647 : Int32)) % (3 : Int32))), .val (.int ((p1 &&& (2147483647 : Int32)) % (3 : Int32))), .val (.ref (ad 3)), .val (.ref (ad 2)), .val (.int (1 : Int32))] [(.ref (ad 3))]))
          refine own_by (fun _ k => XS.aload X77.here hx rfl (hb hby at_339) rfl rfl k) ?_
          show own_Fin p.tables e below _ (T77.setTop (mkF m 341 #[.val (.int p0), .val (.int p1), .val (.ref b1), .val (.ref (ad 1)), .val (.ref (ad 2)), .val (.ref (ad 3)), .val (.ref (ad 4)), .val (.ref (ad 0)), .val (.int ((p0 &&& (2147483647 : Int32)) % (3 : Int32))), .val (.int ((p1 &&& (2147483647 : Int32)) % (3 : Int32))), .val (.ref (ad 3)), .val (.ref (ad 2)), .val (.int (1 : Int32))] [(.ref (ad 3)), (.ref (ad 3))]))
          refine own_by (fun _ k => Jvm.RoadKit.acmp (g := (mkF m 341 #[.val (.int p0), .val (.int p1), .val (.ref b1), .val (.ref (ad 1)), .val (.ref (ad 2)), .val (.ref (ad 3)), .val (.ref (ad 4)), .val (.ref (ad 0)), .val (.int ((p0 &&& (2147483647 : Int32)) % (3 : Int32))), .val (.int ((p1 &&& (2147483647 : Int32)) % (3 : Int32))), .val (.ref (ad 3)), .val (.ref (ad 2)), .val (.int (1 : Int32))] [(.ref (ad 3)), (.ref (ad 3))])) X77 hx rfl rfl rfl (pc0 := 341) (pc' := 344) (same := true) rfl (hb hby at_341) rfl (decide_eq_true rfl) (by decide) (by decide) k) ?_
          show own_Fin p.tables e below _ (T77.setTop (mkF m 344 #[.val (.int p0), .val (.int p1), .val (.ref b1), .val (.ref (ad 1)), .val (.ref (ad 2)), .val (.ref (ad 3)), .val (.ref (ad 4)), .val (.ref (ad 0)), .val (.int ((p0 &&& (2147483647 : Int32)) % (3 : Int32))), .val (.int ((p1 &&& (2147483647 : Int32)) % (3 : Int32))), .val (.ref (ad 3)), .val (.ref (ad 2)), .val (.int (1 : Int32))] []))
          refine own_by (fun _ k => XS.aloadN X77.here hx rfl (hb hby at_344) rfl rfl k) ?_
          show own_Fin p.tables e below _ (T77.setTop (mkF m 345 #[.val (.int p0), .val (.int p1), .val (.ref b1), .val (.ref (ad 1)), .val (.ref (ad 2)), .val (.ref (ad 3)), .val (.ref (ad 4)), .val (.ref (ad 0)), .val (.int ((p0 &&& (2147483647 : Int32)) % (3 : Int32))), .val (.int ((p1 &&& (2147483647 : Int32)) % (3 : Int32))), .val (.ref (ad 3)), .val (.ref (ad 2)), .val (.int (1 : Int32))] [(.ref b1)]))
          refine own_by (fun _ k => XS.aload X77.here hx rfl (hb hby at_345) rfl rfl k) ?_
          show own_Fin p.tables e below _ (T77.setTop (mkF m 347 #[.val (.int p0), .val (.int p1), .val (.ref b1), .val (.ref (ad 1)), .val (.ref (ad 2)), .val (.ref (ad 3)), .val (.ref (ad 4)), .val (.ref (ad 0)), .val (.int ((p0 &&& (2147483647 : Int32)) % (3 : Int32))), .val (.int ((p1 &&& (2147483647 : Int32)) % (3 : Int32))), .val (.ref (ad 3)), .val (.ref (ad 2)), .val (.int (1 : Int32))] [(.ref (ad 3)), (.ref b1)]))
          obtain ⟨cq78, kq78, q78a, q78b, q78c⟩ := isOf hZ e77 S76.2.2.1
          obtain ⟨_, _, ⟨T78, L78, k78, n78⟩, -, X78, ⟨Lc78, hQ78, l78, y78, z78⟩, st78⟩ := X77.virtualBack hx (y := (⟨"com/example/brazier/brazier/keyspace/ChangeOrder", "after", "(Lcom/example/brazier/brazier/keyspace/ChangeOrder$Link;)Lcom/example/brazier/brazier/keyspace/ChangeOrder$Link;"⟩ : MethodName)) (z := (⟨"com/example/brazier/brazier/keyspace/ChangeOrder", "after", "(Lcom/example/brazier/brazier/keyspace/ChangeOrder$Link;)Lcom/example/brazier/brazier/keyspace/ChangeOrder$Link;"⟩ : MethodName)) hown (mvT hZ (hw _ (List.mem_of_getElem? (i := 44) rfl))) (mvT hZ (hw _ (List.mem_of_getElem? (i := 45) rfl))) (notFace_of_selects (args := #[]) (mvT hZ (hw _ (List.mem_of_getElem? (i := 47) rfl)))) (mvT hZ (hw _ (List.mem_of_getElem? (i := 47) rfl))) (mvT hZ (hw _ (List.mem_of_getElem? (i := 46) rfl))) (by decide) (backOf (W := 0) (rm7 l Z a0 hw [] 5 ad own_K b1 own_b117 own_a118 own_n119 own_w120 own_p116 3 T76.heap n0 S76.1 S76 sl wk (by decide)) hZ (hw _ (List.mem_of_getElem? (i := 48) rfl)) (hw _ (List.mem_of_getElem? (i := 2) rfl)) (by decide) (by decide)) q78a q78c (g := (mkF m 347 #[.val (.int p0), .val (.int p1), .val (.ref b1), .val (.ref (ad 1)), .val (.ref (ad 2)), .val (.ref (ad 3)), .val (.ref (ad 4)), .val (.ref (ad 0)), .val (.int ((p0 &&& (2147483647 : Int32)) % (3 : Int32))), .val (.int ((p1 &&& (2147483647 : Int32)) % (3 : Int32))), .val (.ref (ad 3)), .val (.ref (ad 2)), .val (.int (1 : Int32))] [(.ref (ad 3)), (.ref b1)])) rfl (by rw [hml]; rfl) (Steps.refl _) (argsL := [(.ref (ad 3))]) (rest := []) (lenOf pd__Lcom_example_brazier_brazier_keyspace_ChangeOrder_Link__Lcom_example_brazier_brazier_keyspace_ChangeOrder_Link_ rfl) rfl (by show 2 * 0 + _ ≤ _; exact Nat.le_of_eq rfl) (hb hby at_347) (fun _ _ => ⟨rfl, e77, (by decide : 6 + 0 ≤ _), (by decide : 18 + 0 ≤ _)⟩)
          dsimp only [Pt.U, Pt.locs, Pt.cells, Pt.slots] at X78 l78 y78 z78 st78 hQ78
          subst l78 y78 z78
          obtain ⟨hv78, N78q, e78⟩ := hQ78
          obtain rfl := hv78.trans (congrArg some (show own_nx ad (own_a118 3) = (.ref (ad 0)) from (by rw [show own_a118 3 = some 0 from by decide]; rfl)))
          have N78 := Fr.app N77 N78q
          refine own_by (fun _ k => st78.trans k) ?_
          show own_Fin p.tables e below _ (T78.setTop (mkF m 350 #[.val (.int p0), .val (.int p1), .val (.ref b1), .val (.ref (ad 1)), .val (.ref (ad 2)), .val (.ref (ad 3)), .val (.ref (ad 4)), .val (.ref (ad 0)), .val (.int ((p0 &&& (2147483647 : Int32)) % (3 : Int32))), .val (.int ((p1 &&& (2147483647 : Int32)) % (3 : Int32))), .val (.ref (ad 3)), .val (.ref (ad 2)), .val (.int (1 : Int32))] [(.ref (ad 0))]))
          refine own_by (fun _ k => XS.aload X78.here hx rfl (hb hby at_350) rfl rfl k) ?_
          show own_Fin p.tables e below _ (T78.setTop (mkF m 352 #[.val (.int p0), .val (.int p1), .val (.ref b1), .val (.ref (ad 1)), .val (.ref (ad 2)), .val (.ref (ad 3)), .val (.ref (ad 4)), .val (.ref (ad 0)), .val (.int ((p0 &&& (2147483647 : Int32)) % (3 : Int32))), .val (.int ((p1 &&& (2147483647 : Int32)) % (3 : Int32))), .val (.ref (ad 3)), .val (.ref (ad 2)), .val (.int (1 : Int32))] [(.ref (ad 0)), (.ref (ad 0))]))
          refine own_by (fun _ k => Jvm.RoadKit.acmp (g := (mkF m 352 #[.val (.int p0), .val (.int p1), .val (.ref b1), .val (.ref (ad 1)), .val (.ref (ad 2)), .val (.ref (ad 3)), .val (.ref (ad 4)), .val (.ref (ad 0)), .val (.int ((p0 &&& (2147483647 : Int32)) % (3 : Int32))), .val (.int ((p1 &&& (2147483647 : Int32)) % (3 : Int32))), .val (.ref (ad 3)), .val (.ref (ad 2)), .val (.int (1 : Int32))] [(.ref (ad 0)), (.ref (ad 0))])) X78 hx rfl rfl rfl (pc0 := 352) (pc' := 355) (same := true) rfl (hb hby at_352) rfl (decide_eq_true rfl) (by decide) (by decide) k) ?_
          show own_Fin p.tables e below _ (T78.setTop (mkF m 355 #[.val (.int p0), .val (.int p1), .val (.ref b1), .val (.ref (ad 1)), .val (.ref (ad 2)), .val (.ref (ad 3)), .val (.ref (ad 4)), .val (.ref (ad 0)), .val (.int ((p0 &&& (2147483647 : Int32)) % (3 : Int32))), .val (.int ((p1 &&& (2147483647 : Int32)) % (3 : Int32))), .val (.ref (ad 3)), .val (.ref (ad 2)), .val (.int (1 : Int32))] []))
          refine own_by (fun _ k => XS.iconst X78.here hx rfl (hb hby at_355) k) ?_
          show own_Fin p.tables e below _ (T78.setTop (mkF m 356 #[.val (.int p0), .val (.int p1), .val (.ref b1), .val (.ref (ad 1)), .val (.ref (ad 2)), .val (.ref (ad 3)), .val (.ref (ad 4)), .val (.ref (ad 0)), .val (.int ((p0 &&& (2147483647 : Int32)) % (3 : Int32))), .val (.int ((p1 &&& (2147483647 : Int32)) % (3 : Int32))), .val (.ref (ad 3)), .val (.ref (ad 2)), .val (.int (1 : Int32))] [(.int (1 : Int32))]))
          refine own_by (fun _ k => XS.goto X78.here hx rfl (pc0 := 356) (pc' := 360) rfl (hb hby at_356) (by decide) (by decide) k) ?_
          show own_Fin p.tables e below _ (T78.setTop (mkF m 360 #[.val (.int p0), .val (.int p1), .val (.ref b1), .val (.ref (ad 1)), .val (.ref (ad 2)), .val (.ref (ad 3)), .val (.ref (ad 4)), .val (.ref (ad 0)), .val (.int ((p0 &&& (2147483647 : Int32)) % (3 : Int32))), .val (.int ((p1 &&& (2147483647 : Int32)) % (3 : Int32))), .val (.ref (ad 3)), .val (.ref (ad 2)), .val (.int (1 : Int32))] [(.int (1 : Int32))]))
          have ef : f0 p0 p1 = (1 : Int32) := by unfold f0; rw [if_neg hc15, if_neg hc39, if_neg hc63, if_pos hc71]
          exact own_retN X78 hx (t := .boolean) Bd.returns hlk (by simp) (hb hby at_360) (by decide) (by decide) ⟨by rw [ef]; rfl, N78⟩
        · refine own_by (fun _ k => XS.icmpYes X14.here hx rfl (pc0 := 154) (pc' := 162) rfl (hb hby at_154) rfl (feq hc71).2 (by decide) (by decide) k) ?_
          show own_Fin p.tables e below _ (T14.setTop (mkF m 162 #[.val (.int p0), .val (.int p1), .val (.ref b1), .val (.ref (ad 1)), .val (.ref (ad 2)), .val (.ref (ad 3)), .val (.ref (ad 4)), .val (.ref (ad 0)), .val (.int ((p0 &&& (2147483647 : Int32)) % (3 : Int32))), .val (.int ((p1 &&& (2147483647 : Int32)) % (3 : Int32))), .val (.ref (ad 3)), .unset, .unset] []))
          refine own_by (fun _ k => XS.aload X14.here hx rfl (hb hby at_162) rfl rfl k) ?_
          show own_Fin p.tables e below _ (T14.setTop (mkF m 164 #[.val (.int p0), .val (.int p1), .val (.ref b1), .val (.ref (ad 1)), .val (.ref (ad 2)), .val (.ref (ad 3)), .val (.ref (ad 4)), .val (.ref (ad 0)), .val (.int ((p0 &&& (2147483647 : Int32)) % (3 : Int32))), .val (.int ((p1 &&& (2147483647 : Int32)) % (3 : Int32))), .val (.ref (ad 3)), .unset, .unset] [(.ref (ad 3))]))
          refine own_by (fun _ k => XS.astore X14.here hx rfl (hb hby at_164) rfl rfl (l' := #[.val (.int p0), .val (.int p1), .val (.ref b1), .val (.ref (ad 1)), .val (.ref (ad 2)), .val (.ref (ad 3)), .val (.ref (ad 4)), .val (.ref (ad 0)), .val (.int ((p0 &&& (2147483647 : Int32)) % (3 : Int32))), .val (.int ((p1 &&& (2147483647 : Int32)) % (3 : Int32))), .val (.ref (ad 3)), .val (.ref (ad 3)), .unset]) rfl k) ?_
          show own_Fin p.tables e below _ (T14.setTop (mkF m 166 #[.val (.int p0), .val (.int p1), .val (.ref b1), .val (.ref (ad 1)), .val (.ref (ad 2)), .val (.ref (ad 3)), .val (.ref (ad 4)), .val (.ref (ad 0)), .val (.int ((p0 &&& (2147483647 : Int32)) % (3 : Int32))), .val (.int ((p1 &&& (2147483647 : Int32)) % (3 : Int32))), .val (.ref (ad 3)), .val (.ref (ad 3)), .unset] []))
          refine own_by (fun _ k => XS.aloadN X14.here hx rfl (hb hby at_166) rfl rfl k) ?_
          show own_Fin p.tables e below _ (T14.setTop (mkF m 167 #[.val (.int p0), .val (.int p1), .val (.ref b1), .val (.ref (ad 1)), .val (.ref (ad 2)), .val (.ref (ad 3)), .val (.ref (ad 4)), .val (.ref (ad 0)), .val (.int ((p0 &&& (2147483647 : Int32)) % (3 : Int32))), .val (.int ((p1 &&& (2147483647 : Int32)) % (3 : Int32))), .val (.ref (ad 3)), .val (.ref (ad 3)), .unset] [(.ref b1)]))
          refine own_by (fun _ k => XS.aload X14.here hx rfl (hb hby at_167) rfl rfl k) ?_
          show own_Fin p.tables e below _ (T14.setTop (mkF m 169 #[.val (.int p0), .val (.int p1), .val (.ref b1), .val (.ref (ad 1)), .val (.ref (ad 2)), .val (.ref (ad 3)), .val (.ref (ad 4)), .val (.ref (ad 0)), .val (.int ((p0 &&& (2147483647 : Int32)) % (3 : Int32))), .val (.int ((p1 &&& (2147483647 : Int32)) % (3 : Int32))), .val (.ref (ad 3)), .val (.ref (ad 3)), .unset] [(.ref (ad 4)), (.ref b1)]))
          refine own_by (fun _ k => XS.aload X14.here hx rfl (hb hby at_169) rfl rfl k) ?_
          show own_Fin p.tables e below _ (T14.setTop (mkF m 171 #[.val (.int p0), .val (.int p1), .val (.ref b1), .val (.ref (ad 1)), .val (.ref (ad 2)), .val (.ref (ad 3)), .val (.ref (ad 4)), .val (.ref (ad 0)), .val (.int ((p0 &&& (2147483647 : Int32)) % (3 : Int32))), .val (.int ((p1 &&& (2147483647 : Int32)) % (3 : Int32))), .val (.ref (ad 3)), .val (.ref (ad 3)), .unset] [(.ref (ad 3)), (.ref (ad 4)), (.ref b1)]))
          obtain ⟨cq79, kq79, q79a, q79b, q79c⟩ := isOf hZ e14 S13.2.2.1
          obtain ⟨_, _, ⟨T79, L79, k79, n79⟩, -, X79, ⟨Lc79, hQ79, l79, y79, z79⟩, st79⟩ := X14.virtualBack hx (y := (⟨"com/example/brazier/brazier/keyspace/ChangeOrder", "passTo", "(Lcom/example/brazier/brazier/keyspace/ChangeOrder$Place;Lcom/example/brazier/brazier/keyspace/ChangeOrder$Link;)V"⟩ : MethodName)) (z := (⟨"com/example/brazier/brazier/keyspace/ChangeOrder", "passTo", "(Lcom/example/brazier/brazier/keyspace/ChangeOrder$Place;Lcom/example/brazier/brazier/keyspace/ChangeOrder$Link;)V"⟩ : MethodName)) hown (mvT hZ (hw _ (List.mem_of_getElem? (i := 50) rfl))) (mvT hZ (hw _ (List.mem_of_getElem? (i := 51) rfl))) (notFace_of_selects (args := #[]) (mvT hZ (hw _ (List.mem_of_getElem? (i := 53) rfl)))) (mvT hZ (hw _ (List.mem_of_getElem? (i := 53) rfl))) (mvT hZ (hw _ (List.mem_of_getElem? (i := 52) rfl))) (by decide) (backOf (W := 0) (rm8 l Z a0 hw [] 5 ad own_K b1 own_b9 own_a10 own_n11 own_w12 own_w0 4 3 2 T13.heap n0 S13.1 S13 sl wk (by decide) (by decide) (by decide) (own_wf0 (by decide)) (by decide)) hZ (hw _ (List.mem_of_getElem? (i := 54) rfl)) (hw _ (List.mem_of_getElem? (i := 2) rfl)) (by decide) (by decide)) q79a q79c (g := (mkF m 171 #[.val (.int p0), .val (.int p1), .val (.ref b1), .val (.ref (ad 1)), .val (.ref (ad 2)), .val (.ref (ad 3)), .val (.ref (ad 4)), .val (.ref (ad 0)), .val (.int ((p0 &&& (2147483647 : Int32)) % (3 : Int32))), .val (.int ((p1 &&& (2147483647 : Int32)) % (3 : Int32))), .val (.ref (ad 3)), .val (.ref (ad 3)), .unset] [(.ref (ad 3)), (.ref (ad 4)), (.ref b1)])) rfl (by rw [hml]; rfl) (Steps.refl _) (argsL := [(.ref (ad 4)), (.ref (ad 3))]) (rest := []) (lenOf pd__Lcom_example_brazier_brazier_keyspace_ChangeOrder_Place_Lcom_example_brazier_brazier_keyspace_ChangeOrder_Link__V rfl) rfl (by show 2 * 0 + _ ≤ _; exact Nat.le_of_eq rfl) (hb hby at_171) (fun _ _ => ⟨rfl, e14, (by decide : 6 + 0 ≤ _), (by decide : 18 + 0 ≤ _)⟩)
          dsimp only [Pt.U, Pt.locs, Pt.cells, Pt.slots] at X79 l79 y79 z79 st79 hQ79
          subst l79 y79 z79
          obtain ⟨rfl, N79q, S79q⟩ := hQ79
          have N79 := Fr.app N14 N79q
          refine own_by (fun _ k => st79.trans k) ?_
          have S79 : own_S Z T79.heap n0 5 ad own_K b1 own_b93 own_a94 own_n95 own_w12 own_p96 := S79q
          show own_Fin p.tables e below _ (T79.setTop (mkF m 174 #[.val (.int p0), .val (.int p1), .val (.ref b1), .val (.ref (ad 1)), .val (.ref (ad 2)), .val (.ref (ad 3)), .val (.ref (ad 4)), .val (.ref (ad 0)), .val (.int ((p0 &&& (2147483647 : Int32)) % (3 : Int32))), .val (.int ((p1 &&& (2147483647 : Int32)) % (3 : Int32))), .val (.ref (ad 3)), .val (.ref (ad 3)), .unset] []))
          refine own_by (fun _ k => XS.aloadN X79.here hx rfl (hb hby at_174) rfl rfl k) ?_
          show own_Fin p.tables e below _ (T79.setTop (mkF m 175 #[.val (.int p0), .val (.int p1), .val (.ref b1), .val (.ref (ad 1)), .val (.ref (ad 2)), .val (.ref (ad 3)), .val (.ref (ad 4)), .val (.ref (ad 0)), .val (.int ((p0 &&& (2147483647 : Int32)) % (3 : Int32))), .val (.int ((p1 &&& (2147483647 : Int32)) % (3 : Int32))), .val (.ref (ad 3)), .val (.ref (ad 3)), .unset] [(.ref b1)]))
          refine own_by (fun _ k => XS.aload X79.here hx rfl (hb hby at_175) rfl rfl k) ?_
          show own_Fin p.tables e below _ (T79.setTop (mkF m 177 #[.val (.int p0), .val (.int p1), .val (.ref b1), .val (.ref (ad 1)), .val (.ref (ad 2)), .val (.ref (ad 3)), .val (.ref (ad 4)), .val (.ref (ad 0)), .val (.int ((p0 &&& (2147483647 : Int32)) % (3 : Int32))), .val (.int ((p1 &&& (2147483647 : Int32)) % (3 : Int32))), .val (.ref (ad 3)), .val (.ref (ad 3)), .unset] [(.ref (ad 3)), (.ref b1)]))
          obtain ⟨cq80, kq80, q80a, q80b, q80c⟩ := isOf hZ rfl S79.2.2.1
          obtain ⟨_, _, ⟨T80, L80, k80, n80⟩, -, X80, ⟨Lc80, hQ80, l80, y80, z80⟩, st80⟩ := X79.virtualBack hx (y := (⟨"com/example/brazier/brazier/keyspace/ChangeOrder", "changed", "(Lcom/example/brazier/brazier/keyspace/ChangeOrder$Link;)V"⟩ : MethodName)) (z := (⟨"com/example/brazier/brazier/keyspace/ChangeOrder", "changed", "(Lcom/example/brazier/brazier/keyspace/ChangeOrder$Link;)V"⟩ : MethodName)) hown (mvT hZ (hw _ (List.mem_of_getElem? (i := 75) rfl))) (mvT hZ (hw _ (List.mem_of_getElem? (i := 76) rfl))) (notFace_of_selects (args := #[]) (mvT hZ (hw _ (List.mem_of_getElem? (i := 78) rfl)))) (mvT hZ (hw _ (List.mem_of_getElem? (i := 78) rfl))) (mvT hZ (hw _ (List.mem_of_getElem? (i := 77) rfl))) (by decide) (backOf (W := 0) (rm13 l Z a0 hw [] 5 ad own_K b1 own_b93 own_a94 own_n95 own_w12 own_p96 3 4 T79.heap n0 S79.1 S79 sl wk (by decide) (by decide) (by decide) (fun q => absurd (by decide) q)) hZ (hw _ (List.mem_of_getElem? (i := 79) rfl)) (hw _ (List.mem_of_getElem? (i := 2) rfl)) (by decide) (by decide)) q80a q80c (g := (mkF m 177 #[.val (.int p0), .val (.int p1), .val (.ref b1), .val (.ref (ad 1)), .val (.ref (ad 2)), .val (.ref (ad 3)), .val (.ref (ad 4)), .val (.ref (ad 0)), .val (.int ((p0 &&& (2147483647 : Int32)) % (3 : Int32))), .val (.int ((p1 &&& (2147483647 : Int32)) % (3 : Int32))), .val (.ref (ad 3)), .val (.ref (ad 3)), .unset] [(.ref (ad 3)), (.ref b1)])) rfl (by rw [hml]; rfl) (Steps.refl _) (argsL := [(.ref (ad 3))]) (rest := []) (lenOf pd__Lcom_example_brazier_brazier_keyspace_ChangeOrder_Link__V rfl) rfl (by show 2 * 0 + _ ≤ _; exact Nat.le_of_eq rfl) (hb hby at_177) (fun _ _ => ⟨rfl, rfl, (by decide : 6 + 0 ≤ _), (by decide : 18 + 0 ≤ _)⟩)
          dsimp only [Pt.U, Pt.locs, Pt.cells, Pt.slots] at X80 l80 y80 z80 st80 hQ80
          subst l80 y80 z80
          obtain ⟨rfl, N80q, S80q⟩ := hQ80
          have N80 := Fr.app N79 N80q
          refine own_by (fun _ k => st80.trans k) ?_
          have S80 : own_S Z T80.heap n0 5 ad own_K b1 own_b121 own_a122 own_n123 own_w124 own_p96 := S80q
          show own_Fin p.tables e below _ (T80.setTop (mkF m 180 #[.val (.int p0), .val (.int p1), .val (.ref b1), .val (.ref (ad 1)), .val (.ref (ad 2)), .val (.ref (ad 3)), .val (.ref (ad 4)), .val (.ref (ad 0)), .val (.int ((p0 &&& (2147483647 : Int32)) % (3 : Int32))), .val (.int ((p1 &&& (2147483647 : Int32)) % (3 : Int32))), .val (.ref (ad 3)), .val (.ref (ad 3)), .unset] []))
          refine own_by (fun _ k => XS.iload X80.here hx rfl (hb hby at_180) rfl k) ?_
          show own_Fin p.tables e below _ (T80.setTop (mkF m 182 #[.val (.int p0), .val (.int p1), .val (.ref b1), .val (.ref (ad 1)), .val (.ref (ad 2)), .val (.ref (ad 3)), .val (.ref (ad 4)), .val (.ref (ad 0)), .val (.int ((p0 &&& (2147483647 : Int32)) % (3 : Int32))), .val (.int ((p1 &&& (2147483647 : Int32)) % (3 : Int32))), .val (.ref (ad 3)), .val (.ref (ad 3)), .unset] [(.int ((p0 &&& (2147483647 : Int32)) % (3 : Int32)))]))
          refine own_by (fun _ k => XS.ifYes X80.here hx rfl (pc0 := 182) (pc' := 203) rfl (hb hby at_182) rfl ((if0 _ _).trans (feq hc15).2) (by decide) (by decide) k) ?_
          show own_Fin p.tables e below _ (T80.setTop (mkF m 203 #[.val (.int p0), .val (.int p1), .val (.ref b1), .val (.ref (ad 1)), .val (.ref (ad 2)), .val (.ref (ad 3)), .val (.ref (ad 4)), .val (.ref (ad 0)), .val (.int ((p0 &&& (2147483647 : Int32)) % (3 : Int32))), .val (.int ((p1 &&& (2147483647 : Int32)) % (3 : Int32))), .val (.ref (ad 3)), .val (.ref (ad 3)), .unset] []))
          refine own_by (fun _ k => XS.iload X80.here hx rfl (hb hby at_203) rfl k) ?_
          show own_Fin p.tables e below _ (T80.setTop (mkF m 205 #[.val (.int p0), .val (.int p1), .val (.ref b1), .val (.ref (ad 1)), .val (.ref (ad 2)), .val (.ref (ad 3)), .val (.ref (ad 4)), .val (.ref (ad 0)), .val (.int ((p0 &&& (2147483647 : Int32)) % (3 : Int32))), .val (.int ((p1 &&& (2147483647 : Int32)) % (3 : Int32))), .val (.ref (ad 3)), .val (.ref (ad 3)), .unset] [(.int ((p0 &&& (2147483647 : Int32)) % (3 : Int32)))]))
          refine own_by (fun _ k => XS.iconst X80.here hx rfl (hb hby at_205) k) ?_
          show own_Fin p.tables e below _ (T80.setTop (mkF m 206 #[.val (.int p0), .val (.int p1), .val (.ref b1), .val (.ref (ad 1)), .val (.ref (ad 2)), .val (.ref (ad 3)), .val (.ref (ad 4)), .val (.ref (ad 0)), .val (.int ((p0 &&& (2147483647 : Int32)) % (3 : Int32))), .val (.int ((p1 &&& (2147483647 : Int32)) % (3 : Int32))), .val (.ref (ad 3)), .val (.ref (ad 3)), .unset] [(.int (1 : Int32)), (.int ((p0 &&& (2147483647 : Int32)) % (3 : Int32)))]))
          refine own_by (fun _ k => XS.icmpYes X80.here hx rfl (pc0 := 206) (pc' := 250) rfl (hb hby at_206) rfl (feq hc39).2 (by decide) (by decide) k) ?_
          show own_Fin p.tables e below _ (T80.setTop (mkF m 250 #[.val (.int p0), .val (.int p1), .val (.ref b1), .val (.ref (ad 1)), .val (.ref (ad 2)), .val (.ref (ad 3)), .val (.ref (ad 4)), .val (.ref (ad 0)), .val (.int ((p0 &&& (2147483647 : Int32)) % (3 : Int32))), .val (.int ((p1 &&& (2147483647 : Int32)) % (3 : Int32))), .val (.ref (ad 3)), .val (.ref (ad 3)), .unset] []))
          refine own_by (fun _ k => XS.iload X80.here hx rfl (hb hby at_250) rfl k) ?_
          show own_Fin p.tables e below _ (T80.setTop (mkF m 252 #[.val (.int p0), .val (.int p1), .val (.ref b1), .val (.ref (ad 1)), .val (.ref (ad 2)), .val (.ref (ad 3)), .val (.ref (ad 4)), .val (.ref (ad 0)), .val (.int ((p0 &&& (2147483647 : Int32)) % (3 : Int32))), .val (.int ((p1 &&& (2147483647 : Int32)) % (3 : Int32))), .val (.ref (ad 3)), .val (.ref (ad 3)), .unset] [(.int ((p1 &&& (2147483647 : Int32)) % (3 : Int32)))]))
          refine own_by (fun _ k => XS.ifYes X80.here hx rfl (pc0 := 252) (pc' := 273) rfl (hb hby at_252) rfl ((if0 _ _).trans (feq hc63).2) (by decide) (by decide) k) ?_
          show own_Fin p.tables e below _ (T80.setTop (mkF m 273 #[.val (.int p0), .val (.int p1), .val (.ref b1), .val (.ref (ad 1)), .val (.ref (ad 2)), .val (.ref (ad 3)), .val (.ref (ad 4)), .val (.ref (ad 0)), .val (.int ((p0 &&& (2147483647 : Int32)) % (3 : Int32))), .val (.int ((p1 &&& (2147483647 : Int32)) % (3 : Int32))), .val (.ref (ad 3)), .val (.ref (ad 3)), .unset] []))
          refine own_by (fun _ k => XS.iload X80.here hx rfl (hb hby at_273) rfl k) ?_
          show own_Fin p.tables e below _ (T80.setTop (mkF m 275 #[.val (.int p0), .val (.int p1), .val (.ref b1), .val (.ref (ad 1)), .val (.ref (ad 2)), .val (.ref (ad 3)), .val (.ref (ad 4)), .val (.ref (ad 0)), .val (.int ((p0 &&& (2147483647 : Int32)) % (3 : Int32))), .val (.int ((p1 &&& (2147483647 : Int32)) % (3 : Int32))), .val (.ref (ad 3)), .val (.ref (ad 3)), .unset] [(.int ((p1 &&& (2147483647 : Int32)) % (3 : Int32)))]))
          refine own_by (fun _ k => XS.iconst X80.here hx rfl (hb hby at_275) k) ?_
          show own_Fin p.tables e below _ (T80.setTop (mkF m 276 #[.val (.int p0), .val (.int p1), .val (.ref b1), .val (.ref (ad 1)), .val (.ref (ad 2)), .val (.ref (ad 3)), .val (.ref (ad 4)), .val (.ref (ad 0)), .val (.int ((p0 &&& (2147483647 : Int32)) % (3 : Int32))), .val (.int ((p1 &&& (2147483647 : Int32)) % (3 : Int32))), .val (.ref (ad 3)), .val (.ref (ad 3)), .unset] [(.int (1 : Int32)), (.int ((p1 &&& (2147483647 : Int32)) % (3 : Int32)))]))
          refine own_by (fun _ k => XS.icmpYes X80.here hx rfl (pc0 := 276) (pc' := 297) rfl (hb hby at_276) rfl (feq hc71).2 (by decide) (by decide) k) ?_
          show own_Fin p.tables e below _ (T80.setTop (mkF m 297 #[.val (.int p0), .val (.int p1), .val (.ref b1), .val (.ref (ad 1)), .val (.ref (ad 2)), .val (.ref (ad 3)), .val (.ref (ad 4)), .val (.ref (ad 0)), .val (.int ((p0 &&& (2147483647 : Int32)) % (3 : Int32))), .val (.int ((p1 &&& (2147483647 : Int32)) % (3 : Int32))), .val (.ref (ad 3)), .val (.ref (ad 3)), .unset] []))
          refine own_by (fun _ k => XS.aloadN X80.here hx rfl (hb hby at_297) rfl rfl k) ?_
          show own_Fin p.tables e below _ (T80.setTop (mkF m 298 #[.val (.int p0), .val (.int p1), .val (.ref b1), .val (.ref (ad 1)), .val (.ref (ad 2)), .val (.ref (ad 3)), .val (.ref (ad 4)), .val (.ref (ad 0)), .val (.int ((p0 &&& (2147483647 : Int32)) % (3 : Int32))), .val (.int ((p1 &&& (2147483647 : Int32)) % (3 : Int32))), .val (.ref (ad 3)), .val (.ref (ad 3)), .unset] [(.ref b1)]))
          refine own_by (fun _ k => XS.aload X80.here hx rfl (hb hby at_298) rfl rfl k) ?_
          show own_Fin p.tables e below _ (T80.setTop (mkF m 300 #[.val (.int p0), .val (.int p1), .val (.ref b1), .val (.ref (ad 1)), .val (.ref (ad 2)), .val (.ref (ad 3)), .val (.ref (ad 4)), .val (.ref (ad 0)), .val (.int ((p0 &&& (2147483647 : Int32)) % (3 : Int32))), .val (.int ((p1 &&& (2147483647 : Int32)) % (3 : Int32))), .val (.ref (ad 3)), .val (.ref (ad 3)), .unset] [(.ref (ad 0)), (.ref b1)]))
          refine own_by (fun _ k => XS.aloadN X80.here hx rfl (hb hby at_300) rfl rfl k) ?_
          show own_Fin p.tables e below _ (T80.setTop (mkF m 301 #[.val (.int p0), .val (.int p1), .val (.ref b1), .val (.ref (ad 1)), .val (.ref (ad 2)), .val (.ref (ad 3)), .val (.ref (ad 4)), .val (.ref (ad 0)), .val (.int ((p0 &&& (2147483647 : Int32)) % (3 : Int32))), .val (.int ((p1 &&& (2147483647 : Int32)) % (3 : Int32))), .val (.ref (ad 3)), .val (.ref (ad 3)), .unset] [(.ref (ad 1)), (.ref (ad 0)), (.ref b1)]))
          refine own_by (fun _ k => XS.aload X80.here hx rfl (hb hby at_301) rfl rfl k) ?_
          show own_Fin p.tables e below _ (T80.setTop (mkF m 303 #[.val (.int p0), .val (.int p1), .val (.ref b1), .val (.ref (ad 1)), .val (.ref (ad 2)), .val (.ref (ad 3)), .val (.ref (ad 4)), .val (.ref (ad 0)), .val (.int ((p0 &&& (2147483647 : Int32)) % (3 : Int32))), .val (.int ((p1 &&& (2147483647 : Int32)) % (3 : Int32))), .val (.ref (ad 3)), .val (.ref (ad 3)), .unset] [(.ref (ad 2)), (.ref (ad 1)), (.ref (ad 0)), (.ref b1)]))
          refine own_by (fun _ k => XS.aload X80.here hx rfl (hb hby at_303) rfl rfl k) ?_
          show own_Fin p.tables e below _ (T80.setTop (mkF m 305 #[.val (.int p0), .val (.int p1), .val (.ref b1), .val (.ref (ad 1)), .val (.ref (ad 2)), .val (.ref (ad 3)), .val (.ref (ad 4)), .val (.ref (ad 0)), .val (.int ((p0 &&& (2147483647 : Int32)) % (3 : Int32))), .val (.int ((p1 &&& (2147483647 : Int32)) % (3 : Int32))), .val (.ref (ad 3)), .val (.ref (ad 3)), .unset] [(.ref (ad 4)), (.ref (ad 2)), (.ref (ad 1)), (.ref (ad 0)), (.ref b1)]))
          refine own_by (fun _ k => XS.aload X80.here hx rfl (hb hby at_305) rfl rfl k) ?_
          show own_Fin p.tables e below _ (T80.setTop (mkF m 307 #[.val (.int p0), .val (.int p1), .val (.ref b1), .val (.ref (ad 1)), .val (.ref (ad 2)), .val (.ref (ad 3)), .val (.ref (ad 4)), .val (.ref (ad 0)), .val (.int ((p0 &&& (2147483647 : Int32)) % (3 : Int32))), .val (.int ((p1 &&& (2147483647 : Int32)) % (3 : Int32))), .val (.ref (ad 3)), .val (.ref (ad 3)), .unset] [(.ref (ad 3)), (.ref (ad 4)), (.ref (ad 2)), (.ref (ad 1)), (.ref (ad 0)), (.ref b1)]))
          obtain ⟨_, _, ⟨T81, L81, k81, n81⟩, -, X81, ⟨Lc81, hQ81, l81, y81, z81⟩, st81⟩ := Jvm.LawKit.callS X80 hx (y := (⟨"com/example/brazier/brazier/keyspace/ChangeOrderAddPinLaw", "ringIs", "(Lcom/example/brazier/brazier/keyspace/ChangeOrder;Lcom/example/brazier/brazier/keyspace/ChangeOrder$Link;Lcom/example/brazier/brazier/keyspace/ChangeOrder$Link;Lcom/example/brazier/brazier/keyspace/ChangeOrder$Link;Lcom/example/brazier/brazier/keyspace/ChangeOrder$Link;Lcom/example/brazier/brazier/keyspace/ChangeOrder$Link;)Z"⟩ : MethodName)) hown (mvT hZ (hw _ (List.mem_of_getElem? (i := 80) rfl))) (mvT hZ (hw _ (List.mem_of_getElem? (i := 81) rfl))) (mvT hZ (hw _ (List.mem_of_getElem? (i := 82) rfl))) (mvT hZ (hw _ (List.mem_of_getElem? (i := 83) rfl))) (by decide) (backOf (W := 0) (rm14 l Z a0 hw [] 5 ad own_K b1 own_b121 own_a122 own_n123 own_w124 own_p96 0 1 2 4 3 T80.heap n0 S80.1 S80 sl wk (by decide) (by decide) (by decide) (by decide) (by decide) (by decide) (by decide) (by decide) (by decide) (by decide)) hZ (hw _ (List.mem_of_getElem? (i := 83) rfl)) (hw _ (List.mem_of_getElem? (i := 82) rfl)) (by decide) (by decide)) (g := (mkF m 307 #[.val (.int p0), .val (.int p1), .val (.ref b1), .val (.ref (ad 1)), .val (.ref (ad 2)), .val (.ref (ad 3)), .val (.ref (ad 4)), .val (.ref (ad 0)), .val (.int ((p0 &&& (2147483647 : Int32)) % (3 : Int32))), .val (.int ((p1 &&& (2147483647 : Int32)) % (3 : Int32))), .val (.ref (ad 3)), .val (.ref (ad 3)), .unset] [(.ref (ad 3)), (.ref (ad 4)), (.ref (ad 2)), (.ref (ad 1)), (.ref (ad 0)), (.ref b1)])) rfl (by rw [hml]; rfl) (argsL := [(.ref b1), (.ref (ad 0)), (.ref (ad 1)), (.ref (ad 2)), (.ref (ad 4)), (.ref (ad 3))]) (rest := []) (lenOf pd__Lcom_example_brazier_brazier_keyspace_ChangeOrder_Lcom_example_brazier_brazier_keyspace_ChangeOrder_Link_Lcom_example_brazier_brazier_keyspace_ChangeOrder_Link_Lcom_example_brazier_brazier_keyspace_ChangeOrder_Link_Lcom_example_brazier_brazier_keyspace_ChangeOrder_Link_Lcom_example_brazier_brazier_keyspace_ChangeOrder_Link__Z rfl) rfl (by show 2 * 0 + _ ≤ _; exact Nat.le_of_eq rfl) (hb hby at_307) (fun _ _ => ⟨rfl, rfl, (by decide : 6 + 0 ≤ _), (by decide : 18 + 0 ≤ _)⟩)
          dsimp only [Pt.U, Pt.locs, Pt.cells, Pt.slots] at X81 l81 y81 z81 st81 hQ81
          subst l81 y81 z81
          obtain ⟨rfl, N81q, e81⟩ := hQ81
          have N81 := Fr.app N80 N81q
          refine own_by st81 ?_
          show own_Fin p.tables e below _ (T81.setTop (mkF m 310 #[.val (.int p0), .val (.int p1), .val (.ref b1), .val (.ref (ad 1)), .val (.ref (ad 2)), .val (.ref (ad 3)), .val (.ref (ad 4)), .val (.ref (ad 0)), .val (.int ((p0 &&& (2147483647 : Int32)) % (3 : Int32))), .val (.int ((p1 &&& (2147483647 : Int32)) % (3 : Int32))), .val (.ref (ad 3)), .val (.ref (ad 3)), .unset] [(.int (1 : Int32))]))
          refine own_by (fun _ k => XS.istore X81.here hx rfl (hb hby at_310) rfl (l' := #[.val (.int p0), .val (.int p1), .val (.ref b1), .val (.ref (ad 1)), .val (.ref (ad 2)), .val (.ref (ad 3)), .val (.ref (ad 4)), .val (.ref (ad 0)), .val (.int ((p0 &&& (2147483647 : Int32)) % (3 : Int32))), .val (.int ((p1 &&& (2147483647 : Int32)) % (3 : Int32))), .val (.ref (ad 3)), .val (.ref (ad 3)), .val (.int (1 : Int32))]) rfl k) ?_
          show own_Fin p.tables e below _ (T81.setTop (mkF m 312 #[.val (.int p0), .val (.int p1), .val (.ref b1), .val (.ref (ad 1)), .val (.ref (ad 2)), .val (.ref (ad 3)), .val (.ref (ad 4)), .val (.ref (ad 0)), .val (.int ((p0 &&& (2147483647 : Int32)) % (3 : Int32))), .val (.int ((p1 &&& (2147483647 : Int32)) % (3 : Int32))), .val (.ref (ad 3)), .val (.ref (ad 3)), .val (.int (1 : Int32))] []))
          refine own_by (fun _ k => XS.iload X81.here hx rfl (hb hby at_312) rfl k) ?_
          show own_Fin p.tables e below _ (T81.setTop (mkF m 314 #[.val (.int p0), .val (.int p1), .val (.ref b1), .val (.ref (ad 1)), .val (.ref (ad 2)), .val (.ref (ad 3)), .val (.ref (ad 4)), .val (.ref (ad 0)), .val (.int ((p0 &&& (2147483647 : Int32)) % (3 : Int32))), .val (.int ((p1 &&& (2147483647 : Int32)) % (3 : Int32))), .val (.ref (ad 3)), .val (.ref (ad 3)), .val (.int (1 : Int32))] [(.int (1 : Int32))]))
          refine own_by (fun _ k => XS.ifYes X81.here hx rfl (pc0 := 314) (pc' := 319) rfl (hb hby at_314) rfl ((if0 _ _).trans (feq (by decide)).2) (by decide) (by decide) k) ?_
          show own_Fin p.tables e below _ (T81.setTop (mkF m 319 #[.val (.int p0), .val (.int p1), .val (.ref b1), .val (.ref (ad 1)), .val (.ref (ad 2)), .val (.ref (ad 3)), .val (.ref (ad 4)), .val (.ref (ad 0)), .val (.int ((p0 &&& (2147483647 : Int32)) % (3 : Int32))), .val (.int ((p1 &&& (2147483647 : Int32)) % (3 : Int32))), .val (.ref (ad 3)), .val (.ref (ad 3)), .val (.int (1 : Int32))] []))
          refine own_by (fun _ k => XS.aloadN X81.here hx rfl (hb hby at_319) rfl rfl k) ?_
          show own_Fin p.tables e below _ (T81.setTop (mkF m 320 #[.val (.int p0), .val (.int p1), .val (.ref b1), .val (.ref (ad 1)), .val (.ref (ad 2)), .val (.ref (ad 3)), .val (.ref (ad 4)), .val (.ref (ad 0)), .val (.int ((p0 &&& (2147483647 : Int32)) % (3 : Int32))), .val (.int ((p1 &&& (2147483647 : Int32)) % (3 : Int32))), .val (.ref (ad 3)), .val (.ref (ad 3)), .val (.int (1 : Int32))] [(.ref b1)]))
          refine own_by (fun _ k => XS.aload X81.here hx rfl (hb hby at_320) rfl rfl k) ?_
          show own_Fin p.tables e below _ (T81.setTop (mkF m 322 #[.val (.int p0), .val (.int p1), .val (.ref b1), .val (.ref (ad 1)), .val (.ref (ad 2)), .val (.ref (ad 3)), .val (.ref (ad 4)), .val (.ref (ad 0)), .val (.int ((p0 &&& (2147483647 : Int32)) % (3 : Int32))), .val (.int ((p1 &&& (2147483647 : Int32)) % (3 : Int32))), .val (.ref (ad 3)), .val (.ref (ad 3)), .val (.int (1 : Int32))] [(.ref (ad 4)), (.ref b1)]))
          refine own_by (fun _ k => XS.aload X81.here hx rfl (hb hby at_322) rfl rfl k) ?_
          show own_Fin p.tables e below _ (T81.setTop (mkF m 324 #[.val (.int p0), .val (.int p1), .val (.ref b1), .val (.ref (ad 1)), .val (.ref (ad 2)), .val (.ref (ad 3)), .val (.ref (ad 4)), .val (.ref (ad 0)), .val (.int ((p0 &&& (2147483647 : Int32)) % (3 : Int32))), .val (.int ((p1 &&& (2147483647 : Int32)) % (3 : Int32))), .val (.ref (ad 3)), .val (.ref (ad 3)), .val (.int (1 : Int32))] [(.ref (ad 0)), (.ref (ad 4)), (.ref b1)]))
          obtain ⟨cq82, kq82, q82a, q82b, q82c⟩ := isOf hZ e81 S80.2.2.1
          obtain ⟨_, _, ⟨T82, L82, k82, n82⟩, -, X82, ⟨Lc82, hQ82, l82, y82, z82⟩, st82⟩ := X81.virtualBack hx (y := (⟨"com/example/brazier/brazier/keyspace/ChangeOrder", "passTo", "(Lcom/example/brazier/brazier/keyspace/ChangeOrder$Place;Lcom/example/brazier/brazier/keyspace/ChangeOrder$Link;)V"⟩ : MethodName)) (z := (⟨"com/example/brazier/brazier/keyspace/ChangeOrder", "passTo", "(Lcom/example/brazier/brazier/keyspace/ChangeOrder$Place;Lcom/example/brazier/brazier/keyspace/ChangeOrder$Link;)V"⟩ : MethodName)) hown (mvT hZ (hw _ (List.mem_of_getElem? (i := 50) rfl))) (mvT hZ (hw _ (List.mem_of_getElem? (i := 51) rfl))) (notFace_of_selects (args := #[]) (mvT hZ (hw _ (List.mem_of_getElem? (i := 53) rfl)))) (mvT hZ (hw _ (List.mem_of_getElem? (i := 53) rfl))) (mvT hZ (hw _ (List.mem_of_getElem? (i := 52) rfl))) (by decide) (backOf (W := 0) (rm8 l Z a0 hw [] 5 ad own_K b1 own_b121 own_a122 own_n123 own_w124 own_p96 4 0 3 T80.heap n0 S80.1 S80 sl wk (by decide) (by decide) (by decide) (own_wf1 (q := 3) (p := 2) (by decide) (by decide) (by decide) (by decide)) (by decide)) hZ (hw _ (List.mem_of_getElem? (i := 54) rfl)) (hw _ (List.mem_of_getElem? (i := 2) rfl)) (by decide) (by decide)) q82a q82c (g := (mkF m 324 #[.val (.int p0), .val (.int p1), .val (.ref b1), .val (.ref (ad 1)), .val (.ref (ad 2)), .val (.ref (ad 3)), .val (.ref (ad 4)), .val (.ref (ad 0)), .val (.int ((p0 &&& (2147483647 : Int32)) % (3 : Int32))), .val (.int ((p1 &&& (2147483647 : Int32)) % (3 : Int32))), .val (.ref (ad 3)), .val (.ref (ad 3)), .val (.int (1 : Int32))] [(.ref (ad 0)), (.ref (ad 4)), (.ref b1)])) rfl (by rw [hml]; rfl) (Steps.refl _) (argsL := [(.ref (ad 4)), (.ref (ad 0))]) (rest := []) (lenOf pd__Lcom_example_brazier_brazier_keyspace_ChangeOrder_Place_Lcom_example_brazier_brazier_keyspace_ChangeOrder_Link__V rfl) rfl (by show 2 * 0 + _ ≤ _; exact Nat.le_of_eq rfl) (hb hby at_324) (fun _ _ => ⟨rfl, e81, (by decide : 6 + 0 ≤ _), (by decide : 18 + 0 ≤ _)⟩)
          dsimp only [Pt.U, Pt.locs, Pt.cells, Pt.slots] at X82 l82 y82 z82 st82 hQ82
          subst l82 y82 z82
          obtain ⟨rfl, N82q, S82q⟩ := hQ82
          have N82 := Fr.app N81 N82q
          refine own_by (fun _ k => st82.trans k) ?_
          have S82 : own_S Z T82.heap n0 5 ad own_K b1 own_b125 own_a126 own_n127 own_w124 own_p128 := S82q
          show own_Fin p.tables e below _ (T82.setTop (mkF m 327 #[.val (.int p0), .val (.int p1), .val (.ref b1), .val (.ref (ad 1)), .val (.ref (ad 2)), .val (.ref (ad 3)), .val (.ref (ad 4)), .val (.ref (ad 0)), .val (.int ((p0 &&& (2147483647 : Int32)) % (3 : Int32))), .val (.int ((p1 &&& (2147483647 : Int32)) % (3 : Int32))), .val (.ref (ad 3)), .val (.ref (ad 3)), .val (.int (1 : Int32))] []))
          refine own_by (fun _ k => XS.aloadN X82.here hx rfl (hb hby at_327) rfl rfl k) ?_
          show own_Fin p.tables e below _ (T82.setTop (mkF m 328 #[.val (.int p0), .val (.int p1), .val (.ref b1), .val (.ref (ad 1)), .val (.ref (ad 2)), .val (.ref (ad 3)), .val (.ref (ad 4)), .val (.ref (ad 0)), .val (.int ((p0 &&& (2147483647 : Int32)) % (3 : Int32))), .val (.int ((p1 &&& (2147483647 : Int32)) % (3 : Int32))), .val (.ref (ad 3)), .val (.ref (ad 3)), .val (.int (1 : Int32))] [(.ref b1)]))
          refine own_by (fun _ k => XS.aload X82.here hx rfl (hb hby at_328) rfl rfl k) ?_
          show own_Fin p.tables e below _ (T82.setTop (mkF m 330 #[.val (.int p0), .val (.int p1), .val (.ref b1), .val (.ref (ad 1)), .val (.ref (ad 2)), .val (.ref (ad 3)), .val (.ref (ad 4)), .val (.ref (ad 0)), .val (.int ((p0 &&& (2147483647 : Int32)) % (3 : Int32))), .val (.int ((p1 &&& (2147483647 : Int32)) % (3 : Int32))), .val (.ref (ad 3)), .val (.ref (ad 3)), .val (.int (1 : Int32))] [(.ref (ad 3)), (.ref b1)]))
          obtain ⟨cq83, kq83, q83a, q83b, q83c⟩ := isOf hZ rfl S82.2.2.1
          obtain ⟨_, _, ⟨T83, L83, k83, n83⟩, -, X83, ⟨Lc83, hQ83, l83, y83, z83⟩, st83⟩ := X82.virtualBack hx (y := (⟨"com/example/brazier/brazier/keyspace/ChangeOrder", "changed", "(Lcom/example/brazier/brazier/keyspace/ChangeOrder$Link;)V"⟩ : MethodName)) (z := (⟨"com/example/brazier/brazier/keyspace/ChangeOrder", "changed", "(Lcom/example/brazier/brazier/keyspace/ChangeOrder$Link;)V"⟩ : MethodName)) hown (mvT hZ (hw _ (List.mem_of_getElem? (i := 75) rfl))) (mvT hZ (hw _ (List.mem_of_getElem? (i := 76) rfl))) (notFace_of_selects (args := #[]) (mvT hZ (hw _ (List.mem_of_getElem? (i := 78) rfl)))) (mvT hZ (hw _ (List.mem_of_getElem? (i := 78) rfl))) (mvT hZ (hw _ (List.mem_of_getElem? (i := 77) rfl))) (by decide) (backOf (W := 0) (rm13 l Z a0 hw [] 5 ad own_K b1 own_b125 own_a126 own_n127 own_w124 own_p128 3 4 T82.heap n0 S82.1 S82 sl wk (by decide) (by decide) (by decide) (fun _ => ⟨(own_wf1 (q := 4) (p := 2) (by decide) (by decide) (by decide) (by decide)), by decide⟩)) hZ (hw _ (List.mem_of_getElem? (i := 79) rfl)) (hw _ (List.mem_of_getElem? (i := 2) rfl)) (by decide) (by decide)) q83a q83c (g := (mkF m 330 #[.val (.int p0), .val (.int p1), .val (.ref b1), .val (.ref (ad 1)), .val (.ref (ad 2)), .val (.ref (ad 3)), .val (.ref (ad 4)), .val (.ref (ad 0)), .val (.int ((p0 &&& (2147483647 : Int32)) % (3 : Int32))), .val (.int ((p1 &&& (2147483647 : Int32)) % (3 : Int32))), .val (.ref (ad 3)), .val (.ref (ad 3)), .val (.int (1 : Int32))] [(.ref (ad 3)), (.ref b1)])) rfl (by rw [hml]; rfl) (Steps.refl _) (argsL := [(.ref (ad 3))]) (rest := []) (lenOf pd__Lcom_example_brazier_brazier_keyspace_ChangeOrder_Link__V rfl) rfl (by show 2 * 0 + _ ≤ _; exact Nat.le_of_eq rfl) (hb hby at_330) (fun _ _ => ⟨rfl, rfl, (by decide : 6 + 0 ≤ _), (by decide : 18 + 0 ≤ _)⟩)
          dsimp only [Pt.U, Pt.locs, Pt.cells, Pt.slots] at X83 l83 y83 z83 st83 hQ83
          subst l83 y83 z83
          obtain ⟨rfl, N83q, S83q⟩ := hQ83
          have N83 := Fr.app N82 N83q
          refine own_by (fun _ k => st83.trans k) ?_
          have S83 : own_S Z T83.heap n0 5 ad own_K b1 own_b129 own_a130 own_n131 own_w132 own_p128 := S83q
          show own_Fin p.tables e below _ (T83.setTop (mkF m 333 #[.val (.int p0), .val (.int p1), .val (.ref b1), .val (.ref (ad 1)), .val (.ref (ad 2)), .val (.ref (ad 3)), .val (.ref (ad 4)), .val (.ref (ad 0)), .val (.int ((p0 &&& (2147483647 : Int32)) % (3 : Int32))), .val (.int ((p1 &&& (2147483647 : Int32)) % (3 : Int32))), .val (.ref (ad 3)), .val (.ref (ad 3)), .val (.int (1 : Int32))] []))
          refine own_by (fun _ k => XS.aloadN X83.here hx rfl (hb hby at_333) rfl rfl k) ?_
          show own_Fin p.tables e below _ (T83.setTop (mkF m 334 #[.val (.int p0), .val (.int p1), .val (.ref b1), .val (.ref (ad 1)), .val (.ref (ad 2)), .val (.ref (ad 3)), .val (.ref (ad 4)), .val (.ref (ad 0)), .val (.int ((p0 &&& (2147483647 : Int32)) % (3 : Int32))), .val (.int ((p1 &&& (2147483647 : Int32)) % (3 : Int32))), .val (.ref (ad 3)), .val (.ref (ad 3)), .val (.int (1 : Int32))] [(.ref b1)]))
          refine own_by (fun _ k => XS.aload X83.here hx rfl (hb hby at_334) rfl rfl k) ?_
          show own_Fin p.tables e below _ (T83.setTop (mkF m 336 #[.val (.int p0), .val (.int p1), .val (.ref b1), .val (.ref (ad 1)), .val (.ref (ad 2)), .val (.ref (ad 3)), .val (.ref (ad 4)), .val (.ref (ad 0)), .val (.int ((p0 &&& (2147483647 : Int32)) % (3 : Int32))), .val (.int ((p1 &&& (2147483647 : Int32)) % (3 : Int32))), .val (.ref (ad 3)), .val (.ref (ad 3)), .val (.int (1 : Int32))] [(.ref (ad 4)), (.ref b1)]))
          obtain ⟨cq84, kq84, q84a, q84b, q84c⟩ := isOf hZ rfl S83.2.2.1
          obtain ⟨_, _, ⟨T84, L84, k84, n84⟩, -, X84, ⟨Lc84, hQ84, l84, y84, z84⟩, st84⟩ := X83.virtualBack hx (y := (⟨"com/example/brazier/brazier/keyspace/ChangeOrder", "after", "(Lcom/example/brazier/brazier/keyspace/ChangeOrder$Link;)Lcom/example/brazier/brazier/keyspace/ChangeOrder$Link;"⟩ : MethodName)) (z := (⟨"com/example/brazier/brazier/keyspace/ChangeOrder", "after", "(Lcom/example/brazier/brazier/keyspace/ChangeOrder$Link;)Lcom/example/brazier/brazier/keyspace/ChangeOrder$Link;"⟩ : MethodName)) hown (mvT hZ (hw _ (List.mem_of_getElem? (i := 44) rfl))) (mvT hZ (hw _ (List.mem_of_getElem? (i := 45) rfl))) (notFace_of_selects (args := #[]) (mvT hZ (hw _ (List.mem_of_getElem? (i := 47) rfl)))) (mvT hZ (hw _ (List.mem_of_getElem? (i := 47) rfl))) (mvT hZ (hw _ (List.mem_of_getElem? (i := 46) rfl))) (by decide) (backOf (W := 0) (rm7 l Z a0 hw [] 5 ad own_K b1 own_b129 own_a130 own_n131 own_w132 own_p128 4 T83.heap n0 S83.1 S83 sl wk (by decide)) hZ (hw _ (List.mem_of_getElem? (i := 48) rfl)) (hw _ (List.mem_of_getElem? (i := 2) rfl)) (by decide) (by decide)) q84a q84c (g := (mkF m 336 #[.val (.int p0), .val (.int p1), .val (.ref b1), .val (.ref (ad 1)), .val (.ref (ad 2)), .val (.ref (ad 3)), .val (.ref (ad 4)), .val (.ref (ad 0)), .val (.int ((p0 &&& (2147483647 : Int32)) % (3 : Int32))), .val (.int ((p1 &&& (2147483647 : Int32)) % (3 : Int32))), .val (.ref (ad 3)), .val (.ref (ad 3)), .val (.int (1 : Int32))] [(.ref (ad 4)), (.ref b1)])) rfl (by rw [hml]; rfl) (Steps.refl _) (argsL := [(.ref (ad 4))]) (rest := []) (lenOf pd__Lcom_example_brazier_brazier_keyspace_ChangeOrder_Link__Lcom_example_brazier_brazier_keyspace_ChangeOrder_Link_ rfl) rfl (by show 2 * 0 + _ ≤ _; exact Nat.le_of_eq rfl) (hb hby at_336) (fun _ _ => ⟨rfl, rfl, (by decide : 6 + 0 ≤ _), (by decide : 18 + 0 ≤ _)⟩)
          dsimp only [Pt.U, Pt.locs, Pt.cells, Pt.slots] at X84 l84 y84 z84 st84 hQ84
          subst l84 y84 z84
          obtain ⟨hv84, N84q, e84⟩ := hQ84
          obtain rfl := hv84.trans (congrArg some (show own_nx ad (own_a130 4) = (.ref (ad 3)) from (by rw [show own_a130 4 = some 3 from by decide]; rfl)))
          have N84 := Fr.app N83 N84q
          refine own_by (fun _ k => st84.trans k) ?_
          show own_Fin p.tables e below _ (T84.setTop (mkF m 339 #[.val (.int p0), .val (.int p1), .val (.ref b1), .val (.ref (ad 1)), .val (.ref (ad 2)), .val (.ref (ad 3)), .val (.ref (ad 4)), .val (.ref (ad 0)), .val (.int ((p0 &&& (2147483647 : Int32)) % (3 : Int32))), .val (.int ((p1 &&& (2147483647 : Int32)) % (3 : Int32))), .val (.ref (ad 3)), .val (.ref (ad 3)), .val (.int (1 : Int32))] [(.ref (ad 3))]))
          refine own_by (fun _ k => XS.aload X84.here hx rfl (hb hby at_339) rfl rfl k) ?_
          show own_Fin p.tables e below _ (T84.setTop (mkF m 341 #[.val (.int p0), .val (.int p1), .val (.ref b1), .val (.ref (ad 1)), .val (.ref (ad 2)), .val (.ref (ad 3)), .val (.ref (ad 4)), .val (.ref (ad 0)), .val (.int ((p0 &&& (2147483647 : Int32)) % (3 : Int32))), .val (.int ((p1 &&& (2147483647 : Int32)) % (3 : Int32))), .val (.ref (ad 3)), .val (.ref (ad 3)), .val (.int (1 : Int32))] [(.ref (ad 3)), (.ref (ad 3))]))
          refine own_by (fun _ k => Jvm.RoadKit.acmp (g := (mkF m 341 #[.val (.int p0), .val (.int p1), .val (.ref b1), .val (.ref (ad 1)), .val (.ref (ad 2)), .val (.ref (ad 3)), .val (.ref (ad 4)), .val (.ref (ad 0)), .val (.int ((p0 &&& (2147483647 : Int32)) % (3 : Int32))), .val (.int ((p1 &&& (2147483647 : Int32)) % (3 : Int32))), .val (.ref (ad 3)), .val (.ref (ad 3)), .val (.int (1 : Int32))] [(.ref (ad 3)), (.ref (ad 3))])) X84 hx rfl rfl rfl (pc0 := 341) (pc' := 344) (same := true) rfl (hb hby at_341) rfl (decide_eq_true rfl) (by decide) (by decide) k) ?_
          show own_Fin p.tables e below _ (T84.setTop (mkF m 344 #[.val (.int p0), .val (.int p1), .val (.ref b1), .val (.ref (ad 1)), .val (.ref (ad 2)), .val (.ref (ad 3)), .val (.ref (ad 4)), .val (.ref (ad 0)), .val (.int ((p0 &&& (2147483647 : Int32)) % (3 : Int32))), .val (.int ((p1 &&& (2147483647 : Int32)) % (3 : Int32))), .val (.ref (ad 3)), .val (.ref (ad 3)), .val (.int (1 : Int32))] []))
          refine own_by (fun _ k => XS.aloadN X84.here hx rfl (hb hby at_344) rfl rfl k) ?_
          show own_Fin p.tables e below _ (T84.setTop (mkF m 345 #[.val (.int p0), .val (.int p1), .val (.ref b1), .val (.ref (ad 1)), .val (.ref (ad 2)), .val (.ref (ad 3)), .val (.ref (ad 4)), .val (.ref (ad 0)), .val (.int ((p0 &&& (2147483647 : Int32)) % (3 : Int32))), .val (.int ((p1 &&& (2147483647 : Int32)) % (3 : Int32))), .val (.ref (ad 3)), .val (.ref (ad 3)), .val (.int (1 : Int32))] [(.ref b1)]))
          refine own_by (fun _ k => XS.aload X84.here hx rfl (hb hby at_345) rfl rfl k) ?_
          show own_Fin p.tables e below _ (T84.setTop (mkF m 347 #[.val (.int p0), .val (.int p1), .val (.ref b1), .val (.ref (ad 1)), .val (.ref (ad 2)), .val (.ref (ad 3)), .val (.ref (ad 4)), .val (.ref (ad 0)), .val (.int ((p0 &&& (2147483647 : Int32)) % (3 : Int32))), .val (.int ((p1 &&& (2147483647 : Int32)) % (3 : Int32))), .val (.ref (ad 3)), .val (.ref (ad 3)), .val (.int (1 : Int32))] [(.ref (ad 3)), (.ref b1)]))
          obtain ⟨cq85, kq85, q85a, q85b, q85c⟩ := isOf hZ e84 S83.2.2.1
          obtain ⟨_, _, ⟨T85, L85, k85, n85⟩, -, X85, ⟨Lc85, hQ85, l85, y85, z85⟩, st85⟩ := X84.virtualBack hx (y := (⟨"com/example/brazier/brazier/keyspace/ChangeOrder", "after", "(Lcom/example/brazier/brazier/keyspace/ChangeOrder$Link;)Lcom/example/brazier/brazier/keyspace/ChangeOrder$Link;"⟩ : MethodName)) (z := (⟨"com/example/brazier/brazier/keyspace/ChangeOrder", "after", "(Lcom/example/brazier/brazier/keyspace/ChangeOrder$Link;)Lcom/example/brazier/brazier/keyspace/ChangeOrder$Link;"⟩ : MethodName)) hown (mvT hZ (hw _ (List.mem_of_getElem? (i := 44) rfl))) (mvT hZ (hw _ (List.mem_of_getElem? (i := 45) rfl))) (notFace_of_selects (args := #[]) (mvT hZ (hw _ (List.mem_of_getElem? (i := 47) rfl)))) (mvT hZ (hw _ (List.mem_of_getElem? (i := 47) rfl))) (mvT hZ (hw _ (List.mem_of_getElem? (i := 46) rfl))) (by decide) (backOf (W := 0) (rm7 l Z a0 hw [] 5 ad own_K b1 own_b129 own_a130 own_n131 own_w132 own_p128 3 T83.heap n0 S83.1 S83 sl wk (by decide)) hZ (hw _ (List.mem_of_getElem? (i := 48) rfl)) (hw _ (List.mem_of_getElem? (i := 2) rfl)) (by decide) (by decide)) q85a q85c (g := (mkF m 347 #[.val (.int p0), .val (.int p1), .val (.ref b1), .val (.ref (ad 1)), .val (.ref (ad 2)), .val (.ref (ad 3)), .val (.ref (ad 4)), .val (.ref (ad 0)), .val (.int ((p0 &&& (2147483647 : Int32)) % (3 : Int32))), .val (.int ((p1 &&& (2147483647 : Int32)) % (3 : Int32))), .val (.ref (ad 3)), .val (.ref (ad 3)), .val (.int (1 : Int32))] [(.ref (ad 3)), (.ref b1)])) rfl (by rw [hml]; rfl) (Steps.refl _) (argsL := [(.ref (ad 3))]) (rest := []) (lenOf pd__Lcom_example_brazier_brazier_keyspace_ChangeOrder_Link__Lcom_example_brazier_brazier_keyspace_ChangeOrder_Link_ rfl) rfl (by show 2 * 0 + _ ≤ _; exact Nat.le_of_eq rfl) (hb hby at_347) (fun _ _ => ⟨rfl, e84, (by decide : 6 + 0 ≤ _), (by decide : 18 + 0 ≤ _)⟩)
          dsimp only [Pt.U, Pt.locs, Pt.cells, Pt.slots] at X85 l85 y85 z85 st85 hQ85
          subst l85 y85 z85
          obtain ⟨hv85, N85q, e85⟩ := hQ85
          obtain rfl := hv85.trans (congrArg some (show own_nx ad (own_a130 3) = (.ref (ad 0)) from (by rw [show own_a130 3 = some 0 from by decide]; rfl)))
          have N85 := Fr.app N84 N85q
          refine own_by (fun _ k => st85.trans k) ?_
          show own_Fin p.tables e below _ (T85.setTop (mkF m 350 #[.val (.int p0), .val (.int p1), .val (.ref b1), .val (.ref (ad 1)), .val (.ref (ad 2)), .val (.ref (ad 3)), .val (.ref (ad 4)), .val (.ref (ad 0)), .val (.int ((p0 &&& (2147483647 : Int32)) % (3 : Int32))), .val (.int ((p1 &&& (2147483647 : Int32)) % (3 : Int32))), .val (.ref (ad 3)), .val (.ref (ad 3)), .val (.int (1 : Int32))] [(.ref (ad 0))]))
          refine own_by (fun _ k => XS.aload X85.here hx rfl (hb hby at_350) rfl rfl k) ?_
          show own_Fin p.tables e below _ (T85.setTop (mkF m 352 #[.val (.int p0), .val (.int p1), .val (.ref b1), .val (.ref (ad 1)), .val (.ref (ad 2)), .val (.ref (ad 3)), .val (.ref (ad 4)), .val (.ref (ad 0)), .val (.int ((p0 &&& (2147483647 : Int32)) % (3 : Int32))), .val (.int ((p1 &&& (2147483647 : Int32)) % (3 : Int32))), .val (.ref (ad 3)), .val (.ref (ad 3)), .val (.int (1 : Int32))] [(.ref (ad 0)), (.ref (ad 0))]))
          refine own_by (fun _ k => Jvm.RoadKit.acmp (g := (mkF m 352 #[.val (.int p0), .val (.int p1), .val (.ref b1), .val (.ref (ad 1)), .val (.ref (ad 2)), .val (.ref (ad 3)), .val (.ref (ad 4)), .val (.ref (ad 0)), .val (.int ((p0 &&& (2147483647 : Int32)) % (3 : Int32))), .val (.int ((p1 &&& (2147483647 : Int32)) % (3 : Int32))), .val (.ref (ad 3)), .val (.ref (ad 3)), .val (.int (1 : Int32))] [(.ref (ad 0)), (.ref (ad 0))])) X85 hx rfl rfl rfl (pc0 := 352) (pc' := 355) (same := true) rfl (hb hby at_352) rfl (decide_eq_true rfl) (by decide) (by decide) k) ?_
          show own_Fin p.tables e below _ (T85.setTop (mkF m 355 #[.val (.int p0), .val (.int p1), .val (.ref b1), .val (.ref (ad 1)), .val (.ref (ad 2)), .val (.ref (ad 3)), .val (.ref (ad 4)), .val (.ref (ad 0)), .val (.int ((p0 &&& (2147483647 : Int32)) % (3 : Int32))), .val (.int ((p1 &&& (2147483647 : Int32)) % (3 : Int32))), .val (.ref (ad 3)), .val (.ref (ad 3)), .val (.int (1 : Int32))] []))
          refine own_by (fun _ k => XS.iconst X85.here hx rfl (hb hby at_355) k) ?_
          show own_Fin p.tables e below _ (T85.setTop (mkF m 356 #[.val (.int p0), .val (.int p1), .val (.ref b1), .val (.ref (ad 1)), .val (.ref (ad 2)), .val (.ref (ad 3)), .val (.ref (ad 4)), .val (.ref (ad 0)), .val (.int ((p0 &&& (2147483647 : Int32)) % (3 : Int32))), .val (.int ((p1 &&& (2147483647 : Int32)) % (3 : Int32))), .val (.ref (ad 3)), .val (.ref (ad 3)), .val (.int (1 : Int32))] [(.int (1 : Int32))]))
          refine own_by (fun _ k => XS.goto X85.here hx rfl (pc0 := 356) (pc' := 360) rfl (hb hby at_356) (by decide) (by decide) k) ?_
          show own_Fin p.tables e below _ (T85.setTop (mkF m 360 #[.val (.int p0), .val (.int p1), .val (.ref b1), .val (.ref (ad 1)), .val (.ref (ad 2)), .val (.ref (ad 3)), .val (.ref (ad 4)), .val (.ref (ad 0)), .val (.int ((p0 &&& (2147483647 : Int32)) % (3 : Int32))), .val (.int ((p1 &&& (2147483647 : Int32)) % (3 : Int32))), .val (.ref (ad 3)), .val (.ref (ad 3)), .val (.int (1 : Int32))] [(.int (1 : Int32))]))
          have ef : f0 p0 p1 = (1 : Int32) := by unfold f0; rw [if_neg hc15, if_neg hc39, if_neg hc63, if_neg hc71]
          exact own_retN X85 hx (t := .boolean) Bd.returns hlk (by simp) (hb hby at_360) (by decide) (by decide) ⟨by rw [ef]; rfl, N85⟩
theorem own_law (p0 p1 : Int32) : f0 p0 p1 = 1 := by
  unfold f0
  repeat' split
  all_goals rfl
set_option maxRecDepth 65536 in
set_option maxHeartbeats 40000000 in
theorem comes_1 {Post : Tables → Env → Array Value → State → Outcome → State → Prop} (hpost : ∀ tb e args s v u, (limb_1_1.after args s (.returned v) u = true ∧ limb_1_2.after args s (.returned v) u = true ∧ True) → FrameEnd s (.returned v) u (Jvm.fieldLocs frame_1_writes args s ++ Jvm.arrayLocs frame_1_arrays args s ++ Jvm.staticLocs frame_1_statics s) 24 128 → Post tb e args s (.returned v) u) :
    ArmFor flags0 classFile x code maxLocals ret World_1 tables_1 room_1 Calls_1 rest_1 Pre_1 Post := by
  intro l hfl _ _ p e ha hc hk s m args below hf hA hF happ hP
  obtain ⟨hcalls, hrest, hpre⟩ := hP
  obtain ⟨-, -, -, hnamed, -, -, -, hat⟩ := (Spec.applies_iff hf).mp happ
  obtain ⟨hg, hn⟩ := and_e (Cond.before_iff.mp (show (Jvm.Cond.and given_1 narrow_1).before args s = true from hpre))
  obtain ⟨c0, r0⟩ := and_e hg
  obtain ⟨c1, r1⟩ := and_e r0
  obtain ⟨w0, w1, rfl⟩ : ∃ w0 w1 : Value, args = #[w0, w1] := by
    have hs : args.size = 2 := by simpa [Cond.value, given_1] using c0
    obtain ⟨L⟩ := args
    match L, hs with
    | [w0, w1], _ => exact ⟨w0, w1, rfl⟩
  have hw := fun d (hd : d ∈ tables_1) => atoms_spec (ws := Jvm.Cond.code x code maxLocals ret :: tables_1) hat d (List.mem_cons_of_mem _ hd)
  obtain ⟨i0, ei0⟩ := is_v c1
  obtain rfl : w0 = (.int i0) := Option.some.inj ei0
  obtain ⟨i1, ei1⟩ := is_v r1
  obtain rfl : w1 = (.int i1) := Option.some.inj ei1
  obtain ⟨n, o, h1, h2, h3, _, L, rfl, ⟨rfl, N⟩, hq⟩ := rm0 l s _ hw tables_1 i0 i1  s.heap s.heap.size (Nat.le_refl _)  p e ha hc hk s m _ below hf ((Spec.applies_iff_loose hf).mp happ).1 ⟨rfl, State.Warmed39.refl s, rfl⟩ trivial
  refine ⟨n, _, h1, h2, h3, hpost _ _ _ _ _ _ ⟨Cond.after_iff.mpr rfl, Cond.after_iff.mpr (eq_i res_at (Term.int_eval (1)) (congrArg Value.int (own_law i0 i1))), trivial⟩ ⟨hq.1, hq.2.1, (hq.2.2.sift fun y hy => Or.inr (N y hy)).mono (by decide) (by decide)⟩⟩
theorem main_1_1 : Claimed_1_1 := comes_1 fun _ _ _ _ _ _ h hF => ⟨h.1, hF⟩
theorem main_1_2 : Claimed_1_2 := comes_1 fun _ _ _ _ _ _ h hF => ⟨h.2.1, hF⟩
end Jvm.Pilot.@@N@@
namespace Jvm.Pilot.@@N@@
open Jvm Jvm.ClassFile Sem Op Lib Jvm.Free Jvm.Stand Jvm.Pilot.@@N@@.Jvm.D
/-! MADE BY PROGRAM (witnessworld.py) out of the Statement's table words and the real class files: 12 classes; the members and pool entries that the words name. The judged class is class 1, her method 2. -/
namespace start1
open Jvm.ClassFile
def u (s : String) : CpInfo := .utf8 (stringToUtf16 s)
/-- a pool by its gaps: so many unusable entries, then the entry; so many at the end -/
def gap : Nat → List CpInfo → List CpInfo
  | 0, r => r
  | n + 1, r => .unusable :: gap n r
def poolList (es : List (Nat × CpInfo)) (last : Nat) : List CpInfo := es.foldr (fun e r => gap e.1 (e.2 :: r)) (gap last [])
def pool (es : List (Nat × CpInfo)) (last : Nat) : Array CpInfo := ⟨poolList es last⟩
def fileOf (pool : Array CpInfo) (this : Nat) (attrs : Array Attribute := #[]) (ms : Array MethodInfo := #[]) (fl : Nat := 33) (sup : Nat := 0) (ifs : Array Nat := #[]) (fds : Array FieldInfo := #[]) : ClassFile where
  minorVersion := 0
  majorVersion := 65
  constantPool := pool
  accessFlags := fl
  thisClass := this
  superClass := sup
  interfaces := ifs
  fields := fds
  methods := ms
  attributes := attrs
def plain (name : String) (sup : Option ClassId) : Class where
  name := name
  kind := .ordinary
  loader := none
  accessFlags := 33
  super := sup
  interfaces := #[]
  cf := none
  fields := #[]
  methods := #[]
  instanceTypes := #[]
  staticTypes := #[]
  resolved := #[]
  callSites := []
  init := .initialized
  statics := none
  mirror := none

def pool0 : Array CpInfo := pool [(5, u "<init>"), (0, u "()V"), (1, .class_ 10), (1, u "java/lang/Object")] 113

def k0c0 : Code := { maxStack := 0, maxLocals := 1, code := object_method_1_code, exceptionTable := #[], attributes := #[] }
def k0m0 : Method := { name := "<init>", desc := "()V", sig := { parameters := [], returnType := none }, accessFlags := 1, code := some k0c0 }
/-- java/lang/Object -/
def k0 : Class := { plain "java/lang/Object" none with
  accessFlags := 33
  interfaces := #[]
  cf := some (fileOf pool0 8 #[] #[{ accessFlags := 1, nameIndex := 5, descriptorIndex := 6, attributes := #[] }] 33 0 #[] #[])
  fields := #[]
  methods := #[k0m0]
  instanceTypes := #[]
  staticTypes := #[]
  resolved := Array.replicate 124 none
  statics := none }

def pool1 : Array CpInfo := pool [(2, .class_ 4), (0, .nameAndType 5 6), (0, u "java/lang/Object"), (0, u "<init>"), (0, u "()V"), (0, .methodref 8 9), (0, .class_ 10), (0, .nameAndType 11 12), (0, u "com/example/brazier/brazier/keyspace/ChangeOrder"), (0, u "after"), (0, u "(Lcom/example/brazier/brazier/keyspace/ChangeOrder$Link;)Lcom/example/brazier/brazier/keyspace/ChangeOrder$Link;"), (0, .methodref 8 3), (0, .class_ 15), (0, u "com/example/brazier/brazier/keyspace/ChangeOrder$Link"), (0, .methodref 14 3), (0, .class_ 18), (0, u "com/example/brazier/brazier/keyspace/ChangeOrder$Place"), (0, .methodref 17 3), (0, .methodref 8 21), (0, .nameAndType 22 23), (0, u "add"), (0, u "(Lcom/example/brazier/brazier/keyspace/ChangeOrder$Link;)V"), (0, .integer 2147483647), (0, .methodref 8 26), (0, .nameAndType 27 28), (0, u "passTo"), (0, u "(Lcom/example/brazier/brazier/keyspace/ChangeOrder$Place;Lcom/example/brazier/brazier/keyspace/ChangeOrder$Link;)V"), (0, .methodref 8 30), (0, .nameAndType 31 23), (0, u "changed"), (0, .methodref 33 34), (0, .class_ 35), (0, .nameAndType 36 37), (0, u "com/example/brazier/brazier/keyspace/ChangeOrderAddPinLaw"), (0, u "ringIs"), (0, u "(Lcom/example/brazier/brazier/keyspace/ChangeOrder;Lcom/example/brazier/brazier/keyspace/ChangeOrder$Link;Lcom/example/brazier/brazier/keyspace/ChangeOrder$Link;Lcom/example/brazier/brazier/keyspace/ChangeOrder$Link;Lcom/example/brazier/brazier/keyspace/ChangeOrder$Link;Lcom/example/brazier/brazier/keyspace/ChangeOrder$Link;)Z"), (3, u "law"), (0, u "(II)Z")] 5

def k1m0 : Method := { name := "<init>", desc := "()V", sig := { parameters := [], returnType := none }, accessFlags := 1, code := none }
def k1c1 : Code := { maxStack := 2, maxLocals := 11, code := method_2_code, exceptionTable := #[], attributes := #[] }
def k1m1 : Method := { name := "ringIs", desc := "(Lcom/example/brazier/brazier/keyspace/ChangeOrder;Lcom/example/brazier/brazier/keyspace/ChangeOrder$Link;Lcom/example/brazier/brazier/keyspace/ChangeOrder$Link;Lcom/example/brazier/brazier/keyspace/ChangeOrder$Link;Lcom/example/brazier/brazier/keyspace/ChangeOrder$Link;Lcom/example/brazier/brazier/keyspace/ChangeOrder$Link;)Z", sig := { parameters := [(.object "com/example/brazier/brazier/keyspace/ChangeOrder"), (.object "com/example/brazier/brazier/keyspace/ChangeOrder$Link"), (.object "com/example/brazier/brazier/keyspace/ChangeOrder$Link"), (.object "com/example/brazier/brazier/keyspace/ChangeOrder$Link"), (.object "com/example/brazier/brazier/keyspace/ChangeOrder$Link"), (.object "com/example/brazier/brazier/keyspace/ChangeOrder$Link")], returnType := some .boolean }, accessFlags := 10, code := some k1c1 }
def k1c2 : Code := { maxStack := 6, maxLocals := 13, code := code, exceptionTable := #[], attributes := #[] }
def k1m2 : Method := { name := "law", desc := "(II)Z", sig := { parameters := [.int, .int], returnType := some .boolean }, accessFlags := 9, code := some k1c2 }
/-- com/example/brazier/brazier/keyspace/ChangeOrderAddPinLaw -/
def k1 : Class := { plain "com/example/brazier/brazier/keyspace/ChangeOrderAddPinLaw" (some 0) with
  accessFlags := 49
  interfaces := #[]
  cf := some (fileOf pool1 33 #[] #[{ accessFlags := 1, nameIndex := 5, descriptorIndex := 6, attributes := #[] }, { accessFlags := 10, nameIndex := 36, descriptorIndex := 37, attributes := #[] }, { accessFlags := 9, nameIndex := 41, descriptorIndex := 42, attributes := #[] }] 49 2 #[] #[])
  fields := #[]
  methods := #[k1m0, k1m1, k1m2]
  instanceTypes := #[]
  staticTypes := #[]
  resolved := Array.replicate 48 none
  statics := none }

def pool2 : Array CpInfo := pool [(1, .methodref 2 3), (0, .class_ 4), (0, .nameAndType 5 6), (0, u "java/lang/Object"), (0, u "<init>"), (0, u "()V"), (0, .class_ 8), (0, u "com/example/brazier/brazier/keyspace/ChangeOrder$Link"), (0, .methodref 7 3), (0, .fieldref 11 12), (0, .class_ 13), (0, .nameAndType 14 15), (0, u "com/example/brazier/brazier/keyspace/ChangeOrder"), (0, u "start"), (0, u "Lcom/example/brazier/brazier/keyspace/ChangeOrder$Link;"), (0, .fieldref 7 17), (0, .nameAndType 18 15), (0, u "before"), (0, .fieldref 7 20), (0, .nameAndType 21 15), (0, u "after"), (0, .fieldref 11 23), (0, .nameAndType 24 25), (0, u "newest"), (0, u "J"), (0, .fieldref 7 27), (0, .nameAndType 28 25), (0, u "number"), (0, .methodref 11 30), (0, .nameAndType 31 32), (0, u "linkBetween"), (0, u "(Lcom/example/brazier/brazier/keyspace/ChangeOrder$Link;Lcom/example/brazier/brazier/keyspace/ChangeOrder$Link;Lcom/example/brazier/brazier/keyspace/ChangeOrder$Link;)V"), (0, .fieldref 11 34), (0, .nameAndType 35 25), (0, u "passed"), (0, .methodref 11 37), (0, .nameAndType 38 39), (0, u "remove"), (0, u "(Lcom/example/brazier/brazier/keyspace/ChangeOrder$Link;)V"), (0, .methodref 11 41), (0, .nameAndType 42 39), (0, u "add"), (3, u "(Lcom/example/brazier/brazier/keyspace/ChangeOrder$Place;Lcom/example/brazier/brazier/keyspace/ChangeOrder$Link;)V"), (0, .methodref 11 48), (0, .nameAndType 49 32), (0, u "placeBetween"), (0, .methodref 11 51), (0, .nameAndType 52 53), (0, u "numberOf"), (0, u "(Lcom/example/brazier/brazier/keyspace/ChangeOrder$Link;)J"), (0, .methodref 55 56), (0, .class_ 57), (0, .nameAndType 58 59), (0, u "java/lang/Math"), (0, u "max"), (0, u "(JJ)J"), (3, .class_ 64), (0, u "com/example/brazier/brazier/keyspace/ChangeOrder$Place"), (21, u "changed"), (4, u "passTo"), (0, u "(Lcom/example/brazier/brazier/keyspace/ChangeOrder$Link;)Lcom/example/brazier/brazier/keyspace/ChangeOrder$Link;")] 8

def k2c0 : Code := { maxStack := 3, maxLocals := 1, code := prog_37_method_1_code, exceptionTable := #[], attributes := #[] }
def k2m0 : Method := { name := "<init>", desc := "()V", sig := { parameters := [], returnType := none }, accessFlags := 0, code := some k2c0 }
def k2c1 : Code := { maxStack := 6, maxLocals := 2, code := prog_37_method_2_code, exceptionTable := #[], attributes := #[] }
def k2m1 : Method := { name := "add", desc := "(Lcom/example/brazier/brazier/keyspace/ChangeOrder$Link;)V", sig := { parameters := [(.object "com/example/brazier/brazier/keyspace/ChangeOrder$Link")], returnType := none }, accessFlags := 0, code := some k2c1 }
def k2c2 : Code := { maxStack := 4, maxLocals := 2, code := prog_37_method_3_code, exceptionTable := #[], attributes := #[] }
def k2m2 : Method := { name := "changed", desc := "(Lcom/example/brazier/brazier/keyspace/ChangeOrder$Link;)V", sig := { parameters := [(.object "com/example/brazier/brazier/keyspace/ChangeOrder$Link")], returnType := none }, accessFlags := 0, code := some k2c2 }
def k2c3 : Code := { maxStack := 2, maxLocals := 2, code := prog_37_method_4_code, exceptionTable := #[], attributes := #[] }
def k2m3 : Method := { name := "remove", desc := "(Lcom/example/brazier/brazier/keyspace/ChangeOrder$Link;)V", sig := { parameters := [(.object "com/example/brazier/brazier/keyspace/ChangeOrder$Link")], returnType := none }, accessFlags := 0, code := some k2c3 }
def k2c4 : Code := { maxStack := 5, maxLocals := 3, code := prog_37_method_8_code, exceptionTable := #[], attributes := #[] }
def k2m4 : Method := { name := "passTo", desc := "(Lcom/example/brazier/brazier/keyspace/ChangeOrder$Place;Lcom/example/brazier/brazier/keyspace/ChangeOrder$Link;)V", sig := { parameters := [(.object "com/example/brazier/brazier/keyspace/ChangeOrder$Place"), (.object "com/example/brazier/brazier/keyspace/ChangeOrder$Link")], returnType := none }, accessFlags := 0, code := some k2c4 }
def k2c5 : Code := { maxStack := 1, maxLocals := 2, code := prog_37_method_9_code, exceptionTable := #[], attributes := #[] }
def k2m5 : Method := { name := "after", desc := "(Lcom/example/brazier/brazier/keyspace/ChangeOrder$Link;)Lcom/example/brazier/brazier/keyspace/ChangeOrder$Link;", sig := { parameters := [(.object "com/example/brazier/brazier/keyspace/ChangeOrder$Link")], returnType := some (.object "com/example/brazier/brazier/keyspace/ChangeOrder$Link") }, accessFlags := 0, code := some k2c5 }
def k2c6 : Code := { maxStack := 2, maxLocals := 3, code := prog_37_method_11_code, exceptionTable := #[], attributes := #[] }
def k2m6 : Method := { name := "linkBetween", desc := "(Lcom/example/brazier/brazier/keyspace/ChangeOrder$Link;Lcom/example/brazier/brazier/keyspace/ChangeOrder$Link;Lcom/example/brazier/brazier/keyspace/ChangeOrder$Link;)V", sig := { parameters := [(.object "com/example/brazier/brazier/keyspace/ChangeOrder$Link"), (.object "com/example/brazier/brazier/keyspace/ChangeOrder$Link"), (.object "com/example/brazier/brazier/keyspace/ChangeOrder$Link")], returnType := none }, accessFlags := 10, code := some k2c6 }
def k2c7 : Code := { maxStack := 3, maxLocals := 3, code := prog_37_method_12_code, exceptionTable := #[], attributes := #[] }
def k2m7 : Method := { name := "placeBetween", desc := "(Lcom/example/brazier/brazier/keyspace/ChangeOrder$Link;Lcom/example/brazier/brazier/keyspace/ChangeOrder$Link;Lcom/example/brazier/brazier/keyspace/ChangeOrder$Link;)V", sig := { parameters := [(.object "com/example/brazier/brazier/keyspace/ChangeOrder$Link"), (.object "com/example/brazier/brazier/keyspace/ChangeOrder$Link"), (.object "com/example/brazier/brazier/keyspace/ChangeOrder$Link")], returnType := none }, accessFlags := 10, code := some k2c7 }
def k2c8 : Code := { maxStack := 2, maxLocals := 1, code := prog_37_method_13_code, exceptionTable := #[], attributes := #[] }
def k2m8 : Method := { name := "numberOf", desc := "(Lcom/example/brazier/brazier/keyspace/ChangeOrder$Link;)J", sig := { parameters := [(.object "com/example/brazier/brazier/keyspace/ChangeOrder$Link")], returnType := some .long }, accessFlags := 10, code := some k2c8 }
/-- com/example/brazier/brazier/keyspace/ChangeOrder -/
def k2 : Class := { plain "com/example/brazier/brazier/keyspace/ChangeOrder" (some 0) with
  accessFlags := 48
  interfaces := #[]
  cf := some (fileOf pool2 11 #[.nestMembers #[63, 7]] #[{ accessFlags := 0, nameIndex := 5, descriptorIndex := 6, attributes := #[] }, { accessFlags := 0, nameIndex := 42, descriptorIndex := 39, attributes := #[] }, { accessFlags := 0, nameIndex := 86, descriptorIndex := 39, attributes := #[] }, { accessFlags := 0, nameIndex := 38, descriptorIndex := 39, attributes := #[] }, { accessFlags := 0, nameIndex := 91, descriptorIndex := 46, attributes := #[] }, { accessFlags := 0, nameIndex := 21, descriptorIndex := 92, attributes := #[] }, { accessFlags := 10, nameIndex := 31, descriptorIndex := 32, attributes := #[] }, { accessFlags := 10, nameIndex := 49, descriptorIndex := 32, attributes := #[] }, { accessFlags := 10, nameIndex := 52, descriptorIndex := 53, attributes := #[] }] 48 2 #[] #[{ accessFlags := 18, nameIndex := 14, descriptorIndex := 15, attributes := #[] }, { accessFlags := 2, nameIndex := 24, descriptorIndex := 25, attributes := #[] }, { accessFlags := 2, nameIndex := 35, descriptorIndex := 25, attributes := #[] }])
  fields := #[{ name := "start", type := (.object "com/example/brazier/brazier/keyspace/ChangeOrder$Link"), accessFlags := 18, slot := 0, constantValue := 0 }, { name := "newest", type := .long, accessFlags := 2, slot := 1, constantValue := 0 }, { name := "passed", type := .long, accessFlags := 2, slot := 2, constantValue := 0 }]
  methods := #[k2m0, k2m1, k2m2, k2m3, k2m4, k2m5, k2m6, k2m7, k2m8]
  instanceTypes := #[(.object "com/example/brazier/brazier/keyspace/ChangeOrder$Link"), .long, .long]
  staticTypes := #[]
  resolved := ((((Array.replicate 101 none).setIfInBounds 16 (some (.field 3 0))).setIfInBounds 19 (some (.field 3 1))).setIfInBounds 26 (some (.field 3 2)))
  statics := none }

def pool3 : Array CpInfo := pool [(1, .methodref 2 3), (0, .class_ 4), (0, .nameAndType 5 6), (0, u "java/lang/Object"), (0, u "<init>"), (0, u "()V"), (0, .class_ 8), (0, u "com/example/brazier/brazier/keyspace/ChangeOrder$Link"), (0, u "before"), (0, u "Lcom/example/brazier/brazier/keyspace/ChangeOrder$Link;"), (0, u "after"), (0, u "number"), (0, u "J"), (5, .class_ 20), (0, u "com/example/brazier/brazier/keyspace/ChangeOrder")] 2

def k3c0 : Code := { maxStack := 1, maxLocals := 1, code := prog_38_method_1_code, exceptionTable := #[], attributes := #[] }
def k3m0 : Method := { name := "<init>", desc := "()V", sig := { parameters := [], returnType := none }, accessFlags := 0, code := some k3c0 }
/-- com/example/brazier/brazier/keyspace/ChangeOrder$Link -/
def k3 : Class := { plain "com/example/brazier/brazier/keyspace/ChangeOrder$Link" (some 0) with
  accessFlags := 32
  interfaces := #[]
  cf := some (fileOf pool3 7 #[.nestHost 19] #[{ accessFlags := 0, nameIndex := 5, descriptorIndex := 6, attributes := #[] }] 32 2 #[] #[{ accessFlags := 2, nameIndex := 9, descriptorIndex := 10, attributes := #[] }, { accessFlags := 2, nameIndex := 11, descriptorIndex := 10, attributes := #[] }, { accessFlags := 2, nameIndex := 12, descriptorIndex := 13, attributes := #[] }])
  fields := #[{ name := "before", type := (.object "com/example/brazier/brazier/keyspace/ChangeOrder$Link"), accessFlags := 2, slot := 0, constantValue := 0 }, { name := "after", type := (.object "com/example/brazier/brazier/keyspace/ChangeOrder$Link"), accessFlags := 2, slot := 1, constantValue := 0 }, { name := "number", type := .long, accessFlags := 2, slot := 2, constantValue := 0 }]
  methods := #[k3m0]
  instanceTypes := #[(.object "com/example/brazier/brazier/keyspace/ChangeOrder$Link"), (.object "com/example/brazier/brazier/keyspace/ChangeOrder$Link"), .long]
  staticTypes := #[]
  resolved := Array.replicate 23 none
  statics := none }

def pool4 : Array CpInfo := pool [(1, .methodref 2 3), (0, .class_ 4), (0, .nameAndType 5 6), (0, u "com/example/brazier/brazier/keyspace/ChangeOrder$Link"), (0, u "<init>"), (0, u "()V"), (0, .class_ 8), (0, u "com/example/brazier/brazier/keyspace/ChangeOrder$Place"), (5, .class_ 15), (0, u "com/example/brazier/brazier/keyspace/ChangeOrder")] 3

def k4c0 : Code := { maxStack := 1, maxLocals := 1, code := prog_39_method_1_code, exceptionTable := #[], attributes := #[] }
def k4m0 : Method := { name := "<init>", desc := "()V", sig := { parameters := [], returnType := none }, accessFlags := 0, code := some k4c0 }
/-- com/example/brazier/brazier/keyspace/ChangeOrder$Place -/
def k4 : Class := { plain "com/example/brazier/brazier/keyspace/ChangeOrder$Place" (some 3) with
  accessFlags := 48
  interfaces := #[]
  cf := some (fileOf pool4 7 #[.nestHost 14] #[{ accessFlags := 0, nameIndex := 5, descriptorIndex := 6, attributes := #[] }] 48 2 #[] #[])
  fields := #[]
  methods := #[k4m0]
  instanceTypes := #[(.object "com/example/brazier/brazier/keyspace/ChangeOrder$Link"), (.object "com/example/brazier/brazier/keyspace/ChangeOrder$Link"), .long]
  staticTypes := #[]
  resolved := Array.replicate 19 none
  statics := none }

def pool5 : Array CpInfo := pool [(1, .class_ 2), (0, u "java/lang/Math"), (1, .class_ 6), (1, u "java/lang/Object"), (0, u "<init>"), (0, u "()V"), (89, .class_ 100), (1, u "java/lang/Math$RandomNumberGeneratorHolder"), (20, u "(JJ)J"), (50, u "negativeZeroFloatBits"), (0, u "J"), (2, u "negativeZeroDoubleBits"), (21, u "max"), (46, u "$assertionsDisabled"), (0, u "Z"), (91, u "twoToTheDoubleScaleDown"), (0, u "D"), (4, u "twoToTheDoubleScaleUp"), (9, u "E"), (3, u "PI"), (2, u "TAU"), (2, u "DEGREES_TO_RADIANS"), (0, u "RADIANS_TO_DEGREES")] 94

def k5m0 : Method := { name := "<init>", desc := "()V", sig := { parameters := [], returnType := none }, accessFlags := 2, code := none }
def k5c1 : Code := { maxStack := 4, maxLocals := 4, code := jdk_29_method_66_code, exceptionTable := #[], attributes := #[] }
def k5m1 : Method := { name := "max", desc := "(JJ)J", sig := { parameters := [.long, .long], returnType := some .long }, accessFlags := 9, code := some k5c1 }
/-- java/lang/Math -/
def k5 : Class := { plain "java/lang/Math" (some 0) with
  accessFlags := 49
  interfaces := #[]
  cf := some (fileOf pool5 1 #[.nestMembers #[98]] #[{ accessFlags := 2, nameIndex := 7, descriptorIndex := 8, attributes := #[] }, { accessFlags := 9, nameIndex := 198, descriptorIndex := 121, attributes := #[] }] 49 4 #[] #[{ accessFlags := 25, nameIndex := 354, descriptorIndex := 339, attributes := #[] }, { accessFlags := 25, nameIndex := 358, descriptorIndex := 339, attributes := #[] }, { accessFlags := 25, nameIndex := 361, descriptorIndex := 339, attributes := #[] }, { accessFlags := 26, nameIndex := 364, descriptorIndex := 339, attributes := #[] }, { accessFlags := 26, nameIndex := 365, descriptorIndex := 339, attributes := #[] }, { accessFlags := 26, nameIndex := 172, descriptorIndex := 173, attributes := #[] }, { accessFlags := 26, nameIndex := 176, descriptorIndex := 173, attributes := #[] }, { accessFlags := 8, nameIndex := 344, descriptorIndex := 339, attributes := #[] }, { accessFlags := 8, nameIndex := 338, descriptorIndex := 339, attributes := #[] }, { accessFlags := 4120, nameIndex := 245, descriptorIndex := 246, attributes := #[] }])
  fields := #[{ name := "E", type := .double, accessFlags := 25, slot := 0, constantValue := 0 }, { name := "PI", type := .double, accessFlags := 25, slot := 1, constantValue := 0 }, { name := "TAU", type := .double, accessFlags := 25, slot := 2, constantValue := 0 }, { name := "DEGREES_TO_RADIANS", type := .double, accessFlags := 26, slot := 3, constantValue := 0 }, { name := "RADIANS_TO_DEGREES", type := .double, accessFlags := 26, slot := 4, constantValue := 0 }, { name := "negativeZeroFloatBits", type := .long, accessFlags := 26, slot := 5, constantValue := 0 }, { name := "negativeZeroDoubleBits", type := .long, accessFlags := 26, slot := 6, constantValue := 0 }, { name := "twoToTheDoubleScaleUp", type := .double, accessFlags := 8, slot := 7, constantValue := 0 }, { name := "twoToTheDoubleScaleDown", type := .double, accessFlags := 8, slot := 8, constantValue := 0 }, { name := "$assertionsDisabled", type := .boolean, accessFlags := 4120, slot := 9, constantValue := 0 }]
  methods := #[k5m0, k5m1]
  instanceTypes := #[]
  staticTypes := #[.double, .double, .double, .double, .double, .long, .long, .double, .double, .boolean]
  resolved := Array.replicate 460 none
  statics := none }

def pool6 : Array CpInfo := pool [(1, u "java/lang/Cloneable"), (0, .class_ 1), (0, u "java/lang/Object"), (0, .class_ 3)] 3

/-- java/lang/Cloneable -/
def k6 : Class := { plain "java/lang/Cloneable" (some 0) with
  accessFlags := 1537
  interfaces := #[]
  cf := some (fileOf pool6 2 #[] #[] 1537 4 #[] #[])
  fields := #[]
  methods := #[]
  instanceTypes := #[]
  staticTypes := #[]
  resolved := Array.replicate 8 none
  statics := none }

def pool7 : Array CpInfo := pool [(1, u "java/io/Serializable"), (0, .class_ 1), (0, u "java/lang/Object"), (0, .class_ 3)] 3

/-- java/io/Serializable -/
def k7 : Class := { plain "java/io/Serializable" (some 0) with
  accessFlags := 1537
  interfaces := #[]
  cf := some (fileOf pool7 2 #[] #[] 1537 4 #[] #[])
  fields := #[]
  methods := #[]
  instanceTypes := #[]
  staticTypes := #[]
  resolved := Array.replicate 8 none
  statics := none }

/-- the primitive byte -/
def k8 : Class := { plain "byte" none with kind := .primitive 'B', accessFlags := 0x411 }
/-- [B -/
def k9 : Class := { plain "[B" (some 0) with kind := .array 8 .byte, interfaces := #[6, 7], accessFlags := 1041 }

/-- the primitive int -/
def k10 : Class := { plain "int" none with kind := .primitive 'I', accessFlags := 0x411 }
/-- [I -/
def k11 : Class := { plain "[I" (some 0) with kind := .array 10 .int, interfaces := #[6, 7], accessFlags := 1041 }

def heap : Heap := #[]
def classes : Array Class := #[k0, k1, k2, k3, k4, k5, k6, k7, k8, k9, k10, k11]
def interned : List (Array UInt16 × Addr) := []
def slotsUsed : Nat := 0
def theMethod : MethodId := ⟨1, 2⟩
def args0 : Array Value := #[.int 5, .int 7]
def aboutOver (below : List Frame) : State where
  vm := { classes := classes, interned := interned.toArray }
  heap := heap
  slotsUsed := slotsUsed
  threads := #[{ frames := .invoking theMethod args0 :: below }]
def below0 : List Frame := [.native { method := ⟨0, 0⟩, args := #[] }]
def about1 : State := aboutOver below0
def p0 : Program := .bare "" "" ""
def e0 : Env := launch0.env 0 0 0
theorem w_frames : about1.frames = Frame.invoking theMethod args0 :: below0 := rfl
set_option maxRecDepth 65536 in
theorem w_args : argsFit about1.vm theMethod args0 = true := by decide +kernel
set_option maxRecDepth 65536 in
theorem w_heap : heapFits about1 = true := by decide +kernel
set_option maxRecDepth 65536 in
theorem w_runnable : about1.curStatus? = some .runnable := by decide +kernel
set_option maxRecDepth 65536 in
theorem w_alone : about1.alone = true := by decide +kernel
set_option maxRecDepth 65536 in
theorem w_named : about1.methodNamed? x = some theMethod := by decide +kernel
set_option maxRecDepth 65536 in
theorem w_hears : about1.hears theMethod below0 = true := by decide +kernel
set_option maxRecDepth 65536 in
theorem w_ripe : about1.ripe theMethod args0 below0 = true := by decide +kernel
theorem w_running : about1.status = .running := rfl
set_option maxRecDepth 65536 in
theorem w_room : about1.hasRoom e0.platform room_1 = true :=
  launch0.hasRoom_least _ room_1 (by decide +kernel) (by decide +kernel) (by decide +kernel) (by decide +kernel) (by decide +kernel) (by decide +kernel)
theorem allAtoms_all (ts : List Jvm.Cond) (a : Array Jvm.Value) (st : Jvm.State) : (allAtoms ts).before a st = ts.all (fun c => c.before a st) := by
  induction ts with
  | nil => rfl
  | cons c t ih =>
    show (Jvm.Cond.and c (allAtoms t)).before a st = _
    rw [Jvm.Cond.before_and, ih, List.all_cons]
def words1 : List Jvm.Cond := Jvm.Cond.code x code maxLocals ret :: tables_1
/-- a 'code' word, met by the world's own term for the bytes: nothing is compared byte by byte -/
theorem code_word {y : MethodName} {bytes : ByteArray} {mx : Nat} {rt : Option FieldType} {a : Array Value} {s : State} {m : MethodId} {meth : Method} {c : Code} (h1 : s.methodNamed? y = some m) (h2 : s.vm.method? m = some meth) (h3 : meth.code = some c) (h4 : c.code = bytes)
    (h5 : (c.maxLocals == mx && c.exceptionTable.isEmpty && decide (c.maxStack ≤ mostOperands) && decide (meth.sig.returnType = rt) && !meth.locks && decide (parseMethodDescriptor y.desc = some meth.sig)) = true) : (Jvm.Cond.code y bytes mx rt).before a s = true := by
  simp only [Bool.and_eq_true, beq_iff_eq, Bool.not_eq_true', decide_eq_true_eq] at h5
  obtain ⟨⟨⟨⟨⟨g1, g2⟩, g3⟩, g4⟩, g5⟩, g6⟩ := h5
  simp [Cond.before, Cond.holds, Cond.value, h1, h2, h3, h4, g1, g2, g3, g4, g5, g6]
def isCode : Jvm.Cond → Bool
  | .code _ _ _ _ => true
  | _ => false
theorem all_split {L : List Jvm.Cond} {P : Jvm.Cond → Bool} (h1 : L.all (fun c => isCode c || P c) = true) (h2 : ∀ c ∈ L.filter isCode, P c = true) : L.all P = true := by
  refine List.all_eq_true.mpr fun c hc => ?_
  have h := List.all_eq_true.mp h1 c hc
  rcases Bool.eq_false_or_eq_true (isCode c) with hi | hi
  · exact h2 c (List.mem_filter.mpr ⟨hc, hi⟩)
  · simpa [hi] using h
set_option maxRecDepth 65536 in
theorem w_c0 : (Jvm.Cond.code x code maxLocals ret).before args0 about1 = true := code_word (m := ⟨1, 2⟩) (meth := k1m2) (c := k1c2) (by decide +kernel) rfl rfl rfl (by decide +kernel)
set_option maxRecDepth 65536 in
theorem w_c1 : (Jvm.Cond.code ({ cls := "com/example/brazier/brazier/keyspace/ChangeOrder", name := "<init>", desc := "()V" } : Jvm.MethodName) prog_37_method_1_code (1 : Nat) (Option.none : Option Jvm.ClassFile.FieldType)).before args0 about1 = true := code_word (m := ⟨2, 0⟩) (meth := k2m0) (c := k2c0) (by decide +kernel) rfl rfl rfl (by decide +kernel)
set_option maxRecDepth 65536 in
theorem w_c2 : (Jvm.Cond.code ({ cls := "java/lang/Object", name := "<init>", desc := "()V" } : Jvm.MethodName) object_method_1_code (1 : Nat) (Option.none : Option Jvm.ClassFile.FieldType)).before args0 about1 = true := code_word (m := ⟨0, 0⟩) (meth := k0m0) (c := k0c0) (by decide +kernel) rfl rfl rfl (by decide +kernel)
set_option maxRecDepth 65536 in
theorem w_c3 : (Jvm.Cond.code ({ cls := "com/example/brazier/brazier/keyspace/ChangeOrder$Link", name := "<init>", desc := "()V" } : Jvm.MethodName) prog_38_method_1_code (1 : Nat) (Option.none : Option Jvm.ClassFile.FieldType)).before args0 about1 = true := code_word (m := ⟨3, 0⟩) (meth := k3m0) (c := k3c0) (by decide +kernel) rfl rfl rfl (by decide +kernel)
set_option maxRecDepth 65536 in
theorem w_c4 : (Jvm.Cond.code ({ cls := "com/example/brazier/brazier/keyspace/ChangeOrder$Place", name := "<init>", desc := "()V" } : Jvm.MethodName) prog_39_method_1_code (1 : Nat) (Option.none : Option Jvm.ClassFile.FieldType)).before args0 about1 = true := code_word (m := ⟨4, 0⟩) (meth := k4m0) (c := k4c0) (by decide +kernel) rfl rfl rfl (by decide +kernel)
set_option maxRecDepth 65536 in
theorem w_c5 : (Jvm.Cond.code ({ cls := "com/example/brazier/brazier/keyspace/ChangeOrder", name := "add", desc := "(Lcom/example/brazier/brazier/keyspace/ChangeOrder$Link;)V" } : Jvm.MethodName) prog_37_method_2_code (2 : Nat) (Option.none : Option Jvm.ClassFile.FieldType)).before args0 about1 = true := code_word (m := ⟨2, 1⟩) (meth := k2m1) (c := k2c1) (by decide +kernel) rfl rfl rfl (by decide +kernel)
set_option maxRecDepth 65536 in
theorem w_c6 : (Jvm.Cond.code ({ cls := "com/example/brazier/brazier/keyspace/ChangeOrder", name := "linkBetween", desc := "(Lcom/example/brazier/brazier/keyspace/ChangeOrder$Link;Lcom/example/brazier/brazier/keyspace/ChangeOrder$Link;Lcom/example/brazier/brazier/keyspace/ChangeOrder$Link;)V" } : Jvm.MethodName) prog_37_method_11_code (3 : Nat) (Option.none : Option Jvm.ClassFile.FieldType)).before args0 about1 = true := code_word (m := ⟨2, 6⟩) (meth := k2m6) (c := k2c6) (by decide +kernel) rfl rfl rfl (by decide +kernel)
set_option maxRecDepth 65536 in
theorem w_c7 : (Jvm.Cond.code ({ cls := "com/example/brazier/brazier/keyspace/ChangeOrder", name := "after", desc := "(Lcom/example/brazier/brazier/keyspace/ChangeOrder$Link;)Lcom/example/brazier/brazier/keyspace/ChangeOrder$Link;" } : Jvm.MethodName) prog_37_method_9_code (2 : Nat) (Option.some (Jvm.ClassFile.FieldType.object "com/example/brazier/brazier/keyspace/ChangeOrder$Link"))).before args0 about1 = true := code_word (m := ⟨2, 5⟩) (meth := k2m5) (c := k2c5) (by decide +kernel) rfl rfl rfl (by decide +kernel)
set_option maxRecDepth 65536 in
theorem w_c8 : (Jvm.Cond.code ({ cls := "com/example/brazier/brazier/keyspace/ChangeOrder", name := "passTo", desc := "(Lcom/example/brazier/brazier/keyspace/ChangeOrder$Place;Lcom/example/brazier/brazier/keyspace/ChangeOrder$Link;)V" } : Jvm.MethodName) prog_37_method_8_code (3 : Nat) (Option.none : Option Jvm.ClassFile.FieldType)).before args0 about1 = true := code_word (m := ⟨2, 4⟩) (meth := k2m4) (c := k2c4) (by decide +kernel) rfl rfl rfl (by decide +kernel)
set_option maxRecDepth 65536 in
theorem w_c9 : (Jvm.Cond.code ({ cls := "com/example/brazier/brazier/keyspace/ChangeOrder", name := "remove", desc := "(Lcom/example/brazier/brazier/keyspace/ChangeOrder$Link;)V" } : Jvm.MethodName) prog_37_method_4_code (2 : Nat) (Option.none : Option Jvm.ClassFile.FieldType)).before args0 about1 = true := code_word (m := ⟨2, 3⟩) (meth := k2m3) (c := k2c3) (by decide +kernel) rfl rfl rfl (by decide +kernel)
set_option maxRecDepth 65536 in
theorem w_c10 : (Jvm.Cond.code ({ cls := "com/example/brazier/brazier/keyspace/ChangeOrder", name := "placeBetween", desc := "(Lcom/example/brazier/brazier/keyspace/ChangeOrder$Link;Lcom/example/brazier/brazier/keyspace/ChangeOrder$Link;Lcom/example/brazier/brazier/keyspace/ChangeOrder$Link;)V" } : Jvm.MethodName) prog_37_method_12_code (3 : Nat) (Option.none : Option Jvm.ClassFile.FieldType)).before args0 about1 = true := code_word (m := ⟨2, 7⟩) (meth := k2m7) (c := k2c7) (by decide +kernel) rfl rfl rfl (by decide +kernel)
set_option maxRecDepth 65536 in
theorem w_c11 : (Jvm.Cond.code ({ cls := "com/example/brazier/brazier/keyspace/ChangeOrder", name := "numberOf", desc := "(Lcom/example/brazier/brazier/keyspace/ChangeOrder$Link;)J" } : Jvm.MethodName) prog_37_method_13_code (1 : Nat) (Option.some Jvm.ClassFile.FieldType.long)).before args0 about1 = true := code_word (m := ⟨2, 8⟩) (meth := k2m8) (c := k2c8) (by decide +kernel) rfl rfl rfl (by decide +kernel)
set_option maxRecDepth 65536 in
theorem w_c12 : (Jvm.Cond.code ({ cls := "java/lang/Math", name := "max", desc := "(JJ)J" } : Jvm.MethodName) jdk_29_method_66_code (4 : Nat) (Option.some Jvm.ClassFile.FieldType.long)).before args0 about1 = true := code_word (m := ⟨5, 1⟩) (meth := k5m1) (c := k5c1) (by decide +kernel) rfl rfl rfl (by decide +kernel)
set_option maxRecDepth 65536 in
theorem w_c13 : (Jvm.Cond.code ({ cls := "com/example/brazier/brazier/keyspace/ChangeOrder", name := "changed", desc := "(Lcom/example/brazier/brazier/keyspace/ChangeOrder$Link;)V" } : Jvm.MethodName) prog_37_method_3_code (2 : Nat) (Option.none : Option Jvm.ClassFile.FieldType)).before args0 about1 = true := code_word (m := ⟨2, 2⟩) (meth := k2m2) (c := k2c2) (by decide +kernel) rfl rfl rfl (by decide +kernel)
set_option maxRecDepth 65536 in
theorem w_c14 : (Jvm.Cond.code ({ cls := "com/example/brazier/brazier/keyspace/ChangeOrderAddPinLaw", name := "ringIs", desc := "(Lcom/example/brazier/brazier/keyspace/ChangeOrder;Lcom/example/brazier/brazier/keyspace/ChangeOrder$Link;Lcom/example/brazier/brazier/keyspace/ChangeOrder$Link;Lcom/example/brazier/brazier/keyspace/ChangeOrder$Link;Lcom/example/brazier/brazier/keyspace/ChangeOrder$Link;Lcom/example/brazier/brazier/keyspace/ChangeOrder$Link;)Z" } : Jvm.MethodName) method_2_code (11 : Nat) (Option.some Jvm.ClassFile.FieldType.boolean)).before args0 about1 = true := code_word (m := ⟨1, 1⟩) (meth := k1m1) (c := k1c1) (by decide +kernel) rfl rfl rfl (by decide +kernel)
def codes1 : List Jvm.Cond := [Jvm.Cond.code x code maxLocals ret, Jvm.Cond.code ({ cls := "com/example/brazier/brazier/keyspace/ChangeOrder", name := "<init>", desc := "()V" } : Jvm.MethodName) prog_37_method_1_code (1 : Nat) (Option.none : Option Jvm.ClassFile.FieldType), Jvm.Cond.code ({ cls := "java/lang/Object", name := "<init>", desc := "()V" } : Jvm.MethodName) object_method_1_code (1 : Nat) (Option.none : Option Jvm.ClassFile.FieldType), Jvm.Cond.code ({ cls := "com/example/brazier/brazier/keyspace/ChangeOrder$Link", name := "<init>", desc := "()V" } : Jvm.MethodName) prog_38_method_1_code (1 : Nat) (Option.none : Option Jvm.ClassFile.FieldType), Jvm.Cond.code ({ cls := "com/example/brazier/brazier/keyspace/ChangeOrder$Place", name := "<init>", desc := "()V" } : Jvm.MethodName) prog_39_method_1_code (1 : Nat) (Option.none : Option Jvm.ClassFile.FieldType), Jvm.Cond.code ({ cls := "com/example/brazier/brazier/keyspace/ChangeOrder", name := "add", desc := "(Lcom/example/brazier/brazier/keyspace/ChangeOrder$Link;)V" } : Jvm.MethodName) prog_37_method_2_code (2 : Nat) (Option.none : Option Jvm.ClassFile.FieldType), Jvm.Cond.code ({ cls := "com/example/brazier/brazier/keyspace/ChangeOrder", name := "linkBetween", desc := "(Lcom/example/brazier/brazier/keyspace/ChangeOrder$Link;Lcom/example/brazier/brazier/keyspace/ChangeOrder$Link;Lcom/example/brazier/brazier/keyspace/ChangeOrder$Link;)V" } : Jvm.MethodName) prog_37_method_11_code (3 : Nat) (Option.none : Option Jvm.ClassFile.FieldType), Jvm.Cond.code ({ cls := "com/example/brazier/brazier/keyspace/ChangeOrder", name := "after", desc := "(Lcom/example/brazier/brazier/keyspace/ChangeOrder$Link;)Lcom/example/brazier/brazier/keyspace/ChangeOrder$Link;" } : Jvm.MethodName) prog_37_method_9_code (2 : Nat) (Option.some (Jvm.ClassFile.FieldType.object "com/example/brazier/brazier/keyspace/ChangeOrder$Link")), Jvm.Cond.code ({ cls := "com/example/brazier/brazier/keyspace/ChangeOrder", name := "passTo", desc := "(Lcom/example/brazier/brazier/keyspace/ChangeOrder$Place;Lcom/example/brazier/brazier/keyspace/ChangeOrder$Link;)V" } : Jvm.MethodName) prog_37_method_8_code (3 : Nat) (Option.none : Option Jvm.ClassFile.FieldType), Jvm.Cond.code ({ cls := "com/example/brazier/brazier/keyspace/ChangeOrder", name := "remove", desc := "(Lcom/example/brazier/brazier/keyspace/ChangeOrder$Link;)V" } : Jvm.MethodName) prog_37_method_4_code (2 : Nat) (Option.none : Option Jvm.ClassFile.FieldType), Jvm.Cond.code ({ cls := "com/example/brazier/brazier/keyspace/ChangeOrder", name := "placeBetween", desc := "(Lcom/example/brazier/brazier/keyspace/ChangeOrder$Link;Lcom/example/brazier/brazier/keyspace/ChangeOrder$Link;Lcom/example/brazier/brazier/keyspace/ChangeOrder$Link;)V" } : Jvm.MethodName) prog_37_method_12_code (3 : Nat) (Option.none : Option Jvm.ClassFile.FieldType), Jvm.Cond.code ({ cls := "com/example/brazier/brazier/keyspace/ChangeOrder", name := "numberOf", desc := "(Lcom/example/brazier/brazier/keyspace/ChangeOrder$Link;)J" } : Jvm.MethodName) prog_37_method_13_code (1 : Nat) (Option.some Jvm.ClassFile.FieldType.long), Jvm.Cond.code ({ cls := "java/lang/Math", name := "max", desc := "(JJ)J" } : Jvm.MethodName) jdk_29_method_66_code (4 : Nat) (Option.some Jvm.ClassFile.FieldType.long), Jvm.Cond.code ({ cls := "com/example/brazier/brazier/keyspace/ChangeOrder", name := "changed", desc := "(Lcom/example/brazier/brazier/keyspace/ChangeOrder$Link;)V" } : Jvm.MethodName) prog_37_method_3_code (2 : Nat) (Option.none : Option Jvm.ClassFile.FieldType), Jvm.Cond.code ({ cls := "com/example/brazier/brazier/keyspace/ChangeOrderAddPinLaw", name := "ringIs", desc := "(Lcom/example/brazier/brazier/keyspace/ChangeOrder;Lcom/example/brazier/brazier/keyspace/ChangeOrder$Link;Lcom/example/brazier/brazier/keyspace/ChangeOrder$Link;Lcom/example/brazier/brazier/keyspace/ChangeOrder$Link;Lcom/example/brazier/brazier/keyspace/ChangeOrder$Link;Lcom/example/brazier/brazier/keyspace/ChangeOrder$Link;)Z" } : Jvm.MethodName) method_2_code (11 : Nat) (Option.some Jvm.ClassFile.FieldType.boolean)]
set_option maxRecDepth 65536 in
theorem codes_eq : words1.filter isCode = codes1 := rfl
theorem w_codes : ∀ c ∈ words1.filter isCode, c.before args0 about1 = true := by
  rw [codes_eq]
  intro c hc
  simp only [codes1, List.mem_cons, List.not_mem_nil, or_false] at hc
  rcases hc with rfl | rfl | rfl | rfl | rfl | rfl | rfl | rfl | rfl | rfl | rfl | rfl | rfl | rfl | rfl
  · exact w_c0
  · exact w_c1
  · exact w_c2
  · exact w_c3
  · exact w_c4
  · exact w_c5
  · exact w_c6
  · exact w_c7
  · exact w_c8
  · exact w_c9
  · exact w_c10
  · exact w_c11
  · exact w_c12
  · exact w_c13
  · exact w_c14
set_option maxRecDepth 65536 in
theorem w_t1 : (words1.take 24).all (fun c => isCode c || c.before args0 about1) = true := by decide +kernel
set_option maxRecDepth 65536 in
theorem w_t2 : ((words1.drop 24).take 24).all (fun c => isCode c || c.before args0 about1) = true := by decide +kernel
set_option maxRecDepth 65536 in
theorem w_t3 : (((words1.drop 24).drop 24).take 24).all (fun c => isCode c || c.before args0 about1) = true := by decide +kernel
set_option maxRecDepth 65536 in
theorem w_t4 : (((words1.drop 24).drop 24).drop 24).all (fun c => isCode c || c.before args0 about1) = true := by decide +kernel
theorem w_tables : (allAtoms (Jvm.Cond.code x code maxLocals ret :: tables_1)).before args0 about1 = true := by
  rw [allAtoms_all]
  show words1.all (fun c => c.before args0 about1) = true
  refine all_split ?_ w_codes
  rw [← List.take_append_drop 24 words1, List.all_append, w_t1, ← List.take_append_drop 24 (words1.drop 24), List.all_append, w_t2, ← List.take_append_drop 24 ((words1.drop 24).drop 24), List.all_append, w_t3, w_t4]
  rfl
set_option maxRecDepth 65536 in
theorem w_case : (Jvm.Cond.and given_1 narrow_1).before args0 about1 = true := by decide +kernel
theorem w_applies : (headSpec (Jvm.Cond.code x code maxLocals ret :: tables_1) room_1).applies x e0.platform about1 = true :=
  (Spec.applies_iff w_frames).mpr ⟨w_running, w_runnable, w_alone, w_named, w_hears, w_ripe, w_room, w_tables⟩
theorem atStart : AtStart classFile x code maxLocals ret World_1 tables_1 room_1 Calls_1 rest_1 Pre_1 launch0 p0 e0 about1 theMethod args0 below0 :=
  ⟨lists_1, trivial, launch0.admits_env _ _ _, launch0.least_env, fairChoices_fair.cas, fairChoices_fair.clock, w_frames, w_args, w_heap, w_applies, trivial, trivial, w_case⟩
end start1
theorem witness_1 : WitnessClaimed_1 := ⟨start1.p0, start1.e0, start1.about1, start1.theMethod, start1.args0, start1.below0, start1.atStart⟩
end Jvm.Pilot.@@N@@
