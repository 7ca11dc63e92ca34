import JvmDerived
import JvmDerived.Pilot.@@N@@Statement
import JvmDerived.Pilot.@@N@@Code
set_option linter.unusedVariables false
set_option linter.unusedSimpArgs false
namespace Jvm.RoadKit
open Sem ClassFile Op Lib Jvm.Stand Jvm.Free Jvm.LawKit
section New
variable {p : Program} {l : Launch} {e : Env} {R : Room} {s : State} {m : MethodId} {args : Array Value} {below : List Frame} {meth : Method} {c : Code} {T : State} {locs : List Loc} {cells slots : Nat}
theorem retI (X : Stand p l e R s m args below meth c T locs cells slots) (hx : p.tables.exec = Jvm.exec) {pc : Nat} {Ls : Array Slot} {z : Int32} {rest : List Value} (hret : meth.sig.returnType = some .int) (hd : decode c.code pc = .ok (.ireturn, 1)) {fs : List Frame}
    (hl : ∀ (f : JFrame) (acts : List Action), f.method = m → f.locked = none → f.entered = [] → (doReturn e (T.setTop f) acts (some (.int z))).1 = T.setFrames fs) : Steps p.tables e below (T.setTop (mkF m pc Ls (.int z :: rest))) (T.setFrames fs) := by
  have hm' : T.vm.method? m = some meth := X.method'
  have hn : narrow .int (.int z) = .int z := rfl
  show Steps p.tables e below (T.setTop { method := m, pc := pc, locals := Ls, stack := _ :: rest, locked := none }) _
  jvm_step X.here [X.here.top, hx, hd, hm', hret, hn]
  first | (intro acts; rw [hl _ acts rfl rfl rfl]) | rw [hl _ _ rfl rfl rfl]
  exact Steps.refl _
end New
end Jvm.RoadKit
namespace Jvm.Pilot.@@N@@
open Jvm Jvm.ClassFile Sem Op Lib Jvm.Free Jvm.Stand Jvm.LawKit Jvm.RoadKit Bundle Jvm.Pilot.@@N@@.Jvm.D
/-- the run from U ends within this invocation, with P -/
def own_Fin (tb : Tables) (e : Env) (below : List Frame) (P : Outcome → State → Prop) (U : State) : Prop := ∃ s₂ o, Steps tb e below U s₂ ∧ s₂.status = .running ∧ Ended s₂ below o ∧ P o s₂
theorem own_by {tb : Tables} {e : Env} {below : List Frame} {P : Outcome → State → Prop} {U U' : State} (h : ∀ t, Steps tb e below U' t → Steps tb e below U t) (k : own_Fin tb e below P U') : own_Fin tb e below P U := by
  obtain ⟨t, o, h1, h2⟩ := k
  exact ⟨t, o, h _ h1, h2⟩
section Own
variable {p : Program} {l : Launch} {e : Env} {R : Room} {s : State} {m : MethodId} {args : Array Value} {below : List Frame} {meth : Method} {c : Code} {T : State} {locs : List Loc} {cells slots : Nat} {Z : State} {h h' : Heap} {a b : Addr} {z j x v : Int32} {B : Int32 → Int32}
theorem own_end (X : Stand p l e R s m args below meth c T locs cells slots) (hlk : meth.locks = false) {U : State} {v : Option Value} (hv : meth.sig.returnType = none → v = none) {Qv : Option Value → Heap → List Loc → Prop} {C S : Nat} (hC : cells ≤ C) (hS : slots ≤ S) (hq : Qv v T.heap locs)
    (hst : ∀ fs, (∀ (f : JFrame) (acts : List Action), f.method = m → f.locked = none → f.entered = [] → (doReturn e (T.setTop f) acts v).1 = T.setFrames fs) → Steps p.tables e below U (T.setFrames fs)) :
    own_Fin p.tables e below (fun o t => ∃ v L, o = .returned v ∧ Qv v t.heap L ∧ FrameEnd s o t L C S) U := by
  obtain ⟨fs, hr, hrun, hended, hW, hsame⟩ := X.leave (v := v) hv hlk
  exact ⟨_, _, hst fs hr, hrun, hended, _, _, rfl, hq, ⟨_, rfl⟩, hW, hsame.mono hC hS⟩
theorem own_retN (X : Stand p l e R s m args below meth c T locs cells slots) (hx : p.tables.exec = Jvm.exec) {pc : Nat} {Ls : Array Slot} {z : Int32} {t : FieldType} {rest : List Value} (hret : meth.sig.returnType = some t) (hlk : meth.locks = false) (ht : t = .boolean ∨ t = .byte ∨ t = .char ∨ t = .short)
    (hd : decode c.code pc = .ok (.ireturn, 1)) {Qv : Option Value → Heap → List Loc → Prop} {C S : Nat} (hC : cells ≤ C) (hS : slots ≤ S) (hq : Qv (some (.int (nar t z))) T.heap locs) :
    own_Fin p.tables e below (fun o t => ∃ v L, o = .returned v ∧ Qv v t.heap L ∧ FrameEnd s o t L C S) (T.setTop (mkF m pc Ls (.int z :: rest))) :=
  own_end X hlk (fun q => by rw [hret] at q; cases q) hC hS hq fun fs hr => retN X hx hret ht hd hr
theorem own_retI (X : Stand p l e R s m args below meth c T locs cells slots) (hx : p.tables.exec = Jvm.exec) {pc : Nat} {Ls : Array Slot} {z : Int32} {rest : List Value} (hret : meth.sig.returnType = some .int) (hlk : meth.locks = false)
    (hd : decode c.code pc = .ok (.ireturn, 1)) {Qv : Option Value → Heap → List Loc → Prop} {C S : Nat} (hC : cells ≤ C) (hS : slots ≤ S) (hq : Qv (some (.int z)) T.heap locs) :
    own_Fin p.tables e below (fun o t => ∃ v L, o = .returned v ∧ Qv v t.heap L ∧ FrameEnd s o t L C S) (T.setTop (mkF m pc Ls (.int z :: rest))) :=
  own_end X hlk (fun q => by rw [hret] at q; cases q) hC hS hq fun fs hr => retI X hx hret hd hr
theorem own_retJ (X : Stand p l e R s m args below meth c T locs cells slots) (hx : p.tables.exec = Jvm.exec) {pc : Nat} {Ls : Array Slot} {z : Int64} {rest : List Value} (hret : meth.sig.returnType = some .long) (hlk : meth.locks = false)
    (hd : decode c.code pc = .ok (.lreturn, 1)) {Qv : Option Value → Heap → List Loc → Prop} {C S : Nat} (hC : cells ≤ C) (hS : slots ≤ S) (hq : Qv (some (.long z)) T.heap locs) :
    own_Fin p.tables e below (fun o t => ∃ v L, o = .returned v ∧ Qv v t.heap L ∧ FrameEnd s o t L C S) (T.setTop (mkF m pc Ls (.long z :: rest))) :=
  own_end X hlk (fun q => by rw [hret] at q; cases q) hC hS hq fun fs hr => retOut X hx hret rfl (Or.inr (Or.inl ⟨rfl, rfl, z, rfl⟩)) hd hr
theorem own_retA (X : Stand p l e R s m args below meth c T locs cells slots) (hx : p.tables.exec = Jvm.exec) {pc : Nat} {Ls : Array Slot} {w : Value} {t : FieldType} {rest : List Value} (hret : meth.sig.returnType = some t) (hlk : meth.locks = false) (ht : t.isReference = true) (hw : w.isRef = true)
    (hd : decode c.code pc = .ok (.areturn, 1)) {Qv : Option Value → Heap → List Loc → Prop} {C S : Nat} (hC : cells ≤ C) (hS : slots ≤ S) (hq : Qv (some w) T.heap locs) :
    own_Fin p.tables e below (fun o t => ∃ v L, o = .returned v ∧ Qv v t.heap L ∧ FrameEnd s o t L C S) (T.setTop (mkF m pc Ls (w :: rest))) :=
  own_end X hlk (fun q => by rw [hret] at q; cases q) hC hS hq fun fs hr => retOut X hx hret (by cases t <;> simp [FieldType.isReference] at ht <;> (rcases ref_cases hw with rfl | ⟨z, rfl⟩ <;> rfl)) (Or.inr (Or.inr (Or.inr (Or.inr ⟨rfl, ht, hw⟩)))) hd hr
theorem own_retV (X : Stand p l e R s m args below meth c T locs cells slots) (hx : p.tables.exec = Jvm.exec) {pc : Nat} {Ls : Array Slot} (hret : meth.sig.returnType = none) (hlk : meth.locks = false)
    (hd : decode c.code pc = .ok (.return_, 1)) {Qv : Option Value → Heap → List Loc → Prop} {C S : Nat} (hC : cells ≤ C) (hS : slots ≤ S) (hq : Qv none T.heap locs) :
    own_Fin p.tables e below (fun o t => ∃ v L, o = .returned v ∧ Qv v t.heap L ∧ FrameEnd s o t L C S) (T.setTop (mkF m pc Ls [])) :=
  own_end X hlk (fun _ => rfl) hC hS hq fun fs hr => X.returnOut hx hret hd hr
/-- a byte[] of length z whose j-th byte is B j -/
def own_Byt (Z : State) (h : Heap) (a : Addr) (z : Int32) (B : Int32 → Int32) : Prop := ∃ cl : Cell, Arr Z h a cl .byte ∧ cl.slots.size = z.toNatClampNeg ∧ ¬ z < 0 ∧ ∀ j : Int32, ¬ (j < 0 ∨ cl.slots.size ≤ j.toNatClampNeg) → cl.slots[j.toNatClampNeg]? = some (.int (B j)) ∧ fits .byte (.int (B j)) = true
def own_upd (B : Int32 → Int32) (j v : Int32) : Int32 → Int32 := fun k => if k = j then v else B k
theorem own_Byt.lt (F : own_Byt Z h a z B) : a < h.size := by obtain ⟨c, A, -⟩ := F; exact A.lt
theorem own_Byt.ext (F : own_Byt Z h a z B) (E : Ext h h') : own_Byt Z h' a z B := by obtain ⟨c, A, r⟩ := F; exact ⟨c, A.ext E, r⟩
theorem own_Byt.other (F : own_Byt Z h b z B) {sl : Nat} {w : Value} (W : Wr h h' a sl w) (q : b ≠ a) : own_Byt Z h' b z B := by obtain ⟨c, A, r⟩ := F; exact ⟨c, A.other W q, r⟩
theorem own_Byt.keep {ws : List Addr} (F : own_Byt Z h a z B) (K : Keep h h' ws) (q : a ∉ ws) : own_Byt Z h' a z B := by obtain ⟨c, A, r⟩ := F; exact ⟨c, ⟨K.2.1 a c A.1 q, A.2⟩, r⟩
theorem own_Byt.new {k : ClassId} (A : Arr Z h a (newA k .byte z) .byte) (q : ¬ z < 0) : own_Byt Z h a z (fun _ => (0 : Int32)) :=
  ⟨_, A, sz_new _ _ _, q, fun j hj => by rw [sz_new] at hj; exact ⟨get_new hj, show fits .byte (.int 0) = true from by decide⟩⟩
theorem own_bal (X : Stand p l e R s m args below meth c T locs cells slots) (hx : p.tables.exec = Jvm.exec) (hZ : Z.Warmed39 s.vm) (eT : T.heap = h) (F : own_Byt Z h a z B) (h1 : ¬ j < 0) (h2 : j < z)
    {g : JFrame} (hg : g.method = m) {rest : List Value} (hs : g.stack = .int j :: .ref a :: rest) (hd : decode c.code g.pc = .ok (.baload, 1)) :
    ∀ t, Steps p.tables e below (T.setTop { g with pc := g.pc + 1, stack := .int (B j) :: rest }) t → Steps p.tables e below (T.setTop g) t := by
  obtain ⟨cl, A, S, N, H⟩ := F
  have hin := inb_of S ⟨h1, h2⟩
  exact X.baloadBytes hx (j := j) (v := .int (B j)) (by rw [eT]; exact A.1) (State.isArrayOf_alike hZ.alike A.2.1) A.2.2 hin (H j hin).1 hg hs hd
theorem own_len (X : Stand p l e R s m args below meth c T locs cells slots) (hx : p.tables.exec = Jvm.exec) (hZ : Z.Warmed39 s.vm) (eT : T.heap = h) (F : own_Byt Z h a z B)
    {g : JFrame} (hg : g.method = m) {rest : List Value} (hs : g.stack = .ref a :: rest) (hd : decode c.code g.pc = .ok (.arraylength, 1)) :
    ∀ t, Steps p.tables e below (T.setTop { g with pc := g.pc + 1, stack := .int z :: rest }) t → Steps p.tables e below (T.setTop g) t := by
  obtain ⟨cl, A, S, N, H⟩ := F
  intro t k
  refine X.arraylength hx (by rw [eT]; exact A.1) (State.isArrayOf_alike hZ.alike A.2.1) (g := g) hg hs hd _ ?_
  rw [len_of S N]
  exact k
theorem own_bst (X : Stand p l e R s m args below meth c T locs cells slots) (hx : p.tables.exec = Jvm.exec) (hZ : Z.Warmed39 s.vm) (eT : T.heap = h) (F : own_Byt Z h a z B) (h1 : ¬ j < 0) (h2 : j < z)
    {g : JFrame} (hg : g.method = m) {rest : List Value} (hs : g.stack = .int x :: .int j :: .ref a :: rest) (hd : decode c.code g.pc = .ok (.bastore, 1)) :
    ∃ T' h', Stand p l e R s m args below meth c T' (locs ++ [⟨a, j.toNatClampNeg⟩]) cells slots ∧ T'.heap = h' ∧ own_Byt Z h' a z (own_upd B j (x.toInt8.toInt32)) ∧ Wr h h' a j.toNatClampNeg (.int (nar .byte x)) ∧
      ∀ t, Steps p.tables e below (T'.setTop { g with pc := g.pc + 1, stack := rest }) t → Steps p.tables e below (T.setTop g) t := by
  obtain ⟨cl, A, S, N, H⟩ := F
  have hin := inb_of S ⟨h1, h2⟩
  obtain ⟨T', h', X', e', W, st⟩ := stB X hx hZ eT A (j := j) hin hg hs hd
  refine ⟨T', h', X', e', ⟨_, A.same W, by rw [sz_set]; exact S, N, fun k hk => ?_⟩, W, st⟩
  rw [sz_set] at hk
  by_cases q : k = j
  · rw [get_hit hin q, own_upd, if_pos q]; exact ⟨rfl, fits_nar_byte x⟩
  · rw [get_miss h1 (fun y => hk (Or.inl y)) q, own_upd, if_neg q]; exact H k hk
end Own
theorem own_nar_char (x : Int32) : nar .char (x.toUInt32.toUInt16.toUInt32.toInt32) = x.toUInt32.toUInt16.toUInt32.toInt32 := by
  show x.toUInt32.toUInt16.toUInt32.toInt32.toUInt32.toUInt16.toUInt32.toInt32 = _
  have h1 := c_i2c x
  have h2 := c_i2c (x.toUInt32.toUInt16.toUInt32.toInt32)
  apply Int32.toInt_inj.mp
  omega
theorem own_lt {x y : Int32} : x < y ↔ x.toInt < y.toInt := Int32.lt_iff_toInt_lt
theorem own_eq {x y : Int32} : x = y ↔ x.toInt = y.toInt := Int32.toInt_inj.symm
theorem own_ltL {x y : Int64} : x < y ↔ x.toInt < y.toInt := Int64.lt_iff_toInt_lt
theorem own_eqL {x y : Int64} : x = y ↔ x.toInt = y.toInt := Int64.toInt_inj.symm
theorem own_z : (0 : Int32).toInt = 0 := by decide
theorem own_nn {x : Int32} (h : 0 ≤ x.toInt) : ¬ x < 0 := fun q => by have := own_lt.mp q; rw [own_z] at this; omega
theorem own_ltof {x y : Int32} (h : x.toInt < y.toInt) : x < y := own_lt.mpr h
theorem own_ge {x y : Int32} (h : ¬ x < y) : y.toInt ≤ x.toInt := by rw [own_lt] at h; omega
theorem own_add (x k : Int32) (h1 : -2147483648 ≤ x.toInt + k.toInt) (h2 : x.toInt + k.toInt < 2147483648) : (x + k).toInt = x.toInt + k.toInt := by
  have a := c_iadd x k
  have r := rng32 (x + k)
  omega
theorem own_sub (x k : Int32) (h1 : -2147483648 ≤ x.toInt - k.toInt) (h2 : x.toInt - k.toInt < 2147483648) : (x - k).toInt = x.toInt - k.toInt := by
  have a := c_isub x k
  have r := rng32 (x - k)
  omega
theorem own_clamp {x : Int32} {n : Nat} (h : ¬ x < 0) (q : x.toInt ≤ n) : x.toNatClampNeg ≤ n := by
  have := nat_of h
  omega
theorem own_nat (k : Nat) (h : k < 2147483648) : (Int32.ofNat k).toInt = k := Int32.toInt_ofNat_of_lt (by show k < 2 ^ 31; omega)
theorem own_natc (k : Nat) (h : k < 2147483648) : (Int32.ofNat k).toNatClampNeg = k := by
  have q := own_nat k h
  have := nat_of (own_nn (x := Int32.ofNat k) (by omega))
  omega
def own_iv : Value → Int32 | .int x => x | _ => 0
def own_list (z : Int32) (B : Int32 → Int32) : List Value := (List.range z.toNatClampNeg).map fun i => .int (B (Int32.ofNat i))
theorem own_clt (z : Int32) : z.toNatClampNeg < 2147483648 := by
  by_cases h : z < 0
  · have : z.toInt < 0 := by have := own_lt.mp h; rw [own_z] at this; exact this
    have q : z.toNatClampNeg = 0 := by rw [← Int32.toNat_toInt]; omega
    omega
  · have := nat_of h
    have := rng32 z
    omega
theorem own_getD (z : Int32) (B : Int32 → Int32) (i : Nat) (h : i < z.toNatClampNeg) (d : Value) : (own_list z B).getD i d = .int (B (Int32.ofNat i)) := by
  simp [own_list, List.getD, h]
section Own2
variable {p : Program} {l : Launch} {e : Env} {R : Room} {s : State} {m : MethodId} {args : Array Value} {below : List Frame} {meth : Method} {c : Code} {T : State} {locs : List Loc} {cells slots : Nat} {Z : State} {h h' : Heap} {a b : Addr} {z z' : Int32} {B B' : Int32 → Int32}
theorem own_Byt.arv (F : own_Byt Z h a z B) : ∃ k, Arv Z h a k .byte z (own_list z B) (.int 0) := by
  obtain ⟨c, A, S, N, H⟩ := F
  have hc := own_clt z
  have key : ∀ i, i < c.slots.size → c.slots[i]? = some (.int (B (Int32.ofNat i))) ∧ fits .byte (.int (B (Int32.ofNat i))) = true := fun i hi => by
    have hi2 : i < 2147483648 := by omega
    have q := H (Int32.ofNat i) (by
      rw [own_natc i hi2]
      rintro (y | y)
      · exact own_nn (by rw [own_nat i hi2]; omega) y
      · omega)
    rw [own_natc i hi2] at q
    exact q
  refine ⟨c.cls, c, A, rfl, S, N, fun i hi => ?_, fun i hi => ?_⟩
  · rw [own_getD z B i (by omega)]; exact (key i hi).1
  · rw [own_getD z B i (by omega)]; exact (key i hi).2
theorem own_byte {v : Value} (h : fits .byte v = true) : v = .int (own_iv v) := by cases v <;> simp [fits, own_iv] at h ⊢
theorem own_Byt.of {k : ClassId} {vs : List Value} {d : Value} (F : Arv Z h a k .byte z vs d) (q : ∀ j : Int32, ¬ j < 0 → j < z → own_iv (vs.getD j.toNatClampNeg d) = B j) : own_Byt Z h a z B := by
  obtain ⟨c, A, -, S, N, H, G⟩ := F
  refine ⟨c, A, S, N, fun j hj => ?_⟩
  have hlt : j.toNatClampNeg < c.slots.size := Nat.lt_of_not_le fun y => hj (Or.inr y)
  have h0 : ¬ j < 0 := fun y => hj (Or.inl y)
  have hz : j < z := own_ltof (by have := nat_of h0; have := nat_of N; omega)
  have g := G _ hlt
  have e := own_byte g
  rw [q j h0 hz] at e
  rw [H _ hlt, e]
  exact ⟨rfl, e ▸ g⟩
theorem own_cp (X : Stand p l e R s m args below meth c T locs cells slots) (hx : p.tables.exec = Jvm.exec) (hZ : Z.Warmed39 s.vm) {a0 : Array Value} {own : String} {index : Nat} (hown : s.vm.findClass own = some m.cls)
    (w1 : (Cond.methodLink own index Jvm.Stand.acN).before a0 Z = true) (w2 : (Cond.native Jvm.Stand.acN).before a0 Z = true) (w3 : (Cond.static Jvm.Stand.acN).before a0 Z = true) (w4 : (Cond.initialized "java/lang/System").before a0 Z = true) (eT : T.heap = h)
    (F : own_Byt Z h a z B) (F' : own_Byt Z h b z' B') {dp nn : Int32} (h2 : ¬ dp < 0) (h3 : ¬ nn < 0) (h4 : nn.toInt ≤ z.toInt) (h5 : dp.toInt + nn.toInt ≤ z'.toInt) {n0 : Nat} (N : Fr n0 locs) (ge : n0 ≤ b)
    {g : JFrame} (hg : g.method = m) (hsize : g.locals.size = c.maxLocals) {rest : List Value} (hs : g.stack = .int nn :: .int dp :: .ref b :: .int 0 :: .ref a :: rest) (hd : decode c.code g.pc = .ok (.invokestatic index, 3))
    (hf : 1 ≤ R.frames) {W : Nat} (hW : 2 * g.monitorRoom + (rest.map fun v => v.category).sum ≤ W) (hlo : W + (nativeFrameWords "java/lang/System" "arraycopy" 5 + 11) ≤ R.locals) {B2 : Int32 → Int32}
    (hB : ∀ j : Int32, ¬ j < 0 → j < z' → B2 j = if dp.toInt ≤ j.toInt ∧ j.toInt < dp.toInt + nn.toInt then B (Int32.ofNat (j.toNatClampNeg - dp.toNatClampNeg)) else B' j) :
    ∃ T' h' L, Stand p l e R s m args below meth c T' L cells slots ∧ T'.heap = h' ∧ Fr n0 L ∧ Keep h h' [b] ∧ own_Byt Z h' b z' B2 ∧
      ∀ target, Steps p.tables e below (T'.setTop { g with pc := g.pc + 3, stack := rest }) target → Steps p.tables e below (T.setTop g) target := by
  have hz : ¬ z < 0 := by obtain ⟨_, _, _, q, _⟩ := F; exact q
  have hz' : ¬ z' < 0 := by obtain ⟨_, _, _, q, _⟩ := F'; exact q
  obtain ⟨k, A⟩ := F.arv
  obtain ⟨k', A'⟩ := F'.arv
  have n1 := nat_of h2
  have n2 := nat_of h3
  have n3 := nat_of hz
  have n4 := nat_of hz'
  have z0 : ((0 : Int32)).toNatClampNeg = 0 := by decide
  have hlen : (own_list z' B').length = z'.toNatClampNeg := by simp [own_list]
  obtain ⟨T', h', L, X', e', N', K, V, st⟩ := cpA X hx hZ hown w1 w2 w3 w4 eT (sp := 0) (dp := dp) (nn := nn) (us := (List.range nn.toNatClampNeg).map fun i => (own_list z B).getD ((0 : Int32).toNatClampNeg + i) (.int 0)) A A' (Or.inl ⟨rfl, rfl⟩) (by decide) h2 h3 (by rw [z0]; omega) (by omega) rfl (by rw [hlen]; omega) N ge hg hsize hs hd hf hW hlo
  refine ⟨T', h', L, X', e', N', K, own_Byt.of V fun j hj hjz => ?_, st⟩
  have n5 := nat_of hj
  have n6 := own_lt.mp hjz
  rw [hB j hj hjz]
  have hback : Int32.ofNat j.toNatClampNeg = j := by
    apply Int32.toInt_inj.mp
    rw [own_nat _ (own_clt j)]
    omega
  split
  · rename_i q
    rw [List.getD_eq_getElem?_getD, List.append_assoc, List.getElem?_append_right (by rw [List.length_take, hlen]; omega), List.length_take, hlen, List.getElem?_append_left (by rw [List.length_map, List.length_range]; omega)]
    have hm : min dp.toNatClampNeg z'.toNatClampNeg = dp.toNatClampNeg := by omega
    rw [hm, List.getElem?_map, List.getElem?_range (by omega)]
    show own_iv ((own_list z B).getD ((0 : Int32).toNatClampNeg + (j.toNatClampNeg - dp.toNatClampNeg)) (.int 0)) = _
    rw [z0, Nat.zero_add, own_getD z B _ (by omega)]
    rfl
  · rename_i q
    have e1 : own_iv ((own_list z' B').getD j.toNatClampNeg (.int 0)) = B' j := by
      rw [own_getD z' B' _ (by omega), hback]
      rfl
    rw [← e1]
    congr 1
    rw [List.getD_eq_getElem?_getD, List.getD_eq_getElem?_getD]
    congr 1
    by_cases q1 : j.toNatClampNeg < dp.toNatClampNeg
    · rw [List.append_assoc, List.getElem?_append_left (by rw [List.length_take, hlen]; omega), List.getElem?_take_of_lt q1]
    · rw [List.getElem?_append_right (by rw [List.length_append, List.length_take, List.length_map, List.length_range, hlen]; omega), List.length_append, List.length_take, List.length_map, List.length_range, hlen, List.getElem?_drop]
      congr 1
      omega
end Own2
theorem own_l1 : (1 : Int32).toInt = 1 := by decide
theorem own_l2 : (2 : Int32).toInt = 2 := by decide
theorem own_l3 : (3 : Int32).toInt = 3 := by decide
theorem own_l4 : (4 : Int32).toInt = 4 := by decide
theorem own_l5 : (5 : Int32).toInt = 5 := by decide
theorem own_l6 : (6 : Int32).toInt = 6 := by decide
theorem own_l7 : (7 : Int32).toInt = 7 := by decide
theorem own_l16 : (16 : Int32).toInt = 16 := by decide
theorem own_l32 : (32 : Int32).toInt = 32 := by decide
theorem own_l48 : (48 : Int32).toInt = 48 := by decide
theorem own_back (j : Int32) (h : ¬ j < 0) : Int32.ofNat j.toNatClampNeg = j := by
  apply Int32.toInt_inj.mp
  rw [own_nat _ (own_clt j)]
  have := nat_of h
  omega
theorem d1_0 : decode method_2_code 0 = .ok (.aload_n 0, 1) := by decide +kernel
theorem d1_1 : decode method_2_code 1 = .ok (.iload_n 1, 1) := by decide +kernel
theorem d1_2 : decode method_2_code 2 = .ok (.lload_n 2, 1) := by decide +kernel
theorem d1_3 : decode method_2_code 3 = .ok (.l2i, 1) := by decide +kernel
theorem d1_4 : decode method_2_code 4 = .ok (.i2b, 1) := by decide +kernel
theorem d1_5 : decode method_2_code 5 = .ok (.bastore, 1) := by decide +kernel
theorem d1_6 : decode method_2_code 6 = .ok (.aload_n 0, 1) := by decide +kernel
theorem d1_7 : decode method_2_code 7 = .ok (.iload_n 1, 1) := by decide +kernel
theorem d1_8 : decode method_2_code 8 = .ok (.iconst 1, 1) := by decide +kernel
theorem d1_9 : decode method_2_code 9 = .ok (.iadd, 1) := by decide +kernel
theorem d1_10 : decode method_2_code 10 = .ok (.lload_n 2, 1) := by decide +kernel
theorem d1_11 : decode method_2_code 11 = .ok (.bipush 8, 2) := by decide +kernel
theorem d1_13 : decode method_2_code 13 = .ok (.lushr, 1) := by decide +kernel
theorem d1_14 : decode method_2_code 14 = .ok (.l2i, 1) := by decide +kernel
theorem d1_15 : decode method_2_code 15 = .ok (.i2b, 1) := by decide +kernel
theorem d1_16 : decode method_2_code 16 = .ok (.bastore, 1) := by decide +kernel
theorem d1_17 : decode method_2_code 17 = .ok (.aload_n 0, 1) := by decide +kernel
theorem d1_18 : decode method_2_code 18 = .ok (.iload_n 1, 1) := by decide +kernel
theorem d1_19 : decode method_2_code 19 = .ok (.iconst 2, 1) := by decide +kernel
theorem d1_20 : decode method_2_code 20 = .ok (.iadd, 1) := by decide +kernel
theorem d1_21 : decode method_2_code 21 = .ok (.lload_n 2, 1) := by decide +kernel
theorem d1_22 : decode method_2_code 22 = .ok (.bipush 16, 2) := by decide +kernel
theorem d1_24 : decode method_2_code 24 = .ok (.lushr, 1) := by decide +kernel
theorem d1_25 : decode method_2_code 25 = .ok (.l2i, 1) := by decide +kernel
theorem d1_26 : decode method_2_code 26 = .ok (.i2b, 1) := by decide +kernel
theorem d1_27 : decode method_2_code 27 = .ok (.bastore, 1) := by decide +kernel
theorem d1_28 : decode method_2_code 28 = .ok (.aload_n 0, 1) := by decide +kernel
theorem d1_29 : decode method_2_code 29 = .ok (.iload_n 1, 1) := by decide +kernel
theorem d1_30 : decode method_2_code 30 = .ok (.iconst 3, 1) := by decide +kernel
theorem d1_31 : decode method_2_code 31 = .ok (.iadd, 1) := by decide +kernel
theorem d1_32 : decode method_2_code 32 = .ok (.lload_n 2, 1) := by decide +kernel
theorem d1_33 : decode method_2_code 33 = .ok (.bipush 24, 2) := by decide +kernel
theorem d1_35 : decode method_2_code 35 = .ok (.lushr, 1) := by decide +kernel
theorem d1_36 : decode method_2_code 36 = .ok (.l2i, 1) := by decide +kernel
theorem d1_37 : decode method_2_code 37 = .ok (.i2b, 1) := by decide +kernel
theorem d1_38 : decode method_2_code 38 = .ok (.bastore, 1) := by decide +kernel
theorem d1_39 : decode method_2_code 39 = .ok (.aload_n 0, 1) := by decide +kernel
theorem d1_40 : decode method_2_code 40 = .ok (.iload_n 1, 1) := by decide +kernel
theorem d1_41 : decode method_2_code 41 = .ok (.iconst 4, 1) := by decide +kernel
theorem d1_42 : decode method_2_code 42 = .ok (.iadd, 1) := by decide +kernel
theorem d1_43 : decode method_2_code 43 = .ok (.lload_n 2, 1) := by decide +kernel
theorem d1_44 : decode method_2_code 44 = .ok (.bipush 32, 2) := by decide +kernel
theorem d1_46 : decode method_2_code 46 = .ok (.lushr, 1) := by decide +kernel
theorem d1_47 : decode method_2_code 47 = .ok (.l2i, 1) := by decide +kernel
theorem d1_48 : decode method_2_code 48 = .ok (.i2b, 1) := by decide +kernel
theorem d1_49 : decode method_2_code 49 = .ok (.bastore, 1) := by decide +kernel
theorem d1_50 : decode method_2_code 50 = .ok (.aload_n 0, 1) := by decide +kernel
theorem d1_51 : decode method_2_code 51 = .ok (.iload_n 1, 1) := by decide +kernel
theorem d1_52 : decode method_2_code 52 = .ok (.iconst 5, 1) := by decide +kernel
theorem d1_53 : decode method_2_code 53 = .ok (.iadd, 1) := by decide +kernel
theorem d1_54 : decode method_2_code 54 = .ok (.lload_n 2, 1) := by decide +kernel
theorem d1_55 : decode method_2_code 55 = .ok (.bipush 40, 2) := by decide +kernel
theorem d1_57 : decode method_2_code 57 = .ok (.lushr, 1) := by decide +kernel
theorem d1_58 : decode method_2_code 58 = .ok (.l2i, 1) := by decide +kernel
theorem d1_59 : decode method_2_code 59 = .ok (.i2b, 1) := by decide +kernel
theorem d1_60 : decode method_2_code 60 = .ok (.bastore, 1) := by decide +kernel
theorem d1_61 : decode method_2_code 61 = .ok (.aload_n 0, 1) := by decide +kernel
theorem d1_62 : decode method_2_code 62 = .ok (.iload_n 1, 1) := by decide +kernel
theorem d1_63 : decode method_2_code 63 = .ok (.bipush 6, 2) := by decide +kernel
theorem d1_65 : decode method_2_code 65 = .ok (.iadd, 1) := by decide +kernel
theorem d1_66 : decode method_2_code 66 = .ok (.lload_n 2, 1) := by decide +kernel
theorem d1_67 : decode method_2_code 67 = .ok (.bipush 48, 2) := by decide +kernel
theorem d1_69 : decode method_2_code 69 = .ok (.lushr, 1) := by decide +kernel
theorem d1_70 : decode method_2_code 70 = .ok (.l2i, 1) := by decide +kernel
theorem d1_71 : decode method_2_code 71 = .ok (.i2b, 1) := by decide +kernel
theorem d1_72 : decode method_2_code 72 = .ok (.bastore, 1) := by decide +kernel
theorem d1_73 : decode method_2_code 73 = .ok (.aload_n 0, 1) := by decide +kernel
theorem d1_74 : decode method_2_code 74 = .ok (.iload_n 1, 1) := by decide +kernel
theorem d1_75 : decode method_2_code 75 = .ok (.bipush 7, 2) := by decide +kernel
theorem d1_77 : decode method_2_code 77 = .ok (.iadd, 1) := by decide +kernel
theorem d1_78 : decode method_2_code 78 = .ok (.lload_n 2, 1) := by decide +kernel
theorem d1_79 : decode method_2_code 79 = .ok (.bipush 56, 2) := by decide +kernel
theorem d1_81 : decode method_2_code 81 = .ok (.lushr, 1) := by decide +kernel
theorem d1_82 : decode method_2_code 82 = .ok (.l2i, 1) := by decide +kernel
theorem d1_83 : decode method_2_code 83 = .ok (.i2b, 1) := by decide +kernel
theorem d1_84 : decode method_2_code 84 = .ok (.bastore, 1) := by decide +kernel
theorem d1_85 : decode method_2_code 85 = .ok (.return_, 1) := by decide +kernel
theorem pn_com_example_sealwatch_sealwatch_TokenLeafEntryPinLaw : plainName "com/example/sealwatch/sealwatch/TokenLeafEntryPinLaw" = true := by first | (simp [plainName, overriddenIn]; done) | decide +kernel
theorem ef_1 (m : MethodId) (o0 : Addr) (p1 : Int32) (q2 : Int64) : entryFrame m #[(.ref o0), (.int p1), (.long q2)] 4 = mkF m 0 #[.val (.ref o0), .val (.int p1), .val (.long q2), .second] [] := by first | (simp [entryFrame, mkF, argsToLocals, Value.category]; done) | rfl
def own_put (B_o0 : Int32 → Int32) (p1 : Int32) (q2 : Int64) : Int32 → Int32 := (own_upd (own_upd (own_upd (own_upd (own_upd (own_upd (own_upd (own_upd B_o0 p1 (((q2.toInt32).toInt8.toInt32).toInt8.toInt32)) (p1 + (1 : Int32)) (((((q2.toUInt64 >>> ((8 : Int32) &&& 0x3f).toInt64.toUInt64).toInt64).toInt32).toInt8.toInt32).toInt8.toInt32)) (p1 + (2 : Int32)) (((((q2.toUInt64 >>> ((16 : Int32) &&& 0x3f).toInt64.toUInt64).toInt64).toInt32).toInt8.toInt32).toInt8.toInt32)) (p1 + (3 : Int32)) (((((q2.toUInt64 >>> ((24 : Int32) &&& 0x3f).toInt64.toUInt64).toInt64).toInt32).toInt8.toInt32).toInt8.toInt32)) (p1 + (4 : Int32)) (((((q2.toUInt64 >>> ((32 : Int32) &&& 0x3f).toInt64.toUInt64).toInt64).toInt32).toInt8.toInt32).toInt8.toInt32)) (p1 + (5 : Int32)) (((((q2.toUInt64 >>> ((40 : Int32) &&& 0x3f).toInt64.toUInt64).toInt64).toInt32).toInt8.toInt32).toInt8.toInt32)) (p1 + (6 : Int32)) (((((q2.toUInt64 >>> ((48 : Int32) &&& 0x3f).toInt64.toUInt64).toInt64).toInt32).toInt8.toInt32).toInt8.toInt32)) (p1 + (7 : Int32)) (((((q2.toUInt64 >>> ((56 : Int32) &&& 0x3f).toInt64.toUInt64).toInt64).toInt32).toInt8.toInt32).toInt8.toInt32))
def Q1 (Z : State) (o0 : Addr) (z_o0 : Int32) (B_o0 : Int32 → Int32) (p1 : Int32) (q2 : Int64) (h0 : Heap) (n0 : Nat) (v : Option Value) (h : Heap) (L : List Loc) : Prop := v = none ∧ Fr n0 L ∧ Keep h0 h [o0] ∧ own_Byt Z h o0 z_o0 (own_put B_o0 p1 q2)
set_option maxRecDepth 65536 in
set_option maxHeartbeats 40000000 in
theorem rm1 (l : Launch) (Z : State) (a0 : Array Value) (hw : ∀ d ∈ tables_1, d.before a0 Z = true) (ws : List Jvm.Cond) (o0 : Addr) (p1 : Int32) (q2 : Int64) (z_o0 : Int32) (B_o0 : Int32 → Int32)  (h0 : Heap) (n0 : Nat) (Z0 : n0 ≤ h0.size) (V_o0 : own_Byt Z h0 o0 z_o0 B_o0) (hp0 : 0 ≤ p1.toInt) (hp7 : p1.toInt + 7 < z_o0.toInt) (g_o0 : n0 ≤ o0) :
    MetFree l (⟨"com/example/sealwatch/sealwatch/TokenLeafEntryPinLaw", "put", "([BIJ)V"⟩ : MethodName) (head1 (Jvm.Cond.code (⟨"com/example/sealwatch/sealwatch/TokenLeafEntryPinLaw", "put", "([BIJ)V"⟩ : MethodName) method_2_code 4 none :: ws) ({ frames := 0, cells := 0, slots := 0, locals := 0 } : Room)) (fun a U => a = #[(.ref o0), (.int p1), (.long q2)] ∧ Z.Warmed39 U.vm ∧ U.heap = h0) (fun _ _ _ _ _ => True) (fun _ U o U' => ∃ v L, o = .returned v ∧ Q1 Z o0 z_o0 B_o0 p1 q2 h0 n0 v U'.heap L ∧ FrameEnd U o U' L ({ frames := 0, cells := 0, slots := 0, locals := 0 } : Room).cells ({ frames := 0, cells := 0, slots := 0, locals := 0 } : Room).slots) := by
  refine MetFree.of_bodySF (plainFor_of_name pn_com_example_sealwatch_sealwatch_TokenLeafEntryPinLaw) hisR ?_
  intro p e s m args below meth c s₁ Bd hml0 hP hK
  obtain ⟨rfl, hZ, hh⟩ := hP
  have hx := Bd.exec
  have hby := Bd.bytes
  have hlk : meth.locks = false := BodyLoose.notSynchronized Bd
  have hml : c.maxLocals = 4 := hml0
  have hown : s.vm.findClass "com/example/sealwatch/sealwatch/TokenLeafEntryPinLaw" = some m.cls := findClass_of_methodNamed Bd.named
  have hnm := (name_of_methodNamed Bd.named Bd.method).1
  have X0 : Stand p l e ({ frames := 0, cells := 0, slots := 0, locals := 0 } : Room) s m #[(.ref o0), (.int p1), (.long q2)] below meth c s₁ [] 0 0 := Stand.of_body Bd
  have e0 : s₁.heap = h0 := by rw [← hh, Bd.state]; rfl
  have N0 := Fr.nil n0
  refine own_by (U' := s₁.setTop (mkF m 0 #[.val (.ref o0), .val (.int p1), .val (.long q2), .second] [])) (fun t k => castTop (ef_1 m o0 p1 q2) k) ?_
  have t1 : (p1 + (1 : Int32)).toInt = p1.toInt + 1 := by rw [own_add _ _ (by rw [own_l1]; omega) (by have := rng32 z_o0; rw [own_l1]; omega), own_l1]
  have t2 : (p1 + (2 : Int32)).toInt = p1.toInt + 2 := by rw [own_add _ _ (by rw [own_l2]; omega) (by have := rng32 z_o0; rw [own_l2]; omega), own_l2]
  have t3 : (p1 + (3 : Int32)).toInt = p1.toInt + 3 := by rw [own_add _ _ (by rw [own_l3]; omega) (by have := rng32 z_o0; rw [own_l3]; omega), own_l3]
  have t4 : (p1 + (4 : Int32)).toInt = p1.toInt + 4 := by rw [own_add _ _ (by rw [own_l4]; omega) (by have := rng32 z_o0; rw [own_l4]; omega), own_l4]
  have t5 : (p1 + (5 : Int32)).toInt = p1.toInt + 5 := by rw [own_add _ _ (by rw [own_l5]; omega) (by have := rng32 z_o0; rw [own_l5]; omega), own_l5]
  have t6 : (p1 + (6 : Int32)).toInt = p1.toInt + 6 := by rw [own_add _ _ (by rw [own_l6]; omega) (by have := rng32 z_o0; rw [own_l6]; omega), own_l6]
  have t7 : (p1 + (7 : Int32)).toInt = p1.toInt + 7 := by rw [own_add _ _ (by rw [own_l7]; omega) (by have := rng32 z_o0; rw [own_l7]; omega), own_l7]
  refine own_by (fun _ k => XS.aloadN X0.here hx rfl (hb hby d1_0) rfl rfl k) ?_
  show own_Fin p.tables e below _ (s₁.setTop (mkF m 1 #[.val (.ref o0), .val (.int p1), .val (.long q2), .second] [(.ref o0)]))
  refine own_by (fun _ k => XS.iloadN X0.here hx rfl (hb hby d1_1) rfl k) ?_
  show own_Fin p.tables e below _ (s₁.setTop (mkF m 2 #[.val (.ref o0), .val (.int p1), .val (.long q2), .second] [(.int p1), (.ref o0)]))
  refine own_by (fun _ k => XS.lloadN X0.here hx rfl (hb hby d1_2) rfl k) ?_
  show own_Fin p.tables e below _ (s₁.setTop (mkF m 3 #[.val (.ref o0), .val (.int p1), .val (.long q2), .second] [(.long q2), (.int p1), (.ref o0)]))
  refine own_by (fun _ k => XS.l2i X0.here hx rfl (hb hby d1_3) rfl k) ?_
  show own_Fin p.tables e below _ (s₁.setTop (mkF m 4 #[.val (.ref o0), .val (.int p1), .val (.long q2), .second] [(.int (q2.toInt32)), (.int p1), (.ref o0)]))
  refine own_by (fun _ k => XS.i2b X0.here hx rfl (hb hby d1_4) rfl k) ?_
  show own_Fin p.tables e below _ (s₁.setTop (mkF m 5 #[.val (.ref o0), .val (.int p1), .val (.long q2), .second] [(.int ((q2.toInt32).toInt8.toInt32)), (.int p1), (.ref o0)]))
  obtain ⟨T1, h1, X1, e1, V1, W1, st1⟩ := own_bst X0 hx hZ e0 V_o0 (j := p1) (own_nn (by omega)) (own_ltof (by omega)) (g := (mkF m 5 #[.val (.ref o0), .val (.int p1), .val (.long q2), .second] [(.int ((q2.toInt32).toInt8.toInt32)), (.int p1), (.ref o0)])) rfl rfl (hb hby d1_5)
  have N1 := Fr.snoc X1 N0 g_o0
  have Z1 : n0 ≤ h1.size := Nat.le_trans Z0 (Keep.of_wr W1).1
  refine own_by st1 ?_
  have K1 : Keep h0 h1 [o0] := (Keep.refl h0 [o0]).wr W1 (Or.inl (List.mem_of_getElem? (i := 0) rfl))
  show own_Fin p.tables e below _ (T1.setTop (mkF m 6 #[.val (.ref o0), .val (.int p1), .val (.long q2), .second] []))
  refine own_by (fun _ k => XS.aloadN X1.here hx rfl (hb hby d1_6) rfl rfl k) ?_
  show own_Fin p.tables e below _ (T1.setTop (mkF m 7 #[.val (.ref o0), .val (.int p1), .val (.long q2), .second] [(.ref o0)]))
  refine own_by (fun _ k => XS.iloadN X1.here hx rfl (hb hby d1_7) rfl k) ?_
  show own_Fin p.tables e below _ (T1.setTop (mkF m 8 #[.val (.ref o0), .val (.int p1), .val (.long q2), .second] [(.int p1), (.ref o0)]))
  refine own_by (fun _ k => XS.iconst X1.here hx rfl (hb hby d1_8) k) ?_
  show own_Fin p.tables e below _ (T1.setTop (mkF m 9 #[.val (.ref o0), .val (.int p1), .val (.long q2), .second] [(.int (1 : Int32)), (.int p1), (.ref o0)]))
  refine own_by (fun _ k => XS.iadd X1.here hx rfl (hb hby d1_9) rfl k) ?_
  show own_Fin p.tables e below _ (T1.setTop (mkF m 10 #[.val (.ref o0), .val (.int p1), .val (.long q2), .second] [(.int (p1 + (1 : Int32))), (.ref o0)]))
  refine own_by (fun _ k => XS.lloadN X1.here hx rfl (hb hby d1_10) rfl k) ?_
  show own_Fin p.tables e below _ (T1.setTop (mkF m 11 #[.val (.ref o0), .val (.int p1), .val (.long q2), .second] [(.long q2), (.int (p1 + (1 : Int32))), (.ref o0)]))
  refine own_by (fun _ k => XS.bipush X1.here hx rfl (hb hby d1_11) k) ?_
  show own_Fin p.tables e below _ (T1.setTop (mkF m 13 #[.val (.ref o0), .val (.int p1), .val (.long q2), .second] [(.int (8 : Int32)), (.long q2), (.int (p1 + (1 : Int32))), (.ref o0)]))
  refine own_by (fun _ k => XS.lushr X1.here hx rfl (hb hby d1_13) rfl k) ?_
  show own_Fin p.tables e below _ (T1.setTop (mkF m 14 #[.val (.ref o0), .val (.int p1), .val (.long q2), .second] [(.long ((q2.toUInt64 >>> ((8 : Int32) &&& 0x3f).toInt64.toUInt64).toInt64)), (.int (p1 + (1 : Int32))), (.ref o0)]))
  refine own_by (fun _ k => XS.l2i X1.here hx rfl (hb hby d1_14) rfl k) ?_
  show own_Fin p.tables e below _ (T1.setTop (mkF m 15 #[.val (.ref o0), .val (.int p1), .val (.long q2), .second] [(.int (((q2.toUInt64 >>> ((8 : Int32) &&& 0x3f).toInt64.toUInt64).toInt64).toInt32)), (.int (p1 + (1 : Int32))), (.ref o0)]))
  refine own_by (fun _ k => XS.i2b X1.here hx rfl (hb hby d1_15) rfl k) ?_
  show own_Fin p.tables e below _ (T1.setTop (mkF m 16 #[.val (.ref o0), .val (.int p1), .val (.long q2), .second] [(.int ((((q2.toUInt64 >>> ((8 : Int32) &&& 0x3f).toInt64.toUInt64).toInt64).toInt32).toInt8.toInt32)), (.int (p1 + (1 : Int32))), (.ref o0)]))
  obtain ⟨T2, h2, X2, e2, V2, W2, st2⟩ := own_bst X1 hx hZ e1 V1 (j := (p1 + (1 : Int32))) (own_nn (by omega)) (own_ltof (by omega)) (g := (mkF m 16 #[.val (.ref o0), .val (.int p1), .val (.long q2), .second] [(.int ((((q2.toUInt64 >>> ((8 : Int32) &&& 0x3f).toInt64.toUInt64).toInt64).toInt32).toInt8.toInt32)), (.int (p1 + (1 : Int32))), (.ref o0)])) rfl rfl (hb hby d1_16)
  have N2 := Fr.snoc X2 N1 g_o0
  have Z2 : n0 ≤ h2.size := Nat.le_trans Z1 (Keep.of_wr W2).1
  refine own_by st2 ?_
  have K2 : Keep h0 h2 [o0] := K1.wr W2 (Or.inl (List.mem_of_getElem? (i := 0) rfl))
  show own_Fin p.tables e below _ (T2.setTop (mkF m 17 #[.val (.ref o0), .val (.int p1), .val (.long q2), .second] []))
  refine own_by (fun _ k => XS.aloadN X2.here hx rfl (hb hby d1_17) rfl rfl k) ?_
  show own_Fin p.tables e below _ (T2.setTop (mkF m 18 #[.val (.ref o0), .val (.int p1), .val (.long q2), .second] [(.ref o0)]))
  refine own_by (fun _ k => XS.iloadN X2.here hx rfl (hb hby d1_18) rfl k) ?_
  show own_Fin p.tables e below _ (T2.setTop (mkF m 19 #[.val (.ref o0), .val (.int p1), .val (.long q2), .second] [(.int p1), (.ref o0)]))
  refine own_by (fun _ k => XS.iconst X2.here hx rfl (hb hby d1_19) k) ?_
  show own_Fin p.tables e below _ (T2.setTop (mkF m 20 #[.val (.ref o0), .val (.int p1), .val (.long q2), .second] [(.int (2 : Int32)), (.int p1), (.ref o0)]))
  refine own_by (fun _ k => XS.iadd X2.here hx rfl (hb hby d1_20) rfl k) ?_
  show own_Fin p.tables e below _ (T2.setTop (mkF m 21 #[.val (.ref o0), .val (.int p1), .val (.long q2), .second] [(.int (p1 + (2 : Int32))), (.ref o0)]))
  refine own_by (fun _ k => XS.lloadN X2.here hx rfl (hb hby d1_21) rfl k) ?_
  show own_Fin p.tables e below _ (T2.setTop (mkF m 22 #[.val (.ref o0), .val (.int p1), .val (.long q2), .second] [(.long q2), (.int (p1 + (2 : Int32))), (.ref o0)]))
  refine own_by (fun _ k => XS.bipush X2.here hx rfl (hb hby d1_22) k) ?_
  show own_Fin p.tables e below _ (T2.setTop (mkF m 24 #[.val (.ref o0), .val (.int p1), .val (.long q2), .second] [(.int (16 : Int32)), (.long q2), (.int (p1 + (2 : Int32))), (.ref o0)]))
  refine own_by (fun _ k => XS.lushr X2.here hx rfl (hb hby d1_24) rfl k) ?_
  show own_Fin p.tables e below _ (T2.setTop (mkF m 25 #[.val (.ref o0), .val (.int p1), .val (.long q2), .second] [(.long ((q2.toUInt64 >>> ((16 : Int32) &&& 0x3f).toInt64.toUInt64).toInt64)), (.int (p1 + (2 : Int32))), (.ref o0)]))
  refine own_by (fun _ k => XS.l2i X2.here hx rfl (hb hby d1_25) rfl k) ?_
  show own_Fin p.tables e below _ (T2.setTop (mkF m 26 #[.val (.ref o0), .val (.int p1), .val (.long q2), .second] [(.int (((q2.toUInt64 >>> ((16 : Int32) &&& 0x3f).toInt64.toUInt64).toInt64).toInt32)), (.int (p1 + (2 : Int32))), (.ref o0)]))
  refine own_by (fun _ k => XS.i2b X2.here hx rfl (hb hby d1_26) rfl k) ?_
  show own_Fin p.tables e below _ (T2.setTop (mkF m 27 #[.val (.ref o0), .val (.int p1), .val (.long q2), .second] [(.int ((((q2.toUInt64 >>> ((16 : Int32) &&& 0x3f).toInt64.toUInt64).toInt64).toInt32).toInt8.toInt32)), (.int (p1 + (2 : Int32))), (.ref o0)]))
  obtain ⟨T3, h3, X3, e3, V3, W3, st3⟩ := own_bst X2 hx hZ e2 V2 (j := (p1 + (2 : Int32))) (own_nn (by omega)) (own_ltof (by omega)) (g := (mkF m 27 #[.val (.ref o0), .val (.int p1), .val (.long q2), .second] [(.int ((((q2.toUInt64 >>> ((16 : Int32) &&& 0x3f).toInt64.toUInt64).toInt64).toInt32).toInt8.toInt32)), (.int (p1 + (2 : Int32))), (.ref o0)])) rfl rfl (hb hby d1_27)
  have N3 := Fr.snoc X3 N2 g_o0
  have Z3 : n0 ≤ h3.size := Nat.le_trans Z2 (Keep.of_wr W3).1
  refine own_by st3 ?_
  have K3 : Keep h0 h3 [o0] := K2.wr W3 (Or.inl (List.mem_of_getElem? (i := 0) rfl))
  show own_Fin p.tables e below _ (T3.setTop (mkF m 28 #[.val (.ref o0), .val (.int p1), .val (.long q2), .second] []))
  refine own_by (fun _ k => XS.aloadN X3.here hx rfl (hb hby d1_28) rfl rfl k) ?_
  show own_Fin p.tables e below _ (T3.setTop (mkF m 29 #[.val (.ref o0), .val (.int p1), .val (.long q2), .second] [(.ref o0)]))
  refine own_by (fun _ k => XS.iloadN X3.here hx rfl (hb hby d1_29) rfl k) ?_
  show own_Fin p.tables e below _ (T3.setTop (mkF m 30 #[.val (.ref o0), .val (.int p1), .val (.long q2), .second] [(.int p1), (.ref o0)]))
  refine own_by (fun _ k => XS.iconst X3.here hx rfl (hb hby d1_30) k) ?_
  show own_Fin p.tables e below _ (T3.setTop (mkF m 31 #[.val (.ref o0), .val (.int p1), .val (.long q2), .second] [(.int (3 : Int32)), (.int p1), (.ref o0)]))
  refine own_by (fun _ k => XS.iadd X3.here hx rfl (hb hby d1_31) rfl k) ?_
  show own_Fin p.tables e below _ (T3.setTop (mkF m 32 #[.val (.ref o0), .val (.int p1), .val (.long q2), .second] [(.int (p1 + (3 : Int32))), (.ref o0)]))
  refine own_by (fun _ k => XS.lloadN X3.here hx rfl (hb hby d1_32) rfl k) ?_
  show own_Fin p.tables e below _ (T3.setTop (mkF m 33 #[.val (.ref o0), .val (.int p1), .val (.long q2), .second] [(.long q2), (.int (p1 + (3 : Int32))), (.ref o0)]))
  refine own_by (fun _ k => XS.bipush X3.here hx rfl (hb hby d1_33) k) ?_
  show own_Fin p.tables e below _ (T3.setTop (mkF m 35 #[.val (.ref o0), .val (.int p1), .val (.long q2), .second] [(.int (24 : Int32)), (.long q2), (.int (p1 + (3 : Int32))), (.ref o0)]))
  refine own_by (fun _ k => XS.lushr X3.here hx rfl (hb hby d1_35) rfl k) ?_
  show own_Fin p.tables e below _ (T3.setTop (mkF m 36 #[.val (.ref o0), .val (.int p1), .val (.long q2), .second] [(.long ((q2.toUInt64 >>> ((24 : Int32) &&& 0x3f).toInt64.toUInt64).toInt64)), (.int (p1 + (3 : Int32))), (.ref o0)]))
  refine own_by (fun _ k => XS.l2i X3.here hx rfl (hb hby d1_36) rfl k) ?_
  show own_Fin p.tables e below _ (T3.setTop (mkF m 37 #[.val (.ref o0), .val (.int p1), .val (.long q2), .second] [(.int (((q2.toUInt64 >>> ((24 : Int32) &&& 0x3f).toInt64.toUInt64).toInt64).toInt32)), (.int (p1 + (3 : Int32))), (.ref o0)]))
  refine own_by (fun _ k => XS.i2b X3.here hx rfl (hb hby d1_37) rfl k) ?_
  show own_Fin p.tables e below _ (T3.setTop (mkF m 38 #[.val (.ref o0), .val (.int p1), .val (.long q2), .second] [(.int ((((q2.toUInt64 >>> ((24 : Int32) &&& 0x3f).toInt64.toUInt64).toInt64).toInt32).toInt8.toInt32)), (.int (p1 + (3 : Int32))), (.ref o0)]))
  obtain ⟨T4, h4, X4, e4, V4, W4, st4⟩ := own_bst X3 hx hZ e3 V3 (j := (p1 + (3 : Int32))) (own_nn (by omega)) (own_ltof (by omega)) (g := (mkF m 38 #[.val (.ref o0), .val (.int p1), .val (.long q2), .second] [(.int ((((q2.toUInt64 >>> ((24 : Int32) &&& 0x3f).toInt64.toUInt64).toInt64).toInt32).toInt8.toInt32)), (.int (p1 + (3 : Int32))), (.ref o0)])) rfl rfl (hb hby d1_38)
  have N4 := Fr.snoc X4 N3 g_o0
  have Z4 : n0 ≤ h4.size := Nat.le_trans Z3 (Keep.of_wr W4).1
  refine own_by st4 ?_
  have K4 : Keep h0 h4 [o0] := K3.wr W4 (Or.inl (List.mem_of_getElem? (i := 0) rfl))
  show own_Fin p.tables e below _ (T4.setTop (mkF m 39 #[.val (.ref o0), .val (.int p1), .val (.long q2), .second] []))
  refine own_by (fun _ k => XS.aloadN X4.here hx rfl (hb hby d1_39) rfl rfl k) ?_
  show own_Fin p.tables e below _ (T4.setTop (mkF m 40 #[.val (.ref o0), .val (.int p1), .val (.long q2), .second] [(.ref o0)]))
  refine own_by (fun _ k => XS.iloadN X4.here hx rfl (hb hby d1_40) rfl k) ?_
  show own_Fin p.tables e below _ (T4.setTop (mkF m 41 #[.val (.ref o0), .val (.int p1), .val (.long q2), .second] [(.int p1), (.ref o0)]))
  refine own_by (fun _ k => XS.iconst X4.here hx rfl (hb hby d1_41) k) ?_
  show own_Fin p.tables e below _ (T4.setTop (mkF m 42 #[.val (.ref o0), .val (.int p1), .val (.long q2), .second] [(.int (4 : Int32)), (.int p1), (.ref o0)]))
  refine own_by (fun _ k => XS.iadd X4.here hx rfl (hb hby d1_42) rfl k) ?_
  show own_Fin p.tables e below _ (T4.setTop (mkF m 43 #[.val (.ref o0), .val (.int p1), .val (.long q2), .second] [(.int (p1 + (4 : Int32))), (.ref o0)]))
  refine own_by (fun _ k => XS.lloadN X4.here hx rfl (hb hby d1_43) rfl k) ?_
  show own_Fin p.tables e below _ (T4.setTop (mkF m 44 #[.val (.ref o0), .val (.int p1), .val (.long q2), .second] [(.long q2), (.int (p1 + (4 : Int32))), (.ref o0)]))
  refine own_by (fun _ k => XS.bipush X4.here hx rfl (hb hby d1_44) k) ?_
  show own_Fin p.tables e below _ (T4.setTop (mkF m 46 #[.val (.ref o0), .val (.int p1), .val (.long q2), .second] [(.int (32 : Int32)), (.long q2), (.int (p1 + (4 : Int32))), (.ref o0)]))
  refine own_by (fun _ k => XS.lushr X4.here hx rfl (hb hby d1_46) rfl k) ?_
  show own_Fin p.tables e below _ (T4.setTop (mkF m 47 #[.val (.ref o0), .val (.int p1), .val (.long q2), .second] [(.long ((q2.toUInt64 >>> ((32 : Int32) &&& 0x3f).toInt64.toUInt64).toInt64)), (.int (p1 + (4 : Int32))), (.ref o0)]))
  refine own_by (fun _ k => XS.l2i X4.here hx rfl (hb hby d1_47) rfl k) ?_
  show own_Fin p.tables e below _ (T4.setTop (mkF m 48 #[.val (.ref o0), .val (.int p1), .val (.long q2), .second] [(.int (((q2.toUInt64 >>> ((32 : Int32) &&& 0x3f).toInt64.toUInt64).toInt64).toInt32)), (.int (p1 + (4 : Int32))), (.ref o0)]))
  refine own_by (fun _ k => XS.i2b X4.here hx rfl (hb hby d1_48) rfl k) ?_
  show own_Fin p.tables e below _ (T4.setTop (mkF m 49 #[.val (.ref o0), .val (.int p1), .val (.long q2), .second] [(.int ((((q2.toUInt64 >>> ((32 : Int32) &&& 0x3f).toInt64.toUInt64).toInt64).toInt32).toInt8.toInt32)), (.int (p1 + (4 : Int32))), (.ref o0)]))
  obtain ⟨T5, h5, X5, e5, V5, W5, st5⟩ := own_bst X4 hx hZ e4 V4 (j := (p1 + (4 : Int32))) (own_nn (by omega)) (own_ltof (by omega)) (g := (mkF m 49 #[.val (.ref o0), .val (.int p1), .val (.long q2), .second] [(.int ((((q2.toUInt64 >>> ((32 : Int32) &&& 0x3f).toInt64.toUInt64).toInt64).toInt32).toInt8.toInt32)), (.int (p1 + (4 : Int32))), (.ref o0)])) rfl rfl (hb hby d1_49)
  have N5 := Fr.snoc X5 N4 g_o0
  have Z5 : n0 ≤ h5.size := Nat.le_trans Z4 (Keep.of_wr W5).1
  refine own_by st5 ?_
  have K5 : Keep h0 h5 [o0] := K4.wr W5 (Or.inl (List.mem_of_getElem? (i := 0) rfl))
  show own_Fin p.tables e below _ (T5.setTop (mkF m 50 #[.val (.ref o0), .val (.int p1), .val (.long q2), .second] []))
  refine own_by (fun _ k => XS.aloadN X5.here hx rfl (hb hby d1_50) rfl rfl k) ?_
  show own_Fin p.tables e below _ (T5.setTop (mkF m 51 #[.val (.ref o0), .val (.int p1), .val (.long q2), .second] [(.ref o0)]))
  refine own_by (fun _ k => XS.iloadN X5.here hx rfl (hb hby d1_51) rfl k) ?_
  show own_Fin p.tables e below _ (T5.setTop (mkF m 52 #[.val (.ref o0), .val (.int p1), .val (.long q2), .second] [(.int p1), (.ref o0)]))
  refine own_by (fun _ k => XS.iconst X5.here hx rfl (hb hby d1_52) k) ?_
  show own_Fin p.tables e below _ (T5.setTop (mkF m 53 #[.val (.ref o0), .val (.int p1), .val (.long q2), .second] [(.int (5 : Int32)), (.int p1), (.ref o0)]))
  refine own_by (fun _ k => XS.iadd X5.here hx rfl (hb hby d1_53) rfl k) ?_
  show own_Fin p.tables e below _ (T5.setTop (mkF m 54 #[.val (.ref o0), .val (.int p1), .val (.long q2), .second] [(.int (p1 + (5 : Int32))), (.ref o0)]))
  refine own_by (fun _ k => XS.lloadN X5.here hx rfl (hb hby d1_54) rfl k) ?_
  show own_Fin p.tables e below _ (T5.setTop (mkF m 55 #[.val (.ref o0), .val (.int p1), .val (.long q2), .second] [(.long q2), (.int (p1 + (5 : Int32))), (.ref o0)]))
  refine own_by (fun _ k => XS.bipush X5.here hx rfl (hb hby d1_55) k) ?_
  show own_Fin p.tables e below _ (T5.setTop (mkF m 57 #[.val (.ref o0), .val (.int p1), .val (.long q2), .second] [(.int (40 : Int32)), (.long q2), (.int (p1 + (5 : Int32))), (.ref o0)]))
  refine own_by (fun _ k => XS.lushr X5.here hx rfl (hb hby d1_57) rfl k) ?_
  show own_Fin p.tables e below _ (T5.setTop (mkF m 58 #[.val (.ref o0), .val (.int p1), .val (.long q2), .second] [(.long ((q2.toUInt64 >>> ((40 : Int32) &&& 0x3f).toInt64.toUInt64).toInt64)), (.int (p1 + (5 : Int32))), (.ref o0)]))
  refine own_by (fun _ k => XS.l2i X5.here hx rfl (hb hby d1_58) rfl k) ?_
  show own_Fin p.tables e below _ (T5.setTop (mkF m 59 #[.val (.ref o0), .val (.int p1), .val (.long q2), .second] [(.int (((q2.toUInt64 >>> ((40 : Int32) &&& 0x3f).toInt64.toUInt64).toInt64).toInt32)), (.int (p1 + (5 : Int32))), (.ref o0)]))
  refine own_by (fun _ k => XS.i2b X5.here hx rfl (hb hby d1_59) rfl k) ?_
  show own_Fin p.tables e below _ (T5.setTop (mkF m 60 #[.val (.ref o0), .val (.int p1), .val (.long q2), .second] [(.int ((((q2.toUInt64 >>> ((40 : Int32) &&& 0x3f).toInt64.toUInt64).toInt64).toInt32).toInt8.toInt32)), (.int (p1 + (5 : Int32))), (.ref o0)]))
  obtain ⟨T6, h6, X6, e6, V6, W6, st6⟩ := own_bst X5 hx hZ e5 V5 (j := (p1 + (5 : Int32))) (own_nn (by omega)) (own_ltof (by omega)) (g := (mkF m 60 #[.val (.ref o0), .val (.int p1), .val (.long q2), .second] [(.int ((((q2.toUInt64 >>> ((40 : Int32) &&& 0x3f).toInt64.toUInt64).toInt64).toInt32).toInt8.toInt32)), (.int (p1 + (5 : Int32))), (.ref o0)])) rfl rfl (hb hby d1_60)
  have N6 := Fr.snoc X6 N5 g_o0
  have Z6 : n0 ≤ h6.size := Nat.le_trans Z5 (Keep.of_wr W6).1
  refine own_by st6 ?_
  have K6 : Keep h0 h6 [o0] := K5.wr W6 (Or.inl (List.mem_of_getElem? (i := 0) rfl))
  show own_Fin p.tables e below _ (T6.setTop (mkF m 61 #[.val (.ref o0), .val (.int p1), .val (.long q2), .second] []))
  refine own_by (fun _ k => XS.aloadN X6.here hx rfl (hb hby d1_61) rfl rfl k) ?_
  show own_Fin p.tables e below _ (T6.setTop (mkF m 62 #[.val (.ref o0), .val (.int p1), .val (.long q2), .second] [(.ref o0)]))
  refine own_by (fun _ k => XS.iloadN X6.here hx rfl (hb hby d1_62) rfl k) ?_
  show own_Fin p.tables e below _ (T6.setTop (mkF m 63 #[.val (.ref o0), .val (.int p1), .val (.long q2), .second] [(.int p1), (.ref o0)]))
  refine own_by (fun _ k => XS.bipush X6.here hx rfl (hb hby d1_63) k) ?_
  show own_Fin p.tables e below _ (T6.setTop (mkF m 65 #[.val (.ref o0), .val (.int p1), .val (.long q2), .second] [(.int (6 : Int32)), (.int p1), (.ref o0)]))
  refine own_by (fun _ k => XS.iadd X6.here hx rfl (hb hby d1_65) rfl k) ?_
  show own_Fin p.tables e below _ (T6.setTop (mkF m 66 #[.val (.ref o0), .val (.int p1), .val (.long q2), .second] [(.int (p1 + (6 : Int32))), (.ref o0)]))
  refine own_by (fun _ k => XS.lloadN X6.here hx rfl (hb hby d1_66) rfl k) ?_
  show own_Fin p.tables e below _ (T6.setTop (mkF m 67 #[.val (.ref o0), .val (.int p1), .val (.long q2), .second] [(.long q2), (.int (p1 + (6 : Int32))), (.ref o0)]))
  refine own_by (fun _ k => XS.bipush X6.here hx rfl (hb hby d1_67) k) ?_
  show own_Fin p.tables e below _ (T6.setTop (mkF m 69 #[.val (.ref o0), .val (.int p1), .val (.long q2), .second] [(.int (48 : Int32)), (.long q2), (.int (p1 + (6 : Int32))), (.ref o0)]))
  refine own_by (fun _ k => XS.lushr X6.here hx rfl (hb hby d1_69) rfl k) ?_
  show own_Fin p.tables e below _ (T6.setTop (mkF m 70 #[.val (.ref o0), .val (.int p1), .val (.long q2), .second] [(.long ((q2.toUInt64 >>> ((48 : Int32) &&& 0x3f).toInt64.toUInt64).toInt64)), (.int (p1 + (6 : Int32))), (.ref o0)]))
  refine own_by (fun _ k => XS.l2i X6.here hx rfl (hb hby d1_70) rfl k) ?_
  show own_Fin p.tables e below _ (T6.setTop (mkF m 71 #[.val (.ref o0), .val (.int p1), .val (.long q2), .second] [(.int (((q2.toUInt64 >>> ((48 : Int32) &&& 0x3f).toInt64.toUInt64).toInt64).toInt32)), (.int (p1 + (6 : Int32))), (.ref o0)]))
  refine own_by (fun _ k => XS.i2b X6.here hx rfl (hb hby d1_71) rfl k) ?_
  show own_Fin p.tables e below _ (T6.setTop (mkF m 72 #[.val (.ref o0), .val (.int p1), .val (.long q2), .second] [(.int ((((q2.toUInt64 >>> ((48 : Int32) &&& 0x3f).toInt64.toUInt64).toInt64).toInt32).toInt8.toInt32)), (.int (p1 + (6 : Int32))), (.ref o0)]))
  obtain ⟨T7, h7, X7, e7, V7, W7, st7⟩ := own_bst X6 hx hZ e6 V6 (j := (p1 + (6 : Int32))) (own_nn (by omega)) (own_ltof (by omega)) (g := (mkF m 72 #[.val (.ref o0), .val (.int p1), .val (.long q2), .second] [(.int ((((q2.toUInt64 >>> ((48 : Int32) &&& 0x3f).toInt64.toUInt64).toInt64).toInt32).toInt8.toInt32)), (.int (p1 + (6 : Int32))), (.ref o0)])) rfl rfl (hb hby d1_72)
  have N7 := Fr.snoc X7 N6 g_o0
  have Z7 : n0 ≤ h7.size := Nat.le_trans Z6 (Keep.of_wr W7).1
  refine own_by st7 ?_
  have K7 : Keep h0 h7 [o0] := K6.wr W7 (Or.inl (List.mem_of_getElem? (i := 0) rfl))
  show own_Fin p.tables e below _ (T7.setTop (mkF m 73 #[.val (.ref o0), .val (.int p1), .val (.long q2), .second] []))
  refine own_by (fun _ k => XS.aloadN X7.here hx rfl (hb hby d1_73) rfl rfl k) ?_
  show own_Fin p.tables e below _ (T7.setTop (mkF m 74 #[.val (.ref o0), .val (.int p1), .val (.long q2), .second] [(.ref o0)]))
  refine own_by (fun _ k => XS.iloadN X7.here hx rfl (hb hby d1_74) rfl k) ?_
  show own_Fin p.tables e below _ (T7.setTop (mkF m 75 #[.val (.ref o0), .val (.int p1), .val (.long q2), .second] [(.int p1), (.ref o0)]))
  refine own_by (fun _ k => XS.bipush X7.here hx rfl (hb hby d1_75) k) ?_
  show own_Fin p.tables e below _ (T7.setTop (mkF m 77 #[.val (.ref o0), .val (.int p1), .val (.long q2), .second] [(.int (7 : Int32)), (.int p1), (.ref o0)]))
  refine own_by (fun _ k => XS.iadd X7.here hx rfl (hb hby d1_77) rfl k) ?_
  show own_Fin p.tables e below _ (T7.setTop (mkF m 78 #[.val (.ref o0), .val (.int p1), .val (.long q2), .second] [(.int (p1 + (7 : Int32))), (.ref o0)]))
  refine own_by (fun _ k => XS.lloadN X7.here hx rfl (hb hby d1_78) rfl k) ?_
  show own_Fin p.tables e below _ (T7.setTop (mkF m 79 #[.val (.ref o0), .val (.int p1), .val (.long q2), .second] [(.long q2), (.int (p1 + (7 : Int32))), (.ref o0)]))
  refine own_by (fun _ k => XS.bipush X7.here hx rfl (hb hby d1_79) k) ?_
  show own_Fin p.tables e below _ (T7.setTop (mkF m 81 #[.val (.ref o0), .val (.int p1), .val (.long q2), .second] [(.int (56 : Int32)), (.long q2), (.int (p1 + (7 : Int32))), (.ref o0)]))
  refine own_by (fun _ k => XS.lushr X7.here hx rfl (hb hby d1_81) rfl k) ?_
  show own_Fin p.tables e below _ (T7.setTop (mkF m 82 #[.val (.ref o0), .val (.int p1), .val (.long q2), .second] [(.long ((q2.toUInt64 >>> ((56 : Int32) &&& 0x3f).toInt64.toUInt64).toInt64)), (.int (p1 + (7 : Int32))), (.ref o0)]))
  refine own_by (fun _ k => XS.l2i X7.here hx rfl (hb hby d1_82) rfl k) ?_
  show own_Fin p.tables e below _ (T7.setTop (mkF m 83 #[.val (.ref o0), .val (.int p1), .val (.long q2), .second] [(.int (((q2.toUInt64 >>> ((56 : Int32) &&& 0x3f).toInt64.toUInt64).toInt64).toInt32)), (.int (p1 + (7 : Int32))), (.ref o0)]))
  refine own_by (fun _ k => XS.i2b X7.here hx rfl (hb hby d1_83) rfl k) ?_
  show own_Fin p.tables e below _ (T7.setTop (mkF m 84 #[.val (.ref o0), .val (.int p1), .val (.long q2), .second] [(.int ((((q2.toUInt64 >>> ((56 : Int32) &&& 0x3f).toInt64.toUInt64).toInt64).toInt32).toInt8.toInt32)), (.int (p1 + (7 : Int32))), (.ref o0)]))
  obtain ⟨T8, h8, X8, e8, V8, W8, st8⟩ := own_bst X7 hx hZ e7 V7 (j := (p1 + (7 : Int32))) (own_nn (by omega)) (own_ltof (by omega)) (g := (mkF m 84 #[.val (.ref o0), .val (.int p1), .val (.long q2), .second] [(.int ((((q2.toUInt64 >>> ((56 : Int32) &&& 0x3f).toInt64.toUInt64).toInt64).toInt32).toInt8.toInt32)), (.int (p1 + (7 : Int32))), (.ref o0)])) rfl rfl (hb hby d1_84)
  have N8 := Fr.snoc X8 N7 g_o0
  have Z8 : n0 ≤ h8.size := Nat.le_trans Z7 (Keep.of_wr W8).1
  refine own_by st8 ?_
  have K8 : Keep h0 h8 [o0] := K7.wr W8 (Or.inl (List.mem_of_getElem? (i := 0) rfl))
  show own_Fin p.tables e below _ (T8.setTop (mkF m 85 #[.val (.ref o0), .val (.int p1), .val (.long q2), .second] []))
  exact own_retV X8 hx Bd.returns hlk (hb hby d1_85) (by decide) (by decide) (by rw [e8]; exact ⟨rfl, N8, K8, V8⟩)
theorem d5_0 : decode method_3_code 0 = .ok (.aload_n 0, 1) := by decide +kernel
theorem d5_1 : decode method_3_code 1 = .ok (.iload_n 1, 1) := by decide +kernel
theorem d5_2 : decode method_3_code 2 = .ok (.baload, 1) := by decide +kernel
theorem d5_3 : decode method_3_code 3 = .ok (.lload_n 2, 1) := by decide +kernel
theorem d5_4 : decode method_3_code 4 = .ok (.l2i, 1) := by decide +kernel
theorem d5_5 : decode method_3_code 5 = .ok (.i2b, 1) := by decide +kernel
theorem d5_6 : decode method_3_code 6 = .ok (.if_icmp .ne 107, 3) := by decide +kernel
theorem d5_9 : decode method_3_code 9 = .ok (.aload_n 0, 1) := by decide +kernel
theorem d5_10 : decode method_3_code 10 = .ok (.iload_n 1, 1) := by decide +kernel
theorem d5_11 : decode method_3_code 11 = .ok (.iconst 1, 1) := by decide +kernel
theorem d5_12 : decode method_3_code 12 = .ok (.iadd, 1) := by decide +kernel
theorem d5_13 : decode method_3_code 13 = .ok (.baload, 1) := by decide +kernel
theorem d5_14 : decode method_3_code 14 = .ok (.lload_n 2, 1) := by decide +kernel
theorem d5_15 : decode method_3_code 15 = .ok (.bipush 8, 2) := by decide +kernel
theorem d5_17 : decode method_3_code 17 = .ok (.lushr, 1) := by decide +kernel
theorem d5_18 : decode method_3_code 18 = .ok (.l2i, 1) := by decide +kernel
theorem d5_19 : decode method_3_code 19 = .ok (.i2b, 1) := by decide +kernel
theorem d5_20 : decode method_3_code 20 = .ok (.if_icmp .ne 93, 3) := by decide +kernel
theorem d5_23 : decode method_3_code 23 = .ok (.aload_n 0, 1) := by decide +kernel
theorem d5_24 : decode method_3_code 24 = .ok (.iload_n 1, 1) := by decide +kernel
theorem d5_25 : decode method_3_code 25 = .ok (.iconst 2, 1) := by decide +kernel
theorem d5_26 : decode method_3_code 26 = .ok (.iadd, 1) := by decide +kernel
theorem d5_27 : decode method_3_code 27 = .ok (.baload, 1) := by decide +kernel
theorem d5_28 : decode method_3_code 28 = .ok (.lload_n 2, 1) := by decide +kernel
theorem d5_29 : decode method_3_code 29 = .ok (.bipush 16, 2) := by decide +kernel
theorem d5_31 : decode method_3_code 31 = .ok (.lushr, 1) := by decide +kernel
theorem d5_32 : decode method_3_code 32 = .ok (.l2i, 1) := by decide +kernel
theorem d5_33 : decode method_3_code 33 = .ok (.i2b, 1) := by decide +kernel
theorem d5_34 : decode method_3_code 34 = .ok (.if_icmp .ne 79, 3) := by decide +kernel
theorem d5_37 : decode method_3_code 37 = .ok (.aload_n 0, 1) := by decide +kernel
theorem d5_38 : decode method_3_code 38 = .ok (.iload_n 1, 1) := by decide +kernel
theorem d5_39 : decode method_3_code 39 = .ok (.iconst 3, 1) := by decide +kernel
theorem d5_40 : decode method_3_code 40 = .ok (.iadd, 1) := by decide +kernel
theorem d5_41 : decode method_3_code 41 = .ok (.baload, 1) := by decide +kernel
theorem d5_42 : decode method_3_code 42 = .ok (.lload_n 2, 1) := by decide +kernel
theorem d5_43 : decode method_3_code 43 = .ok (.bipush 24, 2) := by decide +kernel
theorem d5_45 : decode method_3_code 45 = .ok (.lushr, 1) := by decide +kernel
theorem d5_46 : decode method_3_code 46 = .ok (.l2i, 1) := by decide +kernel
theorem d5_47 : decode method_3_code 47 = .ok (.i2b, 1) := by decide +kernel
theorem d5_48 : decode method_3_code 48 = .ok (.if_icmp .ne 65, 3) := by decide +kernel
theorem d5_51 : decode method_3_code 51 = .ok (.aload_n 0, 1) := by decide +kernel
theorem d5_52 : decode method_3_code 52 = .ok (.iload_n 1, 1) := by decide +kernel
theorem d5_53 : decode method_3_code 53 = .ok (.iconst 4, 1) := by decide +kernel
theorem d5_54 : decode method_3_code 54 = .ok (.iadd, 1) := by decide +kernel
theorem d5_55 : decode method_3_code 55 = .ok (.baload, 1) := by decide +kernel
theorem d5_56 : decode method_3_code 56 = .ok (.lload_n 2, 1) := by decide +kernel
theorem d5_57 : decode method_3_code 57 = .ok (.bipush 32, 2) := by decide +kernel
theorem d5_59 : decode method_3_code 59 = .ok (.lushr, 1) := by decide +kernel
theorem d5_60 : decode method_3_code 60 = .ok (.l2i, 1) := by decide +kernel
theorem d5_61 : decode method_3_code 61 = .ok (.i2b, 1) := by decide +kernel
theorem d5_62 : decode method_3_code 62 = .ok (.if_icmp .ne 51, 3) := by decide +kernel
theorem d5_65 : decode method_3_code 65 = .ok (.aload_n 0, 1) := by decide +kernel
theorem d5_66 : decode method_3_code 66 = .ok (.iload_n 1, 1) := by decide +kernel
theorem d5_67 : decode method_3_code 67 = .ok (.iconst 5, 1) := by decide +kernel
theorem d5_68 : decode method_3_code 68 = .ok (.iadd, 1) := by decide +kernel
theorem d5_69 : decode method_3_code 69 = .ok (.baload, 1) := by decide +kernel
theorem d5_70 : decode method_3_code 70 = .ok (.lload_n 2, 1) := by decide +kernel
theorem d5_71 : decode method_3_code 71 = .ok (.bipush 40, 2) := by decide +kernel
theorem d5_73 : decode method_3_code 73 = .ok (.lushr, 1) := by decide +kernel
theorem d5_74 : decode method_3_code 74 = .ok (.l2i, 1) := by decide +kernel
theorem d5_75 : decode method_3_code 75 = .ok (.i2b, 1) := by decide +kernel
theorem d5_76 : decode method_3_code 76 = .ok (.if_icmp .ne 37, 3) := by decide +kernel
theorem d5_79 : decode method_3_code 79 = .ok (.aload_n 0, 1) := by decide +kernel
theorem d5_80 : decode method_3_code 80 = .ok (.iload_n 1, 1) := by decide +kernel
theorem d5_81 : decode method_3_code 81 = .ok (.bipush 6, 2) := by decide +kernel
theorem d5_83 : decode method_3_code 83 = .ok (.iadd, 1) := by decide +kernel
theorem d5_84 : decode method_3_code 84 = .ok (.baload, 1) := by decide +kernel
theorem d5_85 : decode method_3_code 85 = .ok (.lload_n 2, 1) := by decide +kernel
theorem d5_86 : decode method_3_code 86 = .ok (.bipush 48, 2) := by decide +kernel
theorem d5_88 : decode method_3_code 88 = .ok (.lushr, 1) := by decide +kernel
theorem d5_89 : decode method_3_code 89 = .ok (.l2i, 1) := by decide +kernel
theorem d5_90 : decode method_3_code 90 = .ok (.i2b, 1) := by decide +kernel
theorem d5_91 : decode method_3_code 91 = .ok (.if_icmp .ne 22, 3) := by decide +kernel
theorem d5_94 : decode method_3_code 94 = .ok (.aload_n 0, 1) := by decide +kernel
theorem d5_95 : decode method_3_code 95 = .ok (.iload_n 1, 1) := by decide +kernel
theorem d5_96 : decode method_3_code 96 = .ok (.bipush 7, 2) := by decide +kernel
theorem d5_98 : decode method_3_code 98 = .ok (.iadd, 1) := by decide +kernel
theorem d5_99 : decode method_3_code 99 = .ok (.baload, 1) := by decide +kernel
theorem d5_100 : decode method_3_code 100 = .ok (.lload_n 2, 1) := by decide +kernel
theorem d5_101 : decode method_3_code 101 = .ok (.bipush 56, 2) := by decide +kernel
theorem d5_103 : decode method_3_code 103 = .ok (.lushr, 1) := by decide +kernel
theorem d5_104 : decode method_3_code 104 = .ok (.l2i, 1) := by decide +kernel
theorem d5_105 : decode method_3_code 105 = .ok (.i2b, 1) := by decide +kernel
theorem d5_106 : decode method_3_code 106 = .ok (.if_icmp .ne 7, 3) := by decide +kernel
theorem d5_109 : decode method_3_code 109 = .ok (.iconst 1, 1) := by decide +kernel
theorem d5_110 : decode method_3_code 110 = .ok (.goto 4, 3) := by decide +kernel
theorem d5_113 : decode method_3_code 113 = .ok (.iconst 0, 1) := by decide +kernel
theorem d5_114 : decode method_3_code 114 = .ok (.ireturn, 1) := by decide +kernel
theorem ef_5 (m : MethodId) (o0 : Addr) (p1 : Int32) (q2 : Int64) : entryFrame m #[(.ref o0), (.int p1), (.long q2)] 4 = mkF m 0 #[.val (.ref o0), .val (.int p1), .val (.long q2), .second] [] := by first | (simp [entryFrame, mkF, argsToLocals, Value.category]; done) | rfl
def f5 (z_o0 : Int32) (B_o0 : Int32 → Int32) (p1 : Int32) (q2 : Int64) : Int32 :=
  if (B_o0 p1) = ((q2.toInt32).toInt8.toInt32) then
    if (B_o0 (p1 + (1 : Int32))) = ((((q2.toUInt64 >>> ((8 : Int32) &&& 0x3f).toInt64.toUInt64).toInt64).toInt32).toInt8.toInt32) then
      if (B_o0 (p1 + (2 : Int32))) = ((((q2.toUInt64 >>> ((16 : Int32) &&& 0x3f).toInt64.toUInt64).toInt64).toInt32).toInt8.toInt32) then
        if (B_o0 (p1 + (3 : Int32))) = ((((q2.toUInt64 >>> ((24 : Int32) &&& 0x3f).toInt64.toUInt64).toInt64).toInt32).toInt8.toInt32) then
          if (B_o0 (p1 + (4 : Int32))) = ((((q2.toUInt64 >>> ((32 : Int32) &&& 0x3f).toInt64.toUInt64).toInt64).toInt32).toInt8.toInt32) then
            if (B_o0 (p1 + (5 : Int32))) = ((((q2.toUInt64 >>> ((40 : Int32) &&& 0x3f).toInt64.toUInt64).toInt64).toInt32).toInt8.toInt32) then
              if (B_o0 (p1 + (6 : Int32))) = ((((q2.toUInt64 >>> ((48 : Int32) &&& 0x3f).toInt64.toUInt64).toInt64).toInt32).toInt8.toInt32) then
                if (B_o0 (p1 + (7 : Int32))) = ((((q2.toUInt64 >>> ((56 : Int32) &&& 0x3f).toInt64.toUInt64).toInt64).toInt32).toInt8.toInt32) then
                  (1 : Int32)
                else
                  (0 : Int32)
              else
                (0 : Int32)
            else
              (0 : Int32)
          else
            (0 : Int32)
        else
          (0 : Int32)
      else
        (0 : Int32)
    else
      (0 : Int32)
  else
    (0 : Int32)
def Q5 (z_o0 : Int32) (B_o0 : Int32 → Int32) (p1 : Int32) (q2 : Int64) (h0 : Heap) (n0 : Nat) (v : Option Value) (h : Heap) (L : List Loc) : Prop := v = some (.int (f5 z_o0 B_o0 p1 q2)) ∧ Fr n0 L ∧ h = h0
set_option maxRecDepth 65536 in
set_option maxHeartbeats 40000000 in
theorem rm5 (l : Launch) (Z : State) (a0 : Array Value) (hw : ∀ d ∈ tables_1, d.before a0 Z = true) (ws : List Jvm.Cond) (o0 : Addr) (p1 : Int32) (q2 : Int64) (z_o0 : Int32) (B_o0 : Int32 → Int32)  (h0 : Heap) (n0 : Nat) (Z0 : n0 ≤ h0.size) (V_o0 : own_Byt Z h0 o0 z_o0 B_o0) (hp0 : 0 ≤ p1.toInt) (hp7 : p1.toInt + 7 < z_o0.toInt) :
    MetFree l (⟨"com/example/sealwatch/sealwatch/TokenLeafEntryPinLaw", "holds", "([BIJ)Z"⟩ : MethodName) (head1 (Jvm.Cond.code (⟨"com/example/sealwatch/sealwatch/TokenLeafEntryPinLaw", "holds", "([BIJ)Z"⟩ : MethodName) method_3_code 4 (some .boolean) :: ws) ({ frames := 0, cells := 0, slots := 0, locals := 0 } : Room)) (fun a U => a = #[(.ref o0), (.int p1), (.long q2)] ∧ Z.Warmed39 U.vm ∧ U.heap = h0) (fun _ _ _ _ _ => True) (fun _ U o U' => ∃ v L, o = .returned v ∧ Q5 z_o0 B_o0 p1 q2 h0 n0 v U'.heap L ∧ FrameEnd U o U' L ({ frames := 0, cells := 0, slots := 0, locals := 0 } : Room).cells ({ frames := 0, cells := 0, slots := 0, locals := 0 } : Room).slots) := by
  refine MetFree.of_bodySF (plainFor_of_name pn_com_example_sealwatch_sealwatch_TokenLeafEntryPinLaw) hisR ?_
  intro p e s m args below meth c s₁ Bd hml0 hP hK
  obtain ⟨rfl, hZ, hh⟩ := hP
  have hx := Bd.exec
  have hby := Bd.bytes
  have hlk : meth.locks = false := BodyLoose.notSynchronized Bd
  have hml : c.maxLocals = 4 := hml0
  have hown : s.vm.findClass "com/example/sealwatch/sealwatch/TokenLeafEntryPinLaw" = some m.cls := findClass_of_methodNamed Bd.named
  have hnm := (name_of_methodNamed Bd.named Bd.method).1
  have X0 : Stand p l e ({ frames := 0, cells := 0, slots := 0, locals := 0 } : Room) s m #[(.ref o0), (.int p1), (.long q2)] below meth c s₁ [] 0 0 := Stand.of_body Bd
  have e0 : s₁.heap = h0 := by rw [← hh, Bd.state]; rfl
  have N0 := Fr.nil n0
  refine own_by (U' := s₁.setTop (mkF m 0 #[.val (.ref o0), .val (.int p1), .val (.long q2), .second] [])) (fun t k => castTop (ef_5 m o0 p1 q2) k) ?_
  have t1 : (p1 + (1 : Int32)).toInt = p1.toInt + 1 := by rw [own_add _ _ (by rw [own_l1]; omega) (by have := rng32 z_o0; rw [own_l1]; omega), own_l1]
  have t2 : (p1 + (2 : Int32)).toInt = p1.toInt + 2 := by rw [own_add _ _ (by rw [own_l2]; omega) (by have := rng32 z_o0; rw [own_l2]; omega), own_l2]
  have t3 : (p1 + (3 : Int32)).toInt = p1.toInt + 3 := by rw [own_add _ _ (by rw [own_l3]; omega) (by have := rng32 z_o0; rw [own_l3]; omega), own_l3]
  have t4 : (p1 + (4 : Int32)).toInt = p1.toInt + 4 := by rw [own_add _ _ (by rw [own_l4]; omega) (by have := rng32 z_o0; rw [own_l4]; omega), own_l4]
  have t5 : (p1 + (5 : Int32)).toInt = p1.toInt + 5 := by rw [own_add _ _ (by rw [own_l5]; omega) (by have := rng32 z_o0; rw [own_l5]; omega), own_l5]
  have t6 : (p1 + (6 : Int32)).toInt = p1.toInt + 6 := by rw [own_add _ _ (by rw [own_l6]; omega) (by have := rng32 z_o0; rw [own_l6]; omega), own_l6]
  have t7 : (p1 + (7 : Int32)).toInt = p1.toInt + 7 := by rw [own_add _ _ (by rw [own_l7]; omega) (by have := rng32 z_o0; rw [own_l7]; omega), own_l7]
  refine own_by (fun _ k => XS.aloadN X0.here hx rfl (hb hby d5_0) rfl rfl k) ?_
  show own_Fin p.tables e below _ (s₁.setTop (mkF m 1 #[.val (.ref o0), .val (.int p1), .val (.long q2), .second] [(.ref o0)]))
  refine own_by (fun _ k => XS.iloadN X0.here hx rfl (hb hby d5_1) rfl k) ?_
  show own_Fin p.tables e below _ (s₁.setTop (mkF m 2 #[.val (.ref o0), .val (.int p1), .val (.long q2), .second] [(.int p1), (.ref o0)]))
  refine own_by (own_bal X0 hx hZ e0 V_o0 (j := p1) (own_nn (by omega)) (own_ltof (by omega)) (g := (mkF m 2 #[.val (.ref o0), .val (.int p1), .val (.long q2), .second] [(.int p1), (.ref o0)])) rfl rfl (hb hby d5_2)) ?_
  show own_Fin p.tables e below _ (s₁.setTop (mkF m 3 #[.val (.ref o0), .val (.int p1), .val (.long q2), .second] [(.int (B_o0 p1))]))
  refine own_by (fun _ k => XS.lloadN X0.here hx rfl (hb hby d5_3) rfl k) ?_
  show own_Fin p.tables e below _ (s₁.setTop (mkF m 4 #[.val (.ref o0), .val (.int p1), .val (.long q2), .second] [(.long q2), (.int (B_o0 p1))]))
  refine own_by (fun _ k => XS.l2i X0.here hx rfl (hb hby d5_4) rfl k) ?_
  show own_Fin p.tables e below _ (s₁.setTop (mkF m 5 #[.val (.ref o0), .val (.int p1), .val (.long q2), .second] [(.int (q2.toInt32)), (.int (B_o0 p1))]))
  refine own_by (fun _ k => XS.i2b X0.here hx rfl (hb hby d5_5) rfl k) ?_
  show own_Fin p.tables e below _ (s₁.setTop (mkF m 6 #[.val (.ref o0), .val (.int p1), .val (.long q2), .second] [(.int ((q2.toInt32).toInt8.toInt32)), (.int (B_o0 p1))]))
  by_cases hc1 : (B_o0 p1) = ((q2.toInt32).toInt8.toInt32)
  · refine own_by (fun _ k => XS.icmpNo X0.here hx rfl (hb hby d5_6) rfl (teq hc1).2 k) ?_
    show own_Fin p.tables e below _ (s₁.setTop (mkF m 9 #[.val (.ref o0), .val (.int p1), .val (.long q2), .second] []))
    refine own_by (fun _ k => XS.aloadN X0.here hx rfl (hb hby d5_9) rfl rfl k) ?_
    show own_Fin p.tables e below _ (s₁.setTop (mkF m 10 #[.val (.ref o0), .val (.int p1), .val (.long q2), .second] [(.ref o0)]))
    refine own_by (fun _ k => XS.iloadN X0.here hx rfl (hb hby d5_10) rfl k) ?_
    show own_Fin p.tables e below _ (s₁.setTop (mkF m 11 #[.val (.ref o0), .val (.int p1), .val (.long q2), .second] [(.int p1), (.ref o0)]))
    refine own_by (fun _ k => XS.iconst X0.here hx rfl (hb hby d5_11) k) ?_
    show own_Fin p.tables e below _ (s₁.setTop (mkF m 12 #[.val (.ref o0), .val (.int p1), .val (.long q2), .second] [(.int (1 : Int32)), (.int p1), (.ref o0)]))
    refine own_by (fun _ k => XS.iadd X0.here hx rfl (hb hby d5_12) rfl k) ?_
    show own_Fin p.tables e below _ (s₁.setTop (mkF m 13 #[.val (.ref o0), .val (.int p1), .val (.long q2), .second] [(.int (p1 + (1 : Int32))), (.ref o0)]))
    refine own_by (own_bal X0 hx hZ e0 V_o0 (j := (p1 + (1 : Int32))) (own_nn (by omega)) (own_ltof (by omega)) (g := (mkF m 13 #[.val (.ref o0), .val (.int p1), .val (.long q2), .second] [(.int (p1 + (1 : Int32))), (.ref o0)])) rfl rfl (hb hby d5_13)) ?_
    show own_Fin p.tables e below _ (s₁.setTop (mkF m 14 #[.val (.ref o0), .val (.int p1), .val (.long q2), .second] [(.int (B_o0 (p1 + (1 : Int32))))]))
    refine own_by (fun _ k => XS.lloadN X0.here hx rfl (hb hby d5_14) rfl k) ?_
    show own_Fin p.tables e below _ (s₁.setTop (mkF m 15 #[.val (.ref o0), .val (.int p1), .val (.long q2), .second] [(.long q2), (.int (B_o0 (p1 + (1 : Int32))))]))
    refine own_by (fun _ k => XS.bipush X0.here hx rfl (hb hby d5_15) k) ?_
    show own_Fin p.tables e below _ (s₁.setTop (mkF m 17 #[.val (.ref o0), .val (.int p1), .val (.long q2), .second] [(.int (8 : Int32)), (.long q2), (.int (B_o0 (p1 + (1 : Int32))))]))
    refine own_by (fun _ k => XS.lushr X0.here hx rfl (hb hby d5_17) rfl k) ?_
    show own_Fin p.tables e below _ (s₁.setTop (mkF m 18 #[.val (.ref o0), .val (.int p1), .val (.long q2), .second] [(.long ((q2.toUInt64 >>> ((8 : Int32) &&& 0x3f).toInt64.toUInt64).toInt64)), (.int (B_o0 (p1 + (1 : Int32))))]))
    refine own_by (fun _ k => XS.l2i X0.here hx rfl (hb hby d5_18) rfl k) ?_
    show own_Fin p.tables e below _ (s₁.setTop (mkF m 19 #[.val (.ref o0), .val (.int p1), .val (.long q2), .second] [(.int (((q2.toUInt64 >>> ((8 : Int32) &&& 0x3f).toInt64.toUInt64).toInt64).toInt32)), (.int (B_o0 (p1 + (1 : Int32))))]))
    refine own_by (fun _ k => XS.i2b X0.here hx rfl (hb hby d5_19) rfl k) ?_
    show own_Fin p.tables e below _ (s₁.setTop (mkF m 20 #[.val (.ref o0), .val (.int p1), .val (.long q2), .second] [(.int ((((q2.toUInt64 >>> ((8 : Int32) &&& 0x3f).toInt64.toUInt64).toInt64).toInt32).toInt8.toInt32)), (.int (B_o0 (p1 + (1 : Int32))))]))
    by_cases hc2 : (B_o0 (p1 + (1 : Int32))) = ((((q2.toUInt64 >>> ((8 : Int32) &&& 0x3f).toInt64.toUInt64).toInt64).toInt32).toInt8.toInt32)
    · refine own_by (fun _ k => XS.icmpNo X0.here hx rfl (hb hby d5_20) rfl (teq hc2).2 k) ?_
      show own_Fin p.tables e below _ (s₁.setTop (mkF m 23 #[.val (.ref o0), .val (.int p1), .val (.long q2), .second] []))
      refine own_by (fun _ k => XS.aloadN X0.here hx rfl (hb hby d5_23) rfl rfl k) ?_
      show own_Fin p.tables e below _ (s₁.setTop (mkF m 24 #[.val (.ref o0), .val (.int p1), .val (.long q2), .second] [(.ref o0)]))
      refine own_by (fun _ k => XS.iloadN X0.here hx rfl (hb hby d5_24) rfl k) ?_
      show own_Fin p.tables e below _ (s₁.setTop (mkF m 25 #[.val (.ref o0), .val (.int p1), .val (.long q2), .second] [(.int p1), (.ref o0)]))
      refine own_by (fun _ k => XS.iconst X0.here hx rfl (hb hby d5_25) k) ?_
      show own_Fin p.tables e below _ (s₁.setTop (mkF m 26 #[.val (.ref o0), .val (.int p1), .val (.long q2), .second] [(.int (2 : Int32)), (.int p1), (.ref o0)]))
      refine own_by (fun _ k => XS.iadd X0.here hx rfl (hb hby d5_26) rfl k) ?_
      show own_Fin p.tables e below _ (s₁.setTop (mkF m 27 #[.val (.ref o0), .val (.int p1), .val (.long q2), .second] [(.int (p1 + (2 : Int32))), (.ref o0)]))
      refine own_by (own_bal X0 hx hZ e0 V_o0 (j := (p1 + (2 : Int32))) (own_nn (by omega)) (own_ltof (by omega)) (g := (mkF m 27 #[.val (.ref o0), .val (.int p1), .val (.long q2), .second] [(.int (p1 + (2 : Int32))), (.ref o0)])) rfl rfl (hb hby d5_27)) ?_
      show own_Fin p.tables e below _ (s₁.setTop (mkF m 28 #[.val (.ref o0), .val (.int p1), .val (.long q2), .second] [(.int (B_o0 (p1 + (2 : Int32))))]))
      refine own_by (fun _ k => XS.lloadN X0.here hx rfl (hb hby d5_28) rfl k) ?_
      show own_Fin p.tables e below _ (s₁.setTop (mkF m 29 #[.val (.ref o0), .val (.int p1), .val (.long q2), .second] [(.long q2), (.int (B_o0 (p1 + (2 : Int32))))]))
      refine own_by (fun _ k => XS.bipush X0.here hx rfl (hb hby d5_29) k) ?_
      show own_Fin p.tables e below _ (s₁.setTop (mkF m 31 #[.val (.ref o0), .val (.int p1), .val (.long q2), .second] [(.int (16 : Int32)), (.long q2), (.int (B_o0 (p1 + (2 : Int32))))]))
      refine own_by (fun _ k => XS.lushr X0.here hx rfl (hb hby d5_31) rfl k) ?_
      show own_Fin p.tables e below _ (s₁.setTop (mkF m 32 #[.val (.ref o0), .val (.int p1), .val (.long q2), .second] [(.long ((q2.toUInt64 >>> ((16 : Int32) &&& 0x3f).toInt64.toUInt64).toInt64)), (.int (B_o0 (p1 + (2 : Int32))))]))
      refine own_by (fun _ k => XS.l2i X0.here hx rfl (hb hby d5_32) rfl k) ?_
      show own_Fin p.tables e below _ (s₁.setTop (mkF m 33 #[.val (.ref o0), .val (.int p1), .val (.long q2), .second] [(.int (((q2.toUInt64 >>> ((16 : Int32) &&& 0x3f).toInt64.toUInt64).toInt64).toInt32)), (.int (B_o0 (p1 + (2 : Int32))))]))
      refine own_by (fun _ k => XS.i2b X0.here hx rfl (hb hby d5_33) rfl k) ?_
      show own_Fin p.tables e below _ (s₁.setTop (mkF m 34 #[.val (.ref o0), .val (.int p1), .val (.long q2), .second] [(.int ((((q2.toUInt64 >>> ((16 : Int32) &&& 0x3f).toInt64.toUInt64).toInt64).toInt32).toInt8.toInt32)), (.int (B_o0 (p1 + (2 : Int32))))]))
      by_cases hc3 : (B_o0 (p1 + (2 : Int32))) = ((((q2.toUInt64 >>> ((16 : Int32) &&& 0x3f).toInt64.toUInt64).toInt64).toInt32).toInt8.toInt32)
      · refine own_by (fun _ k => XS.icmpNo X0.here hx rfl (hb hby d5_34) rfl (teq hc3).2 k) ?_
        show own_Fin p.tables e below _ (s₁.setTop (mkF m 37 #[.val (.ref o0), .val (.int p1), .val (.long q2), .second] []))
        refine own_by (fun _ k => XS.aloadN X0.here hx rfl (hb hby d5_37) rfl rfl k) ?_
        show own_Fin p.tables e below _ (s₁.setTop (mkF m 38 #[.val (.ref o0), .val (.int p1), .val (.long q2), .second] [(.ref o0)]))
        refine own_by (fun _ k => XS.iloadN X0.here hx rfl (hb hby d5_38) rfl k) ?_
        show own_Fin p.tables e below _ (s₁.setTop (mkF m 39 #[.val (.ref o0), .val (.int p1), .val (.long q2), .second] [(.int p1), (.ref o0)]))
        refine own_by (fun _ k => XS.iconst X0.here hx rfl (hb hby d5_39) k) ?_
        show own_Fin p.tables e below _ (s₁.setTop (mkF m 40 #[.val (.ref o0), .val (.int p1), .val (.long q2), .second] [(.int (3 : Int32)), (.int p1), (.ref o0)]))
        refine own_by (fun _ k => XS.iadd X0.here hx rfl (hb hby d5_40) rfl k) ?_
        show own_Fin p.tables e below _ (s₁.setTop (mkF m 41 #[.val (.ref o0), .val (.int p1), .val (.long q2), .second] [(.int (p1 + (3 : Int32))), (.ref o0)]))
        refine own_by (own_bal X0 hx hZ e0 V_o0 (j := (p1 + (3 : Int32))) (own_nn (by omega)) (own_ltof (by omega)) (g := (mkF m 41 #[.val (.ref o0), .val (.int p1), .val (.long q2), .second] [(.int (p1 + (3 : Int32))), (.ref o0)])) rfl rfl (hb hby d5_41)) ?_
        show own_Fin p.tables e below _ (s₁.setTop (mkF m 42 #[.val (.ref o0), .val (.int p1), .val (.long q2), .second] [(.int (B_o0 (p1 + (3 : Int32))))]))
        refine own_by (fun _ k => XS.lloadN X0.here hx rfl (hb hby d5_42) rfl k) ?_
        show own_Fin p.tables e below _ (s₁.setTop (mkF m 43 #[.val (.ref o0), .val (.int p1), .val (.long q2), .second] [(.long q2), (.int (B_o0 (p1 + (3 : Int32))))]))
        refine own_by (fun _ k => XS.bipush X0.here hx rfl (hb hby d5_43) k) ?_
        show own_Fin p.tables e below _ (s₁.setTop (mkF m 45 #[.val (.ref o0), .val (.int p1), .val (.long q2), .second] [(.int (24 : Int32)), (.long q2), (.int (B_o0 (p1 + (3 : Int32))))]))
        refine own_by (fun _ k => XS.lushr X0.here hx rfl (hb hby d5_45) rfl k) ?_
        show own_Fin p.tables e below _ (s₁.setTop (mkF m 46 #[.val (.ref o0), .val (.int p1), .val (.long q2), .second] [(.long ((q2.toUInt64 >>> ((24 : Int32) &&& 0x3f).toInt64.toUInt64).toInt64)), (.int (B_o0 (p1 + (3 : Int32))))]))
        refine own_by (fun _ k => XS.l2i X0.here hx rfl (hb hby d5_46) rfl k) ?_
        show own_Fin p.tables e below _ (s₁.setTop (mkF m 47 #[.val (.ref o0), .val (.int p1), .val (.long q2), .second] [(.int (((q2.toUInt64 >>> ((24 : Int32) &&& 0x3f).toInt64.toUInt64).toInt64).toInt32)), (.int (B_o0 (p1 + (3 : Int32))))]))
        refine own_by (fun _ k => XS.i2b X0.here hx rfl (hb hby d5_47) rfl k) ?_
        show own_Fin p.tables e below _ (s₁.setTop (mkF m 48 #[.val (.ref o0), .val (.int p1), .val (.long q2), .second] [(.int ((((q2.toUInt64 >>> ((24 : Int32) &&& 0x3f).toInt64.toUInt64).toInt64).toInt32).toInt8.toInt32)), (.int (B_o0 (p1 + (3 : Int32))))]))
        by_cases hc4 : (B_o0 (p1 + (3 : Int32))) = ((((q2.toUInt64 >>> ((24 : Int32) &&& 0x3f).toInt64.toUInt64).toInt64).toInt32).toInt8.toInt32)
        · refine own_by (fun _ k => XS.icmpNo X0.here hx rfl (hb hby d5_48) rfl (teq hc4).2 k) ?_
          show own_Fin p.tables e below _ (s₁.setTop (mkF m 51 #[.val (.ref o0), .val (.int p1), .val (.long q2), .second] []))
          refine own_by (fun _ k => XS.aloadN X0.here hx rfl (hb hby d5_51) rfl rfl k) ?_
          show own_Fin p.tables e below _ (s₁.setTop (mkF m 52 #[.val (.ref o0), .val (.int p1), .val (.long q2), .second] [(.ref o0)]))
          refine own_by (fun _ k => XS.iloadN X0.here hx rfl (hb hby d5_52) rfl k) ?_
          show own_Fin p.tables e below _ (s₁.setTop (mkF m 53 #[.val (.ref o0), .val (.int p1), .val (.long q2), .second] [(.int p1), (.ref o0)]))
          refine own_by (fun _ k => XS.iconst X0.here hx rfl (hb hby d5_53) k) ?_
          show own_Fin p.tables e below _ (s₁.setTop (mkF m 54 #[.val (.ref o0), .val (.int p1), .val (.long q2), .second] [(.int (4 : Int32)), (.int p1), (.ref o0)]))
          refine own_by (fun _ k => XS.iadd X0.here hx rfl (hb hby d5_54) rfl k) ?_
          show own_Fin p.tables e below _ (s₁.setTop (mkF m 55 #[.val (.ref o0), .val (.int p1), .val (.long q2), .second] [(.int (p1 + (4 : Int32))), (.ref o0)]))
          refine own_by (own_bal X0 hx hZ e0 V_o0 (j := (p1 + (4 : Int32))) (own_nn (by omega)) (own_ltof (by omega)) (g := (mkF m 55 #[.val (.ref o0), .val (.int p1), .val (.long q2), .second] [(.int (p1 + (4 : Int32))), (.ref o0)])) rfl rfl (hb hby d5_55)) ?_
          show own_Fin p.tables e below _ (s₁.setTop (mkF m 56 #[.val (.ref o0), .val (.int p1), .val (.long q2), .second] [(.int (B_o0 (p1 + (4 : Int32))))]))
          refine own_by (fun _ k => XS.lloadN X0.here hx rfl (hb hby d5_56) rfl k) ?_
          show own_Fin p.tables e below _ (s₁.setTop (mkF m 57 #[.val (.ref o0), .val (.int p1), .val (.long q2), .second] [(.long q2), (.int (B_o0 (p1 + (4 : Int32))))]))
          refine own_by (fun _ k => XS.bipush X0.here hx rfl (hb hby d5_57) k) ?_
          show own_Fin p.tables e below _ (s₁.setTop (mkF m 59 #[.val (.ref o0), .val (.int p1), .val (.long q2), .second] [(.int (32 : Int32)), (.long q2), (.int (B_o0 (p1 + (4 : Int32))))]))
          refine own_by (fun _ k => XS.lushr X0.here hx rfl (hb hby d5_59) rfl k) ?_
          show own_Fin p.tables e below _ (s₁.setTop (mkF m 60 #[.val (.ref o0), .val (.int p1), .val (.long q2), .second] [(.long ((q2.toUInt64 >>> ((32 : Int32) &&& 0x3f).toInt64.toUInt64).toInt64)), (.int (B_o0 (p1 + (4 : Int32))))]))
          refine own_by (fun _ k => XS.l2i X0.here hx rfl (hb hby d5_60) rfl k) ?_
          show own_Fin p.tables e below _ (s₁.setTop (mkF m 61 #[.val (.ref o0), .val (.int p1), .val (.long q2), .second] [(.int (((q2.toUInt64 >>> ((32 : Int32) &&& 0x3f).toInt64.toUInt64).toInt64).toInt32)), (.int (B_o0 (p1 + (4 : Int32))))]))
          refine own_by (fun _ k => XS.i2b X0.here hx rfl (hb hby d5_61) rfl k) ?_
          show own_Fin p.tables e below _ (s₁.setTop (mkF m 62 #[.val (.ref o0), .val (.int p1), .val (.long q2), .second] [(.int ((((q2.toUInt64 >>> ((32 : Int32) &&& 0x3f).toInt64.toUInt64).toInt64).toInt32).toInt8.toInt32)), (.int (B_o0 (p1 + (4 : Int32))))]))
          by_cases hc5 : (B_o0 (p1 + (4 : Int32))) = ((((q2.toUInt64 >>> ((32 : Int32) &&& 0x3f).toInt64.toUInt64).toInt64).toInt32).toInt8.toInt32)
          · refine own_by (fun _ k => XS.icmpNo X0.here hx rfl (hb hby d5_62) rfl (teq hc5).2 k) ?_
            show own_Fin p.tables e below _ (s₁.setTop (mkF m 65 #[.val (.ref o0), .val (.int p1), .val (.long q2), .second] []))
            refine own_by (fun _ k => XS.aloadN X0.here hx rfl (hb hby d5_65) rfl rfl k) ?_
            show own_Fin p.tables e below _ (s₁.setTop (mkF m 66 #[.val (.ref o0), .val (.int p1), .val (.long q2), .second] [(.ref o0)]))
            refine own_by (fun _ k => XS.iloadN X0.here hx rfl (hb hby d5_66) rfl k) ?_
            show own_Fin p.tables e below _ (s₁.setTop (mkF m 67 #[.val (.ref o0), .val (.int p1), .val (.long q2), .second] [(.int p1), (.ref o0)]))
            refine own_by (fun _ k => XS.iconst X0.here hx rfl (hb hby d5_67) k) ?_
            show own_Fin p.tables e below _ (s₁.setTop (mkF m 68 #[.val (.ref o0), .val (.int p1), .val (.long q2), .second] [(.int (5 : Int32)), (.int p1), (.ref o0)]))
            refine own_by (fun _ k => XS.iadd X0.here hx rfl (hb hby d5_68) rfl k) ?_
            show own_Fin p.tables e below _ (s₁.setTop (mkF m 69 #[.val (.ref o0), .val (.int p1), .val (.long q2), .second] [(.int (p1 + (5 : Int32))), (.ref o0)]))
            refine own_by (own_bal X0 hx hZ e0 V_o0 (j := (p1 + (5 : Int32))) (own_nn (by omega)) (own_ltof (by omega)) (g := (mkF m 69 #[.val (.ref o0), .val (.int p1), .val (.long q2), .second] [(.int (p1 + (5 : Int32))), (.ref o0)])) rfl rfl (hb hby d5_69)) ?_
            show own_Fin p.tables e below _ (s₁.setTop (mkF m 70 #[.val (.ref o0), .val (.int p1), .val (.long q2), .second] [(.int (B_o0 (p1 + (5 : Int32))))]))
            refine own_by (fun _ k => XS.lloadN X0.here hx rfl (hb hby d5_70) rfl k) ?_
            show own_Fin p.tables e below _ (s₁.setTop (mkF m 71 #[.val (.ref o0), .val (.int p1), .val (.long q2), .second] [(.long q2), (.int (B_o0 (p1 + (5 : Int32))))]))
            refine own_by (fun _ k => XS.bipush X0.here hx rfl (hb hby d5_71) k) ?_
            show own_Fin p.tables e below _ (s₁.setTop (mkF m 73 #[.val (.ref o0), .val (.int p1), .val (.long q2), .second] [(.int (40 : Int32)), (.long q2), (.int (B_o0 (p1 + (5 : Int32))))]))
            refine own_by (fun _ k => XS.lushr X0.here hx rfl (hb hby d5_73) rfl k) ?_
            show own_Fin p.tables e below _ (s₁.setTop (mkF m 74 #[.val (.ref o0), .val (.int p1), .val (.long q2), .second] [(.long ((q2.toUInt64 >>> ((40 : Int32) &&& 0x3f).toInt64.toUInt64).toInt64)), (.int (B_o0 (p1 + (5 : Int32))))]))
            refine own_by (fun _ k => XS.l2i X0.here hx rfl (hb hby d5_74) rfl k) ?_
            show own_Fin p.tables e below _ (s₁.setTop (mkF m 75 #[.val (.ref o0), .val (.int p1), .val (.long q2), .second] [(.int (((q2.toUInt64 >>> ((40 : Int32) &&& 0x3f).toInt64.toUInt64).toInt64).toInt32)), (.int (B_o0 (p1 + (5 : Int32))))]))
            refine own_by (fun _ k => XS.i2b X0.here hx rfl (hb hby d5_75) rfl k) ?_
            show own_Fin p.tables e below _ (s₁.setTop (mkF m 76 #[.val (.ref o0), .val (.int p1), .val (.long q2), .second] [(.int ((((q2.toUInt64 >>> ((40 : Int32) &&& 0x3f).toInt64.toUInt64).toInt64).toInt32).toInt8.toInt32)), (.int (B_o0 (p1 + (5 : Int32))))]))
            by_cases hc6 : (B_o0 (p1 + (5 : Int32))) = ((((q2.toUInt64 >>> ((40 : Int32) &&& 0x3f).toInt64.toUInt64).toInt64).toInt32).toInt8.toInt32)
            · refine own_by (fun _ k => XS.icmpNo X0.here hx rfl (hb hby d5_76) rfl (teq hc6).2 k) ?_
              show own_Fin p.tables e below _ (s₁.setTop (mkF m 79 #[.val (.ref o0), .val (.int p1), .val (.long q2), .second] []))
              refine own_by (fun _ k => XS.aloadN X0.here hx rfl (hb hby d5_79) rfl rfl k) ?_
              show own_Fin p.tables e below _ (s₁.setTop (mkF m 80 #[.val (.ref o0), .val (.int p1), .val (.long q2), .second] [(.ref o0)]))
              refine own_by (fun _ k => XS.iloadN X0.here hx rfl (hb hby d5_80) rfl k) ?_
              show own_Fin p.tables e below _ (s₁.setTop (mkF m 81 #[.val (.ref o0), .val (.int p1), .val (.long q2), .second] [(.int p1), (.ref o0)]))
              refine own_by (fun _ k => XS.bipush X0.here hx rfl (hb hby d5_81) k) ?_
              show own_Fin p.tables e below _ (s₁.setTop (mkF m 83 #[.val (.ref o0), .val (.int p1), .val (.long q2), .second] [(.int (6 : Int32)), (.int p1), (.ref o0)]))
              refine own_by (fun _ k => XS.iadd X0.here hx rfl (hb hby d5_83) rfl k) ?_
              show own_Fin p.tables e below _ (s₁.setTop (mkF m 84 #[.val (.ref o0), .val (.int p1), .val (.long q2), .second] [(.int (p1 + (6 : Int32))), (.ref o0)]))
              refine own_by (own_bal X0 hx hZ e0 V_o0 (j := (p1 + (6 : Int32))) (own_nn (by omega)) (own_ltof (by omega)) (g := (mkF m 84 #[.val (.ref o0), .val (.int p1), .val (.long q2), .second] [(.int (p1 + (6 : Int32))), (.ref o0)])) rfl rfl (hb hby d5_84)) ?_
              show own_Fin p.tables e below _ (s₁.setTop (mkF m 85 #[.val (.ref o0), .val (.int p1), .val (.long q2), .second] [(.int (B_o0 (p1 + (6 : Int32))))]))
              refine own_by (fun _ k => XS.lloadN X0.here hx rfl (hb hby d5_85) rfl k) ?_
              show own_Fin p.tables e below _ (s₁.setTop (mkF m 86 #[.val (.ref o0), .val (.int p1), .val (.long q2), .second] [(.long q2), (.int (B_o0 (p1 + (6 : Int32))))]))
              refine own_by (fun _ k => XS.bipush X0.here hx rfl (hb hby d5_86) k) ?_
              show own_Fin p.tables e below _ (s₁.setTop (mkF m 88 #[.val (.ref o0), .val (.int p1), .val (.long q2), .second] [(.int (48 : Int32)), (.long q2), (.int (B_o0 (p1 + (6 : Int32))))]))
              refine own_by (fun _ k => XS.lushr X0.here hx rfl (hb hby d5_88) rfl k) ?_
              show own_Fin p.tables e below _ (s₁.setTop (mkF m 89 #[.val (.ref o0), .val (.int p1), .val (.long q2), .second] [(.long ((q2.toUInt64 >>> ((48 : Int32) &&& 0x3f).toInt64.toUInt64).toInt64)), (.int (B_o0 (p1 + (6 : Int32))))]))
              refine own_by (fun _ k => XS.l2i X0.here hx rfl (hb hby d5_89) rfl k) ?_
              show own_Fin p.tables e below _ (s₁.setTop (mkF m 90 #[.val (.ref o0), .val (.int p1), .val (.long q2), .second] [(.int (((q2.toUInt64 >>> ((48 : Int32) &&& 0x3f).toInt64.toUInt64).toInt64).toInt32)), (.int (B_o0 (p1 + (6 : Int32))))]))
              refine own_by (fun _ k => XS.i2b X0.here hx rfl (hb hby d5_90) rfl k) ?_
              show own_Fin p.tables e below _ (s₁.setTop (mkF m 91 #[.val (.ref o0), .val (.int p1), .val (.long q2), .second] [(.int ((((q2.toUInt64 >>> ((48 : Int32) &&& 0x3f).toInt64.toUInt64).toInt64).toInt32).toInt8.toInt32)), (.int (B_o0 (p1 + (6 : Int32))))]))
              by_cases hc7 : (B_o0 (p1 + (6 : Int32))) = ((((q2.toUInt64 >>> ((48 : Int32) &&& 0x3f).toInt64.toUInt64).toInt64).toInt32).toInt8.toInt32)
              · refine own_by (fun _ k => XS.icmpNo X0.here hx rfl (hb hby d5_91) rfl (teq hc7).2 k) ?_
                show own_Fin p.tables e below _ (s₁.setTop (mkF m 94 #[.val (.ref o0), .val (.int p1), .val (.long q2), .second] []))
                refine own_by (fun _ k => XS.aloadN X0.here hx rfl (hb hby d5_94) rfl rfl k) ?_
                show own_Fin p.tables e below _ (s₁.setTop (mkF m 95 #[.val (.ref o0), .val (.int p1), .val (.long q2), .second] [(.ref o0)]))
                refine own_by (fun _ k => XS.iloadN X0.here hx rfl (hb hby d5_95) rfl k) ?_
                show own_Fin p.tables e below _ (s₁.setTop (mkF m 96 #[.val (.ref o0), .val (.int p1), .val (.long q2), .second] [(.int p1), (.ref o0)]))
                refine own_by (fun _ k => XS.bipush X0.here hx rfl (hb hby d5_96) k) ?_
                show own_Fin p.tables e below _ (s₁.setTop (mkF m 98 #[.val (.ref o0), .val (.int p1), .val (.long q2), .second] [(.int (7 : Int32)), (.int p1), (.ref o0)]))
                refine own_by (fun _ k => XS.iadd X0.here hx rfl (hb hby d5_98) rfl k) ?_
                show own_Fin p.tables e below _ (s₁.setTop (mkF m 99 #[.val (.ref o0), .val (.int p1), .val (.long q2), .second] [(.int (p1 + (7 : Int32))), (.ref o0)]))
                refine own_by (own_bal X0 hx hZ e0 V_o0 (j := (p1 + (7 : Int32))) (own_nn (by omega)) (own_ltof (by omega)) (g := (mkF m 99 #[.val (.ref o0), .val (.int p1), .val (.long q2), .second] [(.int (p1 + (7 : Int32))), (.ref o0)])) rfl rfl (hb hby d5_99)) ?_
                show own_Fin p.tables e below _ (s₁.setTop (mkF m 100 #[.val (.ref o0), .val (.int p1), .val (.long q2), .second] [(.int (B_o0 (p1 + (7 : Int32))))]))
                refine own_by (fun _ k => XS.lloadN X0.here hx rfl (hb hby d5_100) rfl k) ?_
                show own_Fin p.tables e below _ (s₁.setTop (mkF m 101 #[.val (.ref o0), .val (.int p1), .val (.long q2), .second] [(.long q2), (.int (B_o0 (p1 + (7 : Int32))))]))
                refine own_by (fun _ k => XS.bipush X0.here hx rfl (hb hby d5_101) k) ?_
                show own_Fin p.tables e below _ (s₁.setTop (mkF m 103 #[.val (.ref o0), .val (.int p1), .val (.long q2), .second] [(.int (56 : Int32)), (.long q2), (.int (B_o0 (p1 + (7 : Int32))))]))
                refine own_by (fun _ k => XS.lushr X0.here hx rfl (hb hby d5_103) rfl k) ?_
                show own_Fin p.tables e below _ (s₁.setTop (mkF m 104 #[.val (.ref o0), .val (.int p1), .val (.long q2), .second] [(.long ((q2.toUInt64 >>> ((56 : Int32) &&& 0x3f).toInt64.toUInt64).toInt64)), (.int (B_o0 (p1 + (7 : Int32))))]))
                refine own_by (fun _ k => XS.l2i X0.here hx rfl (hb hby d5_104) rfl k) ?_
                show own_Fin p.tables e below _ (s₁.setTop (mkF m 105 #[.val (.ref o0), .val (.int p1), .val (.long q2), .second] [(.int (((q2.toUInt64 >>> ((56 : Int32) &&& 0x3f).toInt64.toUInt64).toInt64).toInt32)), (.int (B_o0 (p1 + (7 : Int32))))]))
                refine own_by (fun _ k => XS.i2b X0.here hx rfl (hb hby d5_105) rfl k) ?_
                show own_Fin p.tables e below _ (s₁.setTop (mkF m 106 #[.val (.ref o0), .val (.int p1), .val (.long q2), .second] [(.int ((((q2.toUInt64 >>> ((56 : Int32) &&& 0x3f).toInt64.toUInt64).toInt64).toInt32).toInt8.toInt32)), (.int (B_o0 (p1 + (7 : Int32))))]))
                by_cases hc8 : (B_o0 (p1 + (7 : Int32))) = ((((q2.toUInt64 >>> ((56 : Int32) &&& 0x3f).toInt64.toUInt64).toInt64).toInt32).toInt8.toInt32)
                · refine own_by (fun _ k => XS.icmpNo X0.here hx rfl (hb hby d5_106) rfl (teq hc8).2 k) ?_
                  show own_Fin p.tables e below _ (s₁.setTop (mkF m 109 #[.val (.ref o0), .val (.int p1), .val (.long q2), .second] []))
                  refine own_by (fun _ k => XS.iconst X0.here hx rfl (hb hby d5_109) k) ?_
                  show own_Fin p.tables e below _ (s₁.setTop (mkF m 110 #[.val (.ref o0), .val (.int p1), .val (.long q2), .second] [(.int (1 : Int32))]))
                  refine own_by (fun _ k => XS.goto X0.here hx rfl (pc0 := 110) (pc' := 114) rfl (hb hby d5_110) (by decide) (by decide) k) ?_
                  show own_Fin p.tables e below _ (s₁.setTop (mkF m 114 #[.val (.ref o0), .val (.int p1), .val (.long q2), .second] [(.int (1 : Int32))]))
                  have ef := (show f5 z_o0 B_o0 p1 q2 = (1 : Int32) from by unfold f5; rw [if_pos hc1, if_pos hc2, if_pos hc3, if_pos hc4, if_pos hc5, if_pos hc6, if_pos hc7, if_pos hc8])
                  exact own_retN X0 hx (t := .boolean) Bd.returns hlk (by simp) (hb hby d5_114) (by decide) (by decide) ⟨by rw [ef]; rfl, N0, e0⟩
                · refine own_by (fun _ k => XS.icmpYes X0.here hx rfl (pc0 := 106) (pc' := 113) rfl (hb hby d5_106) rfl (feq hc8).2 (by decide) (by decide) k) ?_
                  show own_Fin p.tables e below _ (s₁.setTop (mkF m 113 #[.val (.ref o0), .val (.int p1), .val (.long q2), .second] []))
                  refine own_by (fun _ k => XS.iconst X0.here hx rfl (hb hby d5_113) k) ?_
                  show own_Fin p.tables e below _ (s₁.setTop (mkF m 114 #[.val (.ref o0), .val (.int p1), .val (.long q2), .second] [(.int (0 : Int32))]))
                  have ef := (show f5 z_o0 B_o0 p1 q2 = (0 : Int32) from by unfold f5; rw [if_pos hc1, if_pos hc2, if_pos hc3, if_pos hc4, if_pos hc5, if_pos hc6, if_pos hc7, if_neg hc8])
                  exact own_retN X0 hx (t := .boolean) Bd.returns hlk (by simp) (hb hby d5_114) (by decide) (by decide) ⟨by rw [ef]; rfl, N0, e0⟩
              · refine own_by (fun _ k => XS.icmpYes X0.here hx rfl (pc0 := 91) (pc' := 113) rfl (hb hby d5_91) rfl (feq hc7).2 (by decide) (by decide) k) ?_
                show own_Fin p.tables e below _ (s₁.setTop (mkF m 113 #[.val (.ref o0), .val (.int p1), .val (.long q2), .second] []))
                refine own_by (fun _ k => XS.iconst X0.here hx rfl (hb hby d5_113) k) ?_
                show own_Fin p.tables e below _ (s₁.setTop (mkF m 114 #[.val (.ref o0), .val (.int p1), .val (.long q2), .second] [(.int (0 : Int32))]))
                have ef := (show f5 z_o0 B_o0 p1 q2 = (0 : Int32) from by unfold f5; rw [if_pos hc1, if_pos hc2, if_pos hc3, if_pos hc4, if_pos hc5, if_pos hc6, if_neg hc7])
                exact own_retN X0 hx (t := .boolean) Bd.returns hlk (by simp) (hb hby d5_114) (by decide) (by decide) ⟨by rw [ef]; rfl, N0, e0⟩
            · refine own_by (fun _ k => XS.icmpYes X0.here hx rfl (pc0 := 76) (pc' := 113) rfl (hb hby d5_76) rfl (feq hc6).2 (by decide) (by decide) k) ?_
              show own_Fin p.tables e below _ (s₁.setTop (mkF m 113 #[.val (.ref o0), .val (.int p1), .val (.long q2), .second] []))
              refine own_by (fun _ k => XS.iconst X0.here hx rfl (hb hby d5_113) k) ?_
              show own_Fin p.tables e below _ (s₁.setTop (mkF m 114 #[.val (.ref o0), .val (.int p1), .val (.long q2), .second] [(.int (0 : Int32))]))
              have ef := (show f5 z_o0 B_o0 p1 q2 = (0 : Int32) from by unfold f5; rw [if_pos hc1, if_pos hc2, if_pos hc3, if_pos hc4, if_pos hc5, if_neg hc6])
              exact own_retN X0 hx (t := .boolean) Bd.returns hlk (by simp) (hb hby d5_114) (by decide) (by decide) ⟨by rw [ef]; rfl, N0, e0⟩
          · refine own_by (fun _ k => XS.icmpYes X0.here hx rfl (pc0 := 62) (pc' := 113) rfl (hb hby d5_62) rfl (feq hc5).2 (by decide) (by decide) k) ?_
            show own_Fin p.tables e below _ (s₁.setTop (mkF m 113 #[.val (.ref o0), .val (.int p1), .val (.long q2), .second] []))
            refine own_by (fun _ k => XS.iconst X0.here hx rfl (hb hby d5_113) k) ?_
            show own_Fin p.tables e below _ (s₁.setTop (mkF m 114 #[.val (.ref o0), .val (.int p1), .val (.long q2), .second] [(.int (0 : Int32))]))
            have ef := (show f5 z_o0 B_o0 p1 q2 = (0 : Int32) from by unfold f5; rw [if_pos hc1, if_pos hc2, if_pos hc3, if_pos hc4, if_neg hc5])
            exact own_retN X0 hx (t := .boolean) Bd.returns hlk (by simp) (hb hby d5_114) (by decide) (by decide) ⟨by rw [ef]; rfl, N0, e0⟩
        · refine own_by (fun _ k => XS.icmpYes X0.here hx rfl (pc0 := 48) (pc' := 113) rfl (hb hby d5_48) rfl (feq hc4).2 (by decide) (by decide) k) ?_
          show own_Fin p.tables e below _ (s₁.setTop (mkF m 113 #[.val (.ref o0), .val (.int p1), .val (.long q2), .second] []))
          refine own_by (fun _ k => XS.iconst X0.here hx rfl (hb hby d5_113) k) ?_
          show own_Fin p.tables e below _ (s₁.setTop (mkF m 114 #[.val (.ref o0), .val (.int p1), .val (.long q2), .second] [(.int (0 : Int32))]))
          have ef := (show f5 z_o0 B_o0 p1 q2 = (0 : Int32) from by unfold f5; rw [if_pos hc1, if_pos hc2, if_pos hc3, if_neg hc4])
          exact own_retN X0 hx (t := .boolean) Bd.returns hlk (by simp) (hb hby d5_114) (by decide) (by decide) ⟨by rw [ef]; rfl, N0, e0⟩
      · refine own_by (fun _ k => XS.icmpYes X0.here hx rfl (pc0 := 34) (pc' := 113) rfl (hb hby d5_34) rfl (feq hc3).2 (by decide) (by decide) k) ?_
        show own_Fin p.tables e below _ (s₁.setTop (mkF m 113 #[.val (.ref o0), .val (.int p1), .val (.long q2), .second] []))
        refine own_by (fun _ k => XS.iconst X0.here hx rfl (hb hby d5_113) k) ?_
        show own_Fin p.tables e below _ (s₁.setTop (mkF m 114 #[.val (.ref o0), .val (.int p1), .val (.long q2), .second] [(.int (0 : Int32))]))
        have ef := (show f5 z_o0 B_o0 p1 q2 = (0 : Int32) from by unfold f5; rw [if_pos hc1, if_pos hc2, if_neg hc3])
        exact own_retN X0 hx (t := .boolean) Bd.returns hlk (by simp) (hb hby d5_114) (by decide) (by decide) ⟨by rw [ef]; rfl, N0, e0⟩
    · refine own_by (fun _ k => XS.icmpYes X0.here hx rfl (pc0 := 20) (pc' := 113) rfl (hb hby d5_20) rfl (feq hc2).2 (by decide) (by decide) k) ?_
      show own_Fin p.tables e below _ (s₁.setTop (mkF m 113 #[.val (.ref o0), .val (.int p1), .val (.long q2), .second] []))
      refine own_by (fun _ k => XS.iconst X0.here hx rfl (hb hby d5_113) k) ?_
      show own_Fin p.tables e below _ (s₁.setTop (mkF m 114 #[.val (.ref o0), .val (.int p1), .val (.long q2), .second] [(.int (0 : Int32))]))
      have ef := (show f5 z_o0 B_o0 p1 q2 = (0 : Int32) from by unfold f5; rw [if_pos hc1, if_neg hc2])
      exact own_retN X0 hx (t := .boolean) Bd.returns hlk (by simp) (hb hby d5_114) (by decide) (by decide) ⟨by rw [ef]; rfl, N0, e0⟩
  · refine own_by (fun _ k => XS.icmpYes X0.here hx rfl (pc0 := 6) (pc' := 113) rfl (hb hby d5_6) rfl (feq hc1).2 (by decide) (by decide) k) ?_
    show own_Fin p.tables e below _ (s₁.setTop (mkF m 113 #[.val (.ref o0), .val (.int p1), .val (.long q2), .second] []))
    refine own_by (fun _ k => XS.iconst X0.here hx rfl (hb hby d5_113) k) ?_
    show own_Fin p.tables e below _ (s₁.setTop (mkF m 114 #[.val (.ref o0), .val (.int p1), .val (.long q2), .second] [(.int (0 : Int32))]))
    have ef := (show f5 z_o0 B_o0 p1 q2 = (0 : Int32) from by unfold f5; rw [if_neg hc1])
    exact own_retN X0 hx (t := .boolean) Bd.returns hlk (by simp) (hb hby d5_114) (by decide) (by decide) ⟨by rw [ef]; rfl, N0, e0⟩
theorem d4_0 : decode jdk_29_method_69_code 0 = .ok (.iload_n 0, 1) := by decide +kernel
theorem d4_1 : decode jdk_29_method_69_code 1 = .ok (.iload_n 1, 1) := by decide +kernel
theorem d4_2 : decode jdk_29_method_69_code 2 = .ok (.if_icmp .gt 7, 3) := by decide +kernel
theorem d4_5 : decode jdk_29_method_69_code 5 = .ok (.iload_n 0, 1) := by decide +kernel
theorem d4_6 : decode jdk_29_method_69_code 6 = .ok (.goto 4, 3) := by decide +kernel
theorem d4_9 : decode jdk_29_method_69_code 9 = .ok (.iload_n 1, 1) := by decide +kernel
theorem d4_10 : decode jdk_29_method_69_code 10 = .ok (.ireturn, 1) := by decide +kernel
theorem ef_4 (m : MethodId) (p0 : Int32) (p1 : Int32) : entryFrame m #[(.int p0), (.int p1)] 2 = mkF m 0 #[.val (.int p0), .val (.int p1)] [] := by first | (simp [entryFrame, mkF, argsToLocals, Value.category]; done) | rfl
def f4 (p0 : Int32) (p1 : Int32) : Int32 :=
  if p1 < p0 then
    p1
  else
    p0
def Q4 (p0 : Int32) (p1 : Int32) (h0 : Heap) (n0 : Nat) (v : Option Value) (h : Heap) (L : List Loc) : Prop := v = some (.int (f4 p0 p1)) ∧ Fr n0 L ∧ h = h0
set_option maxRecDepth 65536 in
set_option maxHeartbeats 40000000 in
theorem rm4 (l : Launch) (Z : State) (a0 : Array Value) (hw : ∀ d ∈ tables_1, d.before a0 Z = true) (ws : List Jvm.Cond) (p0 : Int32) (p1 : Int32)   (h0 : Heap) (n0 : Nat) (Z0 : n0 ≤ h0.size)   :
    MetFree l (⟨"java/lang/Math", "min", "(II)I"⟩ : MethodName) (head1 (Jvm.Cond.code (⟨"java/lang/Math", "min", "(II)I"⟩ : MethodName) jdk_29_method_69_code 2 (some .int) :: ws) ({ frames := 0, cells := 0, slots := 0, locals := 0 } : Room)) (fun a U => a = #[(.int p0), (.int p1)] ∧ Z.Warmed39 U.vm ∧ U.heap = h0) (fun _ _ _ _ _ => True) (fun _ U o U' => ∃ v L, o = .returned v ∧ Q4 p0 p1 h0 n0 v U'.heap L ∧ FrameEnd U o U' L ({ frames := 0, cells := 0, slots := 0, locals := 0 } : Room).cells ({ frames := 0, cells := 0, slots := 0, locals := 0 } : Room).slots) := by
  refine MetFree.of_bodySF (Jvm.Free.JP.mathPlain rfl (by decide +kernel)) hisR ?_
  intro p e s m args below meth c s₁ Bd hml0 hP hK
  obtain ⟨rfl, hZ, hh⟩ := hP
  have hx := Bd.exec
  have hby := Bd.bytes
  have hlk : meth.locks = false := BodyLoose.notSynchronized Bd
  have hml : c.maxLocals = 2 := hml0
  have hown : s.vm.findClass "java/lang/Math" = some m.cls := findClass_of_methodNamed Bd.named
  have hnm := (name_of_methodNamed Bd.named Bd.method).1
  have X0 : Stand p l e ({ frames := 0, cells := 0, slots := 0, locals := 0 } : Room) s m #[(.int p0), (.int p1)] below meth c s₁ [] 0 0 := Stand.of_body Bd
  have e0 : s₁.heap = h0 := by rw [← hh, Bd.state]; rfl
  have N0 := Fr.nil n0
  refine own_by (U' := s₁.setTop (mkF m 0 #[.val (.int p0), .val (.int p1)] [])) (fun t k => castTop (ef_4 m p0 p1) k) ?_
  refine own_by (fun _ k => XS.iloadN X0.here hx rfl (hb hby d4_0) rfl k) ?_
  show own_Fin p.tables e below _ (s₁.setTop (mkF m 1 #[.val (.int p0), .val (.int p1)] [(.int p0)]))
  refine own_by (fun _ k => XS.iloadN X0.here hx rfl (hb hby d4_1) rfl k) ?_
  show own_Fin p.tables e below _ (s₁.setTop (mkF m 2 #[.val (.int p0), .val (.int p1)] [(.int p1), (.int p0)]))
  by_cases hc1 : p1 < p0
  · refine own_by (fun _ k => XS.icmpYes X0.here hx rfl (pc0 := 2) (pc' := 9) rfl (hb hby d4_2) rfl (tlt hc1).2.2.1 (by decide) (by decide) k) ?_
    show own_Fin p.tables e below _ (s₁.setTop (mkF m 9 #[.val (.int p0), .val (.int p1)] []))
    refine own_by (fun _ k => XS.iloadN X0.here hx rfl (hb hby d4_9) rfl k) ?_
    show own_Fin p.tables e below _ (s₁.setTop (mkF m 10 #[.val (.int p0), .val (.int p1)] [(.int p1)]))
    have ef := (show f4 p0 p1 = p1 from by unfold f4; rw [if_pos hc1])
    exact own_retI X0 hx Bd.returns hlk (hb hby d4_10) (by decide) (by decide) ⟨by rw [ef], N0, e0⟩
  · refine own_by (fun _ k => XS.icmpNo X0.here hx rfl (hb hby d4_2) rfl (flt hc1).2.2.1 k) ?_
    show own_Fin p.tables e below _ (s₁.setTop (mkF m 5 #[.val (.int p0), .val (.int p1)] []))
    refine own_by (fun _ k => XS.iloadN X0.here hx rfl (hb hby d4_5) rfl k) ?_
    show own_Fin p.tables e below _ (s₁.setTop (mkF m 6 #[.val (.int p0), .val (.int p1)] [(.int p0)]))
    refine own_by (fun _ k => XS.goto X0.here hx rfl (pc0 := 6) (pc' := 10) rfl (hb hby d4_6) (by decide) (by decide) k) ?_
    show own_Fin p.tables e below _ (s₁.setTop (mkF m 10 #[.val (.int p0), .val (.int p1)] [(.int p0)]))
    have ef := (show f4 p0 p1 = p0 from by unfold f4; rw [if_neg hc1])
    exact own_retI X0 hx Bd.returns hlk (hb hby d4_10) (by decide) (by decide) ⟨by rw [ef], N0, e0⟩
def own_c1 (B : Int32 → Int32) : Int32 → Int32 := fun j => if j < 16 then B j else 0
theorem own_c1h (B : Int32 → Int32) (z' dp nn : Int32) (hd : dp = 0) (hn : nn = 16) : ∀ j : Int32, ¬ j < 0 → j < z' → own_c1 B j = if dp.toInt ≤ j.toInt ∧ j.toInt < dp.toInt + nn.toInt then B (Int32.ofNat (j.toNatClampNeg - dp.toNatClampNeg)) else (fun _ => (0 : Int32)) j := fun j h0 hz => by
  subst hd hn
  have n1 := nat_of h0
  have e : ((0 : Int32)).toNatClampNeg = 0 := by decide
  rw [e, Nat.sub_zero, own_back j h0, own_z, own_l16]
  unfold own_c1
  by_cases q : j < 16
  · have := own_lt.mp q
    rw [own_l16] at this
    rw [if_pos q, if_pos (by omega)]
  · have := own_ge q
    rw [own_l16] at this
    rw [if_neg q, if_neg (by omega)]
def own_c2 (B B' : Int32 → Int32) : Int32 → Int32 := fun j => if j < 16 then B j else B' (j - 16)
theorem own_c2h (B B' : Int32 → Int32) : ∀ j : Int32, ¬ j < 0 → j < (48 : Int32) → own_c2 B B' j = if (16 : Int32).toInt ≤ j.toInt ∧ j.toInt < (16 : Int32).toInt + (32 : Int32).toInt then B' (Int32.ofNat (j.toNatClampNeg - (16 : Int32).toNatClampNeg)) else own_c1 B j := fun j h0 hz => by
  have n1 := nat_of h0
  have n2 := own_lt.mp hz
  rw [own_l48] at n2
  have e : ((16 : Int32)).toNatClampNeg = 16 := by decide
  rw [e, own_l16, own_l32]
  unfold own_c2 own_c1
  by_cases q : j < 16
  · have := own_lt.mp q
    rw [own_l16] at this
    rw [if_pos q, if_neg (by omega), if_pos q]
  · have := own_ge q
    rw [own_l16] at this
    rw [if_neg q, if_pos (by omega)]
    congr 1
    apply Int32.toInt_inj.mp
    rw [own_sub _ _ (by rw [own_l16]; omega) (by rw [own_l16]; omega), own_l16, own_nat _ (by omega)]
    omega
theorem d3_0 : decode jdk_65_method_121_code 0 = .ok (.iload_n 1, 1) := by decide +kernel
theorem d3_1 : decode jdk_65_method_121_code 1 = .ok (.aload_n 0, 1) := by decide +kernel
theorem d3_2 : decode jdk_65_method_121_code 2 = .ok (.arraylength, 1) := by decide +kernel
theorem d3_3 : decode jdk_65_method_121_code 3 = .ok (.if_icmp .ne 11, 3) := by decide +kernel
theorem d3_14 : decode jdk_65_method_121_code 14 = .ok (.iload_n 1, 1) := by decide +kernel
theorem d3_15 : decode jdk_65_method_121_code 15 = .ok (.newarray .byte, 2) := by decide +kernel
theorem d3_17 : decode jdk_65_method_121_code 17 = .ok (.astore_n 2, 1) := by decide +kernel
theorem d3_18 : decode jdk_65_method_121_code 18 = .ok (.aload_n 0, 1) := by decide +kernel
theorem d3_19 : decode jdk_65_method_121_code 19 = .ok (.iconst 0, 1) := by decide +kernel
theorem d3_20 : decode jdk_65_method_121_code 20 = .ok (.aload_n 2, 1) := by decide +kernel
theorem d3_21 : decode jdk_65_method_121_code 21 = .ok (.iconst 0, 1) := by decide +kernel
theorem d3_22 : decode jdk_65_method_121_code 22 = .ok (.aload_n 0, 1) := by decide +kernel
theorem d3_23 : decode jdk_65_method_121_code 23 = .ok (.arraylength, 1) := by decide +kernel
theorem d3_24 : decode jdk_65_method_121_code 24 = .ok (.iload_n 1, 1) := by decide +kernel
theorem d3_25 : decode jdk_65_method_121_code 25 = .ok (.invokestatic 304, 3) := by decide +kernel
theorem d3_28 : decode jdk_65_method_121_code 28 = .ok (.invokestatic 150, 3) := by decide +kernel
theorem d3_31 : decode jdk_65_method_121_code 31 = .ok (.aload_n 2, 1) := by decide +kernel
theorem d3_32 : decode jdk_65_method_121_code 32 = .ok (.areturn, 1) := by decide +kernel
theorem pd__II_I : parseMethodDescriptor "(II)I" = some ⟨[.int, .int], some .int⟩ := by decide +kernel
theorem pn_java_util_Arrays : plainName "java/util/Arrays" = true := by first | (simp [plainName, overriddenIn]; done) | decide +kernel
theorem ef_3 (m : MethodId) (o0 : Addr) (p1 : Int32) : entryFrame m #[(.ref o0), (.int p1)] 3 = mkF m 0 #[.val (.ref o0), .val (.int p1), .unset] [] := by first | (simp [entryFrame, mkF, argsToLocals, Value.category]; done) | rfl
def Q3 (Z : State) (B_o0 : Int32 → Int32) (h0 : Heap) (n0 : Nat) (v : Option Value) (h : Heap) (L : List Loc) : Prop := ∃ b : Addr, v = some (.ref b) ∧ Fr n0 L ∧ h0.size ≤ b ∧ Keep h0 h [] ∧ own_Byt Z h b 48 (own_c1 B_o0)
set_option maxRecDepth 65536 in
set_option maxHeartbeats 40000000 in
theorem rm3 (l : Launch) (Z : State) (a0 : Array Value) (hw : ∀ d ∈ tables_1, d.before a0 Z = true) (ws : List Jvm.Cond) (o0 : Addr) (p1 : Int32) (z_o0 : Int32) (B_o0 : Int32 → Int32)  (h0 : Heap) (n0 : Nat) (Z0 : n0 ≤ h0.size) (V_o0 : own_Byt Z h0 o0 z_o0 B_o0) (hp : p1 = 48) (hz : z_o0 = 16) :
    MetFree l (⟨"java/util/Arrays", "copyOf", "([BI)[B"⟩ : MethodName) (head1 (Jvm.Cond.code (⟨"java/util/Arrays", "copyOf", "([BI)[B"⟩ : MethodName) jdk_65_method_121_code 3 (some (.array .byte)) :: ws) ({ frames := 1, cells := 1, slots := 48, locals := 40 } : Room)) (fun a U => a = #[(.ref o0), (.int p1)] ∧ Z.Warmed39 U.vm ∧ U.heap = h0) (fun _ _ _ _ _ => True) (fun _ U o U' => ∃ v L, o = .returned v ∧ Q3 Z B_o0 h0 n0 v U'.heap L ∧ FrameEnd U o U' L ({ frames := 1, cells := 1, slots := 48, locals := 40 } : Room).cells ({ frames := 1, cells := 1, slots := 48, locals := 40 } : Room).slots) := by
  refine MetFree.of_bodySF (plainFor_of_name pn_java_util_Arrays) hisR ?_
  intro p e s m args below meth c s₁ Bd hml0 hP hK
  obtain ⟨rfl, hZ, hh⟩ := hP
  have hx := Bd.exec
  have hby := Bd.bytes
  have hlk : meth.locks = false := BodyLoose.notSynchronized Bd
  have hml : c.maxLocals = 3 := hml0
  have hown : s.vm.findClass "java/util/Arrays" = some m.cls := findClass_of_methodNamed Bd.named
  have hnm := (name_of_methodNamed Bd.named Bd.method).1
  have X0 : Stand p l e ({ frames := 1, cells := 1, slots := 48, locals := 40 } : Room) s m #[(.ref o0), (.int p1)] below meth c s₁ [] 0 0 := Stand.of_body Bd
  have e0 : s₁.heap = h0 := by rw [← hh, Bd.state]; rfl
  have N0 := Fr.nil n0
  refine own_by (U' := s₁.setTop (mkF m 0 #[.val (.ref o0), .val (.int p1), .unset] [])) (fun t k => castTop (ef_3 m o0 p1) k) ?_
  refine own_by (fun _ k => XS.iloadN X0.here hx rfl (hb hby d3_0) rfl k) ?_
  show own_Fin p.tables e below _ (s₁.setTop (mkF m 1 #[.val (.ref o0), .val (.int p1), .unset] [(.int p1)]))
  refine own_by (fun _ k => XS.aloadN X0.here hx rfl (hb hby d3_1) rfl rfl k) ?_
  show own_Fin p.tables e below _ (s₁.setTop (mkF m 2 #[.val (.ref o0), .val (.int p1), .unset] [(.ref o0), (.int p1)]))
  refine own_by (own_len X0 hx hZ e0 V_o0 (g := (mkF m 2 #[.val (.ref o0), .val (.int p1), .unset] [(.ref o0), (.int p1)])) rfl rfl (hb hby d3_2)) ?_
  show own_Fin p.tables e below _ (s₁.setTop (mkF m 3 #[.val (.ref o0), .val (.int p1), .unset] [(.int z_o0), (.int p1)]))
  by_cases hc1 : p1 = z_o0
  · exact absurd hc1 (by rw [hp, hz]; decide)
  · refine own_by (fun _ k => XS.icmpYes X0.here hx rfl (pc0 := 3) (pc' := 14) rfl (hb hby d3_3) rfl (feq hc1).2 (by decide) (by decide) k) ?_
    show own_Fin p.tables e below _ (s₁.setTop (mkF m 14 #[.val (.ref o0), .val (.int p1), .unset] []))
    refine own_by (fun _ k => XS.iloadN X0.here hx rfl (hb hby d3_14) rfl k) ?_
    show own_Fin p.tables e below _ (s₁.setTop (mkF m 15 #[.val (.ref o0), .val (.int p1), .unset] [(.int p1)]))
    obtain ⟨T2, h2, k2, X2, e2, E2, A2, st2⟩ := newP X0 hx hZ (hw _ (List.mem_of_getElem? (i := 0) rfl)) e0 (g := (mkF m 15 #[.val (.ref o0), .val (.int p1), .unset] [(.int p1)])) rfl (hb hby d3_15) rfl (by rw [hp]; decide) (cap := 48) (by rw [hp]; decide) (by decide) (by decide) (by decide)
    obtain ⟨b2, g2⟩ : ∃ z, z = h0.size := ⟨_, rfl⟩
    rw [← g2] at A2 st2
    have V2 := own_Byt.new A2 (by rw [hp]; decide)
    have g_b2 : n0 ≤ b2 := Nat.le_trans Z0 (Nat.le_of_eq g2.symm)
    have Z2 : n0 ≤ h2.size := Nat.le_trans Z0 E2.1
    refine own_by st2 ?_
    have sz_b2 : h0.size ≤ b2 := Nat.le_trans (Keep.refl h0 []).1 (Nat.le_of_eq g2.symm)
    have K2 : Keep h0 h2 [] := (Keep.refl h0 []).ext E2
    have ne2_o0 : o0 ≠ b2 := Nat.ne_of_lt (Nat.lt_of_lt_of_le V_o0.lt (Nat.le_of_eq g2.symm))
    have V2_o0 := V_o0.ext E2
    show own_Fin p.tables e below _ (T2.setTop (mkF m 17 #[.val (.ref o0), .val (.int p1), .unset] [(.ref b2)]))
    refine own_by (fun _ k => XS.astoreN X2.here hx rfl (hb hby d3_17) rfl rfl (l' := #[.val (.ref o0), .val (.int p1), .val (.ref b2)]) rfl k) ?_
    show own_Fin p.tables e below _ (T2.setTop (mkF m 18 #[.val (.ref o0), .val (.int p1), .val (.ref b2)] []))
    refine own_by (fun _ k => XS.aloadN X2.here hx rfl (hb hby d3_18) rfl rfl k) ?_
    show own_Fin p.tables e below _ (T2.setTop (mkF m 19 #[.val (.ref o0), .val (.int p1), .val (.ref b2)] [(.ref o0)]))
    refine own_by (fun _ k => XS.iconst X2.here hx rfl (hb hby d3_19) k) ?_
    show own_Fin p.tables e below _ (T2.setTop (mkF m 20 #[.val (.ref o0), .val (.int p1), .val (.ref b2)] [(.int (0 : Int32)), (.ref o0)]))
    refine own_by (fun _ k => XS.aloadN X2.here hx rfl (hb hby d3_20) rfl rfl k) ?_
    show own_Fin p.tables e below _ (T2.setTop (mkF m 21 #[.val (.ref o0), .val (.int p1), .val (.ref b2)] [(.ref b2), (.int (0 : Int32)), (.ref o0)]))
    refine own_by (fun _ k => XS.iconst X2.here hx rfl (hb hby d3_21) k) ?_
    show own_Fin p.tables e below _ (T2.setTop (mkF m 22 #[.val (.ref o0), .val (.int p1), .val (.ref b2)] [(.int (0 : Int32)), (.ref b2), (.int (0 : Int32)), (.ref o0)]))
    refine own_by (fun _ k => XS.aloadN X2.here hx rfl (hb hby d3_22) rfl rfl k) ?_
    show own_Fin p.tables e below _ (T2.setTop (mkF m 23 #[.val (.ref o0), .val (.int p1), .val (.ref b2)] [(.ref o0), (.int (0 : Int32)), (.ref b2), (.int (0 : Int32)), (.ref o0)]))
    refine own_by (own_len X2 hx hZ e2 V2_o0 (g := (mkF m 23 #[.val (.ref o0), .val (.int p1), .val (.ref b2)] [(.ref o0), (.int (0 : Int32)), (.ref b2), (.int (0 : Int32)), (.ref o0)])) rfl rfl (hb hby d3_23)) ?_
    show own_Fin p.tables e below _ (T2.setTop (mkF m 24 #[.val (.ref o0), .val (.int p1), .val (.ref b2)] [(.int z_o0), (.int (0 : Int32)), (.ref b2), (.int (0 : Int32)), (.ref o0)]))
    refine own_by (fun _ k => XS.iloadN X2.here hx rfl (hb hby d3_24) rfl k) ?_
    show own_Fin p.tables e below _ (T2.setTop (mkF m 25 #[.val (.ref o0), .val (.int p1), .val (.ref b2)] [(.int p1), (.int z_o0), (.int (0 : Int32)), (.ref b2), (.int (0 : Int32)), (.ref o0)]))
    obtain ⟨_, _, ⟨T3, L3, k3, n3⟩, -, X3, ⟨Lc3, hQ3, l3, y3, z3⟩, st3⟩ := Jvm.LawKit.callS X2 hx (y := (⟨"java/lang/Math", "min", "(II)I"⟩ : MethodName)) hown (mvT hZ (hw _ (List.mem_of_getElem? (i := 13) rfl))) (mvT hZ (hw _ (List.mem_of_getElem? (i := 14) rfl))) (mvT hZ (hw _ (List.mem_of_getElem? (i := 15) rfl))) (mvT hZ (hw _ (List.mem_of_getElem? (i := 16) rfl))) (by decide) (backOf (W := 4) (rm4 l Z a0 hw [] z_o0 p1 h2 n0 Z2 ) hZ (hw _ (List.mem_of_getElem? (i := 16) rfl)) (hw _ (List.mem_of_getElem? (i := 15) rfl)) (by decide) (by decide)) (g := (mkF m 25 #[.val (.ref o0), .val (.int p1), .val (.ref b2)] [(.int p1), (.int z_o0), (.int (0 : Int32)), (.ref b2), (.int (0 : Int32)), (.ref o0)])) rfl (by rw [hml]; rfl) (argsL := [(.int z_o0), (.int p1)]) (rest := [(.int (0 : Int32)), (.ref b2), (.int (0 : Int32)), (.ref o0)]) (lenOf pd__II_I rfl) rfl (by show 2 * 0 + _ ≤ _; exact Nat.le_of_eq rfl) (hb hby d3_25) (fun _ _ => ⟨rfl, e2, (by decide : 1 + 0 ≤ _), (by decide : 48 + 0 ≤ _)⟩)
    dsimp only [Pt.U, Pt.locs, Pt.cells, Pt.slots] at X3 l3 y3 z3 st3 hQ3
    subst l3 y3 z3
    obtain ⟨rfl, N3q, e3⟩ := hQ3
    have N3 := Fr.app N0 N3q
    refine own_by st3 ?_
    show own_Fin p.tables e below _ (T3.setTop (mkF m 28 #[.val (.ref o0), .val (.int p1), .val (.ref b2)] [(.int (f4 z_o0 p1)), (.int (0 : Int32)), (.ref b2), (.int (0 : Int32)), (.ref o0)]))
    obtain ⟨T4, h4, L4, X4, e4, N4, Kq4, V4, st4⟩ := own_cp X3 hx hZ hown (hw _ (List.mem_of_getElem? (i := 17) rfl)) (hw _ (List.mem_of_getElem? (i := 20) rfl)) (hw _ (List.mem_of_getElem? (i := 18) rfl)) (hw _ (List.mem_of_getElem? (i := 19) rfl)) e3 V2_o0 V2 (dp := (0 : Int32)) (nn := (f4 z_o0 p1)) (by decide) (by rw [hp, hz]; decide) (by rw [hp, hz]; decide) (by rw [hp, hz]; decide) N3 g_b2 (g := (mkF m 28 #[.val (.ref o0), .val (.int p1), .val (.ref b2)] [(.int (f4 z_o0 p1)), (.int (0 : Int32)), (.ref b2), (.int (0 : Int32)), (.ref o0)])) rfl (by rw [hml]; rfl) rfl (hb hby d3_28) (by decide) (W := 0) (by show 2 * 0 + _ ≤ _; exact Nat.le_of_eq rfl) (by decide) (B2 := (own_c1 B_o0)) (own_c1h B_o0 _ _ _ rfl (by rw [hp, hz]; decide))
    have Z4 : n0 ≤ h4.size := Nat.le_trans Z2 Kq4.1
    have K4 := K2.trans Kq4 (allS (Or.inr sz_b2) all0)
    refine own_by st4 ?_
    show own_Fin p.tables e below _ (T4.setTop (mkF m 31 #[.val (.ref o0), .val (.int p1), .val (.ref b2)] []))
    refine own_by (fun _ k => XS.aloadN X4.here hx rfl (hb hby d3_31) rfl rfl k) ?_
    show own_Fin p.tables e below _ (T4.setTop (mkF m 32 #[.val (.ref o0), .val (.int p1), .val (.ref b2)] [(.ref b2)]))
    exact own_retA X4 hx Bd.returns hlk rfl rfl (hb hby d3_32) (by decide) (by decide) (by rw [e4]; exact ⟨b2, rfl, N4, sz_b2, K4, (hp ▸ V4)⟩)
theorem d2_0 : decode prog_114_method_3_code 0 = .ok (.aload_n 0, 1) := by decide +kernel
theorem d2_1 : decode prog_114_method_3_code 1 = .ok (.arraylength, 1) := by decide +kernel
theorem d2_2 : decode prog_114_method_3_code 2 = .ok (.bipush 16, 2) := by decide +kernel
theorem d2_4 : decode prog_114_method_3_code 4 = .ok (.if_icmp .ne 10, 3) := by decide +kernel
theorem d2_7 : decode prog_114_method_3_code 7 = .ok (.aload_n 1, 1) := by decide +kernel
theorem d2_8 : decode prog_114_method_3_code 8 = .ok (.arraylength, 1) := by decide +kernel
theorem d2_9 : decode prog_114_method_3_code 9 = .ok (.bipush 32, 2) := by decide +kernel
theorem d2_11 : decode prog_114_method_3_code 11 = .ok (.if_icmp .eq 20, 3) := by decide +kernel
theorem d2_31 : decode prog_114_method_3_code 31 = .ok (.aload_n 0, 1) := by decide +kernel
theorem d2_32 : decode prog_114_method_3_code 32 = .ok (.bipush 48, 2) := by decide +kernel
theorem d2_34 : decode prog_114_method_3_code 34 = .ok (.invokestatic 66, 3) := by decide +kernel
theorem d2_37 : decode prog_114_method_3_code 37 = .ok (.astore_n 2, 1) := by decide +kernel
theorem d2_38 : decode prog_114_method_3_code 38 = .ok (.aload_n 1, 1) := by decide +kernel
theorem d2_39 : decode prog_114_method_3_code 39 = .ok (.iconst 0, 1) := by decide +kernel
theorem d2_40 : decode prog_114_method_3_code 40 = .ok (.aload_n 2, 1) := by decide +kernel
theorem d2_41 : decode prog_114_method_3_code 41 = .ok (.bipush 16, 2) := by decide +kernel
theorem d2_43 : decode prog_114_method_3_code 43 = .ok (.bipush 32, 2) := by decide +kernel
theorem d2_45 : decode prog_114_method_3_code 45 = .ok (.invokestatic 72, 3) := by decide +kernel
theorem d2_48 : decode prog_114_method_3_code 48 = .ok (.aload_n 2, 1) := by decide +kernel
theorem d2_49 : decode prog_114_method_3_code 49 = .ok (.areturn, 1) := by decide +kernel
theorem pd___BI__B : parseMethodDescriptor "([BI)[B" = some ⟨[(.array .byte), .int], some (.array .byte)⟩ := by decide +kernel
theorem pn_com_example_sealwatch_sealwatch_Token : plainName "com/example/sealwatch/sealwatch/Token" = true := by first | (simp [plainName, overriddenIn]; done) | decide +kernel
theorem ef_2 (m : MethodId) (o0 : Addr) (o1 : Addr) : entryFrame m #[(.ref o0), (.ref o1)] 3 = mkF m 0 #[.val (.ref o0), .val (.ref o1), .unset] [] := by first | (simp [entryFrame, mkF, argsToLocals, Value.category]; done) | rfl
def Q2 (Z : State) (B_o0 B_o1 : Int32 → Int32) (h0 : Heap) (n0 : Nat) (v : Option Value) (h : Heap) (L : List Loc) : Prop := ∃ b : Addr, v = some (.ref b) ∧ Fr n0 L ∧ h0.size ≤ b ∧ Keep h0 h [] ∧ own_Byt Z h b 48 (own_c2 B_o0 B_o1)
set_option maxRecDepth 65536 in
set_option maxHeartbeats 40000000 in
theorem rm2 (l : Launch) (Z : State) (a0 : Array Value) (hw : ∀ d ∈ tables_1, d.before a0 Z = true) (ws : List Jvm.Cond) (o0 : Addr) (o1 : Addr) (z_o0 : Int32) (B_o0 : Int32 → Int32) (z_o1 : Int32) (B_o1 : Int32 → Int32)  (h0 : Heap) (n0 : Nat) (Z0 : n0 ≤ h0.size) (V_o0 : own_Byt Z h0 o0 z_o0 B_o0) (V_o1 : own_Byt Z h0 o1 z_o1 B_o1) (hz0 : z_o0 = 16) (hz1 : z_o1 = 32) :
    MetFree l (⟨"com/example/sealwatch/sealwatch/Token", "leafEntry", "([B[B)[B"⟩ : MethodName) (head1 (Jvm.Cond.code (⟨"com/example/sealwatch/sealwatch/Token", "leafEntry", "([B[B)[B"⟩ : MethodName) prog_114_method_3_code 3 (some (.array .byte)) :: ws) ({ frames := 2, cells := 1, slots := 48, locals := 54 } : Room)) (fun a U => a = #[(.ref o0), (.ref o1)] ∧ Z.Warmed39 U.vm ∧ U.heap = h0) (fun _ _ _ _ _ => True) (fun _ U o U' => ∃ v L, o = .returned v ∧ Q2 Z B_o0 B_o1 h0 n0 v U'.heap L ∧ FrameEnd U o U' L ({ frames := 2, cells := 1, slots := 48, locals := 54 } : Room).cells ({ frames := 2, cells := 1, slots := 48, locals := 54 } : Room).slots) := by
  refine MetFree.of_bodySF (plainFor_of_name pn_com_example_sealwatch_sealwatch_Token) hisR ?_
  intro p e s m args below meth c s₁ Bd hml0 hP hK
  obtain ⟨rfl, hZ, hh⟩ := hP
  have hx := Bd.exec
  have hby := Bd.bytes
  have hlk : meth.locks = false := BodyLoose.notSynchronized Bd
  have hml : c.maxLocals = 3 := hml0
  have hown : s.vm.findClass "com/example/sealwatch/sealwatch/Token" = some m.cls := findClass_of_methodNamed Bd.named
  have hnm := (name_of_methodNamed Bd.named Bd.method).1
  have X0 : Stand p l e ({ frames := 2, cells := 1, slots := 48, locals := 54 } : Room) s m #[(.ref o0), (.ref o1)] below meth c s₁ [] 0 0 := Stand.of_body Bd
  have e0 : s₁.heap = h0 := by rw [← hh, Bd.state]; rfl
  have N0 := Fr.nil n0
  refine own_by (U' := s₁.setTop (mkF m 0 #[.val (.ref o0), .val (.ref o1), .unset] [])) (fun t k => castTop (ef_2 m o0 o1) k) ?_
  refine own_by (fun _ k => XS.aloadN X0.here hx rfl (hb hby d2_0) rfl rfl k) ?_
  show own_Fin p.tables e below _ (s₁.setTop (mkF m 1 #[.val (.ref o0), .val (.ref o1), .unset] [(.ref o0)]))
  refine own_by (own_len X0 hx hZ e0 V_o0 (g := (mkF m 1 #[.val (.ref o0), .val (.ref o1), .unset] [(.ref o0)])) rfl rfl (hb hby d2_1)) ?_
  show own_Fin p.tables e below _ (s₁.setTop (mkF m 2 #[.val (.ref o0), .val (.ref o1), .unset] [(.int z_o0)]))
  refine own_by (fun _ k => XS.bipush X0.here hx rfl (hb hby d2_2) k) ?_
  show own_Fin p.tables e below _ (s₁.setTop (mkF m 4 #[.val (.ref o0), .val (.ref o1), .unset] [(.int (16 : Int32)), (.int z_o0)]))
  by_cases hc1 : z_o0 = (16 : Int32)
  · refine own_by (fun _ k => XS.icmpNo X0.here hx rfl (hb hby d2_4) rfl (teq hc1).2 k) ?_
    show own_Fin p.tables e below _ (s₁.setTop (mkF m 7 #[.val (.ref o0), .val (.ref o1), .unset] []))
    refine own_by (fun _ k => XS.aloadN X0.here hx rfl (hb hby d2_7) rfl rfl k) ?_
    show own_Fin p.tables e below _ (s₁.setTop (mkF m 8 #[.val (.ref o0), .val (.ref o1), .unset] [(.ref o1)]))
    refine own_by (own_len X0 hx hZ e0 V_o1 (g := (mkF m 8 #[.val (.ref o0), .val (.ref o1), .unset] [(.ref o1)])) rfl rfl (hb hby d2_8)) ?_
    show own_Fin p.tables e below _ (s₁.setTop (mkF m 9 #[.val (.ref o0), .val (.ref o1), .unset] [(.int z_o1)]))
    refine own_by (fun _ k => XS.bipush X0.here hx rfl (hb hby d2_9) k) ?_
    show own_Fin p.tables e below _ (s₁.setTop (mkF m 11 #[.val (.ref o0), .val (.ref o1), .unset] [(.int (32 : Int32)), (.int z_o1)]))
    by_cases hc2 : z_o1 = (32 : Int32)
    · refine own_by (fun _ k => XS.icmpYes X0.here hx rfl (pc0 := 11) (pc' := 31) rfl (hb hby d2_11) rfl (teq hc2).1 (by decide) (by decide) k) ?_
      show own_Fin p.tables e below _ (s₁.setTop (mkF m 31 #[.val (.ref o0), .val (.ref o1), .unset] []))
      refine own_by (fun _ k => XS.aloadN X0.here hx rfl (hb hby d2_31) rfl rfl k) ?_
      show own_Fin p.tables e below _ (s₁.setTop (mkF m 32 #[.val (.ref o0), .val (.ref o1), .unset] [(.ref o0)]))
      refine own_by (fun _ k => XS.bipush X0.here hx rfl (hb hby d2_32) k) ?_
      show own_Fin p.tables e below _ (s₁.setTop (mkF m 34 #[.val (.ref o0), .val (.ref o1), .unset] [(.int (48 : Int32)), (.ref o0)]))
      obtain ⟨_, _, ⟨T3, L3, k3, n3⟩, -, X3, ⟨Lc3, hQ3, l3, y3, z3⟩, st3⟩ := Jvm.LawKit.callS X0 hx (y := (⟨"java/util/Arrays", "copyOf", "([BI)[B"⟩ : MethodName)) hown (mvT hZ (hw _ (List.mem_of_getElem? (i := 9) rfl))) (mvT hZ (hw _ (List.mem_of_getElem? (i := 10) rfl))) (mvT hZ (hw _ (List.mem_of_getElem? (i := 11) rfl))) (mvT hZ (hw _ (List.mem_of_getElem? (i := 12) rfl))) (by decide) (backOf (W := 0) (rm3 l Z a0 hw [] o0 (48 : Int32) z_o0 (B_o0) h0 n0 Z0 V_o0 rfl hz0) hZ (hw _ (List.mem_of_getElem? (i := 12) rfl)) (hw _ (List.mem_of_getElem? (i := 11) rfl)) (by decide) (by decide)) (g := (mkF m 34 #[.val (.ref o0), .val (.ref o1), .unset] [(.int (48 : Int32)), (.ref o0)])) rfl (by rw [hml]; rfl) (argsL := [(.ref o0), (.int (48 : Int32))]) (rest := []) (lenOf pd___BI__B rfl) rfl (by show 2 * 0 + _ ≤ _; exact Nat.le_of_eq rfl) (hb hby d2_34) (fun _ _ => ⟨rfl, e0, (by decide : 0 + 1 ≤ _), (by decide : 0 + 48 ≤ _)⟩)
      dsimp only [Pt.U, Pt.locs, Pt.cells, Pt.slots] at X3 l3 y3 z3 st3 hQ3
      subst l3 y3 z3
      obtain ⟨b3, rfl, N3q, szq3, Kq3, Vq3⟩ := hQ3
      have g_b3 : n0 ≤ b3 := Nat.le_trans Z0 szq3
      have sz_b3 : h0.size ≤ b3 := Nat.le_trans (Keep.refl h0 []).1 szq3
      have ne3_o0 : o0 ≠ b3 := Nat.ne_of_lt (Nat.lt_of_lt_of_le V_o0.lt szq3)
      have V3_o0 := V_o0.keep Kq3 nin0
      have ne3_o1 : o1 ≠ b3 := Nat.ne_of_lt (Nat.lt_of_lt_of_le V_o1.lt szq3)
      have V3_o1 := V_o1.keep Kq3 nin0
      have N3 := Fr.app N0 N3q
      have Z3 : n0 ≤ T3.heap.size := Nat.le_trans Z0 Kq3.1
      have K3 := (Keep.refl h0 []).trans Kq3 all0
      refine own_by st3 ?_
      show own_Fin p.tables e below _ (T3.setTop (mkF m 37 #[.val (.ref o0), .val (.ref o1), .unset] [(.ref b3)]))
      refine own_by (fun _ k => XS.astoreN X3.here hx rfl (hb hby d2_37) rfl rfl (l' := #[.val (.ref o0), .val (.ref o1), .val (.ref b3)]) rfl k) ?_
      show own_Fin p.tables e below _ (T3.setTop (mkF m 38 #[.val (.ref o0), .val (.ref o1), .val (.ref b3)] []))
      refine own_by (fun _ k => XS.aloadN X3.here hx rfl (hb hby d2_38) rfl rfl k) ?_
      show own_Fin p.tables e below _ (T3.setTop (mkF m 39 #[.val (.ref o0), .val (.ref o1), .val (.ref b3)] [(.ref o1)]))
      refine own_by (fun _ k => XS.iconst X3.here hx rfl (hb hby d2_39) k) ?_
      show own_Fin p.tables e below _ (T3.setTop (mkF m 40 #[.val (.ref o0), .val (.ref o1), .val (.ref b3)] [(.int (0 : Int32)), (.ref o1)]))
      refine own_by (fun _ k => XS.aloadN X3.here hx rfl (hb hby d2_40) rfl rfl k) ?_
      show own_Fin p.tables e below _ (T3.setTop (mkF m 41 #[.val (.ref o0), .val (.ref o1), .val (.ref b3)] [(.ref b3), (.int (0 : Int32)), (.ref o1)]))
      refine own_by (fun _ k => XS.bipush X3.here hx rfl (hb hby d2_41) k) ?_
      show own_Fin p.tables e below _ (T3.setTop (mkF m 43 #[.val (.ref o0), .val (.ref o1), .val (.ref b3)] [(.int (16 : Int32)), (.ref b3), (.int (0 : Int32)), (.ref o1)]))
      refine own_by (fun _ k => XS.bipush X3.here hx rfl (hb hby d2_43) k) ?_
      show own_Fin p.tables e below _ (T3.setTop (mkF m 45 #[.val (.ref o0), .val (.ref o1), .val (.ref b3)] [(.int (32 : Int32)), (.int (16 : Int32)), (.ref b3), (.int (0 : Int32)), (.ref o1)]))
      obtain ⟨T4, h4, L4, X4, e4, N4, Kq4, V4, st4⟩ := own_cp X3 hx hZ hown (hw _ (List.mem_of_getElem? (i := 21) rfl)) (hw _ (List.mem_of_getElem? (i := 20) rfl)) (hw _ (List.mem_of_getElem? (i := 18) rfl)) (hw _ (List.mem_of_getElem? (i := 19) rfl)) rfl V3_o1 Vq3 (dp := (16 : Int32)) (nn := (32 : Int32)) (by decide) (by decide) (by rw [hz1]; decide) (by decide) N3 g_b3 (g := (mkF m 45 #[.val (.ref o0), .val (.ref o1), .val (.ref b3)] [(.int (32 : Int32)), (.int (16 : Int32)), (.ref b3), (.int (0 : Int32)), (.ref o1)])) rfl (by rw [hml]; rfl) rfl (hb hby d2_45) (by decide) (W := 0) (by show 2 * 0 + _ ≤ _; exact Nat.le_of_eq rfl) (by decide) (B2 := (own_c2 B_o0 B_o1)) (own_c2h B_o0 B_o1)
      have Z4 : n0 ≤ h4.size := Nat.le_trans Z3 Kq4.1
      have K4 := K3.trans Kq4 (allS (Or.inr sz_b3) all0)
      refine own_by st4 ?_
      show own_Fin p.tables e below _ (T4.setTop (mkF m 48 #[.val (.ref o0), .val (.ref o1), .val (.ref b3)] []))
      refine own_by (fun _ k => XS.aloadN X4.here hx rfl (hb hby d2_48) rfl rfl k) ?_
      show own_Fin p.tables e below _ (T4.setTop (mkF m 49 #[.val (.ref o0), .val (.ref o1), .val (.ref b3)] [(.ref b3)]))
      exact own_retA X4 hx Bd.returns hlk rfl rfl (hb hby d2_49) (by decide) (by decide) (by rw [e4]; exact ⟨b3, rfl, N4, sz_b3, K4, V4⟩)
    · exact absurd hz1 hc2
  · exact absurd hz0 hc1
theorem pd___BIJ_V : parseMethodDescriptor "([BIJ)V" = some ⟨[(.array .byte), .int, .long], none⟩ := by decide +kernel
theorem pd___B_B__B : parseMethodDescriptor "([B[B)[B" = some ⟨[(.array .byte), (.array .byte)], some (.array .byte)⟩ := by decide +kernel
theorem pd___BIJ_Z : parseMethodDescriptor "([BIJ)Z" = some ⟨[(.array .byte), .int, .long], some .boolean⟩ := by decide +kernel
theorem ef_0 (m : MethodId) (q0 : Int64) (q1 : Int64) (q2 : Int64) (q3 : Int64) (q4 : Int64) (q5 : Int64) : entryFrame m #[(.long q0), (.long q1), (.long q2), (.long q3), (.long q4), (.long q5)] maxLocals = mkF m 0 #[.val (.long q0), .second, .val (.long q1), .second, .val (.long q2), .second, .val (.long q3), .second, .val (.long q4), .second, .val (.long q5), .second, .unset, .unset, .unset, .unset, .unset] [] := by first | (simp [entryFrame, mkF, argsToLocals, Value.category, maxLocals]; done) | rfl
def f0 (q0 : Int64) (q1 : Int64) (q2 : Int64) (q3 : Int64) (q4 : Int64) (q5 : Int64) : Int32 :=
  (1 : Int32)
def Q0 (q0 : Int64) (q1 : Int64) (q2 : Int64) (q3 : Int64) (q4 : Int64) (q5 : Int64) (h0 : Heap) (n0 : Nat) (v : Option Value) (h : Heap) (L : List Loc) : Prop := v = some (.int (f0 q0 q1 q2 q3 q4 q5)) ∧ Fr n0 L
set_option maxRecDepth 65536 in
set_option maxHeartbeats 40000000 in
theorem rm0 (l : Launch) (Z : State) (a0 : Array Value) (hw : ∀ d ∈ tables_1, d.before a0 Z = true) (ws : List Jvm.Cond) (q0 : Int64) (q1 : Int64) (q2 : Int64) (q3 : Int64) (q4 : Int64) (q5 : Int64)   (h0 : Heap) (n0 : Nat) (Z0 : n0 ≤ h0.size)   :
    MetFree l x (head1 (Jvm.Cond.code x code maxLocals ret :: ws) room_1) (fun a U => a = #[(.long q0), (.long q1), (.long q2), (.long q3), (.long q4), (.long q5)] ∧ Z.Warmed39 U.vm ∧ U.heap = h0) (fun _ _ _ _ _ => True) (fun _ U o U' => ∃ v L, o = .returned v ∧ Q0 q0 q1 q2 q3 q4 q5 h0 n0 v U'.heap L ∧ FrameEnd U o U' L 3 96) := by
  refine MetFree.of_bodySF (plainFor_of_name pn_com_example_sealwatch_sealwatch_TokenLeafEntryPinLaw) hisR ?_
  intro p e s m args below meth c s₁ Bd hml0 hP hK
  obtain ⟨rfl, hZ, hh⟩ := hP
  have hx := Bd.exec
  have hby := Bd.bytes
  have hlk : meth.locks = false := BodyLoose.notSynchronized Bd
  have hml : c.maxLocals = 17 := hml0
  have hown : s.vm.findClass "com/example/sealwatch/sealwatch/TokenLeafEntryPinLaw" = some m.cls := findClass_of_methodNamed Bd.named
  have hnm := (name_of_methodNamed Bd.named Bd.method).1
  have X0 : Stand p l e room_1 s m #[(.long q0), (.long q1), (.long q2), (.long q3), (.long q4), (.long q5)] below meth c s₁ [] 0 0 := Stand.of_body Bd
  have e0 : s₁.heap = h0 := by rw [← hh, Bd.state]; rfl
  have N0 := Fr.nil n0
  refine own_by (U' := s₁.setTop (mkF m 0 #[.val (.long q0), .second, .val (.long q1), .second, .val (.long q2), .second, .val (.long q3), .second, .val (.long q4), .second, .val (.long q5), .second, .unset, .unset, .unset, .unset, .unset] [])) (fun t k => castTop (ef_0 m q0 q1 q2 q3 q4 q5) k) ?_
  refine own_by (fun _ k => XS.bipush X0.here hx rfl (hb hby at_0) k) ?_
  show own_Fin p.tables e below _ (s₁.setTop (mkF m 2 #[.val (.long q0), .second, .val (.long q1), .second, .val (.long q2), .second, .val (.long q3), .second, .val (.long q4), .second, .val (.long q5), .second, .unset, .unset, .unset, .unset, .unset] [(.int (16 : Int32))]))
  obtain ⟨T1, h1, k1, X1, e1, E1, A1, st1⟩ := newP X0 hx hZ (hw _ (List.mem_of_getElem? (i := 0) rfl)) e0 (g := (mkF m 2 #[.val (.long q0), .second, .val (.long q1), .second, .val (.long q2), .second, .val (.long q3), .second, .val (.long q4), .second, .val (.long q5), .second, .unset, .unset, .unset, .unset, .unset] [(.int (16 : Int32))])) rfl (hb hby at_2) rfl (by decide) (cap := 16) (by decide) (by decide) (by decide) (by decide)
  obtain ⟨b1, g1⟩ : ∃ z, z = h0.size := ⟨_, rfl⟩
  rw [← g1] at A1 st1
  have V1 := own_Byt.new A1 (by decide)
  have g_b1 : n0 ≤ b1 := Nat.le_trans Z0 (Nat.le_of_eq g1.symm)
  have Z1 : n0 ≤ h1.size := Nat.le_trans Z0 E1.1
  refine own_by st1 ?_
  show own_Fin p.tables e below _ (T1.setTop (mkF m 4 #[.val (.long q0), .second, .val (.long q1), .second, .val (.long q2), .second, .val (.long q3), .second, .val (.long q4), .second, .val (.long q5), .second, .unset, .unset, .unset, .unset, .unset] [(.ref b1)]))
  refine own_by (fun _ k => XS.astore X1.here hx rfl (hb hby at_4) rfl rfl (l' := #[.val (.long q0), .second, .val (.long q1), .second, .val (.long q2), .second, .val (.long q3), .second, .val (.long q4), .second, .val (.long q5), .second, .val (.ref b1), .unset, .unset, .unset, .unset]) rfl k) ?_
  show own_Fin p.tables e below _ (T1.setTop (mkF m 6 #[.val (.long q0), .second, .val (.long q1), .second, .val (.long q2), .second, .val (.long q3), .second, .val (.long q4), .second, .val (.long q5), .second, .val (.ref b1), .unset, .unset, .unset, .unset] []))
  refine own_by (fun _ k => XS.bipush X1.here hx rfl (hb hby at_6) k) ?_
  show own_Fin p.tables e below _ (T1.setTop (mkF m 8 #[.val (.long q0), .second, .val (.long q1), .second, .val (.long q2), .second, .val (.long q3), .second, .val (.long q4), .second, .val (.long q5), .second, .val (.ref b1), .unset, .unset, .unset, .unset] [(.int (32 : Int32))]))
  obtain ⟨T2, h2, k2, X2, e2, E2, A2, st2⟩ := newP X1 hx hZ (hw _ (List.mem_of_getElem? (i := 0) rfl)) e1 (g := (mkF m 8 #[.val (.long q0), .second, .val (.long q1), .second, .val (.long q2), .second, .val (.long q3), .second, .val (.long q4), .second, .val (.long q5), .second, .val (.ref b1), .unset, .unset, .unset, .unset] [(.int (32 : Int32))])) rfl (hb hby at_8) rfl (by decide) (cap := 32) (by decide) (by decide) (by decide) (by decide)
  obtain ⟨b2, g2⟩ : ∃ z, z = h1.size := ⟨_, rfl⟩
  rw [← g2] at A2 st2
  have V2 := own_Byt.new A2 (by decide)
  have g_b2 : n0 ≤ b2 := Nat.le_trans Z1 (Nat.le_of_eq g2.symm)
  have Z2 : n0 ≤ h2.size := Nat.le_trans Z1 E2.1
  refine own_by st2 ?_
  have ne2_b1 : b1 ≠ b2 := Nat.ne_of_lt (Nat.lt_of_lt_of_le V1.lt (Nat.le_of_eq g2.symm))
  have V2_b1 := V1.ext E2
  show own_Fin p.tables e below _ (T2.setTop (mkF m 10 #[.val (.long q0), .second, .val (.long q1), .second, .val (.long q2), .second, .val (.long q3), .second, .val (.long q4), .second, .val (.long q5), .second, .val (.ref b1), .unset, .unset, .unset, .unset] [(.ref b2)]))
  refine own_by (fun _ k => XS.astore X2.here hx rfl (hb hby at_10) rfl rfl (l' := #[.val (.long q0), .second, .val (.long q1), .second, .val (.long q2), .second, .val (.long q3), .second, .val (.long q4), .second, .val (.long q5), .second, .val (.ref b1), .val (.ref b2), .unset, .unset, .unset]) rfl k) ?_
  show own_Fin p.tables e below _ (T2.setTop (mkF m 12 #[.val (.long q0), .second, .val (.long q1), .second, .val (.long q2), .second, .val (.long q3), .second, .val (.long q4), .second, .val (.long q5), .second, .val (.ref b1), .val (.ref b2), .unset, .unset, .unset] []))
  refine own_by (fun _ k => XS.aload X2.here hx rfl (hb hby at_12) rfl rfl k) ?_
  show own_Fin p.tables e below _ (T2.setTop (mkF m 14 #[.val (.long q0), .second, .val (.long q1), .second, .val (.long q2), .second, .val (.long q3), .second, .val (.long q4), .second, .val (.long q5), .second, .val (.ref b1), .val (.ref b2), .unset, .unset, .unset] [(.ref b1)]))
  refine own_by (fun _ k => XS.iconst X2.here hx rfl (hb hby at_14) k) ?_
  show own_Fin p.tables e below _ (T2.setTop (mkF m 15 #[.val (.long q0), .second, .val (.long q1), .second, .val (.long q2), .second, .val (.long q3), .second, .val (.long q4), .second, .val (.long q5), .second, .val (.ref b1), .val (.ref b2), .unset, .unset, .unset] [(.int (0 : Int32)), (.ref b1)]))
  refine own_by (fun _ k => XS.lloadN X2.here hx rfl (hb hby at_15) rfl k) ?_
  show own_Fin p.tables e below _ (T2.setTop (mkF m 16 #[.val (.long q0), .second, .val (.long q1), .second, .val (.long q2), .second, .val (.long q3), .second, .val (.long q4), .second, .val (.long q5), .second, .val (.ref b1), .val (.ref b2), .unset, .unset, .unset] [(.long q0), (.int (0 : Int32)), (.ref b1)]))
  obtain ⟨_, _, ⟨T3, L3, k3, n3⟩, -, X3, ⟨Lc3, hQ3, l3, y3, z3⟩, st3⟩ := Jvm.LawKit.callS X2 hx (y := (⟨"com/example/sealwatch/sealwatch/TokenLeafEntryPinLaw", "put", "([BIJ)V"⟩ : MethodName)) hown (mvT hZ (hw _ (List.mem_of_getElem? (i := 1) rfl))) (mvT hZ (hw _ (List.mem_of_getElem? (i := 2) rfl))) (mvT hZ (hw _ (List.mem_of_getElem? (i := 3) rfl))) (mvT hZ (hw _ (List.mem_of_getElem? (i := 4) rfl))) (by decide) (backOf (W := 0) (rm1 l Z a0 hw [] b1 (0 : Int32) q0 (16 : Int32) ((fun _ => (0 : Int32))) h2 n0 Z2 V2_b1 (by decide) (by decide) g_b1) hZ (hw _ (List.mem_of_getElem? (i := 4) rfl)) (hw _ (List.mem_of_getElem? (i := 3) rfl)) (by decide) (by decide)) (g := (mkF m 16 #[.val (.long q0), .second, .val (.long q1), .second, .val (.long q2), .second, .val (.long q3), .second, .val (.long q4), .second, .val (.long q5), .second, .val (.ref b1), .val (.ref b2), .unset, .unset, .unset] [(.long q0), (.int (0 : Int32)), (.ref b1)])) rfl (by rw [hml]; rfl) (argsL := [(.ref b1), (.int (0 : Int32)), (.long q0)]) (rest := []) (lenOf pd___BIJ_V rfl) rfl (by show 2 * 0 + _ ≤ _; exact Nat.le_of_eq rfl) (hb hby at_16) (fun _ _ => ⟨rfl, e2, (by decide : 2 + 0 ≤ _), (by decide : 48 + 0 ≤ _)⟩)
  dsimp only [Pt.U, Pt.locs, Pt.cells, Pt.slots] at X3 l3 y3 z3 st3 hQ3
  subst l3 y3 z3
  obtain ⟨rfl, N3q, Kq3, Vq3⟩ := hQ3
  have V3_b2 := V2.keep Kq3 (ninS (Ne.symm ne2_b1) nin0)
  have N3 := Fr.app N0 N3q
  have Z3 : n0 ≤ T3.heap.size := Nat.le_trans Z2 Kq3.1
  refine own_by st3 ?_
  show own_Fin p.tables e below _ (T3.setTop (mkF m 19 #[.val (.long q0), .second, .val (.long q1), .second, .val (.long q2), .second, .val (.long q3), .second, .val (.long q4), .second, .val (.long q5), .second, .val (.ref b1), .val (.ref b2), .unset, .unset, .unset] []))
  refine own_by (fun _ k => XS.aload X3.here hx rfl (hb hby at_19) rfl rfl k) ?_
  show own_Fin p.tables e below _ (T3.setTop (mkF m 21 #[.val (.long q0), .second, .val (.long q1), .second, .val (.long q2), .second, .val (.long q3), .second, .val (.long q4), .second, .val (.long q5), .second, .val (.ref b1), .val (.ref b2), .unset, .unset, .unset] [(.ref b1)]))
  refine own_by (fun _ k => XS.bipush X3.here hx rfl (hb hby at_21) k) ?_
  show own_Fin p.tables e below _ (T3.setTop (mkF m 23 #[.val (.long q0), .second, .val (.long q1), .second, .val (.long q2), .second, .val (.long q3), .second, .val (.long q4), .second, .val (.long q5), .second, .val (.ref b1), .val (.ref b2), .unset, .unset, .unset] [(.int (8 : Int32)), (.ref b1)]))
  refine own_by (fun _ k => XS.lloadN X3.here hx rfl (hb hby at_23) rfl k) ?_
  show own_Fin p.tables e below _ (T3.setTop (mkF m 24 #[.val (.long q0), .second, .val (.long q1), .second, .val (.long q2), .second, .val (.long q3), .second, .val (.long q4), .second, .val (.long q5), .second, .val (.ref b1), .val (.ref b2), .unset, .unset, .unset] [(.long q1), (.int (8 : Int32)), (.ref b1)]))
  obtain ⟨_, _, ⟨T4, L4, k4, n4⟩, -, X4, ⟨Lc4, hQ4, l4, y4, z4⟩, st4⟩ := Jvm.LawKit.callS X3 hx (y := (⟨"com/example/sealwatch/sealwatch/TokenLeafEntryPinLaw", "put", "([BIJ)V"⟩ : MethodName)) hown (mvT hZ (hw _ (List.mem_of_getElem? (i := 1) rfl))) (mvT hZ (hw _ (List.mem_of_getElem? (i := 2) rfl))) (mvT hZ (hw _ (List.mem_of_getElem? (i := 3) rfl))) (mvT hZ (hw _ (List.mem_of_getElem? (i := 4) rfl))) (by decide) (backOf (W := 0) (rm1 l Z a0 hw [] b1 (8 : Int32) q1 (16 : Int32) ((own_put (fun _ => (0 : Int32)) (0 : Int32) q0)) T3.heap n0 Z3 Vq3 (by decide) (by decide) g_b1) hZ (hw _ (List.mem_of_getElem? (i := 4) rfl)) (hw _ (List.mem_of_getElem? (i := 3) rfl)) (by decide) (by decide)) (g := (mkF m 24 #[.val (.long q0), .second, .val (.long q1), .second, .val (.long q2), .second, .val (.long q3), .second, .val (.long q4), .second, .val (.long q5), .second, .val (.ref b1), .val (.ref b2), .unset, .unset, .unset] [(.long q1), (.int (8 : Int32)), (.ref b1)])) rfl (by rw [hml]; rfl) (argsL := [(.ref b1), (.int (8 : Int32)), (.long q1)]) (rest := []) (lenOf pd___BIJ_V rfl) rfl (by show 2 * 0 + _ ≤ _; exact Nat.le_of_eq rfl) (hb hby at_24) (fun _ _ => ⟨rfl, rfl, (by decide : 2 + 0 ≤ _), (by decide : 48 + 0 ≤ _)⟩)
  dsimp only [Pt.U, Pt.locs, Pt.cells, Pt.slots] at X4 l4 y4 z4 st4 hQ4
  subst l4 y4 z4
  obtain ⟨rfl, N4q, Kq4, Vq4⟩ := hQ4
  have V4_b2 := V3_b2.keep Kq4 (ninS (Ne.symm ne2_b1) nin0)
  have N4 := Fr.app N3 N4q
  have Z4 : n0 ≤ T4.heap.size := Nat.le_trans Z3 Kq4.1
  refine own_by st4 ?_
  show own_Fin p.tables e below _ (T4.setTop (mkF m 27 #[.val (.long q0), .second, .val (.long q1), .second, .val (.long q2), .second, .val (.long q3), .second, .val (.long q4), .second, .val (.long q5), .second, .val (.ref b1), .val (.ref b2), .unset, .unset, .unset] []))
  refine own_by (fun _ k => XS.aload X4.here hx rfl (hb hby at_27) rfl rfl k) ?_
  show own_Fin p.tables e below _ (T4.setTop (mkF m 29 #[.val (.long q0), .second, .val (.long q1), .second, .val (.long q2), .second, .val (.long q3), .second, .val (.long q4), .second, .val (.long q5), .second, .val (.ref b1), .val (.ref b2), .unset, .unset, .unset] [(.ref b2)]))
  refine own_by (fun _ k => XS.iconst X4.here hx rfl (hb hby at_29) k) ?_
  show own_Fin p.tables e below _ (T4.setTop (mkF m 30 #[.val (.long q0), .second, .val (.long q1), .second, .val (.long q2), .second, .val (.long q3), .second, .val (.long q4), .second, .val (.long q5), .second, .val (.ref b1), .val (.ref b2), .unset, .unset, .unset] [(.int (0 : Int32)), (.ref b2)]))
  refine own_by (fun _ k => XS.lload X4.here hx rfl (hb hby at_30) rfl k) ?_
  show own_Fin p.tables e below _ (T4.setTop (mkF m 32 #[.val (.long q0), .second, .val (.long q1), .second, .val (.long q2), .second, .val (.long q3), .second, .val (.long q4), .second, .val (.long q5), .second, .val (.ref b1), .val (.ref b2), .unset, .unset, .unset] [(.long q2), (.int (0 : Int32)), (.ref b2)]))
  obtain ⟨_, _, ⟨T5, L5, k5, n5⟩, -, X5, ⟨Lc5, hQ5, l5, y5, z5⟩, st5⟩ := Jvm.LawKit.callS X4 hx (y := (⟨"com/example/sealwatch/sealwatch/TokenLeafEntryPinLaw", "put", "([BIJ)V"⟩ : MethodName)) hown (mvT hZ (hw _ (List.mem_of_getElem? (i := 1) rfl))) (mvT hZ (hw _ (List.mem_of_getElem? (i := 2) rfl))) (mvT hZ (hw _ (List.mem_of_getElem? (i := 3) rfl))) (mvT hZ (hw _ (List.mem_of_getElem? (i := 4) rfl))) (by decide) (backOf (W := 0) (rm1 l Z a0 hw [] b2 (0 : Int32) q2 (32 : Int32) ((fun _ => (0 : Int32))) T4.heap n0 Z4 V4_b2 (by decide) (by decide) g_b2) hZ (hw _ (List.mem_of_getElem? (i := 4) rfl)) (hw _ (List.mem_of_getElem? (i := 3) rfl)) (by decide) (by decide)) (g := (mkF m 32 #[.val (.long q0), .second, .val (.long q1), .second, .val (.long q2), .second, .val (.long q3), .second, .val (.long q4), .second, .val (.long q5), .second, .val (.ref b1), .val (.ref b2), .unset, .unset, .unset] [(.long q2), (.int (0 : Int32)), (.ref b2)])) rfl (by rw [hml]; rfl) (argsL := [(.ref b2), (.int (0 : Int32)), (.long q2)]) (rest := []) (lenOf pd___BIJ_V rfl) rfl (by show 2 * 0 + _ ≤ _; exact Nat.le_of_eq rfl) (hb hby at_32) (fun _ _ => ⟨rfl, rfl, (by decide : 2 + 0 ≤ _), (by decide : 48 + 0 ≤ _)⟩)
  dsimp only [Pt.U, Pt.locs, Pt.cells, Pt.slots] at X5 l5 y5 z5 st5 hQ5
  subst l5 y5 z5
  obtain ⟨rfl, N5q, Kq5, Vq5⟩ := hQ5
  have V5_b1 := Vq4.keep Kq5 (ninS ne2_b1 nin0)
  have N5 := Fr.app N4 N5q
  have Z5 : n0 ≤ T5.heap.size := Nat.le_trans Z4 Kq5.1
  refine own_by st5 ?_
  show own_Fin p.tables e below _ (T5.setTop (mkF m 35 #[.val (.long q0), .second, .val (.long q1), .second, .val (.long q2), .second, .val (.long q3), .second, .val (.long q4), .second, .val (.long q5), .second, .val (.ref b1), .val (.ref b2), .unset, .unset, .unset] []))
  refine own_by (fun _ k => XS.aload X5.here hx rfl (hb hby at_35) rfl rfl k) ?_
  show own_Fin p.tables e below _ (T5.setTop (mkF m 37 #[.val (.long q0), .second, .val (.long q1), .second, .val (.long q2), .second, .val (.long q3), .second, .val (.long q4), .second, .val (.long q5), .second, .val (.ref b1), .val (.ref b2), .unset, .unset, .unset] [(.ref b2)]))
  refine own_by (fun _ k => XS.bipush X5.here hx rfl (hb hby at_37) k) ?_
  show own_Fin p.tables e below _ (T5.setTop (mkF m 39 #[.val (.long q0), .second, .val (.long q1), .second, .val (.long q2), .second, .val (.long q3), .second, .val (.long q4), .second, .val (.long q5), .second, .val (.ref b1), .val (.ref b2), .unset, .unset, .unset] [(.int (8 : Int32)), (.ref b2)]))
  refine own_by (fun _ k => XS.lload X5.here hx rfl (hb hby at_39) rfl k) ?_
  show own_Fin p.tables e below _ (T5.setTop (mkF m 41 #[.val (.long q0), .second, .val (.long q1), .second, .val (.long q2), .second, .val (.long q3), .second, .val (.long q4), .second, .val (.long q5), .second, .val (.ref b1), .val (.ref b2), .unset, .unset, .unset] [(.long q3), (.int (8 : Int32)), (.ref b2)]))
  obtain ⟨_, _, ⟨T6, L6, k6, n6⟩, -, X6, ⟨Lc6, hQ6, l6, y6, z6⟩, st6⟩ := Jvm.LawKit.callS X5 hx (y := (⟨"com/example/sealwatch/sealwatch/TokenLeafEntryPinLaw", "put", "([BIJ)V"⟩ : MethodName)) hown (mvT hZ (hw _ (List.mem_of_getElem? (i := 1) rfl))) (mvT hZ (hw _ (List.mem_of_getElem? (i := 2) rfl))) (mvT hZ (hw _ (List.mem_of_getElem? (i := 3) rfl))) (mvT hZ (hw _ (List.mem_of_getElem? (i := 4) rfl))) (by decide) (backOf (W := 0) (rm1 l Z a0 hw [] b2 (8 : Int32) q3 (32 : Int32) ((own_put (fun _ => (0 : Int32)) (0 : Int32) q2)) T5.heap n0 Z5 Vq5 (by decide) (by decide) g_b2) hZ (hw _ (List.mem_of_getElem? (i := 4) rfl)) (hw _ (List.mem_of_getElem? (i := 3) rfl)) (by decide) (by decide)) (g := (mkF m 41 #[.val (.long q0), .second, .val (.long q1), .second, .val (.long q2), .second, .val (.long q3), .second, .val (.long q4), .second, .val (.long q5), .second, .val (.ref b1), .val (.ref b2), .unset, .unset, .unset] [(.long q3), (.int (8 : Int32)), (.ref b2)])) rfl (by rw [hml]; rfl) (argsL := [(.ref b2), (.int (8 : Int32)), (.long q3)]) (rest := []) (lenOf pd___BIJ_V rfl) rfl (by show 2 * 0 + _ ≤ _; exact Nat.le_of_eq rfl) (hb hby at_41) (fun _ _ => ⟨rfl, rfl, (by decide : 2 + 0 ≤ _), (by decide : 48 + 0 ≤ _)⟩)
  dsimp only [Pt.U, Pt.locs, Pt.cells, Pt.slots] at X6 l6 y6 z6 st6 hQ6
  subst l6 y6 z6
  obtain ⟨rfl, N6q, Kq6, Vq6⟩ := hQ6
  have V6_b1 := V5_b1.keep Kq6 (ninS ne2_b1 nin0)
  have N6 := Fr.app N5 N6q
  have Z6 : n0 ≤ T6.heap.size := Nat.le_trans Z5 Kq6.1
  refine own_by st6 ?_
  show own_Fin p.tables e below _ (T6.setTop (mkF m 44 #[.val (.long q0), .second, .val (.long q1), .second, .val (.long q2), .second, .val (.long q3), .second, .val (.long q4), .second, .val (.long q5), .second, .val (.ref b1), .val (.ref b2), .unset, .unset, .unset] []))
  refine own_by (fun _ k => XS.aload X6.here hx rfl (hb hby at_44) rfl rfl k) ?_
  show own_Fin p.tables e below _ (T6.setTop (mkF m 46 #[.val (.long q0), .second, .val (.long q1), .second, .val (.long q2), .second, .val (.long q3), .second, .val (.long q4), .second, .val (.long q5), .second, .val (.ref b1), .val (.ref b2), .unset, .unset, .unset] [(.ref b2)]))
  refine own_by (fun _ k => XS.bipush X6.here hx rfl (hb hby at_46) k) ?_
  show own_Fin p.tables e below _ (T6.setTop (mkF m 48 #[.val (.long q0), .second, .val (.long q1), .second, .val (.long q2), .second, .val (.long q3), .second, .val (.long q4), .second, .val (.long q5), .second, .val (.ref b1), .val (.ref b2), .unset, .unset, .unset] [(.int (16 : Int32)), (.ref b2)]))
  refine own_by (fun _ k => XS.lload X6.here hx rfl (hb hby at_48) rfl k) ?_
  show own_Fin p.tables e below _ (T6.setTop (mkF m 50 #[.val (.long q0), .second, .val (.long q1), .second, .val (.long q2), .second, .val (.long q3), .second, .val (.long q4), .second, .val (.long q5), .second, .val (.ref b1), .val (.ref b2), .unset, .unset, .unset] [(.long q4), (.int (16 : Int32)), (.ref b2)]))
  obtain ⟨_, _, ⟨T7, L7, k7, n7⟩, -, X7, ⟨Lc7, hQ7, l7, y7, z7⟩, st7⟩ := Jvm.LawKit.callS X6 hx (y := (⟨"com/example/sealwatch/sealwatch/TokenLeafEntryPinLaw", "put", "([BIJ)V"⟩ : MethodName)) hown (mvT hZ (hw _ (List.mem_of_getElem? (i := 1) rfl))) (mvT hZ (hw _ (List.mem_of_getElem? (i := 2) rfl))) (mvT hZ (hw _ (List.mem_of_getElem? (i := 3) rfl))) (mvT hZ (hw _ (List.mem_of_getElem? (i := 4) rfl))) (by decide) (backOf (W := 0) (rm1 l Z a0 hw [] b2 (16 : Int32) q4 (32 : Int32) ((own_put (own_put (fun _ => (0 : Int32)) (0 : Int32) q2) (8 : Int32) q3)) T6.heap n0 Z6 Vq6 (by decide) (by decide) g_b2) hZ (hw _ (List.mem_of_getElem? (i := 4) rfl)) (hw _ (List.mem_of_getElem? (i := 3) rfl)) (by decide) (by decide)) (g := (mkF m 50 #[.val (.long q0), .second, .val (.long q1), .second, .val (.long q2), .second, .val (.long q3), .second, .val (.long q4), .second, .val (.long q5), .second, .val (.ref b1), .val (.ref b2), .unset, .unset, .unset] [(.long q4), (.int (16 : Int32)), (.ref b2)])) rfl (by rw [hml]; rfl) (argsL := [(.ref b2), (.int (16 : Int32)), (.long q4)]) (rest := []) (lenOf pd___BIJ_V rfl) rfl (by show 2 * 0 + _ ≤ _; exact Nat.le_of_eq rfl) (hb hby at_50) (fun _ _ => ⟨rfl, rfl, (by decide : 2 + 0 ≤ _), (by decide : 48 + 0 ≤ _)⟩)
  dsimp only [Pt.U, Pt.locs, Pt.cells, Pt.slots] at X7 l7 y7 z7 st7 hQ7
  subst l7 y7 z7
  obtain ⟨rfl, N7q, Kq7, Vq7⟩ := hQ7
  have V7_b1 := V6_b1.keep Kq7 (ninS ne2_b1 nin0)
  have N7 := Fr.app N6 N7q
  have Z7 : n0 ≤ T7.heap.size := Nat.le_trans Z6 Kq7.1
  refine own_by st7 ?_
  show own_Fin p.tables e below _ (T7.setTop (mkF m 53 #[.val (.long q0), .second, .val (.long q1), .second, .val (.long q2), .second, .val (.long q3), .second, .val (.long q4), .second, .val (.long q5), .second, .val (.ref b1), .val (.ref b2), .unset, .unset, .unset] []))
  refine own_by (fun _ k => XS.aload X7.here hx rfl (hb hby at_53) rfl rfl k) ?_
  show own_Fin p.tables e below _ (T7.setTop (mkF m 55 #[.val (.long q0), .second, .val (.long q1), .second, .val (.long q2), .second, .val (.long q3), .second, .val (.long q4), .second, .val (.long q5), .second, .val (.ref b1), .val (.ref b2), .unset, .unset, .unset] [(.ref b2)]))
  refine own_by (fun _ k => XS.bipush X7.here hx rfl (hb hby at_55) k) ?_
  show own_Fin p.tables e below _ (T7.setTop (mkF m 57 #[.val (.long q0), .second, .val (.long q1), .second, .val (.long q2), .second, .val (.long q3), .second, .val (.long q4), .second, .val (.long q5), .second, .val (.ref b1), .val (.ref b2), .unset, .unset, .unset] [(.int (24 : Int32)), (.ref b2)]))
  refine own_by (fun _ k => XS.lload X7.here hx rfl (hb hby at_57) rfl k) ?_
  show own_Fin p.tables e below _ (T7.setTop (mkF m 59 #[.val (.long q0), .second, .val (.long q1), .second, .val (.long q2), .second, .val (.long q3), .second, .val (.long q4), .second, .val (.long q5), .second, .val (.ref b1), .val (.ref b2), .unset, .unset, .unset] [(.long q5), (.int (24 : Int32)), (.ref b2)]))
  obtain ⟨_, _, ⟨T8, L8, k8, n8⟩, -, X8, ⟨Lc8, hQ8, l8, y8, z8⟩, st8⟩ := Jvm.LawKit.callS X7 hx (y := (⟨"com/example/sealwatch/sealwatch/TokenLeafEntryPinLaw", "put", "([BIJ)V"⟩ : MethodName)) hown (mvT hZ (hw _ (List.mem_of_getElem? (i := 1) rfl))) (mvT hZ (hw _ (List.mem_of_getElem? (i := 2) rfl))) (mvT hZ (hw _ (List.mem_of_getElem? (i := 3) rfl))) (mvT hZ (hw _ (List.mem_of_getElem? (i := 4) rfl))) (by decide) (backOf (W := 0) (rm1 l Z a0 hw [] b2 (24 : Int32) q5 (32 : Int32) ((own_put (own_put (own_put (fun _ => (0 : Int32)) (0 : Int32) q2) (8 : Int32) q3) (16 : Int32) q4)) T7.heap n0 Z7 Vq7 (by decide) (by decide) g_b2) hZ (hw _ (List.mem_of_getElem? (i := 4) rfl)) (hw _ (List.mem_of_getElem? (i := 3) rfl)) (by decide) (by decide)) (g := (mkF m 59 #[.val (.long q0), .second, .val (.long q1), .second, .val (.long q2), .second, .val (.long q3), .second, .val (.long q4), .second, .val (.long q5), .second, .val (.ref b1), .val (.ref b2), .unset, .unset, .unset] [(.long q5), (.int (24 : Int32)), (.ref b2)])) rfl (by rw [hml]; rfl) (argsL := [(.ref b2), (.int (24 : Int32)), (.long q5)]) (rest := []) (lenOf pd___BIJ_V rfl) rfl (by show 2 * 0 + _ ≤ _; exact Nat.le_of_eq rfl) (hb hby at_59) (fun _ _ => ⟨rfl, rfl, (by decide : 2 + 0 ≤ _), (by decide : 48 + 0 ≤ _)⟩)
  dsimp only [Pt.U, Pt.locs, Pt.cells, Pt.slots] at X8 l8 y8 z8 st8 hQ8
  subst l8 y8 z8
  obtain ⟨rfl, N8q, Kq8, Vq8⟩ := hQ8
  have V8_b1 := V7_b1.keep Kq8 (ninS ne2_b1 nin0)
  have N8 := Fr.app N7 N8q
  have Z8 : n0 ≤ T8.heap.size := Nat.le_trans Z7 Kq8.1
  refine own_by st8 ?_
  show own_Fin p.tables e below _ (T8.setTop (mkF m 62 #[.val (.long q0), .second, .val (.long q1), .second, .val (.long q2), .second, .val (.long q3), .second, .val (.long q4), .second, .val (.long q5), .second, .val (.ref b1), .val (.ref b2), .unset, .unset, .unset] []))
  refine own_by (fun _ k => XS.aload X8.here hx rfl (hb hby at_62) rfl rfl k) ?_
  show own_Fin p.tables e below _ (T8.setTop (mkF m 64 #[.val (.long q0), .second, .val (.long q1), .second, .val (.long q2), .second, .val (.long q3), .second, .val (.long q4), .second, .val (.long q5), .second, .val (.ref b1), .val (.ref b2), .unset, .unset, .unset] [(.ref b1)]))
  refine own_by (fun _ k => XS.aload X8.here hx rfl (hb hby at_64) rfl rfl k) ?_
  show own_Fin p.tables e below _ (T8.setTop (mkF m 66 #[.val (.long q0), .second, .val (.long q1), .second, .val (.long q2), .second, .val (.long q3), .second, .val (.long q4), .second, .val (.long q5), .second, .val (.ref b1), .val (.ref b2), .unset, .unset, .unset] [(.ref b2), (.ref b1)]))
  obtain ⟨_, _, ⟨T9, L9, k9, n9⟩, -, X9, ⟨Lc9, hQ9, l9, y9, z9⟩, st9⟩ := Jvm.LawKit.callS X8 hx (y := (⟨"com/example/sealwatch/sealwatch/Token", "leafEntry", "([B[B)[B"⟩ : MethodName)) hown (mvT hZ (hw _ (List.mem_of_getElem? (i := 5) rfl))) (mvT hZ (hw _ (List.mem_of_getElem? (i := 6) rfl))) (mvT hZ (hw _ (List.mem_of_getElem? (i := 7) rfl))) (mvT hZ (hw _ (List.mem_of_getElem? (i := 8) rfl))) (by decide) (backOf (W := 0) (rm2 l Z a0 hw [] b1 b2 (16 : Int32) ((own_put (own_put (fun _ => (0 : Int32)) (0 : Int32) q0) (8 : Int32) q1)) (32 : Int32) ((own_put (own_put (own_put (own_put (fun _ => (0 : Int32)) (0 : Int32) q2) (8 : Int32) q3) (16 : Int32) q4) (24 : Int32) q5)) T8.heap n0 Z8 V8_b1 Vq8 rfl rfl) hZ (hw _ (List.mem_of_getElem? (i := 8) rfl)) (hw _ (List.mem_of_getElem? (i := 7) rfl)) (by decide) (by decide)) (g := (mkF m 66 #[.val (.long q0), .second, .val (.long q1), .second, .val (.long q2), .second, .val (.long q3), .second, .val (.long q4), .second, .val (.long q5), .second, .val (.ref b1), .val (.ref b2), .unset, .unset, .unset] [(.ref b2), (.ref b1)])) rfl (by rw [hml]; rfl) (argsL := [(.ref b1), (.ref b2)]) (rest := []) (lenOf pd___B_B__B rfl) rfl (by show 2 * 0 + _ ≤ _; exact Nat.le_of_eq rfl) (hb hby at_66) (fun _ _ => ⟨rfl, rfl, (by decide : 2 + 1 ≤ _), (by decide : 48 + 48 ≤ _)⟩)
  dsimp only [Pt.U, Pt.locs, Pt.cells, Pt.slots] at X9 l9 y9 z9 st9 hQ9
  subst l9 y9 z9
  obtain ⟨b9, rfl, N9q, szq9, Kq9, Vq9⟩ := hQ9
  have g_b9 : n0 ≤ b9 := Nat.le_trans Z8 szq9
  have ne9_b1 : b1 ≠ b9 := Nat.ne_of_lt (Nat.lt_of_lt_of_le V8_b1.lt szq9)
  have V9_b1 := V8_b1.keep Kq9 nin0
  have ne9_b2 : b2 ≠ b9 := Nat.ne_of_lt (Nat.lt_of_lt_of_le Vq8.lt szq9)
  have V9_b2 := Vq8.keep Kq9 nin0
  have N9 := Fr.app N8 N9q
  have Z9 : n0 ≤ T9.heap.size := Nat.le_trans Z8 Kq9.1
  refine own_by st9 ?_
  show own_Fin p.tables e below _ (T9.setTop (mkF m 69 #[.val (.long q0), .second, .val (.long q1), .second, .val (.long q2), .second, .val (.long q3), .second, .val (.long q4), .second, .val (.long q5), .second, .val (.ref b1), .val (.ref b2), .unset, .unset, .unset] [(.ref b9)]))
  refine own_by (fun _ k => XS.astore X9.here hx rfl (hb hby at_69) rfl rfl (l' := #[.val (.long q0), .second, .val (.long q1), .second, .val (.long q2), .second, .val (.long q3), .second, .val (.long q4), .second, .val (.long q5), .second, .val (.ref b1), .val (.ref b2), .val (.ref b9), .unset, .unset]) rfl k) ?_
  show own_Fin p.tables e below _ (T9.setTop (mkF m 71 #[.val (.long q0), .second, .val (.long q1), .second, .val (.long q2), .second, .val (.long q3), .second, .val (.long q4), .second, .val (.long q5), .second, .val (.ref b1), .val (.ref b2), .val (.ref b9), .unset, .unset] []))
  refine own_by (fun _ k => XS.aload X9.here hx rfl (hb hby at_71) rfl rfl k) ?_
  show own_Fin p.tables e below _ (T9.setTop (mkF m 73 #[.val (.long q0), .second, .val (.long q1), .second, .val (.long q2), .second, .val (.long q3), .second, .val (.long q4), .second, .val (.long q5), .second, .val (.ref b1), .val (.ref b2), .val (.ref b9), .unset, .unset] [(.ref b9)]))
  refine own_by (fun _ k => XS.ifnullNo X9.here hx rfl (hb hby at_73) rfl k) ?_
  show own_Fin p.tables e below _ (T9.setTop (mkF m 76 #[.val (.long q0), .second, .val (.long q1), .second, .val (.long q2), .second, .val (.long q3), .second, .val (.long q4), .second, .val (.long q5), .second, .val (.ref b1), .val (.ref b2), .val (.ref b9), .unset, .unset] []))
  refine own_by (fun _ k => XS.aload X9.here hx rfl (hb hby at_76) rfl rfl k) ?_
  show own_Fin p.tables e below _ (T9.setTop (mkF m 78 #[.val (.long q0), .second, .val (.long q1), .second, .val (.long q2), .second, .val (.long q3), .second, .val (.long q4), .second, .val (.long q5), .second, .val (.ref b1), .val (.ref b2), .val (.ref b9), .unset, .unset] [(.ref b9)]))
  refine own_by (own_len X9 hx hZ rfl Vq9 (g := (mkF m 78 #[.val (.long q0), .second, .val (.long q1), .second, .val (.long q2), .second, .val (.long q3), .second, .val (.long q4), .second, .val (.long q5), .second, .val (.ref b1), .val (.ref b2), .val (.ref b9), .unset, .unset] [(.ref b9)])) rfl rfl (hb hby at_78)) ?_
  show own_Fin p.tables e below _ (T9.setTop (mkF m 79 #[.val (.long q0), .second, .val (.long q1), .second, .val (.long q2), .second, .val (.long q3), .second, .val (.long q4), .second, .val (.long q5), .second, .val (.ref b1), .val (.ref b2), .val (.ref b9), .unset, .unset] [(.int (48 : Int32))]))
  refine own_by (fun _ k => XS.bipush X9.here hx rfl (hb hby at_79) k) ?_
  show own_Fin p.tables e below _ (T9.setTop (mkF m 81 #[.val (.long q0), .second, .val (.long q1), .second, .val (.long q2), .second, .val (.long q3), .second, .val (.long q4), .second, .val (.long q5), .second, .val (.ref b1), .val (.ref b2), .val (.ref b9), .unset, .unset] [(.int (48 : Int32)), (.int (48 : Int32))]))
  refine own_by (fun _ k => XS.icmpNo X9.here hx rfl (hb hby at_81) rfl (teq (by decide)).2 k) ?_
  show own_Fin p.tables e below _ (T9.setTop (mkF m 84 #[.val (.long q0), .second, .val (.long q1), .second, .val (.long q2), .second, .val (.long q3), .second, .val (.long q4), .second, .val (.long q5), .second, .val (.ref b1), .val (.ref b2), .val (.ref b9), .unset, .unset] []))
  refine own_by (fun _ k => XS.aload X9.here hx rfl (hb hby at_84) rfl rfl k) ?_
  show own_Fin p.tables e below _ (T9.setTop (mkF m 86 #[.val (.long q0), .second, .val (.long q1), .second, .val (.long q2), .second, .val (.long q3), .second, .val (.long q4), .second, .val (.long q5), .second, .val (.ref b1), .val (.ref b2), .val (.ref b9), .unset, .unset] [(.ref b9)]))
  refine own_by (fun _ k => XS.aload X9.here hx rfl (hb hby at_86) rfl rfl k) ?_
  show own_Fin p.tables e below _ (T9.setTop (mkF m 88 #[.val (.long q0), .second, .val (.long q1), .second, .val (.long q2), .second, .val (.long q3), .second, .val (.long q4), .second, .val (.long q5), .second, .val (.ref b1), .val (.ref b2), .val (.ref b9), .unset, .unset] [(.ref b1), (.ref b9)]))
  refine own_by (fun _ k => Jvm.RoadKit.acmp (g := (mkF m 88 #[.val (.long q0), .second, .val (.long q1), .second, .val (.long q2), .second, .val (.long q3), .second, .val (.long q4), .second, .val (.long q5), .second, .val (.ref b1), .val (.ref b2), .val (.ref b9), .unset, .unset] [(.ref b1), (.ref b9)])) X9 hx rfl rfl rfl (pc0 := 88) (pc' := 91) (same := false) rfl (hb hby at_88) rfl (decide_eq_false fun q => (Ne.symm ne9_b1) (Value.ref.inj q)) (by decide) (by decide) k) ?_
  show own_Fin p.tables e below _ (T9.setTop (mkF m 91 #[.val (.long q0), .second, .val (.long q1), .second, .val (.long q2), .second, .val (.long q3), .second, .val (.long q4), .second, .val (.long q5), .second, .val (.ref b1), .val (.ref b2), .val (.ref b9), .unset, .unset] []))
  refine own_by (fun _ k => XS.aload X9.here hx rfl (hb hby at_91) rfl rfl k) ?_
  show own_Fin p.tables e below _ (T9.setTop (mkF m 93 #[.val (.long q0), .second, .val (.long q1), .second, .val (.long q2), .second, .val (.long q3), .second, .val (.long q4), .second, .val (.long q5), .second, .val (.ref b1), .val (.ref b2), .val (.ref b9), .unset, .unset] [(.ref b9)]))
  refine own_by (fun _ k => XS.aload X9.here hx rfl (hb hby at_93) rfl rfl k) ?_
  show own_Fin p.tables e below _ (T9.setTop (mkF m 95 #[.val (.long q0), .second, .val (.long q1), .second, .val (.long q2), .second, .val (.long q3), .second, .val (.long q4), .second, .val (.long q5), .second, .val (.ref b1), .val (.ref b2), .val (.ref b9), .unset, .unset] [(.ref b2), (.ref b9)]))
  refine own_by (fun _ k => Jvm.RoadKit.acmp (g := (mkF m 95 #[.val (.long q0), .second, .val (.long q1), .second, .val (.long q2), .second, .val (.long q3), .second, .val (.long q4), .second, .val (.long q5), .second, .val (.ref b1), .val (.ref b2), .val (.ref b9), .unset, .unset] [(.ref b2), (.ref b9)])) X9 hx rfl rfl rfl (pc0 := 95) (pc' := 100) (same := false) rfl (hb hby at_95) rfl (decide_eq_false fun q => (Ne.symm ne9_b2) (Value.ref.inj q)) (by decide) (by decide) k) ?_
  show own_Fin p.tables e below _ (T9.setTop (mkF m 100 #[.val (.long q0), .second, .val (.long q1), .second, .val (.long q2), .second, .val (.long q3), .second, .val (.long q4), .second, .val (.long q5), .second, .val (.ref b1), .val (.ref b2), .val (.ref b9), .unset, .unset] []))
  refine own_by (fun _ k => XS.aload X9.here hx rfl (hb hby at_100) rfl rfl k) ?_
  show own_Fin p.tables e below _ (T9.setTop (mkF m 102 #[.val (.long q0), .second, .val (.long q1), .second, .val (.long q2), .second, .val (.long q3), .second, .val (.long q4), .second, .val (.long q5), .second, .val (.ref b1), .val (.ref b2), .val (.ref b9), .unset, .unset] [(.ref b9)]))
  refine own_by (fun _ k => XS.iconst X9.here hx rfl (hb hby at_102) k) ?_
  show own_Fin p.tables e below _ (T9.setTop (mkF m 103 #[.val (.long q0), .second, .val (.long q1), .second, .val (.long q2), .second, .val (.long q3), .second, .val (.long q4), .second, .val (.long q5), .second, .val (.ref b1), .val (.ref b2), .val (.ref b9), .unset, .unset] [(.int (0 : Int32)), (.ref b9)]))
  refine own_by (fun _ k => XS.lloadN X9.here hx rfl (hb hby at_103) rfl k) ?_
  show own_Fin p.tables e below _ (T9.setTop (mkF m 104 #[.val (.long q0), .second, .val (.long q1), .second, .val (.long q2), .second, .val (.long q3), .second, .val (.long q4), .second, .val (.long q5), .second, .val (.ref b1), .val (.ref b2), .val (.ref b9), .unset, .unset] [(.long q0), (.int (0 : Int32)), (.ref b9)]))
  obtain ⟨_, _, ⟨T10, L10, k10, n10⟩, -, X10, ⟨Lc10, hQ10, l10, y10, z10⟩, st10⟩ := Jvm.LawKit.callS X9 hx (y := (⟨"com/example/sealwatch/sealwatch/TokenLeafEntryPinLaw", "holds", "([BIJ)Z"⟩ : MethodName)) hown (mvT hZ (hw _ (List.mem_of_getElem? (i := 22) rfl))) (mvT hZ (hw _ (List.mem_of_getElem? (i := 23) rfl))) (mvT hZ (hw _ (List.mem_of_getElem? (i := 3) rfl))) (mvT hZ (hw _ (List.mem_of_getElem? (i := 24) rfl))) (by decide) (backOf (W := 0) (rm5 l Z a0 hw [] b9 (0 : Int32) q0 (48 : Int32) ((own_c2 (own_put (own_put (fun _ => (0 : Int32)) (0 : Int32) q0) (8 : Int32) q1) (own_put (own_put (own_put (own_put (fun _ => (0 : Int32)) (0 : Int32) q2) (8 : Int32) q3) (16 : Int32) q4) (24 : Int32) q5))) T9.heap n0 Z9 Vq9 (by decide) (by decide)) hZ (hw _ (List.mem_of_getElem? (i := 24) rfl)) (hw _ (List.mem_of_getElem? (i := 3) rfl)) (by decide) (by decide)) (g := (mkF m 104 #[.val (.long q0), .second, .val (.long q1), .second, .val (.long q2), .second, .val (.long q3), .second, .val (.long q4), .second, .val (.long q5), .second, .val (.ref b1), .val (.ref b2), .val (.ref b9), .unset, .unset] [(.long q0), (.int (0 : Int32)), (.ref b9)])) rfl (by rw [hml]; rfl) (argsL := [(.ref b9), (.int (0 : Int32)), (.long q0)]) (rest := []) (lenOf pd___BIJ_Z rfl) rfl (by show 2 * 0 + _ ≤ _; exact Nat.le_of_eq rfl) (hb hby at_104) (fun _ _ => ⟨rfl, rfl, (by decide : 3 + 0 ≤ _), (by decide : 96 + 0 ≤ _)⟩)
  dsimp only [Pt.U, Pt.locs, Pt.cells, Pt.slots] at X10 l10 y10 z10 st10 hQ10
  subst l10 y10 z10
  obtain ⟨rfl, N10q, e10⟩ := hQ10
  have N10 := Fr.app N9 N10q
  refine own_by st10 ?_
  show own_Fin p.tables e below _ (T10.setTop (mkF m 107 #[.val (.long q0), .second, .val (.long q1), .second, .val (.long q2), .second, .val (.long q3), .second, .val (.long q4), .second, .val (.long q5), .second, .val (.ref b1), .val (.ref b2), .val (.ref b9), .unset, .unset] [(.int (f5 (48 : Int32) (own_c2 (own_put (own_put (fun _ => (0 : Int32)) (0 : Int32) q0) (8 : Int32) q1) (own_put (own_put (own_put (own_put (fun _ => (0 : Int32)) (0 : Int32) q2) (8 : Int32) q3) (16 : Int32) q4) (24 : Int32) q5)) (0 : Int32) q0))]))
  by_cases hc11 : (f5 (48 : Int32) (own_c2 (own_put (own_put (fun _ => (0 : Int32)) (0 : Int32) q0) (8 : Int32) q1) (own_put (own_put (own_put (own_put (fun _ => (0 : Int32)) (0 : Int32) q2) (8 : Int32) q3) (16 : Int32) q4) (24 : Int32) q5)) (0 : Int32) q0) = (0 : Int32)
  · exact absurd hc11 (by simp [f5, own_c2, own_put, own_upd])
  · refine own_by (fun _ k => XS.ifNo X10.here hx rfl (hb hby at_107) rfl ((if0 _ _).trans (feq hc11).1) k) ?_
    show own_Fin p.tables e below _ (T10.setTop (mkF m 110 #[.val (.long q0), .second, .val (.long q1), .second, .val (.long q2), .second, .val (.long q3), .second, .val (.long q4), .second, .val (.long q5), .second, .val (.ref b1), .val (.ref b2), .val (.ref b9), .unset, .unset] []))
    refine own_by (fun _ k => XS.aload X10.here hx rfl (hb hby at_110) rfl rfl k) ?_
    show own_Fin p.tables e below _ (T10.setTop (mkF m 112 #[.val (.long q0), .second, .val (.long q1), .second, .val (.long q2), .second, .val (.long q3), .second, .val (.long q4), .second, .val (.long q5), .second, .val (.ref b1), .val (.ref b2), .val (.ref b9), .unset, .unset] [(.ref b9)]))
    refine own_by (fun _ k => XS.bipush X10.here hx rfl (hb hby at_112) k) ?_
    show own_Fin p.tables e below _ (T10.setTop (mkF m 114 #[.val (.long q0), .second, .val (.long q1), .second, .val (.long q2), .second, .val (.long q3), .second, .val (.long q4), .second, .val (.long q5), .second, .val (.ref b1), .val (.ref b2), .val (.ref b9), .unset, .unset] [(.int (8 : Int32)), (.ref b9)]))
    refine own_by (fun _ k => XS.lloadN X10.here hx rfl (hb hby at_114) rfl k) ?_
    show own_Fin p.tables e below _ (T10.setTop (mkF m 115 #[.val (.long q0), .second, .val (.long q1), .second, .val (.long q2), .second, .val (.long q3), .second, .val (.long q4), .second, .val (.long q5), .second, .val (.ref b1), .val (.ref b2), .val (.ref b9), .unset, .unset] [(.long q1), (.int (8 : Int32)), (.ref b9)]))
    obtain ⟨_, _, ⟨T12, L12, k12, n12⟩, -, X12, ⟨Lc12, hQ12, l12, y12, z12⟩, st12⟩ := Jvm.LawKit.callS X10 hx (y := (⟨"com/example/sealwatch/sealwatch/TokenLeafEntryPinLaw", "holds", "([BIJ)Z"⟩ : MethodName)) hown (mvT hZ (hw _ (List.mem_of_getElem? (i := 22) rfl))) (mvT hZ (hw _ (List.mem_of_getElem? (i := 23) rfl))) (mvT hZ (hw _ (List.mem_of_getElem? (i := 3) rfl))) (mvT hZ (hw _ (List.mem_of_getElem? (i := 24) rfl))) (by decide) (backOf (W := 0) (rm5 l Z a0 hw [] b9 (8 : Int32) q1 (48 : Int32) ((own_c2 (own_put (own_put (fun _ => (0 : Int32)) (0 : Int32) q0) (8 : Int32) q1) (own_put (own_put (own_put (own_put (fun _ => (0 : Int32)) (0 : Int32) q2) (8 : Int32) q3) (16 : Int32) q4) (24 : Int32) q5))) T9.heap n0 Z9 Vq9 (by decide) (by decide)) hZ (hw _ (List.mem_of_getElem? (i := 24) rfl)) (hw _ (List.mem_of_getElem? (i := 3) rfl)) (by decide) (by decide)) (g := (mkF m 115 #[.val (.long q0), .second, .val (.long q1), .second, .val (.long q2), .second, .val (.long q3), .second, .val (.long q4), .second, .val (.long q5), .second, .val (.ref b1), .val (.ref b2), .val (.ref b9), .unset, .unset] [(.long q1), (.int (8 : Int32)), (.ref b9)])) rfl (by rw [hml]; rfl) (argsL := [(.ref b9), (.int (8 : Int32)), (.long q1)]) (rest := []) (lenOf pd___BIJ_Z rfl) rfl (by show 2 * 0 + _ ≤ _; exact Nat.le_of_eq rfl) (hb hby at_115) (fun _ _ => ⟨rfl, e10, (by decide : 3 + 0 ≤ _), (by decide : 96 + 0 ≤ _)⟩)
    dsimp only [Pt.U, Pt.locs, Pt.cells, Pt.slots] at X12 l12 y12 z12 st12 hQ12
    subst l12 y12 z12
    obtain ⟨rfl, N12q, e12⟩ := hQ12
    have N12 := Fr.app N10 N12q
    refine own_by st12 ?_
    show own_Fin p.tables e below _ (T12.setTop (mkF m 118 #[.val (.long q0), .second, .val (.long q1), .second, .val (.long q2), .second, .val (.long q3), .second, .val (.long q4), .second, .val (.long q5), .second, .val (.ref b1), .val (.ref b2), .val (.ref b9), .unset, .unset] [(.int (f5 (48 : Int32) (own_c2 (own_put (own_put (fun _ => (0 : Int32)) (0 : Int32) q0) (8 : Int32) q1) (own_put (own_put (own_put (own_put (fun _ => (0 : Int32)) (0 : Int32) q2) (8 : Int32) q3) (16 : Int32) q4) (24 : Int32) q5)) (8 : Int32) q1))]))
    by_cases hc13 : (f5 (48 : Int32) (own_c2 (own_put (own_put (fun _ => (0 : Int32)) (0 : Int32) q0) (8 : Int32) q1) (own_put (own_put (own_put (own_put (fun _ => (0 : Int32)) (0 : Int32) q2) (8 : Int32) q3) (16 : Int32) q4) (24 : Int32) q5)) (8 : Int32) q1) = (0 : Int32)
    · exact absurd hc13 (by simp [f5, own_c2, own_put, own_upd])
    · refine own_by (fun _ k => XS.ifNo X12.here hx rfl (hb hby at_118) rfl ((if0 _ _).trans (feq hc13).1) k) ?_
      show own_Fin p.tables e below _ (T12.setTop (mkF m 121 #[.val (.long q0), .second, .val (.long q1), .second, .val (.long q2), .second, .val (.long q3), .second, .val (.long q4), .second, .val (.long q5), .second, .val (.ref b1), .val (.ref b2), .val (.ref b9), .unset, .unset] []))
      refine own_by (fun _ k => XS.aload X12.here hx rfl (hb hby at_121) rfl rfl k) ?_
      show own_Fin p.tables e below _ (T12.setTop (mkF m 123 #[.val (.long q0), .second, .val (.long q1), .second, .val (.long q2), .second, .val (.long q3), .second, .val (.long q4), .second, .val (.long q5), .second, .val (.ref b1), .val (.ref b2), .val (.ref b9), .unset, .unset] [(.ref b9)]))
      refine own_by (fun _ k => XS.bipush X12.here hx rfl (hb hby at_123) k) ?_
      show own_Fin p.tables e below _ (T12.setTop (mkF m 125 #[.val (.long q0), .second, .val (.long q1), .second, .val (.long q2), .second, .val (.long q3), .second, .val (.long q4), .second, .val (.long q5), .second, .val (.ref b1), .val (.ref b2), .val (.ref b9), .unset, .unset] [(.int (16 : Int32)), (.ref b9)]))
      refine own_by (fun _ k => XS.lload X12.here hx rfl (hb hby at_125) rfl k) ?_
      show own_Fin p.tables e below _ (T12.setTop (mkF m 127 #[.val (.long q0), .second, .val (.long q1), .second, .val (.long q2), .second, .val (.long q3), .second, .val (.long q4), .second, .val (.long q5), .second, .val (.ref b1), .val (.ref b2), .val (.ref b9), .unset, .unset] [(.long q2), (.int (16 : Int32)), (.ref b9)]))
      obtain ⟨_, _, ⟨T14, L14, k14, n14⟩, -, X14, ⟨Lc14, hQ14, l14, y14, z14⟩, st14⟩ := Jvm.LawKit.callS X12 hx (y := (⟨"com/example/sealwatch/sealwatch/TokenLeafEntryPinLaw", "holds", "([BIJ)Z"⟩ : MethodName)) hown (mvT hZ (hw _ (List.mem_of_getElem? (i := 22) rfl))) (mvT hZ (hw _ (List.mem_of_getElem? (i := 23) rfl))) (mvT hZ (hw _ (List.mem_of_getElem? (i := 3) rfl))) (mvT hZ (hw _ (List.mem_of_getElem? (i := 24) rfl))) (by decide) (backOf (W := 0) (rm5 l Z a0 hw [] b9 (16 : Int32) q2 (48 : Int32) ((own_c2 (own_put (own_put (fun _ => (0 : Int32)) (0 : Int32) q0) (8 : Int32) q1) (own_put (own_put (own_put (own_put (fun _ => (0 : Int32)) (0 : Int32) q2) (8 : Int32) q3) (16 : Int32) q4) (24 : Int32) q5))) T9.heap n0 Z9 Vq9 (by decide) (by decide)) hZ (hw _ (List.mem_of_getElem? (i := 24) rfl)) (hw _ (List.mem_of_getElem? (i := 3) rfl)) (by decide) (by decide)) (g := (mkF m 127 #[.val (.long q0), .second, .val (.long q1), .second, .val (.long q2), .second, .val (.long q3), .second, .val (.long q4), .second, .val (.long q5), .second, .val (.ref b1), .val (.ref b2), .val (.ref b9), .unset, .unset] [(.long q2), (.int (16 : Int32)), (.ref b9)])) rfl (by rw [hml]; rfl) (argsL := [(.ref b9), (.int (16 : Int32)), (.long q2)]) (rest := []) (lenOf pd___BIJ_Z rfl) rfl (by show 2 * 0 + _ ≤ _; exact Nat.le_of_eq rfl) (hb hby at_127) (fun _ _ => ⟨rfl, e12, (by decide : 3 + 0 ≤ _), (by decide : 96 + 0 ≤ _)⟩)
      dsimp only [Pt.U, Pt.locs, Pt.cells, Pt.slots] at X14 l14 y14 z14 st14 hQ14
      subst l14 y14 z14
      obtain ⟨rfl, N14q, e14⟩ := hQ14
      have N14 := Fr.app N12 N14q
      refine own_by st14 ?_
      show own_Fin p.tables e below _ (T14.setTop (mkF m 130 #[.val (.long q0), .second, .val (.long q1), .second, .val (.long q2), .second, .val (.long q3), .second, .val (.long q4), .second, .val (.long q5), .second, .val (.ref b1), .val (.ref b2), .val (.ref b9), .unset, .unset] [(.int (f5 (48 : Int32) (own_c2 (own_put (own_put (fun _ => (0 : Int32)) (0 : Int32) q0) (8 : Int32) q1) (own_put (own_put (own_put (own_put (fun _ => (0 : Int32)) (0 : Int32) q2) (8 : Int32) q3) (16 : Int32) q4) (24 : Int32) q5)) (16 : Int32) q2))]))
      by_cases hc15 : (f5 (48 : Int32) (own_c2 (own_put (own_put (fun _ => (0 : Int32)) (0 : Int32) q0) (8 : Int32) q1) (own_put (own_put (own_put (own_put (fun _ => (0 : Int32)) (0 : Int32) q2) (8 : Int32) q3) (16 : Int32) q4) (24 : Int32) q5)) (16 : Int32) q2) = (0 : Int32)
      · exact absurd hc15 (by simp [f5, own_c2, own_put, own_upd])
      · refine own_by (fun _ k => XS.ifNo X14.here hx rfl (hb hby at_130) rfl ((if0 _ _).trans (feq hc15).1) k) ?_
        show own_Fin p.tables e below _ (T14.setTop (mkF m 133 #[.val (.long q0), .second, .val (.long q1), .second, .val (.long q2), .second, .val (.long q3), .second, .val (.long q4), .second, .val (.long q5), .second, .val (.ref b1), .val (.ref b2), .val (.ref b9), .unset, .unset] []))
        refine own_by (fun _ k => XS.aload X14.here hx rfl (hb hby at_133) rfl rfl k) ?_
        show own_Fin p.tables e below _ (T14.setTop (mkF m 135 #[.val (.long q0), .second, .val (.long q1), .second, .val (.long q2), .second, .val (.long q3), .second, .val (.long q4), .second, .val (.long q5), .second, .val (.ref b1), .val (.ref b2), .val (.ref b9), .unset, .unset] [(.ref b9)]))
        refine own_by (fun _ k => XS.bipush X14.here hx rfl (hb hby at_135) k) ?_
        show own_Fin p.tables e below _ (T14.setTop (mkF m 137 #[.val (.long q0), .second, .val (.long q1), .second, .val (.long q2), .second, .val (.long q3), .second, .val (.long q4), .second, .val (.long q5), .second, .val (.ref b1), .val (.ref b2), .val (.ref b9), .unset, .unset] [(.int (24 : Int32)), (.ref b9)]))
        refine own_by (fun _ k => XS.lload X14.here hx rfl (hb hby at_137) rfl k) ?_
        show own_Fin p.tables e below _ (T14.setTop (mkF m 139 #[.val (.long q0), .second, .val (.long q1), .second, .val (.long q2), .second, .val (.long q3), .second, .val (.long q4), .second, .val (.long q5), .second, .val (.ref b1), .val (.ref b2), .val (.ref b9), .unset, .unset] [(.long q3), (.int (24 : Int32)), (.ref b9)]))
        obtain ⟨_, _, ⟨T16, L16, k16, n16⟩, -, X16, ⟨Lc16, hQ16, l16, y16, z16⟩, st16⟩ := Jvm.LawKit.callS X14 hx (y := (⟨"com/example/sealwatch/sealwatch/TokenLeafEntryPinLaw", "holds", "([BIJ)Z"⟩ : MethodName)) hown (mvT hZ (hw _ (List.mem_of_getElem? (i := 22) rfl))) (mvT hZ (hw _ (List.mem_of_getElem? (i := 23) rfl))) (mvT hZ (hw _ (List.mem_of_getElem? (i := 3) rfl))) (mvT hZ (hw _ (List.mem_of_getElem? (i := 24) rfl))) (by decide) (backOf (W := 0) (rm5 l Z a0 hw [] b9 (24 : Int32) q3 (48 : Int32) ((own_c2 (own_put (own_put (fun _ => (0 : Int32)) (0 : Int32) q0) (8 : Int32) q1) (own_put (own_put (own_put (own_put (fun _ => (0 : Int32)) (0 : Int32) q2) (8 : Int32) q3) (16 : Int32) q4) (24 : Int32) q5))) T9.heap n0 Z9 Vq9 (by decide) (by decide)) hZ (hw _ (List.mem_of_getElem? (i := 24) rfl)) (hw _ (List.mem_of_getElem? (i := 3) rfl)) (by decide) (by decide)) (g := (mkF m 139 #[.val (.long q0), .second, .val (.long q1), .second, .val (.long q2), .second, .val (.long q3), .second, .val (.long q4), .second, .val (.long q5), .second, .val (.ref b1), .val (.ref b2), .val (.ref b9), .unset, .unset] [(.long q3), (.int (24 : Int32)), (.ref b9)])) rfl (by rw [hml]; rfl) (argsL := [(.ref b9), (.int (24 : Int32)), (.long q3)]) (rest := []) (lenOf pd___BIJ_Z rfl) rfl (by show 2 * 0 + _ ≤ _; exact Nat.le_of_eq rfl) (hb hby at_139) (fun _ _ => ⟨rfl, e14, (by decide : 3 + 0 ≤ _), (by decide : 96 + 0 ≤ _)⟩)
        dsimp only [Pt.U, Pt.locs, Pt.cells, Pt.slots] at X16 l16 y16 z16 st16 hQ16
        subst l16 y16 z16
        obtain ⟨rfl, N16q, e16⟩ := hQ16
        have N16 := Fr.app N14 N16q
        refine own_by st16 ?_
        show own_Fin p.tables e below _ (T16.setTop (mkF m 142 #[.val (.long q0), .second, .val (.long q1), .second, .val (.long q2), .second, .val (.long q3), .second, .val (.long q4), .second, .val (.long q5), .second, .val (.ref b1), .val (.ref b2), .val (.ref b9), .unset, .unset] [(.int (f5 (48 : Int32) (own_c2 (own_put (own_put (fun _ => (0 : Int32)) (0 : Int32) q0) (8 : Int32) q1) (own_put (own_put (own_put (own_put (fun _ => (0 : Int32)) (0 : Int32) q2) (8 : Int32) q3) (16 : Int32) q4) (24 : Int32) q5)) (24 : Int32) q3))]))
        by_cases hc17 : (f5 (48 : Int32) (own_c2 (own_put (own_put (fun _ => (0 : Int32)) (0 : Int32) q0) (8 : Int32) q1) (own_put (own_put (own_put (own_put (fun _ => (0 : Int32)) (0 : Int32) q2) (8 : Int32) q3) (16 : Int32) q4) (24 : Int32) q5)) (24 : Int32) q3) = (0 : Int32)
        · exact absurd hc17 (by simp [f5, own_c2, own_put, own_upd])
        · refine own_by (fun _ k => XS.ifNo X16.here hx rfl (hb hby at_142) rfl ((if0 _ _).trans (feq hc17).1) k) ?_
          show own_Fin p.tables e below _ (T16.setTop (mkF m 145 #[.val (.long q0), .second, .val (.long q1), .second, .val (.long q2), .second, .val (.long q3), .second, .val (.long q4), .second, .val (.long q5), .second, .val (.ref b1), .val (.ref b2), .val (.ref b9), .unset, .unset] []))
          refine own_by (fun _ k => XS.aload X16.here hx rfl (hb hby at_145) rfl rfl k) ?_
          show own_Fin p.tables e below _ (T16.setTop (mkF m 147 #[.val (.long q0), .second, .val (.long q1), .second, .val (.long q2), .second, .val (.long q3), .second, .val (.long q4), .second, .val (.long q5), .second, .val (.ref b1), .val (.ref b2), .val (.ref b9), .unset, .unset] [(.ref b9)]))
          refine own_by (fun _ k => XS.bipush X16.here hx rfl (hb hby at_147) k) ?_
          show own_Fin p.tables e below _ (T16.setTop (mkF m 149 #[.val (.long q0), .second, .val (.long q1), .second, .val (.long q2), .second, .val (.long q3), .second, .val (.long q4), .second, .val (.long q5), .second, .val (.ref b1), .val (.ref b2), .val (.ref b9), .unset, .unset] [(.int (32 : Int32)), (.ref b9)]))
          refine own_by (fun _ k => XS.lload X16.here hx rfl (hb hby at_149) rfl k) ?_
          show own_Fin p.tables e below _ (T16.setTop (mkF m 151 #[.val (.long q0), .second, .val (.long q1), .second, .val (.long q2), .second, .val (.long q3), .second, .val (.long q4), .second, .val (.long q5), .second, .val (.ref b1), .val (.ref b2), .val (.ref b9), .unset, .unset] [(.long q4), (.int (32 : Int32)), (.ref b9)]))
          obtain ⟨_, _, ⟨T18, L18, k18, n18⟩, -, X18, ⟨Lc18, hQ18, l18, y18, z18⟩, st18⟩ := Jvm.LawKit.callS X16 hx (y := (⟨"com/example/sealwatch/sealwatch/TokenLeafEntryPinLaw", "holds", "([BIJ)Z"⟩ : MethodName)) hown (mvT hZ (hw _ (List.mem_of_getElem? (i := 22) rfl))) (mvT hZ (hw _ (List.mem_of_getElem? (i := 23) rfl))) (mvT hZ (hw _ (List.mem_of_getElem? (i := 3) rfl))) (mvT hZ (hw _ (List.mem_of_getElem? (i := 24) rfl))) (by decide) (backOf (W := 0) (rm5 l Z a0 hw [] b9 (32 : Int32) q4 (48 : Int32) ((own_c2 (own_put (own_put (fun _ => (0 : Int32)) (0 : Int32) q0) (8 : Int32) q1) (own_put (own_put (own_put (own_put (fun _ => (0 : Int32)) (0 : Int32) q2) (8 : Int32) q3) (16 : Int32) q4) (24 : Int32) q5))) T9.heap n0 Z9 Vq9 (by decide) (by decide)) hZ (hw _ (List.mem_of_getElem? (i := 24) rfl)) (hw _ (List.mem_of_getElem? (i := 3) rfl)) (by decide) (by decide)) (g := (mkF m 151 #[.val (.long q0), .second, .val (.long q1), .second, .val (.long q2), .second, .val (.long q3), .second, .val (.long q4), .second, .val (.long q5), .second, .val (.ref b1), .val (.ref b2), .val (.ref b9), .unset, .unset] [(.long q4), (.int (32 : Int32)), (.ref b9)])) rfl (by rw [hml]; rfl) (argsL := [(.ref b9), (.int (32 : Int32)), (.long q4)]) (rest := []) (lenOf pd___BIJ_Z rfl) rfl (by show 2 * 0 + _ ≤ _; exact Nat.le_of_eq rfl) (hb hby at_151) (fun _ _ => ⟨rfl, e16, (by decide : 3 + 0 ≤ _), (by decide : 96 + 0 ≤ _)⟩)
          dsimp only [Pt.U, Pt.locs, Pt.cells, Pt.slots] at X18 l18 y18 z18 st18 hQ18
          subst l18 y18 z18
          obtain ⟨rfl, N18q, e18⟩ := hQ18
          have N18 := Fr.app N16 N18q
          refine own_by st18 ?_
          show own_Fin p.tables e below _ (T18.setTop (mkF m 154 #[.val (.long q0), .second, .val (.long q1), .second, .val (.long q2), .second, .val (.long q3), .second, .val (.long q4), .second, .val (.long q5), .second, .val (.ref b1), .val (.ref b2), .val (.ref b9), .unset, .unset] [(.int (f5 (48 : Int32) (own_c2 (own_put (own_put (fun _ => (0 : Int32)) (0 : Int32) q0) (8 : Int32) q1) (own_put (own_put (own_put (own_put (fun _ => (0 : Int32)) (0 : Int32) q2) (8 : Int32) q3) (16 : Int32) q4) (24 : Int32) q5)) (32 : Int32) q4))]))
          by_cases hc19 : (f5 (48 : Int32) (own_c2 (own_put (own_put (fun _ => (0 : Int32)) (0 : Int32) q0) (8 : Int32) q1) (own_put (own_put (own_put (own_put (fun _ => (0 : Int32)) (0 : Int32) q2) (8 : Int32) q3) (16 : Int32) q4) (24 : Int32) q5)) (32 : Int32) q4) = (0 : Int32)
          · exact absurd hc19 (by simp [f5, own_c2, own_put, own_upd])
          · refine own_by (fun _ k => XS.ifNo X18.here hx rfl (hb hby at_154) rfl ((if0 _ _).trans (feq hc19).1) k) ?_
            show own_Fin p.tables e below _ (T18.setTop (mkF m 157 #[.val (.long q0), .second, .val (.long q1), .second, .val (.long q2), .second, .val (.long q3), .second, .val (.long q4), .second, .val (.long q5), .second, .val (.ref b1), .val (.ref b2), .val (.ref b9), .unset, .unset] []))
            refine own_by (fun _ k => XS.aload X18.here hx rfl (hb hby at_157) rfl rfl k) ?_
            show own_Fin p.tables e below _ (T18.setTop (mkF m 159 #[.val (.long q0), .second, .val (.long q1), .second, .val (.long q2), .second, .val (.long q3), .second, .val (.long q4), .second, .val (.long q5), .second, .val (.ref b1), .val (.ref b2), .val (.ref b9), .unset, .unset] [(.ref b9)]))
            refine own_by (fun _ k => XS.bipush X18.here hx rfl (hb hby at_159) k) ?_
            show own_Fin p.tables e below _ (T18.setTop (mkF m 161 #[.val (.long q0), .second, .val (.long q1), .second, .val (.long q2), .second, .val (.long q3), .second, .val (.long q4), .second, .val (.long q5), .second, .val (.ref b1), .val (.ref b2), .val (.ref b9), .unset, .unset] [(.int (40 : Int32)), (.ref b9)]))
            refine own_by (fun _ k => XS.lload X18.here hx rfl (hb hby at_161) rfl k) ?_
            show own_Fin p.tables e below _ (T18.setTop (mkF m 163 #[.val (.long q0), .second, .val (.long q1), .second, .val (.long q2), .second, .val (.long q3), .second, .val (.long q4), .second, .val (.long q5), .second, .val (.ref b1), .val (.ref b2), .val (.ref b9), .unset, .unset] [(.long q5), (.int (40 : Int32)), (.ref b9)]))
            obtain ⟨_, _, ⟨T20, L20, k20, n20⟩, -, X20, ⟨Lc20, hQ20, l20, y20, z20⟩, st20⟩ := Jvm.LawKit.callS X18 hx (y := (⟨"com/example/sealwatch/sealwatch/TokenLeafEntryPinLaw", "holds", "([BIJ)Z"⟩ : MethodName)) hown (mvT hZ (hw _ (List.mem_of_getElem? (i := 22) rfl))) (mvT hZ (hw _ (List.mem_of_getElem? (i := 23) rfl))) (mvT hZ (hw _ (List.mem_of_getElem? (i := 3) rfl))) (mvT hZ (hw _ (List.mem_of_getElem? (i := 24) rfl))) (by decide) (backOf (W := 0) (rm5 l Z a0 hw [] b9 (40 : Int32) q5 (48 : Int32) ((own_c2 (own_put (own_put (fun _ => (0 : Int32)) (0 : Int32) q0) (8 : Int32) q1) (own_put (own_put (own_put (own_put (fun _ => (0 : Int32)) (0 : Int32) q2) (8 : Int32) q3) (16 : Int32) q4) (24 : Int32) q5))) T9.heap n0 Z9 Vq9 (by decide) (by decide)) hZ (hw _ (List.mem_of_getElem? (i := 24) rfl)) (hw _ (List.mem_of_getElem? (i := 3) rfl)) (by decide) (by decide)) (g := (mkF m 163 #[.val (.long q0), .second, .val (.long q1), .second, .val (.long q2), .second, .val (.long q3), .second, .val (.long q4), .second, .val (.long q5), .second, .val (.ref b1), .val (.ref b2), .val (.ref b9), .unset, .unset] [(.long q5), (.int (40 : Int32)), (.ref b9)])) rfl (by rw [hml]; rfl) (argsL := [(.ref b9), (.int (40 : Int32)), (.long q5)]) (rest := []) (lenOf pd___BIJ_Z rfl) rfl (by show 2 * 0 + _ ≤ _; exact Nat.le_of_eq rfl) (hb hby at_163) (fun _ _ => ⟨rfl, e18, (by decide : 3 + 0 ≤ _), (by decide : 96 + 0 ≤ _)⟩)
            dsimp only [Pt.U, Pt.locs, Pt.cells, Pt.slots] at X20 l20 y20 z20 st20 hQ20
            subst l20 y20 z20
            obtain ⟨rfl, N20q, e20⟩ := hQ20
            have N20 := Fr.app N18 N20q
            refine own_by st20 ?_
            show own_Fin p.tables e below _ (T20.setTop (mkF m 166 #[.val (.long q0), .second, .val (.long q1), .second, .val (.long q2), .second, .val (.long q3), .second, .val (.long q4), .second, .val (.long q5), .second, .val (.ref b1), .val (.ref b2), .val (.ref b9), .unset, .unset] [(.int (f5 (48 : Int32) (own_c2 (own_put (own_put (fun _ => (0 : Int32)) (0 : Int32) q0) (8 : Int32) q1) (own_put (own_put (own_put (own_put (fun _ => (0 : Int32)) (0 : Int32) q2) (8 : Int32) q3) (16 : Int32) q4) (24 : Int32) q5)) (40 : Int32) q5))]))
            by_cases hc21 : (f5 (48 : Int32) (own_c2 (own_put (own_put (fun _ => (0 : Int32)) (0 : Int32) q0) (8 : Int32) q1) (own_put (own_put (own_put (own_put (fun _ => (0 : Int32)) (0 : Int32) q2) (8 : Int32) q3) (16 : Int32) q4) (24 : Int32) q5)) (40 : Int32) q5) = (0 : Int32)
            · exact absurd hc21 (by simp [f5, own_c2, own_put, own_upd])
            · refine own_by (fun _ k => XS.ifNo X20.here hx rfl (hb hby at_166) rfl ((if0 _ _).trans (feq hc21).1) k) ?_
              show own_Fin p.tables e below _ (T20.setTop (mkF m 169 #[.val (.long q0), .second, .val (.long q1), .second, .val (.long q2), .second, .val (.long q3), .second, .val (.long q4), .second, .val (.long q5), .second, .val (.ref b1), .val (.ref b2), .val (.ref b9), .unset, .unset] []))
              refine own_by (fun _ k => XS.iconst X20.here hx rfl (hb hby at_169) k) ?_
              show own_Fin p.tables e below _ (T20.setTop (mkF m 170 #[.val (.long q0), .second, .val (.long q1), .second, .val (.long q2), .second, .val (.long q3), .second, .val (.long q4), .second, .val (.long q5), .second, .val (.ref b1), .val (.ref b2), .val (.ref b9), .unset, .unset] [(.int (1 : Int32))]))
              refine own_by (fun _ k => XS.goto X20.here hx rfl (pc0 := 170) (pc' := 174) rfl (hb hby at_170) (by decide) (by decide) k) ?_
              show own_Fin p.tables e below _ (T20.setTop (mkF m 174 #[.val (.long q0), .second, .val (.long q1), .second, .val (.long q2), .second, .val (.long q3), .second, .val (.long q4), .second, .val (.long q5), .second, .val (.ref b1), .val (.ref b2), .val (.ref b9), .unset, .unset] [(.int (1 : Int32))]))
              refine own_by (fun _ k => XS.istore X20.here hx rfl (hb hby at_174) rfl (l' := #[.val (.long q0), .second, .val (.long q1), .second, .val (.long q2), .second, .val (.long q3), .second, .val (.long q4), .second, .val (.long q5), .second, .val (.ref b1), .val (.ref b2), .val (.ref b9), .val (.int (1 : Int32)), .unset]) rfl k) ?_
              show own_Fin p.tables e below _ (T20.setTop (mkF m 176 #[.val (.long q0), .second, .val (.long q1), .second, .val (.long q2), .second, .val (.long q3), .second, .val (.long q4), .second, .val (.long q5), .second, .val (.ref b1), .val (.ref b2), .val (.ref b9), .val (.int (1 : Int32)), .unset] []))
              refine own_by (fun _ k => XS.aload X20.here hx rfl (hb hby at_176) rfl rfl k) ?_
              show own_Fin p.tables e below _ (T20.setTop (mkF m 178 #[.val (.long q0), .second, .val (.long q1), .second, .val (.long q2), .second, .val (.long q3), .second, .val (.long q4), .second, .val (.long q5), .second, .val (.ref b1), .val (.ref b2), .val (.ref b9), .val (.int (1 : Int32)), .unset] [(.ref b1)]))
              refine own_by (fun _ k => XS.iconst X20.here hx rfl (hb hby at_178) k) ?_
              show own_Fin p.tables e below _ (T20.setTop (mkF m 179 #[.val (.long q0), .second, .val (.long q1), .second, .val (.long q2), .second, .val (.long q3), .second, .val (.long q4), .second, .val (.long q5), .second, .val (.ref b1), .val (.ref b2), .val (.ref b9), .val (.int (1 : Int32)), .unset] [(.int (0 : Int32)), (.ref b1)]))
              refine own_by (fun _ k => XS.lloadN X20.here hx rfl (hb hby at_179) rfl k) ?_
              show own_Fin p.tables e below _ (T20.setTop (mkF m 180 #[.val (.long q0), .second, .val (.long q1), .second, .val (.long q2), .second, .val (.long q3), .second, .val (.long q4), .second, .val (.long q5), .second, .val (.ref b1), .val (.ref b2), .val (.ref b9), .val (.int (1 : Int32)), .unset] [(.long q0), (.int (0 : Int32)), (.ref b1)]))
              obtain ⟨_, _, ⟨T22, L22, k22, n22⟩, -, X22, ⟨Lc22, hQ22, l22, y22, z22⟩, st22⟩ := Jvm.LawKit.callS X20 hx (y := (⟨"com/example/sealwatch/sealwatch/TokenLeafEntryPinLaw", "holds", "([BIJ)Z"⟩ : MethodName)) hown (mvT hZ (hw _ (List.mem_of_getElem? (i := 22) rfl))) (mvT hZ (hw _ (List.mem_of_getElem? (i := 23) rfl))) (mvT hZ (hw _ (List.mem_of_getElem? (i := 3) rfl))) (mvT hZ (hw _ (List.mem_of_getElem? (i := 24) rfl))) (by decide) (backOf (W := 0) (rm5 l Z a0 hw [] b1 (0 : Int32) q0 (16 : Int32) ((own_put (own_put (fun _ => (0 : Int32)) (0 : Int32) q0) (8 : Int32) q1)) T9.heap n0 Z9 V9_b1 (by decide) (by decide)) hZ (hw _ (List.mem_of_getElem? (i := 24) rfl)) (hw _ (List.mem_of_getElem? (i := 3) rfl)) (by decide) (by decide)) (g := (mkF m 180 #[.val (.long q0), .second, .val (.long q1), .second, .val (.long q2), .second, .val (.long q3), .second, .val (.long q4), .second, .val (.long q5), .second, .val (.ref b1), .val (.ref b2), .val (.ref b9), .val (.int (1 : Int32)), .unset] [(.long q0), (.int (0 : Int32)), (.ref b1)])) rfl (by rw [hml]; rfl) (argsL := [(.ref b1), (.int (0 : Int32)), (.long q0)]) (rest := []) (lenOf pd___BIJ_Z rfl) rfl (by show 2 * 0 + _ ≤ _; exact Nat.le_of_eq rfl) (hb hby at_180) (fun _ _ => ⟨rfl, e20, (by decide : 3 + 0 ≤ _), (by decide : 96 + 0 ≤ _)⟩)
              dsimp only [Pt.U, Pt.locs, Pt.cells, Pt.slots] at X22 l22 y22 z22 st22 hQ22
              subst l22 y22 z22
              obtain ⟨rfl, N22q, e22⟩ := hQ22
              have N22 := Fr.app N20 N22q
              refine own_by st22 ?_
              show own_Fin p.tables e below _ (T22.setTop (mkF m 183 #[.val (.long q0), .second, .val (.long q1), .second, .val (.long q2), .second, .val (.long q3), .second, .val (.long q4), .second, .val (.long q5), .second, .val (.ref b1), .val (.ref b2), .val (.ref b9), .val (.int (1 : Int32)), .unset] [(.int (f5 (16 : Int32) (own_put (own_put (fun _ => (0 : Int32)) (0 : Int32) q0) (8 : Int32) q1) (0 : Int32) q0))]))
              by_cases hc23 : (f5 (16 : Int32) (own_put (own_put (fun _ => (0 : Int32)) (0 : Int32) q0) (8 : Int32) q1) (0 : Int32) q0) = (0 : Int32)
              · exact absurd hc23 (by simp [f5, own_c2, own_put, own_upd])
              · refine own_by (fun _ k => XS.ifNo X22.here hx rfl (hb hby at_183) rfl ((if0 _ _).trans (feq hc23).1) k) ?_
                show own_Fin p.tables e below _ (T22.setTop (mkF m 186 #[.val (.long q0), .second, .val (.long q1), .second, .val (.long q2), .second, .val (.long q3), .second, .val (.long q4), .second, .val (.long q5), .second, .val (.ref b1), .val (.ref b2), .val (.ref b9), .val (.int (1 : Int32)), .unset] []))
                refine own_by (fun _ k => XS.aload X22.here hx rfl (hb hby at_186) rfl rfl k) ?_
                show own_Fin p.tables e below _ (T22.setTop (mkF m 188 #[.val (.long q0), .second, .val (.long q1), .second, .val (.long q2), .second, .val (.long q3), .second, .val (.long q4), .second, .val (.long q5), .second, .val (.ref b1), .val (.ref b2), .val (.ref b9), .val (.int (1 : Int32)), .unset] [(.ref b1)]))
                refine own_by (fun _ k => XS.bipush X22.here hx rfl (hb hby at_188) k) ?_
                show own_Fin p.tables e below _ (T22.setTop (mkF m 190 #[.val (.long q0), .second, .val (.long q1), .second, .val (.long q2), .second, .val (.long q3), .second, .val (.long q4), .second, .val (.long q5), .second, .val (.ref b1), .val (.ref b2), .val (.ref b9), .val (.int (1 : Int32)), .unset] [(.int (8 : Int32)), (.ref b1)]))
                refine own_by (fun _ k => XS.lloadN X22.here hx rfl (hb hby at_190) rfl k) ?_
                show own_Fin p.tables e below _ (T22.setTop (mkF m 191 #[.val (.long q0), .second, .val (.long q1), .second, .val (.long q2), .second, .val (.long q3), .second, .val (.long q4), .second, .val (.long q5), .second, .val (.ref b1), .val (.ref b2), .val (.ref b9), .val (.int (1 : Int32)), .unset] [(.long q1), (.int (8 : Int32)), (.ref b1)]))
                obtain ⟨_, _, ⟨T24, L24, k24, n24⟩, -, X24, ⟨Lc24, hQ24, l24, y24, z24⟩, st24⟩ := Jvm.LawKit.callS X22 hx (y := (⟨"com/example/sealwatch/sealwatch/TokenLeafEntryPinLaw", "holds", "([BIJ)Z"⟩ : MethodName)) hown (mvT hZ (hw _ (List.mem_of_getElem? (i := 22) rfl))) (mvT hZ (hw _ (List.mem_of_getElem? (i := 23) rfl))) (mvT hZ (hw _ (List.mem_of_getElem? (i := 3) rfl))) (mvT hZ (hw _ (List.mem_of_getElem? (i := 24) rfl))) (by decide) (backOf (W := 0) (rm5 l Z a0 hw [] b1 (8 : Int32) q1 (16 : Int32) ((own_put (own_put (fun _ => (0 : Int32)) (0 : Int32) q0) (8 : Int32) q1)) T9.heap n0 Z9 V9_b1 (by decide) (by decide)) hZ (hw _ (List.mem_of_getElem? (i := 24) rfl)) (hw _ (List.mem_of_getElem? (i := 3) rfl)) (by decide) (by decide)) (g := (mkF m 191 #[.val (.long q0), .second, .val (.long q1), .second, .val (.long q2), .second, .val (.long q3), .second, .val (.long q4), .second, .val (.long q5), .second, .val (.ref b1), .val (.ref b2), .val (.ref b9), .val (.int (1 : Int32)), .unset] [(.long q1), (.int (8 : Int32)), (.ref b1)])) rfl (by rw [hml]; rfl) (argsL := [(.ref b1), (.int (8 : Int32)), (.long q1)]) (rest := []) (lenOf pd___BIJ_Z rfl) rfl (by show 2 * 0 + _ ≤ _; exact Nat.le_of_eq rfl) (hb hby at_191) (fun _ _ => ⟨rfl, e22, (by decide : 3 + 0 ≤ _), (by decide : 96 + 0 ≤ _)⟩)
                dsimp only [Pt.U, Pt.locs, Pt.cells, Pt.slots] at X24 l24 y24 z24 st24 hQ24
                subst l24 y24 z24
                obtain ⟨rfl, N24q, e24⟩ := hQ24
                have N24 := Fr.app N22 N24q
                refine own_by st24 ?_
                show own_Fin p.tables e below _ (T24.setTop (mkF m 194 #[.val (.long q0), .second, .val (.long q1), .second, .val (.long q2), .second, .val (.long q3), .second, .val (.long q4), .second, .val (.long q5), .second, .val (.ref b1), .val (.ref b2), .val (.ref b9), .val (.int (1 : Int32)), .unset] [(.int (f5 (16 : Int32) (own_put (own_put (fun _ => (0 : Int32)) (0 : Int32) q0) (8 : Int32) q1) (8 : Int32) q1))]))
                by_cases hc25 : (f5 (16 : Int32) (own_put (own_put (fun _ => (0 : Int32)) (0 : Int32) q0) (8 : Int32) q1) (8 : Int32) q1) = (0 : Int32)
                · exact absurd hc25 (by simp [f5, own_c2, own_put, own_upd])
                · refine own_by (fun _ k => XS.ifNo X24.here hx rfl (hb hby at_194) rfl ((if0 _ _).trans (feq hc25).1) k) ?_
                  show own_Fin p.tables e below _ (T24.setTop (mkF m 197 #[.val (.long q0), .second, .val (.long q1), .second, .val (.long q2), .second, .val (.long q3), .second, .val (.long q4), .second, .val (.long q5), .second, .val (.ref b1), .val (.ref b2), .val (.ref b9), .val (.int (1 : Int32)), .unset] []))
                  refine own_by (fun _ k => XS.aload X24.here hx rfl (hb hby at_197) rfl rfl k) ?_
                  show own_Fin p.tables e below _ (T24.setTop (mkF m 199 #[.val (.long q0), .second, .val (.long q1), .second, .val (.long q2), .second, .val (.long q3), .second, .val (.long q4), .second, .val (.long q5), .second, .val (.ref b1), .val (.ref b2), .val (.ref b9), .val (.int (1 : Int32)), .unset] [(.ref b2)]))
                  refine own_by (fun _ k => XS.iconst X24.here hx rfl (hb hby at_199) k) ?_
                  show own_Fin p.tables e below _ (T24.setTop (mkF m 200 #[.val (.long q0), .second, .val (.long q1), .second, .val (.long q2), .second, .val (.long q3), .second, .val (.long q4), .second, .val (.long q5), .second, .val (.ref b1), .val (.ref b2), .val (.ref b9), .val (.int (1 : Int32)), .unset] [(.int (0 : Int32)), (.ref b2)]))
                  refine own_by (fun _ k => XS.lload X24.here hx rfl (hb hby at_200) rfl k) ?_
                  show own_Fin p.tables e below _ (T24.setTop (mkF m 202 #[.val (.long q0), .second, .val (.long q1), .second, .val (.long q2), .second, .val (.long q3), .second, .val (.long q4), .second, .val (.long q5), .second, .val (.ref b1), .val (.ref b2), .val (.ref b9), .val (.int (1 : Int32)), .unset] [(.long q2), (.int (0 : Int32)), (.ref b2)]))
                  obtain ⟨_, _, ⟨T26, L26, k26, n26⟩, -, X26, ⟨Lc26, hQ26, l26, y26, z26⟩, st26⟩ := Jvm.LawKit.callS X24 hx (y := (⟨"com/example/sealwatch/sealwatch/TokenLeafEntryPinLaw", "holds", "([BIJ)Z"⟩ : MethodName)) hown (mvT hZ (hw _ (List.mem_of_getElem? (i := 22) rfl))) (mvT hZ (hw _ (List.mem_of_getElem? (i := 23) rfl))) (mvT hZ (hw _ (List.mem_of_getElem? (i := 3) rfl))) (mvT hZ (hw _ (List.mem_of_getElem? (i := 24) rfl))) (by decide) (backOf (W := 0) (rm5 l Z a0 hw [] b2 (0 : Int32) q2 (32 : Int32) ((own_put (own_put (own_put (own_put (fun _ => (0 : Int32)) (0 : Int32) q2) (8 : Int32) q3) (16 : Int32) q4) (24 : Int32) q5)) T9.heap n0 Z9 V9_b2 (by decide) (by decide)) hZ (hw _ (List.mem_of_getElem? (i := 24) rfl)) (hw _ (List.mem_of_getElem? (i := 3) rfl)) (by decide) (by decide)) (g := (mkF m 202 #[.val (.long q0), .second, .val (.long q1), .second, .val (.long q2), .second, .val (.long q3), .second, .val (.long q4), .second, .val (.long q5), .second, .val (.ref b1), .val (.ref b2), .val (.ref b9), .val (.int (1 : Int32)), .unset] [(.long q2), (.int (0 : Int32)), (.ref b2)])) rfl (by rw [hml]; rfl) (argsL := [(.ref b2), (.int (0 : Int32)), (.long q2)]) (rest := []) (lenOf pd___BIJ_Z rfl) rfl (by show 2 * 0 + _ ≤ _; exact Nat.le_of_eq rfl) (hb hby at_202) (fun _ _ => ⟨rfl, e24, (by decide : 3 + 0 ≤ _), (by decide : 96 + 0 ≤ _)⟩)
                  dsimp only [Pt.U, Pt.locs, Pt.cells, Pt.slots] at X26 l26 y26 z26 st26 hQ26
                  subst l26 y26 z26
                  obtain ⟨rfl, N26q, e26⟩ := hQ26
                  have N26 := Fr.app N24 N26q
                  refine own_by st26 ?_
                  show own_Fin p.tables e below _ (T26.setTop (mkF m 205 #[.val (.long q0), .second, .val (.long q1), .second, .val (.long q2), .second, .val (.long q3), .second, .val (.long q4), .second, .val (.long q5), .second, .val (.ref b1), .val (.ref b2), .val (.ref b9), .val (.int (1 : Int32)), .unset] [(.int (f5 (32 : Int32) (own_put (own_put (own_put (own_put (fun _ => (0 : Int32)) (0 : Int32) q2) (8 : Int32) q3) (16 : Int32) q4) (24 : Int32) q5) (0 : Int32) q2))]))
                  by_cases hc27 : (f5 (32 : Int32) (own_put (own_put (own_put (own_put (fun _ => (0 : Int32)) (0 : Int32) q2) (8 : Int32) q3) (16 : Int32) q4) (24 : Int32) q5) (0 : Int32) q2) = (0 : Int32)
                  · exact absurd hc27 (by simp [f5, own_c2, own_put, own_upd])
                  · refine own_by (fun _ k => XS.ifNo X26.here hx rfl (hb hby at_205) rfl ((if0 _ _).trans (feq hc27).1) k) ?_
                    show own_Fin p.tables e below _ (T26.setTop (mkF m 208 #[.val (.long q0), .second, .val (.long q1), .second, .val (.long q2), .second, .val (.long q3), .second, .val (.long q4), .second, .val (.long q5), .second, .val (.ref b1), .val (.ref b2), .val (.ref b9), .val (.int (1 : Int32)), .unset] []))
                    refine own_by (fun _ k => XS.aload X26.here hx rfl (hb hby at_208) rfl rfl k) ?_
                    show own_Fin p.tables e below _ (T26.setTop (mkF m 210 #[.val (.long q0), .second, .val (.long q1), .second, .val (.long q2), .second, .val (.long q3), .second, .val (.long q4), .second, .val (.long q5), .second, .val (.ref b1), .val (.ref b2), .val (.ref b9), .val (.int (1 : Int32)), .unset] [(.ref b2)]))
                    refine own_by (fun _ k => XS.bipush X26.here hx rfl (hb hby at_210) k) ?_
                    show own_Fin p.tables e below _ (T26.setTop (mkF m 212 #[.val (.long q0), .second, .val (.long q1), .second, .val (.long q2), .second, .val (.long q3), .second, .val (.long q4), .second, .val (.long q5), .second, .val (.ref b1), .val (.ref b2), .val (.ref b9), .val (.int (1 : Int32)), .unset] [(.int (8 : Int32)), (.ref b2)]))
                    refine own_by (fun _ k => XS.lload X26.here hx rfl (hb hby at_212) rfl k) ?_
                    show own_Fin p.tables e below _ (T26.setTop (mkF m 214 #[.val (.long q0), .second, .val (.long q1), .second, .val (.long q2), .second, .val (.long q3), .second, .val (.long q4), .second, .val (.long q5), .second, .val (.ref b1), .val (.ref b2), .val (.ref b9), .val (.int (1 : Int32)), .unset] [(.long q3), (.int (8 : Int32)), (.ref b2)]))
                    obtain ⟨_, _, ⟨T28, L28, k28, n28⟩, -, X28, ⟨Lc28, hQ28, l28, y28, z28⟩, st28⟩ := Jvm.LawKit.callS X26 hx (y := (⟨"com/example/sealwatch/sealwatch/TokenLeafEntryPinLaw", "holds", "([BIJ)Z"⟩ : MethodName)) hown (mvT hZ (hw _ (List.mem_of_getElem? (i := 22) rfl))) (mvT hZ (hw _ (List.mem_of_getElem? (i := 23) rfl))) (mvT hZ (hw _ (List.mem_of_getElem? (i := 3) rfl))) (mvT hZ (hw _ (List.mem_of_getElem? (i := 24) rfl))) (by decide) (backOf (W := 0) (rm5 l Z a0 hw [] b2 (8 : Int32) q3 (32 : Int32) ((own_put (own_put (own_put (own_put (fun _ => (0 : Int32)) (0 : Int32) q2) (8 : Int32) q3) (16 : Int32) q4) (24 : Int32) q5)) T9.heap n0 Z9 V9_b2 (by decide) (by decide)) hZ (hw _ (List.mem_of_getElem? (i := 24) rfl)) (hw _ (List.mem_of_getElem? (i := 3) rfl)) (by decide) (by decide)) (g := (mkF m 214 #[.val (.long q0), .second, .val (.long q1), .second, .val (.long q2), .second, .val (.long q3), .second, .val (.long q4), .second, .val (.long q5), .second, .val (.ref b1), .val (.ref b2), .val (.ref b9), .val (.int (1 : Int32)), .unset] [(.long q3), (.int (8 : Int32)), (.ref b2)])) rfl (by rw [hml]; rfl) (argsL := [(.ref b2), (.int (8 : Int32)), (.long q3)]) (rest := []) (lenOf pd___BIJ_Z rfl) rfl (by show 2 * 0 + _ ≤ _; exact Nat.le_of_eq rfl) (hb hby at_214) (fun _ _ => ⟨rfl, e26, (by decide : 3 + 0 ≤ _), (by decide : 96 + 0 ≤ _)⟩)
                    dsimp only [Pt.U, Pt.locs, Pt.cells, Pt.slots] at X28 l28 y28 z28 st28 hQ28
                    subst l28 y28 z28
                    obtain ⟨rfl, N28q, e28⟩ := hQ28
                    have N28 := Fr.app N26 N28q
                    refine own_by st28 ?_
                    show own_Fin p.tables e below _ (T28.setTop (mkF m 217 #[.val (.long q0), .second, .val (.long q1), .second, .val (.long q2), .second, .val (.long q3), .second, .val (.long q4), .second, .val (.long q5), .second, .val (.ref b1), .val (.ref b2), .val (.ref b9), .val (.int (1 : Int32)), .unset] [(.int (f5 (32 : Int32) (own_put (own_put (own_put (own_put (fun _ => (0 : Int32)) (0 : Int32) q2) (8 : Int32) q3) (16 : Int32) q4) (24 : Int32) q5) (8 : Int32) q3))]))
                    by_cases hc29 : (f5 (32 : Int32) (own_put (own_put (own_put (own_put (fun _ => (0 : Int32)) (0 : Int32) q2) (8 : Int32) q3) (16 : Int32) q4) (24 : Int32) q5) (8 : Int32) q3) = (0 : Int32)
                    · exact absurd hc29 (by simp [f5, own_c2, own_put, own_upd])
                    · refine own_by (fun _ k => XS.ifNo X28.here hx rfl (hb hby at_217) rfl ((if0 _ _).trans (feq hc29).1) k) ?_
                      show own_Fin p.tables e below _ (T28.setTop (mkF m 220 #[.val (.long q0), .second, .val (.long q1), .second, .val (.long q2), .second, .val (.long q3), .second, .val (.long q4), .second, .val (.long q5), .second, .val (.ref b1), .val (.ref b2), .val (.ref b9), .val (.int (1 : Int32)), .unset] []))
                      refine own_by (fun _ k => XS.aload X28.here hx rfl (hb hby at_220) rfl rfl k) ?_
                      show own_Fin p.tables e below _ (T28.setTop (mkF m 222 #[.val (.long q0), .second, .val (.long q1), .second, .val (.long q2), .second, .val (.long q3), .second, .val (.long q4), .second, .val (.long q5), .second, .val (.ref b1), .val (.ref b2), .val (.ref b9), .val (.int (1 : Int32)), .unset] [(.ref b2)]))
                      refine own_by (fun _ k => XS.bipush X28.here hx rfl (hb hby at_222) k) ?_
                      show own_Fin p.tables e below _ (T28.setTop (mkF m 224 #[.val (.long q0), .second, .val (.long q1), .second, .val (.long q2), .second, .val (.long q3), .second, .val (.long q4), .second, .val (.long q5), .second, .val (.ref b1), .val (.ref b2), .val (.ref b9), .val (.int (1 : Int32)), .unset] [(.int (16 : Int32)), (.ref b2)]))
                      refine own_by (fun _ k => XS.lload X28.here hx rfl (hb hby at_224) rfl k) ?_
                      show own_Fin p.tables e below _ (T28.setTop (mkF m 226 #[.val (.long q0), .second, .val (.long q1), .second, .val (.long q2), .second, .val (.long q3), .second, .val (.long q4), .second, .val (.long q5), .second, .val (.ref b1), .val (.ref b2), .val (.ref b9), .val (.int (1 : Int32)), .unset] [(.long q4), (.int (16 : Int32)), (.ref b2)]))
                      obtain ⟨_, _, ⟨T30, L30, k30, n30⟩, -, X30, ⟨Lc30, hQ30, l30, y30, z30⟩, st30⟩ := Jvm.LawKit.callS X28 hx (y := (⟨"com/example/sealwatch/sealwatch/TokenLeafEntryPinLaw", "holds", "([BIJ)Z"⟩ : MethodName)) hown (mvT hZ (hw _ (List.mem_of_getElem? (i := 22) rfl))) (mvT hZ (hw _ (List.mem_of_getElem? (i := 23) rfl))) (mvT hZ (hw _ (List.mem_of_getElem? (i := 3) rfl))) (mvT hZ (hw _ (List.mem_of_getElem? (i := 24) rfl))) (by decide) (backOf (W := 0) (rm5 l Z a0 hw [] b2 (16 : Int32) q4 (32 : Int32) ((own_put (own_put (own_put (own_put (fun _ => (0 : Int32)) (0 : Int32) q2) (8 : Int32) q3) (16 : Int32) q4) (24 : Int32) q5)) T9.heap n0 Z9 V9_b2 (by decide) (by decide)) hZ (hw _ (List.mem_of_getElem? (i := 24) rfl)) (hw _ (List.mem_of_getElem? (i := 3) rfl)) (by decide) (by decide)) (g := (mkF m 226 #[.val (.long q0), .second, .val (.long q1), .second, .val (.long q2), .second, .val (.long q3), .second, .val (.long q4), .second, .val (.long q5), .second, .val (.ref b1), .val (.ref b2), .val (.ref b9), .val (.int (1 : Int32)), .unset] [(.long q4), (.int (16 : Int32)), (.ref b2)])) rfl (by rw [hml]; rfl) (argsL := [(.ref b2), (.int (16 : Int32)), (.long q4)]) (rest := []) (lenOf pd___BIJ_Z rfl) rfl (by show 2 * 0 + _ ≤ _; exact Nat.le_of_eq rfl) (hb hby at_226) (fun _ _ => ⟨rfl, e28, (by decide : 3 + 0 ≤ _), (by decide : 96 + 0 ≤ _)⟩)
                      dsimp only [Pt.U, Pt.locs, Pt.cells, Pt.slots] at X30 l30 y30 z30 st30 hQ30
                      subst l30 y30 z30
                      obtain ⟨rfl, N30q, e30⟩ := hQ30
                      have N30 := Fr.app N28 N30q
                      refine own_by st30 ?_
                      show own_Fin p.tables e below _ (T30.setTop (mkF m 229 #[.val (.long q0), .second, .val (.long q1), .second, .val (.long q2), .second, .val (.long q3), .second, .val (.long q4), .second, .val (.long q5), .second, .val (.ref b1), .val (.ref b2), .val (.ref b9), .val (.int (1 : Int32)), .unset] [(.int (f5 (32 : Int32) (own_put (own_put (own_put (own_put (fun _ => (0 : Int32)) (0 : Int32) q2) (8 : Int32) q3) (16 : Int32) q4) (24 : Int32) q5) (16 : Int32) q4))]))
                      by_cases hc31 : (f5 (32 : Int32) (own_put (own_put (own_put (own_put (fun _ => (0 : Int32)) (0 : Int32) q2) (8 : Int32) q3) (16 : Int32) q4) (24 : Int32) q5) (16 : Int32) q4) = (0 : Int32)
                      · exact absurd hc31 (by simp [f5, own_c2, own_put, own_upd])
                      · refine own_by (fun _ k => XS.ifNo X30.here hx rfl (hb hby at_229) rfl ((if0 _ _).trans (feq hc31).1) k) ?_
                        show own_Fin p.tables e below _ (T30.setTop (mkF m 232 #[.val (.long q0), .second, .val (.long q1), .second, .val (.long q2), .second, .val (.long q3), .second, .val (.long q4), .second, .val (.long q5), .second, .val (.ref b1), .val (.ref b2), .val (.ref b9), .val (.int (1 : Int32)), .unset] []))
                        refine own_by (fun _ k => XS.aload X30.here hx rfl (hb hby at_232) rfl rfl k) ?_
                        show own_Fin p.tables e below _ (T30.setTop (mkF m 234 #[.val (.long q0), .second, .val (.long q1), .second, .val (.long q2), .second, .val (.long q3), .second, .val (.long q4), .second, .val (.long q5), .second, .val (.ref b1), .val (.ref b2), .val (.ref b9), .val (.int (1 : Int32)), .unset] [(.ref b2)]))
                        refine own_by (fun _ k => XS.bipush X30.here hx rfl (hb hby at_234) k) ?_
                        show own_Fin p.tables e below _ (T30.setTop (mkF m 236 #[.val (.long q0), .second, .val (.long q1), .second, .val (.long q2), .second, .val (.long q3), .second, .val (.long q4), .second, .val (.long q5), .second, .val (.ref b1), .val (.ref b2), .val (.ref b9), .val (.int (1 : Int32)), .unset] [(.int (24 : Int32)), (.ref b2)]))
                        refine own_by (fun _ k => XS.lload X30.here hx rfl (hb hby at_236) rfl k) ?_
                        show own_Fin p.tables e below _ (T30.setTop (mkF m 238 #[.val (.long q0), .second, .val (.long q1), .second, .val (.long q2), .second, .val (.long q3), .second, .val (.long q4), .second, .val (.long q5), .second, .val (.ref b1), .val (.ref b2), .val (.ref b9), .val (.int (1 : Int32)), .unset] [(.long q5), (.int (24 : Int32)), (.ref b2)]))
                        obtain ⟨_, _, ⟨T32, L32, k32, n32⟩, -, X32, ⟨Lc32, hQ32, l32, y32, z32⟩, st32⟩ := Jvm.LawKit.callS X30 hx (y := (⟨"com/example/sealwatch/sealwatch/TokenLeafEntryPinLaw", "holds", "([BIJ)Z"⟩ : MethodName)) hown (mvT hZ (hw _ (List.mem_of_getElem? (i := 22) rfl))) (mvT hZ (hw _ (List.mem_of_getElem? (i := 23) rfl))) (mvT hZ (hw _ (List.mem_of_getElem? (i := 3) rfl))) (mvT hZ (hw _ (List.mem_of_getElem? (i := 24) rfl))) (by decide) (backOf (W := 0) (rm5 l Z a0 hw [] b2 (24 : Int32) q5 (32 : Int32) ((own_put (own_put (own_put (own_put (fun _ => (0 : Int32)) (0 : Int32) q2) (8 : Int32) q3) (16 : Int32) q4) (24 : Int32) q5)) T9.heap n0 Z9 V9_b2 (by decide) (by decide)) hZ (hw _ (List.mem_of_getElem? (i := 24) rfl)) (hw _ (List.mem_of_getElem? (i := 3) rfl)) (by decide) (by decide)) (g := (mkF m 238 #[.val (.long q0), .second, .val (.long q1), .second, .val (.long q2), .second, .val (.long q3), .second, .val (.long q4), .second, .val (.long q5), .second, .val (.ref b1), .val (.ref b2), .val (.ref b9), .val (.int (1 : Int32)), .unset] [(.long q5), (.int (24 : Int32)), (.ref b2)])) rfl (by rw [hml]; rfl) (argsL := [(.ref b2), (.int (24 : Int32)), (.long q5)]) (rest := []) (lenOf pd___BIJ_Z rfl) rfl (by show 2 * 0 + _ ≤ _; exact Nat.le_of_eq rfl) (hb hby at_238) (fun _ _ => ⟨rfl, e30, (by decide : 3 + 0 ≤ _), (by decide : 96 + 0 ≤ _)⟩)
                        dsimp only [Pt.U, Pt.locs, Pt.cells, Pt.slots] at X32 l32 y32 z32 st32 hQ32
                        subst l32 y32 z32
                        obtain ⟨rfl, N32q, e32⟩ := hQ32
                        have N32 := Fr.app N30 N32q
                        refine own_by st32 ?_
                        show own_Fin p.tables e below _ (T32.setTop (mkF m 241 #[.val (.long q0), .second, .val (.long q1), .second, .val (.long q2), .second, .val (.long q3), .second, .val (.long q4), .second, .val (.long q5), .second, .val (.ref b1), .val (.ref b2), .val (.ref b9), .val (.int (1 : Int32)), .unset] [(.int (f5 (32 : Int32) (own_put (own_put (own_put (own_put (fun _ => (0 : Int32)) (0 : Int32) q2) (8 : Int32) q3) (16 : Int32) q4) (24 : Int32) q5) (24 : Int32) q5))]))
                        by_cases hc33 : (f5 (32 : Int32) (own_put (own_put (own_put (own_put (fun _ => (0 : Int32)) (0 : Int32) q2) (8 : Int32) q3) (16 : Int32) q4) (24 : Int32) q5) (24 : Int32) q5) = (0 : Int32)
                        · exact absurd hc33 (by simp [f5, own_c2, own_put, own_upd])
                        · refine own_by (fun _ k => XS.ifNo X32.here hx rfl (hb hby at_241) rfl ((if0 _ _).trans (feq hc33).1) k) ?_
                          show own_Fin p.tables e below _ (T32.setTop (mkF m 244 #[.val (.long q0), .second, .val (.long q1), .second, .val (.long q2), .second, .val (.long q3), .second, .val (.long q4), .second, .val (.long q5), .second, .val (.ref b1), .val (.ref b2), .val (.ref b9), .val (.int (1 : Int32)), .unset] []))
                          refine own_by (fun _ k => XS.iconst X32.here hx rfl (hb hby at_244) k) ?_
                          show own_Fin p.tables e below _ (T32.setTop (mkF m 245 #[.val (.long q0), .second, .val (.long q1), .second, .val (.long q2), .second, .val (.long q3), .second, .val (.long q4), .second, .val (.long q5), .second, .val (.ref b1), .val (.ref b2), .val (.ref b9), .val (.int (1 : Int32)), .unset] [(.int (1 : Int32))]))
                          refine own_by (fun _ k => XS.goto X32.here hx rfl (pc0 := 245) (pc' := 249) rfl (hb hby at_245) (by decide) (by decide) k) ?_
                          show own_Fin p.tables e below _ (T32.setTop (mkF m 249 #[.val (.long q0), .second, .val (.long q1), .second, .val (.long q2), .second, .val (.long q3), .second, .val (.long q4), .second, .val (.long q5), .second, .val (.ref b1), .val (.ref b2), .val (.ref b9), .val (.int (1 : Int32)), .unset] [(.int (1 : Int32))]))
                          refine own_by (fun _ k => XS.istore X32.here hx rfl (hb hby at_249) rfl (l' := #[.val (.long q0), .second, .val (.long q1), .second, .val (.long q2), .second, .val (.long q3), .second, .val (.long q4), .second, .val (.long q5), .second, .val (.ref b1), .val (.ref b2), .val (.ref b9), .val (.int (1 : Int32)), .val (.int (1 : Int32))]) rfl k) ?_
                          show own_Fin p.tables e below _ (T32.setTop (mkF m 251 #[.val (.long q0), .second, .val (.long q1), .second, .val (.long q2), .second, .val (.long q3), .second, .val (.long q4), .second, .val (.long q5), .second, .val (.ref b1), .val (.ref b2), .val (.ref b9), .val (.int (1 : Int32)), .val (.int (1 : Int32))] []))
                          refine own_by (fun _ k => XS.iload X32.here hx rfl (hb hby at_251) rfl k) ?_
                          show own_Fin p.tables e below _ (T32.setTop (mkF m 253 #[.val (.long q0), .second, .val (.long q1), .second, .val (.long q2), .second, .val (.long q3), .second, .val (.long q4), .second, .val (.long q5), .second, .val (.ref b1), .val (.ref b2), .val (.ref b9), .val (.int (1 : Int32)), .val (.int (1 : Int32))] [(.int (1 : Int32))]))
                          refine own_by (fun _ k => XS.ifNo X32.here hx rfl (hb hby at_253) rfl ((if0 _ _).trans (feq (by decide)).1) k) ?_
                          show own_Fin p.tables e below _ (T32.setTop (mkF m 256 #[.val (.long q0), .second, .val (.long q1), .second, .val (.long q2), .second, .val (.long q3), .second, .val (.long q4), .second, .val (.long q5), .second, .val (.ref b1), .val (.ref b2), .val (.ref b9), .val (.int (1 : Int32)), .val (.int (1 : Int32))] []))
                          refine own_by (fun _ k => XS.iload X32.here hx rfl (hb hby at_256) rfl k) ?_
                          show own_Fin p.tables e below _ (T32.setTop (mkF m 258 #[.val (.long q0), .second, .val (.long q1), .second, .val (.long q2), .second, .val (.long q3), .second, .val (.long q4), .second, .val (.long q5), .second, .val (.ref b1), .val (.ref b2), .val (.ref b9), .val (.int (1 : Int32)), .val (.int (1 : Int32))] [(.int (1 : Int32))]))
                          refine own_by (fun _ k => XS.ifNo X32.here hx rfl (hb hby at_258) rfl ((if0 _ _).trans (feq (by decide)).1) k) ?_
                          show own_Fin p.tables e below _ (T32.setTop (mkF m 261 #[.val (.long q0), .second, .val (.long q1), .second, .val (.long q2), .second, .val (.long q3), .second, .val (.long q4), .second, .val (.long q5), .second, .val (.ref b1), .val (.ref b2), .val (.ref b9), .val (.int (1 : Int32)), .val (.int (1 : Int32))] []))
                          refine own_by (fun _ k => XS.iconst X32.here hx rfl (hb hby at_261) k) ?_
                          show own_Fin p.tables e below _ (T32.setTop (mkF m 262 #[.val (.long q0), .second, .val (.long q1), .second, .val (.long q2), .second, .val (.long q3), .second, .val (.long q4), .second, .val (.long q5), .second, .val (.ref b1), .val (.ref b2), .val (.ref b9), .val (.int (1 : Int32)), .val (.int (1 : Int32))] [(.int (1 : Int32))]))
                          refine own_by (fun _ k => XS.goto X32.here hx rfl (pc0 := 262) (pc' := 266) rfl (hb hby at_262) (by decide) (by decide) k) ?_
                          show own_Fin p.tables e below _ (T32.setTop (mkF m 266 #[.val (.long q0), .second, .val (.long q1), .second, .val (.long q2), .second, .val (.long q3), .second, .val (.long q4), .second, .val (.long q5), .second, .val (.ref b1), .val (.ref b2), .val (.ref b9), .val (.int (1 : Int32)), .val (.int (1 : Int32))] [(.int (1 : Int32))]))
                          have ef := (rfl : f0 q0 q1 q2 q3 q4 q5 = (1 : Int32))
                          exact own_retN X32 hx (t := .boolean) Bd.returns hlk (by simp) (hb hby at_266) (by decide) (by decide) ⟨by rw [ef]; rfl, N32⟩
theorem own_law (q0 q1 q2 q3 q4 q5 : Int64) : f0 q0 q1 q2 q3 q4 q5 = 1 := rfl
set_option maxRecDepth 65536 in
set_option maxHeartbeats 40000000 in
theorem comes_1 {Post : Tables → Env → Array Value → State → Outcome → State → Prop} (hpost : ∀ tb e args s v u, (limb_1_1.after args s (.returned v) u = true ∧ limb_1_2.after args s (.returned v) u = true ∧ True) → FrameEnd s (.returned v) u (Jvm.fieldLocs frame_1_writes args s ++ Jvm.arrayLocs frame_1_arrays args s ++ Jvm.staticLocs frame_1_statics s) 16 256 → Post tb e args s (.returned v) u) :
    ArmFor flags0 classFile x code maxLocals ret World_1 tables_1 room_1 Calls_1 rest_1 Pre_1 Post := by
  intro l hfl _ _ p e ha hc hk s m args below hf hA hF happ hP
  obtain ⟨hcalls, hrest, hpre⟩ := hP
  obtain ⟨-, -, -, hnamed, -, -, -, hat⟩ := (Spec.applies_iff hf).mp happ
  obtain ⟨hg, hn⟩ := and_e (Cond.before_iff.mp (show (Jvm.Cond.and given_1 narrow_1).before args s = true from hpre))
  obtain ⟨c0, r0⟩ := and_e hg
  obtain ⟨c1, r1⟩ := and_e r0
  obtain ⟨c2, r2⟩ := and_e r1
  obtain ⟨c3, r3⟩ := and_e r2
  obtain ⟨c4, r4⟩ := and_e r3
  obtain ⟨c5, r5⟩ := and_e r4
  obtain ⟨w0, w1, w2, w3, w4, w5, rfl⟩ : ∃ w0 w1 w2 w3 w4 w5 : Value, args = #[w0, w1, w2, w3, w4, w5] := by
    have hs : args.size = 6 := by simpa [Cond.value, given_1] using c0
    obtain ⟨L⟩ := args
    match L, hs with
    | [w0, w1, w2, w3, w4, w5], _ => exact ⟨w0, w1, w2, w3, w4, w5, rfl⟩
  have hw := fun d (hd : d ∈ tables_1) => atoms_spec (ws := Jvm.Cond.code x code maxLocals ret :: tables_1) hat d (List.mem_cons_of_mem _ hd)
  obtain ⟨i0, ei0⟩ := isL_v c1
  obtain rfl : w0 = (.long i0) := Option.some.inj ei0
  obtain ⟨i1, ei1⟩ := isL_v c2
  obtain rfl : w1 = (.long i1) := Option.some.inj ei1
  obtain ⟨i2, ei2⟩ := isL_v c3
  obtain rfl : w2 = (.long i2) := Option.some.inj ei2
  obtain ⟨i3, ei3⟩ := isL_v c4
  obtain rfl : w3 = (.long i3) := Option.some.inj ei3
  obtain ⟨i4, ei4⟩ := isL_v c5
  obtain rfl : w4 = (.long i4) := Option.some.inj ei4
  obtain ⟨i5, ei5⟩ := isL_v r5
  obtain rfl : w5 = (.long i5) := Option.some.inj ei5
  obtain ⟨n, o, h1, h2, h3, _, L, rfl, ⟨rfl, N⟩, hq⟩ := rm0 l s _ hw tables_1 i0 i1 i2 i3 i4 i5 s.heap s.heap.size (Nat.le_refl _)  p e ha hc hk s m _ below hf ((Spec.applies_iff_loose hf).mp happ).1 ⟨rfl, State.Warmed39.refl s, rfl⟩ trivial
  refine ⟨n, _, h1, h2, h3, hpost _ _ _ _ _ _ ⟨Cond.after_iff.mpr rfl, Cond.after_iff.mpr (eq_i res_at (Term.int_eval (1)) (congrArg Value.int (own_law i0 i1 i2 i3 i4 i5))), trivial⟩ ⟨hq.1, hq.2.1, (hq.2.2.sift fun y hy => Or.inr (N y hy)).mono (by decide) (by decide)⟩⟩
theorem main_1_1 : Claimed_1_1 := comes_1 fun _ _ _ _ _ _ h hF => ⟨h.1, hF⟩
theorem main_1_2 : Claimed_1_2 := comes_1 fun _ _ _ _ _ _ h hF => ⟨h.2.1, hF⟩
end Jvm.Pilot.@@N@@
namespace Jvm.Pilot.@@N@@
open Jvm Jvm.ClassFile Sem Op Lib Jvm.Free Jvm.Stand Jvm.Pilot.@@N@@.Jvm.D
/-! MADE BY PROGRAM (witnessworld.py) out of the Statement's table words and the real class files: 13 classes; the members and pool entries that the words name. The judged class is class 1, her method 3. -/
namespace start1
open Jvm.ClassFile
def u (s : String) : CpInfo := .utf8 (stringToUtf16 s)
/-- a pool by its gaps: so many unusable entries, then the entry; so many at the end -/
def gap : Nat → List CpInfo → List CpInfo
  | 0, r => r
  | n + 1, r => .unusable :: gap n r
def poolList (es : List (Nat × CpInfo)) (last : Nat) : List CpInfo := es.foldr (fun e r => gap e.1 (e.2 :: r)) (gap last [])
def pool (es : List (Nat × CpInfo)) (last : Nat) : Array CpInfo := ⟨poolList es last⟩
def fileOf (pool : Array CpInfo) (this : Nat) (attrs : Array Attribute := #[]) (ms : Array MethodInfo := #[]) (fl : Nat := 33) (sup : Nat := 0) (ifs : Array Nat := #[]) (fds : Array FieldInfo := #[]) : ClassFile where
  minorVersion := 0
  majorVersion := 65
  constantPool := pool
  accessFlags := fl
  thisClass := this
  superClass := sup
  interfaces := ifs
  fields := fds
  methods := ms
  attributes := attrs
def plain (name : String) (sup : Option ClassId) : Class where
  name := name
  kind := .ordinary
  loader := none
  accessFlags := 33
  super := sup
  interfaces := #[]
  cf := none
  fields := #[]
  methods := #[]
  instanceTypes := #[]
  staticTypes := #[]
  resolved := #[]
  callSites := []
  init := .initialized
  statics := none
  mirror := none

def pool0 : Array CpInfo := pool [(5, u "<init>"), (0, u "()V"), (1, .class_ 10), (1, u "java/lang/Object")] 113

def k0m0 : Method := { name := "<init>", desc := "()V", sig := { parameters := [], returnType := none }, accessFlags := 1, code := none }
/-- java/lang/Object -/
def k0 : Class := { plain "java/lang/Object" none with
  accessFlags := 33
  interfaces := #[]
  cf := some (fileOf pool0 8 #[] #[{ accessFlags := 1, nameIndex := 5, descriptorIndex := 6, attributes := #[] }] 33 0 #[] #[])
  fields := #[]
  methods := #[k0m0]
  instanceTypes := #[]
  staticTypes := #[]
  resolved := Array.replicate 124 none
  statics := none }

def pool1 : Array CpInfo := pool [(2, .class_ 4), (1, u "java/lang/Object"), (0, u "<init>"), (0, u "()V"), (0, .methodref 8 9), (0, .class_ 10), (0, .nameAndType 11 12), (0, u "com/example/sealwatch/sealwatch/TokenLeafEntryPinLaw"), (0, u "put"), (0, u "([BIJ)V"), (0, .methodref 14 15), (0, .class_ 16), (0, .nameAndType 17 18), (0, u "com/example/sealwatch/sealwatch/Token"), (0, u "leafEntry"), (0, u "([B[B)[B"), (0, .methodref 8 20), (0, .nameAndType 21 22), (0, u "holds"), (0, u "([BIJ)Z"), (3, u "law"), (0, u "(JJJJJJ)Z")] 4

def k1m0 : Method := { name := "<init>", desc := "()V", sig := { parameters := [], returnType := none }, accessFlags := 2, code := none }
def k1c1 : Code := { maxStack := 5, maxLocals := 4, code := method_2_code, exceptionTable := #[], attributes := #[] }
def k1m1 : Method := { name := "put", desc := "([BIJ)V", sig := { parameters := [(.array .byte), .int, .long], returnType := none }, accessFlags := 10, code := some k1c1 }
def k1c2 : Code := { maxStack := 4, maxLocals := 4, code := method_3_code, exceptionTable := #[], attributes := #[] }
def k1m2 : Method := { name := "holds", desc := "([BIJ)Z", sig := { parameters := [(.array .byte), .int, .long], returnType := some .boolean }, accessFlags := 10, code := some k1c2 }
def k1c3 : Code := { maxStack := 4, maxLocals := 17, code := code, exceptionTable := #[], attributes := #[] }
def k1m3 : Method := { name := "law", desc := "(JJJJJJ)Z", sig := { parameters := [.long, .long, .long, .long, .long, .long], returnType := some .boolean }, accessFlags := 9, code := some k1c3 }
/-- com/example/sealwatch/sealwatch/TokenLeafEntryPinLaw -/
def k1 : Class := { plain "com/example/sealwatch/sealwatch/TokenLeafEntryPinLaw" (some 0) with
  accessFlags := 49
  interfaces := #[]
  cf := some (fileOf pool1 8 #[] #[{ accessFlags := 2, nameIndex := 5, descriptorIndex := 6, attributes := #[] }, { accessFlags := 10, nameIndex := 11, descriptorIndex := 12, attributes := #[] }, { accessFlags := 10, nameIndex := 21, descriptorIndex := 22, attributes := #[] }, { accessFlags := 9, nameIndex := 26, descriptorIndex := 27, attributes := #[] }] 49 2 #[] #[])
  fields := #[]
  methods := #[k1m0, k1m1, k1m2, k1m3]
  instanceTypes := #[]
  staticTypes := #[]
  resolved := Array.replicate 32 none
  statics := none }

def pool2 : Array CpInfo := pool [(2, .class_ 4), (1, u "java/lang/Object"), (0, u "<init>"), (0, u "()V"), (0, .class_ 8), (0, u "java/lang/Record")] 13

def k2m0 : Method := { name := "<init>", desc := "()V", sig := { parameters := [], returnType := none }, accessFlags := 4, code := none }
/-- java/lang/Record -/
def k2 : Class := { plain "java/lang/Record" (some 0) with
  accessFlags := 1057
  interfaces := #[]
  cf := some (fileOf pool2 7 #[] #[{ accessFlags := 4, nameIndex := 5, descriptorIndex := 6, attributes := #[] }] 1057 2 #[] #[])
  fields := #[]
  methods := #[k2m0]
  instanceTypes := #[]
  staticTypes := #[]
  resolved := Array.replicate 22 none
  statics := none }

def pool3 : Array CpInfo := pool [(1, .class_ 2), (0, u "com/example/sealwatch/sealwatch/Token"), (1, .class_ 6), (1, u "java/lang/Record"), (4, u "digest"), (0, u "Ljava/lang/String;"), (2, u "salt"), (0, u "[B"), (2, u "round"), (0, u "J"), (2, u "closedAt"), (0, u "Ljava/time/Instant;"), (2, u "leafIndex"), (0, u "I"), (2, u "treeSize"), (2, u "proof"), (0, u "Ljava/util/List;"), (2, u "previousSummary"), (27, .methodref 67 68), (0, .class_ 69), (0, .nameAndType 70 71), (0, u "java/util/Arrays"), (0, u "copyOf"), (0, u "([BI)[B"), (0, .methodref 73 74), (0, .class_ 75), (0, .nameAndType 76 77), (0, u "java/lang/System"), (0, u "arraycopy"), (0, u "(Ljava/lang/Object;ILjava/lang/Object;II)V"), (36, u "HEAD"), (0, u "Ljava/util/regex/Pattern;"), (52, .class_ 169), (0, u "com/example/sealwatch/sealwatch/Token$Reader"), (83, u "leafEntry"), (0, u "([B[B)[B"), (87, u "VERSION"), (2, u "ALGORITHM"), (0, u "SALT_LENGTH"), (1, u "DIGEST_LENGTH"), (1, u "MAX_LINE"), (1, u "HEAD_TEXT")] 90

def k3c0 : Code := { maxStack := 5, maxLocals := 3, code := prog_114_method_3_code, exceptionTable := #[], attributes := #[] }
def k3m0 : Method := { name := "leafEntry", desc := "([B[B)[B", sig := { parameters := [(.array .byte), (.array .byte)], returnType := some (.array .byte) }, accessFlags := 8, code := some k3c0 }
/-- com/example/sealwatch/sealwatch/Token -/
def k3 : Class := { plain "com/example/sealwatch/sealwatch/Token" (some 2) with
  accessFlags := 48
  interfaces := #[]
  cf := some (fileOf pool3 1 #[.nestMembers #[168]] #[{ accessFlags := 8, nameIndex := 253, descriptorIndex := 254, attributes := #[] }] 48 4 #[] #[{ accessFlags := 18, nameIndex := 11, descriptorIndex := 12, attributes := #[] }, { accessFlags := 18, nameIndex := 15, descriptorIndex := 16, attributes := #[] }, { accessFlags := 18, nameIndex := 19, descriptorIndex := 20, attributes := #[] }, { accessFlags := 18, nameIndex := 23, descriptorIndex := 24, attributes := #[] }, { accessFlags := 18, nameIndex := 27, descriptorIndex := 28, attributes := #[] }, { accessFlags := 18, nameIndex := 31, descriptorIndex := 28, attributes := #[] }, { accessFlags := 18, nameIndex := 34, descriptorIndex := 35, attributes := #[] }, { accessFlags := 18, nameIndex := 38, descriptorIndex := 16, attributes := #[] }, { accessFlags := 24, nameIndex := 342, descriptorIndex := 28, attributes := #[] }, { accessFlags := 24, nameIndex := 345, descriptorIndex := 12, attributes := #[] }, { accessFlags := 24, nameIndex := 346, descriptorIndex := 28, attributes := #[] }, { accessFlags := 26, nameIndex := 348, descriptorIndex := 28, attributes := #[] }, { accessFlags := 26, nameIndex := 350, descriptorIndex := 28, attributes := #[] }, { accessFlags := 26, nameIndex := 114, descriptorIndex := 115, attributes := #[] }, { accessFlags := 26, nameIndex := 352, descriptorIndex := 12, attributes := #[] }])
  fields := #[{ name := "digest", type := (.object "java/lang/String"), accessFlags := 18, slot := 0, constantValue := 0 }, { name := "salt", type := (.array .byte), accessFlags := 18, slot := 1, constantValue := 0 }, { name := "round", type := .long, accessFlags := 18, slot := 2, constantValue := 0 }, { name := "closedAt", type := (.object "java/time/Instant"), accessFlags := 18, slot := 3, constantValue := 0 }, { name := "leafIndex", type := .int, accessFlags := 18, slot := 4, constantValue := 0 }, { name := "treeSize", type := .int, accessFlags := 18, slot := 5, constantValue := 0 }, { name := "proof", type := (.object "java/util/List"), accessFlags := 18, slot := 6, constantValue := 0 }, { name := "previousSummary", type := (.array .byte), accessFlags := 18, slot := 7, constantValue := 0 }, { name := "VERSION", type := .int, accessFlags := 24, slot := 0, constantValue := 0 }, { name := "ALGORITHM", type := (.object "java/lang/String"), accessFlags := 24, slot := 1, constantValue := 0 }, { name := "SALT_LENGTH", type := .int, accessFlags := 24, slot := 2, constantValue := 0 }, { name := "DIGEST_LENGTH", type := .int, accessFlags := 26, slot := 3, constantValue := 0 }, { name := "MAX_LINE", type := .int, accessFlags := 26, slot := 4, constantValue := 0 }, { name := "HEAD", type := (.object "java/util/regex/Pattern"), accessFlags := 26, slot := 5, constantValue := 0 }, { name := "HEAD_TEXT", type := (.object "java/lang/String"), accessFlags := 26, slot := 6, constantValue := 0 }]
  methods := #[k3m0]
  instanceTypes := #[(.object "java/lang/String"), (.array .byte), .long, (.object "java/time/Instant"), .int, .int, (.object "java/util/List"), (.array .byte)]
  staticTypes := #[.int, (.object "java/lang/String"), .int, .int, .int, (.object "java/util/regex/Pattern"), (.object "java/lang/String")]
  resolved := Array.replicate 443 none
  statics := none }

def pool4 : Array CpInfo := pool [(2, .class_ 4), (1, u "java/lang/Object"), (0, u "<init>"), (0, u "()V"), (7, .class_ 16), (1, u "java/util/Arrays"), (57, .class_ 76), (1, u "java/util/Arrays$NaturalOrder"), (36, .class_ 115), (1, u "java/util/Arrays$LegacyMergeSort"), (1, u "Z"), (32, .methodref 151 152), (0, .class_ 153), (0, .nameAndType 154 155), (0, u "java/lang/System"), (0, u "arraycopy"), (0, u "(Ljava/lang/Object;ILjava/lang/Object;II)V"), (146, u "copyOf"), (1, .methodref 305 306), (0, .class_ 307), (0, .nameAndType 308 309), (0, u "java/lang/Math"), (0, u "min"), (0, u "(II)I"), (65, .class_ 376), (0, u "java/util/Arrays$ArrayList"), (68, u "$assertionsDisabled"), (269, u "MIN_ARRAY_SORT_GRAN"), (0, u "I"), (2, u "INSERTIONSORT_THRESHOLD"), (149, u "([BI)[B"), (105, .class_ 976), (0, u "java/util/Arrays$ArrayItr")] 52

def k4m0 : Method := { name := "<init>", desc := "()V", sig := { parameters := [], returnType := none }, accessFlags := 2, code := none }
def k4c1 : Code := { maxStack := 6, maxLocals := 3, code := jdk_65_method_121_code, exceptionTable := #[], attributes := #[] }
def k4m1 : Method := { name := "copyOf", desc := "([BI)[B", sig := { parameters := [(.array .byte), .int], returnType := some (.array .byte) }, accessFlags := 9, code := some k4c1 }
/-- java/util/Arrays -/
def k4 : Class := { plain "java/util/Arrays" (some 0) with
  accessFlags := 49
  interfaces := #[]
  cf := some (fileOf pool4 14 #[.nestMembers #[975, 375, 113, 74]] #[{ accessFlags := 2, nameIndex := 5, descriptorIndex := 6, attributes := #[] }, { accessFlags := 9, nameIndex := 302, descriptorIndex := 869, attributes := #[] }] 49 2 #[] #[{ accessFlags := 26, nameIndex := 715, descriptorIndex := 716, attributes := #[] }, { accessFlags := 26, nameIndex := 719, descriptorIndex := 716, attributes := #[] }, { accessFlags := 4120, nameIndex := 445, descriptorIndex := 117, attributes := #[] }])
  fields := #[{ name := "MIN_ARRAY_SORT_GRAN", type := .int, accessFlags := 26, slot := 0, constantValue := 0 }, { name := "INSERTIONSORT_THRESHOLD", type := .int, accessFlags := 26, slot := 1, constantValue := 0 }, { name := "$assertionsDisabled", type := .boolean, accessFlags := 4120, slot := 2, constantValue := 0 }]
  methods := #[k4m0, k4m1]
  instanceTypes := #[]
  staticTypes := #[.int, .int, .boolean]
  resolved := Array.replicate 1029 none
  statics := none }

def pool5 : Array CpInfo := pool [(1, .class_ 2), (0, u "java/lang/Math"), (1, .class_ 6), (1, u "java/lang/Object"), (0, u "<init>"), (0, u "()V"), (89, .class_ 100), (1, u "java/lang/Math$RandomNumberGeneratorHolder"), (71, u "negativeZeroFloatBits"), (0, u "J"), (2, u "negativeZeroDoubleBits"), (24, u "min"), (43, u "$assertionsDisabled"), (0, u "Z"), (88, u "(II)I"), (2, u "twoToTheDoubleScaleDown"), (0, u "D"), (4, u "twoToTheDoubleScaleUp"), (9, u "E"), (3, u "PI"), (2, u "TAU"), (2, u "DEGREES_TO_RADIANS"), (0, u "RADIANS_TO_DEGREES")] 94

def k5m0 : Method := { name := "<init>", desc := "()V", sig := { parameters := [], returnType := none }, accessFlags := 2, code := none }
def k5c1 : Code := { maxStack := 2, maxLocals := 2, code := jdk_29_method_69_code, exceptionTable := #[], attributes := #[] }
def k5m1 : Method := { name := "min", desc := "(II)I", sig := { parameters := [.int, .int], returnType := some .int }, accessFlags := 9, code := some k5c1 }
/-- java/lang/Math -/
def k5 : Class := { plain "java/lang/Math" (some 0) with
  accessFlags := 49
  interfaces := #[]
  cf := some (fileOf pool5 1 #[.nestMembers #[98]] #[{ accessFlags := 2, nameIndex := 7, descriptorIndex := 8, attributes := #[] }, { accessFlags := 9, nameIndex := 201, descriptorIndex := 335, attributes := #[] }] 49 4 #[] #[{ accessFlags := 25, nameIndex := 354, descriptorIndex := 339, attributes := #[] }, { accessFlags := 25, nameIndex := 358, descriptorIndex := 339, attributes := #[] }, { accessFlags := 25, nameIndex := 361, descriptorIndex := 339, attributes := #[] }, { accessFlags := 26, nameIndex := 364, descriptorIndex := 339, attributes := #[] }, { accessFlags := 26, nameIndex := 365, descriptorIndex := 339, attributes := #[] }, { accessFlags := 26, nameIndex := 172, descriptorIndex := 173, attributes := #[] }, { accessFlags := 26, nameIndex := 176, descriptorIndex := 173, attributes := #[] }, { accessFlags := 8, nameIndex := 344, descriptorIndex := 339, attributes := #[] }, { accessFlags := 8, nameIndex := 338, descriptorIndex := 339, attributes := #[] }, { accessFlags := 4120, nameIndex := 245, descriptorIndex := 246, attributes := #[] }])
  fields := #[{ name := "E", type := .double, accessFlags := 25, slot := 0, constantValue := 0 }, { name := "PI", type := .double, accessFlags := 25, slot := 1, constantValue := 0 }, { name := "TAU", type := .double, accessFlags := 25, slot := 2, constantValue := 0 }, { name := "DEGREES_TO_RADIANS", type := .double, accessFlags := 26, slot := 3, constantValue := 0 }, { name := "RADIANS_TO_DEGREES", type := .double, accessFlags := 26, slot := 4, constantValue := 0 }, { name := "negativeZeroFloatBits", type := .long, accessFlags := 26, slot := 5, constantValue := 0 }, { name := "negativeZeroDoubleBits", type := .long, accessFlags := 26, slot := 6, constantValue := 0 }, { name := "twoToTheDoubleScaleUp", type := .double, accessFlags := 8, slot := 7, constantValue := 0 }, { name := "twoToTheDoubleScaleDown", type := .double, accessFlags := 8, slot := 8, constantValue := 0 }, { name := "$assertionsDisabled", type := .boolean, accessFlags := 4120, slot := 9, constantValue := 0 }]
  methods := #[k5m0, k5m1]
  instanceTypes := #[]
  staticTypes := #[.double, .double, .double, .double, .double, .long, .long, .double, .double, .boolean]
  resolved := Array.replicate 460 none
  statics := none }

def pool6 : Array CpInfo := pool [(2, .class_ 4), (1, u "java/lang/Object"), (0, u "<init>"), (0, u "()V"), (1, .class_ 10), (1, u "java/lang/System"), (0, u "allowSecurityManager"), (0, u "I"), (16, u "cons"), (0, u "Ljava/io/Console;"), (77, .class_ 110), (1, u "java/lang/System$CallersHolder"), (43, u "initialErrStream"), (0, u "Ljava/io/PrintStream;"), (19, u "security"), (0, u "Ljava/lang/SecurityManager;"), (31, .class_ 209), (0, u "java/lang/System$1"), (7, u "props"), (0, u "Ljava/util/Properties;"), (2, u "lineSeparator"), (0, u "Ljava/lang/String;"), (96, .class_ 321), (1, u "java/lang/System$LoggerFinder"), (5, .class_ 328), (0, u "java/lang/System$Logger"), (67, u "err"), (2, u "out"), (91, u "notSupportedJnuEncoding"), (15, u "in"), (17, u "initialIn"), (0, u "Ljava/io/InputStream;"), (35, u "bootLayer"), (0, u "Ljava/lang/ModuleLayer;"), (99, .class_ 664), (0, u "java/lang/System$2"), (9, u "NEVER"), (2, u "MAYBE"), (49, u "arraycopy"), (0, u "(Ljava/lang/Object;ILjava/lang/Object;II)V"), (72, .class_ 802), (0, u "java/lang/System$Logger$Level")] 31

def k6m0 : Method := { name := "<init>", desc := "()V", sig := { parameters := [], returnType := none }, accessFlags := 2, code := none }
def k6m1 : Method := { name := "arraycopy", desc := "(Ljava/lang/Object;ILjava/lang/Object;II)V", sig := { parameters := [(.object "java/lang/Object"), .int, (.object "java/lang/Object"), .int, .int], returnType := none }, accessFlags := 265, code := none }
/-- java/lang/System -/
def k6 : Class := { plain "java/lang/System" (some 0) with
  accessFlags := 49
  interfaces := #[]
  cf := some (fileOf pool6 8 #[.nestMembers #[319, 327, 801, 108, 663, 208]] #[{ accessFlags := 2, nameIndex := 5, descriptorIndex := 6, attributes := #[] }, { accessFlags := 265, nameIndex := 727, descriptorIndex := 728, attributes := #[] }] 49 2 #[] #[{ accessFlags := 25, nameIndex := 507, descriptorIndex := 526, attributes := #[] }, { accessFlags := 25, nameIndex := 399, descriptorIndex := 155, attributes := #[] }, { accessFlags := 25, nameIndex := 396, descriptorIndex := 155, attributes := #[] }, { accessFlags := 10, nameIndex := 525, descriptorIndex := 526, attributes := #[] }, { accessFlags := 26, nameIndex := 674, descriptorIndex := 12, attributes := #[] }, { accessFlags := 26, nameIndex := 677, descriptorIndex := 12, attributes := #[] }, { accessFlags := 10, nameIndex := 11, descriptorIndex := 12, attributes := #[] }, { accessFlags := 74, nameIndex := 175, descriptorIndex := 176, attributes := #[] }, { accessFlags := 10, nameIndex := 491, descriptorIndex := 222, attributes := #[] }, { accessFlags := 74, nameIndex := 29, descriptorIndex := 30, attributes := #[] }, { accessFlags := 74, nameIndex := 154, descriptorIndex := 155, attributes := #[] }, { accessFlags := 10, nameIndex := 217, descriptorIndex := 218, attributes := #[] }, { accessFlags := 10, nameIndex := 221, descriptorIndex := 222, attributes := #[] }, { accessFlags := 8, nameIndex := 562, descriptorIndex := 563, attributes := #[] }])
  fields := #[{ name := "in", type := (.object "java/io/InputStream"), accessFlags := 25, slot := 0, constantValue := 0 }, { name := "out", type := (.object "java/io/PrintStream"), accessFlags := 25, slot := 1, constantValue := 0 }, { name := "err", type := (.object "java/io/PrintStream"), accessFlags := 25, slot := 2, constantValue := 0 }, { name := "initialIn", type := (.object "java/io/InputStream"), accessFlags := 10, slot := 3, constantValue := 0 }, { name := "NEVER", type := .int, accessFlags := 26, slot := 4, constantValue := 0 }, { name := "MAYBE", type := .int, accessFlags := 26, slot := 5, constantValue := 0 }, { name := "allowSecurityManager", type := .int, accessFlags := 10, slot := 6, constantValue := 0 }, { name := "security", type := (.object "java/lang/SecurityManager"), accessFlags := 74, slot := 7, constantValue := 0 }, { name := "notSupportedJnuEncoding", type := (.object "java/lang/String"), accessFlags := 10, slot := 8, constantValue := 0 }, { name := "cons", type := (.object "java/io/Console"), accessFlags := 74, slot := 9, constantValue := 0 }, { name := "initialErrStream", type := (.object "java/io/PrintStream"), accessFlags := 74, slot := 10, constantValue := 0 }, { name := "props", type := (.object "java/util/Properties"), accessFlags := 10, slot := 11, constantValue := 0 }, { name := "lineSeparator", type := (.object "java/lang/String"), accessFlags := 10, slot := 12, constantValue := 0 }, { name := "bootLayer", type := (.object "java/lang/ModuleLayer"), accessFlags := 8, slot := 13, constantValue := 0 }]
  methods := #[k6m0, k6m1]
  instanceTypes := #[]
  staticTypes := #[(.object "java/io/InputStream"), (.object "java/io/PrintStream"), (.object "java/io/PrintStream"), (.object "java/io/InputStream"), .int, .int, .int, (.object "java/lang/SecurityManager"), (.object "java/lang/String"), (.object "java/io/Console"), (.object "java/io/PrintStream"), (.object "java/util/Properties"), (.object "java/lang/String"), (.object "java/lang/ModuleLayer")]
  resolved := Array.replicate 834 none
  statics := none }

def pool7 : Array CpInfo := pool [(1, u "java/lang/Cloneable"), (0, .class_ 1), (0, u "java/lang/Object"), (0, .class_ 3)] 3

/-- java/lang/Cloneable -/
def k7 : Class := { plain "java/lang/Cloneable" (some 0) with
  accessFlags := 1537
  interfaces := #[]
  cf := some (fileOf pool7 2 #[] #[] 1537 4 #[] #[])
  fields := #[]
  methods := #[]
  instanceTypes := #[]
  staticTypes := #[]
  resolved := Array.replicate 8 none
  statics := none }

def pool8 : Array CpInfo := pool [(1, u "java/io/Serializable"), (0, .class_ 1), (0, u "java/lang/Object"), (0, .class_ 3)] 3

/-- java/io/Serializable -/
def k8 : Class := { plain "java/io/Serializable" (some 0) with
  accessFlags := 1537
  interfaces := #[]
  cf := some (fileOf pool8 2 #[] #[] 1537 4 #[] #[])
  fields := #[]
  methods := #[]
  instanceTypes := #[]
  staticTypes := #[]
  resolved := Array.replicate 8 none
  statics := none }

/-- the primitive byte -/
def k9 : Class := { plain "byte" none with kind := .primitive 'B', accessFlags := 0x411 }
/-- [B -/
def k10 : Class := { plain "[B" (some 0) with kind := .array 9 .byte, interfaces := #[7, 8], accessFlags := 1041 }

/-- the primitive int -/
def k11 : Class := { plain "int" none with kind := .primitive 'I', accessFlags := 0x411 }
/-- [I -/
def k12 : Class := { plain "[I" (some 0) with kind := .array 11 .int, interfaces := #[7, 8], accessFlags := 1041 }

def heap : Heap := #[]
def classes : Array Class := #[k0, k1, k2, k3, k4, k5, k6, k7, k8, k9, k10, k11, k12]
def interned : List (Array UInt16 × Addr) := []
def slotsUsed : Nat := 0
def theMethod : MethodId := ⟨1, 3⟩
def args0 : Array Value := #[.long 5, .long 6, .long 7, .long 8, .long 9, .long 10]
def aboutOver (below : List Frame) : State where
  vm := { classes := classes, interned := interned.toArray }
  heap := heap
  slotsUsed := slotsUsed
  threads := #[{ frames := .invoking theMethod args0 :: below }]
def below0 : List Frame := [.native { method := ⟨0, 0⟩, args := #[] }]
def about1 : State := aboutOver below0
def p0 : Program := .bare "" "" ""
def e0 : Env := launch0.env 0 0 0
theorem w_frames : about1.frames = Frame.invoking theMethod args0 :: below0 := rfl
set_option maxRecDepth 65536 in
theorem w_args : argsFit about1.vm theMethod args0 = true := by decide +kernel
set_option maxRecDepth 65536 in
theorem w_heap : heapFits about1 = true := by decide +kernel
set_option maxRecDepth 65536 in
theorem w_runnable : about1.curStatus? = some .runnable := by decide +kernel
set_option maxRecDepth 65536 in
theorem w_alone : about1.alone = true := by decide +kernel
set_option maxRecDepth 65536 in
theorem w_named : about1.methodNamed? x = some theMethod := by decide +kernel
set_option maxRecDepth 65536 in
theorem w_hears : about1.hears theMethod below0 = true := by decide +kernel
set_option maxRecDepth 65536 in
theorem w_ripe : about1.ripe theMethod args0 below0 = true := by decide +kernel
theorem w_running : about1.status = .running := rfl
set_option maxRecDepth 65536 in
theorem w_room : about1.hasRoom e0.platform room_1 = true :=
  launch0.hasRoom_least _ room_1 (by decide +kernel) (by decide +kernel) (by decide +kernel) (by decide +kernel) (by decide +kernel) (by decide +kernel)
theorem allAtoms_all (ts : List Jvm.Cond) (a : Array Jvm.Value) (st : Jvm.State) : (allAtoms ts).before a st = ts.all (fun c => c.before a st) := by
  induction ts with
  | nil => rfl
  | cons c t ih =>
    show (Jvm.Cond.and c (allAtoms t)).before a st = _
    rw [Jvm.Cond.before_and, ih, List.all_cons]
def words1 : List Jvm.Cond := Jvm.Cond.code x code maxLocals ret :: tables_1
/-- a 'code' word, met by the world's own term for the bytes: nothing is compared byte by byte -/
theorem code_word {y : MethodName} {bytes : ByteArray} {mx : Nat} {rt : Option FieldType} {a : Array Value} {s : State} {m : MethodId} {meth : Method} {c : Code} (h1 : s.methodNamed? y = some m) (h2 : s.vm.method? m = some meth) (h3 : meth.code = some c) (h4 : c.code = bytes)
    (h5 : (c.maxLocals == mx && c.exceptionTable.isEmpty && decide (c.maxStack ≤ mostOperands) && decide (meth.sig.returnType = rt) && !meth.locks && decide (parseMethodDescriptor y.desc = some meth.sig)) = true) : (Jvm.Cond.code y bytes mx rt).before a s = true := by
  simp only [Bool.and_eq_true, beq_iff_eq, Bool.not_eq_true', decide_eq_true_eq] at h5
  obtain ⟨⟨⟨⟨⟨g1, g2⟩, g3⟩, g4⟩, g5⟩, g6⟩ := h5
  simp [Cond.before, Cond.holds, Cond.value, h1, h2, h3, h4, g1, g2, g3, g4, g5, g6]
def isCode : Jvm.Cond → Bool
  | .code _ _ _ _ => true
  | _ => false
theorem all_split {L : List Jvm.Cond} {P : Jvm.Cond → Bool} (h1 : L.all (fun c => isCode c || P c) = true) (h2 : ∀ c ∈ L.filter isCode, P c = true) : L.all P = true := by
  refine List.all_eq_true.mpr fun c hc => ?_
  have h := List.all_eq_true.mp h1 c hc
  rcases Bool.eq_false_or_eq_true (isCode c) with hi | hi
  · exact h2 c (List.mem_filter.mpr ⟨hc, hi⟩)
  · simpa [hi] using h
set_option maxRecDepth 65536 in
theorem w_c0 : (Jvm.Cond.code x code maxLocals ret).before args0 about1 = true := code_word (m := ⟨1, 3⟩) (meth := k1m3) (c := k1c3) (by decide +kernel) rfl rfl rfl (by decide +kernel)
set_option maxRecDepth 65536 in
theorem w_c1 : (Jvm.Cond.code ({ cls := "com/example/sealwatch/sealwatch/TokenLeafEntryPinLaw", name := "put", desc := "([BIJ)V" } : Jvm.MethodName) method_2_code (4 : Nat) (Option.none : Option Jvm.ClassFile.FieldType)).before args0 about1 = true := code_word (m := ⟨1, 1⟩) (meth := k1m1) (c := k1c1) (by decide +kernel) rfl rfl rfl (by decide +kernel)
set_option maxRecDepth 65536 in
theorem w_c2 : (Jvm.Cond.code ({ cls := "com/example/sealwatch/sealwatch/Token", name := "leafEntry", desc := "([B[B)[B" } : Jvm.MethodName) prog_114_method_3_code (3 : Nat) (Option.some (Jvm.ClassFile.FieldType.array Jvm.ClassFile.FieldType.byte))).before args0 about1 = true := code_word (m := ⟨3, 0⟩) (meth := k3m0) (c := k3c0) (by decide +kernel) rfl rfl rfl (by decide +kernel)
set_option maxRecDepth 65536 in
theorem w_c3 : (Jvm.Cond.code ({ cls := "java/util/Arrays", name := "copyOf", desc := "([BI)[B" } : Jvm.MethodName) jdk_65_method_121_code (3 : Nat) (Option.some (Jvm.ClassFile.FieldType.array Jvm.ClassFile.FieldType.byte))).before args0 about1 = true := code_word (m := ⟨4, 1⟩) (meth := k4m1) (c := k4c1) (by decide +kernel) rfl rfl rfl (by decide +kernel)
set_option maxRecDepth 65536 in
theorem w_c4 : (Jvm.Cond.code ({ cls := "java/lang/Math", name := "min", desc := "(II)I" } : Jvm.MethodName) jdk_29_method_69_code (2 : Nat) (Option.some Jvm.ClassFile.FieldType.int)).before args0 about1 = true := code_word (m := ⟨5, 1⟩) (meth := k5m1) (c := k5c1) (by decide +kernel) rfl rfl rfl (by decide +kernel)
set_option maxRecDepth 65536 in
theorem w_c5 : (Jvm.Cond.code ({ cls := "com/example/sealwatch/sealwatch/TokenLeafEntryPinLaw", name := "holds", desc := "([BIJ)Z" } : Jvm.MethodName) method_3_code (4 : Nat) (Option.some Jvm.ClassFile.FieldType.boolean)).before args0 about1 = true := code_word (m := ⟨1, 2⟩) (meth := k1m2) (c := k1c2) (by decide +kernel) rfl rfl rfl (by decide +kernel)
def codes1 : List Jvm.Cond := [Jvm.Cond.code x code maxLocals ret, Jvm.Cond.code ({ cls := "com/example/sealwatch/sealwatch/TokenLeafEntryPinLaw", name := "put", desc := "([BIJ)V" } : Jvm.MethodName) method_2_code (4 : Nat) (Option.none : Option Jvm.ClassFile.FieldType), Jvm.Cond.code ({ cls := "com/example/sealwatch/sealwatch/Token", name := "leafEntry", desc := "([B[B)[B" } : Jvm.MethodName) prog_114_method_3_code (3 : Nat) (Option.some (Jvm.ClassFile.FieldType.array Jvm.ClassFile.FieldType.byte)), Jvm.Cond.code ({ cls := "java/util/Arrays", name := "copyOf", desc := "([BI)[B" } : Jvm.MethodName) jdk_65_method_121_code (3 : Nat) (Option.some (Jvm.ClassFile.FieldType.array Jvm.ClassFile.FieldType.byte)), Jvm.Cond.code ({ cls := "java/lang/Math", name := "min", desc := "(II)I" } : Jvm.MethodName) jdk_29_method_69_code (2 : Nat) (Option.some Jvm.ClassFile.FieldType.int), Jvm.Cond.code ({ cls := "com/example/sealwatch/sealwatch/TokenLeafEntryPinLaw", name := "holds", desc := "([BIJ)Z" } : Jvm.MethodName) method_3_code (4 : Nat) (Option.some Jvm.ClassFile.FieldType.boolean)]
set_option maxRecDepth 65536 in
theorem codes_eq : words1.filter isCode = codes1 := rfl
theorem w_codes : ∀ c ∈ words1.filter isCode, c.before args0 about1 = true := by
  rw [codes_eq]
  intro c hc
  simp only [codes1, List.mem_cons, List.not_mem_nil, or_false] at hc
  rcases hc with rfl | rfl | rfl | rfl | rfl | rfl
  · exact w_c0
  · exact w_c1
  · exact w_c2
  · exact w_c3
  · exact w_c4
  · exact w_c5
set_option maxRecDepth 65536 in
theorem w_t1 : (words1.take 24).all (fun c => isCode c || c.before args0 about1) = true := by decide +kernel
set_option maxRecDepth 65536 in
theorem w_t2 : (words1.drop 24).all (fun c => isCode c || c.before args0 about1) = true := by decide +kernel
theorem w_tables : (allAtoms (Jvm.Cond.code x code maxLocals ret :: tables_1)).before args0 about1 = true := by
  rw [allAtoms_all]
  show words1.all (fun c => c.before args0 about1) = true
  refine all_split ?_ w_codes
  rw [← List.take_append_drop 24 words1, List.all_append, w_t1, w_t2]
  rfl
set_option maxRecDepth 65536 in
theorem w_case : (Jvm.Cond.and given_1 narrow_1).before args0 about1 = true := by decide +kernel
theorem w_applies : (headSpec (Jvm.Cond.code x code maxLocals ret :: tables_1) room_1).applies x e0.platform about1 = true :=
  (Spec.applies_iff w_frames).mpr ⟨w_running, w_runnable, w_alone, w_named, w_hears, w_ripe, w_room, w_tables⟩
theorem atStart : AtStart classFile x code maxLocals ret World_1 tables_1 room_1 Calls_1 rest_1 Pre_1 launch0 p0 e0 about1 theMethod args0 below0 :=
  ⟨lists_1, trivial, launch0.admits_env _ _ _, launch0.least_env, fairChoices_fair.cas, fairChoices_fair.clock, w_frames, w_args, w_heap, w_applies, trivial, trivial, w_case⟩
end start1
theorem witness_1 : WitnessClaimed_1 := ⟨start1.p0, start1.e0, start1.about1, start1.theMethod, start1.args0, start1.below0, start1.atStart⟩
end Jvm.Pilot.@@N@@
