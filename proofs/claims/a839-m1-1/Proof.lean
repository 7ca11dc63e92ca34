import JvmDerived
import JvmDerived.Pilot.@@N@@Statement
import JvmDerived.Pilot.@@N@@Code
set_option linter.unusedVariables false
set_option linter.unusedSimpArgs false
namespace Jvm.RoadKit
open Sem ClassFile Op Lib Jvm.Stand Jvm.Free Jvm.LawKit
section New
variable {p : Program} {l : Launch} {e : Env} {R : Room} {s : State} {m : MethodId} {args : Array Value} {below : List Frame} {meth : Method} {c : Code} {T : State} {locs : List Loc} {cells slots : Nat}
theorem retI (X : Stand p l e R s m args below meth c T locs cells slots) (hx : p.tables.exec = Jvm.exec) {pc : Nat} {Ls : Array Slot} {z : Int32} {rest : List Value} (hret : meth.sig.returnType = some .int) (hd : decode c.code pc = .ok (.ireturn, 1)) {fs : List Frame}
    (hl : ∀ (f : JFrame) (acts : List Action), f.method = m → f.locked = none → f.entered = [] → (doReturn e (T.setTop f) acts (some (.int z))).1 = T.setFrames fs) : Steps p.tables e below (T.setTop (mkF m pc Ls (.int z :: rest))) (T.setFrames fs) := by
  have hm' : T.vm.method? m = some meth := X.method'
  have hn : narrow .int (.int z) = .int z := rfl
  show Steps p.tables e below (T.setTop { method := m, pc := pc, locals := Ls, stack := _ :: rest, locked := none }) _
  jvm_step X.here [X.here.top, hx, hd, hm', hret, hn]
  first | (intro acts; rw [hl _ acts rfl rfl rfl]) | rw [hl _ _ rfl rfl rfl]
  exact Steps.refl _
end New
end Jvm.RoadKit
namespace Jvm.Pilot.@@N@@
open Jvm Jvm.ClassFile Sem Op Lib Jvm.Free Jvm.Stand Jvm.LawKit Jvm.RoadKit Bundle Jvm.Pilot.@@N@@.Jvm.D
/-- the run from U ends within this invocation, with P -/
def own_Fin (tb : Tables) (e : Env) (below : List Frame) (P : Outcome → State → Prop) (U : State) : Prop := ∃ s₂ o, Steps tb e below U s₂ ∧ s₂.status = .running ∧ Ended s₂ below o ∧ P o s₂
theorem own_by {tb : Tables} {e : Env} {below : List Frame} {P : Outcome → State → Prop} {U U' : State} (h : ∀ t, Steps tb e below U' t → Steps tb e below U t) (k : own_Fin tb e below P U') : own_Fin tb e below P U := by
  obtain ⟨t, o, h1, h2⟩ := k
  exact ⟨t, o, h _ h1, h2⟩
section Own
variable {p : Program} {l : Launch} {e : Env} {R : Room} {s : State} {m : MethodId} {args : Array Value} {below : List Frame} {meth : Method} {c : Code} {T : State} {locs : List Loc} {cells slots : Nat} {Z : State} {h h' : Heap} {a b : Addr} {z j x v : Int32} {B : Int32 → Int32}
theorem own_end (X : Stand p l e R s m args below meth c T locs cells slots) (hlk : meth.locks = false) {U : State} {v : Option Value} (hv : meth.sig.returnType = none → v = none) {Qv : Option Value → Heap → List Loc → Prop} {C S : Nat} (hC : cells ≤ C) (hS : slots ≤ S) (hq : Qv v T.heap locs)
    (hst : ∀ fs, (∀ (f : JFrame) (acts : List Action), f.method = m → f.locked = none → f.entered = [] → (doReturn e (T.setTop f) acts v).1 = T.setFrames fs) → Steps p.tables e below U (T.setFrames fs)) :
    own_Fin p.tables e below (fun o t => ∃ v L, o = .returned v ∧ Qv v t.heap L ∧ FrameEnd s o t L C S) U := by
  obtain ⟨fs, hr, hrun, hended, hW, hsame⟩ := X.leave (v := v) hv hlk
  exact ⟨_, _, hst fs hr, hrun, hended, _, _, rfl, hq, ⟨_, rfl⟩, hW, hsame.mono hC hS⟩
theorem own_retN (X : Stand p l e R s m args below meth c T locs cells slots) (hx : p.tables.exec = Jvm.exec) {pc : Nat} {Ls : Array Slot} {z : Int32} {t : FieldType} {rest : List Value} (hret : meth.sig.returnType = some t) (hlk : meth.locks = false) (ht : t = .boolean ∨ t = .byte ∨ t = .char ∨ t = .short)
    (hd : decode c.code pc = .ok (.ireturn, 1)) {Qv : Option Value → Heap → List Loc → Prop} {C S : Nat} (hC : cells ≤ C) (hS : slots ≤ S) (hq : Qv (some (.int (nar t z))) T.heap locs) :
    own_Fin p.tables e below (fun o t => ∃ v L, o = .returned v ∧ Qv v t.heap L ∧ FrameEnd s o t L C S) (T.setTop (mkF m pc Ls (.int z :: rest))) :=
  own_end X hlk (fun q => by rw [hret] at q; cases q) hC hS hq fun fs hr => retN X hx hret ht hd hr
theorem own_retI (X : Stand p l e R s m args below meth c T locs cells slots) (hx : p.tables.exec = Jvm.exec) {pc : Nat} {Ls : Array Slot} {z : Int32} {rest : List Value} (hret : meth.sig.returnType = some .int) (hlk : meth.locks = false)
    (hd : decode c.code pc = .ok (.ireturn, 1)) {Qv : Option Value → Heap → List Loc → Prop} {C S : Nat} (hC : cells ≤ C) (hS : slots ≤ S) (hq : Qv (some (.int z)) T.heap locs) :
    own_Fin p.tables e below (fun o t => ∃ v L, o = .returned v ∧ Qv v t.heap L ∧ FrameEnd s o t L C S) (T.setTop (mkF m pc Ls (.int z :: rest))) :=
  own_end X hlk (fun q => by rw [hret] at q; cases q) hC hS hq fun fs hr => retI X hx hret hd hr
theorem own_retJ (X : Stand p l e R s m args below meth c T locs cells slots) (hx : p.tables.exec = Jvm.exec) {pc : Nat} {Ls : Array Slot} {z : Int64} {rest : List Value} (hret : meth.sig.returnType = some .long) (hlk : meth.locks = false)
    (hd : decode c.code pc = .ok (.lreturn, 1)) {Qv : Option Value → Heap → List Loc → Prop} {C S : Nat} (hC : cells ≤ C) (hS : slots ≤ S) (hq : Qv (some (.long z)) T.heap locs) :
    own_Fin p.tables e below (fun o t => ∃ v L, o = .returned v ∧ Qv v t.heap L ∧ FrameEnd s o t L C S) (T.setTop (mkF m pc Ls (.long z :: rest))) :=
  own_end X hlk (fun q => by rw [hret] at q; cases q) hC hS hq fun fs hr => retOut X hx hret rfl (Or.inr (Or.inl ⟨rfl, rfl, z, rfl⟩)) hd hr
theorem own_retA (X : Stand p l e R s m args below meth c T locs cells slots) (hx : p.tables.exec = Jvm.exec) {pc : Nat} {Ls : Array Slot} {w : Value} {t : FieldType} {rest : List Value} (hret : meth.sig.returnType = some t) (hlk : meth.locks = false) (ht : t.isReference = true) (hw : w.isRef = true)
    (hd : decode c.code pc = .ok (.areturn, 1)) {Qv : Option Value → Heap → List Loc → Prop} {C S : Nat} (hC : cells ≤ C) (hS : slots ≤ S) (hq : Qv (some w) T.heap locs) :
    own_Fin p.tables e below (fun o t => ∃ v L, o = .returned v ∧ Qv v t.heap L ∧ FrameEnd s o t L C S) (T.setTop (mkF m pc Ls (w :: rest))) :=
  own_end X hlk (fun q => by rw [hret] at q; cases q) hC hS hq fun fs hr => retOut X hx hret (by cases t <;> simp [FieldType.isReference] at ht <;> (rcases ref_cases hw with rfl | ⟨z, rfl⟩ <;> rfl)) (Or.inr (Or.inr (Or.inr (Or.inr ⟨rfl, ht, hw⟩)))) hd hr
theorem own_retV (X : Stand p l e R s m args below meth c T locs cells slots) (hx : p.tables.exec = Jvm.exec) {pc : Nat} {Ls : Array Slot} (hret : meth.sig.returnType = none) (hlk : meth.locks = false)
    (hd : decode c.code pc = .ok (.return_, 1)) {Qv : Option Value → Heap → List Loc → Prop} {C S : Nat} (hC : cells ≤ C) (hS : slots ≤ S) (hq : Qv none T.heap locs) :
    own_Fin p.tables e below (fun o t => ∃ v L, o = .returned v ∧ Qv v t.heap L ∧ FrameEnd s o t L C S) (T.setTop (mkF m pc Ls [])) :=
  own_end X hlk (fun _ => rfl) hC hS hq fun fs hr => X.returnOut hx hret hd hr
/-- a byte[] of length z whose j-th byte is B j -/
def own_Byt (Z : State) (h : Heap) (a : Addr) (z : Int32) (B : Int32 → Int32) : Prop := ∃ cl : Cell, Arr Z h a cl .byte ∧ cl.slots.size = z.toNatClampNeg ∧ ¬ z < 0 ∧ ∀ j : Int32, ¬ (j < 0 ∨ cl.slots.size ≤ j.toNatClampNeg) → cl.slots[j.toNatClampNeg]? = some (.int (B j)) ∧ fits .byte (.int (B j)) = true
def own_upd (B : Int32 → Int32) (j v : Int32) : Int32 → Int32 := fun k => if k = j then v else B k
theorem own_Byt.lt (F : own_Byt Z h a z B) : a < h.size := by obtain ⟨c, A, -⟩ := F; exact A.lt
theorem own_Byt.ext (F : own_Byt Z h a z B) (E : Ext h h') : own_Byt Z h' a z B := by obtain ⟨c, A, r⟩ := F; exact ⟨c, A.ext E, r⟩
theorem own_Byt.other (F : own_Byt Z h b z B) {sl : Nat} {w : Value} (W : Wr h h' a sl w) (q : b ≠ a) : own_Byt Z h' b z B := by obtain ⟨c, A, r⟩ := F; exact ⟨c, A.other W q, r⟩
theorem own_Byt.keep {ws : List Addr} (F : own_Byt Z h a z B) (K : Keep h h' ws) (q : a ∉ ws) : own_Byt Z h' a z B := by obtain ⟨c, A, r⟩ := F; exact ⟨c, ⟨K.2.1 a c A.1 q, A.2⟩, r⟩
theorem own_Byt.new {k : ClassId} (A : Arr Z h a (newA k .byte z) .byte) (q : ¬ z < 0) : own_Byt Z h a z (fun _ => (0 : Int32)) :=
  ⟨_, A, sz_new _ _ _, q, fun j hj => by rw [sz_new] at hj; exact ⟨get_new hj, show fits .byte (.int 0) = true from by decide⟩⟩
theorem own_bal (X : Stand p l e R s m args below meth c T locs cells slots) (hx : p.tables.exec = Jvm.exec) (hZ : Z.Warmed39 s.vm) (eT : T.heap = h) (F : own_Byt Z h a z B) (h1 : ¬ j < 0) (h2 : j < z)
    {g : JFrame} (hg : g.method = m) {rest : List Value} (hs : g.stack = .int j :: .ref a :: rest) (hd : decode c.code g.pc = .ok (.baload, 1)) :
    ∀ t, Steps p.tables e below (T.setTop { g with pc := g.pc + 1, stack := .int (B j) :: rest }) t → Steps p.tables e below (T.setTop g) t := by
  obtain ⟨cl, A, S, N, H⟩ := F
  have hin := inb_of S ⟨h1, h2⟩
  exact X.baloadBytes hx (j := j) (v := .int (B j)) (by rw [eT]; exact A.1) (State.isArrayOf_alike hZ.alike A.2.1) A.2.2 hin (H j hin).1 hg hs hd
theorem own_len (X : Stand p l e R s m args below meth c T locs cells slots) (hx : p.tables.exec = Jvm.exec) (hZ : Z.Warmed39 s.vm) (eT : T.heap = h) (F : own_Byt Z h a z B)
    {g : JFrame} (hg : g.method = m) {rest : List Value} (hs : g.stack = .ref a :: rest) (hd : decode c.code g.pc = .ok (.arraylength, 1)) :
    ∀ t, Steps p.tables e below (T.setTop { g with pc := g.pc + 1, stack := .int z :: rest }) t → Steps p.tables e below (T.setTop g) t := by
  obtain ⟨cl, A, S, N, H⟩ := F
  intro t k
  refine X.arraylength hx (by rw [eT]; exact A.1) (State.isArrayOf_alike hZ.alike A.2.1) (g := g) hg hs hd _ ?_
  rw [len_of S N]
  exact k
theorem own_bst (X : Stand p l e R s m args below meth c T locs cells slots) (hx : p.tables.exec = Jvm.exec) (hZ : Z.Warmed39 s.vm) (eT : T.heap = h) (F : own_Byt Z h a z B) (h1 : ¬ j < 0) (h2 : j < z)
    {g : JFrame} (hg : g.method = m) {rest : List Value} (hs : g.stack = .int x :: .int j :: .ref a :: rest) (hd : decode c.code g.pc = .ok (.bastore, 1)) :
    ∃ T' h', Stand p l e R s m args below meth c T' (locs ++ [⟨a, j.toNatClampNeg⟩]) cells slots ∧ T'.heap = h' ∧ own_Byt Z h' a z (own_upd B j (x.toInt8.toInt32)) ∧ Wr h h' a j.toNatClampNeg (.int (nar .byte x)) ∧
      ∀ t, Steps p.tables e below (T'.setTop { g with pc := g.pc + 1, stack := rest }) t → Steps p.tables e below (T.setTop g) t := by
  obtain ⟨cl, A, S, N, H⟩ := F
  have hin := inb_of S ⟨h1, h2⟩
  obtain ⟨T', h', X', e', W, st⟩ := stB X hx hZ eT A (j := j) hin hg hs hd
  refine ⟨T', h', X', e', ⟨_, A.same W, by rw [sz_set]; exact S, N, fun k hk => ?_⟩, W, st⟩
  rw [sz_set] at hk
  by_cases q : k = j
  · rw [get_hit hin q, own_upd, if_pos q]; exact ⟨rfl, fits_nar_byte x⟩
  · rw [get_miss h1 (fun y => hk (Or.inl y)) q, own_upd, if_neg q]; exact H k hk
end Own
theorem own_nar_char (x : Int32) : nar .char (x.toUInt32.toUInt16.toUInt32.toInt32) = x.toUInt32.toUInt16.toUInt32.toInt32 := by
  show x.toUInt32.toUInt16.toUInt32.toInt32.toUInt32.toUInt16.toUInt32.toInt32 = _
  have h1 := c_i2c x
  have h2 := c_i2c (x.toUInt32.toUInt16.toUInt32.toInt32)
  apply Int32.toInt_inj.mp
  omega
theorem own_lt {x y : Int32} : x < y ↔ x.toInt < y.toInt := Int32.lt_iff_toInt_lt
theorem own_eq {x y : Int32} : x = y ↔ x.toInt = y.toInt := Int32.toInt_inj.symm
theorem own_ltL {x y : Int64} : x < y ↔ x.toInt < y.toInt := Int64.lt_iff_toInt_lt
theorem own_eqL {x y : Int64} : x = y ↔ x.toInt = y.toInt := Int64.toInt_inj.symm
theorem own_z : (0 : Int32).toInt = 0 := by decide
theorem own_nn {x : Int32} (h : 0 ≤ x.toInt) : ¬ x < 0 := fun q => by have := own_lt.mp q; rw [own_z] at this; omega
theorem own_ltof {x y : Int32} (h : x.toInt < y.toInt) : x < y := own_lt.mpr h
theorem own_ge {x y : Int32} (h : ¬ x < y) : y.toInt ≤ x.toInt := by rw [own_lt] at h; omega
theorem own_add (x k : Int32) (h1 : -2147483648 ≤ x.toInt + k.toInt) (h2 : x.toInt + k.toInt < 2147483648) : (x + k).toInt = x.toInt + k.toInt := by
  have a := c_iadd x k
  have r := rng32 (x + k)
  omega
theorem own_sub (x k : Int32) (h1 : -2147483648 ≤ x.toInt - k.toInt) (h2 : x.toInt - k.toInt < 2147483648) : (x - k).toInt = x.toInt - k.toInt := by
  have a := c_isub x k
  have r := rng32 (x - k)
  omega
theorem own_clamp {x : Int32} {n : Nat} (h : ¬ x < 0) (q : x.toInt ≤ n) : x.toNatClampNeg ≤ n := by
  have := nat_of h
  omega
theorem d1_0 : decode prog_38_method_9_code 0 = .ok (.iload_n 0, 1) := by decide +kernel
theorem d1_1 : decode prog_38_method_9_code 1 = .ok (.bipush 65, 2) := by decide +kernel
theorem d1_3 : decode prog_38_method_9_code 3 = .ok (.if_icmp .lt 9, 3) := by decide +kernel
theorem d1_6 : decode prog_38_method_9_code 6 = .ok (.iload_n 0, 1) := by decide +kernel
theorem d1_7 : decode prog_38_method_9_code 7 = .ok (.bipush 90, 2) := by decide +kernel
theorem d1_9 : decode prog_38_method_9_code 9 = .ok (.if_icmp .le 51, 3) := by decide +kernel
theorem d1_12 : decode prog_38_method_9_code 12 = .ok (.iload_n 0, 1) := by decide +kernel
theorem d1_13 : decode prog_38_method_9_code 13 = .ok (.bipush 97, 2) := by decide +kernel
theorem d1_15 : decode prog_38_method_9_code 15 = .ok (.if_icmp .lt 9, 3) := by decide +kernel
theorem d1_18 : decode prog_38_method_9_code 18 = .ok (.iload_n 0, 1) := by decide +kernel
theorem d1_19 : decode prog_38_method_9_code 19 = .ok (.bipush 122, 2) := by decide +kernel
theorem d1_21 : decode prog_38_method_9_code 21 = .ok (.if_icmp .le 39, 3) := by decide +kernel
theorem d1_24 : decode prog_38_method_9_code 24 = .ok (.iload_n 0, 1) := by decide +kernel
theorem d1_25 : decode prog_38_method_9_code 25 = .ok (.bipush 48, 2) := by decide +kernel
theorem d1_27 : decode prog_38_method_9_code 27 = .ok (.if_icmp .lt 9, 3) := by decide +kernel
theorem d1_30 : decode prog_38_method_9_code 30 = .ok (.iload_n 0, 1) := by decide +kernel
theorem d1_31 : decode prog_38_method_9_code 31 = .ok (.bipush 57, 2) := by decide +kernel
theorem d1_33 : decode prog_38_method_9_code 33 = .ok (.if_icmp .le 27, 3) := by decide +kernel
theorem d1_36 : decode prog_38_method_9_code 36 = .ok (.iload_n 0, 1) := by decide +kernel
theorem d1_37 : decode prog_38_method_9_code 37 = .ok (.bipush 45, 2) := by decide +kernel
theorem d1_39 : decode prog_38_method_9_code 39 = .ok (.if_icmp .eq 21, 3) := by decide +kernel
theorem d1_42 : decode prog_38_method_9_code 42 = .ok (.iload_n 0, 1) := by decide +kernel
theorem d1_43 : decode prog_38_method_9_code 43 = .ok (.bipush 46, 2) := by decide +kernel
theorem d1_45 : decode prog_38_method_9_code 45 = .ok (.if_icmp .eq 15, 3) := by decide +kernel
theorem d1_48 : decode prog_38_method_9_code 48 = .ok (.iload_n 0, 1) := by decide +kernel
theorem d1_49 : decode prog_38_method_9_code 49 = .ok (.bipush 95, 2) := by decide +kernel
theorem d1_51 : decode prog_38_method_9_code 51 = .ok (.if_icmp .eq 9, 3) := by decide +kernel
theorem d1_54 : decode prog_38_method_9_code 54 = .ok (.iload_n 0, 1) := by decide +kernel
theorem d1_55 : decode prog_38_method_9_code 55 = .ok (.bipush 126, 2) := by decide +kernel
theorem d1_57 : decode prog_38_method_9_code 57 = .ok (.if_icmp .ne 7, 3) := by decide +kernel
theorem d1_60 : decode prog_38_method_9_code 60 = .ok (.iconst 1, 1) := by decide +kernel
theorem d1_61 : decode prog_38_method_9_code 61 = .ok (.goto 4, 3) := by decide +kernel
theorem d1_64 : decode prog_38_method_9_code 64 = .ok (.iconst 0, 1) := by decide +kernel
theorem d1_65 : decode prog_38_method_9_code 65 = .ok (.ireturn, 1) := by decide +kernel
theorem pn_com_example_agouti_agouti_s3_PercentEncoding : plainName "com/example/agouti/agouti/s3/PercentEncoding" = true := by first | (simp [plainName, overriddenIn]; done) | decide +kernel
theorem ef_1 (m : MethodId) (p0 : Int32) : entryFrame m #[(.int p0)] 1 = mkF m 0 #[.val (.int p0)] [] := by first | (simp [entryFrame, mkF, argsToLocals, Value.category]; done) | rfl
def f1 (p0 : Int32) : Int32 :=
  if p0 < (65 : Int32) then
    if p0 < (97 : Int32) then
      if p0 < (48 : Int32) then
        if p0 = (45 : Int32) then
          (1 : Int32)
        else
          if p0 = (46 : Int32) then
            (1 : Int32)
          else
            if p0 = (95 : Int32) then
              (1 : Int32)
            else
              if p0 = (126 : Int32) then
                (1 : Int32)
              else
                (0 : Int32)
      else
        if (57 : Int32) < p0 then
          if p0 = (45 : Int32) then
            (1 : Int32)
          else
            if p0 = (46 : Int32) then
              (1 : Int32)
            else
              if p0 = (95 : Int32) then
                (1 : Int32)
              else
                if p0 = (126 : Int32) then
                  (1 : Int32)
                else
                  (0 : Int32)
        else
          (1 : Int32)
    else
      if (122 : Int32) < p0 then
        if p0 < (48 : Int32) then
          if p0 = (45 : Int32) then
            (1 : Int32)
          else
            if p0 = (46 : Int32) then
              (1 : Int32)
            else
              if p0 = (95 : Int32) then
                (1 : Int32)
              else
                if p0 = (126 : Int32) then
                  (1 : Int32)
                else
                  (0 : Int32)
        else
          if (57 : Int32) < p0 then
            if p0 = (45 : Int32) then
              (1 : Int32)
            else
              if p0 = (46 : Int32) then
                (1 : Int32)
              else
                if p0 = (95 : Int32) then
                  (1 : Int32)
                else
                  if p0 = (126 : Int32) then
                    (1 : Int32)
                  else
                    (0 : Int32)
          else
            (1 : Int32)
      else
        (1 : Int32)
  else
    if (90 : Int32) < p0 then
      if p0 < (97 : Int32) then
        if p0 < (48 : Int32) then
          if p0 = (45 : Int32) then
            (1 : Int32)
          else
            if p0 = (46 : Int32) then
              (1 : Int32)
            else
              if p0 = (95 : Int32) then
                (1 : Int32)
              else
                if p0 = (126 : Int32) then
                  (1 : Int32)
                else
                  (0 : Int32)
        else
          if (57 : Int32) < p0 then
            if p0 = (45 : Int32) then
              (1 : Int32)
            else
              if p0 = (46 : Int32) then
                (1 : Int32)
              else
                if p0 = (95 : Int32) then
                  (1 : Int32)
                else
                  if p0 = (126 : Int32) then
                    (1 : Int32)
                  else
                    (0 : Int32)
          else
            (1 : Int32)
      else
        if (122 : Int32) < p0 then
          if p0 < (48 : Int32) then
            if p0 = (45 : Int32) then
              (1 : Int32)
            else
              if p0 = (46 : Int32) then
                (1 : Int32)
              else
                if p0 = (95 : Int32) then
                  (1 : Int32)
                else
                  if p0 = (126 : Int32) then
                    (1 : Int32)
                  else
                    (0 : Int32)
          else
            if (57 : Int32) < p0 then
              if p0 = (45 : Int32) then
                (1 : Int32)
              else
                if p0 = (46 : Int32) then
                  (1 : Int32)
                else
                  if p0 = (95 : Int32) then
                    (1 : Int32)
                  else
                    if p0 = (126 : Int32) then
                      (1 : Int32)
                    else
                      (0 : Int32)
            else
              (1 : Int32)
        else
          (1 : Int32)
    else
      (1 : Int32)
def Q1 (p0 : Int32) (h0 : Heap) (n0 : Nat) (v : Option Value) (h : Heap) (L : List Loc) : Prop := v = some (.int (f1 p0)) ∧ Fr n0 L ∧ h = h0
set_option maxRecDepth 65536 in
set_option maxHeartbeats 40000000 in
theorem rm1 (l : Launch) (Z : State) (a0 : Array Value) (hw : ∀ d ∈ tables_1, d.before a0 Z = true) (ws : List Jvm.Cond) (p0 : Int32)   (h0 : Heap) (n0 : Nat) (Z0 : n0 ≤ h0.size)   :
    MetFree l (⟨"com/example/agouti/agouti/s3/PercentEncoding", "isUnreserved", "(I)Z"⟩ : MethodName) (head1 (Jvm.Cond.code (⟨"com/example/agouti/agouti/s3/PercentEncoding", "isUnreserved", "(I)Z"⟩ : MethodName) prog_38_method_9_code 1 (some .boolean) :: ws) ({ frames := 0, cells := 0, slots := 0, locals := 0 } : Room)) (fun a U => a = #[(.int p0)] ∧ Z.Warmed39 U.vm ∧ U.heap = h0) (fun _ _ _ _ _ => True) (fun _ U o U' => ∃ v L, o = .returned v ∧ Q1 p0 h0 n0 v U'.heap L ∧ FrameEnd U o U' L ({ frames := 0, cells := 0, slots := 0, locals := 0 } : Room).cells ({ frames := 0, cells := 0, slots := 0, locals := 0 } : Room).slots) := by
  refine MetFree.of_bodySF (plainFor_of_name pn_com_example_agouti_agouti_s3_PercentEncoding) hisR ?_
  intro p e s m args below meth c s₁ Bd hml0 hP hK
  obtain ⟨rfl, hZ, hh⟩ := hP
  have hx := Bd.exec
  have hby := Bd.bytes
  have hlk : meth.locks = false := BodyLoose.notSynchronized Bd
  have hml : c.maxLocals = 1 := hml0
  have hown : s.vm.findClass "com/example/agouti/agouti/s3/PercentEncoding" = some m.cls := findClass_of_methodNamed Bd.named
  have hnm := (name_of_methodNamed Bd.named Bd.method).1
  have X0 : Stand p l e ({ frames := 0, cells := 0, slots := 0, locals := 0 } : Room) s m #[(.int p0)] below meth c s₁ [] 0 0 := Stand.of_body Bd
  have e0 : s₁.heap = h0 := by rw [← hh, Bd.state]; rfl
  have N0 := Fr.nil n0
  refine own_by (U' := s₁.setTop (mkF m 0 #[.val (.int p0)] [])) (fun t k => castTop (ef_1 m p0) k) ?_
  refine own_by (fun _ k => XS.iloadN X0.here hx rfl (hb hby d1_0) rfl k) ?_
  show own_Fin p.tables e below _ (s₁.setTop (mkF m 1 #[.val (.int p0)] [(.int p0)]))
  refine own_by (fun _ k => XS.bipush X0.here hx rfl (hb hby d1_1) k) ?_
  show own_Fin p.tables e below _ (s₁.setTop (mkF m 3 #[.val (.int p0)] [(.int (65 : Int32)), (.int p0)]))
  by_cases hc1 : p0 < (65 : Int32)
  · refine own_by (fun _ k => XS.icmpYes X0.here hx rfl (pc0 := 3) (pc' := 12) rfl (hb hby d1_3) rfl (tlt hc1).1 (by decide) (by decide) k) ?_
    show own_Fin p.tables e below _ (s₁.setTop (mkF m 12 #[.val (.int p0)] []))
    refine own_by (fun _ k => XS.iloadN X0.here hx rfl (hb hby d1_12) rfl k) ?_
    show own_Fin p.tables e below _ (s₁.setTop (mkF m 13 #[.val (.int p0)] [(.int p0)]))
    refine own_by (fun _ k => XS.bipush X0.here hx rfl (hb hby d1_13) k) ?_
    show own_Fin p.tables e below _ (s₁.setTop (mkF m 15 #[.val (.int p0)] [(.int (97 : Int32)), (.int p0)]))
    by_cases hc2 : p0 < (97 : Int32)
    · refine own_by (fun _ k => XS.icmpYes X0.here hx rfl (pc0 := 15) (pc' := 24) rfl (hb hby d1_15) rfl (tlt hc2).1 (by decide) (by decide) k) ?_
      show own_Fin p.tables e below _ (s₁.setTop (mkF m 24 #[.val (.int p0)] []))
      refine own_by (fun _ k => XS.iloadN X0.here hx rfl (hb hby d1_24) rfl k) ?_
      show own_Fin p.tables e below _ (s₁.setTop (mkF m 25 #[.val (.int p0)] [(.int p0)]))
      refine own_by (fun _ k => XS.bipush X0.here hx rfl (hb hby d1_25) k) ?_
      show own_Fin p.tables e below _ (s₁.setTop (mkF m 27 #[.val (.int p0)] [(.int (48 : Int32)), (.int p0)]))
      by_cases hc3 : p0 < (48 : Int32)
      · refine own_by (fun _ k => XS.icmpYes X0.here hx rfl (pc0 := 27) (pc' := 36) rfl (hb hby d1_27) rfl (tlt hc3).1 (by decide) (by decide) k) ?_
        show own_Fin p.tables e below _ (s₁.setTop (mkF m 36 #[.val (.int p0)] []))
        refine own_by (fun _ k => XS.iloadN X0.here hx rfl (hb hby d1_36) rfl k) ?_
        show own_Fin p.tables e below _ (s₁.setTop (mkF m 37 #[.val (.int p0)] [(.int p0)]))
        refine own_by (fun _ k => XS.bipush X0.here hx rfl (hb hby d1_37) k) ?_
        show own_Fin p.tables e below _ (s₁.setTop (mkF m 39 #[.val (.int p0)] [(.int (45 : Int32)), (.int p0)]))
        by_cases hc4 : p0 = (45 : Int32)
        · refine own_by (fun _ k => XS.icmpYes X0.here hx rfl (pc0 := 39) (pc' := 60) rfl (hb hby d1_39) rfl (teq hc4).1 (by decide) (by decide) k) ?_
          show own_Fin p.tables e below _ (s₁.setTop (mkF m 60 #[.val (.int p0)] []))
          refine own_by (fun _ k => XS.iconst X0.here hx rfl (hb hby d1_60) k) ?_
          show own_Fin p.tables e below _ (s₁.setTop (mkF m 61 #[.val (.int p0)] [(.int (1 : Int32))]))
          refine own_by (fun _ k => XS.goto X0.here hx rfl (pc0 := 61) (pc' := 65) rfl (hb hby d1_61) (by decide) (by decide) k) ?_
          show own_Fin p.tables e below _ (s₁.setTop (mkF m 65 #[.val (.int p0)] [(.int (1 : Int32))]))
          have ef := (show f1 p0 = (1 : Int32) from by unfold f1; rw [if_pos hc1, if_pos hc2, if_pos hc3, if_pos hc4])
          exact own_retN X0 hx (t := .boolean) Bd.returns hlk (by simp) (hb hby d1_65) (by decide) (by decide) ⟨by rw [ef]; rfl, N0, e0⟩
        · refine own_by (fun _ k => XS.icmpNo X0.here hx rfl (hb hby d1_39) rfl (feq hc4).1 k) ?_
          show own_Fin p.tables e below _ (s₁.setTop (mkF m 42 #[.val (.int p0)] []))
          refine own_by (fun _ k => XS.iloadN X0.here hx rfl (hb hby d1_42) rfl k) ?_
          show own_Fin p.tables e below _ (s₁.setTop (mkF m 43 #[.val (.int p0)] [(.int p0)]))
          refine own_by (fun _ k => XS.bipush X0.here hx rfl (hb hby d1_43) k) ?_
          show own_Fin p.tables e below _ (s₁.setTop (mkF m 45 #[.val (.int p0)] [(.int (46 : Int32)), (.int p0)]))
          by_cases hc5 : p0 = (46 : Int32)
          · refine own_by (fun _ k => XS.icmpYes X0.here hx rfl (pc0 := 45) (pc' := 60) rfl (hb hby d1_45) rfl (teq hc5).1 (by decide) (by decide) k) ?_
            show own_Fin p.tables e below _ (s₁.setTop (mkF m 60 #[.val (.int p0)] []))
            refine own_by (fun _ k => XS.iconst X0.here hx rfl (hb hby d1_60) k) ?_
            show own_Fin p.tables e below _ (s₁.setTop (mkF m 61 #[.val (.int p0)] [(.int (1 : Int32))]))
            refine own_by (fun _ k => XS.goto X0.here hx rfl (pc0 := 61) (pc' := 65) rfl (hb hby d1_61) (by decide) (by decide) k) ?_
            show own_Fin p.tables e below _ (s₁.setTop (mkF m 65 #[.val (.int p0)] [(.int (1 : Int32))]))
            have ef := (show f1 p0 = (1 : Int32) from by unfold f1; rw [if_pos hc1, if_pos hc2, if_pos hc3, if_neg hc4, if_pos hc5])
            exact own_retN X0 hx (t := .boolean) Bd.returns hlk (by simp) (hb hby d1_65) (by decide) (by decide) ⟨by rw [ef]; rfl, N0, e0⟩
          · refine own_by (fun _ k => XS.icmpNo X0.here hx rfl (hb hby d1_45) rfl (feq hc5).1 k) ?_
            show own_Fin p.tables e below _ (s₁.setTop (mkF m 48 #[.val (.int p0)] []))
            refine own_by (fun _ k => XS.iloadN X0.here hx rfl (hb hby d1_48) rfl k) ?_
            show own_Fin p.tables e below _ (s₁.setTop (mkF m 49 #[.val (.int p0)] [(.int p0)]))
            refine own_by (fun _ k => XS.bipush X0.here hx rfl (hb hby d1_49) k) ?_
            show own_Fin p.tables e below _ (s₁.setTop (mkF m 51 #[.val (.int p0)] [(.int (95 : Int32)), (.int p0)]))
            by_cases hc6 : p0 = (95 : Int32)
            · refine own_by (fun _ k => XS.icmpYes X0.here hx rfl (pc0 := 51) (pc' := 60) rfl (hb hby d1_51) rfl (teq hc6).1 (by decide) (by decide) k) ?_
              show own_Fin p.tables e below _ (s₁.setTop (mkF m 60 #[.val (.int p0)] []))
              refine own_by (fun _ k => XS.iconst X0.here hx rfl (hb hby d1_60) k) ?_
              show own_Fin p.tables e below _ (s₁.setTop (mkF m 61 #[.val (.int p0)] [(.int (1 : Int32))]))
              refine own_by (fun _ k => XS.goto X0.here hx rfl (pc0 := 61) (pc' := 65) rfl (hb hby d1_61) (by decide) (by decide) k) ?_
              show own_Fin p.tables e below _ (s₁.setTop (mkF m 65 #[.val (.int p0)] [(.int (1 : Int32))]))
              have ef := (show f1 p0 = (1 : Int32) from by unfold f1; rw [if_pos hc1, if_pos hc2, if_pos hc3, if_neg hc4, if_neg hc5, if_pos hc6])
              exact own_retN X0 hx (t := .boolean) Bd.returns hlk (by simp) (hb hby d1_65) (by decide) (by decide) ⟨by rw [ef]; rfl, N0, e0⟩
            · refine own_by (fun _ k => XS.icmpNo X0.here hx rfl (hb hby d1_51) rfl (feq hc6).1 k) ?_
              show own_Fin p.tables e below _ (s₁.setTop (mkF m 54 #[.val (.int p0)] []))
              refine own_by (fun _ k => XS.iloadN X0.here hx rfl (hb hby d1_54) rfl k) ?_
              show own_Fin p.tables e below _ (s₁.setTop (mkF m 55 #[.val (.int p0)] [(.int p0)]))
              refine own_by (fun _ k => XS.bipush X0.here hx rfl (hb hby d1_55) k) ?_
              show own_Fin p.tables e below _ (s₁.setTop (mkF m 57 #[.val (.int p0)] [(.int (126 : Int32)), (.int p0)]))
              by_cases hc7 : p0 = (126 : Int32)
              · refine own_by (fun _ k => XS.icmpNo X0.here hx rfl (hb hby d1_57) rfl (teq hc7).2 k) ?_
                show own_Fin p.tables e below _ (s₁.setTop (mkF m 60 #[.val (.int p0)] []))
                refine own_by (fun _ k => XS.iconst X0.here hx rfl (hb hby d1_60) k) ?_
                show own_Fin p.tables e below _ (s₁.setTop (mkF m 61 #[.val (.int p0)] [(.int (1 : Int32))]))
                refine own_by (fun _ k => XS.goto X0.here hx rfl (pc0 := 61) (pc' := 65) rfl (hb hby d1_61) (by decide) (by decide) k) ?_
                show own_Fin p.tables e below _ (s₁.setTop (mkF m 65 #[.val (.int p0)] [(.int (1 : Int32))]))
                have ef := (show f1 p0 = (1 : Int32) from by unfold f1; rw [if_pos hc1, if_pos hc2, if_pos hc3, if_neg hc4, if_neg hc5, if_neg hc6, if_pos hc7])
                exact own_retN X0 hx (t := .boolean) Bd.returns hlk (by simp) (hb hby d1_65) (by decide) (by decide) ⟨by rw [ef]; rfl, N0, e0⟩
              · refine own_by (fun _ k => XS.icmpYes X0.here hx rfl (pc0 := 57) (pc' := 64) rfl (hb hby d1_57) rfl (feq hc7).2 (by decide) (by decide) k) ?_
                show own_Fin p.tables e below _ (s₁.setTop (mkF m 64 #[.val (.int p0)] []))
                refine own_by (fun _ k => XS.iconst X0.here hx rfl (hb hby d1_64) k) ?_
                show own_Fin p.tables e below _ (s₁.setTop (mkF m 65 #[.val (.int p0)] [(.int (0 : Int32))]))
                have ef := (show f1 p0 = (0 : Int32) from by unfold f1; rw [if_pos hc1, if_pos hc2, if_pos hc3, if_neg hc4, if_neg hc5, if_neg hc6, if_neg hc7])
                exact own_retN X0 hx (t := .boolean) Bd.returns hlk (by simp) (hb hby d1_65) (by decide) (by decide) ⟨by rw [ef]; rfl, N0, e0⟩
      · refine own_by (fun _ k => XS.icmpNo X0.here hx rfl (hb hby d1_27) rfl (flt hc3).1 k) ?_
        show own_Fin p.tables e below _ (s₁.setTop (mkF m 30 #[.val (.int p0)] []))
        refine own_by (fun _ k => XS.iloadN X0.here hx rfl (hb hby d1_30) rfl k) ?_
        show own_Fin p.tables e below _ (s₁.setTop (mkF m 31 #[.val (.int p0)] [(.int p0)]))
        refine own_by (fun _ k => XS.bipush X0.here hx rfl (hb hby d1_31) k) ?_
        show own_Fin p.tables e below _ (s₁.setTop (mkF m 33 #[.val (.int p0)] [(.int (57 : Int32)), (.int p0)]))
        by_cases hc8 : (57 : Int32) < p0
        · refine own_by (fun _ k => XS.icmpNo X0.here hx rfl (hb hby d1_33) rfl (tlt hc8).2.2.2 k) ?_
          show own_Fin p.tables e below _ (s₁.setTop (mkF m 36 #[.val (.int p0)] []))
          refine own_by (fun _ k => XS.iloadN X0.here hx rfl (hb hby d1_36) rfl k) ?_
          show own_Fin p.tables e below _ (s₁.setTop (mkF m 37 #[.val (.int p0)] [(.int p0)]))
          refine own_by (fun _ k => XS.bipush X0.here hx rfl (hb hby d1_37) k) ?_
          show own_Fin p.tables e below _ (s₁.setTop (mkF m 39 #[.val (.int p0)] [(.int (45 : Int32)), (.int p0)]))
          by_cases hc9 : p0 = (45 : Int32)
          · refine own_by (fun _ k => XS.icmpYes X0.here hx rfl (pc0 := 39) (pc' := 60) rfl (hb hby d1_39) rfl (teq hc9).1 (by decide) (by decide) k) ?_
            show own_Fin p.tables e below _ (s₁.setTop (mkF m 60 #[.val (.int p0)] []))
            refine own_by (fun _ k => XS.iconst X0.here hx rfl (hb hby d1_60) k) ?_
            show own_Fin p.tables e below _ (s₁.setTop (mkF m 61 #[.val (.int p0)] [(.int (1 : Int32))]))
            refine own_by (fun _ k => XS.goto X0.here hx rfl (pc0 := 61) (pc' := 65) rfl (hb hby d1_61) (by decide) (by decide) k) ?_
            show own_Fin p.tables e below _ (s₁.setTop (mkF m 65 #[.val (.int p0)] [(.int (1 : Int32))]))
            have ef := (show f1 p0 = (1 : Int32) from by unfold f1; rw [if_pos hc1, if_pos hc2, if_neg hc3, if_pos hc8, if_pos hc9])
            exact own_retN X0 hx (t := .boolean) Bd.returns hlk (by simp) (hb hby d1_65) (by decide) (by decide) ⟨by rw [ef]; rfl, N0, e0⟩
          · refine own_by (fun _ k => XS.icmpNo X0.here hx rfl (hb hby d1_39) rfl (feq hc9).1 k) ?_
            show own_Fin p.tables e below _ (s₁.setTop (mkF m 42 #[.val (.int p0)] []))
            refine own_by (fun _ k => XS.iloadN X0.here hx rfl (hb hby d1_42) rfl k) ?_
            show own_Fin p.tables e below _ (s₁.setTop (mkF m 43 #[.val (.int p0)] [(.int p0)]))
            refine own_by (fun _ k => XS.bipush X0.here hx rfl (hb hby d1_43) k) ?_
            show own_Fin p.tables e below _ (s₁.setTop (mkF m 45 #[.val (.int p0)] [(.int (46 : Int32)), (.int p0)]))
            by_cases hc10 : p0 = (46 : Int32)
            · refine own_by (fun _ k => XS.icmpYes X0.here hx rfl (pc0 := 45) (pc' := 60) rfl (hb hby d1_45) rfl (teq hc10).1 (by decide) (by decide) k) ?_
              show own_Fin p.tables e below _ (s₁.setTop (mkF m 60 #[.val (.int p0)] []))
              refine own_by (fun _ k => XS.iconst X0.here hx rfl (hb hby d1_60) k) ?_
              show own_Fin p.tables e below _ (s₁.setTop (mkF m 61 #[.val (.int p0)] [(.int (1 : Int32))]))
              refine own_by (fun _ k => XS.goto X0.here hx rfl (pc0 := 61) (pc' := 65) rfl (hb hby d1_61) (by decide) (by decide) k) ?_
              show own_Fin p.tables e below _ (s₁.setTop (mkF m 65 #[.val (.int p0)] [(.int (1 : Int32))]))
              have ef := (show f1 p0 = (1 : Int32) from by unfold f1; rw [if_pos hc1, if_pos hc2, if_neg hc3, if_pos hc8, if_neg hc9, if_pos hc10])
              exact own_retN X0 hx (t := .boolean) Bd.returns hlk (by simp) (hb hby d1_65) (by decide) (by decide) ⟨by rw [ef]; rfl, N0, e0⟩
            · refine own_by (fun _ k => XS.icmpNo X0.here hx rfl (hb hby d1_45) rfl (feq hc10).1 k) ?_
              show own_Fin p.tables e below _ (s₁.setTop (mkF m 48 #[.val (.int p0)] []))
              refine own_by (fun _ k => XS.iloadN X0.here hx rfl (hb hby d1_48) rfl k) ?_
              show own_Fin p.tables e below _ (s₁.setTop (mkF m 49 #[.val (.int p0)] [(.int p0)]))
              refine own_by (fun _ k => XS.bipush X0.here hx rfl (hb hby d1_49) k) ?_
              show own_Fin p.tables e below _ (s₁.setTop (mkF m 51 #[.val (.int p0)] [(.int (95 : Int32)), (.int p0)]))
              by_cases hc11 : p0 = (95 : Int32)
              · refine own_by (fun _ k => XS.icmpYes X0.here hx rfl (pc0 := 51) (pc' := 60) rfl (hb hby d1_51) rfl (teq hc11).1 (by decide) (by decide) k) ?_
                show own_Fin p.tables e below _ (s₁.setTop (mkF m 60 #[.val (.int p0)] []))
                refine own_by (fun _ k => XS.iconst X0.here hx rfl (hb hby d1_60) k) ?_
                show own_Fin p.tables e below _ (s₁.setTop (mkF m 61 #[.val (.int p0)] [(.int (1 : Int32))]))
                refine own_by (fun _ k => XS.goto X0.here hx rfl (pc0 := 61) (pc' := 65) rfl (hb hby d1_61) (by decide) (by decide) k) ?_
                show own_Fin p.tables e below _ (s₁.setTop (mkF m 65 #[.val (.int p0)] [(.int (1 : Int32))]))
                have ef := (show f1 p0 = (1 : Int32) from by unfold f1; rw [if_pos hc1, if_pos hc2, if_neg hc3, if_pos hc8, if_neg hc9, if_neg hc10, if_pos hc11])
                exact own_retN X0 hx (t := .boolean) Bd.returns hlk (by simp) (hb hby d1_65) (by decide) (by decide) ⟨by rw [ef]; rfl, N0, e0⟩
              · refine own_by (fun _ k => XS.icmpNo X0.here hx rfl (hb hby d1_51) rfl (feq hc11).1 k) ?_
                show own_Fin p.tables e below _ (s₁.setTop (mkF m 54 #[.val (.int p0)] []))
                refine own_by (fun _ k => XS.iloadN X0.here hx rfl (hb hby d1_54) rfl k) ?_
                show own_Fin p.tables e below _ (s₁.setTop (mkF m 55 #[.val (.int p0)] [(.int p0)]))
                refine own_by (fun _ k => XS.bipush X0.here hx rfl (hb hby d1_55) k) ?_
                show own_Fin p.tables e below _ (s₁.setTop (mkF m 57 #[.val (.int p0)] [(.int (126 : Int32)), (.int p0)]))
                by_cases hc12 : p0 = (126 : Int32)
                · refine own_by (fun _ k => XS.icmpNo X0.here hx rfl (hb hby d1_57) rfl (teq hc12).2 k) ?_
                  show own_Fin p.tables e below _ (s₁.setTop (mkF m 60 #[.val (.int p0)] []))
                  refine own_by (fun _ k => XS.iconst X0.here hx rfl (hb hby d1_60) k) ?_
                  show own_Fin p.tables e below _ (s₁.setTop (mkF m 61 #[.val (.int p0)] [(.int (1 : Int32))]))
                  refine own_by (fun _ k => XS.goto X0.here hx rfl (pc0 := 61) (pc' := 65) rfl (hb hby d1_61) (by decide) (by decide) k) ?_
                  show own_Fin p.tables e below _ (s₁.setTop (mkF m 65 #[.val (.int p0)] [(.int (1 : Int32))]))
                  have ef := (show f1 p0 = (1 : Int32) from by unfold f1; rw [if_pos hc1, if_pos hc2, if_neg hc3, if_pos hc8, if_neg hc9, if_neg hc10, if_neg hc11, if_pos hc12])
                  exact own_retN X0 hx (t := .boolean) Bd.returns hlk (by simp) (hb hby d1_65) (by decide) (by decide) ⟨by rw [ef]; rfl, N0, e0⟩
                · refine own_by (fun _ k => XS.icmpYes X0.here hx rfl (pc0 := 57) (pc' := 64) rfl (hb hby d1_57) rfl (feq hc12).2 (by decide) (by decide) k) ?_
                  show own_Fin p.tables e below _ (s₁.setTop (mkF m 64 #[.val (.int p0)] []))
                  refine own_by (fun _ k => XS.iconst X0.here hx rfl (hb hby d1_64) k) ?_
                  show own_Fin p.tables e below _ (s₁.setTop (mkF m 65 #[.val (.int p0)] [(.int (0 : Int32))]))
                  have ef := (show f1 p0 = (0 : Int32) from by unfold f1; rw [if_pos hc1, if_pos hc2, if_neg hc3, if_pos hc8, if_neg hc9, if_neg hc10, if_neg hc11, if_neg hc12])
                  exact own_retN X0 hx (t := .boolean) Bd.returns hlk (by simp) (hb hby d1_65) (by decide) (by decide) ⟨by rw [ef]; rfl, N0, e0⟩
        · refine own_by (fun _ k => XS.icmpYes X0.here hx rfl (pc0 := 33) (pc' := 60) rfl (hb hby d1_33) rfl (flt hc8).2.2.2 (by decide) (by decide) k) ?_
          show own_Fin p.tables e below _ (s₁.setTop (mkF m 60 #[.val (.int p0)] []))
          refine own_by (fun _ k => XS.iconst X0.here hx rfl (hb hby d1_60) k) ?_
          show own_Fin p.tables e below _ (s₁.setTop (mkF m 61 #[.val (.int p0)] [(.int (1 : Int32))]))
          refine own_by (fun _ k => XS.goto X0.here hx rfl (pc0 := 61) (pc' := 65) rfl (hb hby d1_61) (by decide) (by decide) k) ?_
          show own_Fin p.tables e below _ (s₁.setTop (mkF m 65 #[.val (.int p0)] [(.int (1 : Int32))]))
          have ef := (show f1 p0 = (1 : Int32) from by unfold f1; rw [if_pos hc1, if_pos hc2, if_neg hc3, if_neg hc8])
          exact own_retN X0 hx (t := .boolean) Bd.returns hlk (by simp) (hb hby d1_65) (by decide) (by decide) ⟨by rw [ef]; rfl, N0, e0⟩
    · refine own_by (fun _ k => XS.icmpNo X0.here hx rfl (hb hby d1_15) rfl (flt hc2).1 k) ?_
      show own_Fin p.tables e below _ (s₁.setTop (mkF m 18 #[.val (.int p0)] []))
      refine own_by (fun _ k => XS.iloadN X0.here hx rfl (hb hby d1_18) rfl k) ?_
      show own_Fin p.tables e below _ (s₁.setTop (mkF m 19 #[.val (.int p0)] [(.int p0)]))
      refine own_by (fun _ k => XS.bipush X0.here hx rfl (hb hby d1_19) k) ?_
      show own_Fin p.tables e below _ (s₁.setTop (mkF m 21 #[.val (.int p0)] [(.int (122 : Int32)), (.int p0)]))
      by_cases hc13 : (122 : Int32) < p0
      · refine own_by (fun _ k => XS.icmpNo X0.here hx rfl (hb hby d1_21) rfl (tlt hc13).2.2.2 k) ?_
        show own_Fin p.tables e below _ (s₁.setTop (mkF m 24 #[.val (.int p0)] []))
        refine own_by (fun _ k => XS.iloadN X0.here hx rfl (hb hby d1_24) rfl k) ?_
        show own_Fin p.tables e below _ (s₁.setTop (mkF m 25 #[.val (.int p0)] [(.int p0)]))
        refine own_by (fun _ k => XS.bipush X0.here hx rfl (hb hby d1_25) k) ?_
        show own_Fin p.tables e below _ (s₁.setTop (mkF m 27 #[.val (.int p0)] [(.int (48 : Int32)), (.int p0)]))
        by_cases hc14 : p0 < (48 : Int32)
        · refine own_by (fun _ k => XS.icmpYes X0.here hx rfl (pc0 := 27) (pc' := 36) rfl (hb hby d1_27) rfl (tlt hc14).1 (by decide) (by decide) k) ?_
          show own_Fin p.tables e below _ (s₁.setTop (mkF m 36 #[.val (.int p0)] []))
          refine own_by (fun _ k => XS.iloadN X0.here hx rfl (hb hby d1_36) rfl k) ?_
          show own_Fin p.tables e below _ (s₁.setTop (mkF m 37 #[.val (.int p0)] [(.int p0)]))
          refine own_by (fun _ k => XS.bipush X0.here hx rfl (hb hby d1_37) k) ?_
          show own_Fin p.tables e below _ (s₁.setTop (mkF m 39 #[.val (.int p0)] [(.int (45 : Int32)), (.int p0)]))
          by_cases hc15 : p0 = (45 : Int32)
          · refine own_by (fun _ k => XS.icmpYes X0.here hx rfl (pc0 := 39) (pc' := 60) rfl (hb hby d1_39) rfl (teq hc15).1 (by decide) (by decide) k) ?_
            show own_Fin p.tables e below _ (s₁.setTop (mkF m 60 #[.val (.int p0)] []))
            refine own_by (fun _ k => XS.iconst X0.here hx rfl (hb hby d1_60) k) ?_
            show own_Fin p.tables e below _ (s₁.setTop (mkF m 61 #[.val (.int p0)] [(.int (1 : Int32))]))
            refine own_by (fun _ k => XS.goto X0.here hx rfl (pc0 := 61) (pc' := 65) rfl (hb hby d1_61) (by decide) (by decide) k) ?_
            show own_Fin p.tables e below _ (s₁.setTop (mkF m 65 #[.val (.int p0)] [(.int (1 : Int32))]))
            have ef := (show f1 p0 = (1 : Int32) from by unfold f1; rw [if_pos hc1, if_neg hc2, if_pos hc13, if_pos hc14, if_pos hc15])
            exact own_retN X0 hx (t := .boolean) Bd.returns hlk (by simp) (hb hby d1_65) (by decide) (by decide) ⟨by rw [ef]; rfl, N0, e0⟩
          · refine own_by (fun _ k => XS.icmpNo X0.here hx rfl (hb hby d1_39) rfl (feq hc15).1 k) ?_
            show own_Fin p.tables e below _ (s₁.setTop (mkF m 42 #[.val (.int p0)] []))
            refine own_by (fun _ k => XS.iloadN X0.here hx rfl (hb hby d1_42) rfl k) ?_
            show own_Fin p.tables e below _ (s₁.setTop (mkF m 43 #[.val (.int p0)] [(.int p0)]))
            refine own_by (fun _ k => XS.bipush X0.here hx rfl (hb hby d1_43) k) ?_
            show own_Fin p.tables e below _ (s₁.setTop (mkF m 45 #[.val (.int p0)] [(.int (46 : Int32)), (.int p0)]))
            by_cases hc16 : p0 = (46 : Int32)
            · refine own_by (fun _ k => XS.icmpYes X0.here hx rfl (pc0 := 45) (pc' := 60) rfl (hb hby d1_45) rfl (teq hc16).1 (by decide) (by decide) k) ?_
              show own_Fin p.tables e below _ (s₁.setTop (mkF m 60 #[.val (.int p0)] []))
              refine own_by (fun _ k => XS.iconst X0.here hx rfl (hb hby d1_60) k) ?_
              show own_Fin p.tables e below _ (s₁.setTop (mkF m 61 #[.val (.int p0)] [(.int (1 : Int32))]))
              refine own_by (fun _ k => XS.goto X0.here hx rfl (pc0 := 61) (pc' := 65) rfl (hb hby d1_61) (by decide) (by decide) k) ?_
              show own_Fin p.tables e below _ (s₁.setTop (mkF m 65 #[.val (.int p0)] [(.int (1 : Int32))]))
              have ef := (show f1 p0 = (1 : Int32) from by unfold f1; rw [if_pos hc1, if_neg hc2, if_pos hc13, if_pos hc14, if_neg hc15, if_pos hc16])
              exact own_retN X0 hx (t := .boolean) Bd.returns hlk (by simp) (hb hby d1_65) (by decide) (by decide) ⟨by rw [ef]; rfl, N0, e0⟩
            · refine own_by (fun _ k => XS.icmpNo X0.here hx rfl (hb hby d1_45) rfl (feq hc16).1 k) ?_
              show own_Fin p.tables e below _ (s₁.setTop (mkF m 48 #[.val (.int p0)] []))
              refine own_by (fun _ k => XS.iloadN X0.here hx rfl (hb hby d1_48) rfl k) ?_
              show own_Fin p.tables e below _ (s₁.setTop (mkF m 49 #[.val (.int p0)] [(.int p0)]))
              refine own_by (fun _ k => XS.bipush X0.here hx rfl (hb hby d1_49) k) ?_
              show own_Fin p.tables e below _ (s₁.setTop (mkF m 51 #[.val (.int p0)] [(.int (95 : Int32)), (.int p0)]))
              by_cases hc17 : p0 = (95 : Int32)
              · refine own_by (fun _ k => XS.icmpYes X0.here hx rfl (pc0 := 51) (pc' := 60) rfl (hb hby d1_51) rfl (teq hc17).1 (by decide) (by decide) k) ?_
                show own_Fin p.tables e below _ (s₁.setTop (mkF m 60 #[.val (.int p0)] []))
                refine own_by (fun _ k => XS.iconst X0.here hx rfl (hb hby d1_60) k) ?_
                show own_Fin p.tables e below _ (s₁.setTop (mkF m 61 #[.val (.int p0)] [(.int (1 : Int32))]))
                refine own_by (fun _ k => XS.goto X0.here hx rfl (pc0 := 61) (pc' := 65) rfl (hb hby d1_61) (by decide) (by decide) k) ?_
                show own_Fin p.tables e below _ (s₁.setTop (mkF m 65 #[.val (.int p0)] [(.int (1 : Int32))]))
                have ef := (show f1 p0 = (1 : Int32) from by unfold f1; rw [if_pos hc1, if_neg hc2, if_pos hc13, if_pos hc14, if_neg hc15, if_neg hc16, if_pos hc17])
                exact own_retN X0 hx (t := .boolean) Bd.returns hlk (by simp) (hb hby d1_65) (by decide) (by decide) ⟨by rw [ef]; rfl, N0, e0⟩
              · refine own_by (fun _ k => XS.icmpNo X0.here hx rfl (hb hby d1_51) rfl (feq hc17).1 k) ?_
                show own_Fin p.tables e below _ (s₁.setTop (mkF m 54 #[.val (.int p0)] []))
                refine own_by (fun _ k => XS.iloadN X0.here hx rfl (hb hby d1_54) rfl k) ?_
                show own_Fin p.tables e below _ (s₁.setTop (mkF m 55 #[.val (.int p0)] [(.int p0)]))
                refine own_by (fun _ k => XS.bipush X0.here hx rfl (hb hby d1_55) k) ?_
                show own_Fin p.tables e below _ (s₁.setTop (mkF m 57 #[.val (.int p0)] [(.int (126 : Int32)), (.int p0)]))
                by_cases hc18 : p0 = (126 : Int32)
                · refine own_by (fun _ k => XS.icmpNo X0.here hx rfl (hb hby d1_57) rfl (teq hc18).2 k) ?_
                  show own_Fin p.tables e below _ (s₁.setTop (mkF m 60 #[.val (.int p0)] []))
                  refine own_by (fun _ k => XS.iconst X0.here hx rfl (hb hby d1_60) k) ?_
                  show own_Fin p.tables e below _ (s₁.setTop (mkF m 61 #[.val (.int p0)] [(.int (1 : Int32))]))
                  refine own_by (fun _ k => XS.goto X0.here hx rfl (pc0 := 61) (pc' := 65) rfl (hb hby d1_61) (by decide) (by decide) k) ?_
                  show own_Fin p.tables e below _ (s₁.setTop (mkF m 65 #[.val (.int p0)] [(.int (1 : Int32))]))
                  have ef := (show f1 p0 = (1 : Int32) from by unfold f1; rw [if_pos hc1, if_neg hc2, if_pos hc13, if_pos hc14, if_neg hc15, if_neg hc16, if_neg hc17, if_pos hc18])
                  exact own_retN X0 hx (t := .boolean) Bd.returns hlk (by simp) (hb hby d1_65) (by decide) (by decide) ⟨by rw [ef]; rfl, N0, e0⟩
                · refine own_by (fun _ k => XS.icmpYes X0.here hx rfl (pc0 := 57) (pc' := 64) rfl (hb hby d1_57) rfl (feq hc18).2 (by decide) (by decide) k) ?_
                  show own_Fin p.tables e below _ (s₁.setTop (mkF m 64 #[.val (.int p0)] []))
                  refine own_by (fun _ k => XS.iconst X0.here hx rfl (hb hby d1_64) k) ?_
                  show own_Fin p.tables e below _ (s₁.setTop (mkF m 65 #[.val (.int p0)] [(.int (0 : Int32))]))
                  have ef := (show f1 p0 = (0 : Int32) from by unfold f1; rw [if_pos hc1, if_neg hc2, if_pos hc13, if_pos hc14, if_neg hc15, if_neg hc16, if_neg hc17, if_neg hc18])
                  exact own_retN X0 hx (t := .boolean) Bd.returns hlk (by simp) (hb hby d1_65) (by decide) (by decide) ⟨by rw [ef]; rfl, N0, e0⟩
        · refine own_by (fun _ k => XS.icmpNo X0.here hx rfl (hb hby d1_27) rfl (flt hc14).1 k) ?_
          show own_Fin p.tables e below _ (s₁.setTop (mkF m 30 #[.val (.int p0)] []))
          refine own_by (fun _ k => XS.iloadN X0.here hx rfl (hb hby d1_30) rfl k) ?_
          show own_Fin p.tables e below _ (s₁.setTop (mkF m 31 #[.val (.int p0)] [(.int p0)]))
          refine own_by (fun _ k => XS.bipush X0.here hx rfl (hb hby d1_31) k) ?_
          show own_Fin p.tables e below _ (s₁.setTop (mkF m 33 #[.val (.int p0)] [(.int (57 : Int32)), (.int p0)]))
          by_cases hc19 : (57 : Int32) < p0
          · refine own_by (fun _ k => XS.icmpNo X0.here hx rfl (hb hby d1_33) rfl (tlt hc19).2.2.2 k) ?_
            show own_Fin p.tables e below _ (s₁.setTop (mkF m 36 #[.val (.int p0)] []))
            refine own_by (fun _ k => XS.iloadN X0.here hx rfl (hb hby d1_36) rfl k) ?_
            show own_Fin p.tables e below _ (s₁.setTop (mkF m 37 #[.val (.int p0)] [(.int p0)]))
            refine own_by (fun _ k => XS.bipush X0.here hx rfl (hb hby d1_37) k) ?_
            show own_Fin p.tables e below _ (s₁.setTop (mkF m 39 #[.val (.int p0)] [(.int (45 : Int32)), (.int p0)]))
            by_cases hc20 : p0 = (45 : Int32)
            · refine own_by (fun _ k => XS.icmpYes X0.here hx rfl (pc0 := 39) (pc' := 60) rfl (hb hby d1_39) rfl (teq hc20).1 (by decide) (by decide) k) ?_
              show own_Fin p.tables e below _ (s₁.setTop (mkF m 60 #[.val (.int p0)] []))
              refine own_by (fun _ k => XS.iconst X0.here hx rfl (hb hby d1_60) k) ?_
              show own_Fin p.tables e below _ (s₁.setTop (mkF m 61 #[.val (.int p0)] [(.int (1 : Int32))]))
              refine own_by (fun _ k => XS.goto X0.here hx rfl (pc0 := 61) (pc' := 65) rfl (hb hby d1_61) (by decide) (by decide) k) ?_
              show own_Fin p.tables e below _ (s₁.setTop (mkF m 65 #[.val (.int p0)] [(.int (1 : Int32))]))
              have ef := (show f1 p0 = (1 : Int32) from by unfold f1; rw [if_pos hc1, if_neg hc2, if_pos hc13, if_neg hc14, if_pos hc19, if_pos hc20])
              exact own_retN X0 hx (t := .boolean) Bd.returns hlk (by simp) (hb hby d1_65) (by decide) (by decide) ⟨by rw [ef]; rfl, N0, e0⟩
            · refine own_by (fun _ k => XS.icmpNo X0.here hx rfl (hb hby d1_39) rfl (feq hc20).1 k) ?_
              show own_Fin p.tables e below _ (s₁.setTop (mkF m 42 #[.val (.int p0)] []))
              refine own_by (fun _ k => XS.iloadN X0.here hx rfl (hb hby d1_42) rfl k) ?_
              show own_Fin p.tables e below _ (s₁.setTop (mkF m 43 #[.val (.int p0)] [(.int p0)]))
              refine own_by (fun _ k => XS.bipush X0.here hx rfl (hb hby d1_43) k) ?_
              show own_Fin p.tables e below _ (s₁.setTop (mkF m 45 #[.val (.int p0)] [(.int (46 : Int32)), (.int p0)]))
              by_cases hc21 : p0 = (46 : Int32)
              · refine own_by (fun _ k => XS.icmpYes X0.here hx rfl (pc0 := 45) (pc' := 60) rfl (hb hby d1_45) rfl (teq hc21).1 (by decide) (by decide) k) ?_
                show own_Fin p.tables e below _ (s₁.setTop (mkF m 60 #[.val (.int p0)] []))
                refine own_by (fun _ k => XS.iconst X0.here hx rfl (hb hby d1_60) k) ?_
                show own_Fin p.tables e below _ (s₁.setTop (mkF m 61 #[.val (.int p0)] [(.int (1 : Int32))]))
                refine own_by (fun _ k => XS.goto X0.here hx rfl (pc0 := 61) (pc' := 65) rfl (hb hby d1_61) (by decide) (by decide) k) ?_
                show own_Fin p.tables e below _ (s₁.setTop (mkF m 65 #[.val (.int p0)] [(.int (1 : Int32))]))
                have ef := (show f1 p0 = (1 : Int32) from by unfold f1; rw [if_pos hc1, if_neg hc2, if_pos hc13, if_neg hc14, if_pos hc19, if_neg hc20, if_pos hc21])
                exact own_retN X0 hx (t := .boolean) Bd.returns hlk (by simp) (hb hby d1_65) (by decide) (by decide) ⟨by rw [ef]; rfl, N0, e0⟩
              · refine own_by (fun _ k => XS.icmpNo X0.here hx rfl (hb hby d1_45) rfl (feq hc21).1 k) ?_
                show own_Fin p.tables e below _ (s₁.setTop (mkF m 48 #[.val (.int p0)] []))
                refine own_by (fun _ k => XS.iloadN X0.here hx rfl (hb hby d1_48) rfl k) ?_
                show own_Fin p.tables e below _ (s₁.setTop (mkF m 49 #[.val (.int p0)] [(.int p0)]))
                refine own_by (fun _ k => XS.bipush X0.here hx rfl (hb hby d1_49) k) ?_
                show own_Fin p.tables e below _ (s₁.setTop (mkF m 51 #[.val (.int p0)] [(.int (95 : Int32)), (.int p0)]))
                by_cases hc22 : p0 = (95 : Int32)
                · refine own_by (fun _ k => XS.icmpYes X0.here hx rfl (pc0 := 51) (pc' := 60) rfl (hb hby d1_51) rfl (teq hc22).1 (by decide) (by decide) k) ?_
                  show own_Fin p.tables e below _ (s₁.setTop (mkF m 60 #[.val (.int p0)] []))
                  refine own_by (fun _ k => XS.iconst X0.here hx rfl (hb hby d1_60) k) ?_
                  show own_Fin p.tables e below _ (s₁.setTop (mkF m 61 #[.val (.int p0)] [(.int (1 : Int32))]))
                  refine own_by (fun _ k => XS.goto X0.here hx rfl (pc0 := 61) (pc' := 65) rfl (hb hby d1_61) (by decide) (by decide) k) ?_
                  show own_Fin p.tables e below _ (s₁.setTop (mkF m 65 #[.val (.int p0)] [(.int (1 : Int32))]))
                  have ef := (show f1 p0 = (1 : Int32) from by unfold f1; rw [if_pos hc1, if_neg hc2, if_pos hc13, if_neg hc14, if_pos hc19, if_neg hc20, if_neg hc21, if_pos hc22])
                  exact own_retN X0 hx (t := .boolean) Bd.returns hlk (by simp) (hb hby d1_65) (by decide) (by decide) ⟨by rw [ef]; rfl, N0, e0⟩
                · refine own_by (fun _ k => XS.icmpNo X0.here hx rfl (hb hby d1_51) rfl (feq hc22).1 k) ?_
                  show own_Fin p.tables e below _ (s₁.setTop (mkF m 54 #[.val (.int p0)] []))
                  refine own_by (fun _ k => XS.iloadN X0.here hx rfl (hb hby d1_54) rfl k) ?_
                  show own_Fin p.tables e below _ (s₁.setTop (mkF m 55 #[.val (.int p0)] [(.int p0)]))
                  refine own_by (fun _ k => XS.bipush X0.here hx rfl (hb hby d1_55) k) ?_
                  show own_Fin p.tables e below _ (s₁.setTop (mkF m 57 #[.val (.int p0)] [(.int (126 : Int32)), (.int p0)]))
                  by_cases hc23 : p0 = (126 : Int32)
                  · refine own_by (fun _ k => XS.icmpNo X0.here hx rfl (hb hby d1_57) rfl (teq hc23).2 k) ?_
                    show own_Fin p.tables e below _ (s₁.setTop (mkF m 60 #[.val (.int p0)] []))
                    refine own_by (fun _ k => XS.iconst X0.here hx rfl (hb hby d1_60) k) ?_
                    show own_Fin p.tables e below _ (s₁.setTop (mkF m 61 #[.val (.int p0)] [(.int (1 : Int32))]))
                    refine own_by (fun _ k => XS.goto X0.here hx rfl (pc0 := 61) (pc' := 65) rfl (hb hby d1_61) (by decide) (by decide) k) ?_
                    show own_Fin p.tables e below _ (s₁.setTop (mkF m 65 #[.val (.int p0)] [(.int (1 : Int32))]))
                    have ef := (show f1 p0 = (1 : Int32) from by unfold f1; rw [if_pos hc1, if_neg hc2, if_pos hc13, if_neg hc14, if_pos hc19, if_neg hc20, if_neg hc21, if_neg hc22, if_pos hc23])
                    exact own_retN X0 hx (t := .boolean) Bd.returns hlk (by simp) (hb hby d1_65) (by decide) (by decide) ⟨by rw [ef]; rfl, N0, e0⟩
                  · refine own_by (fun _ k => XS.icmpYes X0.here hx rfl (pc0 := 57) (pc' := 64) rfl (hb hby d1_57) rfl (feq hc23).2 (by decide) (by decide) k) ?_
                    show own_Fin p.tables e below _ (s₁.setTop (mkF m 64 #[.val (.int p0)] []))
                    refine own_by (fun _ k => XS.iconst X0.here hx rfl (hb hby d1_64) k) ?_
                    show own_Fin p.tables e below _ (s₁.setTop (mkF m 65 #[.val (.int p0)] [(.int (0 : Int32))]))
                    have ef := (show f1 p0 = (0 : Int32) from by unfold f1; rw [if_pos hc1, if_neg hc2, if_pos hc13, if_neg hc14, if_pos hc19, if_neg hc20, if_neg hc21, if_neg hc22, if_neg hc23])
                    exact own_retN X0 hx (t := .boolean) Bd.returns hlk (by simp) (hb hby d1_65) (by decide) (by decide) ⟨by rw [ef]; rfl, N0, e0⟩
          · refine own_by (fun _ k => XS.icmpYes X0.here hx rfl (pc0 := 33) (pc' := 60) rfl (hb hby d1_33) rfl (flt hc19).2.2.2 (by decide) (by decide) k) ?_
            show own_Fin p.tables e below _ (s₁.setTop (mkF m 60 #[.val (.int p0)] []))
            refine own_by (fun _ k => XS.iconst X0.here hx rfl (hb hby d1_60) k) ?_
            show own_Fin p.tables e below _ (s₁.setTop (mkF m 61 #[.val (.int p0)] [(.int (1 : Int32))]))
            refine own_by (fun _ k => XS.goto X0.here hx rfl (pc0 := 61) (pc' := 65) rfl (hb hby d1_61) (by decide) (by decide) k) ?_
            show own_Fin p.tables e below _ (s₁.setTop (mkF m 65 #[.val (.int p0)] [(.int (1 : Int32))]))
            have ef := (show f1 p0 = (1 : Int32) from by unfold f1; rw [if_pos hc1, if_neg hc2, if_pos hc13, if_neg hc14, if_neg hc19])
            exact own_retN X0 hx (t := .boolean) Bd.returns hlk (by simp) (hb hby d1_65) (by decide) (by decide) ⟨by rw [ef]; rfl, N0, e0⟩
      · refine own_by (fun _ k => XS.icmpYes X0.here hx rfl (pc0 := 21) (pc' := 60) rfl (hb hby d1_21) rfl (flt hc13).2.2.2 (by decide) (by decide) k) ?_
        show own_Fin p.tables e below _ (s₁.setTop (mkF m 60 #[.val (.int p0)] []))
        refine own_by (fun _ k => XS.iconst X0.here hx rfl (hb hby d1_60) k) ?_
        show own_Fin p.tables e below _ (s₁.setTop (mkF m 61 #[.val (.int p0)] [(.int (1 : Int32))]))
        refine own_by (fun _ k => XS.goto X0.here hx rfl (pc0 := 61) (pc' := 65) rfl (hb hby d1_61) (by decide) (by decide) k) ?_
        show own_Fin p.tables e below _ (s₁.setTop (mkF m 65 #[.val (.int p0)] [(.int (1 : Int32))]))
        have ef := (show f1 p0 = (1 : Int32) from by unfold f1; rw [if_pos hc1, if_neg hc2, if_neg hc13])
        exact own_retN X0 hx (t := .boolean) Bd.returns hlk (by simp) (hb hby d1_65) (by decide) (by decide) ⟨by rw [ef]; rfl, N0, e0⟩
  · refine own_by (fun _ k => XS.icmpNo X0.here hx rfl (hb hby d1_3) rfl (flt hc1).1 k) ?_
    show own_Fin p.tables e below _ (s₁.setTop (mkF m 6 #[.val (.int p0)] []))
    refine own_by (fun _ k => XS.iloadN X0.here hx rfl (hb hby d1_6) rfl k) ?_
    show own_Fin p.tables e below _ (s₁.setTop (mkF m 7 #[.val (.int p0)] [(.int p0)]))
    refine own_by (fun _ k => XS.bipush X0.here hx rfl (hb hby d1_7) k) ?_
    show own_Fin p.tables e below _ (s₁.setTop (mkF m 9 #[.val (.int p0)] [(.int (90 : Int32)), (.int p0)]))
    by_cases hc24 : (90 : Int32) < p0
    · refine own_by (fun _ k => XS.icmpNo X0.here hx rfl (hb hby d1_9) rfl (tlt hc24).2.2.2 k) ?_
      show own_Fin p.tables e below _ (s₁.setTop (mkF m 12 #[.val (.int p0)] []))
      refine own_by (fun _ k => XS.iloadN X0.here hx rfl (hb hby d1_12) rfl k) ?_
      show own_Fin p.tables e below _ (s₁.setTop (mkF m 13 #[.val (.int p0)] [(.int p0)]))
      refine own_by (fun _ k => XS.bipush X0.here hx rfl (hb hby d1_13) k) ?_
      show own_Fin p.tables e below _ (s₁.setTop (mkF m 15 #[.val (.int p0)] [(.int (97 : Int32)), (.int p0)]))
      by_cases hc25 : p0 < (97 : Int32)
      · refine own_by (fun _ k => XS.icmpYes X0.here hx rfl (pc0 := 15) (pc' := 24) rfl (hb hby d1_15) rfl (tlt hc25).1 (by decide) (by decide) k) ?_
        show own_Fin p.tables e below _ (s₁.setTop (mkF m 24 #[.val (.int p0)] []))
        refine own_by (fun _ k => XS.iloadN X0.here hx rfl (hb hby d1_24) rfl k) ?_
        show own_Fin p.tables e below _ (s₁.setTop (mkF m 25 #[.val (.int p0)] [(.int p0)]))
        refine own_by (fun _ k => XS.bipush X0.here hx rfl (hb hby d1_25) k) ?_
        show own_Fin p.tables e below _ (s₁.setTop (mkF m 27 #[.val (.int p0)] [(.int (48 : Int32)), (.int p0)]))
        by_cases hc26 : p0 < (48 : Int32)
        · refine own_by (fun _ k => XS.icmpYes X0.here hx rfl (pc0 := 27) (pc' := 36) rfl (hb hby d1_27) rfl (tlt hc26).1 (by decide) (by decide) k) ?_
          show own_Fin p.tables e below _ (s₁.setTop (mkF m 36 #[.val (.int p0)] []))
          refine own_by (fun _ k => XS.iloadN X0.here hx rfl (hb hby d1_36) rfl k) ?_
          show own_Fin p.tables e below _ (s₁.setTop (mkF m 37 #[.val (.int p0)] [(.int p0)]))
          refine own_by (fun _ k => XS.bipush X0.here hx rfl (hb hby d1_37) k) ?_
          show own_Fin p.tables e below _ (s₁.setTop (mkF m 39 #[.val (.int p0)] [(.int (45 : Int32)), (.int p0)]))
          by_cases hc27 : p0 = (45 : Int32)
          · refine own_by (fun _ k => XS.icmpYes X0.here hx rfl (pc0 := 39) (pc' := 60) rfl (hb hby d1_39) rfl (teq hc27).1 (by decide) (by decide) k) ?_
            show own_Fin p.tables e below _ (s₁.setTop (mkF m 60 #[.val (.int p0)] []))
            refine own_by (fun _ k => XS.iconst X0.here hx rfl (hb hby d1_60) k) ?_
            show own_Fin p.tables e below _ (s₁.setTop (mkF m 61 #[.val (.int p0)] [(.int (1 : Int32))]))
            refine own_by (fun _ k => XS.goto X0.here hx rfl (pc0 := 61) (pc' := 65) rfl (hb hby d1_61) (by decide) (by decide) k) ?_
            show own_Fin p.tables e below _ (s₁.setTop (mkF m 65 #[.val (.int p0)] [(.int (1 : Int32))]))
            have ef := (show f1 p0 = (1 : Int32) from by unfold f1; rw [if_neg hc1, if_pos hc24, if_pos hc25, if_pos hc26, if_pos hc27])
            exact own_retN X0 hx (t := .boolean) Bd.returns hlk (by simp) (hb hby d1_65) (by decide) (by decide) ⟨by rw [ef]; rfl, N0, e0⟩
          · refine own_by (fun _ k => XS.icmpNo X0.here hx rfl (hb hby d1_39) rfl (feq hc27).1 k) ?_
            show own_Fin p.tables e below _ (s₁.setTop (mkF m 42 #[.val (.int p0)] []))
            refine own_by (fun _ k => XS.iloadN X0.here hx rfl (hb hby d1_42) rfl k) ?_
            show own_Fin p.tables e below _ (s₁.setTop (mkF m 43 #[.val (.int p0)] [(.int p0)]))
            refine own_by (fun _ k => XS.bipush X0.here hx rfl (hb hby d1_43) k) ?_
            show own_Fin p.tables e below _ (s₁.setTop (mkF m 45 #[.val (.int p0)] [(.int (46 : Int32)), (.int p0)]))
            by_cases hc28 : p0 = (46 : Int32)
            · refine own_by (fun _ k => XS.icmpYes X0.here hx rfl (pc0 := 45) (pc' := 60) rfl (hb hby d1_45) rfl (teq hc28).1 (by decide) (by decide) k) ?_
              show own_Fin p.tables e below _ (s₁.setTop (mkF m 60 #[.val (.int p0)] []))
              refine own_by (fun _ k => XS.iconst X0.here hx rfl (hb hby d1_60) k) ?_
              show own_Fin p.tables e below _ (s₁.setTop (mkF m 61 #[.val (.int p0)] [(.int (1 : Int32))]))
              refine own_by (fun _ k => XS.goto X0.here hx rfl (pc0 := 61) (pc' := 65) rfl (hb hby d1_61) (by decide) (by decide) k) ?_
              show own_Fin p.tables e below _ (s₁.setTop (mkF m 65 #[.val (.int p0)] [(.int (1 : Int32))]))
              have ef := (show f1 p0 = (1 : Int32) from by unfold f1; rw [if_neg hc1, if_pos hc24, if_pos hc25, if_pos hc26, if_neg hc27, if_pos hc28])
              exact own_retN X0 hx (t := .boolean) Bd.returns hlk (by simp) (hb hby d1_65) (by decide) (by decide) ⟨by rw [ef]; rfl, N0, e0⟩
            · refine own_by (fun _ k => XS.icmpNo X0.here hx rfl (hb hby d1_45) rfl (feq hc28).1 k) ?_
              show own_Fin p.tables e below _ (s₁.setTop (mkF m 48 #[.val (.int p0)] []))
              refine own_by (fun _ k => XS.iloadN X0.here hx rfl (hb hby d1_48) rfl k) ?_
              show own_Fin p.tables e below _ (s₁.setTop (mkF m 49 #[.val (.int p0)] [(.int p0)]))
              refine own_by (fun _ k => XS.bipush X0.here hx rfl (hb hby d1_49) k) ?_
              show own_Fin p.tables e below _ (s₁.setTop (mkF m 51 #[.val (.int p0)] [(.int (95 : Int32)), (.int p0)]))
              by_cases hc29 : p0 = (95 : Int32)
              · refine own_by (fun _ k => XS.icmpYes X0.here hx rfl (pc0 := 51) (pc' := 60) rfl (hb hby d1_51) rfl (teq hc29).1 (by decide) (by decide) k) ?_
                show own_Fin p.tables e below _ (s₁.setTop (mkF m 60 #[.val (.int p0)] []))
                refine own_by (fun _ k => XS.iconst X0.here hx rfl (hb hby d1_60) k) ?_
                show own_Fin p.tables e below _ (s₁.setTop (mkF m 61 #[.val (.int p0)] [(.int (1 : Int32))]))
                refine own_by (fun _ k => XS.goto X0.here hx rfl (pc0 := 61) (pc' := 65) rfl (hb hby d1_61) (by decide) (by decide) k) ?_
                show own_Fin p.tables e below _ (s₁.setTop (mkF m 65 #[.val (.int p0)] [(.int (1 : Int32))]))
                have ef := (show f1 p0 = (1 : Int32) from by unfold f1; rw [if_neg hc1, if_pos hc24, if_pos hc25, if_pos hc26, if_neg hc27, if_neg hc28, if_pos hc29])
                exact own_retN X0 hx (t := .boolean) Bd.returns hlk (by simp) (hb hby d1_65) (by decide) (by decide) ⟨by rw [ef]; rfl, N0, e0⟩
              · refine own_by (fun _ k => XS.icmpNo X0.here hx rfl (hb hby d1_51) rfl (feq hc29).1 k) ?_
                show own_Fin p.tables e below _ (s₁.setTop (mkF m 54 #[.val (.int p0)] []))
                refine own_by (fun _ k => XS.iloadN X0.here hx rfl (hb hby d1_54) rfl k) ?_
                show own_Fin p.tables e below _ (s₁.setTop (mkF m 55 #[.val (.int p0)] [(.int p0)]))
                refine own_by (fun _ k => XS.bipush X0.here hx rfl (hb hby d1_55) k) ?_
                show own_Fin p.tables e below _ (s₁.setTop (mkF m 57 #[.val (.int p0)] [(.int (126 : Int32)), (.int p0)]))
                by_cases hc30 : p0 = (126 : Int32)
                · refine own_by (fun _ k => XS.icmpNo X0.here hx rfl (hb hby d1_57) rfl (teq hc30).2 k) ?_
                  show own_Fin p.tables e below _ (s₁.setTop (mkF m 60 #[.val (.int p0)] []))
                  refine own_by (fun _ k => XS.iconst X0.here hx rfl (hb hby d1_60) k) ?_
                  show own_Fin p.tables e below _ (s₁.setTop (mkF m 61 #[.val (.int p0)] [(.int (1 : Int32))]))
                  refine own_by (fun _ k => XS.goto X0.here hx rfl (pc0 := 61) (pc' := 65) rfl (hb hby d1_61) (by decide) (by decide) k) ?_
                  show own_Fin p.tables e below _ (s₁.setTop (mkF m 65 #[.val (.int p0)] [(.int (1 : Int32))]))
                  have ef := (show f1 p0 = (1 : Int32) from by unfold f1; rw [if_neg hc1, if_pos hc24, if_pos hc25, if_pos hc26, if_neg hc27, if_neg hc28, if_neg hc29, if_pos hc30])
                  exact own_retN X0 hx (t := .boolean) Bd.returns hlk (by simp) (hb hby d1_65) (by decide) (by decide) ⟨by rw [ef]; rfl, N0, e0⟩
                · refine own_by (fun _ k => XS.icmpYes X0.here hx rfl (pc0 := 57) (pc' := 64) rfl (hb hby d1_57) rfl (feq hc30).2 (by decide) (by decide) k) ?_
                  show own_Fin p.tables e below _ (s₁.setTop (mkF m 64 #[.val (.int p0)] []))
                  refine own_by (fun _ k => XS.iconst X0.here hx rfl (hb hby d1_64) k) ?_
                  show own_Fin p.tables e below _ (s₁.setTop (mkF m 65 #[.val (.int p0)] [(.int (0 : Int32))]))
                  have ef := (show f1 p0 = (0 : Int32) from by unfold f1; rw [if_neg hc1, if_pos hc24, if_pos hc25, if_pos hc26, if_neg hc27, if_neg hc28, if_neg hc29, if_neg hc30])
                  exact own_retN X0 hx (t := .boolean) Bd.returns hlk (by simp) (hb hby d1_65) (by decide) (by decide) ⟨by rw [ef]; rfl, N0, e0⟩
        · refine own_by (fun _ k => XS.icmpNo X0.here hx rfl (hb hby d1_27) rfl (flt hc26).1 k) ?_
          show own_Fin p.tables e below _ (s₁.setTop (mkF m 30 #[.val (.int p0)] []))
          refine own_by (fun _ k => XS.iloadN X0.here hx rfl (hb hby d1_30) rfl k) ?_
          show own_Fin p.tables e below _ (s₁.setTop (mkF m 31 #[.val (.int p0)] [(.int p0)]))
          refine own_by (fun _ k => XS.bipush X0.here hx rfl (hb hby d1_31) k) ?_
          show own_Fin p.tables e below _ (s₁.setTop (mkF m 33 #[.val (.int p0)] [(.int (57 : Int32)), (.int p0)]))
          by_cases hc31 : (57 : Int32) < p0
          · refine own_by (fun _ k => XS.icmpNo X0.here hx rfl (hb hby d1_33) rfl (tlt hc31).2.2.2 k) ?_
            show own_Fin p.tables e below _ (s₁.setTop (mkF m 36 #[.val (.int p0)] []))
            refine own_by (fun _ k => XS.iloadN X0.here hx rfl (hb hby d1_36) rfl k) ?_
            show own_Fin p.tables e below _ (s₁.setTop (mkF m 37 #[.val (.int p0)] [(.int p0)]))
            refine own_by (fun _ k => XS.bipush X0.here hx rfl (hb hby d1_37) k) ?_
            show own_Fin p.tables e below _ (s₁.setTop (mkF m 39 #[.val (.int p0)] [(.int (45 : Int32)), (.int p0)]))
            by_cases hc32 : p0 = (45 : Int32)
            · refine own_by (fun _ k => XS.icmpYes X0.here hx rfl (pc0 := 39) (pc' := 60) rfl (hb hby d1_39) rfl (teq hc32).1 (by decide) (by decide) k) ?_
              show own_Fin p.tables e below _ (s₁.setTop (mkF m 60 #[.val (.int p0)] []))
              refine own_by (fun _ k => XS.iconst X0.here hx rfl (hb hby d1_60) k) ?_
              show own_Fin p.tables e below _ (s₁.setTop (mkF m 61 #[.val (.int p0)] [(.int (1 : Int32))]))
              refine own_by (fun _ k => XS.goto X0.here hx rfl (pc0 := 61) (pc' := 65) rfl (hb hby d1_61) (by decide) (by decide) k) ?_
              show own_Fin p.tables e below _ (s₁.setTop (mkF m 65 #[.val (.int p0)] [(.int (1 : Int32))]))
              have ef := (show f1 p0 = (1 : Int32) from by unfold f1; rw [if_neg hc1, if_pos hc24, if_pos hc25, if_neg hc26, if_pos hc31, if_pos hc32])
              exact own_retN X0 hx (t := .boolean) Bd.returns hlk (by simp) (hb hby d1_65) (by decide) (by decide) ⟨by rw [ef]; rfl, N0, e0⟩
            · refine own_by (fun _ k => XS.icmpNo X0.here hx rfl (hb hby d1_39) rfl (feq hc32).1 k) ?_
              show own_Fin p.tables e below _ (s₁.setTop (mkF m 42 #[.val (.int p0)] []))
              refine own_by (fun _ k => XS.iloadN X0.here hx rfl (hb hby d1_42) rfl k) ?_
              show own_Fin p.tables e below _ (s₁.setTop (mkF m 43 #[.val (.int p0)] [(.int p0)]))
              refine own_by (fun _ k => XS.bipush X0.here hx rfl (hb hby d1_43) k) ?_
              show own_Fin p.tables e below _ (s₁.setTop (mkF m 45 #[.val (.int p0)] [(.int (46 : Int32)), (.int p0)]))
              by_cases hc33 : p0 = (46 : Int32)
              · refine own_by (fun _ k => XS.icmpYes X0.here hx rfl (pc0 := 45) (pc' := 60) rfl (hb hby d1_45) rfl (teq hc33).1 (by decide) (by decide) k) ?_
                show own_Fin p.tables e below _ (s₁.setTop (mkF m 60 #[.val (.int p0)] []))
                refine own_by (fun _ k => XS.iconst X0.here hx rfl (hb hby d1_60) k) ?_
                show own_Fin p.tables e below _ (s₁.setTop (mkF m 61 #[.val (.int p0)] [(.int (1 : Int32))]))
                refine own_by (fun _ k => XS.goto X0.here hx rfl (pc0 := 61) (pc' := 65) rfl (hb hby d1_61) (by decide) (by decide) k) ?_
                show own_Fin p.tables e below _ (s₁.setTop (mkF m 65 #[.val (.int p0)] [(.int (1 : Int32))]))
                have ef := (show f1 p0 = (1 : Int32) from by unfold f1; rw [if_neg hc1, if_pos hc24, if_pos hc25, if_neg hc26, if_pos hc31, if_neg hc32, if_pos hc33])
                exact own_retN X0 hx (t := .boolean) Bd.returns hlk (by simp) (hb hby d1_65) (by decide) (by decide) ⟨by rw [ef]; rfl, N0, e0⟩
              · refine own_by (fun _ k => XS.icmpNo X0.here hx rfl (hb hby d1_45) rfl (feq hc33).1 k) ?_
                show own_Fin p.tables e below _ (s₁.setTop (mkF m 48 #[.val (.int p0)] []))
                refine own_by (fun _ k => XS.iloadN X0.here hx rfl (hb hby d1_48) rfl k) ?_
                show own_Fin p.tables e below _ (s₁.setTop (mkF m 49 #[.val (.int p0)] [(.int p0)]))
                refine own_by (fun _ k => XS.bipush X0.here hx rfl (hb hby d1_49) k) ?_
                show own_Fin p.tables e below _ (s₁.setTop (mkF m 51 #[.val (.int p0)] [(.int (95 : Int32)), (.int p0)]))
                by_cases hc34 : p0 = (95 : Int32)
                · refine own_by (fun _ k => XS.icmpYes X0.here hx rfl (pc0 := 51) (pc' := 60) rfl (hb hby d1_51) rfl (teq hc34).1 (by decide) (by decide) k) ?_
                  show own_Fin p.tables e below _ (s₁.setTop (mkF m 60 #[.val (.int p0)] []))
                  refine own_by (fun _ k => XS.iconst X0.here hx rfl (hb hby d1_60) k) ?_
                  show own_Fin p.tables e below _ (s₁.setTop (mkF m 61 #[.val (.int p0)] [(.int (1 : Int32))]))
                  refine own_by (fun _ k => XS.goto X0.here hx rfl (pc0 := 61) (pc' := 65) rfl (hb hby d1_61) (by decide) (by decide) k) ?_
                  show own_Fin p.tables e below _ (s₁.setTop (mkF m 65 #[.val (.int p0)] [(.int (1 : Int32))]))
                  have ef := (show f1 p0 = (1 : Int32) from by unfold f1; rw [if_neg hc1, if_pos hc24, if_pos hc25, if_neg hc26, if_pos hc31, if_neg hc32, if_neg hc33, if_pos hc34])
                  exact own_retN X0 hx (t := .boolean) Bd.returns hlk (by simp) (hb hby d1_65) (by decide) (by decide) ⟨by rw [ef]; rfl, N0, e0⟩
                · refine own_by (fun _ k => XS.icmpNo X0.here hx rfl (hb hby d1_51) rfl (feq hc34).1 k) ?_
                  show own_Fin p.tables e below _ (s₁.setTop (mkF m 54 #[.val (.int p0)] []))
                  refine own_by (fun _ k => XS.iloadN X0.here hx rfl (hb hby d1_54) rfl k) ?_
                  show own_Fin p.tables e below _ (s₁.setTop (mkF m 55 #[.val (.int p0)] [(.int p0)]))
                  refine own_by (fun _ k => XS.bipush X0.here hx rfl (hb hby d1_55) k) ?_
                  show own_Fin p.tables e below _ (s₁.setTop (mkF m 57 #[.val (.int p0)] [(.int (126 : Int32)), (.int p0)]))
                  by_cases hc35 : p0 = (126 : Int32)
                  · refine own_by (fun _ k => XS.icmpNo X0.here hx rfl (hb hby d1_57) rfl (teq hc35).2 k) ?_
                    show own_Fin p.tables e below _ (s₁.setTop (mkF m 60 #[.val (.int p0)] []))
                    refine own_by (fun _ k => XS.iconst X0.here hx rfl (hb hby d1_60) k) ?_
                    show own_Fin p.tables e below _ (s₁.setTop (mkF m 61 #[.val (.int p0)] [(.int (1 : Int32))]))
                    refine own_by (fun _ k => XS.goto X0.here hx rfl (pc0 := 61) (pc' := 65) rfl (hb hby d1_61) (by decide) (by decide) k) ?_
                    show own_Fin p.tables e below _ (s₁.setTop (mkF m 65 #[.val (.int p0)] [(.int (1 : Int32))]))
                    have ef := (show f1 p0 = (1 : Int32) from by unfold f1; rw [if_neg hc1, if_pos hc24, if_pos hc25, if_neg hc26, if_pos hc31, if_neg hc32, if_neg hc33, if_neg hc34, if_pos hc35])
                    exact own_retN X0 hx (t := .boolean) Bd.returns hlk (by simp) (hb hby d1_65) (by decide) (by decide) ⟨by rw [ef]; rfl, N0, e0⟩
                  · refine own_by (fun _ k => XS.icmpYes X0.here hx rfl (pc0 := 57) (pc' := 64) rfl (hb hby d1_57) rfl (feq hc35).2 (by decide) (by decide) k) ?_
                    show own_Fin p.tables e below _ (s₁.setTop (mkF m 64 #[.val (.int p0)] []))
                    refine own_by (fun _ k => XS.iconst X0.here hx rfl (hb hby d1_64) k) ?_
                    show own_Fin p.tables e below _ (s₁.setTop (mkF m 65 #[.val (.int p0)] [(.int (0 : Int32))]))
                    have ef := (show f1 p0 = (0 : Int32) from by unfold f1; rw [if_neg hc1, if_pos hc24, if_pos hc25, if_neg hc26, if_pos hc31, if_neg hc32, if_neg hc33, if_neg hc34, if_neg hc35])
                    exact own_retN X0 hx (t := .boolean) Bd.returns hlk (by simp) (hb hby d1_65) (by decide) (by decide) ⟨by rw [ef]; rfl, N0, e0⟩
          · refine own_by (fun _ k => XS.icmpYes X0.here hx rfl (pc0 := 33) (pc' := 60) rfl (hb hby d1_33) rfl (flt hc31).2.2.2 (by decide) (by decide) k) ?_
            show own_Fin p.tables e below _ (s₁.setTop (mkF m 60 #[.val (.int p0)] []))
            refine own_by (fun _ k => XS.iconst X0.here hx rfl (hb hby d1_60) k) ?_
            show own_Fin p.tables e below _ (s₁.setTop (mkF m 61 #[.val (.int p0)] [(.int (1 : Int32))]))
            refine own_by (fun _ k => XS.goto X0.here hx rfl (pc0 := 61) (pc' := 65) rfl (hb hby d1_61) (by decide) (by decide) k) ?_
            show own_Fin p.tables e below _ (s₁.setTop (mkF m 65 #[.val (.int p0)] [(.int (1 : Int32))]))
            have ef := (show f1 p0 = (1 : Int32) from by unfold f1; rw [if_neg hc1, if_pos hc24, if_pos hc25, if_neg hc26, if_neg hc31])
            exact own_retN X0 hx (t := .boolean) Bd.returns hlk (by simp) (hb hby d1_65) (by decide) (by decide) ⟨by rw [ef]; rfl, N0, e0⟩
      · refine own_by (fun _ k => XS.icmpNo X0.here hx rfl (hb hby d1_15) rfl (flt hc25).1 k) ?_
        show own_Fin p.tables e below _ (s₁.setTop (mkF m 18 #[.val (.int p0)] []))
        refine own_by (fun _ k => XS.iloadN X0.here hx rfl (hb hby d1_18) rfl k) ?_
        show own_Fin p.tables e below _ (s₁.setTop (mkF m 19 #[.val (.int p0)] [(.int p0)]))
        refine own_by (fun _ k => XS.bipush X0.here hx rfl (hb hby d1_19) k) ?_
        show own_Fin p.tables e below _ (s₁.setTop (mkF m 21 #[.val (.int p0)] [(.int (122 : Int32)), (.int p0)]))
        by_cases hc36 : (122 : Int32) < p0
        · refine own_by (fun _ k => XS.icmpNo X0.here hx rfl (hb hby d1_21) rfl (tlt hc36).2.2.2 k) ?_
          show own_Fin p.tables e below _ (s₁.setTop (mkF m 24 #[.val (.int p0)] []))
          refine own_by (fun _ k => XS.iloadN X0.here hx rfl (hb hby d1_24) rfl k) ?_
          show own_Fin p.tables e below _ (s₁.setTop (mkF m 25 #[.val (.int p0)] [(.int p0)]))
          refine own_by (fun _ k => XS.bipush X0.here hx rfl (hb hby d1_25) k) ?_
          show own_Fin p.tables e below _ (s₁.setTop (mkF m 27 #[.val (.int p0)] [(.int (48 : Int32)), (.int p0)]))
          by_cases hc37 : p0 < (48 : Int32)
          · refine own_by (fun _ k => XS.icmpYes X0.here hx rfl (pc0 := 27) (pc' := 36) rfl (hb hby d1_27) rfl (tlt hc37).1 (by decide) (by decide) k) ?_
            show own_Fin p.tables e below _ (s₁.setTop (mkF m 36 #[.val (.int p0)] []))
            refine own_by (fun _ k => XS.iloadN X0.here hx rfl (hb hby d1_36) rfl k) ?_
            show own_Fin p.tables e below _ (s₁.setTop (mkF m 37 #[.val (.int p0)] [(.int p0)]))
            refine own_by (fun _ k => XS.bipush X0.here hx rfl (hb hby d1_37) k) ?_
            show own_Fin p.tables e below _ (s₁.setTop (mkF m 39 #[.val (.int p0)] [(.int (45 : Int32)), (.int p0)]))
            by_cases hc38 : p0 = (45 : Int32)
            · refine own_by (fun _ k => XS.icmpYes X0.here hx rfl (pc0 := 39) (pc' := 60) rfl (hb hby d1_39) rfl (teq hc38).1 (by decide) (by decide) k) ?_
              show own_Fin p.tables e below _ (s₁.setTop (mkF m 60 #[.val (.int p0)] []))
              refine own_by (fun _ k => XS.iconst X0.here hx rfl (hb hby d1_60) k) ?_
              show own_Fin p.tables e below _ (s₁.setTop (mkF m 61 #[.val (.int p0)] [(.int (1 : Int32))]))
              refine own_by (fun _ k => XS.goto X0.here hx rfl (pc0 := 61) (pc' := 65) rfl (hb hby d1_61) (by decide) (by decide) k) ?_
              show own_Fin p.tables e below _ (s₁.setTop (mkF m 65 #[.val (.int p0)] [(.int (1 : Int32))]))
              have ef := (show f1 p0 = (1 : Int32) from by unfold f1; rw [if_neg hc1, if_pos hc24, if_neg hc25, if_pos hc36, if_pos hc37, if_pos hc38])
              exact own_retN X0 hx (t := .boolean) Bd.returns hlk (by simp) (hb hby d1_65) (by decide) (by decide) ⟨by rw [ef]; rfl, N0, e0⟩
            · refine own_by (fun _ k => XS.icmpNo X0.here hx rfl (hb hby d1_39) rfl (feq hc38).1 k) ?_
              show own_Fin p.tables e below _ (s₁.setTop (mkF m 42 #[.val (.int p0)] []))
              refine own_by (fun _ k => XS.iloadN X0.here hx rfl (hb hby d1_42) rfl k) ?_
              show own_Fin p.tables e below _ (s₁.setTop (mkF m 43 #[.val (.int p0)] [(.int p0)]))
              refine own_by (fun _ k => XS.bipush X0.here hx rfl (hb hby d1_43) k) ?_
              show own_Fin p.tables e below _ (s₁.setTop (mkF m 45 #[.val (.int p0)] [(.int (46 : Int32)), (.int p0)]))
              by_cases hc39 : p0 = (46 : Int32)
              · refine own_by (fun _ k => XS.icmpYes X0.here hx rfl (pc0 := 45) (pc' := 60) rfl (hb hby d1_45) rfl (teq hc39).1 (by decide) (by decide) k) ?_
                show own_Fin p.tables e below _ (s₁.setTop (mkF m 60 #[.val (.int p0)] []))
                refine own_by (fun _ k => XS.iconst X0.here hx rfl (hb hby d1_60) k) ?_
                show own_Fin p.tables e below _ (s₁.setTop (mkF m 61 #[.val (.int p0)] [(.int (1 : Int32))]))
                refine own_by (fun _ k => XS.goto X0.here hx rfl (pc0 := 61) (pc' := 65) rfl (hb hby d1_61) (by decide) (by decide) k) ?_
                show own_Fin p.tables e below _ (s₁.setTop (mkF m 65 #[.val (.int p0)] [(.int (1 : Int32))]))
                have ef := (show f1 p0 = (1 : Int32) from by unfold f1; rw [if_neg hc1, if_pos hc24, if_neg hc25, if_pos hc36, if_pos hc37, if_neg hc38, if_pos hc39])
                exact own_retN X0 hx (t := .boolean) Bd.returns hlk (by simp) (hb hby d1_65) (by decide) (by decide) ⟨by rw [ef]; rfl, N0, e0⟩
              · refine own_by (fun _ k => XS.icmpNo X0.here hx rfl (hb hby d1_45) rfl (feq hc39).1 k) ?_
                show own_Fin p.tables e below _ (s₁.setTop (mkF m 48 #[.val (.int p0)] []))
                refine own_by (fun _ k => XS.iloadN X0.here hx rfl (hb hby d1_48) rfl k) ?_
                show own_Fin p.tables e below _ (s₁.setTop (mkF m 49 #[.val (.int p0)] [(.int p0)]))
                refine own_by (fun _ k => XS.bipush X0.here hx rfl (hb hby d1_49) k) ?_
                show own_Fin p.tables e below _ (s₁.setTop (mkF m 51 #[.val (.int p0)] [(.int (95 : Int32)), (.int p0)]))
                by_cases hc40 : p0 = (95 : Int32)
                · refine own_by (fun _ k => XS.icmpYes X0.here hx rfl (pc0 := 51) (pc' := 60) rfl (hb hby d1_51) rfl (teq hc40).1 (by decide) (by decide) k) ?_
                  show own_Fin p.tables e below _ (s₁.setTop (mkF m 60 #[.val (.int p0)] []))
                  refine own_by (fun _ k => XS.iconst X0.here hx rfl (hb hby d1_60) k) ?_
                  show own_Fin p.tables e below _ (s₁.setTop (mkF m 61 #[.val (.int p0)] [(.int (1 : Int32))]))
                  refine own_by (fun _ k => XS.goto X0.here hx rfl (pc0 := 61) (pc' := 65) rfl (hb hby d1_61) (by decide) (by decide) k) ?_
                  show own_Fin p.tables e below _ (s₁.setTop (mkF m 65 #[.val (.int p0)] [(.int (1 : Int32))]))
                  have ef := (show f1 p0 = (1 : Int32) from by unfold f1; rw [if_neg hc1, if_pos hc24, if_neg hc25, if_pos hc36, if_pos hc37, if_neg hc38, if_neg hc39, if_pos hc40])
                  exact own_retN X0 hx (t := .boolean) Bd.returns hlk (by simp) (hb hby d1_65) (by decide) (by decide) ⟨by rw [ef]; rfl, N0, e0⟩
                · refine own_by (fun _ k => XS.icmpNo X0.here hx rfl (hb hby d1_51) rfl (feq hc40).1 k) ?_
                  show own_Fin p.tables e below _ (s₁.setTop (mkF m 54 #[.val (.int p0)] []))
                  refine own_by (fun _ k => XS.iloadN X0.here hx rfl (hb hby d1_54) rfl k) ?_
                  show own_Fin p.tables e below _ (s₁.setTop (mkF m 55 #[.val (.int p0)] [(.int p0)]))
                  refine own_by (fun _ k => XS.bipush X0.here hx rfl (hb hby d1_55) k) ?_
                  show own_Fin p.tables e below _ (s₁.setTop (mkF m 57 #[.val (.int p0)] [(.int (126 : Int32)), (.int p0)]))
                  by_cases hc41 : p0 = (126 : Int32)
                  · refine own_by (fun _ k => XS.icmpNo X0.here hx rfl (hb hby d1_57) rfl (teq hc41).2 k) ?_
                    show own_Fin p.tables e below _ (s₁.setTop (mkF m 60 #[.val (.int p0)] []))
                    refine own_by (fun _ k => XS.iconst X0.here hx rfl (hb hby d1_60) k) ?_
                    show own_Fin p.tables e below _ (s₁.setTop (mkF m 61 #[.val (.int p0)] [(.int (1 : Int32))]))
                    refine own_by (fun _ k => XS.goto X0.here hx rfl (pc0 := 61) (pc' := 65) rfl (hb hby d1_61) (by decide) (by decide) k) ?_
                    show own_Fin p.tables e below _ (s₁.setTop (mkF m 65 #[.val (.int p0)] [(.int (1 : Int32))]))
                    have ef := (show f1 p0 = (1 : Int32) from by unfold f1; rw [if_neg hc1, if_pos hc24, if_neg hc25, if_pos hc36, if_pos hc37, if_neg hc38, if_neg hc39, if_neg hc40, if_pos hc41])
                    exact own_retN X0 hx (t := .boolean) Bd.returns hlk (by simp) (hb hby d1_65) (by decide) (by decide) ⟨by rw [ef]; rfl, N0, e0⟩
                  · refine own_by (fun _ k => XS.icmpYes X0.here hx rfl (pc0 := 57) (pc' := 64) rfl (hb hby d1_57) rfl (feq hc41).2 (by decide) (by decide) k) ?_
                    show own_Fin p.tables e below _ (s₁.setTop (mkF m 64 #[.val (.int p0)] []))
                    refine own_by (fun _ k => XS.iconst X0.here hx rfl (hb hby d1_64) k) ?_
                    show own_Fin p.tables e below _ (s₁.setTop (mkF m 65 #[.val (.int p0)] [(.int (0 : Int32))]))
                    have ef := (show f1 p0 = (0 : Int32) from by unfold f1; rw [if_neg hc1, if_pos hc24, if_neg hc25, if_pos hc36, if_pos hc37, if_neg hc38, if_neg hc39, if_neg hc40, if_neg hc41])
                    exact own_retN X0 hx (t := .boolean) Bd.returns hlk (by simp) (hb hby d1_65) (by decide) (by decide) ⟨by rw [ef]; rfl, N0, e0⟩
          · refine own_by (fun _ k => XS.icmpNo X0.here hx rfl (hb hby d1_27) rfl (flt hc37).1 k) ?_
            show own_Fin p.tables e below _ (s₁.setTop (mkF m 30 #[.val (.int p0)] []))
            refine own_by (fun _ k => XS.iloadN X0.here hx rfl (hb hby d1_30) rfl k) ?_
            show own_Fin p.tables e below _ (s₁.setTop (mkF m 31 #[.val (.int p0)] [(.int p0)]))
            refine own_by (fun _ k => XS.bipush X0.here hx rfl (hb hby d1_31) k) ?_
            show own_Fin p.tables e below _ (s₁.setTop (mkF m 33 #[.val (.int p0)] [(.int (57 : Int32)), (.int p0)]))
            by_cases hc42 : (57 : Int32) < p0
            · refine own_by (fun _ k => XS.icmpNo X0.here hx rfl (hb hby d1_33) rfl (tlt hc42).2.2.2 k) ?_
              show own_Fin p.tables e below _ (s₁.setTop (mkF m 36 #[.val (.int p0)] []))
              refine own_by (fun _ k => XS.iloadN X0.here hx rfl (hb hby d1_36) rfl k) ?_
              show own_Fin p.tables e below _ (s₁.setTop (mkF m 37 #[.val (.int p0)] [(.int p0)]))
              refine own_by (fun _ k => XS.bipush X0.here hx rfl (hb hby d1_37) k) ?_
              show own_Fin p.tables e below _ (s₁.setTop (mkF m 39 #[.val (.int p0)] [(.int (45 : Int32)), (.int p0)]))
              by_cases hc43 : p0 = (45 : Int32)
              · refine own_by (fun _ k => XS.icmpYes X0.here hx rfl (pc0 := 39) (pc' := 60) rfl (hb hby d1_39) rfl (teq hc43).1 (by decide) (by decide) k) ?_
                show own_Fin p.tables e below _ (s₁.setTop (mkF m 60 #[.val (.int p0)] []))
                refine own_by (fun _ k => XS.iconst X0.here hx rfl (hb hby d1_60) k) ?_
                show own_Fin p.tables e below _ (s₁.setTop (mkF m 61 #[.val (.int p0)] [(.int (1 : Int32))]))
                refine own_by (fun _ k => XS.goto X0.here hx rfl (pc0 := 61) (pc' := 65) rfl (hb hby d1_61) (by decide) (by decide) k) ?_
                show own_Fin p.tables e below _ (s₁.setTop (mkF m 65 #[.val (.int p0)] [(.int (1 : Int32))]))
                have ef := (show f1 p0 = (1 : Int32) from by unfold f1; rw [if_neg hc1, if_pos hc24, if_neg hc25, if_pos hc36, if_neg hc37, if_pos hc42, if_pos hc43])
                exact own_retN X0 hx (t := .boolean) Bd.returns hlk (by simp) (hb hby d1_65) (by decide) (by decide) ⟨by rw [ef]; rfl, N0, e0⟩
              · refine own_by (fun _ k => XS.icmpNo X0.here hx rfl (hb hby d1_39) rfl (feq hc43).1 k) ?_
                show own_Fin p.tables e below _ (s₁.setTop (mkF m 42 #[.val (.int p0)] []))
                refine own_by (fun _ k => XS.iloadN X0.here hx rfl (hb hby d1_42) rfl k) ?_
                show own_Fin p.tables e below _ (s₁.setTop (mkF m 43 #[.val (.int p0)] [(.int p0)]))
                refine own_by (fun _ k => XS.bipush X0.here hx rfl (hb hby d1_43) k) ?_
                show own_Fin p.tables e below _ (s₁.setTop (mkF m 45 #[.val (.int p0)] [(.int (46 : Int32)), (.int p0)]))
                by_cases hc44 : p0 = (46 : Int32)
                · refine own_by (fun _ k => XS.icmpYes X0.here hx rfl (pc0 := 45) (pc' := 60) rfl (hb hby d1_45) rfl (teq hc44).1 (by decide) (by decide) k) ?_
                  show own_Fin p.tables e below _ (s₁.setTop (mkF m 60 #[.val (.int p0)] []))
                  refine own_by (fun _ k => XS.iconst X0.here hx rfl (hb hby d1_60) k) ?_
                  show own_Fin p.tables e below _ (s₁.setTop (mkF m 61 #[.val (.int p0)] [(.int (1 : Int32))]))
                  refine own_by (fun _ k => XS.goto X0.here hx rfl (pc0 := 61) (pc' := 65) rfl (hb hby d1_61) (by decide) (by decide) k) ?_
                  show own_Fin p.tables e below _ (s₁.setTop (mkF m 65 #[.val (.int p0)] [(.int (1 : Int32))]))
                  have ef := (show f1 p0 = (1 : Int32) from by unfold f1; rw [if_neg hc1, if_pos hc24, if_neg hc25, if_pos hc36, if_neg hc37, if_pos hc42, if_neg hc43, if_pos hc44])
                  exact own_retN X0 hx (t := .boolean) Bd.returns hlk (by simp) (hb hby d1_65) (by decide) (by decide) ⟨by rw [ef]; rfl, N0, e0⟩
                · refine own_by (fun _ k => XS.icmpNo X0.here hx rfl (hb hby d1_45) rfl (feq hc44).1 k) ?_
                  show own_Fin p.tables e below _ (s₁.setTop (mkF m 48 #[.val (.int p0)] []))
                  refine own_by (fun _ k => XS.iloadN X0.here hx rfl (hb hby d1_48) rfl k) ?_
                  show own_Fin p.tables e below _ (s₁.setTop (mkF m 49 #[.val (.int p0)] [(.int p0)]))
                  refine own_by (fun _ k => XS.bipush X0.here hx rfl (hb hby d1_49) k) ?_
                  show own_Fin p.tables e below _ (s₁.setTop (mkF m 51 #[.val (.int p0)] [(.int (95 : Int32)), (.int p0)]))
                  by_cases hc45 : p0 = (95 : Int32)
                  · refine own_by (fun _ k => XS.icmpYes X0.here hx rfl (pc0 := 51) (pc' := 60) rfl (hb hby d1_51) rfl (teq hc45).1 (by decide) (by decide) k) ?_
                    show own_Fin p.tables e below _ (s₁.setTop (mkF m 60 #[.val (.int p0)] []))
                    refine own_by (fun _ k => XS.iconst X0.here hx rfl (hb hby d1_60) k) ?_
                    show own_Fin p.tables e below _ (s₁.setTop (mkF m 61 #[.val (.int p0)] [(.int (1 : Int32))]))
                    refine own_by (fun _ k => XS.goto X0.here hx rfl (pc0 := 61) (pc' := 65) rfl (hb hby d1_61) (by decide) (by decide) k) ?_
                    show own_Fin p.tables e below _ (s₁.setTop (mkF m 65 #[.val (.int p0)] [(.int (1 : Int32))]))
                    have ef := (show f1 p0 = (1 : Int32) from by unfold f1; rw [if_neg hc1, if_pos hc24, if_neg hc25, if_pos hc36, if_neg hc37, if_pos hc42, if_neg hc43, if_neg hc44, if_pos hc45])
                    exact own_retN X0 hx (t := .boolean) Bd.returns hlk (by simp) (hb hby d1_65) (by decide) (by decide) ⟨by rw [ef]; rfl, N0, e0⟩
                  · refine own_by (fun _ k => XS.icmpNo X0.here hx rfl (hb hby d1_51) rfl (feq hc45).1 k) ?_
                    show own_Fin p.tables e below _ (s₁.setTop (mkF m 54 #[.val (.int p0)] []))
                    refine own_by (fun _ k => XS.iloadN X0.here hx rfl (hb hby d1_54) rfl k) ?_
                    show own_Fin p.tables e below _ (s₁.setTop (mkF m 55 #[.val (.int p0)] [(.int p0)]))
                    refine own_by (fun _ k => XS.bipush X0.here hx rfl (hb hby d1_55) k) ?_
                    show own_Fin p.tables e below _ (s₁.setTop (mkF m 57 #[.val (.int p0)] [(.int (126 : Int32)), (.int p0)]))
                    by_cases hc46 : p0 = (126 : Int32)
                    · refine own_by (fun _ k => XS.icmpNo X0.here hx rfl (hb hby d1_57) rfl (teq hc46).2 k) ?_
                      show own_Fin p.tables e below _ (s₁.setTop (mkF m 60 #[.val (.int p0)] []))
                      refine own_by (fun _ k => XS.iconst X0.here hx rfl (hb hby d1_60) k) ?_
                      show own_Fin p.tables e below _ (s₁.setTop (mkF m 61 #[.val (.int p0)] [(.int (1 : Int32))]))
                      refine own_by (fun _ k => XS.goto X0.here hx rfl (pc0 := 61) (pc' := 65) rfl (hb hby d1_61) (by decide) (by decide) k) ?_
                      show own_Fin p.tables e below _ (s₁.setTop (mkF m 65 #[.val (.int p0)] [(.int (1 : Int32))]))
                      have ef := (show f1 p0 = (1 : Int32) from by unfold f1; rw [if_neg hc1, if_pos hc24, if_neg hc25, if_pos hc36, if_neg hc37, if_pos hc42, if_neg hc43, if_neg hc44, if_neg hc45, if_pos hc46])
                      exact own_retN X0 hx (t := .boolean) Bd.returns hlk (by simp) (hb hby d1_65) (by decide) (by decide) ⟨by rw [ef]; rfl, N0, e0⟩
                    · refine own_by (fun _ k => XS.icmpYes X0.here hx rfl (pc0 := 57) (pc' := 64) rfl (hb hby d1_57) rfl (feq hc46).2 (by decide) (by decide) k) ?_
                      show own_Fin p.tables e below _ (s₁.setTop (mkF m 64 #[.val (.int p0)] []))
                      refine own_by (fun _ k => XS.iconst X0.here hx rfl (hb hby d1_64) k) ?_
                      show own_Fin p.tables e below _ (s₁.setTop (mkF m 65 #[.val (.int p0)] [(.int (0 : Int32))]))
                      have ef := (show f1 p0 = (0 : Int32) from by unfold f1; rw [if_neg hc1, if_pos hc24, if_neg hc25, if_pos hc36, if_neg hc37, if_pos hc42, if_neg hc43, if_neg hc44, if_neg hc45, if_neg hc46])
                      exact own_retN X0 hx (t := .boolean) Bd.returns hlk (by simp) (hb hby d1_65) (by decide) (by decide) ⟨by rw [ef]; rfl, N0, e0⟩
            · refine own_by (fun _ k => XS.icmpYes X0.here hx rfl (pc0 := 33) (pc' := 60) rfl (hb hby d1_33) rfl (flt hc42).2.2.2 (by decide) (by decide) k) ?_
              show own_Fin p.tables e below _ (s₁.setTop (mkF m 60 #[.val (.int p0)] []))
              refine own_by (fun _ k => XS.iconst X0.here hx rfl (hb hby d1_60) k) ?_
              show own_Fin p.tables e below _ (s₁.setTop (mkF m 61 #[.val (.int p0)] [(.int (1 : Int32))]))
              refine own_by (fun _ k => XS.goto X0.here hx rfl (pc0 := 61) (pc' := 65) rfl (hb hby d1_61) (by decide) (by decide) k) ?_
              show own_Fin p.tables e below _ (s₁.setTop (mkF m 65 #[.val (.int p0)] [(.int (1 : Int32))]))
              have ef := (show f1 p0 = (1 : Int32) from by unfold f1; rw [if_neg hc1, if_pos hc24, if_neg hc25, if_pos hc36, if_neg hc37, if_neg hc42])
              exact own_retN X0 hx (t := .boolean) Bd.returns hlk (by simp) (hb hby d1_65) (by decide) (by decide) ⟨by rw [ef]; rfl, N0, e0⟩
        · refine own_by (fun _ k => XS.icmpYes X0.here hx rfl (pc0 := 21) (pc' := 60) rfl (hb hby d1_21) rfl (flt hc36).2.2.2 (by decide) (by decide) k) ?_
          show own_Fin p.tables e below _ (s₁.setTop (mkF m 60 #[.val (.int p0)] []))
          refine own_by (fun _ k => XS.iconst X0.here hx rfl (hb hby d1_60) k) ?_
          show own_Fin p.tables e below _ (s₁.setTop (mkF m 61 #[.val (.int p0)] [(.int (1 : Int32))]))
          refine own_by (fun _ k => XS.goto X0.here hx rfl (pc0 := 61) (pc' := 65) rfl (hb hby d1_61) (by decide) (by decide) k) ?_
          show own_Fin p.tables e below _ (s₁.setTop (mkF m 65 #[.val (.int p0)] [(.int (1 : Int32))]))
          have ef := (show f1 p0 = (1 : Int32) from by unfold f1; rw [if_neg hc1, if_pos hc24, if_neg hc25, if_neg hc36])
          exact own_retN X0 hx (t := .boolean) Bd.returns hlk (by simp) (hb hby d1_65) (by decide) (by decide) ⟨by rw [ef]; rfl, N0, e0⟩
    · refine own_by (fun _ k => XS.icmpYes X0.here hx rfl (pc0 := 9) (pc' := 60) rfl (hb hby d1_9) rfl (flt hc24).2.2.2 (by decide) (by decide) k) ?_
      show own_Fin p.tables e below _ (s₁.setTop (mkF m 60 #[.val (.int p0)] []))
      refine own_by (fun _ k => XS.iconst X0.here hx rfl (hb hby d1_60) k) ?_
      show own_Fin p.tables e below _ (s₁.setTop (mkF m 61 #[.val (.int p0)] [(.int (1 : Int32))]))
      refine own_by (fun _ k => XS.goto X0.here hx rfl (pc0 := 61) (pc' := 65) rfl (hb hby d1_61) (by decide) (by decide) k) ?_
      show own_Fin p.tables e below _ (s₁.setTop (mkF m 65 #[.val (.int p0)] [(.int (1 : Int32))]))
      have ef := (show f1 p0 = (1 : Int32) from by unfold f1; rw [if_neg hc1, if_neg hc24])
      exact own_retN X0 hx (t := .boolean) Bd.returns hlk (by simp) (hb hby d1_65) (by decide) (by decide) ⟨by rw [ef]; rfl, N0, e0⟩
theorem d2_0 : decode method_2_code 0 = .ok (.iload_n 0, 1) := by decide +kernel
theorem d2_1 : decode method_2_code 1 = .ok (.ifCond .lt 9, 3) := by decide +kernel
theorem d2_4 : decode method_2_code 4 = .ok (.iload_n 0, 1) := by decide +kernel
theorem d2_5 : decode method_2_code 5 = .ok (.bipush 127, 2) := by decide +kernel
theorem d2_7 : decode method_2_code 7 = .ok (.if_icmp .le 5, 3) := by decide +kernel
theorem d2_10 : decode method_2_code 10 = .ok (.iconst 0, 1) := by decide +kernel
theorem d2_11 : decode method_2_code 11 = .ok (.ireturn, 1) := by decide +kernel
theorem d2_12 : decode method_2_code 12 = .ok (.iload_n 0, 1) := by decide +kernel
theorem d2_13 : decode method_2_code 13 = .ok (.bipush 64, 2) := by decide +kernel
theorem d2_15 : decode method_2_code 15 = .ok (.if_icmp .ge 9, 3) := by decide +kernel
theorem d2_18 : decode method_2_code 18 = .ok (.ldc2_w 9, 3) := by decide +kernel
theorem d2_21 : decode method_2_code 21 = .ok (.goto 6, 3) := by decide +kernel
theorem d2_24 : decode method_2_code 24 = .ok (.ldc2_w 11, 3) := by decide +kernel
theorem d2_27 : decode method_2_code 27 = .ok (.lstore_n 1, 1) := by decide +kernel
theorem d2_28 : decode method_2_code 28 = .ok (.lload_n 1, 1) := by decide +kernel
theorem d2_29 : decode method_2_code 29 = .ok (.iload_n 0, 1) := by decide +kernel
theorem d2_30 : decode method_2_code 30 = .ok (.bipush 63, 2) := by decide +kernel
theorem d2_32 : decode method_2_code 32 = .ok (.iand, 1) := by decide +kernel
theorem d2_33 : decode method_2_code 33 = .ok (.lushr, 1) := by decide +kernel
theorem d2_34 : decode method_2_code 34 = .ok (.lconst 1, 1) := by decide +kernel
theorem d2_35 : decode method_2_code 35 = .ok (.land, 1) := by decide +kernel
theorem d2_36 : decode method_2_code 36 = .ok (.lconst 0, 1) := by decide +kernel
theorem d2_37 : decode method_2_code 37 = .ok (.lcmp, 1) := by decide +kernel
theorem d2_38 : decode method_2_code 38 = .ok (.ifCond .eq 7, 3) := by decide +kernel
theorem d2_41 : decode method_2_code 41 = .ok (.iconst 1, 1) := by decide +kernel
theorem d2_42 : decode method_2_code 42 = .ok (.goto 4, 3) := by decide +kernel
theorem d2_45 : decode method_2_code 45 = .ok (.iconst 0, 1) := by decide +kernel
theorem d2_46 : decode method_2_code 46 = .ok (.ireturn, 1) := by decide +kernel
theorem pn_com_example_agouti_agouti_s3_PercentEncodingIsUnreservedPinLaw : plainName "com/example/agouti/agouti/s3/PercentEncodingIsUnreservedPinLaw" = true := by first | (simp [plainName, overriddenIn]; done) | decide +kernel
theorem ef_2 (m : MethodId) (p0 : Int32) : entryFrame m #[(.int p0)] 3 = mkF m 0 #[.val (.int p0), .unset, .unset] [] := by first | (simp [entryFrame, mkF, argsToLocals, Value.category]; done) | rfl
def f2 (p0 : Int32) : Int32 :=
  if p0 < (0 : Int32) then
    (0 : Int32)
  else
    if (127 : Int32) < p0 then
      (0 : Int32)
    else
      if p0 < (64 : Int32) then
        if ((((288054454291267584 : Int64).toUInt64 >>> ((p0 &&& (63 : Int32)) &&& 0x3f).toInt64.toUInt64).toInt64) &&& (1 : Int64)) = (0 : Int64) then
          (0 : Int32)
        else
          (1 : Int32)
      else
        if ((((5188146764422578174 : Int64).toUInt64 >>> ((p0 &&& (63 : Int32)) &&& 0x3f).toInt64.toUInt64).toInt64) &&& (1 : Int64)) = (0 : Int64) then
          (0 : Int32)
        else
          (1 : Int32)
def Q2 (p0 : Int32) (h0 : Heap) (n0 : Nat) (v : Option Value) (h : Heap) (L : List Loc) : Prop := v = some (.int (f2 p0)) ∧ Fr n0 L ∧ h = h0
set_option maxRecDepth 65536 in
set_option maxHeartbeats 40000000 in
theorem rm2 (l : Launch) (Z : State) (a0 : Array Value) (hw : ∀ d ∈ tables_1, d.before a0 Z = true) (ws : List Jvm.Cond) (p0 : Int32)   (h0 : Heap) (n0 : Nat) (Z0 : n0 ≤ h0.size)   :
    MetFree l (⟨"com/example/agouti/agouti/s3/PercentEncodingIsUnreservedPinLaw", "expected", "(I)Z"⟩ : MethodName) (head1 (Jvm.Cond.code (⟨"com/example/agouti/agouti/s3/PercentEncodingIsUnreservedPinLaw", "expected", "(I)Z"⟩ : MethodName) method_2_code 3 (some .boolean) :: ws) ({ frames := 0, cells := 0, slots := 0, locals := 0 } : Room)) (fun a U => a = #[(.int p0)] ∧ Z.Warmed39 U.vm ∧ U.heap = h0) (fun _ _ _ _ _ => True) (fun _ U o U' => ∃ v L, o = .returned v ∧ Q2 p0 h0 n0 v U'.heap L ∧ FrameEnd U o U' L ({ frames := 0, cells := 0, slots := 0, locals := 0 } : Room).cells ({ frames := 0, cells := 0, slots := 0, locals := 0 } : Room).slots) := by
  refine MetFree.of_bodySF (plainFor_of_name pn_com_example_agouti_agouti_s3_PercentEncodingIsUnreservedPinLaw) hisR ?_
  intro p e s m args below meth c s₁ Bd hml0 hP hK
  obtain ⟨rfl, hZ, hh⟩ := hP
  have hx := Bd.exec
  have hby := Bd.bytes
  have hlk : meth.locks = false := BodyLoose.notSynchronized Bd
  have hml : c.maxLocals = 3 := hml0
  have hown : s.vm.findClass "com/example/agouti/agouti/s3/PercentEncodingIsUnreservedPinLaw" = some m.cls := findClass_of_methodNamed Bd.named
  have hnm := (name_of_methodNamed Bd.named Bd.method).1
  have X0 : Stand p l e ({ frames := 0, cells := 0, slots := 0, locals := 0 } : Room) s m #[(.int p0)] below meth c s₁ [] 0 0 := Stand.of_body Bd
  have e0 : s₁.heap = h0 := by rw [← hh, Bd.state]; rfl
  have N0 := Fr.nil n0
  refine own_by (U' := s₁.setTop (mkF m 0 #[.val (.int p0), .unset, .unset] [])) (fun t k => castTop (ef_2 m p0) k) ?_
  refine own_by (fun _ k => XS.iloadN X0.here hx rfl (hb hby d2_0) rfl k) ?_
  show own_Fin p.tables e below _ (s₁.setTop (mkF m 1 #[.val (.int p0), .unset, .unset] [(.int p0)]))
  by_cases hc1 : p0 < (0 : Int32)
  · refine own_by (fun _ k => XS.ifYes X0.here hx rfl (pc0 := 1) (pc' := 10) rfl (hb hby d2_1) rfl ((if0 _ _).trans (tlt hc1).1) (by decide) (by decide) k) ?_
    show own_Fin p.tables e below _ (s₁.setTop (mkF m 10 #[.val (.int p0), .unset, .unset] []))
    refine own_by (fun _ k => XS.iconst X0.here hx rfl (hb hby d2_10) k) ?_
    show own_Fin p.tables e below _ (s₁.setTop (mkF m 11 #[.val (.int p0), .unset, .unset] [(.int (0 : Int32))]))
    have ef := (show f2 p0 = (0 : Int32) from by unfold f2; rw [if_pos hc1])
    exact own_retN X0 hx (t := .boolean) Bd.returns hlk (by simp) (hb hby d2_11) (by decide) (by decide) ⟨by rw [ef]; rfl, N0, e0⟩
  · refine own_by (fun _ k => XS.ifNo X0.here hx rfl (hb hby d2_1) rfl ((if0 _ _).trans (flt hc1).1) k) ?_
    show own_Fin p.tables e below _ (s₁.setTop (mkF m 4 #[.val (.int p0), .unset, .unset] []))
    refine own_by (fun _ k => XS.iloadN X0.here hx rfl (hb hby d2_4) rfl k) ?_
    show own_Fin p.tables e below _ (s₁.setTop (mkF m 5 #[.val (.int p0), .unset, .unset] [(.int p0)]))
    refine own_by (fun _ k => XS.bipush X0.here hx rfl (hb hby d2_5) k) ?_
    show own_Fin p.tables e below _ (s₁.setTop (mkF m 7 #[.val (.int p0), .unset, .unset] [(.int (127 : Int32)), (.int p0)]))
    by_cases hc2 : (127 : Int32) < p0
    · refine own_by (fun _ k => XS.icmpNo X0.here hx rfl (hb hby d2_7) rfl (tlt hc2).2.2.2 k) ?_
      show own_Fin p.tables e below _ (s₁.setTop (mkF m 10 #[.val (.int p0), .unset, .unset] []))
      refine own_by (fun _ k => XS.iconst X0.here hx rfl (hb hby d2_10) k) ?_
      show own_Fin p.tables e below _ (s₁.setTop (mkF m 11 #[.val (.int p0), .unset, .unset] [(.int (0 : Int32))]))
      have ef := (show f2 p0 = (0 : Int32) from by unfold f2; rw [if_neg hc1, if_pos hc2])
      exact own_retN X0 hx (t := .boolean) Bd.returns hlk (by simp) (hb hby d2_11) (by decide) (by decide) ⟨by rw [ef]; rfl, N0, e0⟩
    · refine own_by (fun _ k => XS.icmpYes X0.here hx rfl (pc0 := 7) (pc' := 12) rfl (hb hby d2_7) rfl (flt hc2).2.2.2 (by decide) (by decide) k) ?_
      show own_Fin p.tables e below _ (s₁.setTop (mkF m 12 #[.val (.int p0), .unset, .unset] []))
      refine own_by (fun _ k => XS.iloadN X0.here hx rfl (hb hby d2_12) rfl k) ?_
      show own_Fin p.tables e below _ (s₁.setTop (mkF m 13 #[.val (.int p0), .unset, .unset] [(.int p0)]))
      refine own_by (fun _ k => XS.bipush X0.here hx rfl (hb hby d2_13) k) ?_
      show own_Fin p.tables e below _ (s₁.setTop (mkF m 15 #[.val (.int p0), .unset, .unset] [(.int (64 : Int32)), (.int p0)]))
      by_cases hc3 : p0 < (64 : Int32)
      · refine own_by (fun _ k => XS.icmpNo X0.here hx rfl (hb hby d2_15) rfl (tlt hc3).2.1 k) ?_
        show own_Fin p.tables e below _ (s₁.setTop (mkF m 18 #[.val (.int p0), .unset, .unset] []))
        refine own_by (X0.ldc2Long hx hown (mvT hZ (hw _ (List.mem_of_getElem? (i := 9) rfl))) (g := (mkF m 18 #[.val (.int p0), .unset, .unset] [])) rfl (hb hby d2_18)) ?_
        show own_Fin p.tables e below _ (s₁.setTop (mkF m 21 #[.val (.int p0), .unset, .unset] [(.long (288054454291267584 : Int64))]))
        refine own_by (fun _ k => XS.goto X0.here hx rfl (pc0 := 21) (pc' := 27) rfl (hb hby d2_21) (by decide) (by decide) k) ?_
        show own_Fin p.tables e below _ (s₁.setTop (mkF m 27 #[.val (.int p0), .unset, .unset] [(.long (288054454291267584 : Int64))]))
        refine own_by (fun _ k => XS.lstoreN X0.here hx rfl (hb hby d2_27) rfl (l' := #[.val (.int p0), .val (.long (288054454291267584 : Int64)), .second]) rfl k) ?_
        show own_Fin p.tables e below _ (s₁.setTop (mkF m 28 #[.val (.int p0), .val (.long (288054454291267584 : Int64)), .second] []))
        refine own_by (fun _ k => XS.lloadN X0.here hx rfl (hb hby d2_28) rfl k) ?_
        show own_Fin p.tables e below _ (s₁.setTop (mkF m 29 #[.val (.int p0), .val (.long (288054454291267584 : Int64)), .second] [(.long (288054454291267584 : Int64))]))
        refine own_by (fun _ k => XS.iloadN X0.here hx rfl (hb hby d2_29) rfl k) ?_
        show own_Fin p.tables e below _ (s₁.setTop (mkF m 30 #[.val (.int p0), .val (.long (288054454291267584 : Int64)), .second] [(.int p0), (.long (288054454291267584 : Int64))]))
        refine own_by (fun _ k => XS.bipush X0.here hx rfl (hb hby d2_30) k) ?_
        show own_Fin p.tables e below _ (s₁.setTop (mkF m 32 #[.val (.int p0), .val (.long (288054454291267584 : Int64)), .second] [(.int (63 : Int32)), (.int p0), (.long (288054454291267584 : Int64))]))
        refine own_by (fun _ k => XS.iand X0.here hx rfl (hb hby d2_32) rfl k) ?_
        show own_Fin p.tables e below _ (s₁.setTop (mkF m 33 #[.val (.int p0), .val (.long (288054454291267584 : Int64)), .second] [(.int (p0 &&& (63 : Int32))), (.long (288054454291267584 : Int64))]))
        refine own_by (fun _ k => XS.lushr X0.here hx rfl (hb hby d2_33) rfl k) ?_
        show own_Fin p.tables e below _ (s₁.setTop (mkF m 34 #[.val (.int p0), .val (.long (288054454291267584 : Int64)), .second] [(.long (((288054454291267584 : Int64).toUInt64 >>> ((p0 &&& (63 : Int32)) &&& 0x3f).toInt64.toUInt64).toInt64))]))
        refine own_by (fun _ k => XS.lconst X0.here hx rfl (hb hby d2_34) k) ?_
        show own_Fin p.tables e below _ (s₁.setTop (mkF m 35 #[.val (.int p0), .val (.long (288054454291267584 : Int64)), .second] [(.long (1 : Int64)), (.long (((288054454291267584 : Int64).toUInt64 >>> ((p0 &&& (63 : Int32)) &&& 0x3f).toInt64.toUInt64).toInt64))]))
        refine own_by (fun _ k => XS.land X0.here hx rfl (hb hby d2_35) rfl k) ?_
        show own_Fin p.tables e below _ (s₁.setTop (mkF m 36 #[.val (.int p0), .val (.long (288054454291267584 : Int64)), .second] [(.long ((((288054454291267584 : Int64).toUInt64 >>> ((p0 &&& (63 : Int32)) &&& 0x3f).toInt64.toUInt64).toInt64) &&& (1 : Int64)))]))
        refine own_by (fun _ k => XS.lconst X0.here hx rfl (hb hby d2_36) k) ?_
        show own_Fin p.tables e below _ (s₁.setTop (mkF m 37 #[.val (.int p0), .val (.long (288054454291267584 : Int64)), .second] [(.long (0 : Int64)), (.long ((((288054454291267584 : Int64).toUInt64 >>> ((p0 &&& (63 : Int32)) &&& 0x3f).toInt64.toUInt64).toInt64) &&& (1 : Int64)))]))
        refine own_by (fun _ k => XS.lcmp X0.here hx rfl (hb hby d2_37) rfl k) ?_
        show own_Fin p.tables e below _ (s₁.setTop (mkF m 38 #[.val (.int p0), .val (.long (288054454291267584 : Int64)), .second] [(.int (lcmpW ((((288054454291267584 : Int64).toUInt64 >>> ((p0 &&& (63 : Int32)) &&& 0x3f).toInt64.toUInt64).toInt64) &&& (1 : Int64)) (0 : Int64)))]))
        by_cases hc4 : ((((288054454291267584 : Int64).toUInt64 >>> ((p0 &&& (63 : Int32)) &&& 0x3f).toInt64.toUInt64).toInt64) &&& (1 : Int64)) = (0 : Int64)
        · refine own_by (fun _ k => XS.ifYes X0.here hx rfl (pc0 := 38) (pc' := 45) rfl (hb hby d2_38) rfl ((if0 _ _).trans (teq ((lw_eq _ _).mpr hc4)).1) (by decide) (by decide) k) ?_
          show own_Fin p.tables e below _ (s₁.setTop (mkF m 45 #[.val (.int p0), .val (.long (288054454291267584 : Int64)), .second] []))
          refine own_by (fun _ k => XS.iconst X0.here hx rfl (hb hby d2_45) k) ?_
          show own_Fin p.tables e below _ (s₁.setTop (mkF m 46 #[.val (.int p0), .val (.long (288054454291267584 : Int64)), .second] [(.int (0 : Int32))]))
          have ef := (show f2 p0 = (0 : Int32) from by unfold f2; rw [if_neg hc1, if_neg hc2, if_pos hc3, if_pos hc4])
          exact own_retN X0 hx (t := .boolean) Bd.returns hlk (by simp) (hb hby d2_46) (by decide) (by decide) ⟨by rw [ef]; rfl, N0, e0⟩
        · refine own_by (fun _ k => XS.ifNo X0.here hx rfl (hb hby d2_38) rfl ((if0 _ _).trans (feq (fun q => hc4 ((lw_eq _ _).mp q))).1) k) ?_
          show own_Fin p.tables e below _ (s₁.setTop (mkF m 41 #[.val (.int p0), .val (.long (288054454291267584 : Int64)), .second] []))
          refine own_by (fun _ k => XS.iconst X0.here hx rfl (hb hby d2_41) k) ?_
          show own_Fin p.tables e below _ (s₁.setTop (mkF m 42 #[.val (.int p0), .val (.long (288054454291267584 : Int64)), .second] [(.int (1 : Int32))]))
          refine own_by (fun _ k => XS.goto X0.here hx rfl (pc0 := 42) (pc' := 46) rfl (hb hby d2_42) (by decide) (by decide) k) ?_
          show own_Fin p.tables e below _ (s₁.setTop (mkF m 46 #[.val (.int p0), .val (.long (288054454291267584 : Int64)), .second] [(.int (1 : Int32))]))
          have ef := (show f2 p0 = (1 : Int32) from by unfold f2; rw [if_neg hc1, if_neg hc2, if_pos hc3, if_neg hc4])
          exact own_retN X0 hx (t := .boolean) Bd.returns hlk (by simp) (hb hby d2_46) (by decide) (by decide) ⟨by rw [ef]; rfl, N0, e0⟩
      · refine own_by (fun _ k => XS.icmpYes X0.here hx rfl (pc0 := 15) (pc' := 24) rfl (hb hby d2_15) rfl (flt hc3).2.1 (by decide) (by decide) k) ?_
        show own_Fin p.tables e below _ (s₁.setTop (mkF m 24 #[.val (.int p0), .unset, .unset] []))
        refine own_by (X0.ldc2Long hx hown (mvT hZ (hw _ (List.mem_of_getElem? (i := 10) rfl))) (g := (mkF m 24 #[.val (.int p0), .unset, .unset] [])) rfl (hb hby d2_24)) ?_
        show own_Fin p.tables e below _ (s₁.setTop (mkF m 27 #[.val (.int p0), .unset, .unset] [(.long (5188146764422578174 : Int64))]))
        refine own_by (fun _ k => XS.lstoreN X0.here hx rfl (hb hby d2_27) rfl (l' := #[.val (.int p0), .val (.long (5188146764422578174 : Int64)), .second]) rfl k) ?_
        show own_Fin p.tables e below _ (s₁.setTop (mkF m 28 #[.val (.int p0), .val (.long (5188146764422578174 : Int64)), .second] []))
        refine own_by (fun _ k => XS.lloadN X0.here hx rfl (hb hby d2_28) rfl k) ?_
        show own_Fin p.tables e below _ (s₁.setTop (mkF m 29 #[.val (.int p0), .val (.long (5188146764422578174 : Int64)), .second] [(.long (5188146764422578174 : Int64))]))
        refine own_by (fun _ k => XS.iloadN X0.here hx rfl (hb hby d2_29) rfl k) ?_
        show own_Fin p.tables e below _ (s₁.setTop (mkF m 30 #[.val (.int p0), .val (.long (5188146764422578174 : Int64)), .second] [(.int p0), (.long (5188146764422578174 : Int64))]))
        refine own_by (fun _ k => XS.bipush X0.here hx rfl (hb hby d2_30) k) ?_
        show own_Fin p.tables e below _ (s₁.setTop (mkF m 32 #[.val (.int p0), .val (.long (5188146764422578174 : Int64)), .second] [(.int (63 : Int32)), (.int p0), (.long (5188146764422578174 : Int64))]))
        refine own_by (fun _ k => XS.iand X0.here hx rfl (hb hby d2_32) rfl k) ?_
        show own_Fin p.tables e below _ (s₁.setTop (mkF m 33 #[.val (.int p0), .val (.long (5188146764422578174 : Int64)), .second] [(.int (p0 &&& (63 : Int32))), (.long (5188146764422578174 : Int64))]))
        refine own_by (fun _ k => XS.lushr X0.here hx rfl (hb hby d2_33) rfl k) ?_
        show own_Fin p.tables e below _ (s₁.setTop (mkF m 34 #[.val (.int p0), .val (.long (5188146764422578174 : Int64)), .second] [(.long (((5188146764422578174 : Int64).toUInt64 >>> ((p0 &&& (63 : Int32)) &&& 0x3f).toInt64.toUInt64).toInt64))]))
        refine own_by (fun _ k => XS.lconst X0.here hx rfl (hb hby d2_34) k) ?_
        show own_Fin p.tables e below _ (s₁.setTop (mkF m 35 #[.val (.int p0), .val (.long (5188146764422578174 : Int64)), .second] [(.long (1 : Int64)), (.long (((5188146764422578174 : Int64).toUInt64 >>> ((p0 &&& (63 : Int32)) &&& 0x3f).toInt64.toUInt64).toInt64))]))
        refine own_by (fun _ k => XS.land X0.here hx rfl (hb hby d2_35) rfl k) ?_
        show own_Fin p.tables e below _ (s₁.setTop (mkF m 36 #[.val (.int p0), .val (.long (5188146764422578174 : Int64)), .second] [(.long ((((5188146764422578174 : Int64).toUInt64 >>> ((p0 &&& (63 : Int32)) &&& 0x3f).toInt64.toUInt64).toInt64) &&& (1 : Int64)))]))
        refine own_by (fun _ k => XS.lconst X0.here hx rfl (hb hby d2_36) k) ?_
        show own_Fin p.tables e below _ (s₁.setTop (mkF m 37 #[.val (.int p0), .val (.long (5188146764422578174 : Int64)), .second] [(.long (0 : Int64)), (.long ((((5188146764422578174 : Int64).toUInt64 >>> ((p0 &&& (63 : Int32)) &&& 0x3f).toInt64.toUInt64).toInt64) &&& (1 : Int64)))]))
        refine own_by (fun _ k => XS.lcmp X0.here hx rfl (hb hby d2_37) rfl k) ?_
        show own_Fin p.tables e below _ (s₁.setTop (mkF m 38 #[.val (.int p0), .val (.long (5188146764422578174 : Int64)), .second] [(.int (lcmpW ((((5188146764422578174 : Int64).toUInt64 >>> ((p0 &&& (63 : Int32)) &&& 0x3f).toInt64.toUInt64).toInt64) &&& (1 : Int64)) (0 : Int64)))]))
        by_cases hc5 : ((((5188146764422578174 : Int64).toUInt64 >>> ((p0 &&& (63 : Int32)) &&& 0x3f).toInt64.toUInt64).toInt64) &&& (1 : Int64)) = (0 : Int64)
        · refine own_by (fun _ k => XS.ifYes X0.here hx rfl (pc0 := 38) (pc' := 45) rfl (hb hby d2_38) rfl ((if0 _ _).trans (teq ((lw_eq _ _).mpr hc5)).1) (by decide) (by decide) k) ?_
          show own_Fin p.tables e below _ (s₁.setTop (mkF m 45 #[.val (.int p0), .val (.long (5188146764422578174 : Int64)), .second] []))
          refine own_by (fun _ k => XS.iconst X0.here hx rfl (hb hby d2_45) k) ?_
          show own_Fin p.tables e below _ (s₁.setTop (mkF m 46 #[.val (.int p0), .val (.long (5188146764422578174 : Int64)), .second] [(.int (0 : Int32))]))
          have ef := (show f2 p0 = (0 : Int32) from by unfold f2; rw [if_neg hc1, if_neg hc2, if_neg hc3, if_pos hc5])
          exact own_retN X0 hx (t := .boolean) Bd.returns hlk (by simp) (hb hby d2_46) (by decide) (by decide) ⟨by rw [ef]; rfl, N0, e0⟩
        · refine own_by (fun _ k => XS.ifNo X0.here hx rfl (hb hby d2_38) rfl ((if0 _ _).trans (feq (fun q => hc5 ((lw_eq _ _).mp q))).1) k) ?_
          show own_Fin p.tables e below _ (s₁.setTop (mkF m 41 #[.val (.int p0), .val (.long (5188146764422578174 : Int64)), .second] []))
          refine own_by (fun _ k => XS.iconst X0.here hx rfl (hb hby d2_41) k) ?_
          show own_Fin p.tables e below _ (s₁.setTop (mkF m 42 #[.val (.int p0), .val (.long (5188146764422578174 : Int64)), .second] [(.int (1 : Int32))]))
          refine own_by (fun _ k => XS.goto X0.here hx rfl (pc0 := 42) (pc' := 46) rfl (hb hby d2_42) (by decide) (by decide) k) ?_
          show own_Fin p.tables e below _ (s₁.setTop (mkF m 46 #[.val (.int p0), .val (.long (5188146764422578174 : Int64)), .second] [(.int (1 : Int32))]))
          have ef := (show f2 p0 = (1 : Int32) from by unfold f2; rw [if_neg hc1, if_neg hc2, if_neg hc3, if_neg hc5])
          exact own_retN X0 hx (t := .boolean) Bd.returns hlk (by simp) (hb hby d2_46) (by decide) (by decide) ⟨by rw [ef]; rfl, N0, e0⟩
theorem pd__I_Z : parseMethodDescriptor "(I)Z" = some ⟨[.int], some .boolean⟩ := by decide +kernel
theorem ef_0 (m : MethodId) (p0 : Int32) (p1 : Int32) : entryFrame m #[(.int p0), (.int p1)] maxLocals = mkF m 0 #[.val (.int p0), .val (.int p1), .unset, .unset] [] := by first | (simp [entryFrame, mkF, argsToLocals, Value.category, maxLocals]; done) | rfl
def f0 (p0 : Int32) (p1 : Int32) : Int32 :=
  if (p1 &&& (3 : Int32)) = (0 : Int32) then
    if (f1 p0) = (f2 p0) then
      (1 : Int32)
    else
      (0 : Int32)
  else
    if (p1 &&& (3 : Int32)) = (1 : Int32) then
      if (f1 (p0 &&& (127 : Int32))) = (f2 (p0 &&& (127 : Int32))) then
        (1 : Int32)
      else
        (0 : Int32)
    else
      if (p1 &&& (3 : Int32)) = (2 : Int32) then
        if (f1 (p0 &&& (255 : Int32))) = (f2 (p0 &&& (255 : Int32))) then
          (1 : Int32)
        else
          (0 : Int32)
      else
        if (f1 (p0 &&& (65535 : Int32))) = (f2 (p0 &&& (65535 : Int32))) then
          (1 : Int32)
        else
          (0 : Int32)
def Q0 (p0 : Int32) (p1 : Int32) (h0 : Heap) (n0 : Nat) (v : Option Value) (h : Heap) (L : List Loc) : Prop := v = some (.int (f0 p0 p1)) ∧ Fr n0 L
set_option maxRecDepth 65536 in
set_option maxHeartbeats 40000000 in
theorem rm0 (l : Launch) (Z : State) (a0 : Array Value) (hw : ∀ d ∈ tables_1, d.before a0 Z = true) (ws : List Jvm.Cond) (p0 : Int32) (p1 : Int32)   (h0 : Heap) (n0 : Nat) (Z0 : n0 ≤ h0.size)   :
    MetFree l x (head1 (Jvm.Cond.code x code maxLocals ret :: ws) room_1) (fun a U => a = #[(.int p0), (.int p1)] ∧ Z.Warmed39 U.vm ∧ U.heap = h0) (fun _ _ _ _ _ => True) (fun _ U o U' => ∃ v L, o = .returned v ∧ Q0 p0 p1 h0 n0 v U'.heap L ∧ FrameEnd U o U' L 0 0) := by
  refine MetFree.of_bodySF (plainFor_of_name pn_com_example_agouti_agouti_s3_PercentEncodingIsUnreservedPinLaw) hisR ?_
  intro p e s m args below meth c s₁ Bd hml0 hP hK
  obtain ⟨rfl, hZ, hh⟩ := hP
  have hx := Bd.exec
  have hby := Bd.bytes
  have hlk : meth.locks = false := BodyLoose.notSynchronized Bd
  have hml : c.maxLocals = 4 := hml0
  have hown : s.vm.findClass "com/example/agouti/agouti/s3/PercentEncodingIsUnreservedPinLaw" = some m.cls := findClass_of_methodNamed Bd.named
  have hnm := (name_of_methodNamed Bd.named Bd.method).1
  have X0 : Stand p l e room_1 s m #[(.int p0), (.int p1)] below meth c s₁ [] 0 0 := Stand.of_body Bd
  have e0 : s₁.heap = h0 := by rw [← hh, Bd.state]; rfl
  have N0 := Fr.nil n0
  refine own_by (U' := s₁.setTop (mkF m 0 #[.val (.int p0), .val (.int p1), .unset, .unset] [])) (fun t k => castTop (ef_0 m p0 p1) k) ?_
  refine own_by (fun _ k => XS.iloadN X0.here hx rfl (hb hby at_0) rfl k) ?_
  show own_Fin p.tables e below _ (s₁.setTop (mkF m 1 #[.val (.int p0), .val (.int p1), .unset, .unset] [(.int p1)]))
  refine own_by (fun _ k => XS.iconst X0.here hx rfl (hb hby at_1) k) ?_
  show own_Fin p.tables e below _ (s₁.setTop (mkF m 2 #[.val (.int p0), .val (.int p1), .unset, .unset] [(.int (3 : Int32)), (.int p1)]))
  refine own_by (fun _ k => XS.iand X0.here hx rfl (hb hby at_2) rfl k) ?_
  show own_Fin p.tables e below _ (s₁.setTop (mkF m 3 #[.val (.int p0), .val (.int p1), .unset, .unset] [(.int (p1 &&& (3 : Int32)))]))
  refine own_by (fun _ k => XS.istoreN X0.here hx rfl (hb hby at_3) rfl (l' := #[.val (.int p0), .val (.int p1), .val (.int (p1 &&& (3 : Int32))), .unset]) rfl k) ?_
  show own_Fin p.tables e below _ (s₁.setTop (mkF m 4 #[.val (.int p0), .val (.int p1), .val (.int (p1 &&& (3 : Int32))), .unset] []))
  refine own_by (fun _ k => XS.iloadN X0.here hx rfl (hb hby at_4) rfl k) ?_
  show own_Fin p.tables e below _ (s₁.setTop (mkF m 5 #[.val (.int p0), .val (.int p1), .val (.int (p1 &&& (3 : Int32))), .unset] [(.int (p1 &&& (3 : Int32)))]))
  by_cases hc1 : (p1 &&& (3 : Int32)) = (0 : Int32)
  · refine own_by (fun _ k => XS.ifNo X0.here hx rfl (hb hby at_5) rfl ((if0 _ _).trans (teq hc1).2) k) ?_
    show own_Fin p.tables e below _ (s₁.setTop (mkF m 8 #[.val (.int p0), .val (.int p1), .val (.int (p1 &&& (3 : Int32))), .unset] []))
    refine own_by (fun _ k => XS.iloadN X0.here hx rfl (hb hby at_8) rfl k) ?_
    show own_Fin p.tables e below _ (s₁.setTop (mkF m 9 #[.val (.int p0), .val (.int p1), .val (.int (p1 &&& (3 : Int32))), .unset] [(.int p0)]))
    refine own_by (fun _ k => XS.istoreN X0.here hx rfl (hb hby at_9) rfl (l' := #[.val (.int p0), .val (.int p1), .val (.int (p1 &&& (3 : Int32))), .val (.int p0)]) rfl k) ?_
    show own_Fin p.tables e below _ (s₁.setTop (mkF m 10 #[.val (.int p0), .val (.int p1), .val (.int (p1 &&& (3 : Int32))), .val (.int p0)] []))
    refine own_by (fun _ k => XS.goto X0.here hx rfl (pc0 := 10) (pc' := 45) rfl (hb hby at_10) (by decide) (by decide) k) ?_
    show own_Fin p.tables e below _ (s₁.setTop (mkF m 45 #[.val (.int p0), .val (.int p1), .val (.int (p1 &&& (3 : Int32))), .val (.int p0)] []))
    refine own_by (fun _ k => XS.iloadN X0.here hx rfl (hb hby at_45) rfl k) ?_
    show own_Fin p.tables e below _ (s₁.setTop (mkF m 46 #[.val (.int p0), .val (.int p1), .val (.int (p1 &&& (3 : Int32))), .val (.int p0)] [(.int p0)]))
    obtain ⟨_, _, ⟨T2, L2, k2, n2⟩, -, X2, ⟨Lc2, hQ2, l2, y2, z2⟩, st2⟩ := Jvm.LawKit.callS X0 hx (y := (⟨"com/example/agouti/agouti/s3/PercentEncoding", "isUnreserved", "(I)Z"⟩ : MethodName)) hown (mvT hZ (hw _ (List.mem_of_getElem? (i := 1) rfl))) (mvT hZ (hw _ (List.mem_of_getElem? (i := 2) rfl))) (mvT hZ (hw _ (List.mem_of_getElem? (i := 3) rfl))) (mvT hZ (hw _ (List.mem_of_getElem? (i := 4) rfl))) (by decide) (backOf (W := 0) (rm1 l Z a0 hw [] p0 h0 n0 Z0 ) hZ (hw _ (List.mem_of_getElem? (i := 4) rfl)) (hw _ (List.mem_of_getElem? (i := 3) rfl)) (by decide) (by decide)) (g := (mkF m 46 #[.val (.int p0), .val (.int p1), .val (.int (p1 &&& (3 : Int32))), .val (.int p0)] [(.int p0)])) rfl (by rw [hml]; rfl) (argsL := [(.int p0)]) (rest := []) (lenOf pd__I_Z rfl) rfl (by show 2 * 0 + _ ≤ _; exact Nat.le_of_eq rfl) (hb hby at_46) (fun _ _ => ⟨rfl, e0, (by decide : 0 + 0 ≤ _), (by decide : 0 + 0 ≤ _)⟩)
    dsimp only [Pt.U, Pt.locs, Pt.cells, Pt.slots] at X2 l2 y2 z2 st2 hQ2
    subst l2 y2 z2
    obtain ⟨rfl, N2q, e2⟩ := hQ2
    have N2 := Fr.app N0 N2q
    refine own_by st2 ?_
    show own_Fin p.tables e below _ (T2.setTop (mkF m 49 #[.val (.int p0), .val (.int p1), .val (.int (p1 &&& (3 : Int32))), .val (.int p0)] [(.int (f1 p0))]))
    refine own_by (fun _ k => XS.iloadN X2.here hx rfl (hb hby at_49) rfl k) ?_
    show own_Fin p.tables e below _ (T2.setTop (mkF m 50 #[.val (.int p0), .val (.int p1), .val (.int (p1 &&& (3 : Int32))), .val (.int p0)] [(.int p0), (.int (f1 p0))]))
    obtain ⟨_, _, ⟨T3, L3, k3, n3⟩, -, X3, ⟨Lc3, hQ3, l3, y3, z3⟩, st3⟩ := Jvm.LawKit.callS X2 hx (y := (⟨"com/example/agouti/agouti/s3/PercentEncodingIsUnreservedPinLaw", "expected", "(I)Z"⟩ : MethodName)) hown (mvT hZ (hw _ (List.mem_of_getElem? (i := 5) rfl))) (mvT hZ (hw _ (List.mem_of_getElem? (i := 6) rfl))) (mvT hZ (hw _ (List.mem_of_getElem? (i := 7) rfl))) (mvT hZ (hw _ (List.mem_of_getElem? (i := 8) rfl))) (by decide) (backOf (W := 1) (rm2 l Z a0 hw [] p0 h0 n0 Z0 ) hZ (hw _ (List.mem_of_getElem? (i := 8) rfl)) (hw _ (List.mem_of_getElem? (i := 7) rfl)) (by decide) (by decide)) (g := (mkF m 50 #[.val (.int p0), .val (.int p1), .val (.int (p1 &&& (3 : Int32))), .val (.int p0)] [(.int p0), (.int (f1 p0))])) rfl (by rw [hml]; rfl) (argsL := [(.int p0)]) (rest := [(.int (f1 p0))]) (lenOf pd__I_Z rfl) rfl (by show 2 * 0 + _ ≤ _; exact Nat.le_of_eq rfl) (hb hby at_50) (fun _ _ => ⟨rfl, e2, (by decide : 0 + 0 ≤ _), (by decide : 0 + 0 ≤ _)⟩)
    dsimp only [Pt.U, Pt.locs, Pt.cells, Pt.slots] at X3 l3 y3 z3 st3 hQ3
    subst l3 y3 z3
    obtain ⟨rfl, N3q, e3⟩ := hQ3
    have N3 := Fr.app N2 N3q
    refine own_by st3 ?_
    show own_Fin p.tables e below _ (T3.setTop (mkF m 53 #[.val (.int p0), .val (.int p1), .val (.int (p1 &&& (3 : Int32))), .val (.int p0)] [(.int (f2 p0)), (.int (f1 p0))]))
    by_cases hc4 : (f1 p0) = (f2 p0)
    · refine own_by (fun _ k => XS.icmpNo X3.here hx rfl (hb hby at_53) rfl (teq hc4).2 k) ?_
      show own_Fin p.tables e below _ (T3.setTop (mkF m 56 #[.val (.int p0), .val (.int p1), .val (.int (p1 &&& (3 : Int32))), .val (.int p0)] []))
      refine own_by (fun _ k => XS.iconst X3.here hx rfl (hb hby at_56) k) ?_
      show own_Fin p.tables e below _ (T3.setTop (mkF m 57 #[.val (.int p0), .val (.int p1), .val (.int (p1 &&& (3 : Int32))), .val (.int p0)] [(.int (1 : Int32))]))
      refine own_by (fun _ k => XS.goto X3.here hx rfl (pc0 := 57) (pc' := 61) rfl (hb hby at_57) (by decide) (by decide) k) ?_
      show own_Fin p.tables e below _ (T3.setTop (mkF m 61 #[.val (.int p0), .val (.int p1), .val (.int (p1 &&& (3 : Int32))), .val (.int p0)] [(.int (1 : Int32))]))
      have ef := (show f0 p0 p1 = (1 : Int32) from by unfold f0; rw [if_pos hc1, if_pos hc4])
      exact own_retN X3 hx (t := .boolean) Bd.returns hlk (by simp) (hb hby at_61) (by decide) (by decide) ⟨by rw [ef]; rfl, N3⟩
    · refine own_by (fun _ k => XS.icmpYes X3.here hx rfl (pc0 := 53) (pc' := 60) rfl (hb hby at_53) rfl (feq hc4).2 (by decide) (by decide) k) ?_
      show own_Fin p.tables e below _ (T3.setTop (mkF m 60 #[.val (.int p0), .val (.int p1), .val (.int (p1 &&& (3 : Int32))), .val (.int p0)] []))
      refine own_by (fun _ k => XS.iconst X3.here hx rfl (hb hby at_60) k) ?_
      show own_Fin p.tables e below _ (T3.setTop (mkF m 61 #[.val (.int p0), .val (.int p1), .val (.int (p1 &&& (3 : Int32))), .val (.int p0)] [(.int (0 : Int32))]))
      have ef := (show f0 p0 p1 = (0 : Int32) from by unfold f0; rw [if_pos hc1, if_neg hc4])
      exact own_retN X3 hx (t := .boolean) Bd.returns hlk (by simp) (hb hby at_61) (by decide) (by decide) ⟨by rw [ef]; rfl, N3⟩
  · refine own_by (fun _ k => XS.ifYes X0.here hx rfl (pc0 := 5) (pc' := 13) rfl (hb hby at_5) rfl ((if0 _ _).trans (feq hc1).2) (by decide) (by decide) k) ?_
    show own_Fin p.tables e below _ (s₁.setTop (mkF m 13 #[.val (.int p0), .val (.int p1), .val (.int (p1 &&& (3 : Int32))), .unset] []))
    refine own_by (fun _ k => XS.iloadN X0.here hx rfl (hb hby at_13) rfl k) ?_
    show own_Fin p.tables e below _ (s₁.setTop (mkF m 14 #[.val (.int p0), .val (.int p1), .val (.int (p1 &&& (3 : Int32))), .unset] [(.int (p1 &&& (3 : Int32)))]))
    refine own_by (fun _ k => XS.iconst X0.here hx rfl (hb hby at_14) k) ?_
    show own_Fin p.tables e below _ (s₁.setTop (mkF m 15 #[.val (.int p0), .val (.int p1), .val (.int (p1 &&& (3 : Int32))), .unset] [(.int (1 : Int32)), (.int (p1 &&& (3 : Int32)))]))
    by_cases hc5 : (p1 &&& (3 : Int32)) = (1 : Int32)
    · refine own_by (fun _ k => XS.icmpNo X0.here hx rfl (hb hby at_15) rfl (teq hc5).2 k) ?_
      show own_Fin p.tables e below _ (s₁.setTop (mkF m 18 #[.val (.int p0), .val (.int p1), .val (.int (p1 &&& (3 : Int32))), .unset] []))
      refine own_by (fun _ k => XS.iloadN X0.here hx rfl (hb hby at_18) rfl k) ?_
      show own_Fin p.tables e below _ (s₁.setTop (mkF m 19 #[.val (.int p0), .val (.int p1), .val (.int (p1 &&& (3 : Int32))), .unset] [(.int p0)]))
      refine own_by (fun _ k => XS.bipush X0.here hx rfl (hb hby at_19) k) ?_
      show own_Fin p.tables e below _ (s₁.setTop (mkF m 21 #[.val (.int p0), .val (.int p1), .val (.int (p1 &&& (3 : Int32))), .unset] [(.int (127 : Int32)), (.int p0)]))
      refine own_by (fun _ k => XS.iand X0.here hx rfl (hb hby at_21) rfl k) ?_
      show own_Fin p.tables e below _ (s₁.setTop (mkF m 22 #[.val (.int p0), .val (.int p1), .val (.int (p1 &&& (3 : Int32))), .unset] [(.int (p0 &&& (127 : Int32)))]))
      refine own_by (fun _ k => XS.istoreN X0.here hx rfl (hb hby at_22) rfl (l' := #[.val (.int p0), .val (.int p1), .val (.int (p1 &&& (3 : Int32))), .val (.int (p0 &&& (127 : Int32)))]) rfl k) ?_
      show own_Fin p.tables e below _ (s₁.setTop (mkF m 23 #[.val (.int p0), .val (.int p1), .val (.int (p1 &&& (3 : Int32))), .val (.int (p0 &&& (127 : Int32)))] []))
      refine own_by (fun _ k => XS.goto X0.here hx rfl (pc0 := 23) (pc' := 45) rfl (hb hby at_23) (by decide) (by decide) k) ?_
      show own_Fin p.tables e below _ (s₁.setTop (mkF m 45 #[.val (.int p0), .val (.int p1), .val (.int (p1 &&& (3 : Int32))), .val (.int (p0 &&& (127 : Int32)))] []))
      refine own_by (fun _ k => XS.iloadN X0.here hx rfl (hb hby at_45) rfl k) ?_
      show own_Fin p.tables e below _ (s₁.setTop (mkF m 46 #[.val (.int p0), .val (.int p1), .val (.int (p1 &&& (3 : Int32))), .val (.int (p0 &&& (127 : Int32)))] [(.int (p0 &&& (127 : Int32)))]))
      obtain ⟨_, _, ⟨T6, L6, k6, n6⟩, -, X6, ⟨Lc6, hQ6, l6, y6, z6⟩, st6⟩ := Jvm.LawKit.callS X0 hx (y := (⟨"com/example/agouti/agouti/s3/PercentEncoding", "isUnreserved", "(I)Z"⟩ : MethodName)) hown (mvT hZ (hw _ (List.mem_of_getElem? (i := 1) rfl))) (mvT hZ (hw _ (List.mem_of_getElem? (i := 2) rfl))) (mvT hZ (hw _ (List.mem_of_getElem? (i := 3) rfl))) (mvT hZ (hw _ (List.mem_of_getElem? (i := 4) rfl))) (by decide) (backOf (W := 0) (rm1 l Z a0 hw [] (p0 &&& (127 : Int32)) h0 n0 Z0 ) hZ (hw _ (List.mem_of_getElem? (i := 4) rfl)) (hw _ (List.mem_of_getElem? (i := 3) rfl)) (by decide) (by decide)) (g := (mkF m 46 #[.val (.int p0), .val (.int p1), .val (.int (p1 &&& (3 : Int32))), .val (.int (p0 &&& (127 : Int32)))] [(.int (p0 &&& (127 : Int32)))])) rfl (by rw [hml]; rfl) (argsL := [(.int (p0 &&& (127 : Int32)))]) (rest := []) (lenOf pd__I_Z rfl) rfl (by show 2 * 0 + _ ≤ _; exact Nat.le_of_eq rfl) (hb hby at_46) (fun _ _ => ⟨rfl, e0, (by decide : 0 + 0 ≤ _), (by decide : 0 + 0 ≤ _)⟩)
      dsimp only [Pt.U, Pt.locs, Pt.cells, Pt.slots] at X6 l6 y6 z6 st6 hQ6
      subst l6 y6 z6
      obtain ⟨rfl, N6q, e6⟩ := hQ6
      have N6 := Fr.app N0 N6q
      refine own_by st6 ?_
      show own_Fin p.tables e below _ (T6.setTop (mkF m 49 #[.val (.int p0), .val (.int p1), .val (.int (p1 &&& (3 : Int32))), .val (.int (p0 &&& (127 : Int32)))] [(.int (f1 (p0 &&& (127 : Int32))))]))
      refine own_by (fun _ k => XS.iloadN X6.here hx rfl (hb hby at_49) rfl k) ?_
      show own_Fin p.tables e below _ (T6.setTop (mkF m 50 #[.val (.int p0), .val (.int p1), .val (.int (p1 &&& (3 : Int32))), .val (.int (p0 &&& (127 : Int32)))] [(.int (p0 &&& (127 : Int32))), (.int (f1 (p0 &&& (127 : Int32))))]))
      obtain ⟨_, _, ⟨T7, L7, k7, n7⟩, -, X7, ⟨Lc7, hQ7, l7, y7, z7⟩, st7⟩ := Jvm.LawKit.callS X6 hx (y := (⟨"com/example/agouti/agouti/s3/PercentEncodingIsUnreservedPinLaw", "expected", "(I)Z"⟩ : MethodName)) hown (mvT hZ (hw _ (List.mem_of_getElem? (i := 5) rfl))) (mvT hZ (hw _ (List.mem_of_getElem? (i := 6) rfl))) (mvT hZ (hw _ (List.mem_of_getElem? (i := 7) rfl))) (mvT hZ (hw _ (List.mem_of_getElem? (i := 8) rfl))) (by decide) (backOf (W := 1) (rm2 l Z a0 hw [] (p0 &&& (127 : Int32)) h0 n0 Z0 ) hZ (hw _ (List.mem_of_getElem? (i := 8) rfl)) (hw _ (List.mem_of_getElem? (i := 7) rfl)) (by decide) (by decide)) (g := (mkF m 50 #[.val (.int p0), .val (.int p1), .val (.int (p1 &&& (3 : Int32))), .val (.int (p0 &&& (127 : Int32)))] [(.int (p0 &&& (127 : Int32))), (.int (f1 (p0 &&& (127 : Int32))))])) rfl (by rw [hml]; rfl) (argsL := [(.int (p0 &&& (127 : Int32)))]) (rest := [(.int (f1 (p0 &&& (127 : Int32))))]) (lenOf pd__I_Z rfl) rfl (by show 2 * 0 + _ ≤ _; exact Nat.le_of_eq rfl) (hb hby at_50) (fun _ _ => ⟨rfl, e6, (by decide : 0 + 0 ≤ _), (by decide : 0 + 0 ≤ _)⟩)
      dsimp only [Pt.U, Pt.locs, Pt.cells, Pt.slots] at X7 l7 y7 z7 st7 hQ7
      subst l7 y7 z7
      obtain ⟨rfl, N7q, e7⟩ := hQ7
      have N7 := Fr.app N6 N7q
      refine own_by st7 ?_
      show own_Fin p.tables e below _ (T7.setTop (mkF m 53 #[.val (.int p0), .val (.int p1), .val (.int (p1 &&& (3 : Int32))), .val (.int (p0 &&& (127 : Int32)))] [(.int (f2 (p0 &&& (127 : Int32)))), (.int (f1 (p0 &&& (127 : Int32))))]))
      by_cases hc8 : (f1 (p0 &&& (127 : Int32))) = (f2 (p0 &&& (127 : Int32)))
      · refine own_by (fun _ k => XS.icmpNo X7.here hx rfl (hb hby at_53) rfl (teq hc8).2 k) ?_
        show own_Fin p.tables e below _ (T7.setTop (mkF m 56 #[.val (.int p0), .val (.int p1), .val (.int (p1 &&& (3 : Int32))), .val (.int (p0 &&& (127 : Int32)))] []))
        refine own_by (fun _ k => XS.iconst X7.here hx rfl (hb hby at_56) k) ?_
        show own_Fin p.tables e below _ (T7.setTop (mkF m 57 #[.val (.int p0), .val (.int p1), .val (.int (p1 &&& (3 : Int32))), .val (.int (p0 &&& (127 : Int32)))] [(.int (1 : Int32))]))
        refine own_by (fun _ k => XS.goto X7.here hx rfl (pc0 := 57) (pc' := 61) rfl (hb hby at_57) (by decide) (by decide) k) ?_
        show own_Fin p.tables e below _ (T7.setTop (mkF m 61 #[.val (.int p0), .val (.int p1), .val (.int (p1 &&& (3 : Int32))), .val (.int (p0 &&& (127 : Int32)))] [(.int (1 : Int32))]))
        have ef := (show f0 p0 p1 = (1 : Int32) from by unfold f0; rw [if_neg hc1, if_pos hc5, if_pos hc8])
        exact own_retN X7 hx (t := .boolean) Bd.returns hlk (by simp) (hb hby at_61) (by decide) (by decide) ⟨by rw [ef]; rfl, N7⟩
      · refine own_by (fun _ k => XS.icmpYes X7.here hx rfl (pc0 := 53) (pc' := 60) rfl (hb hby at_53) rfl (feq hc8).2 (by decide) (by decide) k) ?_
        show own_Fin p.tables e below _ (T7.setTop (mkF m 60 #[.val (.int p0), .val (.int p1), .val (.int (p1 &&& (3 : Int32))), .val (.int (p0 &&& (127 : Int32)))] []))
        refine own_by (fun _ k => XS.iconst X7.here hx rfl (hb hby at_60) k) ?_
        show own_Fin p.tables e below _ (T7.setTop (mkF m 61 #[.val (.int p0), .val (.int p1), .val (.int (p1 &&& (3 : Int32))), .val (.int (p0 &&& (127 : Int32)))] [(.int (0 : Int32))]))
        have ef := (show f0 p0 p1 = (0 : Int32) from by unfold f0; rw [if_neg hc1, if_pos hc5, if_neg hc8])
        exact own_retN X7 hx (t := .boolean) Bd.returns hlk (by simp) (hb hby at_61) (by decide) (by decide) ⟨by rw [ef]; rfl, N7⟩
    · refine own_by (fun _ k => XS.icmpYes X0.here hx rfl (pc0 := 15) (pc' := 26) rfl (hb hby at_15) rfl (feq hc5).2 (by decide) (by decide) k) ?_
      show own_Fin p.tables e below _ (s₁.setTop (mkF m 26 #[.val (.int p0), .val (.int p1), .val (.int (p1 &&& (3 : Int32))), .unset] []))
      refine own_by (fun _ k => XS.iloadN X0.here hx rfl (hb hby at_26) rfl k) ?_
      show own_Fin p.tables e below _ (s₁.setTop (mkF m 27 #[.val (.int p0), .val (.int p1), .val (.int (p1 &&& (3 : Int32))), .unset] [(.int (p1 &&& (3 : Int32)))]))
      refine own_by (fun _ k => XS.iconst X0.here hx rfl (hb hby at_27) k) ?_
      show own_Fin p.tables e below _ (s₁.setTop (mkF m 28 #[.val (.int p0), .val (.int p1), .val (.int (p1 &&& (3 : Int32))), .unset] [(.int (2 : Int32)), (.int (p1 &&& (3 : Int32)))]))
      by_cases hc9 : (p1 &&& (3 : Int32)) = (2 : Int32)
      · refine own_by (fun _ k => XS.icmpNo X0.here hx rfl (hb hby at_28) rfl (teq hc9).2 k) ?_
        show own_Fin p.tables e below _ (s₁.setTop (mkF m 31 #[.val (.int p0), .val (.int p1), .val (.int (p1 &&& (3 : Int32))), .unset] []))
        refine own_by (fun _ k => XS.iloadN X0.here hx rfl (hb hby at_31) rfl k) ?_
        show own_Fin p.tables e below _ (s₁.setTop (mkF m 32 #[.val (.int p0), .val (.int p1), .val (.int (p1 &&& (3 : Int32))), .unset] [(.int p0)]))
        refine own_by (fun _ k => XS.sipush X0.here hx rfl (hb hby at_32) k) ?_
        show own_Fin p.tables e below _ (s₁.setTop (mkF m 35 #[.val (.int p0), .val (.int p1), .val (.int (p1 &&& (3 : Int32))), .unset] [(.int (255 : Int32)), (.int p0)]))
        refine own_by (fun _ k => XS.iand X0.here hx rfl (hb hby at_35) rfl k) ?_
        show own_Fin p.tables e below _ (s₁.setTop (mkF m 36 #[.val (.int p0), .val (.int p1), .val (.int (p1 &&& (3 : Int32))), .unset] [(.int (p0 &&& (255 : Int32)))]))
        refine own_by (fun _ k => XS.istoreN X0.here hx rfl (hb hby at_36) rfl (l' := #[.val (.int p0), .val (.int p1), .val (.int (p1 &&& (3 : Int32))), .val (.int (p0 &&& (255 : Int32)))]) rfl k) ?_
        show own_Fin p.tables e below _ (s₁.setTop (mkF m 37 #[.val (.int p0), .val (.int p1), .val (.int (p1 &&& (3 : Int32))), .val (.int (p0 &&& (255 : Int32)))] []))
        refine own_by (fun _ k => XS.goto X0.here hx rfl (pc0 := 37) (pc' := 45) rfl (hb hby at_37) (by decide) (by decide) k) ?_
        show own_Fin p.tables e below _ (s₁.setTop (mkF m 45 #[.val (.int p0), .val (.int p1), .val (.int (p1 &&& (3 : Int32))), .val (.int (p0 &&& (255 : Int32)))] []))
        refine own_by (fun _ k => XS.iloadN X0.here hx rfl (hb hby at_45) rfl k) ?_
        show own_Fin p.tables e below _ (s₁.setTop (mkF m 46 #[.val (.int p0), .val (.int p1), .val (.int (p1 &&& (3 : Int32))), .val (.int (p0 &&& (255 : Int32)))] [(.int (p0 &&& (255 : Int32)))]))
        obtain ⟨_, _, ⟨T10, L10, k10, n10⟩, -, X10, ⟨Lc10, hQ10, l10, y10, z10⟩, st10⟩ := Jvm.LawKit.callS X0 hx (y := (⟨"com/example/agouti/agouti/s3/PercentEncoding", "isUnreserved", "(I)Z"⟩ : MethodName)) hown (mvT hZ (hw _ (List.mem_of_getElem? (i := 1) rfl))) (mvT hZ (hw _ (List.mem_of_getElem? (i := 2) rfl))) (mvT hZ (hw _ (List.mem_of_getElem? (i := 3) rfl))) (mvT hZ (hw _ (List.mem_of_getElem? (i := 4) rfl))) (by decide) (backOf (W := 0) (rm1 l Z a0 hw [] (p0 &&& (255 : Int32)) h0 n0 Z0 ) hZ (hw _ (List.mem_of_getElem? (i := 4) rfl)) (hw _ (List.mem_of_getElem? (i := 3) rfl)) (by decide) (by decide)) (g := (mkF m 46 #[.val (.int p0), .val (.int p1), .val (.int (p1 &&& (3 : Int32))), .val (.int (p0 &&& (255 : Int32)))] [(.int (p0 &&& (255 : Int32)))])) rfl (by rw [hml]; rfl) (argsL := [(.int (p0 &&& (255 : Int32)))]) (rest := []) (lenOf pd__I_Z rfl) rfl (by show 2 * 0 + _ ≤ _; exact Nat.le_of_eq rfl) (hb hby at_46) (fun _ _ => ⟨rfl, e0, (by decide : 0 + 0 ≤ _), (by decide : 0 + 0 ≤ _)⟩)
        dsimp only [Pt.U, Pt.locs, Pt.cells, Pt.slots] at X10 l10 y10 z10 st10 hQ10
        subst l10 y10 z10
        obtain ⟨rfl, N10q, e10⟩ := hQ10
        have N10 := Fr.app N0 N10q
        refine own_by st10 ?_
        show own_Fin p.tables e below _ (T10.setTop (mkF m 49 #[.val (.int p0), .val (.int p1), .val (.int (p1 &&& (3 : Int32))), .val (.int (p0 &&& (255 : Int32)))] [(.int (f1 (p0 &&& (255 : Int32))))]))
        refine own_by (fun _ k => XS.iloadN X10.here hx rfl (hb hby at_49) rfl k) ?_
        show own_Fin p.tables e below _ (T10.setTop (mkF m 50 #[.val (.int p0), .val (.int p1), .val (.int (p1 &&& (3 : Int32))), .val (.int (p0 &&& (255 : Int32)))] [(.int (p0 &&& (255 : Int32))), (.int (f1 (p0 &&& (255 : Int32))))]))
        obtain ⟨_, _, ⟨T11, L11, k11, n11⟩, -, X11, ⟨Lc11, hQ11, l11, y11, z11⟩, st11⟩ := Jvm.LawKit.callS X10 hx (y := (⟨"com/example/agouti/agouti/s3/PercentEncodingIsUnreservedPinLaw", "expected", "(I)Z"⟩ : MethodName)) hown (mvT hZ (hw _ (List.mem_of_getElem? (i := 5) rfl))) (mvT hZ (hw _ (List.mem_of_getElem? (i := 6) rfl))) (mvT hZ (hw _ (List.mem_of_getElem? (i := 7) rfl))) (mvT hZ (hw _ (List.mem_of_getElem? (i := 8) rfl))) (by decide) (backOf (W := 1) (rm2 l Z a0 hw [] (p0 &&& (255 : Int32)) h0 n0 Z0 ) hZ (hw _ (List.mem_of_getElem? (i := 8) rfl)) (hw _ (List.mem_of_getElem? (i := 7) rfl)) (by decide) (by decide)) (g := (mkF m 50 #[.val (.int p0), .val (.int p1), .val (.int (p1 &&& (3 : Int32))), .val (.int (p0 &&& (255 : Int32)))] [(.int (p0 &&& (255 : Int32))), (.int (f1 (p0 &&& (255 : Int32))))])) rfl (by rw [hml]; rfl) (argsL := [(.int (p0 &&& (255 : Int32)))]) (rest := [(.int (f1 (p0 &&& (255 : Int32))))]) (lenOf pd__I_Z rfl) rfl (by show 2 * 0 + _ ≤ _; exact Nat.le_of_eq rfl) (hb hby at_50) (fun _ _ => ⟨rfl, e10, (by decide : 0 + 0 ≤ _), (by decide : 0 + 0 ≤ _)⟩)
        dsimp only [Pt.U, Pt.locs, Pt.cells, Pt.slots] at X11 l11 y11 z11 st11 hQ11
        subst l11 y11 z11
        obtain ⟨rfl, N11q, e11⟩ := hQ11
        have N11 := Fr.app N10 N11q
        refine own_by st11 ?_
        show own_Fin p.tables e below _ (T11.setTop (mkF m 53 #[.val (.int p0), .val (.int p1), .val (.int (p1 &&& (3 : Int32))), .val (.int (p0 &&& (255 : Int32)))] [(.int (f2 (p0 &&& (255 : Int32)))), (.int (f1 (p0 &&& (255 : Int32))))]))
        by_cases hc12 : (f1 (p0 &&& (255 : Int32))) = (f2 (p0 &&& (255 : Int32)))
        · refine own_by (fun _ k => XS.icmpNo X11.here hx rfl (hb hby at_53) rfl (teq hc12).2 k) ?_
          show own_Fin p.tables e below _ (T11.setTop (mkF m 56 #[.val (.int p0), .val (.int p1), .val (.int (p1 &&& (3 : Int32))), .val (.int (p0 &&& (255 : Int32)))] []))
          refine own_by (fun _ k => XS.iconst X11.here hx rfl (hb hby at_56) k) ?_
          show own_Fin p.tables e below _ (T11.setTop (mkF m 57 #[.val (.int p0), .val (.int p1), .val (.int (p1 &&& (3 : Int32))), .val (.int (p0 &&& (255 : Int32)))] [(.int (1 : Int32))]))
          refine own_by (fun _ k => XS.goto X11.here hx rfl (pc0 := 57) (pc' := 61) rfl (hb hby at_57) (by decide) (by decide) k) ?_
          show own_Fin p.tables e below _ (T11.setTop (mkF m 61 #[.val (.int p0), .val (.int p1), .val (.int (p1 &&& (3 : Int32))), .val (.int (p0 &&& (255 : Int32)))] [(.int (1 : Int32))]))
          have ef := (show f0 p0 p1 = (1 : Int32) from by unfold f0; rw [if_neg hc1, if_neg hc5, if_pos hc9, if_pos hc12])
          exact own_retN X11 hx (t := .boolean) Bd.returns hlk (by simp) (hb hby at_61) (by decide) (by decide) ⟨by rw [ef]; rfl, N11⟩
        · refine own_by (fun _ k => XS.icmpYes X11.here hx rfl (pc0 := 53) (pc' := 60) rfl (hb hby at_53) rfl (feq hc12).2 (by decide) (by decide) k) ?_
          show own_Fin p.tables e below _ (T11.setTop (mkF m 60 #[.val (.int p0), .val (.int p1), .val (.int (p1 &&& (3 : Int32))), .val (.int (p0 &&& (255 : Int32)))] []))
          refine own_by (fun _ k => XS.iconst X11.here hx rfl (hb hby at_60) k) ?_
          show own_Fin p.tables e below _ (T11.setTop (mkF m 61 #[.val (.int p0), .val (.int p1), .val (.int (p1 &&& (3 : Int32))), .val (.int (p0 &&& (255 : Int32)))] [(.int (0 : Int32))]))
          have ef := (show f0 p0 p1 = (0 : Int32) from by unfold f0; rw [if_neg hc1, if_neg hc5, if_pos hc9, if_neg hc12])
          exact own_retN X11 hx (t := .boolean) Bd.returns hlk (by simp) (hb hby at_61) (by decide) (by decide) ⟨by rw [ef]; rfl, N11⟩
      · refine own_by (fun _ k => XS.icmpYes X0.here hx rfl (pc0 := 28) (pc' := 40) rfl (hb hby at_28) rfl (feq hc9).2 (by decide) (by decide) k) ?_
        show own_Fin p.tables e below _ (s₁.setTop (mkF m 40 #[.val (.int p0), .val (.int p1), .val (.int (p1 &&& (3 : Int32))), .unset] []))
        refine own_by (fun _ k => XS.iloadN X0.here hx rfl (hb hby at_40) rfl k) ?_
        show own_Fin p.tables e below _ (s₁.setTop (mkF m 41 #[.val (.int p0), .val (.int p1), .val (.int (p1 &&& (3 : Int32))), .unset] [(.int p0)]))
        refine own_by (X0.ldcInt hx hown (mvT hZ (hw _ (List.mem_of_getElem? (i := 0) rfl))) (g := (mkF m 41 #[.val (.int p0), .val (.int p1), .val (.int (p1 &&& (3 : Int32))), .unset] [(.int p0)])) rfl (hb hby at_41)) ?_
        show own_Fin p.tables e below _ (s₁.setTop (mkF m 43 #[.val (.int p0), .val (.int p1), .val (.int (p1 &&& (3 : Int32))), .unset] [(.int (65535 : Int32)), (.int p0)]))
        refine own_by (fun _ k => XS.iand X0.here hx rfl (hb hby at_43) rfl k) ?_
        show own_Fin p.tables e below _ (s₁.setTop (mkF m 44 #[.val (.int p0), .val (.int p1), .val (.int (p1 &&& (3 : Int32))), .unset] [(.int (p0 &&& (65535 : Int32)))]))
        refine own_by (fun _ k => XS.istoreN X0.here hx rfl (hb hby at_44) rfl (l' := #[.val (.int p0), .val (.int p1), .val (.int (p1 &&& (3 : Int32))), .val (.int (p0 &&& (65535 : Int32)))]) rfl k) ?_
        show own_Fin p.tables e below _ (s₁.setTop (mkF m 45 #[.val (.int p0), .val (.int p1), .val (.int (p1 &&& (3 : Int32))), .val (.int (p0 &&& (65535 : Int32)))] []))
        refine own_by (fun _ k => XS.iloadN X0.here hx rfl (hb hby at_45) rfl k) ?_
        show own_Fin p.tables e below _ (s₁.setTop (mkF m 46 #[.val (.int p0), .val (.int p1), .val (.int (p1 &&& (3 : Int32))), .val (.int (p0 &&& (65535 : Int32)))] [(.int (p0 &&& (65535 : Int32)))]))
        obtain ⟨_, _, ⟨T13, L13, k13, n13⟩, -, X13, ⟨Lc13, hQ13, l13, y13, z13⟩, st13⟩ := Jvm.LawKit.callS X0 hx (y := (⟨"com/example/agouti/agouti/s3/PercentEncoding", "isUnreserved", "(I)Z"⟩ : MethodName)) hown (mvT hZ (hw _ (List.mem_of_getElem? (i := 1) rfl))) (mvT hZ (hw _ (List.mem_of_getElem? (i := 2) rfl))) (mvT hZ (hw _ (List.mem_of_getElem? (i := 3) rfl))) (mvT hZ (hw _ (List.mem_of_getElem? (i := 4) rfl))) (by decide) (backOf (W := 0) (rm1 l Z a0 hw [] (p0 &&& (65535 : Int32)) h0 n0 Z0 ) hZ (hw _ (List.mem_of_getElem? (i := 4) rfl)) (hw _ (List.mem_of_getElem? (i := 3) rfl)) (by decide) (by decide)) (g := (mkF m 46 #[.val (.int p0), .val (.int p1), .val (.int (p1 &&& (3 : Int32))), .val (.int (p0 &&& (65535 : Int32)))] [(.int (p0 &&& (65535 : Int32)))])) rfl (by rw [hml]; rfl) (argsL := [(.int (p0 &&& (65535 : Int32)))]) (rest := []) (lenOf pd__I_Z rfl) rfl (by show 2 * 0 + _ ≤ _; exact Nat.le_of_eq rfl) (hb hby at_46) (fun _ _ => ⟨rfl, e0, (by decide : 0 + 0 ≤ _), (by decide : 0 + 0 ≤ _)⟩)
        dsimp only [Pt.U, Pt.locs, Pt.cells, Pt.slots] at X13 l13 y13 z13 st13 hQ13
        subst l13 y13 z13
        obtain ⟨rfl, N13q, e13⟩ := hQ13
        have N13 := Fr.app N0 N13q
        refine own_by st13 ?_
        show own_Fin p.tables e below _ (T13.setTop (mkF m 49 #[.val (.int p0), .val (.int p1), .val (.int (p1 &&& (3 : Int32))), .val (.int (p0 &&& (65535 : Int32)))] [(.int (f1 (p0 &&& (65535 : Int32))))]))
        refine own_by (fun _ k => XS.iloadN X13.here hx rfl (hb hby at_49) rfl k) ?_
        show own_Fin p.tables e below _ (T13.setTop (mkF m 50 #[.val (.int p0), .val (.int p1), .val (.int (p1 &&& (3 : Int32))), .val (.int (p0 &&& (65535 : Int32)))] [(.int (p0 &&& (65535 : Int32))), (.int (f1 (p0 &&& (65535 : Int32))))]))
        obtain ⟨_, _, ⟨T14, L14, k14, n14⟩, -, X14, ⟨Lc14, hQ14, l14, y14, z14⟩, st14⟩ := Jvm.LawKit.callS X13 hx (y := (⟨"com/example/agouti/agouti/s3/PercentEncodingIsUnreservedPinLaw", "expected", "(I)Z"⟩ : MethodName)) hown (mvT hZ (hw _ (List.mem_of_getElem? (i := 5) rfl))) (mvT hZ (hw _ (List.mem_of_getElem? (i := 6) rfl))) (mvT hZ (hw _ (List.mem_of_getElem? (i := 7) rfl))) (mvT hZ (hw _ (List.mem_of_getElem? (i := 8) rfl))) (by decide) (backOf (W := 1) (rm2 l Z a0 hw [] (p0 &&& (65535 : Int32)) h0 n0 Z0 ) hZ (hw _ (List.mem_of_getElem? (i := 8) rfl)) (hw _ (List.mem_of_getElem? (i := 7) rfl)) (by decide) (by decide)) (g := (mkF m 50 #[.val (.int p0), .val (.int p1), .val (.int (p1 &&& (3 : Int32))), .val (.int (p0 &&& (65535 : Int32)))] [(.int (p0 &&& (65535 : Int32))), (.int (f1 (p0 &&& (65535 : Int32))))])) rfl (by rw [hml]; rfl) (argsL := [(.int (p0 &&& (65535 : Int32)))]) (rest := [(.int (f1 (p0 &&& (65535 : Int32))))]) (lenOf pd__I_Z rfl) rfl (by show 2 * 0 + _ ≤ _; exact Nat.le_of_eq rfl) (hb hby at_50) (fun _ _ => ⟨rfl, e13, (by decide : 0 + 0 ≤ _), (by decide : 0 + 0 ≤ _)⟩)
        dsimp only [Pt.U, Pt.locs, Pt.cells, Pt.slots] at X14 l14 y14 z14 st14 hQ14
        subst l14 y14 z14
        obtain ⟨rfl, N14q, e14⟩ := hQ14
        have N14 := Fr.app N13 N14q
        refine own_by st14 ?_
        show own_Fin p.tables e below _ (T14.setTop (mkF m 53 #[.val (.int p0), .val (.int p1), .val (.int (p1 &&& (3 : Int32))), .val (.int (p0 &&& (65535 : Int32)))] [(.int (f2 (p0 &&& (65535 : Int32)))), (.int (f1 (p0 &&& (65535 : Int32))))]))
        by_cases hc15 : (f1 (p0 &&& (65535 : Int32))) = (f2 (p0 &&& (65535 : Int32)))
        · refine own_by (fun _ k => XS.icmpNo X14.here hx rfl (hb hby at_53) rfl (teq hc15).2 k) ?_
          show own_Fin p.tables e below _ (T14.setTop (mkF m 56 #[.val (.int p0), .val (.int p1), .val (.int (p1 &&& (3 : Int32))), .val (.int (p0 &&& (65535 : Int32)))] []))
          refine own_by (fun _ k => XS.iconst X14.here hx rfl (hb hby at_56) k) ?_
          show own_Fin p.tables e below _ (T14.setTop (mkF m 57 #[.val (.int p0), .val (.int p1), .val (.int (p1 &&& (3 : Int32))), .val (.int (p0 &&& (65535 : Int32)))] [(.int (1 : Int32))]))
          refine own_by (fun _ k => XS.goto X14.here hx rfl (pc0 := 57) (pc' := 61) rfl (hb hby at_57) (by decide) (by decide) k) ?_
          show own_Fin p.tables e below _ (T14.setTop (mkF m 61 #[.val (.int p0), .val (.int p1), .val (.int (p1 &&& (3 : Int32))), .val (.int (p0 &&& (65535 : Int32)))] [(.int (1 : Int32))]))
          have ef := (show f0 p0 p1 = (1 : Int32) from by unfold f0; rw [if_neg hc1, if_neg hc5, if_neg hc9, if_pos hc15])
          exact own_retN X14 hx (t := .boolean) Bd.returns hlk (by simp) (hb hby at_61) (by decide) (by decide) ⟨by rw [ef]; rfl, N14⟩
        · refine own_by (fun _ k => XS.icmpYes X14.here hx rfl (pc0 := 53) (pc' := 60) rfl (hb hby at_53) rfl (feq hc15).2 (by decide) (by decide) k) ?_
          show own_Fin p.tables e below _ (T14.setTop (mkF m 60 #[.val (.int p0), .val (.int p1), .val (.int (p1 &&& (3 : Int32))), .val (.int (p0 &&& (65535 : Int32)))] []))
          refine own_by (fun _ k => XS.iconst X14.here hx rfl (hb hby at_60) k) ?_
          show own_Fin p.tables e below _ (T14.setTop (mkF m 61 #[.val (.int p0), .val (.int p1), .val (.int (p1 &&& (3 : Int32))), .val (.int (p0 &&& (65535 : Int32)))] [(.int (0 : Int32))]))
          have ef := (show f0 p0 p1 = (0 : Int32) from by unfold f0; rw [if_neg hc1, if_neg hc5, if_neg hc9, if_neg hc15])
          exact own_retN X14 hx (t := .boolean) Bd.returns hlk (by simp) (hb hby at_61) (by decide) (by decide) ⟨by rw [ef]; rfl, N14⟩
theorem own_fin (n : Nat) (v : Int32) (h0 : 0 ≤ v.toInt) (h1 : v.toInt < n) (hn : n ≤ 65536) : ∃ k : Fin n, v = Int32.ofNat k.1 := by
  refine ⟨⟨v.toInt.toNat, by omega⟩, ?_⟩
  apply Int32.toInt_inj.mp
  rw [Int32.toInt_ofNat_of_lt (by show v.toInt.toNat < 2 ^ 31; omega)]
  show v.toInt = ((v.toInt.toNat : Nat) : Int)
  omega
theorem own_fin_0 : ∀ k : Fin 128, f1 (Int32.ofNat k.1) = f2 (Int32.ofNat k.1) := by decide +kernel
theorem own_12 (c : Int32) : f1 c = f2 c := by
  by_cases h0 : 0 ≤ c.toInt ∧ c.toInt < 128
  · obtain ⟨i, rfl⟩ := own_fin 128 c h0.1 h0.2 (by decide)
    exact own_fin_0 i
  · have k : ∀ n : Nat, n < 128 → ((OfNat.ofNat n : Int32)).toInt = n := by decide +kernel
    have e2 : f2 c = 0 := by
      unfold f2
      simp only [own_lt, show (0 : Int32).toInt = 0 from by decide, show (127 : Int32).toInt = 127 from by decide]
      repeat' split
      all_goals first | rfl | (exfalso; omega)
    have e1 : f1 c = 0 := by
      unfold f1
      simp only [own_lt, own_eq, show (97 : Int32).toInt = 97 from by decide, show (122 : Int32).toInt = 122 from by decide, show (65 : Int32).toInt = 65 from by decide, show (90 : Int32).toInt = 90 from by decide, show (48 : Int32).toInt = 48 from by decide, show (57 : Int32).toInt = 57 from by decide, show (45 : Int32).toInt = 45 from by decide, show (95 : Int32).toInt = 95 from by decide, show (46 : Int32).toInt = 46 from by decide, show (126 : Int32).toInt = 126 from by decide]
      repeat' split
      all_goals first | rfl | (exfalso; omega)
    rw [e1, e2]
theorem own_law (p0 p1 : Int32) : f0 p0 p1 = 1 := by
  unfold f0
  simp only [own_12, if_true, ite_self]
set_option maxRecDepth 65536 in
set_option maxHeartbeats 40000000 in
theorem comes_1 {Post : Tables → Env → Array Value → State → Outcome → State → Prop} (hpost : ∀ tb e args s v u, (limb_1_1.after args s (.returned v) u = true ∧ limb_1_2.after args s (.returned v) u = true ∧ True) → FrameEnd s (.returned v) u (Jvm.fieldLocs frame_1_writes args s ++ Jvm.arrayLocs frame_1_arrays args s ++ Jvm.staticLocs frame_1_statics s) 0 0 → Post tb e args s (.returned v) u) :
    ArmFor flags0 classFile x code maxLocals ret World_1 tables_1 room_1 Calls_1 rest_1 Pre_1 Post := by
  intro l hfl _ _ p e ha hc hk s m args below hf hA hF happ hP
  obtain ⟨hcalls, hrest, hpre⟩ := hP
  obtain ⟨-, -, -, hnamed, -, -, -, hat⟩ := (Spec.applies_iff hf).mp happ
  obtain ⟨hg, hn⟩ := and_e (Cond.before_iff.mp (show (Jvm.Cond.and given_1 narrow_1).before args s = true from hpre))
  obtain ⟨c0, r0⟩ := and_e hg
  obtain ⟨c1, r1⟩ := and_e r0
  obtain ⟨w0, w1, rfl⟩ : ∃ w0 w1 : Value, args = #[w0, w1] := by
    have hs : args.size = 2 := by simpa [Cond.value, given_1] using c0
    obtain ⟨L⟩ := args
    match L, hs with
    | [w0, w1], _ => exact ⟨w0, w1, rfl⟩
  have hw := fun d (hd : d ∈ tables_1) => atoms_spec (ws := Jvm.Cond.code x code maxLocals ret :: tables_1) hat d (List.mem_cons_of_mem _ hd)
  obtain ⟨i0, ei0⟩ := is_v c1
  obtain rfl : w0 = (.int i0) := Option.some.inj ei0
  obtain ⟨i1, ei1⟩ := is_v r1
  obtain rfl : w1 = (.int i1) := Option.some.inj ei1
  obtain ⟨n, o, h1, h2, h3, _, L, rfl, ⟨rfl, N⟩, hq⟩ := rm0 l s _ hw tables_1 i0 i1 s.heap s.heap.size (Nat.le_refl _)  p e ha hc hk s m _ below hf ((Spec.applies_iff_loose hf).mp happ).1 ⟨rfl, State.Warmed39.refl s, rfl⟩ trivial
  refine ⟨n, _, h1, h2, h3, hpost _ _ _ _ _ _ ⟨Cond.after_iff.mpr rfl, Cond.after_iff.mpr (eq_i res_at (Term.int_eval (1)) (congrArg Value.int (own_law i0 i1))), trivial⟩ ⟨hq.1, hq.2.1, (hq.2.2.sift fun y hy => Or.inr (N y hy)).mono (by decide) (by decide)⟩⟩
theorem main_1_1 : Claimed_1_1 := comes_1 fun _ _ _ _ _ _ h hF => ⟨h.1, hF⟩
theorem main_1_2 : Claimed_1_2 := comes_1 fun _ _ _ _ _ _ h hF => ⟨h.2.1, hF⟩
end Jvm.Pilot.@@N@@
namespace Jvm.Pilot.@@N@@
open Jvm Jvm.ClassFile Sem Op Lib Jvm.Free Jvm.Stand Jvm.Pilot.@@N@@.Jvm.D
/-! MADE BY PROGRAM (witnessworld.py) out of the Statement's table words and the real class files: 9 classes; the members and pool entries that the words name. The judged class is class 1, her method 2. -/
namespace start1
open Jvm.ClassFile
def u (s : String) : CpInfo := .utf8 (stringToUtf16 s)
/-- a pool by its gaps: so many unusable entries, then the entry; so many at the end -/
def gap : Nat → List CpInfo → List CpInfo
  | 0, r => r
  | n + 1, r => .unusable :: gap n r
def poolList (es : List (Nat × CpInfo)) (last : Nat) : List CpInfo := es.foldr (fun e r => gap e.1 (e.2 :: r)) (gap last [])
def pool (es : List (Nat × CpInfo)) (last : Nat) : Array CpInfo := ⟨poolList es last⟩
def fileOf (pool : Array CpInfo) (this : Nat) (attrs : Array Attribute := #[]) (ms : Array MethodInfo := #[]) (fl : Nat := 33) (sup : Nat := 0) (ifs : Array Nat := #[]) (fds : Array FieldInfo := #[]) : ClassFile where
  minorVersion := 0
  majorVersion := 65
  constantPool := pool
  accessFlags := fl
  thisClass := this
  superClass := sup
  interfaces := ifs
  fields := fds
  methods := ms
  attributes := attrs
def plain (name : String) (sup : Option ClassId) : Class where
  name := name
  kind := .ordinary
  loader := none
  accessFlags := 33
  super := sup
  interfaces := #[]
  cf := none
  fields := #[]
  methods := #[]
  instanceTypes := #[]
  staticTypes := #[]
  resolved := #[]
  callSites := []
  init := .initialized
  statics := none
  mirror := none

def pool0 : Array CpInfo := pool [(5, u "<init>"), (0, u "()V"), (1, .class_ 10), (1, u "java/lang/Object")] 113

def k0m0 : Method := { name := "<init>", desc := "()V", sig := { parameters := [], returnType := none }, accessFlags := 1, code := none }
/-- java/lang/Object -/
def k0 : Class := { plain "java/lang/Object" none with
  accessFlags := 33
  interfaces := #[]
  cf := some (fileOf pool0 8 #[] #[{ accessFlags := 1, nameIndex := 5, descriptorIndex := 6, attributes := #[] }] 33 0 #[] #[])
  fields := #[]
  methods := #[k0m0]
  instanceTypes := #[]
  staticTypes := #[]
  resolved := Array.replicate 124 none
  statics := none }

def pool1 : Array CpInfo := pool [(2, .class_ 4), (1, u "java/lang/Object"), (0, u "<init>"), (0, u "()V"), (0, .class_ 8), (0, u "com/example/agouti/agouti/s3/PercentEncodingIsUnreservedPinLaw"), (0, .long 288054454291267584), (1, .long 5188146764422578174), (1, .integer 65535), (0, .methodref 15 16), (0, .class_ 17), (0, .nameAndType 18 19), (0, u "com/example/agouti/agouti/s3/PercentEncoding"), (0, u "isUnreserved"), (0, u "(I)Z"), (0, .methodref 7 21), (0, .nameAndType 22 19), (0, u "expected"), (0, u "LO"), (0, u "J"), (1, u "HI"), (3, u "law"), (0, u "(II)Z")] 2

def k1m0 : Method := { name := "<init>", desc := "()V", sig := { parameters := [], returnType := none }, accessFlags := 2, code := none }
def k1c1 : Code := { maxStack := 4, maxLocals := 3, code := method_2_code, exceptionTable := #[], attributes := #[] }
def k1m1 : Method := { name := "expected", desc := "(I)Z", sig := { parameters := [.int], returnType := some .boolean }, accessFlags := 10, code := some k1c1 }
def k1c2 : Code := { maxStack := 2, maxLocals := 4, code := code, exceptionTable := #[], attributes := #[] }
def k1m2 : Method := { name := "law", desc := "(II)Z", sig := { parameters := [.int, .int], returnType := some .boolean }, accessFlags := 9, code := some k1c2 }
/-- com/example/agouti/agouti/s3/PercentEncodingIsUnreservedPinLaw -/
def k1 : Class := { plain "com/example/agouti/agouti/s3/PercentEncodingIsUnreservedPinLaw" (some 0) with
  accessFlags := 49
  interfaces := #[]
  cf := some (fileOf pool1 7 #[] #[{ accessFlags := 2, nameIndex := 5, descriptorIndex := 6, attributes := #[] }, { accessFlags := 10, nameIndex := 22, descriptorIndex := 19, attributes := #[] }, { accessFlags := 9, nameIndex := 30, descriptorIndex := 31, attributes := #[] }] 49 2 #[] #[{ accessFlags := 26, nameIndex := 23, descriptorIndex := 24, attributes := #[] }, { accessFlags := 26, nameIndex := 26, descriptorIndex := 24, attributes := #[] }])
  fields := #[{ name := "LO", type := .long, accessFlags := 26, slot := 0, constantValue := 0 }, { name := "HI", type := .long, accessFlags := 26, slot := 1, constantValue := 0 }]
  methods := #[k1m0, k1m1, k1m2]
  instanceTypes := #[]
  staticTypes := #[.long, .long]
  resolved := Array.replicate 34 none
  statics := none }

def pool2 : Array CpInfo := pool [(2, .class_ 4), (1, u "java/lang/Object"), (0, u "<init>"), (0, u "()V"), (1, .class_ 10), (1, u "com/example/agouti/agouti/s3/PercentEncoding"), (9, u "isUnreserved"), (0, u "(I)Z"), (6, u "HEX_DIGITS"), (0, u "[C")] 190

def k2m0 : Method := { name := "<init>", desc := "()V", sig := { parameters := [], returnType := none }, accessFlags := 2, code := none }
def k2c1 : Code := { maxStack := 2, maxLocals := 1, code := prog_38_method_9_code, exceptionTable := #[], attributes := #[] }
def k2m1 : Method := { name := "isUnreserved", desc := "(I)Z", sig := { parameters := [.int], returnType := some .boolean }, accessFlags := 9, code := some k2c1 }
/-- com/example/agouti/agouti/s3/PercentEncoding -/
def k2 : Class := { plain "com/example/agouti/agouti/s3/PercentEncoding" (some 0) with
  accessFlags := 33
  interfaces := #[]
  cf := some (fileOf pool2 8 #[] #[{ accessFlags := 2, nameIndex := 5, descriptorIndex := 6, attributes := #[] }, { accessFlags := 9, nameIndex := 20, descriptorIndex := 21, attributes := #[] }] 33 2 #[] #[{ accessFlags := 26, nameIndex := 28, descriptorIndex := 29, attributes := #[] }])
  fields := #[{ name := "HEX_DIGITS", type := (.array .char), accessFlags := 26, slot := 0, constantValue := 0 }]
  methods := #[k2m0, k2m1]
  instanceTypes := #[]
  staticTypes := #[(.array .char)]
  resolved := Array.replicate 220 none
  statics := none }

def pool3 : Array CpInfo := pool [(1, u "java/lang/Cloneable"), (0, .class_ 1), (0, u "java/lang/Object"), (0, .class_ 3)] 3

/-- java/lang/Cloneable -/
def k3 : Class := { plain "java/lang/Cloneable" (some 0) with
  accessFlags := 1537
  interfaces := #[]
  cf := some (fileOf pool3 2 #[] #[] 1537 4 #[] #[])
  fields := #[]
  methods := #[]
  instanceTypes := #[]
  staticTypes := #[]
  resolved := Array.replicate 8 none
  statics := none }

def pool4 : Array CpInfo := pool [(1, u "java/io/Serializable"), (0, .class_ 1), (0, u "java/lang/Object"), (0, .class_ 3)] 3

/-- java/io/Serializable -/
def k4 : Class := { plain "java/io/Serializable" (some 0) with
  accessFlags := 1537
  interfaces := #[]
  cf := some (fileOf pool4 2 #[] #[] 1537 4 #[] #[])
  fields := #[]
  methods := #[]
  instanceTypes := #[]
  staticTypes := #[]
  resolved := Array.replicate 8 none
  statics := none }

/-- the primitive byte -/
def k5 : Class := { plain "byte" none with kind := .primitive 'B', accessFlags := 0x411 }
/-- [B -/
def k6 : Class := { plain "[B" (some 0) with kind := .array 5 .byte, interfaces := #[3, 4], accessFlags := 1041 }

/-- the primitive int -/
def k7 : Class := { plain "int" none with kind := .primitive 'I', accessFlags := 0x411 }
/-- [I -/
def k8 : Class := { plain "[I" (some 0) with kind := .array 7 .int, interfaces := #[3, 4], accessFlags := 1041 }

def heap : Heap := #[]
def classes : Array Class := #[k0, k1, k2, k3, k4, k5, k6, k7, k8]
def interned : List (Array UInt16 × Addr) := []
def slotsUsed : Nat := 0
def theMethod : MethodId := ⟨1, 2⟩
def args0 : Array Value := #[.int 5, .int 2]
def aboutOver (below : List Frame) : State where
  vm := { classes := classes, interned := interned.toArray }
  heap := heap
  slotsUsed := slotsUsed
  threads := #[{ frames := .invoking theMethod args0 :: below }]
def below0 : List Frame := [.native { method := ⟨0, 0⟩, args := #[] }]
def about1 : State := aboutOver below0
def p0 : Program := .bare "" "" ""
def e0 : Env := launch0.env 0 0 0
theorem w_frames : about1.frames = Frame.invoking theMethod args0 :: below0 := rfl
set_option maxRecDepth 65536 in
theorem w_args : argsFit about1.vm theMethod args0 = true := by decide +kernel
set_option maxRecDepth 65536 in
theorem w_heap : heapFits about1 = true := by decide +kernel
set_option maxRecDepth 65536 in
theorem w_runnable : about1.curStatus? = some .runnable := by decide +kernel
set_option maxRecDepth 65536 in
theorem w_alone : about1.alone = true := by decide +kernel
set_option maxRecDepth 65536 in
theorem w_named : about1.methodNamed? x = some theMethod := by decide +kernel
set_option maxRecDepth 65536 in
theorem w_hears : about1.hears theMethod below0 = true := by decide +kernel
set_option maxRecDepth 65536 in
theorem w_ripe : about1.ripe theMethod args0 below0 = true := by decide +kernel
theorem w_running : about1.status = .running := rfl
set_option maxRecDepth 65536 in
theorem w_room : about1.hasRoom e0.platform room_1 = true :=
  launch0.hasRoom_least _ room_1 (by decide +kernel) (by decide +kernel) (by decide +kernel) (by decide +kernel) (by decide +kernel) (by decide +kernel)
theorem allAtoms_all (ts : List Jvm.Cond) (a : Array Jvm.Value) (st : Jvm.State) : (allAtoms ts).before a st = ts.all (fun c => c.before a st) := by
  induction ts with
  | nil => rfl
  | cons c t ih =>
    show (Jvm.Cond.and c (allAtoms t)).before a st = _
    rw [Jvm.Cond.before_and, ih, List.all_cons]
def words1 : List Jvm.Cond := Jvm.Cond.code x code maxLocals ret :: tables_1
/-- a 'code' word, met by the world's own term for the bytes: nothing is compared byte by byte -/
theorem code_word {y : MethodName} {bytes : ByteArray} {mx : Nat} {rt : Option FieldType} {a : Array Value} {s : State} {m : MethodId} {meth : Method} {c : Code} (h1 : s.methodNamed? y = some m) (h2 : s.vm.method? m = some meth) (h3 : meth.code = some c) (h4 : c.code = bytes)
    (h5 : (c.maxLocals == mx && c.exceptionTable.isEmpty && decide (c.maxStack ≤ mostOperands) && decide (meth.sig.returnType = rt) && !meth.locks && decide (parseMethodDescriptor y.desc = some meth.sig)) = true) : (Jvm.Cond.code y bytes mx rt).before a s = true := by
  simp only [Bool.and_eq_true, beq_iff_eq, Bool.not_eq_true', decide_eq_true_eq] at h5
  obtain ⟨⟨⟨⟨⟨g1, g2⟩, g3⟩, g4⟩, g5⟩, g6⟩ := h5
  simp [Cond.before, Cond.holds, Cond.value, h1, h2, h3, h4, g1, g2, g3, g4, g5, g6]
def isCode : Jvm.Cond → Bool
  | .code _ _ _ _ => true
  | _ => false
theorem all_split {L : List Jvm.Cond} {P : Jvm.Cond → Bool} (h1 : L.all (fun c => isCode c || P c) = true) (h2 : ∀ c ∈ L.filter isCode, P c = true) : L.all P = true := by
  refine List.all_eq_true.mpr fun c hc => ?_
  have h := List.all_eq_true.mp h1 c hc
  rcases Bool.eq_false_or_eq_true (isCode c) with hi | hi
  · exact h2 c (List.mem_filter.mpr ⟨hc, hi⟩)
  · simpa [hi] using h
set_option maxRecDepth 65536 in
theorem w_c0 : (Jvm.Cond.code x code maxLocals ret).before args0 about1 = true := code_word (m := ⟨1, 2⟩) (meth := k1m2) (c := k1c2) (by decide +kernel) rfl rfl rfl (by decide +kernel)
set_option maxRecDepth 65536 in
theorem w_c1 : (Jvm.Cond.code ({ cls := "com/example/agouti/agouti/s3/PercentEncoding", name := "isUnreserved", desc := "(I)Z" } : Jvm.MethodName) prog_38_method_9_code (1 : Nat) (Option.some Jvm.ClassFile.FieldType.boolean)).before args0 about1 = true := code_word (m := ⟨2, 1⟩) (meth := k2m1) (c := k2c1) (by decide +kernel) rfl rfl rfl (by decide +kernel)
set_option maxRecDepth 65536 in
theorem w_c2 : (Jvm.Cond.code ({ cls := "com/example/agouti/agouti/s3/PercentEncodingIsUnreservedPinLaw", name := "expected", desc := "(I)Z" } : Jvm.MethodName) method_2_code (3 : Nat) (Option.some Jvm.ClassFile.FieldType.boolean)).before args0 about1 = true := code_word (m := ⟨1, 1⟩) (meth := k1m1) (c := k1c1) (by decide +kernel) rfl rfl rfl (by decide +kernel)
def codes1 : List Jvm.Cond := [Jvm.Cond.code x code maxLocals ret, Jvm.Cond.code ({ cls := "com/example/agouti/agouti/s3/PercentEncoding", name := "isUnreserved", desc := "(I)Z" } : Jvm.MethodName) prog_38_method_9_code (1 : Nat) (Option.some Jvm.ClassFile.FieldType.boolean), Jvm.Cond.code ({ cls := "com/example/agouti/agouti/s3/PercentEncodingIsUnreservedPinLaw", name := "expected", desc := "(I)Z" } : Jvm.MethodName) method_2_code (3 : Nat) (Option.some Jvm.ClassFile.FieldType.boolean)]
set_option maxRecDepth 65536 in
theorem codes_eq : words1.filter isCode = codes1 := rfl
theorem w_codes : ∀ c ∈ words1.filter isCode, c.before args0 about1 = true := by
  rw [codes_eq]
  intro c hc
  simp only [codes1, List.mem_cons, List.not_mem_nil, or_false] at hc
  rcases hc with rfl | rfl | rfl
  · exact w_c0
  · exact w_c1
  · exact w_c2
set_option maxRecDepth 65536 in
theorem w_t1 : words1.all (fun c => isCode c || c.before args0 about1) = true := by decide +kernel
theorem w_tables : (allAtoms (Jvm.Cond.code x code maxLocals ret :: tables_1)).before args0 about1 = true := by
  rw [allAtoms_all]
  show words1.all (fun c => c.before args0 about1) = true
  refine all_split ?_ w_codes
  rw [w_t1]
set_option maxRecDepth 65536 in
theorem w_case : (Jvm.Cond.and given_1 narrow_1).before args0 about1 = true := by decide +kernel
theorem w_applies : (headSpec (Jvm.Cond.code x code maxLocals ret :: tables_1) room_1).applies x e0.platform about1 = true :=
  (Spec.applies_iff w_frames).mpr ⟨w_running, w_runnable, w_alone, w_named, w_hears, w_ripe, w_room, w_tables⟩
theorem atStart : AtStart classFile x code maxLocals ret World_1 tables_1 room_1 Calls_1 rest_1 Pre_1 launch0 p0 e0 about1 theMethod args0 below0 :=
  ⟨lists_1, trivial, launch0.admits_env _ _ _, launch0.least_env, fairChoices_fair.cas, fairChoices_fair.clock, w_frames, w_args, w_heap, w_applies, trivial, trivial, w_case⟩
end start1
theorem witness_1 : WitnessClaimed_1 := ⟨start1.p0, start1.e0, start1.about1, start1.theMethod, start1.args0, start1.below0, start1.atStart⟩
end Jvm.Pilot.@@N@@
