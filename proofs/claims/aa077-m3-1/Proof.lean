import JvmDerived
import JvmDerived.Pilot.@@N@@Statement
import JvmDerived.Pilot.@@N@@Code
set_option linter.unusedVariables false
set_option linter.unusedSimpArgs false
namespace Jvm.Pilot.@@N@@
open Jvm Jvm.ClassFile Sem Op Lib Jvm.Free Jvm.Stand Jvm.LawKit Jvm.RoadKit Bundle Jvm.Pilot.@@N@@.Jvm.D
section Own
variable {p : Program} {l : Launch} {e : Env} {R : Room} {s : State} {m : MethodId} {args : Array Value} {below : List Frame} {meth : Method} {c : Code} {T : State} {locs : List Loc} {cells slots : Nat}
/-- from the state A on the run comes to a return of the body that s was about to invoke, with Q of the value, the heap and the places written -/
def Go (En : State → Outcome → State → List Loc → Nat → Nat → Prop) (p : Program) (e : Env) (below : List Frame) (s : State) (C S : Nat) (Q : Option Value → Heap → List Loc → Prop) (A : State) : Prop :=
  ∃ s₂ o, Steps p.tables e below A s₂ ∧ s₂.status = .running ∧ Ended s₂ below o ∧ ∃ v L, o = .returned v ∧ Q v s₂.heap L ∧ En s o s₂ L C S
variable {En : State → Outcome → State → List Loc → Nat → Nat → Prop} {C S : Nat} {Q : Option Value → Heap → List Loc → Prop} {A B : State} {h : Heap}
theorem Go.step (h : ∀ t, Steps p.tables e below B t → Steps p.tables e below A t) (g : Go En p e below s C S Q B) : Go En p e below s C S Q A := by
  obtain ⟨s₂, o, h1, r⟩ := g
  exact ⟨s₂, o, h _ h1, r⟩
theorem Go.hop (h : Steps p.tables e below A B) (g : Go En p e below s C S Q B) : Go En p e below s C S Q A := Go.step (fun _ k => h.trans k) g
theorem Go.out (X : Stand p l e R s m args below meth c T locs cells slots) {v : Option Value} (hv : meth.sig.returnType = none → v = none) (hl : meth.locks = false) (eT : T.heap = h) (hc : cells ≤ C) (hs : slots ≤ S) (q : Q v h locs)
    (st : ∀ fs, (∀ (f : JFrame) (acts : List Action), f.method = m → f.locked = none → f.entered = [] → (doReturn e (T.setTop f) acts v).1 = T.setFrames fs) → Steps p.tables e below A (T.setFrames fs)) : Go FrameEnd p e below s C S Q A := by
  obtain ⟨fs, hr, hrun, hended, hW, hsame⟩ := X.leave (v := v) hv hl
  refine ⟨_, _, st fs hr, hrun, hended, _, _, rfl, ?_, ⟨_, rfl⟩, hW, hsame.mono hc hs⟩
  show Q v T.heap locs
  rw [eT]
  exact q
theorem Go.retN (X : Stand p l e R s m args below meth c T locs cells slots) (hx : p.tables.exec = Jvm.exec) {pc : Nat} {Ls : Array Slot} {z : Int32} {t : FieldType} {rest : List Value} (hret : meth.sig.returnType = some t) (ht : t = .boolean ∨ t = .byte ∨ t = .char ∨ t = .short)
    (hz : nar t z = z) (hd : decode c.code pc = .ok (.ireturn, 1)) (hl : meth.locks = false) (eT : T.heap = h) (hc : cells ≤ C) (hs : slots ≤ S) (q : Q (some (.int z)) h locs) : Go FrameEnd p e below s C S Q (T.setTop (mkF m pc Ls (.int z :: rest))) :=
  Go.out X (v := some (.int z)) (fun k => by rw [hret] at k; cases k) hl eT hc hs q fun fs hr => Jvm.RoadKit.retN X hx (t := t) hret ht hd (by rw [hz]; exact hr)
theorem Go.retI (X : Stand p l e R s m args below meth c T locs cells slots) (hx : p.tables.exec = Jvm.exec) {pc : Nat} {Ls : Array Slot} {z : Int32} {rest : List Value} (hret : meth.sig.returnType = some .int)
    (hd : decode c.code pc = .ok (.ireturn, 1)) (hl : meth.locks = false) (eT : T.heap = h) (hc : cells ≤ C) (hs : slots ≤ S) (q : Q (some (.int z)) h locs) : Go FrameEnd p e below s C S Q (T.setTop (mkF m pc Ls (.int z :: rest))) :=
  Go.out X (v := some (.int z)) (fun k => by rw [hret] at k; cases k) hl eT hc hs q fun fs hr => retOut X hx hret rfl (Or.inl ⟨rfl, Or.inl rfl, z, rfl⟩) hd hr
theorem Go.retJ (X : Stand p l e R s m args below meth c T locs cells slots) (hx : p.tables.exec = Jvm.exec) {pc : Nat} {Ls : Array Slot} {z : Int64} {rest : List Value} (hret : meth.sig.returnType = some .long)
    (hd : decode c.code pc = .ok (.lreturn, 1)) (hl : meth.locks = false) (eT : T.heap = h) (hc : cells ≤ C) (hs : slots ≤ S) (q : Q (some (.long z)) h locs) : Go FrameEnd p e below s C S Q (T.setTop (mkF m pc Ls (.long z :: rest))) :=
  Go.out X (v := some (.long z)) (fun k => by rw [hret] at k; cases k) hl eT hc hs q fun fs hr => retOut X hx hret rfl (Or.inr (Or.inl ⟨rfl, rfl, z, rfl⟩)) hd hr
theorem own_narR {t : FieldType} {v : Value} (hv : v.isRef = true) : narrow t v = v := by cases v <;> first | (cases hv; done) | (cases t <;> rfl)
theorem Go.retR (X : Stand p l e R s m args below meth c T locs cells slots) (hx : p.tables.exec = Jvm.exec) {pc : Nat} {Ls : Array Slot} {v : Value} {t : FieldType} {rest : List Value} (hret : meth.sig.returnType = some t) (ht : t.isReference = true) (hv : v.isRef = true)
    (hd : decode c.code pc = .ok (.areturn, 1)) (hl : meth.locks = false) (eT : T.heap = h) (hc : cells ≤ C) (hs : slots ≤ S) (q : Q (some v) h locs) : Go FrameEnd p e below s C S Q (T.setTop (mkF m pc Ls (v :: rest))) :=
  Go.out X (v := some v) (fun k => by rw [hret] at k; cases k) hl eT hc hs q fun fs hr => retOut X hx hret (own_narR hv) (Or.inr (Or.inr (Or.inr (Or.inr ⟨rfl, ht, hv⟩)))) hd hr
theorem Go.ret0 (X : Stand p l e R s m args below meth c T locs cells slots) (hx : p.tables.exec = Jvm.exec) {pc : Nat} {Ls : Array Slot} (hret : meth.sig.returnType = none)
    (hd : decode c.code pc = .ok (.return_, 1)) (hl : meth.locks = false) (eT : T.heap = h) (hc : cells ≤ C) (hs : slots ≤ S) (q : Q none h locs) : Go FrameEnd p e below s C S Q (T.setTop (mkF m pc Ls [])) :=
  Go.out X (v := none) (fun _ => rfl) hl eT hc hs q fun fs hr => X.returnOut hx hret hd hr
theorem Go.outW {vm0 : Vm} {k0 : Nat} (X : Stand p l e R (s.setVm vm0) m args below meth c T locs cells slots) (hS : s.Since vm0 k0) (hk : k0 ≤ h.size) {v : Option Value} (hv : meth.sig.returnType = none → v = none) (hl : meth.locks = false) (eT : T.heap = h) (hc : cells ≤ C) (hs : slots ≤ S) (q : Q v h locs)
    (st : ∀ fs, (∀ (f : JFrame) (acts : List Action), f.method = m → f.locked = none → f.entered = [] → (doReturn e (T.setTop f) acts v).1 = T.setFrames fs) → Steps p.tables e below A (T.setFrames fs)) : Go ReturnedEndW p e below s C S Q A := by
  obtain ⟨fs, hr, hrun, hended, hq1, hq2, hq3, hq4⟩ := X.leaveW hS (by rw [eT]; exact hk) (v := v) hv hl
  refine ⟨_, _, st fs hr, hrun, hended, _, _, rfl, ?_, hq1, hq2, hq3, hq4.mono hc hs⟩
  show Q v T.heap locs
  rw [eT]
  exact q
theorem Go.retNW {vm0 : Vm} {k0 : Nat} (X : Stand p l e R (s.setVm vm0) m args below meth c T locs cells slots) (hS : s.Since vm0 k0) (hk : k0 ≤ h.size) (hx : p.tables.exec = Jvm.exec) {pc : Nat} {Ls : Array Slot} {z : Int32} {t : FieldType} {rest : List Value} (hret : meth.sig.returnType = some t) (ht : t = .boolean ∨ t = .byte ∨ t = .char ∨ t = .short)
    (hz : nar t z = z) (hd : decode c.code pc = .ok (.ireturn, 1)) (hl : meth.locks = false) (eT : T.heap = h) (hc : cells ≤ C) (hs : slots ≤ S) (q : Q (some (.int z)) h locs) : Go ReturnedEndW p e below s C S Q (T.setTop (mkF m pc Ls (.int z :: rest))) :=
  Go.outW X hS hk (v := some (.int z)) (fun k => by rw [hret] at k; cases k) hl eT hc hs q fun fs hr => Jvm.RoadKit.retN X hx (t := t) hret ht hd (by rw [hz]; exact hr)
theorem Go.retIW {vm0 : Vm} {k0 : Nat} (X : Stand p l e R (s.setVm vm0) m args below meth c T locs cells slots) (hS : s.Since vm0 k0) (hk : k0 ≤ h.size) (hx : p.tables.exec = Jvm.exec) {pc : Nat} {Ls : Array Slot} {z : Int32} {rest : List Value} (hret : meth.sig.returnType = some .int)
    (hd : decode c.code pc = .ok (.ireturn, 1)) (hl : meth.locks = false) (eT : T.heap = h) (hc : cells ≤ C) (hs : slots ≤ S) (q : Q (some (.int z)) h locs) : Go ReturnedEndW p e below s C S Q (T.setTop (mkF m pc Ls (.int z :: rest))) :=
  Go.outW X hS hk (v := some (.int z)) (fun k => by rw [hret] at k; cases k) hl eT hc hs q fun fs hr => retOut X hx hret rfl (Or.inl ⟨rfl, Or.inl rfl, z, rfl⟩) hd hr
theorem Go.retJW {vm0 : Vm} {k0 : Nat} (X : Stand p l e R (s.setVm vm0) m args below meth c T locs cells slots) (hS : s.Since vm0 k0) (hk : k0 ≤ h.size) (hx : p.tables.exec = Jvm.exec) {pc : Nat} {Ls : Array Slot} {z : Int64} {rest : List Value} (hret : meth.sig.returnType = some .long)
    (hd : decode c.code pc = .ok (.lreturn, 1)) (hl : meth.locks = false) (eT : T.heap = h) (hc : cells ≤ C) (hs : slots ≤ S) (q : Q (some (.long z)) h locs) : Go ReturnedEndW p e below s C S Q (T.setTop (mkF m pc Ls (.long z :: rest))) :=
  Go.outW X hS hk (v := some (.long z)) (fun k => by rw [hret] at k; cases k) hl eT hc hs q fun fs hr => retOut X hx hret rfl (Or.inr (Or.inl ⟨rfl, rfl, z, rfl⟩)) hd hr
theorem Go.retRW {vm0 : Vm} {k0 : Nat} (X : Stand p l e R (s.setVm vm0) m args below meth c T locs cells slots) (hS : s.Since vm0 k0) (hk : k0 ≤ h.size) (hx : p.tables.exec = Jvm.exec) {pc : Nat} {Ls : Array Slot} {v : Value} {t : FieldType} {rest : List Value} (hret : meth.sig.returnType = some t) (ht : t.isReference = true) (hv : v.isRef = true)
    (hd : decode c.code pc = .ok (.areturn, 1)) (hl : meth.locks = false) (eT : T.heap = h) (hc : cells ≤ C) (hs : slots ≤ S) (q : Q (some v) h locs) : Go ReturnedEndW p e below s C S Q (T.setTop (mkF m pc Ls (v :: rest))) :=
  Go.outW X hS hk (v := some v) (fun k => by rw [hret] at k; cases k) hl eT hc hs q fun fs hr => retOut X hx hret (own_narR hv) (Or.inr (Or.inr (Or.inr (Or.inr ⟨rfl, ht, hv⟩)))) hd hr
theorem Go.ret0W {vm0 : Vm} {k0 : Nat} (X : Stand p l e R (s.setVm vm0) m args below meth c T locs cells slots) (hS : s.Since vm0 k0) (hk : k0 ≤ h.size) (hx : p.tables.exec = Jvm.exec) {pc : Nat} {Ls : Array Slot} (hret : meth.sig.returnType = none)
    (hd : decode c.code pc = .ok (.return_, 1)) (hl : meth.locks = false) (eT : T.heap = h) (hc : cells ≤ C) (hs : slots ≤ S) (q : Q none h locs) : Go ReturnedEndW p e below s C S Q (T.setTop (mkF m pc Ls [])) :=
  Go.outW X hS hk (v := none) (fun _ => rfl) hl eT hc hs q fun fs hr => X.returnOut hx hret hd hr
theorem own_lrem {g : JFrame} {target : State} (X : Stand p l e R s m args below meth c T locs cells slots) (hx : p.tables.exec = Jvm.exec) (hg : g.method = m) {x y : Int64} {rest : List Value} (hd : decode c.code g.pc = .ok (.lrem, 1)) (hs : g.stack = .long y :: .long x :: rest) (hy : y ≠ 0)
    (hr : Steps p.tables e below (T.setTop { g with pc := g.pc + 1, stack := .long (x % y) :: rest }) target) : Steps p.tables e below (T.setTop g) target := by
  have q : x - x / y * y = x % y := lrem_mod x y
  exact XS.lrem X.here hx hg hd hs hy (by rw [q]; exact hr)
theorem own_fitR {t : FieldType} {v : Value} (ht : t.isReference = true) (hv : v.isRef = true) : fits t v = true := by cases v <;> first | (cases hv; done) | (cases t <;> first | rfl | cases ht)
variable {Z : State} {h' : Heap} {a b : Addr} {ty : FieldType} {n i sl : Nat} {f : Nat → Value} {v w : Value} {cl : Cell} {j z : Int32} {k : ClassId} {ws : List Addr}
/-- the array at a has n places; place j holds f j -/
def Av (Z : State) (h : Heap) (a : Addr) (ty : FieldType) (n : Nat) (f : Nat → Value) : Prop := ∃ c : Cell, Arr Z h a c ty ∧ c.slots.size = n ∧ n < 2147483648 ∧ ∀ j, j < n → c.slots[j]? = some (f j)
def aset (f : Nat → Value) (i : Nat) (v : Value) : Nat → Value := fun j => if j = i then v else f j
theorem Av.lt (F : Av Z h a ty n f) : a < h.size := by obtain ⟨c, A, -⟩ := F; exact A.lt
theorem Av.ext (F : Av Z h a ty n f) (E : Ext h h') : Av Z h' a ty n f := by obtain ⟨c, A, r⟩ := F; exact ⟨c, A.ext E, r⟩
theorem Av.other (F : Av Z h b ty n f) (W : Wr h h' a sl v) (q : b ≠ a) : Av Z h' b ty n f := by obtain ⟨c, A, r⟩ := F; exact ⟨c, A.other W q, r⟩
theorem Av.keep (F : Av Z h a ty n f) (K : Keep h h' ws) (q : a ∉ ws) : Av Z h' a ty n f := by obtain ⟨c, A, r⟩ := F; exact ⟨c, ⟨K.2.1 a c A.1 q, A.2⟩, r⟩
theorem Av.eq (F : Av Z h a ty n f) {g : Nat → Value} (q : ∀ j, j < n → f j = g j) : Av Z h a ty n g := by obtain ⟨c, A, r1, r2, r3⟩ := F; exact ⟨c, A, r1, r2, fun j hj => by rw [← q j hj]; exact r3 j hj⟩
theorem own_clamp (q : ¬ z < 0) : z.toNatClampNeg < 2147483648 := (back32 q).2
theorem Av.new (A : Arr Z h a (newA k ty z) ty) (q : ¬ z < 0) (e : z.toNatClampNeg = n) : Av Z h a ty n (fun _ => defaultValue ty) := by
  refine ⟨_, A, by rw [sz_new, e], by rw [← e]; exact own_clamp q, fun j hj => ?_⟩
  have q2 : (newA k ty z).slots = Array.replicate z.toNatClampNeg (defaultValue ty) := rfl
  rw [q2, Array.getElem?_replicate, e, if_pos hj]
theorem own_in {c : Cell} (S : c.slots.size = n) (h0 : ¬ j < 0) (h : j.toNatClampNeg < n) : ¬ (j < 0 ∨ c.slots.size ≤ j.toNatClampNeg) := by
  rw [S]; exact fun q => q.elim h0 (Nat.not_le.mpr h)
theorem Av.at {c : Cell} (G : ∀ j, j < n → c.slots[j]? = some (f j)) (e : j.toNatClampNeg = i) (hi : i < n) (w : f i = v) : c.slots[j.toNatClampNeg]? = some v := by rw [e, G i hi, w]
theorem own_slots (c : Cell) (i : Nat) (v : Value) : (c.setSlot i v).slots = c.slots.setIfInBounds i v := rfl
theorem Av.set {c : Cell} (A : Arr Z h a c ty) (S : c.slots.size = n) (M : n < 2147483648) (G : ∀ j, j < n → c.slots[j]? = some (f j)) (W : Wr h h' a j.toNatClampNeg v) (e : j.toNatClampNeg = i) (hin : ¬ (j < 0 ∨ c.slots.size ≤ j.toNatClampNeg)) : Av Z h' a ty n (aset f i v) := by
  have hi : i < c.slots.size := by rw [← e]; exact Nat.lt_of_not_le fun q => hin (Or.inr q)
  refine ⟨_, A.same W, by rw [sz_set]; exact S, M, fun q hq => ?_⟩
  rw [own_slots, e, Array.getElem?_setIfInBounds]
  by_cases r : i = q
  · subst r
    rw [if_pos rfl, if_pos hi]; simp [aset]
  · rw [if_neg r, G q hq]
    show some (f q) = some (if q = i then v else f q)
    rw [if_neg (Ne.symm r)]
theorem own_int_v {aa : Array Value} {t : Term} {k : Int32} (he : (Cond.eq t (.int k)).value aa Z none Z [] = some true) : t.eval aa Z none [] Z = some (.int k) := by
  have hk : (Term.int k).eval aa Z none [] Z = some (.int k) := Term.int_eval k
  cases ht : t.eval aa Z none [] Z with
  | none => simp [Cond.value, ht] at he
  | some x => cases x <;> simp_all [Cond.value]
theorem own_enum {aa : Array Value} {t : Term} {C D n d : String} {k : Int32} (hx : (Cond.exactly t C).value aa Z none Z [] = some true) (he : (Cond.eq (.field t D n d) (.int k)).value aa Z none Z [] = some true) :
    ∃ x : Addr, t.eval aa Z none [] Z = some (.ref x) ∧ Exa Z Z.heap x C ∧ Fld Z Z.heap x D n d (.int k) := by
  obtain ⟨x, hv⟩ := exa_v hx
  exact ⟨x, hv, Exa.start hv hx, Fld.start (by rw [← fld_at hv]; exact own_int_v he)⟩
theorem own_self {y z : MethodName} (hz : (Cond.selects z.cls z z).before args s = true) (e : z.cls = y.cls) (hp : s.PrivateAt y) (hi : (Cond.instanceMethod y).before args s = true) (hy : y.cls ≠ "java/lang/invoke/MethodHandle" ∧ y.cls ≠ "java/lang/invoke/VarHandle") : (Cond.selects y.cls y y).before args s = true := by
  obtain ⟨c2, r2, m2, q1, -, q3, -, kP, hkP, hkPi⟩ := Cond.selects_spec hz
  have q := findClass_of_methodNamed q3
  rw [e] at q
  exact selects_self_of_private q hkP hkPi hp hi hy
theorem own_nar8 (a : Int32) : nar .byte a.toInt8.toInt32 = a.toInt8.toInt32 := by show a.toInt8.toInt32.toInt8.toInt32 = _; simp
theorem own_nar16 (a : Int32) : nar .char a.toUInt32.toUInt16.toUInt32.toInt32 = a.toUInt32.toUInt16.toUInt32.toInt32 := by
  show a.toUInt32.toUInt16.toUInt32.toInt32.toUInt32.toUInt16.toUInt32.toInt32 = _
  rw [show a.toUInt32.toUInt16.toUInt32.toInt32.toUInt32 = a.toUInt32.toUInt16.toUInt32 from rfl, UInt16.toUInt16_toUInt32]
theorem own_sta_keep {C d nm : String} (F : Sta Z h C nm d w) (K : Keep h h' []) : Sta Z h' C nm d w := by
  obtain ⟨cf, i, k, f, st, cell, h1, h2, h3, h4, h5, r⟩ := F
  exact ⟨cf, i, k, f, st, cell, h1, h2, h3, h4, K.2.1 _ _ h5 nin0, r⟩
theorem own_ext_keep (E : Ext h h') : Keep h h' [] := (Keep.refl h []).ext E
theorem own_keep_eq (e : h' = h) (ws : List Addr) : Keep h h' ws := by rw [e]; exact Keep.refl _ _
end Own
theorem pn_java_lang_Record : plainName "java/lang/Record" = true := by first | (simp [plainName, overriddenIn]; done) | decide +kernel
theorem d_jdk_30_method_1_code_0 : decode jdk_30_method_1_code 0 = .ok (.aload_n 0, 1) := by decide +kernel
theorem d_jdk_30_method_1_code_1 : decode jdk_30_method_1_code 1 = .ok (.invokespecial 1, 3) := by decide +kernel
theorem d_jdk_30_method_1_code_4 : decode jdk_30_method_1_code 4 = .ok (.return_, 1) := by decide +kernel
theorem pn_com_example_loomward_loomward_xpath_DecimalFormat : plainName "com/example/loomward/loomward/xpath/DecimalFormat" = true := by first | (simp [plainName, overriddenIn]; done) | decide +kernel
theorem d_prog_57_method_1_code_0 : decode prog_57_method_1_code 0 = .ok (.aload_n 0, 1) := by decide +kernel
theorem d_prog_57_method_1_code_1 : decode prog_57_method_1_code 1 = .ok (.invokespecial 1, 3) := by decide +kernel
theorem pd___V : parseMethodDescriptor "()V" = some ⟨[], none⟩ := by decide +kernel
theorem d_prog_57_method_1_code_4 : decode prog_57_method_1_code 4 = .ok (.aload_n 0, 1) := by decide +kernel
theorem d_prog_57_method_1_code_5 : decode prog_57_method_1_code 5 = .ok (.iload_n 1, 1) := by decide +kernel
theorem d_prog_57_method_1_code_6 : decode prog_57_method_1_code 6 = .ok (.putfield 7, 3) := by decide +kernel
theorem d_prog_57_method_1_code_9 : decode prog_57_method_1_code 9 = .ok (.aload_n 0, 1) := by decide +kernel
theorem d_prog_57_method_1_code_10 : decode prog_57_method_1_code 10 = .ok (.iload_n 2, 1) := by decide +kernel
theorem d_prog_57_method_1_code_11 : decode prog_57_method_1_code 11 = .ok (.putfield 13, 3) := by decide +kernel
theorem d_prog_57_method_1_code_14 : decode prog_57_method_1_code 14 = .ok (.aload_n 0, 1) := by decide +kernel
theorem d_prog_57_method_1_code_15 : decode prog_57_method_1_code 15 = .ok (.iload_n 3, 1) := by decide +kernel
theorem d_prog_57_method_1_code_16 : decode prog_57_method_1_code 16 = .ok (.putfield 16, 3) := by decide +kernel
theorem d_prog_57_method_1_code_19 : decode prog_57_method_1_code 19 = .ok (.aload_n 0, 1) := by decide +kernel
theorem d_prog_57_method_1_code_20 : decode prog_57_method_1_code 20 = .ok (.iload 4, 2) := by decide +kernel
theorem d_prog_57_method_1_code_22 : decode prog_57_method_1_code 22 = .ok (.putfield 19, 3) := by decide +kernel
theorem d_prog_57_method_1_code_25 : decode prog_57_method_1_code 25 = .ok (.aload_n 0, 1) := by decide +kernel
theorem d_prog_57_method_1_code_26 : decode prog_57_method_1_code 26 = .ok (.iload 5, 2) := by decide +kernel
theorem d_prog_57_method_1_code_28 : decode prog_57_method_1_code 28 = .ok (.putfield 22, 3) := by decide +kernel
theorem d_prog_57_method_1_code_31 : decode prog_57_method_1_code 31 = .ok (.aload_n 0, 1) := by decide +kernel
theorem d_prog_57_method_1_code_32 : decode prog_57_method_1_code 32 = .ok (.iload 6, 2) := by decide +kernel
theorem d_prog_57_method_1_code_34 : decode prog_57_method_1_code 34 = .ok (.putfield 25, 3) := by decide +kernel
theorem d_prog_57_method_1_code_37 : decode prog_57_method_1_code 37 = .ok (.aload_n 0, 1) := by decide +kernel
theorem d_prog_57_method_1_code_38 : decode prog_57_method_1_code 38 = .ok (.iload 7, 2) := by decide +kernel
theorem d_prog_57_method_1_code_40 : decode prog_57_method_1_code 40 = .ok (.putfield 28, 3) := by decide +kernel
theorem d_prog_57_method_1_code_43 : decode prog_57_method_1_code 43 = .ok (.aload_n 0, 1) := by decide +kernel
theorem d_prog_57_method_1_code_44 : decode prog_57_method_1_code 44 = .ok (.iload 8, 2) := by decide +kernel
theorem d_prog_57_method_1_code_46 : decode prog_57_method_1_code 46 = .ok (.putfield 31, 3) := by decide +kernel
theorem d_prog_57_method_1_code_49 : decode prog_57_method_1_code 49 = .ok (.aload_n 0, 1) := by decide +kernel
theorem d_prog_57_method_1_code_50 : decode prog_57_method_1_code 50 = .ok (.aload 9, 2) := by decide +kernel
theorem d_prog_57_method_1_code_52 : decode prog_57_method_1_code 52 = .ok (.putfield 34, 3) := by decide +kernel
theorem d_prog_57_method_1_code_55 : decode prog_57_method_1_code 55 = .ok (.aload_n 0, 1) := by decide +kernel
theorem d_prog_57_method_1_code_56 : decode prog_57_method_1_code 56 = .ok (.aload 10, 2) := by decide +kernel
theorem d_prog_57_method_1_code_58 : decode prog_57_method_1_code 58 = .ok (.putfield 38, 3) := by decide +kernel
theorem d_prog_57_method_1_code_61 : decode prog_57_method_1_code 61 = .ok (.aload_n 0, 1) := by decide +kernel
theorem d_prog_57_method_1_code_62 : decode prog_57_method_1_code 62 = .ok (.iload 11, 2) := by decide +kernel
theorem d_prog_57_method_1_code_64 : decode prog_57_method_1_code 64 = .ok (.putfield 41, 3) := by decide +kernel
theorem d_prog_57_method_1_code_67 : decode prog_57_method_1_code 67 = .ok (.return_, 1) := by decide +kernel
theorem d_prog_57_method_2_code_0 : decode prog_57_method_2_code 0 = .ok (.iload_n 1, 1) := by decide +kernel
theorem d_prog_57_method_2_code_1 : decode prog_57_method_2_code 1 = .ok (.aload_n 0, 1) := by decide +kernel
theorem d_prog_57_method_2_code_2 : decode prog_57_method_2_code 2 = .ok (.getfield 25, 3) := by decide +kernel
theorem d_prog_57_method_2_code_5 : decode prog_57_method_2_code 5 = .ok (.if_icmp .lt 18, 3) := by decide +kernel
theorem d_prog_57_method_2_code_23 : decode prog_57_method_2_code 23 = .ok (.iconst 0, 1) := by decide +kernel
theorem d_prog_57_method_2_code_24 : decode prog_57_method_2_code 24 = .ok (.ireturn, 1) := by decide +kernel
theorem d_prog_57_method_2_code_8 : decode prog_57_method_2_code 8 = .ok (.iload_n 1, 1) := by decide +kernel
theorem d_prog_57_method_2_code_9 : decode prog_57_method_2_code 9 = .ok (.aload_n 0, 1) := by decide +kernel
theorem d_prog_57_method_2_code_10 : decode prog_57_method_2_code 10 = .ok (.getfield 25, 3) := by decide +kernel
theorem d_prog_57_method_2_code_13 : decode prog_57_method_2_code 13 = .ok (.bipush 9, 2) := by decide +kernel
theorem d_prog_57_method_2_code_15 : decode prog_57_method_2_code 15 = .ok (.iadd, 1) := by decide +kernel
theorem d_prog_57_method_2_code_16 : decode prog_57_method_2_code 16 = .ok (.if_icmp .gt 7, 3) := by decide +kernel
theorem d_prog_57_method_2_code_19 : decode prog_57_method_2_code 19 = .ok (.iconst 1, 1) := by decide +kernel
theorem d_prog_57_method_2_code_20 : decode prog_57_method_2_code 20 = .ok (.goto 4, 3) := by decide +kernel
theorem pn_com_example_loomward_loomward_xpath_DecimalFormatIsDigitPinLaw : plainName "com/example/loomward/loomward/xpath/DecimalFormatIsDigitPinLaw" = true := by first | (simp [plainName, overriddenIn]; done) | decide +kernel
theorem own_strAtoms {Z : State} {a0 : Array Value} (hw : ∀ d ∈ tables_1, d.before a0 Z = true) : ∀ a ∈ Bundle.stringAtoms, a.before a0 Z = true := by
  intro d hd
  simp only [Bundle.stringAtoms, List.mem_cons, List.not_mem_nil, or_false] at hd
  rcases hd with rfl | rfl | rfl | rfl | rfl | rfl | rfl
  · exact (hw _ (List.mem_of_getElem? (i := 6) rfl))
  · exact (hw _ (List.mem_of_getElem? (i := 7) rfl))
  · exact (hw _ (List.mem_of_getElem? (i := 8) rfl))
  · exact (hw _ (List.mem_of_getElem? (i := 9) rfl))
  · exact (hw _ (List.mem_of_getElem? (i := 10) rfl))
  · exact (hw _ (List.mem_of_getElem? (i := 11) rfl))
  · exact (hw _ (List.mem_of_getElem? (i := 12) rfl))
theorem pd__IIIIIIIILjava_lang_String_Ljava_lang_String_I_V : parseMethodDescriptor "(IIIIIIIILjava/lang/String;Ljava/lang/String;I)V" = some ⟨[.int, .int, .int, .int, .int, .int, .int, .int, (.object "java/lang/String"), (.object "java/lang/String"), .int], none⟩ := by decide +kernel
theorem pd__I_Z : parseMethodDescriptor "(I)Z" = some ⟨[.int], some .boolean⟩ := by decide +kernel

def digF (z ch : Int32) : Int32 := if ch < z then 0 else if z + 9 < ch then 0 else 1
theorem own_zero (z : Int32) : 0 ≤ ((z &&& (2147483647 : Int32)) % (1114112 : Int32)).toInt ∧ ((z &&& (2147483647 : Int32)) % (1114112 : Int32)).toInt < 1114112 := by
  have h := c_mask z 2147483647 31 (by decide) (by decide)
  have h2 := (c_irem (z &&& 2147483647) 1114112 1114112 (by decide)).1
  omega
theorem own_dig (z ch : Int32) (h0 : 0 ≤ z.toInt ∧ z.toInt < 1114112) : (ch.toInt64 - z.toInt64 < 0 → digF z ch = 0) ∧ (¬ ch.toInt64 - z.toInt64 < 0 → 9 < ch.toInt64 - z.toInt64 → digF z ch = 0) ∧ (¬ ch.toInt64 - z.toInt64 < 0 → ¬ 9 < ch.toInt64 - z.toInt64 → digF z ch = 1) := by
  have hd : (ch.toInt64 - z.toInt64).toInt = ch.toInt - z.toInt := by
    have a := c_lsub ch.toInt64 z.toInt64
    have b := rng32 ch
    have c := rng64 (ch.toInt64 - z.toInt64)
    rw [c_i2l, c_i2l] at a
    omega
  have h9 : (z + 9).toInt = z.toInt + 9 := by
    have a := c_iadd z 9
    have b := rng32 (z + 9)
    have c : (9 : Int32).toInt = 9 := by decide
    omega
  have l0 : (0 : Int64).toInt = 0 := by decide
  have l9 : (9 : Int64).toInt = 9 := by decide
  simp only [digF, Int32.lt_iff_toInt_lt, Int64.lt_iff_toInt_lt, hd, h9, l0, l9]
  refine ⟨fun a => if_pos (by omega), fun a b => ?_, fun a b => ?_⟩
  · rw [if_neg (by omega), if_pos (by omega)]
  · rw [if_neg (by omega), if_neg (by omega)]

def Q1 (Z : State) (a1 : Addr) (h0 : Heap) (v : Option Value) (h : Heap) (L : List Loc) : Prop := v = none ∧ L = [] ∧ h = h0
theorem ef_1 (m : MethodId) (a1 : Addr) : entryFrame m #[(.ref a1)] 1 = mkF m 0 #[.val (.ref a1)] [] := by first | (simp [entryFrame, mkF, argsToLocals, Value.category]; done) | rfl
set_option maxRecDepth 65536 in
set_option maxHeartbeats 40000000 in
theorem rm1 (l : Launch) (Z : State) (a0 : Array Value) (hw : ∀ d ∈ tables_1, d.before a0 Z = true) (ws : List Jvm.Cond) (a1 : Addr) (h0 : Heap) :
    MetFree l (⟨"java/lang/Record", "<init>", "()V"⟩ : MethodName) (head1 (Jvm.Cond.code (⟨"java/lang/Record", "<init>", "()V"⟩ : MethodName) jdk_30_method_1_code 1 none :: ws) ({ frames := 1, cells := 0, slots := 0, locals := 12 } : Room)) (fun a U => a = #[(.ref a1)] ∧ Z.Warmed39 U.vm ∧ U.heap = h0) (fun _ _ _ _ _ => True) (fun _ U o U' => ∃ v L, o = .returned v ∧ (Q1 Z a1 h0) v U'.heap L ∧ FrameEnd U o U' L 0 0) := by
  refine MetFree.of_bodySF (plainFor_of_name pn_java_lang_Record) hisR ?_
  intro p e s m args below meth c s₁ Bd hml0 hP hK
  obtain ⟨rfl, hZ, hh⟩ := hP
  have hx := Bd.exec
  have hby := Bd.bytes
  have hml : c.maxLocals = 1 := hml0
  have hown : s.vm.findClass "java/lang/Record" = some m.cls := findClass_of_methodNamed Bd.named
  have hnm := (name_of_methodNamed Bd.named Bd.method).1
  have X0 : Stand p l e ({ frames := 1, cells := 0, slots := 0, locals := 12 } : Room) s m #[(.ref a1)] below meth c s₁ [] 0 0 := Stand.of_body Bd
  have e0 : s₁.heap = h0 := by rw [← hh, Bd.state]; rfl
  show Go FrameEnd p e below s 0 0 (Q1 Z a1 h0) _
  refine Go.step (fun _ k => castTop (ef_1 m a1) k) ?_
  show Go FrameEnd p e below s 0 0 (Q1 Z a1 h0) (s₁.setTop (mkF m 0 #[.val (.ref a1)] []))
  refine Go.step (fun _ k => XS.aloadN X0.here hx rfl (hb hby d_jdk_30_method_1_code_0) rfl rfl k) ?_
  show Go FrameEnd p e below s 0 0 (Q1 Z a1 h0) (s₁.setTop (mkF m 1 #[.val (.ref a1)] [(.ref a1)]))
  obtain ⟨T1, X1, e1, st1⟩ := initO X0 hx hZ hown (hw _ (List.mem_of_getElem? (i := 22) rfl)) (hw _ (List.mem_of_getElem? (i := 23) rfl)) (hw _ (List.mem_of_getElem? (i := 24) rfl)) e0 (g := (mkF m 1 #[.val (.ref a1)] [(.ref a1)])) rfl (by rw [hml]; rfl) rfl (hb hby d_jdk_30_method_1_code_1) (by decide) (W := 0) (by show 2 * 0 + _ ≤ _; exact Nat.le_of_eq rfl) (by decide)
  refine Go.step st1 ?_
  show Go FrameEnd p e below s 0 0 (Q1 Z a1 h0) (T1.setTop (mkF m 4 #[.val (.ref a1)] []))
  refine Go.ret0 X1 hx Bd.returns (hb hby d_jdk_30_method_1_code_4) (BodyLoose.notSynchronized Bd) e1 (by decide) (by decide) ?_
  exact ⟨rfl, rfl, rfl⟩
def Q2 (Z : State) (a1 : Addr) (p1 : Int32) (p2 : Int32) (p3 : Int32) (p4 : Int32) (p5 : Int32) (p6 : Int32) (p7 : Int32) (p8 : Int32) (s1 : Addr) (s2 : Addr) (p9 : Int32) (u_decimalSeparator_a1 : Value) (u_exponentSeparator_a1 : Value) (u_groupingSeparator_a1 : Value) (u_percent_a1 : Value) (u_perMille_a1 : Value) (u_zeroDigit_a1 : Value) (u_digit_a1 : Value) (u_patternSeparator_a1 : Value) (u_infinity_a1 : Value) (u_notANumber_a1 : Value) (u_minusSign_a1 : Value) (h0 : Heap) (n0 : Nat) (v : Option Value) (h : Heap) (L : List Loc) : Prop := v = none ∧ Fr n0 L ∧ (Keep h0 h [a1]) ∧ (Exa Z h a1 "com/example/loomward/loomward/xpath/DecimalFormat") ∧ (Fld Z h a1 "com/example/loomward/loomward/xpath/DecimalFormat" "zeroDigit" "I" (.int p6))
theorem ef_2 (m : MethodId) (a1 : Addr) (p1 : Int32) (p2 : Int32) (p3 : Int32) (p4 : Int32) (p5 : Int32) (p6 : Int32) (p7 : Int32) (p8 : Int32) (s1 : Addr) (s2 : Addr) (p9 : Int32) : entryFrame m #[(.ref a1), (.int p1), (.int p2), (.int p3), (.int p4), (.int p5), (.int p6), (.int p7), (.int p8), (.ref s1), (.ref s2), (.int p9)] 12 = mkF m 0 #[.val (.ref a1), .val (.int p1), .val (.int p2), .val (.int p3), .val (.int p4), .val (.int p5), .val (.int p6), .val (.int p7), .val (.int p8), .val (.ref s1), .val (.ref s2), .val (.int p9)] [] := by first | (simp [entryFrame, mkF, argsToLocals, Value.category]; done) | rfl
set_option maxRecDepth 65536 in
set_option maxHeartbeats 40000000 in
theorem rm2 (l : Launch) (Z : State) (a0 : Array Value) (hw : ∀ d ∈ tables_1, d.before a0 Z = true) (ws : List Jvm.Cond) (a1 : Addr) (p1 : Int32) (p2 : Int32) (p3 : Int32) (p4 : Int32) (p5 : Int32) (p6 : Int32) (p7 : Int32) (p8 : Int32) (s1 : Addr) (s2 : Addr) (p9 : Int32) (u_decimalSeparator_a1 : Value) (u_exponentSeparator_a1 : Value) (u_groupingSeparator_a1 : Value) (u_percent_a1 : Value) (u_perMille_a1 : Value) (u_zeroDigit_a1 : Value) (u_digit_a1 : Value) (u_patternSeparator_a1 : Value) (u_infinity_a1 : Value) (u_notANumber_a1 : Value) (u_minusSign_a1 : Value) (h0 : Heap) (n0 : Nat) (Z0 : n0 ≤ h0.size) (E_a1 : Exa Z h0 a1 "com/example/loomward/loomward/xpath/DecimalFormat") (F_decimalSeparator_a1 : Fld Z h0 a1 "com/example/loomward/loomward/xpath/DecimalFormat" "decimalSeparator" "I" u_decimalSeparator_a1) (F_exponentSeparator_a1 : Fld Z h0 a1 "com/example/loomward/loomward/xpath/DecimalFormat" "exponentSeparator" "I" u_exponentSeparator_a1) (F_groupingSeparator_a1 : Fld Z h0 a1 "com/example/loomward/loomward/xpath/DecimalFormat" "groupingSeparator" "I" u_groupingSeparator_a1) (F_percent_a1 : Fld Z h0 a1 "com/example/loomward/loomward/xpath/DecimalFormat" "percent" "I" u_percent_a1) (F_perMille_a1 : Fld Z h0 a1 "com/example/loomward/loomward/xpath/DecimalFormat" "perMille" "I" u_perMille_a1) (F_zeroDigit_a1 : Fld Z h0 a1 "com/example/loomward/loomward/xpath/DecimalFormat" "zeroDigit" "I" u_zeroDigit_a1) (F_digit_a1 : Fld Z h0 a1 "com/example/loomward/loomward/xpath/DecimalFormat" "digit" "I" u_digit_a1) (F_patternSeparator_a1 : Fld Z h0 a1 "com/example/loomward/loomward/xpath/DecimalFormat" "patternSeparator" "I" u_patternSeparator_a1) (F_infinity_a1 : Fld Z h0 a1 "com/example/loomward/loomward/xpath/DecimalFormat" "infinity" "Ljava/lang/String;" u_infinity_a1) (F_notANumber_a1 : Fld Z h0 a1 "com/example/loomward/loomward/xpath/DecimalFormat" "notANumber" "Ljava/lang/String;" u_notANumber_a1) (F_minusSign_a1 : Fld Z h0 a1 "com/example/loomward/loomward/xpath/DecimalFormat" "minusSign" "I" u_minusSign_a1) (g_a1 : n0 ≤ a1) :
    MetFree l (⟨"com/example/loomward/loomward/xpath/DecimalFormat", "<init>", "(IIIIIIIILjava/lang/String;Ljava/lang/String;I)V"⟩ : MethodName) (head1 (Jvm.Cond.code (⟨"com/example/loomward/loomward/xpath/DecimalFormat", "<init>", "(IIIIIIIILjava/lang/String;Ljava/lang/String;I)V"⟩ : MethodName) prog_57_method_1_code 12 none :: ws) ({ frames := 2, cells := 0, slots := 0, locals := 24 } : Room)) (fun a U => a = #[(.ref a1), (.int p1), (.int p2), (.int p3), (.int p4), (.int p5), (.int p6), (.int p7), (.int p8), (.ref s1), (.ref s2), (.int p9)] ∧ Z.Warmed39 U.vm ∧ U.heap = h0) (fun _ _ _ _ _ => True) (fun _ U o U' => ∃ v L, o = .returned v ∧ (Q2 Z a1 p1 p2 p3 p4 p5 p6 p7 p8 s1 s2 p9 u_decimalSeparator_a1 u_exponentSeparator_a1 u_groupingSeparator_a1 u_percent_a1 u_perMille_a1 u_zeroDigit_a1 u_digit_a1 u_patternSeparator_a1 u_infinity_a1 u_notANumber_a1 u_minusSign_a1 h0 n0) v U'.heap L ∧ FrameEnd U o U' L 0 0) := by
  refine MetFree.of_bodySF (plainFor_of_name pn_com_example_loomward_loomward_xpath_DecimalFormat) hisR ?_
  intro p e s m args below meth c s₁ Bd hml0 hP hK
  obtain ⟨rfl, hZ, hh⟩ := hP
  have hx := Bd.exec
  have hby := Bd.bytes
  have hml : c.maxLocals = 12 := hml0
  have hown : s.vm.findClass "com/example/loomward/loomward/xpath/DecimalFormat" = some m.cls := findClass_of_methodNamed Bd.named
  have hnm := (name_of_methodNamed Bd.named Bd.method).1
  have X0 : Stand p l e ({ frames := 2, cells := 0, slots := 0, locals := 24 } : Room) s m #[(.ref a1), (.int p1), (.int p2), (.int p3), (.int p4), (.int p5), (.int p6), (.int p7), (.int p8), (.ref s1), (.ref s2), (.int p9)] below meth c s₁ [] 0 0 := Stand.of_body Bd
  have e0 : s₁.heap = h0 := by rw [← hh, Bd.state]; rfl
  have N0 := Fr.nil n0
  show Go FrameEnd p e below s 0 0 (Q2 Z a1 p1 p2 p3 p4 p5 p6 p7 p8 s1 s2 p9 u_decimalSeparator_a1 u_exponentSeparator_a1 u_groupingSeparator_a1 u_percent_a1 u_perMille_a1 u_zeroDigit_a1 u_digit_a1 u_patternSeparator_a1 u_infinity_a1 u_notANumber_a1 u_minusSign_a1 h0 n0) _
  refine Go.step (fun _ k => castTop (ef_2 m a1 p1 p2 p3 p4 p5 p6 p7 p8 s1 s2 p9) k) ?_
  show Go FrameEnd p e below s 0 0 (Q2 Z a1 p1 p2 p3 p4 p5 p6 p7 p8 s1 s2 p9 u_decimalSeparator_a1 u_exponentSeparator_a1 u_groupingSeparator_a1 u_percent_a1 u_perMille_a1 u_zeroDigit_a1 u_digit_a1 u_patternSeparator_a1 u_infinity_a1 u_notANumber_a1 u_minusSign_a1 h0 n0) (s₁.setTop (mkF m 0 #[.val (.ref a1), .val (.int p1), .val (.int p2), .val (.int p3), .val (.int p4), .val (.int p5), .val (.int p6), .val (.int p7), .val (.int p8), .val (.ref s1), .val (.ref s2), .val (.int p9)] []))
  refine Go.step (fun _ k => XS.aloadN X0.here hx rfl (hb hby d_prog_57_method_1_code_0) rfl rfl k) ?_
  show Go FrameEnd p e below s 0 0 (Q2 Z a1 p1 p2 p3 p4 p5 p6 p7 p8 s1 s2 p9 u_decimalSeparator_a1 u_exponentSeparator_a1 u_groupingSeparator_a1 u_percent_a1 u_perMille_a1 u_zeroDigit_a1 u_digit_a1 u_patternSeparator_a1 u_infinity_a1 u_notANumber_a1 u_minusSign_a1 h0 n0) (s₁.setTop (mkF m 1 #[.val (.ref a1), .val (.int p1), .val (.int p2), .val (.int p3), .val (.int p4), .val (.int p5), .val (.int p6), .val (.int p7), .val (.int p8), .val (.ref s1), .val (.ref s2), .val (.int p9)] [(.ref a1)]))
  obtain ⟨_, _, ⟨T1, L1, k1, n1⟩, -, X1, ⟨Lc1, hQ1, l1, y1, z1⟩, st1⟩ := X0.specialBack hx (y := (⟨"java/lang/Record", "<init>", "()V"⟩ : MethodName)) rfl hown (mvT hZ (hw _ (List.mem_of_getElem? (i := 17) rfl))) (mvT hZ (hw _ (List.mem_of_getElem? (i := 18) rfl))) (mvT hZ (hw _ (List.mem_of_getElem? (i := 21) rfl))) (by decide) (backOf (W := 0) (rm1 l Z a0 hw [] a1  h0 ) hZ (hw _ (List.mem_of_getElem? (i := 21) rfl)) (hw _ (List.mem_of_getElem? (i := 20) rfl)) (by decide) (by decide)) (g := (mkF m 1 #[.val (.ref a1), .val (.int p1), .val (.int p2), .val (.int p3), .val (.int p4), .val (.int p5), .val (.int p6), .val (.int p7), .val (.int p8), .val (.ref s1), .val (.ref s2), .val (.int p9)] [(.ref a1)])) rfl (by rw [hml]; rfl) (Steps.refl _) (a := a1) (argsL := []) (rest := []) (lenOf pd___V rfl) rfl (by show 2 * 0 + _ ≤ _; exact Nat.le_of_eq rfl) (hb hby d_prog_57_method_1_code_1) (fun _ _ => ⟨rfl, e0, (by decide : 0 + 0 ≤ _), (by decide : 0 + 0 ≤ _)⟩)
  dsimp only [Pt.U, Pt.locs, Pt.cells, Pt.slots] at X1 l1 y1 z1 st1 hQ1
  subst l1 y1 z1
  obtain ⟨rfl, rfl, e1⟩ := hQ1
  have N1 := Fr.app N0 (Fr.nil n0)
  refine Go.hop st1 ?_
  show Go FrameEnd p e below s 0 0 (Q2 Z a1 p1 p2 p3 p4 p5 p6 p7 p8 s1 s2 p9 u_decimalSeparator_a1 u_exponentSeparator_a1 u_groupingSeparator_a1 u_percent_a1 u_perMille_a1 u_zeroDigit_a1 u_digit_a1 u_patternSeparator_a1 u_infinity_a1 u_notANumber_a1 u_minusSign_a1 h0 n0) (T1.setTop (mkF m 4 #[.val (.ref a1), .val (.int p1), .val (.int p2), .val (.int p3), .val (.int p4), .val (.int p5), .val (.int p6), .val (.int p7), .val (.int p8), .val (.ref s1), .val (.ref s2), .val (.int p9)] []))
  refine Go.step (fun _ k => XS.aloadN X1.here hx rfl (hb hby d_prog_57_method_1_code_4) rfl rfl k) ?_
  show Go FrameEnd p e below s 0 0 (Q2 Z a1 p1 p2 p3 p4 p5 p6 p7 p8 s1 s2 p9 u_decimalSeparator_a1 u_exponentSeparator_a1 u_groupingSeparator_a1 u_percent_a1 u_perMille_a1 u_zeroDigit_a1 u_digit_a1 u_patternSeparator_a1 u_infinity_a1 u_notANumber_a1 u_minusSign_a1 h0 n0) (T1.setTop (mkF m 5 #[.val (.ref a1), .val (.int p1), .val (.int p2), .val (.int p3), .val (.int p4), .val (.int p5), .val (.int p6), .val (.int p7), .val (.int p8), .val (.ref s1), .val (.ref s2), .val (.int p9)] [(.ref a1)]))
  refine Go.step (fun _ k => XS.iloadN X1.here hx rfl (hb hby d_prog_57_method_1_code_5) rfl k) ?_
  show Go FrameEnd p e below s 0 0 (Q2 Z a1 p1 p2 p3 p4 p5 p6 p7 p8 s1 s2 p9 u_decimalSeparator_a1 u_exponentSeparator_a1 u_groupingSeparator_a1 u_percent_a1 u_perMille_a1 u_zeroDigit_a1 u_digit_a1 u_patternSeparator_a1 u_infinity_a1 u_notANumber_a1 u_minusSign_a1 h0 n0) (T1.setTop (mkF m 6 #[.val (.ref a1), .val (.int p1), .val (.int p2), .val (.int p3), .val (.int p4), .val (.int p5), .val (.int p6), .val (.int p7), .val (.int p8), .val (.ref s1), .val (.ref s2), .val (.int p9)] [(.int p1), (.ref a1)]))
  obtain ⟨T2, h2, X2, e2, W2, st2⟩ := putF X1 hx hZ hown (host := "") (Or.inl (hw _ (List.mem_of_getElem? (i := 25) rfl))) Via.refl e1 F_decimalSeparator_a1 E_a1 (Or.inr ⟨(hw _ (List.mem_of_getElem? (i := 26) rfl)), rfl, hnm⟩) (hw _ (List.mem_of_getElem? (i := 3) rfl)) (ty := .int) (by decide) rfl rfl (g := (mkF m 6 #[.val (.ref a1), .val (.int p1), .val (.int p2), .val (.int p3), .val (.int p4), .val (.int p5), .val (.int p6), .val (.int p7), .val (.int p8), .val (.ref s1), .val (.ref s2), .val (.int p9)] [(.int p1), (.ref a1)])) rfl rfl (hb hby d_prog_57_method_1_code_6)
  refine Go.step st2 ?_
  have N2 := Fr.snoc X2 N1 g_a1
  have Z2 : n0 ≤ h2.size := Nat.le_trans Z0 (Keep.of_wr W2).1
  have K02 : Keep h0 h2 [a1] := (Keep.refl h0 [a1]).wr W2 (Or.inl (List.mem_of_getElem? (i := 0) rfl))
  have F2 := F_decimalSeparator_a1.same W2
  show Go FrameEnd p e below s 0 0 (Q2 Z a1 p1 p2 p3 p4 p5 p6 p7 p8 s1 s2 p9 u_decimalSeparator_a1 u_exponentSeparator_a1 u_groupingSeparator_a1 u_percent_a1 u_perMille_a1 u_zeroDigit_a1 u_digit_a1 u_patternSeparator_a1 u_infinity_a1 u_notANumber_a1 u_minusSign_a1 h0 n0) (T2.setTop (mkF m 9 #[.val (.ref a1), .val (.int p1), .val (.int p2), .val (.int p3), .val (.int p4), .val (.int p5), .val (.int p6), .val (.int p7), .val (.int p8), .val (.ref s1), .val (.ref s2), .val (.int p9)] []))
  refine Go.step (fun _ k => XS.aloadN X2.here hx rfl (hb hby d_prog_57_method_1_code_9) rfl rfl k) ?_
  show Go FrameEnd p e below s 0 0 (Q2 Z a1 p1 p2 p3 p4 p5 p6 p7 p8 s1 s2 p9 u_decimalSeparator_a1 u_exponentSeparator_a1 u_groupingSeparator_a1 u_percent_a1 u_perMille_a1 u_zeroDigit_a1 u_digit_a1 u_patternSeparator_a1 u_infinity_a1 u_notANumber_a1 u_minusSign_a1 h0 n0) (T2.setTop (mkF m 10 #[.val (.ref a1), .val (.int p1), .val (.int p2), .val (.int p3), .val (.int p4), .val (.int p5), .val (.int p6), .val (.int p7), .val (.int p8), .val (.ref s1), .val (.ref s2), .val (.int p9)] [(.ref a1)]))
  refine Go.step (fun _ k => XS.iloadN X2.here hx rfl (hb hby d_prog_57_method_1_code_10) rfl k) ?_
  show Go FrameEnd p e below s 0 0 (Q2 Z a1 p1 p2 p3 p4 p5 p6 p7 p8 s1 s2 p9 u_decimalSeparator_a1 u_exponentSeparator_a1 u_groupingSeparator_a1 u_percent_a1 u_perMille_a1 u_zeroDigit_a1 u_digit_a1 u_patternSeparator_a1 u_infinity_a1 u_notANumber_a1 u_minusSign_a1 h0 n0) (T2.setTop (mkF m 11 #[.val (.ref a1), .val (.int p1), .val (.int p2), .val (.int p3), .val (.int p4), .val (.int p5), .val (.int p6), .val (.int p7), .val (.int p8), .val (.ref s1), .val (.ref s2), .val (.int p9)] [(.int p2), (.ref a1)]))
  have f_3 := (F_exponentSeparator_a1.other W2 (Or.inr (slot_ne (Or.inr (hw _ (List.mem_of_getElem? (i := 28) rfl))) (Or.inr (hw _ (List.mem_of_getElem? (i := 26) rfl))) (by decide) (t := .int) (t' := .int) (by decide) (by decide))))
  obtain ⟨T4, h4, X4, e4, W4, st4⟩ := putF X2 hx hZ hown (host := "") (Or.inl (hw _ (List.mem_of_getElem? (i := 27) rfl))) Via.refl e2 f_3 (E_a1.wr W2) (Or.inr ⟨(hw _ (List.mem_of_getElem? (i := 28) rfl)), rfl, hnm⟩) (hw _ (List.mem_of_getElem? (i := 3) rfl)) (ty := .int) (by decide) rfl rfl (g := (mkF m 11 #[.val (.ref a1), .val (.int p1), .val (.int p2), .val (.int p3), .val (.int p4), .val (.int p5), .val (.int p6), .val (.int p7), .val (.int p8), .val (.ref s1), .val (.ref s2), .val (.int p9)] [(.int p2), (.ref a1)])) rfl rfl (hb hby d_prog_57_method_1_code_11)
  refine Go.step st4 ?_
  have N4 := Fr.snoc X4 N2 g_a1
  have Z4 : n0 ≤ h4.size := Nat.le_trans Z2 (Keep.of_wr W4).1
  have K04 : Keep h0 h4 [a1] := K02.wr W4 (Or.inl (List.mem_of_getElem? (i := 0) rfl))
  have F4 := f_3.same W4
  show Go FrameEnd p e below s 0 0 (Q2 Z a1 p1 p2 p3 p4 p5 p6 p7 p8 s1 s2 p9 u_decimalSeparator_a1 u_exponentSeparator_a1 u_groupingSeparator_a1 u_percent_a1 u_perMille_a1 u_zeroDigit_a1 u_digit_a1 u_patternSeparator_a1 u_infinity_a1 u_notANumber_a1 u_minusSign_a1 h0 n0) (T4.setTop (mkF m 14 #[.val (.ref a1), .val (.int p1), .val (.int p2), .val (.int p3), .val (.int p4), .val (.int p5), .val (.int p6), .val (.int p7), .val (.int p8), .val (.ref s1), .val (.ref s2), .val (.int p9)] []))
  refine Go.step (fun _ k => XS.aloadN X4.here hx rfl (hb hby d_prog_57_method_1_code_14) rfl rfl k) ?_
  show Go FrameEnd p e below s 0 0 (Q2 Z a1 p1 p2 p3 p4 p5 p6 p7 p8 s1 s2 p9 u_decimalSeparator_a1 u_exponentSeparator_a1 u_groupingSeparator_a1 u_percent_a1 u_perMille_a1 u_zeroDigit_a1 u_digit_a1 u_patternSeparator_a1 u_infinity_a1 u_notANumber_a1 u_minusSign_a1 h0 n0) (T4.setTop (mkF m 15 #[.val (.ref a1), .val (.int p1), .val (.int p2), .val (.int p3), .val (.int p4), .val (.int p5), .val (.int p6), .val (.int p7), .val (.int p8), .val (.ref s1), .val (.ref s2), .val (.int p9)] [(.ref a1)]))
  refine Go.step (fun _ k => XS.iloadN X4.here hx rfl (hb hby d_prog_57_method_1_code_15) rfl k) ?_
  show Go FrameEnd p e below s 0 0 (Q2 Z a1 p1 p2 p3 p4 p5 p6 p7 p8 s1 s2 p9 u_decimalSeparator_a1 u_exponentSeparator_a1 u_groupingSeparator_a1 u_percent_a1 u_perMille_a1 u_zeroDigit_a1 u_digit_a1 u_patternSeparator_a1 u_infinity_a1 u_notANumber_a1 u_minusSign_a1 h0 n0) (T4.setTop (mkF m 16 #[.val (.ref a1), .val (.int p1), .val (.int p2), .val (.int p3), .val (.int p4), .val (.int p5), .val (.int p6), .val (.int p7), .val (.int p8), .val (.ref s1), .val (.ref s2), .val (.int p9)] [(.int p3), (.ref a1)]))
  have f_5 := ((F_groupingSeparator_a1.other W2 (Or.inr (slot_ne (Or.inr (hw _ (List.mem_of_getElem? (i := 30) rfl))) (Or.inr (hw _ (List.mem_of_getElem? (i := 26) rfl))) (by decide) (t := .int) (t' := .int) (by decide) (by decide)))).other W4 (Or.inr (slot_ne (Or.inr (hw _ (List.mem_of_getElem? (i := 30) rfl))) (Or.inr (hw _ (List.mem_of_getElem? (i := 28) rfl))) (by decide) (t := .int) (t' := .int) (by decide) (by decide))))
  have f_6 := ((E_a1.wr W2).wr W4)
  obtain ⟨T7, h7, X7, e7, W7, st7⟩ := putF X4 hx hZ hown (host := "") (Or.inl (hw _ (List.mem_of_getElem? (i := 29) rfl))) Via.refl e4 f_5 f_6 (Or.inr ⟨(hw _ (List.mem_of_getElem? (i := 30) rfl)), rfl, hnm⟩) (hw _ (List.mem_of_getElem? (i := 3) rfl)) (ty := .int) (by decide) rfl rfl (g := (mkF m 16 #[.val (.ref a1), .val (.int p1), .val (.int p2), .val (.int p3), .val (.int p4), .val (.int p5), .val (.int p6), .val (.int p7), .val (.int p8), .val (.ref s1), .val (.ref s2), .val (.int p9)] [(.int p3), (.ref a1)])) rfl rfl (hb hby d_prog_57_method_1_code_16)
  refine Go.step st7 ?_
  have N7 := Fr.snoc X7 N4 g_a1
  have Z7 : n0 ≤ h7.size := Nat.le_trans Z4 (Keep.of_wr W7).1
  have K07 : Keep h0 h7 [a1] := K04.wr W7 (Or.inl (List.mem_of_getElem? (i := 0) rfl))
  have F7 := f_5.same W7
  show Go FrameEnd p e below s 0 0 (Q2 Z a1 p1 p2 p3 p4 p5 p6 p7 p8 s1 s2 p9 u_decimalSeparator_a1 u_exponentSeparator_a1 u_groupingSeparator_a1 u_percent_a1 u_perMille_a1 u_zeroDigit_a1 u_digit_a1 u_patternSeparator_a1 u_infinity_a1 u_notANumber_a1 u_minusSign_a1 h0 n0) (T7.setTop (mkF m 19 #[.val (.ref a1), .val (.int p1), .val (.int p2), .val (.int p3), .val (.int p4), .val (.int p5), .val (.int p6), .val (.int p7), .val (.int p8), .val (.ref s1), .val (.ref s2), .val (.int p9)] []))
  refine Go.step (fun _ k => XS.aloadN X7.here hx rfl (hb hby d_prog_57_method_1_code_19) rfl rfl k) ?_
  show Go FrameEnd p e below s 0 0 (Q2 Z a1 p1 p2 p3 p4 p5 p6 p7 p8 s1 s2 p9 u_decimalSeparator_a1 u_exponentSeparator_a1 u_groupingSeparator_a1 u_percent_a1 u_perMille_a1 u_zeroDigit_a1 u_digit_a1 u_patternSeparator_a1 u_infinity_a1 u_notANumber_a1 u_minusSign_a1 h0 n0) (T7.setTop (mkF m 20 #[.val (.ref a1), .val (.int p1), .val (.int p2), .val (.int p3), .val (.int p4), .val (.int p5), .val (.int p6), .val (.int p7), .val (.int p8), .val (.ref s1), .val (.ref s2), .val (.int p9)] [(.ref a1)]))
  refine Go.step (fun _ k => XS.iload X7.here hx rfl (hb hby d_prog_57_method_1_code_20) rfl k) ?_
  show Go FrameEnd p e below s 0 0 (Q2 Z a1 p1 p2 p3 p4 p5 p6 p7 p8 s1 s2 p9 u_decimalSeparator_a1 u_exponentSeparator_a1 u_groupingSeparator_a1 u_percent_a1 u_perMille_a1 u_zeroDigit_a1 u_digit_a1 u_patternSeparator_a1 u_infinity_a1 u_notANumber_a1 u_minusSign_a1 h0 n0) (T7.setTop (mkF m 22 #[.val (.ref a1), .val (.int p1), .val (.int p2), .val (.int p3), .val (.int p4), .val (.int p5), .val (.int p6), .val (.int p7), .val (.int p8), .val (.ref s1), .val (.ref s2), .val (.int p9)] [(.int p4), (.ref a1)]))
  have f_8 := (((F_percent_a1.other W2 (Or.inr (slot_ne (Or.inr (hw _ (List.mem_of_getElem? (i := 32) rfl))) (Or.inr (hw _ (List.mem_of_getElem? (i := 26) rfl))) (by decide) (t := .int) (t' := .int) (by decide) (by decide)))).other W4 (Or.inr (slot_ne (Or.inr (hw _ (List.mem_of_getElem? (i := 32) rfl))) (Or.inr (hw _ (List.mem_of_getElem? (i := 28) rfl))) (by decide) (t := .int) (t' := .int) (by decide) (by decide)))).other W7 (Or.inr (slot_ne (Or.inr (hw _ (List.mem_of_getElem? (i := 32) rfl))) (Or.inr (hw _ (List.mem_of_getElem? (i := 30) rfl))) (by decide) (t := .int) (t' := .int) (by decide) (by decide))))
  obtain ⟨T9, h9, X9, e9, W9, st9⟩ := putF X7 hx hZ hown (host := "") (Or.inl (hw _ (List.mem_of_getElem? (i := 31) rfl))) Via.refl e7 f_8 (f_6.wr W7) (Or.inr ⟨(hw _ (List.mem_of_getElem? (i := 32) rfl)), rfl, hnm⟩) (hw _ (List.mem_of_getElem? (i := 3) rfl)) (ty := .int) (by decide) rfl rfl (g := (mkF m 22 #[.val (.ref a1), .val (.int p1), .val (.int p2), .val (.int p3), .val (.int p4), .val (.int p5), .val (.int p6), .val (.int p7), .val (.int p8), .val (.ref s1), .val (.ref s2), .val (.int p9)] [(.int p4), (.ref a1)])) rfl rfl (hb hby d_prog_57_method_1_code_22)
  refine Go.step st9 ?_
  have N9 := Fr.snoc X9 N7 g_a1
  have Z9 : n0 ≤ h9.size := Nat.le_trans Z7 (Keep.of_wr W9).1
  have K09 : Keep h0 h9 [a1] := K07.wr W9 (Or.inl (List.mem_of_getElem? (i := 0) rfl))
  have F9 := f_8.same W9
  show Go FrameEnd p e below s 0 0 (Q2 Z a1 p1 p2 p3 p4 p5 p6 p7 p8 s1 s2 p9 u_decimalSeparator_a1 u_exponentSeparator_a1 u_groupingSeparator_a1 u_percent_a1 u_perMille_a1 u_zeroDigit_a1 u_digit_a1 u_patternSeparator_a1 u_infinity_a1 u_notANumber_a1 u_minusSign_a1 h0 n0) (T9.setTop (mkF m 25 #[.val (.ref a1), .val (.int p1), .val (.int p2), .val (.int p3), .val (.int p4), .val (.int p5), .val (.int p6), .val (.int p7), .val (.int p8), .val (.ref s1), .val (.ref s2), .val (.int p9)] []))
  refine Go.step (fun _ k => XS.aloadN X9.here hx rfl (hb hby d_prog_57_method_1_code_25) rfl rfl k) ?_
  show Go FrameEnd p e below s 0 0 (Q2 Z a1 p1 p2 p3 p4 p5 p6 p7 p8 s1 s2 p9 u_decimalSeparator_a1 u_exponentSeparator_a1 u_groupingSeparator_a1 u_percent_a1 u_perMille_a1 u_zeroDigit_a1 u_digit_a1 u_patternSeparator_a1 u_infinity_a1 u_notANumber_a1 u_minusSign_a1 h0 n0) (T9.setTop (mkF m 26 #[.val (.ref a1), .val (.int p1), .val (.int p2), .val (.int p3), .val (.int p4), .val (.int p5), .val (.int p6), .val (.int p7), .val (.int p8), .val (.ref s1), .val (.ref s2), .val (.int p9)] [(.ref a1)]))
  refine Go.step (fun _ k => XS.iload X9.here hx rfl (hb hby d_prog_57_method_1_code_26) rfl k) ?_
  show Go FrameEnd p e below s 0 0 (Q2 Z a1 p1 p2 p3 p4 p5 p6 p7 p8 s1 s2 p9 u_decimalSeparator_a1 u_exponentSeparator_a1 u_groupingSeparator_a1 u_percent_a1 u_perMille_a1 u_zeroDigit_a1 u_digit_a1 u_patternSeparator_a1 u_infinity_a1 u_notANumber_a1 u_minusSign_a1 h0 n0) (T9.setTop (mkF m 28 #[.val (.ref a1), .val (.int p1), .val (.int p2), .val (.int p3), .val (.int p4), .val (.int p5), .val (.int p6), .val (.int p7), .val (.int p8), .val (.ref s1), .val (.ref s2), .val (.int p9)] [(.int p5), (.ref a1)]))
  have f_10 := ((((F_perMille_a1.other W2 (Or.inr (slot_ne (Or.inr (hw _ (List.mem_of_getElem? (i := 34) rfl))) (Or.inr (hw _ (List.mem_of_getElem? (i := 26) rfl))) (by decide) (t := .int) (t' := .int) (by decide) (by decide)))).other W4 (Or.inr (slot_ne (Or.inr (hw _ (List.mem_of_getElem? (i := 34) rfl))) (Or.inr (hw _ (List.mem_of_getElem? (i := 28) rfl))) (by decide) (t := .int) (t' := .int) (by decide) (by decide)))).other W7 (Or.inr (slot_ne (Or.inr (hw _ (List.mem_of_getElem? (i := 34) rfl))) (Or.inr (hw _ (List.mem_of_getElem? (i := 30) rfl))) (by decide) (t := .int) (t' := .int) (by decide) (by decide)))).other W9 (Or.inr (slot_ne (Or.inr (hw _ (List.mem_of_getElem? (i := 34) rfl))) (Or.inr (hw _ (List.mem_of_getElem? (i := 32) rfl))) (by decide) (t := .int) (t' := .int) (by decide) (by decide))))
  have f_11 := ((f_6.wr W7).wr W9)
  obtain ⟨T12, h12, X12, e12, W12, st12⟩ := putF X9 hx hZ hown (host := "") (Or.inl (hw _ (List.mem_of_getElem? (i := 33) rfl))) Via.refl e9 f_10 f_11 (Or.inr ⟨(hw _ (List.mem_of_getElem? (i := 34) rfl)), rfl, hnm⟩) (hw _ (List.mem_of_getElem? (i := 3) rfl)) (ty := .int) (by decide) rfl rfl (g := (mkF m 28 #[.val (.ref a1), .val (.int p1), .val (.int p2), .val (.int p3), .val (.int p4), .val (.int p5), .val (.int p6), .val (.int p7), .val (.int p8), .val (.ref s1), .val (.ref s2), .val (.int p9)] [(.int p5), (.ref a1)])) rfl rfl (hb hby d_prog_57_method_1_code_28)
  refine Go.step st12 ?_
  have N12 := Fr.snoc X12 N9 g_a1
  have Z12 : n0 ≤ h12.size := Nat.le_trans Z9 (Keep.of_wr W12).1
  have K012 : Keep h0 h12 [a1] := K09.wr W12 (Or.inl (List.mem_of_getElem? (i := 0) rfl))
  have F12 := f_10.same W12
  show Go FrameEnd p e below s 0 0 (Q2 Z a1 p1 p2 p3 p4 p5 p6 p7 p8 s1 s2 p9 u_decimalSeparator_a1 u_exponentSeparator_a1 u_groupingSeparator_a1 u_percent_a1 u_perMille_a1 u_zeroDigit_a1 u_digit_a1 u_patternSeparator_a1 u_infinity_a1 u_notANumber_a1 u_minusSign_a1 h0 n0) (T12.setTop (mkF m 31 #[.val (.ref a1), .val (.int p1), .val (.int p2), .val (.int p3), .val (.int p4), .val (.int p5), .val (.int p6), .val (.int p7), .val (.int p8), .val (.ref s1), .val (.ref s2), .val (.int p9)] []))
  refine Go.step (fun _ k => XS.aloadN X12.here hx rfl (hb hby d_prog_57_method_1_code_31) rfl rfl k) ?_
  show Go FrameEnd p e below s 0 0 (Q2 Z a1 p1 p2 p3 p4 p5 p6 p7 p8 s1 s2 p9 u_decimalSeparator_a1 u_exponentSeparator_a1 u_groupingSeparator_a1 u_percent_a1 u_perMille_a1 u_zeroDigit_a1 u_digit_a1 u_patternSeparator_a1 u_infinity_a1 u_notANumber_a1 u_minusSign_a1 h0 n0) (T12.setTop (mkF m 32 #[.val (.ref a1), .val (.int p1), .val (.int p2), .val (.int p3), .val (.int p4), .val (.int p5), .val (.int p6), .val (.int p7), .val (.int p8), .val (.ref s1), .val (.ref s2), .val (.int p9)] [(.ref a1)]))
  refine Go.step (fun _ k => XS.iload X12.here hx rfl (hb hby d_prog_57_method_1_code_32) rfl k) ?_
  show Go FrameEnd p e below s 0 0 (Q2 Z a1 p1 p2 p3 p4 p5 p6 p7 p8 s1 s2 p9 u_decimalSeparator_a1 u_exponentSeparator_a1 u_groupingSeparator_a1 u_percent_a1 u_perMille_a1 u_zeroDigit_a1 u_digit_a1 u_patternSeparator_a1 u_infinity_a1 u_notANumber_a1 u_minusSign_a1 h0 n0) (T12.setTop (mkF m 34 #[.val (.ref a1), .val (.int p1), .val (.int p2), .val (.int p3), .val (.int p4), .val (.int p5), .val (.int p6), .val (.int p7), .val (.int p8), .val (.ref s1), .val (.ref s2), .val (.int p9)] [(.int p6), (.ref a1)]))
  have f_13 := (((((F_zeroDigit_a1.other W2 (Or.inr (slot_ne (Or.inr (hw _ (List.mem_of_getElem? (i := 36) rfl))) (Or.inr (hw _ (List.mem_of_getElem? (i := 26) rfl))) (by decide) (t := .int) (t' := .int) (by decide) (by decide)))).other W4 (Or.inr (slot_ne (Or.inr (hw _ (List.mem_of_getElem? (i := 36) rfl))) (Or.inr (hw _ (List.mem_of_getElem? (i := 28) rfl))) (by decide) (t := .int) (t' := .int) (by decide) (by decide)))).other W7 (Or.inr (slot_ne (Or.inr (hw _ (List.mem_of_getElem? (i := 36) rfl))) (Or.inr (hw _ (List.mem_of_getElem? (i := 30) rfl))) (by decide) (t := .int) (t' := .int) (by decide) (by decide)))).other W9 (Or.inr (slot_ne (Or.inr (hw _ (List.mem_of_getElem? (i := 36) rfl))) (Or.inr (hw _ (List.mem_of_getElem? (i := 32) rfl))) (by decide) (t := .int) (t' := .int) (by decide) (by decide)))).other W12 (Or.inr (slot_ne (Or.inr (hw _ (List.mem_of_getElem? (i := 36) rfl))) (Or.inr (hw _ (List.mem_of_getElem? (i := 34) rfl))) (by decide) (t := .int) (t' := .int) (by decide) (by decide))))
  have f_14 := (f_11.wr W12)
  obtain ⟨T15, h15, X15, e15, W15, st15⟩ := putF X12 hx hZ hown (host := "") (Or.inl (hw _ (List.mem_of_getElem? (i := 35) rfl))) Via.refl e12 f_13 f_14 (Or.inr ⟨(hw _ (List.mem_of_getElem? (i := 36) rfl)), rfl, hnm⟩) (hw _ (List.mem_of_getElem? (i := 3) rfl)) (ty := .int) (by decide) rfl rfl (g := (mkF m 34 #[.val (.ref a1), .val (.int p1), .val (.int p2), .val (.int p3), .val (.int p4), .val (.int p5), .val (.int p6), .val (.int p7), .val (.int p8), .val (.ref s1), .val (.ref s2), .val (.int p9)] [(.int p6), (.ref a1)])) rfl rfl (hb hby d_prog_57_method_1_code_34)
  refine Go.step st15 ?_
  have N15 := Fr.snoc X15 N12 g_a1
  have Z15 : n0 ≤ h15.size := Nat.le_trans Z12 (Keep.of_wr W15).1
  have K015 : Keep h0 h15 [a1] := K012.wr W15 (Or.inl (List.mem_of_getElem? (i := 0) rfl))
  have F15 := f_13.same W15
  show Go FrameEnd p e below s 0 0 (Q2 Z a1 p1 p2 p3 p4 p5 p6 p7 p8 s1 s2 p9 u_decimalSeparator_a1 u_exponentSeparator_a1 u_groupingSeparator_a1 u_percent_a1 u_perMille_a1 u_zeroDigit_a1 u_digit_a1 u_patternSeparator_a1 u_infinity_a1 u_notANumber_a1 u_minusSign_a1 h0 n0) (T15.setTop (mkF m 37 #[.val (.ref a1), .val (.int p1), .val (.int p2), .val (.int p3), .val (.int p4), .val (.int p5), .val (.int p6), .val (.int p7), .val (.int p8), .val (.ref s1), .val (.ref s2), .val (.int p9)] []))
  refine Go.step (fun _ k => XS.aloadN X15.here hx rfl (hb hby d_prog_57_method_1_code_37) rfl rfl k) ?_
  show Go FrameEnd p e below s 0 0 (Q2 Z a1 p1 p2 p3 p4 p5 p6 p7 p8 s1 s2 p9 u_decimalSeparator_a1 u_exponentSeparator_a1 u_groupingSeparator_a1 u_percent_a1 u_perMille_a1 u_zeroDigit_a1 u_digit_a1 u_patternSeparator_a1 u_infinity_a1 u_notANumber_a1 u_minusSign_a1 h0 n0) (T15.setTop (mkF m 38 #[.val (.ref a1), .val (.int p1), .val (.int p2), .val (.int p3), .val (.int p4), .val (.int p5), .val (.int p6), .val (.int p7), .val (.int p8), .val (.ref s1), .val (.ref s2), .val (.int p9)] [(.ref a1)]))
  refine Go.step (fun _ k => XS.iload X15.here hx rfl (hb hby d_prog_57_method_1_code_38) rfl k) ?_
  show Go FrameEnd p e below s 0 0 (Q2 Z a1 p1 p2 p3 p4 p5 p6 p7 p8 s1 s2 p9 u_decimalSeparator_a1 u_exponentSeparator_a1 u_groupingSeparator_a1 u_percent_a1 u_perMille_a1 u_zeroDigit_a1 u_digit_a1 u_patternSeparator_a1 u_infinity_a1 u_notANumber_a1 u_minusSign_a1 h0 n0) (T15.setTop (mkF m 40 #[.val (.ref a1), .val (.int p1), .val (.int p2), .val (.int p3), .val (.int p4), .val (.int p5), .val (.int p6), .val (.int p7), .val (.int p8), .val (.ref s1), .val (.ref s2), .val (.int p9)] [(.int p7), (.ref a1)]))
  have f_16 := ((((((F_digit_a1.other W2 (Or.inr (slot_ne (Or.inr (hw _ (List.mem_of_getElem? (i := 38) rfl))) (Or.inr (hw _ (List.mem_of_getElem? (i := 26) rfl))) (by decide) (t := .int) (t' := .int) (by decide) (by decide)))).other W4 (Or.inr (slot_ne (Or.inr (hw _ (List.mem_of_getElem? (i := 38) rfl))) (Or.inr (hw _ (List.mem_of_getElem? (i := 28) rfl))) (by decide) (t := .int) (t' := .int) (by decide) (by decide)))).other W7 (Or.inr (slot_ne (Or.inr (hw _ (List.mem_of_getElem? (i := 38) rfl))) (Or.inr (hw _ (List.mem_of_getElem? (i := 30) rfl))) (by decide) (t := .int) (t' := .int) (by decide) (by decide)))).other W9 (Or.inr (slot_ne (Or.inr (hw _ (List.mem_of_getElem? (i := 38) rfl))) (Or.inr (hw _ (List.mem_of_getElem? (i := 32) rfl))) (by decide) (t := .int) (t' := .int) (by decide) (by decide)))).other W12 (Or.inr (slot_ne (Or.inr (hw _ (List.mem_of_getElem? (i := 38) rfl))) (Or.inr (hw _ (List.mem_of_getElem? (i := 34) rfl))) (by decide) (t := .int) (t' := .int) (by decide) (by decide)))).other W15 (Or.inr (slot_ne (Or.inr (hw _ (List.mem_of_getElem? (i := 38) rfl))) (Or.inr (hw _ (List.mem_of_getElem? (i := 36) rfl))) (by decide) (t := .int) (t' := .int) (by decide) (by decide))))
  have f_17 := (f_14.wr W15)
  obtain ⟨T18, h18, X18, e18, W18, st18⟩ := putF X15 hx hZ hown (host := "") (Or.inl (hw _ (List.mem_of_getElem? (i := 37) rfl))) Via.refl e15 f_16 f_17 (Or.inr ⟨(hw _ (List.mem_of_getElem? (i := 38) rfl)), rfl, hnm⟩) (hw _ (List.mem_of_getElem? (i := 3) rfl)) (ty := .int) (by decide) rfl rfl (g := (mkF m 40 #[.val (.ref a1), .val (.int p1), .val (.int p2), .val (.int p3), .val (.int p4), .val (.int p5), .val (.int p6), .val (.int p7), .val (.int p8), .val (.ref s1), .val (.ref s2), .val (.int p9)] [(.int p7), (.ref a1)])) rfl rfl (hb hby d_prog_57_method_1_code_40)
  refine Go.step st18 ?_
  have N18 := Fr.snoc X18 N15 g_a1
  have Z18 : n0 ≤ h18.size := Nat.le_trans Z15 (Keep.of_wr W18).1
  have K018 : Keep h0 h18 [a1] := K015.wr W18 (Or.inl (List.mem_of_getElem? (i := 0) rfl))
  have F18 := f_16.same W18
  show Go FrameEnd p e below s 0 0 (Q2 Z a1 p1 p2 p3 p4 p5 p6 p7 p8 s1 s2 p9 u_decimalSeparator_a1 u_exponentSeparator_a1 u_groupingSeparator_a1 u_percent_a1 u_perMille_a1 u_zeroDigit_a1 u_digit_a1 u_patternSeparator_a1 u_infinity_a1 u_notANumber_a1 u_minusSign_a1 h0 n0) (T18.setTop (mkF m 43 #[.val (.ref a1), .val (.int p1), .val (.int p2), .val (.int p3), .val (.int p4), .val (.int p5), .val (.int p6), .val (.int p7), .val (.int p8), .val (.ref s1), .val (.ref s2), .val (.int p9)] []))
  refine Go.step (fun _ k => XS.aloadN X18.here hx rfl (hb hby d_prog_57_method_1_code_43) rfl rfl k) ?_
  show Go FrameEnd p e below s 0 0 (Q2 Z a1 p1 p2 p3 p4 p5 p6 p7 p8 s1 s2 p9 u_decimalSeparator_a1 u_exponentSeparator_a1 u_groupingSeparator_a1 u_percent_a1 u_perMille_a1 u_zeroDigit_a1 u_digit_a1 u_patternSeparator_a1 u_infinity_a1 u_notANumber_a1 u_minusSign_a1 h0 n0) (T18.setTop (mkF m 44 #[.val (.ref a1), .val (.int p1), .val (.int p2), .val (.int p3), .val (.int p4), .val (.int p5), .val (.int p6), .val (.int p7), .val (.int p8), .val (.ref s1), .val (.ref s2), .val (.int p9)] [(.ref a1)]))
  refine Go.step (fun _ k => XS.iload X18.here hx rfl (hb hby d_prog_57_method_1_code_44) rfl k) ?_
  show Go FrameEnd p e below s 0 0 (Q2 Z a1 p1 p2 p3 p4 p5 p6 p7 p8 s1 s2 p9 u_decimalSeparator_a1 u_exponentSeparator_a1 u_groupingSeparator_a1 u_percent_a1 u_perMille_a1 u_zeroDigit_a1 u_digit_a1 u_patternSeparator_a1 u_infinity_a1 u_notANumber_a1 u_minusSign_a1 h0 n0) (T18.setTop (mkF m 46 #[.val (.ref a1), .val (.int p1), .val (.int p2), .val (.int p3), .val (.int p4), .val (.int p5), .val (.int p6), .val (.int p7), .val (.int p8), .val (.ref s1), .val (.ref s2), .val (.int p9)] [(.int p8), (.ref a1)]))
  have f_19 := (((((((F_patternSeparator_a1.other W2 (Or.inr (slot_ne (Or.inr (hw _ (List.mem_of_getElem? (i := 40) rfl))) (Or.inr (hw _ (List.mem_of_getElem? (i := 26) rfl))) (by decide) (t := .int) (t' := .int) (by decide) (by decide)))).other W4 (Or.inr (slot_ne (Or.inr (hw _ (List.mem_of_getElem? (i := 40) rfl))) (Or.inr (hw _ (List.mem_of_getElem? (i := 28) rfl))) (by decide) (t := .int) (t' := .int) (by decide) (by decide)))).other W7 (Or.inr (slot_ne (Or.inr (hw _ (List.mem_of_getElem? (i := 40) rfl))) (Or.inr (hw _ (List.mem_of_getElem? (i := 30) rfl))) (by decide) (t := .int) (t' := .int) (by decide) (by decide)))).other W9 (Or.inr (slot_ne (Or.inr (hw _ (List.mem_of_getElem? (i := 40) rfl))) (Or.inr (hw _ (List.mem_of_getElem? (i := 32) rfl))) (by decide) (t := .int) (t' := .int) (by decide) (by decide)))).other W12 (Or.inr (slot_ne (Or.inr (hw _ (List.mem_of_getElem? (i := 40) rfl))) (Or.inr (hw _ (List.mem_of_getElem? (i := 34) rfl))) (by decide) (t := .int) (t' := .int) (by decide) (by decide)))).other W15 (Or.inr (slot_ne (Or.inr (hw _ (List.mem_of_getElem? (i := 40) rfl))) (Or.inr (hw _ (List.mem_of_getElem? (i := 36) rfl))) (by decide) (t := .int) (t' := .int) (by decide) (by decide)))).other W18 (Or.inr (slot_ne (Or.inr (hw _ (List.mem_of_getElem? (i := 40) rfl))) (Or.inr (hw _ (List.mem_of_getElem? (i := 38) rfl))) (by decide) (t := .int) (t' := .int) (by decide) (by decide))))
  have f_20 := (f_17.wr W18)
  obtain ⟨T21, h21, X21, e21, W21, st21⟩ := putF X18 hx hZ hown (host := "") (Or.inl (hw _ (List.mem_of_getElem? (i := 39) rfl))) Via.refl e18 f_19 f_20 (Or.inr ⟨(hw _ (List.mem_of_getElem? (i := 40) rfl)), rfl, hnm⟩) (hw _ (List.mem_of_getElem? (i := 3) rfl)) (ty := .int) (by decide) rfl rfl (g := (mkF m 46 #[.val (.ref a1), .val (.int p1), .val (.int p2), .val (.int p3), .val (.int p4), .val (.int p5), .val (.int p6), .val (.int p7), .val (.int p8), .val (.ref s1), .val (.ref s2), .val (.int p9)] [(.int p8), (.ref a1)])) rfl rfl (hb hby d_prog_57_method_1_code_46)
  refine Go.step st21 ?_
  have N21 := Fr.snoc X21 N18 g_a1
  have Z21 : n0 ≤ h21.size := Nat.le_trans Z18 (Keep.of_wr W21).1
  have K021 : Keep h0 h21 [a1] := K018.wr W21 (Or.inl (List.mem_of_getElem? (i := 0) rfl))
  have F21 := f_19.same W21
  show Go FrameEnd p e below s 0 0 (Q2 Z a1 p1 p2 p3 p4 p5 p6 p7 p8 s1 s2 p9 u_decimalSeparator_a1 u_exponentSeparator_a1 u_groupingSeparator_a1 u_percent_a1 u_perMille_a1 u_zeroDigit_a1 u_digit_a1 u_patternSeparator_a1 u_infinity_a1 u_notANumber_a1 u_minusSign_a1 h0 n0) (T21.setTop (mkF m 49 #[.val (.ref a1), .val (.int p1), .val (.int p2), .val (.int p3), .val (.int p4), .val (.int p5), .val (.int p6), .val (.int p7), .val (.int p8), .val (.ref s1), .val (.ref s2), .val (.int p9)] []))
  refine Go.step (fun _ k => XS.aloadN X21.here hx rfl (hb hby d_prog_57_method_1_code_49) rfl rfl k) ?_
  show Go FrameEnd p e below s 0 0 (Q2 Z a1 p1 p2 p3 p4 p5 p6 p7 p8 s1 s2 p9 u_decimalSeparator_a1 u_exponentSeparator_a1 u_groupingSeparator_a1 u_percent_a1 u_perMille_a1 u_zeroDigit_a1 u_digit_a1 u_patternSeparator_a1 u_infinity_a1 u_notANumber_a1 u_minusSign_a1 h0 n0) (T21.setTop (mkF m 50 #[.val (.ref a1), .val (.int p1), .val (.int p2), .val (.int p3), .val (.int p4), .val (.int p5), .val (.int p6), .val (.int p7), .val (.int p8), .val (.ref s1), .val (.ref s2), .val (.int p9)] [(.ref a1)]))
  refine Go.step (fun _ k => XS.aload X21.here hx rfl (hb hby d_prog_57_method_1_code_50) rfl rfl k) ?_
  show Go FrameEnd p e below s 0 0 (Q2 Z a1 p1 p2 p3 p4 p5 p6 p7 p8 s1 s2 p9 u_decimalSeparator_a1 u_exponentSeparator_a1 u_groupingSeparator_a1 u_percent_a1 u_perMille_a1 u_zeroDigit_a1 u_digit_a1 u_patternSeparator_a1 u_infinity_a1 u_notANumber_a1 u_minusSign_a1 h0 n0) (T21.setTop (mkF m 52 #[.val (.ref a1), .val (.int p1), .val (.int p2), .val (.int p3), .val (.int p4), .val (.int p5), .val (.int p6), .val (.int p7), .val (.int p8), .val (.ref s1), .val (.ref s2), .val (.int p9)] [(.ref s1), (.ref a1)]))
  have f_22 := ((((((((F_infinity_a1.other W2 (Or.inr (slot_ne (Or.inr (hw _ (List.mem_of_getElem? (i := 42) rfl))) (Or.inr (hw _ (List.mem_of_getElem? (i := 26) rfl))) (by decide) (t := (.object "java/lang/String")) (t' := .int) (by decide) (by decide)))).other W4 (Or.inr (slot_ne (Or.inr (hw _ (List.mem_of_getElem? (i := 42) rfl))) (Or.inr (hw _ (List.mem_of_getElem? (i := 28) rfl))) (by decide) (t := (.object "java/lang/String")) (t' := .int) (by decide) (by decide)))).other W7 (Or.inr (slot_ne (Or.inr (hw _ (List.mem_of_getElem? (i := 42) rfl))) (Or.inr (hw _ (List.mem_of_getElem? (i := 30) rfl))) (by decide) (t := (.object "java/lang/String")) (t' := .int) (by decide) (by decide)))).other W9 (Or.inr (slot_ne (Or.inr (hw _ (List.mem_of_getElem? (i := 42) rfl))) (Or.inr (hw _ (List.mem_of_getElem? (i := 32) rfl))) (by decide) (t := (.object "java/lang/String")) (t' := .int) (by decide) (by decide)))).other W12 (Or.inr (slot_ne (Or.inr (hw _ (List.mem_of_getElem? (i := 42) rfl))) (Or.inr (hw _ (List.mem_of_getElem? (i := 34) rfl))) (by decide) (t := (.object "java/lang/String")) (t' := .int) (by decide) (by decide)))).other W15 (Or.inr (slot_ne (Or.inr (hw _ (List.mem_of_getElem? (i := 42) rfl))) (Or.inr (hw _ (List.mem_of_getElem? (i := 36) rfl))) (by decide) (t := (.object "java/lang/String")) (t' := .int) (by decide) (by decide)))).other W18 (Or.inr (slot_ne (Or.inr (hw _ (List.mem_of_getElem? (i := 42) rfl))) (Or.inr (hw _ (List.mem_of_getElem? (i := 38) rfl))) (by decide) (t := (.object "java/lang/String")) (t' := .int) (by decide) (by decide)))).other W21 (Or.inr (slot_ne (Or.inr (hw _ (List.mem_of_getElem? (i := 42) rfl))) (Or.inr (hw _ (List.mem_of_getElem? (i := 40) rfl))) (by decide) (t := (.object "java/lang/String")) (t' := .int) (by decide) (by decide))))
  have f_23 := (f_20.wr W21)
  obtain ⟨T24, h24, X24, e24, W24, st24⟩ := putF X21 hx hZ hown (host := "") (Or.inl (hw _ (List.mem_of_getElem? (i := 41) rfl))) Via.refl e21 f_22 f_23 (Or.inr ⟨(hw _ (List.mem_of_getElem? (i := 42) rfl)), rfl, hnm⟩) (hw _ (List.mem_of_getElem? (i := 3) rfl)) (ty := (.object "java/lang/String")) (by decide) rfl rfl (g := (mkF m 52 #[.val (.ref a1), .val (.int p1), .val (.int p2), .val (.int p3), .val (.int p4), .val (.int p5), .val (.int p6), .val (.int p7), .val (.int p8), .val (.ref s1), .val (.ref s2), .val (.int p9)] [(.ref s1), (.ref a1)])) rfl rfl (hb hby d_prog_57_method_1_code_52)
  refine Go.step st24 ?_
  have N24 := Fr.snoc X24 N21 g_a1
  have Z24 : n0 ≤ h24.size := Nat.le_trans Z21 (Keep.of_wr W24).1
  have K024 : Keep h0 h24 [a1] := K021.wr W24 (Or.inl (List.mem_of_getElem? (i := 0) rfl))
  have F24 := f_22.same W24
  show Go FrameEnd p e below s 0 0 (Q2 Z a1 p1 p2 p3 p4 p5 p6 p7 p8 s1 s2 p9 u_decimalSeparator_a1 u_exponentSeparator_a1 u_groupingSeparator_a1 u_percent_a1 u_perMille_a1 u_zeroDigit_a1 u_digit_a1 u_patternSeparator_a1 u_infinity_a1 u_notANumber_a1 u_minusSign_a1 h0 n0) (T24.setTop (mkF m 55 #[.val (.ref a1), .val (.int p1), .val (.int p2), .val (.int p3), .val (.int p4), .val (.int p5), .val (.int p6), .val (.int p7), .val (.int p8), .val (.ref s1), .val (.ref s2), .val (.int p9)] []))
  refine Go.step (fun _ k => XS.aloadN X24.here hx rfl (hb hby d_prog_57_method_1_code_55) rfl rfl k) ?_
  show Go FrameEnd p e below s 0 0 (Q2 Z a1 p1 p2 p3 p4 p5 p6 p7 p8 s1 s2 p9 u_decimalSeparator_a1 u_exponentSeparator_a1 u_groupingSeparator_a1 u_percent_a1 u_perMille_a1 u_zeroDigit_a1 u_digit_a1 u_patternSeparator_a1 u_infinity_a1 u_notANumber_a1 u_minusSign_a1 h0 n0) (T24.setTop (mkF m 56 #[.val (.ref a1), .val (.int p1), .val (.int p2), .val (.int p3), .val (.int p4), .val (.int p5), .val (.int p6), .val (.int p7), .val (.int p8), .val (.ref s1), .val (.ref s2), .val (.int p9)] [(.ref a1)]))
  refine Go.step (fun _ k => XS.aload X24.here hx rfl (hb hby d_prog_57_method_1_code_56) rfl rfl k) ?_
  show Go FrameEnd p e below s 0 0 (Q2 Z a1 p1 p2 p3 p4 p5 p6 p7 p8 s1 s2 p9 u_decimalSeparator_a1 u_exponentSeparator_a1 u_groupingSeparator_a1 u_percent_a1 u_perMille_a1 u_zeroDigit_a1 u_digit_a1 u_patternSeparator_a1 u_infinity_a1 u_notANumber_a1 u_minusSign_a1 h0 n0) (T24.setTop (mkF m 58 #[.val (.ref a1), .val (.int p1), .val (.int p2), .val (.int p3), .val (.int p4), .val (.int p5), .val (.int p6), .val (.int p7), .val (.int p8), .val (.ref s1), .val (.ref s2), .val (.int p9)] [(.ref s2), (.ref a1)]))
  have f_25 := (((((((((F_notANumber_a1.other W2 (Or.inr (slot_ne (Or.inr (hw _ (List.mem_of_getElem? (i := 44) rfl))) (Or.inr (hw _ (List.mem_of_getElem? (i := 26) rfl))) (by decide) (t := (.object "java/lang/String")) (t' := .int) (by decide) (by decide)))).other W4 (Or.inr (slot_ne (Or.inr (hw _ (List.mem_of_getElem? (i := 44) rfl))) (Or.inr (hw _ (List.mem_of_getElem? (i := 28) rfl))) (by decide) (t := (.object "java/lang/String")) (t' := .int) (by decide) (by decide)))).other W7 (Or.inr (slot_ne (Or.inr (hw _ (List.mem_of_getElem? (i := 44) rfl))) (Or.inr (hw _ (List.mem_of_getElem? (i := 30) rfl))) (by decide) (t := (.object "java/lang/String")) (t' := .int) (by decide) (by decide)))).other W9 (Or.inr (slot_ne (Or.inr (hw _ (List.mem_of_getElem? (i := 44) rfl))) (Or.inr (hw _ (List.mem_of_getElem? (i := 32) rfl))) (by decide) (t := (.object "java/lang/String")) (t' := .int) (by decide) (by decide)))).other W12 (Or.inr (slot_ne (Or.inr (hw _ (List.mem_of_getElem? (i := 44) rfl))) (Or.inr (hw _ (List.mem_of_getElem? (i := 34) rfl))) (by decide) (t := (.object "java/lang/String")) (t' := .int) (by decide) (by decide)))).other W15 (Or.inr (slot_ne (Or.inr (hw _ (List.mem_of_getElem? (i := 44) rfl))) (Or.inr (hw _ (List.mem_of_getElem? (i := 36) rfl))) (by decide) (t := (.object "java/lang/String")) (t' := .int) (by decide) (by decide)))).other W18 (Or.inr (slot_ne (Or.inr (hw _ (List.mem_of_getElem? (i := 44) rfl))) (Or.inr (hw _ (List.mem_of_getElem? (i := 38) rfl))) (by decide) (t := (.object "java/lang/String")) (t' := .int) (by decide) (by decide)))).other W21 (Or.inr (slot_ne (Or.inr (hw _ (List.mem_of_getElem? (i := 44) rfl))) (Or.inr (hw _ (List.mem_of_getElem? (i := 40) rfl))) (by decide) (t := (.object "java/lang/String")) (t' := .int) (by decide) (by decide)))).other W24 (Or.inr (slot_ne (Or.inr (hw _ (List.mem_of_getElem? (i := 44) rfl))) (Or.inr (hw _ (List.mem_of_getElem? (i := 42) rfl))) (by decide) (t := (.object "java/lang/String")) (t' := (.object "java/lang/String")) (by decide) (by decide))))
  have f_26 := (f_23.wr W24)
  obtain ⟨T27, h27, X27, e27, W27, st27⟩ := putF X24 hx hZ hown (host := "") (Or.inl (hw _ (List.mem_of_getElem? (i := 43) rfl))) Via.refl e24 f_25 f_26 (Or.inr ⟨(hw _ (List.mem_of_getElem? (i := 44) rfl)), rfl, hnm⟩) (hw _ (List.mem_of_getElem? (i := 3) rfl)) (ty := (.object "java/lang/String")) (by decide) rfl rfl (g := (mkF m 58 #[.val (.ref a1), .val (.int p1), .val (.int p2), .val (.int p3), .val (.int p4), .val (.int p5), .val (.int p6), .val (.int p7), .val (.int p8), .val (.ref s1), .val (.ref s2), .val (.int p9)] [(.ref s2), (.ref a1)])) rfl rfl (hb hby d_prog_57_method_1_code_58)
  refine Go.step st27 ?_
  have N27 := Fr.snoc X27 N24 g_a1
  have Z27 : n0 ≤ h27.size := Nat.le_trans Z24 (Keep.of_wr W27).1
  have K027 : Keep h0 h27 [a1] := K024.wr W27 (Or.inl (List.mem_of_getElem? (i := 0) rfl))
  have F27 := f_25.same W27
  show Go FrameEnd p e below s 0 0 (Q2 Z a1 p1 p2 p3 p4 p5 p6 p7 p8 s1 s2 p9 u_decimalSeparator_a1 u_exponentSeparator_a1 u_groupingSeparator_a1 u_percent_a1 u_perMille_a1 u_zeroDigit_a1 u_digit_a1 u_patternSeparator_a1 u_infinity_a1 u_notANumber_a1 u_minusSign_a1 h0 n0) (T27.setTop (mkF m 61 #[.val (.ref a1), .val (.int p1), .val (.int p2), .val (.int p3), .val (.int p4), .val (.int p5), .val (.int p6), .val (.int p7), .val (.int p8), .val (.ref s1), .val (.ref s2), .val (.int p9)] []))
  refine Go.step (fun _ k => XS.aloadN X27.here hx rfl (hb hby d_prog_57_method_1_code_61) rfl rfl k) ?_
  show Go FrameEnd p e below s 0 0 (Q2 Z a1 p1 p2 p3 p4 p5 p6 p7 p8 s1 s2 p9 u_decimalSeparator_a1 u_exponentSeparator_a1 u_groupingSeparator_a1 u_percent_a1 u_perMille_a1 u_zeroDigit_a1 u_digit_a1 u_patternSeparator_a1 u_infinity_a1 u_notANumber_a1 u_minusSign_a1 h0 n0) (T27.setTop (mkF m 62 #[.val (.ref a1), .val (.int p1), .val (.int p2), .val (.int p3), .val (.int p4), .val (.int p5), .val (.int p6), .val (.int p7), .val (.int p8), .val (.ref s1), .val (.ref s2), .val (.int p9)] [(.ref a1)]))
  refine Go.step (fun _ k => XS.iload X27.here hx rfl (hb hby d_prog_57_method_1_code_62) rfl k) ?_
  show Go FrameEnd p e below s 0 0 (Q2 Z a1 p1 p2 p3 p4 p5 p6 p7 p8 s1 s2 p9 u_decimalSeparator_a1 u_exponentSeparator_a1 u_groupingSeparator_a1 u_percent_a1 u_perMille_a1 u_zeroDigit_a1 u_digit_a1 u_patternSeparator_a1 u_infinity_a1 u_notANumber_a1 u_minusSign_a1 h0 n0) (T27.setTop (mkF m 64 #[.val (.ref a1), .val (.int p1), .val (.int p2), .val (.int p3), .val (.int p4), .val (.int p5), .val (.int p6), .val (.int p7), .val (.int p8), .val (.ref s1), .val (.ref s2), .val (.int p9)] [(.int p9), (.ref a1)]))
  have f_28 := ((((((((((F_minusSign_a1.other W2 (Or.inr (slot_ne (Or.inr (hw _ (List.mem_of_getElem? (i := 46) rfl))) (Or.inr (hw _ (List.mem_of_getElem? (i := 26) rfl))) (by decide) (t := .int) (t' := .int) (by decide) (by decide)))).other W4 (Or.inr (slot_ne (Or.inr (hw _ (List.mem_of_getElem? (i := 46) rfl))) (Or.inr (hw _ (List.mem_of_getElem? (i := 28) rfl))) (by decide) (t := .int) (t' := .int) (by decide) (by decide)))).other W7 (Or.inr (slot_ne (Or.inr (hw _ (List.mem_of_getElem? (i := 46) rfl))) (Or.inr (hw _ (List.mem_of_getElem? (i := 30) rfl))) (by decide) (t := .int) (t' := .int) (by decide) (by decide)))).other W9 (Or.inr (slot_ne (Or.inr (hw _ (List.mem_of_getElem? (i := 46) rfl))) (Or.inr (hw _ (List.mem_of_getElem? (i := 32) rfl))) (by decide) (t := .int) (t' := .int) (by decide) (by decide)))).other W12 (Or.inr (slot_ne (Or.inr (hw _ (List.mem_of_getElem? (i := 46) rfl))) (Or.inr (hw _ (List.mem_of_getElem? (i := 34) rfl))) (by decide) (t := .int) (t' := .int) (by decide) (by decide)))).other W15 (Or.inr (slot_ne (Or.inr (hw _ (List.mem_of_getElem? (i := 46) rfl))) (Or.inr (hw _ (List.mem_of_getElem? (i := 36) rfl))) (by decide) (t := .int) (t' := .int) (by decide) (by decide)))).other W18 (Or.inr (slot_ne (Or.inr (hw _ (List.mem_of_getElem? (i := 46) rfl))) (Or.inr (hw _ (List.mem_of_getElem? (i := 38) rfl))) (by decide) (t := .int) (t' := .int) (by decide) (by decide)))).other W21 (Or.inr (slot_ne (Or.inr (hw _ (List.mem_of_getElem? (i := 46) rfl))) (Or.inr (hw _ (List.mem_of_getElem? (i := 40) rfl))) (by decide) (t := .int) (t' := .int) (by decide) (by decide)))).other W24 (Or.inr (slot_ne (Or.inr (hw _ (List.mem_of_getElem? (i := 46) rfl))) (Or.inr (hw _ (List.mem_of_getElem? (i := 42) rfl))) (by decide) (t := .int) (t' := (.object "java/lang/String")) (by decide) (by decide)))).other W27 (Or.inr (slot_ne (Or.inr (hw _ (List.mem_of_getElem? (i := 46) rfl))) (Or.inr (hw _ (List.mem_of_getElem? (i := 44) rfl))) (by decide) (t := .int) (t' := (.object "java/lang/String")) (by decide) (by decide))))
  have f_29 := (f_26.wr W27)
  obtain ⟨T30, h30, X30, e30, W30, st30⟩ := putF X27 hx hZ hown (host := "") (Or.inl (hw _ (List.mem_of_getElem? (i := 45) rfl))) Via.refl e27 f_28 f_29 (Or.inr ⟨(hw _ (List.mem_of_getElem? (i := 46) rfl)), rfl, hnm⟩) (hw _ (List.mem_of_getElem? (i := 3) rfl)) (ty := .int) (by decide) rfl rfl (g := (mkF m 64 #[.val (.ref a1), .val (.int p1), .val (.int p2), .val (.int p3), .val (.int p4), .val (.int p5), .val (.int p6), .val (.int p7), .val (.int p8), .val (.ref s1), .val (.ref s2), .val (.int p9)] [(.int p9), (.ref a1)])) rfl rfl (hb hby d_prog_57_method_1_code_64)
  refine Go.step st30 ?_
  have N30 := Fr.snoc X30 N27 g_a1
  have Z30 : n0 ≤ h30.size := Nat.le_trans Z27 (Keep.of_wr W30).1
  have K030 : Keep h0 h30 [a1] := K027.wr W30 (Or.inl (List.mem_of_getElem? (i := 0) rfl))
  have F30 := f_28.same W30
  show Go FrameEnd p e below s 0 0 (Q2 Z a1 p1 p2 p3 p4 p5 p6 p7 p8 s1 s2 p9 u_decimalSeparator_a1 u_exponentSeparator_a1 u_groupingSeparator_a1 u_percent_a1 u_perMille_a1 u_zeroDigit_a1 u_digit_a1 u_patternSeparator_a1 u_infinity_a1 u_notANumber_a1 u_minusSign_a1 h0 n0) (T30.setTop (mkF m 67 #[.val (.ref a1), .val (.int p1), .val (.int p2), .val (.int p3), .val (.int p4), .val (.int p5), .val (.int p6), .val (.int p7), .val (.int p8), .val (.ref s1), .val (.ref s2), .val (.int p9)] []))
  refine Go.ret0 X30 hx Bd.returns (hb hby d_prog_57_method_1_code_67) (BodyLoose.notSynchronized Bd) e30 (by decide) (by decide) ?_
  have f_31 := (f_29.wr W30)
  have f_32 := (((((F15.other W18 (Or.inr (slot_ne (Or.inr (hw _ (List.mem_of_getElem? (i := 36) rfl))) (Or.inr (hw _ (List.mem_of_getElem? (i := 38) rfl))) (by decide) (t := .int) (t' := .int) (by decide) (by decide)))).other W21 (Or.inr (slot_ne (Or.inr (hw _ (List.mem_of_getElem? (i := 36) rfl))) (Or.inr (hw _ (List.mem_of_getElem? (i := 40) rfl))) (by decide) (t := .int) (t' := .int) (by decide) (by decide)))).other W24 (Or.inr (slot_ne (Or.inr (hw _ (List.mem_of_getElem? (i := 36) rfl))) (Or.inr (hw _ (List.mem_of_getElem? (i := 42) rfl))) (by decide) (t := .int) (t' := (.object "java/lang/String")) (by decide) (by decide)))).other W27 (Or.inr (slot_ne (Or.inr (hw _ (List.mem_of_getElem? (i := 36) rfl))) (Or.inr (hw _ (List.mem_of_getElem? (i := 44) rfl))) (by decide) (t := .int) (t' := (.object "java/lang/String")) (by decide) (by decide)))).other W30 (Or.inr (slot_ne (Or.inr (hw _ (List.mem_of_getElem? (i := 36) rfl))) (Or.inr (hw _ (List.mem_of_getElem? (i := 46) rfl))) (by decide) (t := .int) (t' := .int) (by decide) (by decide))))
  exact ⟨rfl, N30, K030, f_31, f_32⟩
def Q3 (Z : State) (a1 : Addr) (p2 : Int32) (u1 : Int32) (h0 : Heap) (v : Option Value) (h : Heap) (L : List Loc) : Prop := v = some (.int (digF u1 p2)) ∧ L = [] ∧ h = h0
theorem ef_3 (m : MethodId) (a1 : Addr) (p2 : Int32) : entryFrame m #[(.ref a1), (.int p2)] 2 = mkF m 0 #[.val (.ref a1), .val (.int p2)] [] := by first | (simp [entryFrame, mkF, argsToLocals, Value.category]; done) | rfl
set_option maxRecDepth 65536 in
set_option maxHeartbeats 40000000 in
theorem rm3 (l : Launch) (Z : State) (a0 : Array Value) (hw : ∀ d ∈ tables_1, d.before a0 Z = true) (ws : List Jvm.Cond) (a1 : Addr) (p2 : Int32) (u1 : Int32) (h0 : Heap) (F_zeroDigit_a1 : Fld Z h0 a1 "com/example/loomward/loomward/xpath/DecimalFormat" "zeroDigit" "I" (.int u1)) :
    MetFree l (⟨"com/example/loomward/loomward/xpath/DecimalFormat", "isDigit", "(I)Z"⟩ : MethodName) (head1 (Jvm.Cond.code (⟨"com/example/loomward/loomward/xpath/DecimalFormat", "isDigit", "(I)Z"⟩ : MethodName) prog_57_method_2_code 2 (some .boolean) :: ws) ({ frames := 0, cells := 0, slots := 0, locals := 0 } : Room)) (fun a U => a = #[(.ref a1), (.int p2)] ∧ Z.Warmed39 U.vm ∧ U.heap = h0) (fun _ _ _ _ _ => True) (fun _ U o U' => ∃ v L, o = .returned v ∧ (Q3 Z a1 p2 u1 h0) v U'.heap L ∧ FrameEnd U o U' L 0 0) := by
  refine MetFree.of_bodySF (plainFor_of_name pn_com_example_loomward_loomward_xpath_DecimalFormat) hisR ?_
  intro p e s m args below meth c s₁ Bd hml0 hP hK
  obtain ⟨rfl, hZ, hh⟩ := hP
  have hx := Bd.exec
  have hby := Bd.bytes
  have hml : c.maxLocals = 2 := hml0
  have hown : s.vm.findClass "com/example/loomward/loomward/xpath/DecimalFormat" = some m.cls := findClass_of_methodNamed Bd.named
  have hnm := (name_of_methodNamed Bd.named Bd.method).1
  have X0 : Stand p l e ({ frames := 0, cells := 0, slots := 0, locals := 0 } : Room) s m #[(.ref a1), (.int p2)] below meth c s₁ [] 0 0 := Stand.of_body Bd
  have e0 : s₁.heap = h0 := by rw [← hh, Bd.state]; rfl
  show Go FrameEnd p e below s 0 0 (Q3 Z a1 p2 u1 h0) _
  refine Go.step (fun _ k => castTop (ef_3 m a1 p2) k) ?_
  show Go FrameEnd p e below s 0 0 (Q3 Z a1 p2 u1 h0) (s₁.setTop (mkF m 0 #[.val (.ref a1), .val (.int p2)] []))
  refine Go.step (fun _ k => XS.iloadN X0.here hx rfl (hb hby d_prog_57_method_2_code_0) rfl k) ?_
  show Go FrameEnd p e below s 0 0 (Q3 Z a1 p2 u1 h0) (s₁.setTop (mkF m 1 #[.val (.ref a1), .val (.int p2)] [(.int p2)]))
  refine Go.step (fun _ k => XS.aloadN X0.here hx rfl (hb hby d_prog_57_method_2_code_1) rfl rfl k) ?_
  show Go FrameEnd p e below s 0 0 (Q3 Z a1 p2 u1 h0) (s₁.setTop (mkF m 2 #[.val (.ref a1), .val (.int p2)] [(.ref a1), (.int p2)]))
  obtain ⟨T1, X1, e1, st1⟩ := getF X0 hx hZ hown (host := "") (Or.inl (hw _ (List.mem_of_getElem? (i := 35) rfl))) Via.refl e0 F_zeroDigit_a1 (g := (mkF m 2 #[.val (.ref a1), .val (.int p2)] [(.ref a1), (.int p2)])) rfl rfl (hb hby d_prog_57_method_2_code_2)
  refine Go.step st1 ?_
  show Go FrameEnd p e below s 0 0 (Q3 Z a1 p2 u1 h0) (T1.setTop (mkF m 5 #[.val (.ref a1), .val (.int p2)] [(.int u1), (.int p2)]))
  by_cases h1 : p2 < u1
  · skip
    refine Go.step (fun _ k => XS.icmpYes X1.here hx rfl (pc0 := 5) (pc' := 23) rfl (hb hby d_prog_57_method_2_code_5) rfl (tlt h1).1 (by decide) (by decide) k) ?_
    show Go FrameEnd p e below s 0 0 (Q3 Z a1 p2 u1 h0) (T1.setTop (mkF m 23 #[.val (.ref a1), .val (.int p2)] []))
    refine Go.step (fun _ k => XS.iconst X1.here hx rfl (hb hby d_prog_57_method_2_code_23) k) ?_
    show Go FrameEnd p e below s 0 0 (Q3 Z a1 p2 u1 h0) (T1.setTop (mkF m 24 #[.val (.ref a1), .val (.int p2)] [(.int (0 : Int32))]))
    refine Go.retN X1 hx (t := .boolean) Bd.returns (by simp) (by decide) (hb hby d_prog_57_method_2_code_24) (BodyLoose.notSynchronized Bd) e1 (by decide) (by decide) ?_
    exact ⟨by simp [digF, *], rfl, rfl⟩
  · skip
    refine Go.step (fun _ k => XS.icmpNo X1.here hx rfl (hb hby d_prog_57_method_2_code_5) rfl (flt h1).1 k) ?_
    show Go FrameEnd p e below s 0 0 (Q3 Z a1 p2 u1 h0) (T1.setTop (mkF m 8 #[.val (.ref a1), .val (.int p2)] []))
    refine Go.step (fun _ k => XS.iloadN X1.here hx rfl (hb hby d_prog_57_method_2_code_8) rfl k) ?_
    show Go FrameEnd p e below s 0 0 (Q3 Z a1 p2 u1 h0) (T1.setTop (mkF m 9 #[.val (.ref a1), .val (.int p2)] [(.int p2)]))
    refine Go.step (fun _ k => XS.aloadN X1.here hx rfl (hb hby d_prog_57_method_2_code_9) rfl rfl k) ?_
    show Go FrameEnd p e below s 0 0 (Q3 Z a1 p2 u1 h0) (T1.setTop (mkF m 10 #[.val (.ref a1), .val (.int p2)] [(.ref a1), (.int p2)]))
    obtain ⟨T2, X2, e2, st2⟩ := getF X1 hx hZ hown (host := "") (Or.inl (hw _ (List.mem_of_getElem? (i := 35) rfl))) Via.refl e1 F_zeroDigit_a1 (g := (mkF m 10 #[.val (.ref a1), .val (.int p2)] [(.ref a1), (.int p2)])) rfl rfl (hb hby d_prog_57_method_2_code_10)
    refine Go.step st2 ?_
    show Go FrameEnd p e below s 0 0 (Q3 Z a1 p2 u1 h0) (T2.setTop (mkF m 13 #[.val (.ref a1), .val (.int p2)] [(.int u1), (.int p2)]))
    refine Go.step (fun _ k => XS.bipush X2.here hx rfl (hb hby d_prog_57_method_2_code_13) k) ?_
    show Go FrameEnd p e below s 0 0 (Q3 Z a1 p2 u1 h0) (T2.setTop (mkF m 15 #[.val (.ref a1), .val (.int p2)] [(.int (9 : Int32)), (.int u1), (.int p2)]))
    refine Go.step (fun _ k => XS.iadd X2.here hx rfl (hb hby d_prog_57_method_2_code_15) rfl k) ?_
    show Go FrameEnd p e below s 0 0 (Q3 Z a1 p2 u1 h0) (T2.setTop (mkF m 16 #[.val (.ref a1), .val (.int p2)] [(.int (u1 + (9 : Int32))), (.int p2)]))
    by_cases h2 : (u1 + (9 : Int32)) < p2
    · skip
      refine Go.step (fun _ k => XS.icmpYes X2.here hx rfl (pc0 := 16) (pc' := 23) rfl (hb hby d_prog_57_method_2_code_16) rfl (tlt h2).2.2.1 (by decide) (by decide) k) ?_
      show Go FrameEnd p e below s 0 0 (Q3 Z a1 p2 u1 h0) (T2.setTop (mkF m 23 #[.val (.ref a1), .val (.int p2)] []))
      refine Go.step (fun _ k => XS.iconst X2.here hx rfl (hb hby d_prog_57_method_2_code_23) k) ?_
      show Go FrameEnd p e below s 0 0 (Q3 Z a1 p2 u1 h0) (T2.setTop (mkF m 24 #[.val (.ref a1), .val (.int p2)] [(.int (0 : Int32))]))
      refine Go.retN X2 hx (t := .boolean) Bd.returns (by simp) (by decide) (hb hby d_prog_57_method_2_code_24) (BodyLoose.notSynchronized Bd) e2 (by decide) (by decide) ?_
      exact ⟨by simp [digF, *], rfl, rfl⟩
    · skip
      refine Go.step (fun _ k => XS.icmpNo X2.here hx rfl (hb hby d_prog_57_method_2_code_16) rfl (flt h2).2.2.1 k) ?_
      show Go FrameEnd p e below s 0 0 (Q3 Z a1 p2 u1 h0) (T2.setTop (mkF m 19 #[.val (.ref a1), .val (.int p2)] []))
      refine Go.step (fun _ k => XS.iconst X2.here hx rfl (hb hby d_prog_57_method_2_code_19) k) ?_
      show Go FrameEnd p e below s 0 0 (Q3 Z a1 p2 u1 h0) (T2.setTop (mkF m 20 #[.val (.ref a1), .val (.int p2)] [(.int (1 : Int32))]))
      refine Go.step (fun _ k => XS.goto X2.here hx rfl (pc0 := 20) (pc' := 24) rfl (hb hby d_prog_57_method_2_code_20) (by decide) (by decide) k) ?_
      show Go FrameEnd p e below s 0 0 (Q3 Z a1 p2 u1 h0) (T2.setTop (mkF m 24 #[.val (.ref a1), .val (.int p2)] [(.int (1 : Int32))]))
      refine Go.retN X2 hx (t := .boolean) Bd.returns (by simp) (by decide) (hb hby d_prog_57_method_2_code_24) (BodyLoose.notSynchronized Bd) e2 (by decide) (by decide) ?_
      exact ⟨by simp [digF, *], rfl, rfl⟩
def Q0 (Z : State) (p1 : Int32) (p2 : Int32) (p3 : Int32) (p4 : Int32) (h0 : Heap) (n0 : Nat) (v : Option Value) (h : Heap) (L : List Loc) : Prop := v = some (.int 1) ∧ Fr n0 L
theorem ef_0 (m : MethodId) (p1 : Int32) (p2 : Int32) (p3 : Int32) (p4 : Int32) : entryFrame m #[(.int p1), (.int p2), (.int p3), (.int p4)] maxLocals = mkF m 0 #[.val (.int p1), .val (.int p2), .val (.int p3), .val (.int p4), .unset, .unset, .unset, .unset, .unset, .unset] [] := by first | (simp [entryFrame, mkF, argsToLocals, Value.category, maxLocals]; done) | rfl
set_option maxRecDepth 65536 in
set_option maxHeartbeats 40000000 in
theorem rm0 (l : Launch) (Z : State) (a0 : Array Value) (hw : ∀ d ∈ tables_1, d.before a0 Z = true) (ws : List Jvm.Cond) (p1 : Int32) (p2 : Int32) (p3 : Int32) (p4 : Int32) (h0 : Heap) (n0 : Nat) (Z0 : n0 ≤ h0.size) :
    MetFree l x (head1 (Jvm.Cond.code x code maxLocals ret :: ws) room_1) (fun a U => a = #[(.int p1), (.int p2), (.int p3), (.int p4)] ∧ Z.Warmed39 U.vm ∧ U.heap = h0) (fun _ _ _ _ _ => True) (fun _ U o U' => ∃ v L, o = .returned v ∧ (Q0 Z p1 p2 p3 p4 h0 n0) v U'.heap L ∧ ReturnedEndW U o U' L 16 2176) := by
  refine MetFree.of_bodySF (plainFor_of_name pn_com_example_loomward_loomward_xpath_DecimalFormatIsDigitPinLaw) hisR ?_
  intro p e s m args below meth c s₁ Bd hml0 hP hK
  obtain ⟨rfl, hZ, hh⟩ := hP
  have hx := Bd.exec
  have hby := Bd.bytes
  have hml : c.maxLocals = 10 := hml0
  have hown : s.vm.findClass "com/example/loomward/loomward/xpath/DecimalFormatIsDigitPinLaw" = some m.cls := findClass_of_methodNamed Bd.named
  have hnm := (name_of_methodNamed Bd.named Bd.method).1
  have X0 : Stand p l e room_1 (s.setVm s.vm) m #[(.int p1), (.int p2), (.int p3), (.int p4)] below meth c s₁ [] 0 0 := Stand.of_body Bd
  have e0 : s₁.heap = h0 := by rw [← hh, Bd.state]; rfl
  have N0 := Fr.nil n0
  have hS0 : s.Since s.vm 0 := (State.WarmedH.refl s).since 0
  have hk0 : 0 ≤ h0.size := Nat.zero_le _
  show Go ReturnedEndW p e below s 16 2176 (Q0 Z p1 p2 p3 p4 h0 n0) _
  refine Go.step (fun _ k => castTop (ef_0 m p1 p2 p3 p4) k) ?_
  show Go ReturnedEndW p e below s 16 2176 (Q0 Z p1 p2 p3 p4 h0 n0) (s₁.setTop (mkF m 0 #[.val (.int p1), .val (.int p2), .val (.int p3), .val (.int p4), .unset, .unset, .unset, .unset, .unset, .unset] []))
  refine Go.step (fun _ k => XS.iloadN X0.here hx rfl (hb hby at_0) rfl k) ?_
  show Go ReturnedEndW p e below s 16 2176 (Q0 Z p1 p2 p3 p4 h0 n0) (s₁.setTop (mkF m 1 #[.val (.int p1), .val (.int p2), .val (.int p3), .val (.int p4), .unset, .unset, .unset, .unset, .unset, .unset] [(.int p1)]))
  refine Go.step (X0.ldcInt hx hown (mvT hZ (hw _ (List.mem_of_getElem? (i := 0) rfl))) (g := (mkF m 1 #[.val (.int p1), .val (.int p2), .val (.int p3), .val (.int p4), .unset, .unset, .unset, .unset, .unset, .unset] [(.int p1)])) rfl (hb hby at_1)) ?_
  show Go ReturnedEndW p e below s 16 2176 (Q0 Z p1 p2 p3 p4 h0 n0) (s₁.setTop (mkF m 3 #[.val (.int p1), .val (.int p2), .val (.int p3), .val (.int p4), .unset, .unset, .unset, .unset, .unset, .unset] [(.int (2147483647 : Int32)), (.int p1)]))
  refine Go.step (fun _ k => XS.iand X0.here hx rfl (hb hby at_3) rfl k) ?_
  show Go ReturnedEndW p e below s 16 2176 (Q0 Z p1 p2 p3 p4 h0 n0) (s₁.setTop (mkF m 4 #[.val (.int p1), .val (.int p2), .val (.int p3), .val (.int p4), .unset, .unset, .unset, .unset, .unset, .unset] [(.int (p1 &&& (2147483647 : Int32)))]))
  refine Go.step (X0.ldcInt hx hown (mvT hZ (hw _ (List.mem_of_getElem? (i := 1) rfl))) (g := (mkF m 4 #[.val (.int p1), .val (.int p2), .val (.int p3), .val (.int p4), .unset, .unset, .unset, .unset, .unset, .unset] [(.int (p1 &&& (2147483647 : Int32)))])) rfl (hb hby at_4)) ?_
  show Go ReturnedEndW p e below s 16 2176 (Q0 Z p1 p2 p3 p4 h0 n0) (s₁.setTop (mkF m 6 #[.val (.int p1), .val (.int p2), .val (.int p3), .val (.int p4), .unset, .unset, .unset, .unset, .unset, .unset] [(.int (1114112 : Int32)), (.int (p1 &&& (2147483647 : Int32)))]))
  refine Go.step (fun _ k => iremM X0 hx rfl (hb hby at_6) rfl (by decide) k) ?_
  show Go ReturnedEndW p e below s 16 2176 (Q0 Z p1 p2 p3 p4 h0 n0) (s₁.setTop (mkF m 7 #[.val (.int p1), .val (.int p2), .val (.int p3), .val (.int p4), .unset, .unset, .unset, .unset, .unset, .unset] [(.int ((p1 &&& (2147483647 : Int32)) % (1114112 : Int32)))]))
  refine Go.step (fun _ k => XS.istore X0.here hx rfl (hb hby at_7) rfl (l' := #[.val (.int p1), .val (.int p2), .val (.int p3), .val (.int p4), .val (.int ((p1 &&& (2147483647 : Int32)) % (1114112 : Int32))), .unset, .unset, .unset, .unset, .unset]) rfl k) ?_
  show Go ReturnedEndW p e below s 16 2176 (Q0 Z p1 p2 p3 p4 h0 n0) (s₁.setTop (mkF m 9 #[.val (.int p1), .val (.int p2), .val (.int p3), .val (.int p4), .val (.int ((p1 &&& (2147483647 : Int32)) % (1114112 : Int32))), .unset, .unset, .unset, .unset, .unset] []))
  refine Go.step (fun _ k => XS.iloadN X0.here hx rfl (hb hby at_9) rfl k) ?_
  show Go ReturnedEndW p e below s 16 2176 (Q0 Z p1 p2 p3 p4 h0 n0) (s₁.setTop (mkF m 10 #[.val (.int p1), .val (.int p2), .val (.int p3), .val (.int p4), .val (.int ((p1 &&& (2147483647 : Int32)) % (1114112 : Int32))), .unset, .unset, .unset, .unset, .unset] [(.int p4)]))
  refine Go.step (fun _ k => XS.iconst X0.here hx rfl (hb hby at_10) k) ?_
  show Go ReturnedEndW p e below s 16 2176 (Q0 Z p1 p2 p3 p4 h0 n0) (s₁.setTop (mkF m 11 #[.val (.int p1), .val (.int p2), .val (.int p3), .val (.int p4), .val (.int ((p1 &&& (2147483647 : Int32)) % (1114112 : Int32))), .unset, .unset, .unset, .unset, .unset] [(.int (1 : Int32)), (.int p4)]))
  refine Go.step (fun _ k => XS.iand X0.here hx rfl (hb hby at_11) rfl k) ?_
  show Go ReturnedEndW p e below s 16 2176 (Q0 Z p1 p2 p3 p4 h0 n0) (s₁.setTop (mkF m 12 #[.val (.int p1), .val (.int p2), .val (.int p3), .val (.int p4), .val (.int ((p1 &&& (2147483647 : Int32)) % (1114112 : Int32))), .unset, .unset, .unset, .unset, .unset] [(.int (p4 &&& (1 : Int32)))]))
  have J26_1 : ∀ (ch : Int32), Go ReturnedEndW p e below s 16 2176 (Q0 Z p1 p2 p3 p4 h0 n0) (s₁.setTop (mkF m 26 #[.val (.int p1), .val (.int p2), .val (.int p3), .val (.int p4), .val (.int ((p1 &&& (2147483647 : Int32)) % (1114112 : Int32))), .unset, .unset, .unset, .unset, .unset] [(.int ch)])) := by
    intro ch
    show Go ReturnedEndW p e below s 16 2176 (Q0 Z p1 p2 p3 p4 h0 n0) (s₁.setTop (mkF m 26 #[.val (.int p1), .val (.int p2), .val (.int p3), .val (.int p4), .val (.int ((p1 &&& (2147483647 : Int32)) % (1114112 : Int32))), .unset, .unset, .unset, .unset, .unset] [(.int ch)]))
    refine Go.step (fun _ k => XS.istore X0.here hx rfl (hb hby at_26) rfl (l' := #[.val (.int p1), .val (.int p2), .val (.int p3), .val (.int p4), .val (.int ((p1 &&& (2147483647 : Int32)) % (1114112 : Int32))), .val (.int ch), .unset, .unset, .unset, .unset]) rfl k) ?_
    show Go ReturnedEndW p e below s 16 2176 (Q0 Z p1 p2 p3 p4 h0 n0) (s₁.setTop (mkF m 28 #[.val (.int p1), .val (.int p2), .val (.int p3), .val (.int p4), .val (.int ((p1 &&& (2147483647 : Int32)) % (1114112 : Int32))), .val (.int ch), .unset, .unset, .unset, .unset] []))
    obtain ⟨T2, h2, X2, e2, E2, A2, D2, -, st2⟩ := newO X0 hx hZ hown (hw _ (List.mem_of_getElem? (i := 2) rfl)) (hw _ (List.mem_of_getElem? (i := 3) rfl)) (hw _ (List.mem_of_getElem? (i := 4) rfl)) e0 (g := (mkF m 28 #[.val (.int p1), .val (.int p2), .val (.int p3), .val (.int p4), .val (.int ((p1 &&& (2147483647 : Int32)) % (1114112 : Int32))), .val (.int ch), .unset, .unset, .unset, .unset] [])) rfl (hb hby at_28) (by decide) (by decide)
    refine Go.step st2 ?_
    obtain ⟨b2, g2⟩ : ∃ z, z = h0.size := ⟨_, rfl⟩
    rw [← g2] at A2 D2 ⊢
    have g_b2 : n0 ≤ b2 := Nat.le_trans Z0 (Nat.le_of_eq g2.symm)
    have Z2 : n0 ≤ h2.size := Nat.le_trans Z0 E2.1
    have hk2 : 0 ≤ h2.size := Nat.le_trans hk0 E2.1
    have F2_decimalSeparator : Fld Z h2 b2 "com/example/loomward/loomward/xpath/DecimalFormat" "decimalSeparator" "I" (.int (0 : Int32)) := D2 (Or.inr (hw _ (List.mem_of_getElem? (i := 26) rfl))) (ty := .int) (by decide)
    have F2_exponentSeparator : Fld Z h2 b2 "com/example/loomward/loomward/xpath/DecimalFormat" "exponentSeparator" "I" (.int (0 : Int32)) := D2 (Or.inr (hw _ (List.mem_of_getElem? (i := 28) rfl))) (ty := .int) (by decide)
    have F2_groupingSeparator : Fld Z h2 b2 "com/example/loomward/loomward/xpath/DecimalFormat" "groupingSeparator" "I" (.int (0 : Int32)) := D2 (Or.inr (hw _ (List.mem_of_getElem? (i := 30) rfl))) (ty := .int) (by decide)
    have F2_percent : Fld Z h2 b2 "com/example/loomward/loomward/xpath/DecimalFormat" "percent" "I" (.int (0 : Int32)) := D2 (Or.inr (hw _ (List.mem_of_getElem? (i := 32) rfl))) (ty := .int) (by decide)
    have F2_perMille : Fld Z h2 b2 "com/example/loomward/loomward/xpath/DecimalFormat" "perMille" "I" (.int (0 : Int32)) := D2 (Or.inr (hw _ (List.mem_of_getElem? (i := 34) rfl))) (ty := .int) (by decide)
    have F2_zeroDigit : Fld Z h2 b2 "com/example/loomward/loomward/xpath/DecimalFormat" "zeroDigit" "I" (.int (0 : Int32)) := D2 (Or.inr (hw _ (List.mem_of_getElem? (i := 36) rfl))) (ty := .int) (by decide)
    have F2_digit : Fld Z h2 b2 "com/example/loomward/loomward/xpath/DecimalFormat" "digit" "I" (.int (0 : Int32)) := D2 (Or.inr (hw _ (List.mem_of_getElem? (i := 38) rfl))) (ty := .int) (by decide)
    have F2_patternSeparator : Fld Z h2 b2 "com/example/loomward/loomward/xpath/DecimalFormat" "patternSeparator" "I" (.int (0 : Int32)) := D2 (Or.inr (hw _ (List.mem_of_getElem? (i := 40) rfl))) (ty := .int) (by decide)
    have F2_infinity : Fld Z h2 b2 "com/example/loomward/loomward/xpath/DecimalFormat" "infinity" "Ljava/lang/String;" .null := D2 (Or.inr (hw _ (List.mem_of_getElem? (i := 42) rfl))) (ty := (.object "java/lang/String")) (by decide)
    have F2_notANumber : Fld Z h2 b2 "com/example/loomward/loomward/xpath/DecimalFormat" "notANumber" "Ljava/lang/String;" .null := D2 (Or.inr (hw _ (List.mem_of_getElem? (i := 44) rfl))) (ty := (.object "java/lang/String")) (by decide)
    have F2_minusSign : Fld Z h2 b2 "com/example/loomward/loomward/xpath/DecimalFormat" "minusSign" "I" (.int (0 : Int32)) := D2 (Or.inr (hw _ (List.mem_of_getElem? (i := 46) rfl))) (ty := .int) (by decide)
    show Go ReturnedEndW p e below s 16 2176 (Q0 Z p1 p2 p3 p4 h0 n0) (T2.setTop (mkF m 31 #[.val (.int p1), .val (.int p2), .val (.int p3), .val (.int p4), .val (.int ((p1 &&& (2147483647 : Int32)) % (1114112 : Int32))), .val (.int ch), .unset, .unset, .unset, .unset] [(.ref b2)]))
    refine Go.step (fun _ k => XS.dup X2.here hx rfl (hb hby at_31) rfl rfl k) ?_
    show Go ReturnedEndW p e below s 16 2176 (Q0 Z p1 p2 p3 p4 h0 n0) (T2.setTop (mkF m 32 #[.val (.int p1), .val (.int p2), .val (.int p3), .val (.int p4), .val (.int ((p1 &&& (2147483647 : Int32)) % (1114112 : Int32))), .val (.int ch), .unset, .unset, .unset, .unset] [(.ref b2), (.ref b2)]))
    refine Go.step (fun _ k => XS.iloadN X2.here hx rfl (hb hby at_32) rfl k) ?_
    show Go ReturnedEndW p e below s 16 2176 (Q0 Z p1 p2 p3 p4 h0 n0) (T2.setTop (mkF m 33 #[.val (.int p1), .val (.int p2), .val (.int p3), .val (.int p4), .val (.int ((p1 &&& (2147483647 : Int32)) % (1114112 : Int32))), .val (.int ch), .unset, .unset, .unset, .unset] [(.int p3), (.ref b2), (.ref b2)]))
    refine Go.step (fun _ k => XS.iloadN X2.here hx rfl (hb hby at_33) rfl k) ?_
    show Go ReturnedEndW p e below s 16 2176 (Q0 Z p1 p2 p3 p4 h0 n0) (T2.setTop (mkF m 34 #[.val (.int p1), .val (.int p2), .val (.int p3), .val (.int p4), .val (.int ((p1 &&& (2147483647 : Int32)) % (1114112 : Int32))), .val (.int ch), .unset, .unset, .unset, .unset] [(.int p3), (.int p3), (.ref b2), (.ref b2)]))
    refine Go.step (fun _ k => XS.iloadN X2.here hx rfl (hb hby at_34) rfl k) ?_
    show Go ReturnedEndW p e below s 16 2176 (Q0 Z p1 p2 p3 p4 h0 n0) (T2.setTop (mkF m 35 #[.val (.int p1), .val (.int p2), .val (.int p3), .val (.int p4), .val (.int ((p1 &&& (2147483647 : Int32)) % (1114112 : Int32))), .val (.int ch), .unset, .unset, .unset, .unset] [(.int p3), (.int p3), (.int p3), (.ref b2), (.ref b2)]))
    refine Go.step (fun _ k => XS.iloadN X2.here hx rfl (hb hby at_35) rfl k) ?_
    show Go ReturnedEndW p e below s 16 2176 (Q0 Z p1 p2 p3 p4 h0 n0) (T2.setTop (mkF m 36 #[.val (.int p1), .val (.int p2), .val (.int p3), .val (.int p4), .val (.int ((p1 &&& (2147483647 : Int32)) % (1114112 : Int32))), .val (.int ch), .unset, .unset, .unset, .unset] [(.int p3), (.int p3), (.int p3), (.int p3), (.ref b2), (.ref b2)]))
    refine Go.step (fun _ k => XS.iloadN X2.here hx rfl (hb hby at_36) rfl k) ?_
    show Go ReturnedEndW p e below s 16 2176 (Q0 Z p1 p2 p3 p4 h0 n0) (T2.setTop (mkF m 37 #[.val (.int p1), .val (.int p2), .val (.int p3), .val (.int p4), .val (.int ((p1 &&& (2147483647 : Int32)) % (1114112 : Int32))), .val (.int ch), .unset, .unset, .unset, .unset] [(.int p3), (.int p3), (.int p3), (.int p3), (.int p3), (.ref b2), (.ref b2)]))
    refine Go.step (fun _ k => XS.iload X2.here hx rfl (hb hby at_37) rfl k) ?_
    show Go ReturnedEndW p e below s 16 2176 (Q0 Z p1 p2 p3 p4 h0 n0) (T2.setTop (mkF m 39 #[.val (.int p1), .val (.int p2), .val (.int p3), .val (.int p4), .val (.int ((p1 &&& (2147483647 : Int32)) % (1114112 : Int32))), .val (.int ch), .unset, .unset, .unset, .unset] [(.int ((p1 &&& (2147483647 : Int32)) % (1114112 : Int32))), (.int p3), (.int p3), (.int p3), (.int p3), (.int p3), (.ref b2), (.ref b2)]))
    refine Go.step (fun _ k => XS.iloadN X2.here hx rfl (hb hby at_39) rfl k) ?_
    show Go ReturnedEndW p e below s 16 2176 (Q0 Z p1 p2 p3 p4 h0 n0) (T2.setTop (mkF m 40 #[.val (.int p1), .val (.int p2), .val (.int p3), .val (.int p4), .val (.int ((p1 &&& (2147483647 : Int32)) % (1114112 : Int32))), .val (.int ch), .unset, .unset, .unset, .unset] [(.int p3), (.int ((p1 &&& (2147483647 : Int32)) % (1114112 : Int32))), (.int p3), (.int p3), (.int p3), (.int p3), (.int p3), (.ref b2), (.ref b2)]))
    refine Go.step (fun _ k => XS.iloadN X2.here hx rfl (hb hby at_40) rfl k) ?_
    show Go ReturnedEndW p e below s 16 2176 (Q0 Z p1 p2 p3 p4 h0 n0) (T2.setTop (mkF m 41 #[.val (.int p1), .val (.int p2), .val (.int p3), .val (.int p4), .val (.int ((p1 &&& (2147483647 : Int32)) % (1114112 : Int32))), .val (.int ch), .unset, .unset, .unset, .unset] [(.int p3), (.int p3), (.int ((p1 &&& (2147483647 : Int32)) % (1114112 : Int32))), (.int p3), (.int p3), (.int p3), (.int p3), (.int p3), (.ref b2), (.ref b2)]))
    obtain ⟨b3, T3, h3, k3, X3, e3, E3, hS3, hk3, hZ3, hown3, st3⟩ := ldcS (s := s) (vm0 := s.vm) X2 hx hZ hown (hw _ (List.mem_of_getElem? (i := 5) rfl)) (own_strAtoms hw) e2 hS0 hk2 (g := (mkF m 41 #[.val (.int p1), .val (.int p2), .val (.int p3), .val (.int p4), .val (.int ((p1 &&& (2147483647 : Int32)) % (1114112 : Int32))), .val (.int ch), .unset, .unset, .unset, .unset] [(.int p3), (.int p3), (.int ((p1 &&& (2147483647 : Int32)) % (1114112 : Int32))), (.int p3), (.int p3), (.int p3), (.int p3), (.int p3), (.ref b2), (.ref b2)])) rfl (hb hby at_41) (n := 32) (by decide) (by decide) (by decide) (by decide)
    refine Go.step st3 ?_
    have Z3 : n0 ≤ h3.size := Nat.le_trans Z2 E3.1
    show Go ReturnedEndW p e below s 16 2176 (Q0 Z p1 p2 p3 p4 h0 n0) (T3.setTop (mkF m 43 #[.val (.int p1), .val (.int p2), .val (.int p3), .val (.int p4), .val (.int ((p1 &&& (2147483647 : Int32)) % (1114112 : Int32))), .val (.int ch), .unset, .unset, .unset, .unset] [(.ref b3), (.int p3), (.int p3), (.int ((p1 &&& (2147483647 : Int32)) % (1114112 : Int32))), (.int p3), (.int p3), (.int p3), (.int p3), (.int p3), (.ref b2), (.ref b2)]))
    obtain ⟨b4, T4, h4, k4, X4, e4, E4, hS4, hk4, hZ4, hown4, st4⟩ := ldcS (s := s) (vm0 := T3.vm) X3 hx hZ3 hown3 (hw _ (List.mem_of_getElem? (i := 13) rfl)) (own_strAtoms hw) e3 hS3 hk3 (g := (mkF m 43 #[.val (.int p1), .val (.int p2), .val (.int p3), .val (.int p4), .val (.int ((p1 &&& (2147483647 : Int32)) % (1114112 : Int32))), .val (.int ch), .unset, .unset, .unset, .unset] [(.ref b3), (.int p3), (.int p3), (.int ((p1 &&& (2147483647 : Int32)) % (1114112 : Int32))), (.int p3), (.int p3), (.int p3), (.int p3), (.int p3), (.ref b2), (.ref b2)])) rfl (hb hby at_43) (n := 12) (by decide) (by decide) (by decide) (by decide)
    refine Go.step st4 ?_
    have Z4 : n0 ≤ h4.size := Nat.le_trans Z3 E4.1
    show Go ReturnedEndW p e below s 16 2176 (Q0 Z p1 p2 p3 p4 h0 n0) (T4.setTop (mkF m 45 #[.val (.int p1), .val (.int p2), .val (.int p3), .val (.int p4), .val (.int ((p1 &&& (2147483647 : Int32)) % (1114112 : Int32))), .val (.int ch), .unset, .unset, .unset, .unset] [(.ref b4), (.ref b3), (.int p3), (.int p3), (.int ((p1 &&& (2147483647 : Int32)) % (1114112 : Int32))), (.int p3), (.int p3), (.int p3), (.int p3), (.int p3), (.ref b2), (.ref b2)]))
    refine Go.step (fun _ k => XS.iloadN X4.here hx rfl (hb hby at_45) rfl k) ?_
    show Go ReturnedEndW p e below s 16 2176 (Q0 Z p1 p2 p3 p4 h0 n0) (T4.setTop (mkF m 46 #[.val (.int p1), .val (.int p2), .val (.int p3), .val (.int p4), .val (.int ((p1 &&& (2147483647 : Int32)) % (1114112 : Int32))), .val (.int ch), .unset, .unset, .unset, .unset] [(.int p3), (.ref b4), (.ref b3), (.int p3), (.int p3), (.int ((p1 &&& (2147483647 : Int32)) % (1114112 : Int32))), (.int p3), (.int p3), (.int p3), (.int p3), (.int p3), (.ref b2), (.ref b2)]))
    have f_5 := ((A2.ext E3).ext E4)
    have f_6 := ((F2_decimalSeparator.ext E3).ext E4)
    have f_7 := ((F2_exponentSeparator.ext E3).ext E4)
    have f_8 := ((F2_groupingSeparator.ext E3).ext E4)
    have f_9 := ((F2_percent.ext E3).ext E4)
    have f_10 := ((F2_perMille.ext E3).ext E4)
    have f_11 := ((F2_zeroDigit.ext E3).ext E4)
    have f_12 := ((F2_digit.ext E3).ext E4)
    have f_13 := ((F2_patternSeparator.ext E3).ext E4)
    have f_14 := ((F2_infinity.ext E3).ext E4)
    have f_15 := ((F2_notANumber.ext E3).ext E4)
    have f_16 := ((F2_minusSign.ext E3).ext E4)
    obtain ⟨_, _, ⟨T17, L17, k17, n17⟩, -, X17, ⟨Lc17, hQ17, l17, y17, z17⟩, st17⟩ := X4.specialBack hx (y := (⟨"com/example/loomward/loomward/xpath/DecimalFormat", "<init>", "(IIIIIIIILjava/lang/String;Ljava/lang/String;I)V"⟩ : MethodName)) rfl hown4 (mvT hZ4 (hw _ (List.mem_of_getElem? (i := 14) rfl))) (mvT hZ4 (hw _ (List.mem_of_getElem? (i := 15) rfl))) (mvT hZ4 (hw _ (List.mem_of_getElem? (i := 16) rfl))) (by decide) (backOf (W := 1) (rm2 l Z a0 hw [] b2 p3 p3 p3 p3 p3 ((p1 &&& (2147483647 : Int32)) % (1114112 : Int32)) p3 p3 b3 b4 p3 ((.int (0 : Int32)) : Value) ((.int (0 : Int32)) : Value) ((.int (0 : Int32)) : Value) ((.int (0 : Int32)) : Value) ((.int (0 : Int32)) : Value) ((.int (0 : Int32)) : Value) ((.int (0 : Int32)) : Value) ((.int (0 : Int32)) : Value) (.null : Value) (.null : Value) ((.int (0 : Int32)) : Value) h4 n0 Z4 f_5 f_6 f_7 f_8 f_9 f_10 f_11 f_12 f_13 f_14 f_15 f_16 g_b2) hZ4 (hw _ (List.mem_of_getElem? (i := 16) rfl)) (hw _ (List.mem_of_getElem? (i := 4) rfl)) (by decide) (by decide)) (g := (mkF m 46 #[.val (.int p1), .val (.int p2), .val (.int p3), .val (.int p4), .val (.int ((p1 &&& (2147483647 : Int32)) % (1114112 : Int32))), .val (.int ch), .unset, .unset, .unset, .unset] [(.int p3), (.ref b4), (.ref b3), (.int p3), (.int p3), (.int ((p1 &&& (2147483647 : Int32)) % (1114112 : Int32))), (.int p3), (.int p3), (.int p3), (.int p3), (.int p3), (.ref b2), (.ref b2)])) rfl (by rw [hml]; rfl) (Steps.refl _) (a := b2) (argsL := [(.int p3), (.int p3), (.int p3), (.int p3), (.int p3), (.int ((p1 &&& (2147483647 : Int32)) % (1114112 : Int32))), (.int p3), (.int p3), (.ref b3), (.ref b4), (.int p3)]) (rest := [(.ref b2)]) (lenOf pd__IIIIIIIILjava_lang_String_Ljava_lang_String_I_V rfl) rfl (by show 2 * 0 + _ ≤ _; exact Nat.le_of_eq rfl) (hb hby at_46) (fun _ _ => ⟨rfl, e4, (by decide : 5 + 0 ≤ _), (by decide : 63 + 0 ≤ _)⟩)
    dsimp only [Pt.U, Pt.locs, Pt.cells, Pt.slots] at X17 l17 y17 z17 st17 hQ17
    subst l17 y17 z17
    obtain ⟨rfl, N17q, K17_0, xE17_1, xF17_2⟩ := hQ17
    have N17 := Fr.app N0 N17q
    have Z17 : n0 ≤ T17.heap.size := Nat.le_trans Z4 K17_0.1
    have hk17 : k4 ≤ T17.heap.size := Nat.le_trans hk4 K17_0.1
    refine Go.hop st17 ?_
    show Go ReturnedEndW p e below s 16 2176 (Q0 Z p1 p2 p3 p4 h0 n0) (T17.setTop (mkF m 49 #[.val (.int p1), .val (.int p2), .val (.int p3), .val (.int p4), .val (.int ((p1 &&& (2147483647 : Int32)) % (1114112 : Int32))), .val (.int ch), .unset, .unset, .unset, .unset] [(.ref b2)]))
    refine Go.step (fun _ k => XS.astore X17.here hx rfl (hb hby at_49) rfl rfl (l' := #[.val (.int p1), .val (.int p2), .val (.int p3), .val (.int p4), .val (.int ((p1 &&& (2147483647 : Int32)) % (1114112 : Int32))), .val (.int ch), .val (.ref b2), .unset, .unset, .unset]) rfl k) ?_
    show Go ReturnedEndW p e below s 16 2176 (Q0 Z p1 p2 p3 p4 h0 n0) (T17.setTop (mkF m 51 #[.val (.int p1), .val (.int p2), .val (.int p3), .val (.int p4), .val (.int ((p1 &&& (2147483647 : Int32)) % (1114112 : Int32))), .val (.int ch), .val (.ref b2), .unset, .unset, .unset] []))
    refine Go.step (fun _ k => XS.iload X17.here hx rfl (hb hby at_51) rfl k) ?_
    show Go ReturnedEndW p e below s 16 2176 (Q0 Z p1 p2 p3 p4 h0 n0) (T17.setTop (mkF m 53 #[.val (.int p1), .val (.int p2), .val (.int p3), .val (.int p4), .val (.int ((p1 &&& (2147483647 : Int32)) % (1114112 : Int32))), .val (.int ch), .val (.ref b2), .unset, .unset, .unset] [(.int ch)]))
    refine Go.step (fun _ k => XS.i2l X17.here hx rfl (hb hby at_53) rfl k) ?_
    show Go ReturnedEndW p e below s 16 2176 (Q0 Z p1 p2 p3 p4 h0 n0) (T17.setTop (mkF m 54 #[.val (.int p1), .val (.int p2), .val (.int p3), .val (.int p4), .val (.int ((p1 &&& (2147483647 : Int32)) % (1114112 : Int32))), .val (.int ch), .val (.ref b2), .unset, .unset, .unset] [(.long ch.toInt64)]))
    refine Go.step (fun _ k => XS.iload X17.here hx rfl (hb hby at_54) rfl k) ?_
    show Go ReturnedEndW p e below s 16 2176 (Q0 Z p1 p2 p3 p4 h0 n0) (T17.setTop (mkF m 56 #[.val (.int p1), .val (.int p2), .val (.int p3), .val (.int p4), .val (.int ((p1 &&& (2147483647 : Int32)) % (1114112 : Int32))), .val (.int ch), .val (.ref b2), .unset, .unset, .unset] [(.int ((p1 &&& (2147483647 : Int32)) % (1114112 : Int32))), (.long ch.toInt64)]))
    refine Go.step (fun _ k => XS.i2l X17.here hx rfl (hb hby at_56) rfl k) ?_
    show Go ReturnedEndW p e below s 16 2176 (Q0 Z p1 p2 p3 p4 h0 n0) (T17.setTop (mkF m 57 #[.val (.int p1), .val (.int p2), .val (.int p3), .val (.int p4), .val (.int ((p1 &&& (2147483647 : Int32)) % (1114112 : Int32))), .val (.int ch), .val (.ref b2), .unset, .unset, .unset] [(.long ((p1 &&& (2147483647 : Int32)) % (1114112 : Int32)).toInt64), (.long ch.toInt64)]))
    refine Go.step (fun _ k => XS.lsub X17.here hx rfl (hb hby at_57) rfl k) ?_
    show Go ReturnedEndW p e below s 16 2176 (Q0 Z p1 p2 p3 p4 h0 n0) (T17.setTop (mkF m 58 #[.val (.int p1), .val (.int p2), .val (.int p3), .val (.int p4), .val (.int ((p1 &&& (2147483647 : Int32)) % (1114112 : Int32))), .val (.int ch), .val (.ref b2), .unset, .unset, .unset] [(.long (ch.toInt64 - ((p1 &&& (2147483647 : Int32)) % (1114112 : Int32)).toInt64))]))
    refine Go.step (fun _ k => XS.lstore X17.here hx rfl (hb hby at_58) rfl (l' := #[.val (.int p1), .val (.int p2), .val (.int p3), .val (.int p4), .val (.int ((p1 &&& (2147483647 : Int32)) % (1114112 : Int32))), .val (.int ch), .val (.ref b2), .val (.long (ch.toInt64 - ((p1 &&& (2147483647 : Int32)) % (1114112 : Int32)).toInt64)), .second, .unset]) rfl k) ?_
    show Go ReturnedEndW p e below s 16 2176 (Q0 Z p1 p2 p3 p4 h0 n0) (T17.setTop (mkF m 60 #[.val (.int p1), .val (.int p2), .val (.int p3), .val (.int p4), .val (.int ((p1 &&& (2147483647 : Int32)) % (1114112 : Int32))), .val (.int ch), .val (.ref b2), .val (.long (ch.toInt64 - ((p1 &&& (2147483647 : Int32)) % (1114112 : Int32)).toInt64)), .second, .unset] []))
    refine Go.step (fun _ k => XS.lload X17.here hx rfl (hb hby at_60) rfl k) ?_
    show Go ReturnedEndW p e below s 16 2176 (Q0 Z p1 p2 p3 p4 h0 n0) (T17.setTop (mkF m 62 #[.val (.int p1), .val (.int p2), .val (.int p3), .val (.int p4), .val (.int ((p1 &&& (2147483647 : Int32)) % (1114112 : Int32))), .val (.int ch), .val (.ref b2), .val (.long (ch.toInt64 - ((p1 &&& (2147483647 : Int32)) % (1114112 : Int32)).toInt64)), .second, .unset] [(.long (ch.toInt64 - ((p1 &&& (2147483647 : Int32)) % (1114112 : Int32)).toInt64))]))
    refine Go.step (fun _ k => XS.lconst X17.here hx rfl (hb hby at_62) k) ?_
    show Go ReturnedEndW p e below s 16 2176 (Q0 Z p1 p2 p3 p4 h0 n0) (T17.setTop (mkF m 63 #[.val (.int p1), .val (.int p2), .val (.int p3), .val (.int p4), .val (.int ((p1 &&& (2147483647 : Int32)) % (1114112 : Int32))), .val (.int ch), .val (.ref b2), .val (.long (ch.toInt64 - ((p1 &&& (2147483647 : Int32)) % (1114112 : Int32)).toInt64)), .second, .unset] [(.long (0 : Int64)), (.long (ch.toInt64 - ((p1 &&& (2147483647 : Int32)) % (1114112 : Int32)).toInt64))]))
    refine Go.step (fun _ k => XS.lcmp X17.here hx rfl (hb hby at_63) rfl k) ?_
    show Go ReturnedEndW p e below s 16 2176 (Q0 Z p1 p2 p3 p4 h0 n0) (T17.setTop (mkF m 64 #[.val (.int p1), .val (.int p2), .val (.int p3), .val (.int p4), .val (.int ((p1 &&& (2147483647 : Int32)) % (1114112 : Int32))), .val (.int ch), .val (.ref b2), .val (.long (ch.toInt64 - ((p1 &&& (2147483647 : Int32)) % (1114112 : Int32)).toInt64)), .second, .unset] [(.int (lcmpW (ch.toInt64 - ((p1 &&& (2147483647 : Int32)) % (1114112 : Int32)).toInt64) (0 : Int64)))]))
    have J81_18 : ∀ (x : Int32), (digF ((p1 &&& (2147483647 : Int32)) % (1114112 : Int32)) ch = x) → Go ReturnedEndW p e below s 16 2176 (Q0 Z p1 p2 p3 p4 h0 n0) (T17.setTop (mkF m 81 #[.val (.int p1), .val (.int p2), .val (.int p3), .val (.int p4), .val (.int ((p1 &&& (2147483647 : Int32)) % (1114112 : Int32))), .val (.int ch), .val (.ref b2), .val (.long (ch.toInt64 - ((p1 &&& (2147483647 : Int32)) % (1114112 : Int32)).toInt64)), .second, .unset] [(.int x)])) := by
      intro x hx81
      show Go ReturnedEndW p e below s 16 2176 (Q0 Z p1 p2 p3 p4 h0 n0) (T17.setTop (mkF m 81 #[.val (.int p1), .val (.int p2), .val (.int p3), .val (.int p4), .val (.int ((p1 &&& (2147483647 : Int32)) % (1114112 : Int32))), .val (.int ch), .val (.ref b2), .val (.long (ch.toInt64 - ((p1 &&& (2147483647 : Int32)) % (1114112 : Int32)).toInt64)), .second, .unset] [(.int x)]))
      refine Go.step (fun _ k => XS.istore X17.here hx rfl (hb hby at_81) rfl (l' := #[.val (.int p1), .val (.int p2), .val (.int p3), .val (.int p4), .val (.int ((p1 &&& (2147483647 : Int32)) % (1114112 : Int32))), .val (.int ch), .val (.ref b2), .val (.long (ch.toInt64 - ((p1 &&& (2147483647 : Int32)) % (1114112 : Int32)).toInt64)), .second, .val (.int x)]) rfl k) ?_
      show Go ReturnedEndW p e below s 16 2176 (Q0 Z p1 p2 p3 p4 h0 n0) (T17.setTop (mkF m 83 #[.val (.int p1), .val (.int p2), .val (.int p3), .val (.int p4), .val (.int ((p1 &&& (2147483647 : Int32)) % (1114112 : Int32))), .val (.int ch), .val (.ref b2), .val (.long (ch.toInt64 - ((p1 &&& (2147483647 : Int32)) % (1114112 : Int32)).toInt64)), .second, .val (.int x)] []))
      refine Go.step (fun _ k => XS.aload X17.here hx rfl (hb hby at_83) rfl rfl k) ?_
      show Go ReturnedEndW p e below s 16 2176 (Q0 Z p1 p2 p3 p4 h0 n0) (T17.setTop (mkF m 85 #[.val (.int p1), .val (.int p2), .val (.int p3), .val (.int p4), .val (.int ((p1 &&& (2147483647 : Int32)) % (1114112 : Int32))), .val (.int ch), .val (.ref b2), .val (.long (ch.toInt64 - ((p1 &&& (2147483647 : Int32)) % (1114112 : Int32)).toInt64)), .second, .val (.int x)] [(.ref b2)]))
      refine Go.step (fun _ k => XS.iload X17.here hx rfl (hb hby at_85) rfl k) ?_
      show Go ReturnedEndW p e below s 16 2176 (Q0 Z p1 p2 p3 p4 h0 n0) (T17.setTop (mkF m 87 #[.val (.int p1), .val (.int p2), .val (.int p3), .val (.int p4), .val (.int ((p1 &&& (2147483647 : Int32)) % (1114112 : Int32))), .val (.int ch), .val (.ref b2), .val (.long (ch.toInt64 - ((p1 &&& (2147483647 : Int32)) % (1114112 : Int32)).toInt64)), .second, .val (.int x)] [(.int ch), (.ref b2)]))
      obtain ⟨cq19, kq19, q19a, q19b, q19c⟩ := isOf hZ4 rfl xE17_1
      obtain ⟨_, _, ⟨T19, L19, k19, n19⟩, -, X19, ⟨Lc19, hQ19, l19, y19, z19⟩, st19⟩ := X17.virtualBack hx (y := (⟨"com/example/loomward/loomward/xpath/DecimalFormat", "isDigit", "(I)Z"⟩ : MethodName)) (z := (⟨"com/example/loomward/loomward/xpath/DecimalFormat", "isDigit", "(I)Z"⟩ : MethodName)) hown4 (mvT hZ4 (hw _ (List.mem_of_getElem? (i := 48) rfl))) (mvT hZ4 (hw _ (List.mem_of_getElem? (i := 49) rfl))) (notFace_of_selects (args := #[]) (mvT hZ4 (hw _ (List.mem_of_getElem? (i := 51) rfl)))) (mvT hZ4 (hw _ (List.mem_of_getElem? (i := 51) rfl))) (mvT hZ4 (hw _ (List.mem_of_getElem? (i := 50) rfl))) (by decide) (backOf (W := 0) (rm3 l Z a0 hw [] b2 ch ((p1 &&& (2147483647 : Int32)) % (1114112 : Int32)) T17.heap xF17_2) hZ4 (hw _ (List.mem_of_getElem? (i := 52) rfl)) (hw _ (List.mem_of_getElem? (i := 4) rfl)) (by decide) (by decide)) q19a q19c (g := (mkF m 87 #[.val (.int p1), .val (.int p2), .val (.int p3), .val (.int p4), .val (.int ((p1 &&& (2147483647 : Int32)) % (1114112 : Int32))), .val (.int ch), .val (.ref b2), .val (.long (ch.toInt64 - ((p1 &&& (2147483647 : Int32)) % (1114112 : Int32)).toInt64)), .second, .val (.int x)] [(.int ch), (.ref b2)])) rfl (by rw [hml]; rfl) (Steps.refl _) (argsL := [(.int ch)]) (rest := []) (lenOf pd__I_Z rfl) rfl (by show 2 * 0 + _ ≤ _; exact Nat.le_of_eq rfl) (hb hby at_87) (fun _ _ => ⟨rfl, rfl, (by decide : 5 + 0 ≤ _), (by decide : 63 + 0 ≤ _)⟩)
      dsimp only [Pt.U, Pt.locs, Pt.cells, Pt.slots] at X19 l19 y19 z19 st19 hQ19
      subst l19 y19 z19
      obtain ⟨rfl, rfl, e19⟩ := hQ19
      have N19 := Fr.app N17 (Fr.nil n0)
      refine Go.hop st19 ?_
      show Go ReturnedEndW p e below s 16 2176 (Q0 Z p1 p2 p3 p4 h0 n0) (T19.setTop (mkF m 90 #[.val (.int p1), .val (.int p2), .val (.int p3), .val (.int p4), .val (.int ((p1 &&& (2147483647 : Int32)) % (1114112 : Int32))), .val (.int ch), .val (.ref b2), .val (.long (ch.toInt64 - ((p1 &&& (2147483647 : Int32)) % (1114112 : Int32)).toInt64)), .second, .val (.int x)] [(.int (digF ((p1 &&& (2147483647 : Int32)) % (1114112 : Int32)) ch))]))
      refine Go.step (fun _ k => XS.iload X19.here hx rfl (hb hby at_90) rfl k) ?_
      show Go ReturnedEndW p e below s 16 2176 (Q0 Z p1 p2 p3 p4 h0 n0) (T19.setTop (mkF m 92 #[.val (.int p1), .val (.int p2), .val (.int p3), .val (.int p4), .val (.int ((p1 &&& (2147483647 : Int32)) % (1114112 : Int32))), .val (.int ch), .val (.ref b2), .val (.long (ch.toInt64 - ((p1 &&& (2147483647 : Int32)) % (1114112 : Int32)).toInt64)), .second, .val (.int x)] [(.int x), (.int (digF ((p1 &&& (2147483647 : Int32)) % (1114112 : Int32)) ch))]))
      refine Go.step (fun _ k => XS.icmpNo X19.here hx rfl (hb hby at_92) rfl (teq hx81).2 k) ?_
      show Go ReturnedEndW p e below s 16 2176 (Q0 Z p1 p2 p3 p4 h0 n0) (T19.setTop (mkF m 95 #[.val (.int p1), .val (.int p2), .val (.int p3), .val (.int p4), .val (.int ((p1 &&& (2147483647 : Int32)) % (1114112 : Int32))), .val (.int ch), .val (.ref b2), .val (.long (ch.toInt64 - ((p1 &&& (2147483647 : Int32)) % (1114112 : Int32)).toInt64)), .second, .val (.int x)] []))
      refine Go.step (fun _ k => XS.iconst X19.here hx rfl (hb hby at_95) k) ?_
      show Go ReturnedEndW p e below s 16 2176 (Q0 Z p1 p2 p3 p4 h0 n0) (T19.setTop (mkF m 96 #[.val (.int p1), .val (.int p2), .val (.int p3), .val (.int p4), .val (.int ((p1 &&& (2147483647 : Int32)) % (1114112 : Int32))), .val (.int ch), .val (.ref b2), .val (.long (ch.toInt64 - ((p1 &&& (2147483647 : Int32)) % (1114112 : Int32)).toInt64)), .second, .val (.int x)] [(.int (1 : Int32))]))
      refine Go.step (fun _ k => XS.goto X19.here hx rfl (pc0 := 96) (pc' := 100) rfl (hb hby at_96) (by decide) (by decide) k) ?_
      show Go ReturnedEndW p e below s 16 2176 (Q0 Z p1 p2 p3 p4 h0 n0) (T19.setTop (mkF m 100 #[.val (.int p1), .val (.int p2), .val (.int p3), .val (.int p4), .val (.int ((p1 &&& (2147483647 : Int32)) % (1114112 : Int32))), .val (.int ch), .val (.ref b2), .val (.long (ch.toInt64 - ((p1 &&& (2147483647 : Int32)) % (1114112 : Int32)).toInt64)), .second, .val (.int x)] [(.int (1 : Int32))]))
      refine Go.retNW X19 hS4 hk17 hx (t := .boolean) Bd.returns (by simp) (by decide) (hb hby at_100) (BodyLoose.notSynchronized Bd) e19 (by decide) (by decide) ?_
      exact ⟨rfl, N19⟩
    by_cases hc64 : (ch.toInt64 - ((p1 &&& (2147483647 : Int32)) % (1114112 : Int32)).toInt64) < (0 : Int64)
    · skip
      refine Go.step (fun _ k => XS.ifYes X17.here hx rfl (pc0 := 64) (pc' := 80) rfl (hb hby at_64) rfl ((if0 _ _).trans (tlt ((lw_lt _ _).mpr hc64)).1) (by decide) (by decide) k) ?_
      show Go ReturnedEndW p e below s 16 2176 (Q0 Z p1 p2 p3 p4 h0 n0) (T17.setTop (mkF m 80 #[.val (.int p1), .val (.int p2), .val (.int p3), .val (.int p4), .val (.int ((p1 &&& (2147483647 : Int32)) % (1114112 : Int32))), .val (.int ch), .val (.ref b2), .val (.long (ch.toInt64 - ((p1 &&& (2147483647 : Int32)) % (1114112 : Int32)).toInt64)), .second, .unset] []))
      refine Go.step (fun _ k => XS.iconst X17.here hx rfl (hb hby at_80) k) ?_
      exact J81_18  _ ((own_dig _ _ (own_zero p1)).1 hc64)
    · skip
      refine Go.step (fun _ k => XS.ifNo X17.here hx rfl (hb hby at_64) rfl ((if0 _ _).trans (flt (mt (lw_lt _ _).mp hc64)).1) k) ?_
      show Go ReturnedEndW p e below s 16 2176 (Q0 Z p1 p2 p3 p4 h0 n0) (T17.setTop (mkF m 67 #[.val (.int p1), .val (.int p2), .val (.int p3), .val (.int p4), .val (.int ((p1 &&& (2147483647 : Int32)) % (1114112 : Int32))), .val (.int ch), .val (.ref b2), .val (.long (ch.toInt64 - ((p1 &&& (2147483647 : Int32)) % (1114112 : Int32)).toInt64)), .second, .unset] []))
      refine Go.step (fun _ k => XS.lload X17.here hx rfl (hb hby at_67) rfl k) ?_
      show Go ReturnedEndW p e below s 16 2176 (Q0 Z p1 p2 p3 p4 h0 n0) (T17.setTop (mkF m 69 #[.val (.int p1), .val (.int p2), .val (.int p3), .val (.int p4), .val (.int ((p1 &&& (2147483647 : Int32)) % (1114112 : Int32))), .val (.int ch), .val (.ref b2), .val (.long (ch.toInt64 - ((p1 &&& (2147483647 : Int32)) % (1114112 : Int32)).toInt64)), .second, .unset] [(.long (ch.toInt64 - ((p1 &&& (2147483647 : Int32)) % (1114112 : Int32)).toInt64))]))
      refine Go.step (X17.ldc2Long hx hown4 (mvT hZ4 (hw _ (List.mem_of_getElem? (i := 47) rfl))) (g := (mkF m 69 #[.val (.int p1), .val (.int p2), .val (.int p3), .val (.int p4), .val (.int ((p1 &&& (2147483647 : Int32)) % (1114112 : Int32))), .val (.int ch), .val (.ref b2), .val (.long (ch.toInt64 - ((p1 &&& (2147483647 : Int32)) % (1114112 : Int32)).toInt64)), .second, .unset] [(.long (ch.toInt64 - ((p1 &&& (2147483647 : Int32)) % (1114112 : Int32)).toInt64))])) rfl (hb hby at_69)) ?_
      show Go ReturnedEndW p e below s 16 2176 (Q0 Z p1 p2 p3 p4 h0 n0) (T17.setTop (mkF m 72 #[.val (.int p1), .val (.int p2), .val (.int p3), .val (.int p4), .val (.int ((p1 &&& (2147483647 : Int32)) % (1114112 : Int32))), .val (.int ch), .val (.ref b2), .val (.long (ch.toInt64 - ((p1 &&& (2147483647 : Int32)) % (1114112 : Int32)).toInt64)), .second, .unset] [(.long (9 : Int64)), (.long (ch.toInt64 - ((p1 &&& (2147483647 : Int32)) % (1114112 : Int32)).toInt64))]))
      refine Go.step (fun _ k => XS.lcmp X17.here hx rfl (hb hby at_72) rfl k) ?_
      show Go ReturnedEndW p e below s 16 2176 (Q0 Z p1 p2 p3 p4 h0 n0) (T17.setTop (mkF m 73 #[.val (.int p1), .val (.int p2), .val (.int p3), .val (.int p4), .val (.int ((p1 &&& (2147483647 : Int32)) % (1114112 : Int32))), .val (.int ch), .val (.ref b2), .val (.long (ch.toInt64 - ((p1 &&& (2147483647 : Int32)) % (1114112 : Int32)).toInt64)), .second, .unset] [(.int (lcmpW (ch.toInt64 - ((p1 &&& (2147483647 : Int32)) % (1114112 : Int32)).toInt64) (9 : Int64)))]))
      by_cases hc73 : (9 : Int64) < (ch.toInt64 - ((p1 &&& (2147483647 : Int32)) % (1114112 : Int32)).toInt64)
      · skip
        refine Go.step (fun _ k => XS.ifYes X17.here hx rfl (pc0 := 73) (pc' := 80) rfl (hb hby at_73) rfl ((if0 _ _).trans (tlt ((lw_gt _ _).mpr hc73)).2.2.1) (by decide) (by decide) k) ?_
        show Go ReturnedEndW p e below s 16 2176 (Q0 Z p1 p2 p3 p4 h0 n0) (T17.setTop (mkF m 80 #[.val (.int p1), .val (.int p2), .val (.int p3), .val (.int p4), .val (.int ((p1 &&& (2147483647 : Int32)) % (1114112 : Int32))), .val (.int ch), .val (.ref b2), .val (.long (ch.toInt64 - ((p1 &&& (2147483647 : Int32)) % (1114112 : Int32)).toInt64)), .second, .unset] []))
        refine Go.step (fun _ k => XS.iconst X17.here hx rfl (hb hby at_80) k) ?_
        exact J81_18  _ ((own_dig _ _ (own_zero p1)).2.1 hc64 hc73)
      · skip
        refine Go.step (fun _ k => XS.ifNo X17.here hx rfl (hb hby at_73) rfl ((if0 _ _).trans (flt (mt (lw_gt _ _).mp hc73)).2.2.1) k) ?_
        show Go ReturnedEndW p e below s 16 2176 (Q0 Z p1 p2 p3 p4 h0 n0) (T17.setTop (mkF m 76 #[.val (.int p1), .val (.int p2), .val (.int p3), .val (.int p4), .val (.int ((p1 &&& (2147483647 : Int32)) % (1114112 : Int32))), .val (.int ch), .val (.ref b2), .val (.long (ch.toInt64 - ((p1 &&& (2147483647 : Int32)) % (1114112 : Int32)).toInt64)), .second, .unset] []))
        refine Go.step (fun _ k => XS.iconst X17.here hx rfl (hb hby at_76) k) ?_
        show Go ReturnedEndW p e below s 16 2176 (Q0 Z p1 p2 p3 p4 h0 n0) (T17.setTop (mkF m 77 #[.val (.int p1), .val (.int p2), .val (.int p3), .val (.int p4), .val (.int ((p1 &&& (2147483647 : Int32)) % (1114112 : Int32))), .val (.int ch), .val (.ref b2), .val (.long (ch.toInt64 - ((p1 &&& (2147483647 : Int32)) % (1114112 : Int32)).toInt64)), .second, .unset] [(.int (1 : Int32))]))
        refine Go.step (fun _ k => XS.goto X17.here hx rfl (pc0 := 77) (pc' := 81) rfl (hb hby at_77) (by decide) (by decide) k) ?_
        exact J81_18  _ ((own_dig _ _ (own_zero p1)).2.2 hc64 hc73)
  by_cases hc12 : (p4 &&& (1 : Int32)) = (0 : Int32)
  · skip
    refine Go.step (fun _ k => XS.ifYes X0.here hx rfl (pc0 := 12) (pc' := 25) rfl (hb hby at_12) rfl ((if0 _ _).trans (teq hc12).1) (by decide) (by decide) k) ?_
    show Go ReturnedEndW p e below s 16 2176 (Q0 Z p1 p2 p3 p4 h0 n0) (s₁.setTop (mkF m 25 #[.val (.int p1), .val (.int p2), .val (.int p3), .val (.int p4), .val (.int ((p1 &&& (2147483647 : Int32)) % (1114112 : Int32))), .unset, .unset, .unset, .unset, .unset] []))
    refine Go.step (fun _ k => XS.iloadN X0.here hx rfl (hb hby at_25) rfl k) ?_
    exact J26_1  p2
  · skip
    refine Go.step (fun _ k => XS.ifNo X0.here hx rfl (hb hby at_12) rfl ((if0 _ _).trans (feq hc12).1) k) ?_
    show Go ReturnedEndW p e below s 16 2176 (Q0 Z p1 p2 p3 p4 h0 n0) (s₁.setTop (mkF m 15 #[.val (.int p1), .val (.int p2), .val (.int p3), .val (.int p4), .val (.int ((p1 &&& (2147483647 : Int32)) % (1114112 : Int32))), .unset, .unset, .unset, .unset, .unset] []))
    refine Go.step (fun _ k => XS.iload X0.here hx rfl (hb hby at_15) rfl k) ?_
    show Go ReturnedEndW p e below s 16 2176 (Q0 Z p1 p2 p3 p4 h0 n0) (s₁.setTop (mkF m 17 #[.val (.int p1), .val (.int p2), .val (.int p3), .val (.int p4), .val (.int ((p1 &&& (2147483647 : Int32)) % (1114112 : Int32))), .unset, .unset, .unset, .unset, .unset] [(.int ((p1 &&& (2147483647 : Int32)) % (1114112 : Int32)))]))
    refine Go.step (fun _ k => XS.iloadN X0.here hx rfl (hb hby at_17) rfl k) ?_
    show Go ReturnedEndW p e below s 16 2176 (Q0 Z p1 p2 p3 p4 h0 n0) (s₁.setTop (mkF m 18 #[.val (.int p1), .val (.int p2), .val (.int p3), .val (.int p4), .val (.int ((p1 &&& (2147483647 : Int32)) % (1114112 : Int32))), .unset, .unset, .unset, .unset, .unset] [(.int p2), (.int ((p1 &&& (2147483647 : Int32)) % (1114112 : Int32)))]))
    refine Go.step (fun _ k => XS.bipush X0.here hx rfl (hb hby at_18) k) ?_
    show Go ReturnedEndW p e below s 16 2176 (Q0 Z p1 p2 p3 p4 h0 n0) (s₁.setTop (mkF m 20 #[.val (.int p1), .val (.int p2), .val (.int p3), .val (.int p4), .val (.int ((p1 &&& (2147483647 : Int32)) % (1114112 : Int32))), .unset, .unset, .unset, .unset, .unset] [(.int (16 : Int32)), (.int p2), (.int ((p1 &&& (2147483647 : Int32)) % (1114112 : Int32)))]))
    refine Go.step (fun _ k => iremM X0 hx rfl (hb hby at_20) rfl (by decide) k) ?_
    show Go ReturnedEndW p e below s 16 2176 (Q0 Z p1 p2 p3 p4 h0 n0) (s₁.setTop (mkF m 21 #[.val (.int p1), .val (.int p2), .val (.int p3), .val (.int p4), .val (.int ((p1 &&& (2147483647 : Int32)) % (1114112 : Int32))), .unset, .unset, .unset, .unset, .unset] [(.int (p2 % (16 : Int32))), (.int ((p1 &&& (2147483647 : Int32)) % (1114112 : Int32)))]))
    refine Go.step (fun _ k => XS.iadd X0.here hx rfl (hb hby at_21) rfl k) ?_
    show Go ReturnedEndW p e below s 16 2176 (Q0 Z p1 p2 p3 p4 h0 n0) (s₁.setTop (mkF m 22 #[.val (.int p1), .val (.int p2), .val (.int p3), .val (.int p4), .val (.int ((p1 &&& (2147483647 : Int32)) % (1114112 : Int32))), .unset, .unset, .unset, .unset, .unset] [(.int (((p1 &&& (2147483647 : Int32)) % (1114112 : Int32)) + (p2 % (16 : Int32))))]))
    refine Go.step (fun _ k => XS.goto X0.here hx rfl (pc0 := 22) (pc' := 26) rfl (hb hby at_22) (by decide) (by decide) k) ?_
    exact J26_1  (((p1 &&& (2147483647 : Int32)) % (1114112 : Int32)) + (p2 % (16 : Int32)))
set_option maxRecDepth 65536 in
set_option maxHeartbeats 40000000 in
theorem comes_1 {Post : Tables → Env → Array Value → State → Outcome → State → Prop} (hpost : ∀ tb e args s v u, (limb_1_1.after args s (.returned v) u = true ∧ limb_1_2.after args s (.returned v) u = true ∧ True) → ReturnedEndW s (.returned v) u (Jvm.fieldLocs frame_1_writes args s ++ Jvm.arrayLocs frame_1_arrays args s ++ Jvm.staticLocs frame_1_statics s) 16 2176 → Post tb e args s (.returned v) u) :
    ArmFor flags0 classFile x code maxLocals ret World_1 tables_1 room_1 Calls_1 rest_1 Pre_1 Post := by
  intro l hfl _ _ p e ha hc hk s m args below hf hA hF happ hP
  obtain ⟨hcalls, hrest, hpre⟩ := hP
  obtain ⟨-, -, -, hnamed, -, -, -, hat⟩ := (Spec.applies_iff hf).mp happ
  obtain ⟨hg, hn⟩ := and_e (Cond.before_iff.mp (show (Jvm.Cond.and given_1 narrow_1).before args s = true from hpre))
  obtain ⟨h1, h2⟩ := and_e hg
  obtain ⟨w0, w1, w2, w3, rfl⟩ : ∃ w0 w1 w2 w3 : Value, args = #[w0, w1, w2, w3] := by
    have hs : args.size = 4 := by simpa [Cond.value, given_1] using h1
    obtain ⟨L⟩ := args
    match L, hs with
    | [w0, w1, w2, w3], _ => exact ⟨w0, w1, w2, w3, rfl⟩
  have hw := fun d (hd : d ∈ tables_1) => atoms_spec (ws := Jvm.Cond.code x code maxLocals ret :: tables_1) hat d (List.mem_cons_of_mem _ hd)
  have hfit : Fit s := fun {y c} hc i hi => by
    obtain ⟨ha, rfl⟩ := Array.getElem?_eq_some_iff.mp hc
    have q := List.all_eq_true.mp ((Array.all_eq_true_iff_forall_mem.mp hF) _ (Array.getElem_mem ha)) i (List.mem_range.mpr hi)
    simpa [Array.getElem?_eq_getElem hi] using q
  obtain ⟨c0, r0⟩ := and_e h2
  obtain ⟨i0, q0⟩ := is_v c0
  obtain rfl : w0 = (.int i0) := Option.some.inj q0
  obtain ⟨c1, r1⟩ := and_e r0
  obtain ⟨i1, q1⟩ := is_v c1
  obtain rfl : w1 = (.int i1) := Option.some.inj q1
  obtain ⟨c2, r2⟩ := and_e r1
  obtain ⟨i2, q2⟩ := is_v c2
  obtain rfl : w2 = (.int i2) := Option.some.inj q2
  obtain ⟨i3, q3⟩ := is_v r2
  obtain rfl : w3 = (.int i3) := Option.some.inj q3
  obtain ⟨n, o, h1, h2, h3, _, L, rfl, ⟨rfl, N⟩, hq⟩ := rm0 l s _ hw tables_1 i0 i1 i2 i3  s.heap s.heap.size (Nat.le_refl _)  p e ha hc hk s m _ below hf ((Spec.applies_iff_loose hf).mp happ).1 ⟨rfl, State.Warmed39.refl s, rfl⟩ trivial
  refine ⟨n, _, h1, h2, h3, hpost _ _ _ _ _ _ ⟨Cond.after_iff.mpr rfl, Cond.after_iff.mpr (eq_i res_at (Term.int_eval (1)) rfl), trivial⟩ ⟨hq.1, hq.2.1, hq.2.2.1, (hq.2.2.2.sift fun y hy => Or.inr (N y hy)).mono (by decide) (by decide)⟩⟩
theorem main_1_1 : Claimed_1_1 := comes_1 fun _ _ _ _ _ _ h hF => ⟨h.1, hF⟩
theorem main_1_2 : Claimed_1_2 := comes_1 fun _ _ _ _ _ _ h hF => ⟨h.2.1, hF⟩
end Jvm.Pilot.@@N@@
namespace Jvm.Pilot.@@N@@
open Jvm Jvm.ClassFile Sem Op Lib Jvm.Free Jvm.Stand Jvm.Pilot.@@N@@.Jvm.D
/-! MADE BY PROGRAM (witnessworld.py) out of the Statement's table words and the real class files: 15 classes; the members and pool entries that the words name. The judged class is class 1, her method 1. -/
namespace start1
open Jvm.ClassFile
def u (s : String) : CpInfo := .utf8 (stringToUtf16 s)
/-- a pool by its gaps: so many unusable entries, then the entry; so many at the end -/
def gap : Nat → List CpInfo → List CpInfo
  | 0, r => r
  | n + 1, r => .unusable :: gap n r
def poolList (es : List (Nat × CpInfo)) (last : Nat) : List CpInfo := es.foldr (fun e r => gap e.1 (e.2 :: r)) (gap last [])
def pool (es : List (Nat × CpInfo)) (last : Nat) : Array CpInfo := ⟨poolList es last⟩
def fileOf (pool : Array CpInfo) (this : Nat) (attrs : Array Attribute := #[]) (ms : Array MethodInfo := #[]) (fl : Nat := 33) (sup : Nat := 0) (ifs : Array Nat := #[]) (fds : Array FieldInfo := #[]) : ClassFile where
  minorVersion := 0
  majorVersion := 65
  constantPool := pool
  accessFlags := fl
  thisClass := this
  superClass := sup
  interfaces := ifs
  fields := fds
  methods := ms
  attributes := attrs
def plain (name : String) (sup : Option ClassId) : Class where
  name := name
  kind := .ordinary
  loader := none
  accessFlags := 33
  super := sup
  interfaces := #[]
  cf := none
  fields := #[]
  methods := #[]
  instanceTypes := #[]
  staticTypes := #[]
  resolved := #[]
  callSites := []
  init := .initialized
  statics := none
  mirror := none

def pool0 : Array CpInfo := pool [(5, u "<init>"), (0, u "()V"), (1, .class_ 10), (1, u "java/lang/Object")] 113

def k0c0 : Code := { maxStack := 0, maxLocals := 1, code := object_method_1_code, exceptionTable := #[], attributes := #[] }
def k0m0 : Method := { name := "<init>", desc := "()V", sig := { parameters := [], returnType := none }, accessFlags := 1, code := some k0c0 }
/-- java/lang/Object -/
def k0 : Class := { plain "java/lang/Object" none with
  accessFlags := 33
  interfaces := #[]
  cf := some (fileOf pool0 8 #[] #[{ accessFlags := 1, nameIndex := 5, descriptorIndex := 6, attributes := #[] }] 33 0 #[] #[])
  fields := #[]
  methods := #[k0m0]
  instanceTypes := #[]
  staticTypes := #[]
  resolved := Array.replicate 124 none
  statics := none }

def pool1 : Array CpInfo := pool [(2, .class_ 4), (1, u "java/lang/Object"), (0, u "<init>"), (0, u "()V"), (0, .integer 2147483647), (0, .integer 1114112), (0, .class_ 10), (0, u "com/example/loomward/loomward/xpath/DecimalFormat"), (0, .string 12), (0, u "Infinity"), (0, .string 14), (0, u "NaN"), (0, .methodref 9 16), (0, .nameAndType 5 17), (0, u "(IIIIIIIILjava/lang/String;Ljava/lang/String;I)V"), (0, .long 9), (1, .methodref 9 21), (0, .nameAndType 22 23), (0, u "isDigit"), (0, u "(I)Z"), (0, .class_ 25), (0, u "com/example/loomward/loomward/xpath/DecimalFormatIsDigitPinLaw"), (2, u "law"), (0, u "(IIII)Z")] 3

def k1m0 : Method := { name := "<init>", desc := "()V", sig := { parameters := [], returnType := none }, accessFlags := 1, code := none }
def k1c1 : Code := { maxStack := 13, maxLocals := 10, code := code, exceptionTable := #[], attributes := #[] }
def k1m1 : Method := { name := "law", desc := "(IIII)Z", sig := { parameters := [.int, .int, .int, .int], returnType := some .boolean }, accessFlags := 9, code := some k1c1 }
/-- com/example/loomward/loomward/xpath/DecimalFormatIsDigitPinLaw -/
def k1 : Class := { plain "com/example/loomward/loomward/xpath/DecimalFormatIsDigitPinLaw" (some 0) with
  accessFlags := 49
  interfaces := #[]
  cf := some (fileOf pool1 24 #[] #[{ accessFlags := 1, nameIndex := 5, descriptorIndex := 6, attributes := #[] }, { accessFlags := 9, nameIndex := 28, descriptorIndex := 29, attributes := #[] }] 49 2 #[] #[])
  fields := #[]
  methods := #[k1m0, k1m1]
  instanceTypes := #[]
  staticTypes := #[]
  resolved := Array.replicate 33 none
  statics := none }

def pool2 : Array CpInfo := pool [(1, .methodref 2 3), (0, .class_ 4), (0, .nameAndType 5 6), (0, u "java/lang/Object"), (0, u "<init>"), (0, u "()V"), (0, .class_ 8), (0, u "java/lang/Record")] 13

def k2c0 : Code := { maxStack := 1, maxLocals := 1, code := jdk_30_method_1_code, exceptionTable := #[], attributes := #[] }
def k2m0 : Method := { name := "<init>", desc := "()V", sig := { parameters := [], returnType := none }, accessFlags := 4, code := some k2c0 }
/-- java/lang/Record -/
def k2 : Class := { plain "java/lang/Record" (some 0) with
  accessFlags := 1057
  interfaces := #[]
  cf := some (fileOf pool2 7 #[] #[{ accessFlags := 4, nameIndex := 5, descriptorIndex := 6, attributes := #[] }] 1057 2 #[] #[])
  fields := #[]
  methods := #[k2m0]
  instanceTypes := #[]
  staticTypes := #[]
  resolved := Array.replicate 22 none
  statics := none }

def pool3 : Array CpInfo := pool [(1, .methodref 2 3), (0, .class_ 4), (0, .nameAndType 5 6), (0, u "java/lang/Record"), (0, u "<init>"), (0, u "()V"), (0, .fieldref 8 9), (0, .class_ 10), (0, .nameAndType 11 12), (0, u "com/example/loomward/loomward/xpath/DecimalFormat"), (0, u "decimalSeparator"), (0, u "I"), (0, .fieldref 8 14), (0, .nameAndType 15 12), (0, u "exponentSeparator"), (0, .fieldref 8 17), (0, .nameAndType 18 12), (0, u "groupingSeparator"), (0, .fieldref 8 20), (0, .nameAndType 21 12), (0, u "percent"), (0, .fieldref 8 23), (0, .nameAndType 24 12), (0, u "perMille"), (0, .fieldref 8 26), (0, .nameAndType 27 12), (0, u "zeroDigit"), (0, .fieldref 8 29), (0, .nameAndType 30 12), (0, u "digit"), (0, .fieldref 8 32), (0, .nameAndType 33 12), (0, u "patternSeparator"), (0, .fieldref 8 35), (0, .nameAndType 36 37), (0, u "infinity"), (0, u "Ljava/lang/String;"), (0, .fieldref 8 39), (0, .nameAndType 40 37), (0, u "notANumber"), (0, .fieldref 8 42), (0, .nameAndType 43 12), (0, u "minusSign"), (18, u "(IIIIIIIILjava/lang/String;Ljava/lang/String;I)V"), (2, u "DEFAULT"), (0, u "Lcom/example/loomward/loomward/xpath/DecimalFormat;"), (3, u "isDigit"), (0, u "(I)Z")] 35

def k3c0 : Code := { maxStack := 2, maxLocals := 12, code := prog_57_method_1_code, exceptionTable := #[], attributes := #[] }
def k3m0 : Method := { name := "<init>", desc := "(IIIIIIIILjava/lang/String;Ljava/lang/String;I)V", sig := { parameters := [.int, .int, .int, .int, .int, .int, .int, .int, (.object "java/lang/String"), (.object "java/lang/String"), .int], returnType := none }, accessFlags := 1, code := some k3c0 }
def k3c1 : Code := { maxStack := 3, maxLocals := 2, code := prog_57_method_2_code, exceptionTable := #[], attributes := #[] }
def k3m1 : Method := { name := "isDigit", desc := "(I)Z", sig := { parameters := [.int], returnType := some .boolean }, accessFlags := 0, code := some k3c1 }
/-- com/example/loomward/loomward/xpath/DecimalFormat -/
def k3 : Class := { plain "com/example/loomward/loomward/xpath/DecimalFormat" (some 2) with
  accessFlags := 49
  interfaces := #[]
  cf := some (fileOf pool3 8 #[] #[{ accessFlags := 1, nameIndex := 5, descriptorIndex := 62, attributes := #[] }, { accessFlags := 0, nameIndex := 70, descriptorIndex := 71, attributes := #[] }] 49 2 #[] #[{ accessFlags := 18, nameIndex := 11, descriptorIndex := 12, attributes := #[] }, { accessFlags := 18, nameIndex := 15, descriptorIndex := 12, attributes := #[] }, { accessFlags := 18, nameIndex := 18, descriptorIndex := 12, attributes := #[] }, { accessFlags := 18, nameIndex := 21, descriptorIndex := 12, attributes := #[] }, { accessFlags := 18, nameIndex := 24, descriptorIndex := 12, attributes := #[] }, { accessFlags := 18, nameIndex := 27, descriptorIndex := 12, attributes := #[] }, { accessFlags := 18, nameIndex := 30, descriptorIndex := 12, attributes := #[] }, { accessFlags := 18, nameIndex := 33, descriptorIndex := 12, attributes := #[] }, { accessFlags := 18, nameIndex := 36, descriptorIndex := 37, attributes := #[] }, { accessFlags := 18, nameIndex := 40, descriptorIndex := 37, attributes := #[] }, { accessFlags := 18, nameIndex := 43, descriptorIndex := 12, attributes := #[] }, { accessFlags := 25, nameIndex := 65, descriptorIndex := 66, attributes := #[] }])
  fields := #[{ name := "decimalSeparator", type := .int, accessFlags := 18, slot := 0, constantValue := 0 }, { name := "exponentSeparator", type := .int, accessFlags := 18, slot := 1, constantValue := 0 }, { name := "groupingSeparator", type := .int, accessFlags := 18, slot := 2, constantValue := 0 }, { name := "percent", type := .int, accessFlags := 18, slot := 3, constantValue := 0 }, { name := "perMille", type := .int, accessFlags := 18, slot := 4, constantValue := 0 }, { name := "zeroDigit", type := .int, accessFlags := 18, slot := 5, constantValue := 0 }, { name := "digit", type := .int, accessFlags := 18, slot := 6, constantValue := 0 }, { name := "patternSeparator", type := .int, accessFlags := 18, slot := 7, constantValue := 0 }, { name := "infinity", type := (.object "java/lang/String"), accessFlags := 18, slot := 8, constantValue := 0 }, { name := "notANumber", type := (.object "java/lang/String"), accessFlags := 18, slot := 9, constantValue := 0 }, { name := "minusSign", type := .int, accessFlags := 18, slot := 10, constantValue := 0 }, { name := "DEFAULT", type := (.object "com/example/loomward/loomward/xpath/DecimalFormat"), accessFlags := 25, slot := 0, constantValue := 0 }]
  methods := #[k3m0, k3m1]
  instanceTypes := #[.int, .int, .int, .int, .int, .int, .int, .int, (.object "java/lang/String"), (.object "java/lang/String"), .int]
  staticTypes := #[(.object "com/example/loomward/loomward/xpath/DecimalFormat")]
  resolved := Array.replicate 107 none
  statics := none }

def pool4 : Array CpInfo := pool [(1, .class_ 2), (0, u "java/io/Serializable"), (0, .class_ 4), (0, u "java/lang/Object")] 2

/-- java/io/Serializable -/
def k4 : Class := { plain "java/io/Serializable" (some 0) with
  accessFlags := 1537
  interfaces := #[]
  cf := some (fileOf pool4 1 #[] #[] 1537 3 #[] #[])
  fields := #[]
  methods := #[]
  instanceTypes := #[]
  staticTypes := #[]
  resolved := Array.replicate 7 none
  statics := none }

def pool5 : Array CpInfo := pool [(1, .class_ 2), (0, u "java/lang/Comparable"), (0, .class_ 4), (0, u "java/lang/Object")] 7

/-- java/lang/Comparable -/
def k5 : Class := { plain "java/lang/Comparable" (some 0) with
  accessFlags := 1537
  interfaces := #[]
  cf := some (fileOf pool5 1 #[] #[] 1537 3 #[] #[])
  fields := #[]
  methods := #[]
  instanceTypes := #[]
  staticTypes := #[]
  resolved := Array.replicate 12 none
  statics := none }

def pool6 : Array CpInfo := pool [(2, .class_ 4), (1, u "java/lang/CharSequence"), (42, .class_ 48), (0, u "java/lang/CharSequence$1CodePointIterator"), (10, .class_ 60), (0, u "java/lang/CharSequence$1CharIterator"), (5, .class_ 67), (0, u "java/lang/Object")] 63

/-- java/lang/CharSequence -/
def k6 : Class := { plain "java/lang/CharSequence" (some 0) with
  accessFlags := 1537
  interfaces := #[]
  cf := some (fileOf pool6 2 #[.nestMembers #[47, 59]] #[] 1537 66 #[] #[])
  fields := #[]
  methods := #[]
  instanceTypes := #[]
  staticTypes := #[]
  resolved := Array.replicate 131 none
  statics := none }

def pool7 : Array CpInfo := pool [(1, .class_ 2), (0, u "java/lang/constant/Constable"), (0, .class_ 4), (0, u "java/lang/Object")] 6

/-- java/lang/constant/Constable -/
def k7 : Class := { plain "java/lang/constant/Constable" (some 0) with
  accessFlags := 1537
  interfaces := #[]
  cf := some (fileOf pool7 1 #[] #[] 1537 3 #[] #[])
  fields := #[]
  methods := #[]
  instanceTypes := #[]
  staticTypes := #[]
  resolved := Array.replicate 11 none
  statics := none }

def pool8 : Array CpInfo := pool [(1, .class_ 2), (0, u "java/lang/constant/ConstantDesc"), (0, .class_ 4), (0, u "java/lang/Object")] 32

/-- java/lang/constant/ConstantDesc -/
def k8 : Class := { plain "java/lang/constant/ConstantDesc" (some 0) with
  accessFlags := 1537
  interfaces := #[]
  cf := some (fileOf pool8 1 #[] #[] 1537 3 #[] #[])
  fields := #[]
  methods := #[]
  instanceTypes := #[]
  staticTypes := #[]
  resolved := Array.replicate 37 none
  statics := none }

def pool9 : Array CpInfo := pool [(2, .class_ 4), (1, u "java/lang/Object"), (0, u "<init>"), (0, u "()V"), (3, .class_ 12), (1, u "java/lang/String"), (0, u "value"), (0, u "[B"), (2, u "coder"), (0, u "B"), (2, u "hash"), (0, u "I"), (2, u "hashIsZero"), (0, u "Z"), (13, u "COMPACT_STRINGS"), (534, .class_ 576), (0, u "java/lang/CharSequence"), (22, u "CASE_INSENSITIVE_ORDER"), (0, u "Ljava/util/Comparator;"), (500, u "serialPersistentFields"), (0, u "[Ljava/io/ObjectStreamField;"), (0, .class_ 1104), (0, u "java/lang/String$CaseInsensitiveComparator"), (1, .class_ 1107), (0, u "java/io/Serializable"), (0, .class_ 1109), (0, u "java/lang/Comparable"), (0, .class_ 1111), (0, u "java/lang/constant/Constable"), (0, .class_ 1113), (0, u "java/lang/constant/ConstantDesc"), (2, u "serialVersionUID"), (0, u "J"), (3, u "REPL"), (0, u "C"), (2, u "LATIN1"), (1, u "UTF16")] 323

def k9m0 : Method := { name := "<init>", desc := "()V", sig := { parameters := [], returnType := none }, accessFlags := 1, code := none }
/-- java/lang/String -/
def k9 : Class := { plain "java/lang/String" (some 0) with
  accessFlags := 49
  interfaces := #[4, 5, 6, 7, 8]
  cf := some (fileOf pool9 10 #[.nestMembers #[1103]] #[{ accessFlags := 1, nameIndex := 5, descriptorIndex := 6, attributes := #[] }] 49 2 #[1106, 1108, 575, 1110, 1112] #[{ accessFlags := 18, nameIndex := 13, descriptorIndex := 14, attributes := #[] }, { accessFlags := 18, nameIndex := 17, descriptorIndex := 18, attributes := #[] }, { accessFlags := 2, nameIndex := 21, descriptorIndex := 22, attributes := #[] }, { accessFlags := 2, nameIndex := 25, descriptorIndex := 26, attributes := #[] }, { accessFlags := 26, nameIndex := 1116, descriptorIndex := 1117, attributes := #[] }, { accessFlags := 24, nameIndex := 40, descriptorIndex := 26, attributes := #[] }, { accessFlags := 26, nameIndex := 1101, descriptorIndex := 1102, attributes := #[] }, { accessFlags := 26, nameIndex := 1121, descriptorIndex := 1122, attributes := #[] }, { accessFlags := 25, nameIndex := 599, descriptorIndex := 600, attributes := #[] }, { accessFlags := 24, nameIndex := 1125, descriptorIndex := 18, attributes := #[] }, { accessFlags := 24, nameIndex := 1127, descriptorIndex := 18, attributes := #[] }])
  fields := #[{ name := "value", type := (.array .byte), accessFlags := 18, slot := 0, constantValue := 0 }, { name := "coder", type := .byte, accessFlags := 18, slot := 1, constantValue := 0 }, { name := "hash", type := .int, accessFlags := 2, slot := 2, constantValue := 0 }, { name := "hashIsZero", type := .boolean, accessFlags := 2, slot := 3, constantValue := 0 }, { name := "serialVersionUID", type := .long, accessFlags := 26, slot := 0, constantValue := 0 }, { name := "COMPACT_STRINGS", type := .boolean, accessFlags := 24, slot := 1, constantValue := 0 }, { name := "serialPersistentFields", type := (.array (.object "java/io/ObjectStreamField")), accessFlags := 26, slot := 2, constantValue := 0 }, { name := "REPL", type := .char, accessFlags := 26, slot := 3, constantValue := 0 }, { name := "CASE_INSENSITIVE_ORDER", type := (.object "java/util/Comparator"), accessFlags := 25, slot := 4, constantValue := 0 }, { name := "LATIN1", type := .byte, accessFlags := 24, slot := 5, constantValue := 0 }, { name := "UTF16", type := .byte, accessFlags := 24, slot := 6, constantValue := 0 }]
  methods := #[k9m0]
  instanceTypes := #[(.array .byte), .byte, .int, .boolean]
  staticTypes := #[.long, .boolean, (.array (.object "java/io/ObjectStreamField")), .char, (.object "java/util/Comparator"), .byte, .byte]
  resolved := Array.replicate 1451 none
  statics := none }

def pool10 : Array CpInfo := pool [(1, u "java/lang/Cloneable"), (0, .class_ 1), (0, u "java/lang/Object"), (0, .class_ 3)] 3

/-- java/lang/Cloneable -/
def k10 : Class := { plain "java/lang/Cloneable" (some 0) with
  accessFlags := 1537
  interfaces := #[]
  cf := some (fileOf pool10 2 #[] #[] 1537 4 #[] #[])
  fields := #[]
  methods := #[]
  instanceTypes := #[]
  staticTypes := #[]
  resolved := Array.replicate 8 none
  statics := none }

/-- the primitive byte -/
def k11 : Class := { plain "byte" none with kind := .primitive 'B', accessFlags := 0x411 }
/-- [B -/
def k12 : Class := { plain "[B" (some 0) with kind := .array 11 .byte, interfaces := #[10, 4], accessFlags := 1041 }

/-- the primitive int -/
def k13 : Class := { plain "int" none with kind := .primitive 'I', accessFlags := 0x411 }
/-- [I -/
def k14 : Class := { plain "[I" (some 0) with kind := .array 13 .int, interfaces := #[10, 4], accessFlags := 1041 }

def heap : Heap := #[]
def classes : Array Class := #[k0, k1, k2, k3, k4, k5, k6, k7, k8, k9, k10, k11, k12, k13, k14]
def interned : List (Array UInt16 × Addr) := []
def slotsUsed : Nat := 0
def theMethod : MethodId := ⟨1, 1⟩
def args0 : Array Value := #[.int 5, .int 6, .int 7, .int 3]
def aboutOver (below : List Frame) : State where
  vm := { classes := classes, interned := interned.toArray }
  heap := heap
  slotsUsed := slotsUsed
  threads := #[{ frames := .invoking theMethod args0 :: below }]
def below0 : List Frame := [.native { method := ⟨0, 0⟩, args := #[] }]
def about1 : State := aboutOver below0
def p0 : Program := .bare "" "" ""
def e0 : Env := launch0.env 0 0 0
theorem w_frames : about1.frames = Frame.invoking theMethod args0 :: below0 := rfl
set_option maxRecDepth 65536 in
theorem w_args : argsFit about1.vm theMethod args0 = true := by decide +kernel
set_option maxRecDepth 65536 in
theorem w_heap : heapFits about1 = true := by decide +kernel
set_option maxRecDepth 65536 in
theorem w_runnable : about1.curStatus? = some .runnable := by decide +kernel
set_option maxRecDepth 65536 in
theorem w_alone : about1.alone = true := by decide +kernel
set_option maxRecDepth 65536 in
theorem w_named : about1.methodNamed? x = some theMethod := by decide +kernel
set_option maxRecDepth 65536 in
theorem w_hears : about1.hears theMethod below0 = true := by decide +kernel
set_option maxRecDepth 65536 in
theorem w_ripe : about1.ripe theMethod args0 below0 = true := by decide +kernel
theorem w_running : about1.status = .running := rfl
set_option maxRecDepth 65536 in
theorem w_room : about1.hasRoom e0.platform room_1 = true :=
  launch0.hasRoom_least _ room_1 (by decide +kernel) (by decide +kernel) (by decide +kernel) (by decide +kernel) (by decide +kernel) (by decide +kernel)
theorem allAtoms_all (ts : List Jvm.Cond) (a : Array Jvm.Value) (st : Jvm.State) : (allAtoms ts).before a st = ts.all (fun c => c.before a st) := by
  induction ts with
  | nil => rfl
  | cons c t ih =>
    show (Jvm.Cond.and c (allAtoms t)).before a st = _
    rw [Jvm.Cond.before_and, ih, List.all_cons]
def words1 : List Jvm.Cond := Jvm.Cond.code x code maxLocals ret :: tables_1
/-- a 'code' word, met by the world's own term for the bytes: nothing is compared byte by byte -/
theorem code_word {y : MethodName} {bytes : ByteArray} {mx : Nat} {rt : Option FieldType} {a : Array Value} {s : State} {m : MethodId} {meth : Method} {c : Code} (h1 : s.methodNamed? y = some m) (h2 : s.vm.method? m = some meth) (h3 : meth.code = some c) (h4 : c.code = bytes)
    (h5 : (c.maxLocals == mx && c.exceptionTable.isEmpty && decide (c.maxStack ≤ mostOperands) && decide (meth.sig.returnType = rt) && !meth.locks && decide (parseMethodDescriptor y.desc = some meth.sig)) = true) : (Jvm.Cond.code y bytes mx rt).before a s = true := by
  simp only [Bool.and_eq_true, beq_iff_eq, Bool.not_eq_true', decide_eq_true_eq] at h5
  obtain ⟨⟨⟨⟨⟨g1, g2⟩, g3⟩, g4⟩, g5⟩, g6⟩ := h5
  simp [Cond.before, Cond.holds, Cond.value, h1, h2, h3, h4, g1, g2, g3, g4, g5, g6]
def isCode : Jvm.Cond → Bool
  | .code _ _ _ _ => true
  | _ => false
theorem all_split {L : List Jvm.Cond} {P : Jvm.Cond → Bool} (h1 : L.all (fun c => isCode c || P c) = true) (h2 : ∀ c ∈ L.filter isCode, P c = true) : L.all P = true := by
  refine List.all_eq_true.mpr fun c hc => ?_
  have h := List.all_eq_true.mp h1 c hc
  rcases Bool.eq_false_or_eq_true (isCode c) with hi | hi
  · exact h2 c (List.mem_filter.mpr ⟨hc, hi⟩)
  · simpa [hi] using h
set_option maxRecDepth 65536 in
theorem w_c0 : (Jvm.Cond.code x code maxLocals ret).before args0 about1 = true := code_word (m := ⟨1, 1⟩) (meth := k1m1) (c := k1c1) (by decide +kernel) rfl rfl rfl (by decide +kernel)
set_option maxRecDepth 65536 in
theorem w_c1 : (Jvm.Cond.code ({ cls := "com/example/loomward/loomward/xpath/DecimalFormat", name := "<init>", desc := "(IIIIIIIILjava/lang/String;Ljava/lang/String;I)V" } : Jvm.MethodName) prog_57_method_1_code (12 : Nat) (Option.none : Option Jvm.ClassFile.FieldType)).before args0 about1 = true := code_word (m := ⟨3, 0⟩) (meth := k3m0) (c := k3c0) (by decide +kernel) rfl rfl rfl (by decide +kernel)
set_option maxRecDepth 65536 in
theorem w_c2 : (Jvm.Cond.code ({ cls := "java/lang/Record", name := "<init>", desc := "()V" } : Jvm.MethodName) jdk_30_method_1_code (1 : Nat) (Option.none : Option Jvm.ClassFile.FieldType)).before args0 about1 = true := code_word (m := ⟨2, 0⟩) (meth := k2m0) (c := k2c0) (by decide +kernel) rfl rfl rfl (by decide +kernel)
set_option maxRecDepth 65536 in
theorem w_c3 : (Jvm.Cond.code ({ cls := "java/lang/Object", name := "<init>", desc := "()V" } : Jvm.MethodName) object_method_1_code (1 : Nat) (Option.none : Option Jvm.ClassFile.FieldType)).before args0 about1 = true := code_word (m := ⟨0, 0⟩) (meth := k0m0) (c := k0c0) (by decide +kernel) rfl rfl rfl (by decide +kernel)
set_option maxRecDepth 65536 in
theorem w_c4 : (Jvm.Cond.code ({ cls := "com/example/loomward/loomward/xpath/DecimalFormat", name := "isDigit", desc := "(I)Z" } : Jvm.MethodName) prog_57_method_2_code (2 : Nat) (Option.some Jvm.ClassFile.FieldType.boolean)).before args0 about1 = true := code_word (m := ⟨3, 1⟩) (meth := k3m1) (c := k3c1) (by decide +kernel) rfl rfl rfl (by decide +kernel)
def codes1 : List Jvm.Cond := [Jvm.Cond.code x code maxLocals ret, Jvm.Cond.code ({ cls := "com/example/loomward/loomward/xpath/DecimalFormat", name := "<init>", desc := "(IIIIIIIILjava/lang/String;Ljava/lang/String;I)V" } : Jvm.MethodName) prog_57_method_1_code (12 : Nat) (Option.none : Option Jvm.ClassFile.FieldType), Jvm.Cond.code ({ cls := "java/lang/Record", name := "<init>", desc := "()V" } : Jvm.MethodName) jdk_30_method_1_code (1 : Nat) (Option.none : Option Jvm.ClassFile.FieldType), Jvm.Cond.code ({ cls := "java/lang/Object", name := "<init>", desc := "()V" } : Jvm.MethodName) object_method_1_code (1 : Nat) (Option.none : Option Jvm.ClassFile.FieldType), Jvm.Cond.code ({ cls := "com/example/loomward/loomward/xpath/DecimalFormat", name := "isDigit", desc := "(I)Z" } : Jvm.MethodName) prog_57_method_2_code (2 : Nat) (Option.some Jvm.ClassFile.FieldType.boolean)]
set_option maxRecDepth 65536 in
theorem codes_eq : words1.filter isCode = codes1 := rfl
theorem w_codes : ∀ c ∈ words1.filter isCode, c.before args0 about1 = true := by
  rw [codes_eq]
  intro c hc
  simp only [codes1, List.mem_cons, List.not_mem_nil, or_false] at hc
  rcases hc with rfl | rfl | rfl | rfl | rfl
  · exact w_c0
  · exact w_c1
  · exact w_c2
  · exact w_c3
  · exact w_c4
set_option maxRecDepth 65536 in
theorem w_t1 : (words1.take 24).all (fun c => isCode c || c.before args0 about1) = true := by decide +kernel
set_option maxRecDepth 65536 in
theorem w_t2 : ((words1.drop 24).take 24).all (fun c => isCode c || c.before args0 about1) = true := by decide +kernel
set_option maxRecDepth 65536 in
theorem w_t3 : ((words1.drop 24).drop 24).all (fun c => isCode c || c.before args0 about1) = true := by decide +kernel
theorem w_tables : (allAtoms (Jvm.Cond.code x code maxLocals ret :: tables_1)).before args0 about1 = true := by
  rw [allAtoms_all]
  show words1.all (fun c => c.before args0 about1) = true
  refine all_split ?_ w_codes
  rw [← List.take_append_drop 24 words1, List.all_append, w_t1, ← List.take_append_drop 24 (words1.drop 24), List.all_append, w_t2, w_t3]
  rfl
set_option maxRecDepth 65536 in
theorem w_case : (Jvm.Cond.and given_1 narrow_1).before args0 about1 = true := by decide +kernel
theorem w_applies : (headSpec (Jvm.Cond.code x code maxLocals ret :: tables_1) room_1).applies x e0.platform about1 = true :=
  (Spec.applies_iff w_frames).mpr ⟨w_running, w_runnable, w_alone, w_named, w_hears, w_ripe, w_room, w_tables⟩
theorem atStart : AtStart classFile x code maxLocals ret World_1 tables_1 room_1 Calls_1 rest_1 Pre_1 launch0 p0 e0 about1 theMethod args0 below0 :=
  ⟨lists_1, trivial, launch0.admits_env _ _ _, launch0.least_env, fairChoices_fair.cas, fairChoices_fair.clock, w_frames, w_args, w_heap, w_applies, trivial, trivial, w_case⟩
end start1
theorem witness_1 : WitnessClaimed_1 := ⟨start1.p0, start1.e0, start1.about1, start1.theMethod, start1.args0, start1.below0, start1.atStart⟩
end Jvm.Pilot.@@N@@
