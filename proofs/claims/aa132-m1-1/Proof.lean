import JvmDerived
import JvmDerived.Pilot.@@N@@Statement
import JvmDerived.Pilot.@@N@@Code
set_option linter.unusedVariables false
set_option linter.unusedSimpArgs false
namespace Jvm.Pilot.@@N@@
open Jvm Jvm.ClassFile Sem Op Lib Jvm.Free Jvm.Stand Jvm.LawKit Jvm.RoadKit Bundle Jvm.Pilot.@@N@@.Jvm.D
section Own
variable {p : Program} {l : Launch} {e : Env} {R : Room} {s : State} {m : MethodId} {args : Array Value} {below : List Frame} {meth : Method} {c : Code} {T : State} {locs : List Loc} {cells slots : Nat}
/-- from the state A on the run comes to a return of the body that s was about to invoke, with Q of the value, the heap and the places written -/
def Go (En : State → Outcome → State → List Loc → Nat → Nat → Prop) (p : Program) (e : Env) (below : List Frame) (s : State) (C S : Nat) (Q : Option Value → Heap → List Loc → Prop) (A : State) : Prop :=
  ∃ s₂ o, Steps p.tables e below A s₂ ∧ s₂.status = .running ∧ Ended s₂ below o ∧ ∃ v L, o = .returned v ∧ Q v s₂.heap L ∧ En s o s₂ L C S
variable {En : State → Outcome → State → List Loc → Nat → Nat → Prop} {C S : Nat} {Q : Option Value → Heap → List Loc → Prop} {A B : State} {h : Heap}
theorem Go.step (h : ∀ t, Steps p.tables e below B t → Steps p.tables e below A t) (g : Go En p e below s C S Q B) : Go En p e below s C S Q A := by
  obtain ⟨s₂, o, h1, r⟩ := g
  exact ⟨s₂, o, h _ h1, r⟩
theorem Go.hop (h : Steps p.tables e below A B) (g : Go En p e below s C S Q B) : Go En p e below s C S Q A := Go.step (fun _ k => h.trans k) g
theorem Go.out (X : Stand p l e R s m args below meth c T locs cells slots) {v : Option Value} (hv : meth.sig.returnType = none → v = none) (hl : meth.locks = false) (eT : T.heap = h) (hc : cells ≤ C) (hs : slots ≤ S) (q : Q v h locs)
    (st : ∀ fs, (∀ (f : JFrame) (acts : List Action), f.method = m → f.locked = none → f.entered = [] → (doReturn e (T.setTop f) acts v).1 = T.setFrames fs) → Steps p.tables e below A (T.setFrames fs)) : Go FrameEnd p e below s C S Q A := by
  obtain ⟨fs, hr, hrun, hended, hW, hsame⟩ := X.leave (v := v) hv hl
  refine ⟨_, _, st fs hr, hrun, hended, _, _, rfl, ?_, ⟨_, rfl⟩, hW, hsame.mono hc hs⟩
  show Q v T.heap locs
  rw [eT]
  exact q
theorem Go.retN (X : Stand p l e R s m args below meth c T locs cells slots) (hx : p.tables.exec = Jvm.exec) {pc : Nat} {Ls : Array Slot} {z : Int32} {t : FieldType} {rest : List Value} (hret : meth.sig.returnType = some t) (ht : t = .boolean ∨ t = .byte ∨ t = .char ∨ t = .short)
    (hz : nar t z = z) (hd : decode c.code pc = .ok (.ireturn, 1)) (hl : meth.locks = false) (eT : T.heap = h) (hc : cells ≤ C) (hs : slots ≤ S) (q : Q (some (.int z)) h locs) : Go FrameEnd p e below s C S Q (T.setTop (mkF m pc Ls (.int z :: rest))) :=
  Go.out X (v := some (.int z)) (fun k => by rw [hret] at k; cases k) hl eT hc hs q fun fs hr => Jvm.RoadKit.retN X hx (t := t) hret ht hd (by rw [hz]; exact hr)
theorem Go.retI (X : Stand p l e R s m args below meth c T locs cells slots) (hx : p.tables.exec = Jvm.exec) {pc : Nat} {Ls : Array Slot} {z : Int32} {rest : List Value} (hret : meth.sig.returnType = some .int)
    (hd : decode c.code pc = .ok (.ireturn, 1)) (hl : meth.locks = false) (eT : T.heap = h) (hc : cells ≤ C) (hs : slots ≤ S) (q : Q (some (.int z)) h locs) : Go FrameEnd p e below s C S Q (T.setTop (mkF m pc Ls (.int z :: rest))) :=
  Go.out X (v := some (.int z)) (fun k => by rw [hret] at k; cases k) hl eT hc hs q fun fs hr => retOut X hx hret rfl (Or.inl ⟨rfl, Or.inl rfl, z, rfl⟩) hd hr
theorem Go.retJ (X : Stand p l e R s m args below meth c T locs cells slots) (hx : p.tables.exec = Jvm.exec) {pc : Nat} {Ls : Array Slot} {z : Int64} {rest : List Value} (hret : meth.sig.returnType = some .long)
    (hd : decode c.code pc = .ok (.lreturn, 1)) (hl : meth.locks = false) (eT : T.heap = h) (hc : cells ≤ C) (hs : slots ≤ S) (q : Q (some (.long z)) h locs) : Go FrameEnd p e below s C S Q (T.setTop (mkF m pc Ls (.long z :: rest))) :=
  Go.out X (v := some (.long z)) (fun k => by rw [hret] at k; cases k) hl eT hc hs q fun fs hr => retOut X hx hret rfl (Or.inr (Or.inl ⟨rfl, rfl, z, rfl⟩)) hd hr
theorem own_narR {t : FieldType} {v : Value} (hv : v.isRef = true) : narrow t v = v := by cases v <;> first | (cases hv; done) | (cases t <;> rfl)
theorem Go.retR (X : Stand p l e R s m args below meth c T locs cells slots) (hx : p.tables.exec = Jvm.exec) {pc : Nat} {Ls : Array Slot} {v : Value} {t : FieldType} {rest : List Value} (hret : meth.sig.returnType = some t) (ht : t.isReference = true) (hv : v.isRef = true)
    (hd : decode c.code pc = .ok (.areturn, 1)) (hl : meth.locks = false) (eT : T.heap = h) (hc : cells ≤ C) (hs : slots ≤ S) (q : Q (some v) h locs) : Go FrameEnd p e below s C S Q (T.setTop (mkF m pc Ls (v :: rest))) :=
  Go.out X (v := some v) (fun k => by rw [hret] at k; cases k) hl eT hc hs q fun fs hr => retOut X hx hret (own_narR hv) (Or.inr (Or.inr (Or.inr (Or.inr ⟨rfl, ht, hv⟩)))) hd hr
theorem Go.ret0 (X : Stand p l e R s m args below meth c T locs cells slots) (hx : p.tables.exec = Jvm.exec) {pc : Nat} {Ls : Array Slot} (hret : meth.sig.returnType = none)
    (hd : decode c.code pc = .ok (.return_, 1)) (hl : meth.locks = false) (eT : T.heap = h) (hc : cells ≤ C) (hs : slots ≤ S) (q : Q none h locs) : Go FrameEnd p e below s C S Q (T.setTop (mkF m pc Ls [])) :=
  Go.out X (v := none) (fun _ => rfl) hl eT hc hs q fun fs hr => X.returnOut hx hret hd hr
theorem Go.outW {vm0 : Vm} {k0 : Nat} (X : Stand p l e R (s.setVm vm0) m args below meth c T locs cells slots) (hS : s.Since vm0 k0) (hk : k0 ≤ h.size) {v : Option Value} (hv : meth.sig.returnType = none → v = none) (hl : meth.locks = false) (eT : T.heap = h) (hc : cells ≤ C) (hs : slots ≤ S) (q : Q v h locs)
    (st : ∀ fs, (∀ (f : JFrame) (acts : List Action), f.method = m → f.locked = none → f.entered = [] → (doReturn e (T.setTop f) acts v).1 = T.setFrames fs) → Steps p.tables e below A (T.setFrames fs)) : Go ReturnedEndW p e below s C S Q A := by
  obtain ⟨fs, hr, hrun, hended, hq1, hq2, hq3, hq4⟩ := X.leaveW hS (by rw [eT]; exact hk) (v := v) hv hl
  refine ⟨_, _, st fs hr, hrun, hended, _, _, rfl, ?_, hq1, hq2, hq3, hq4.mono hc hs⟩
  show Q v T.heap locs
  rw [eT]
  exact q
theorem Go.retNW {vm0 : Vm} {k0 : Nat} (X : Stand p l e R (s.setVm vm0) m args below meth c T locs cells slots) (hS : s.Since vm0 k0) (hk : k0 ≤ h.size) (hx : p.tables.exec = Jvm.exec) {pc : Nat} {Ls : Array Slot} {z : Int32} {t : FieldType} {rest : List Value} (hret : meth.sig.returnType = some t) (ht : t = .boolean ∨ t = .byte ∨ t = .char ∨ t = .short)
    (hz : nar t z = z) (hd : decode c.code pc = .ok (.ireturn, 1)) (hl : meth.locks = false) (eT : T.heap = h) (hc : cells ≤ C) (hs : slots ≤ S) (q : Q (some (.int z)) h locs) : Go ReturnedEndW p e below s C S Q (T.setTop (mkF m pc Ls (.int z :: rest))) :=
  Go.outW X hS hk (v := some (.int z)) (fun k => by rw [hret] at k; cases k) hl eT hc hs q fun fs hr => Jvm.RoadKit.retN X hx (t := t) hret ht hd (by rw [hz]; exact hr)
theorem Go.retIW {vm0 : Vm} {k0 : Nat} (X : Stand p l e R (s.setVm vm0) m args below meth c T locs cells slots) (hS : s.Since vm0 k0) (hk : k0 ≤ h.size) (hx : p.tables.exec = Jvm.exec) {pc : Nat} {Ls : Array Slot} {z : Int32} {rest : List Value} (hret : meth.sig.returnType = some .int)
    (hd : decode c.code pc = .ok (.ireturn, 1)) (hl : meth.locks = false) (eT : T.heap = h) (hc : cells ≤ C) (hs : slots ≤ S) (q : Q (some (.int z)) h locs) : Go ReturnedEndW p e below s C S Q (T.setTop (mkF m pc Ls (.int z :: rest))) :=
  Go.outW X hS hk (v := some (.int z)) (fun k => by rw [hret] at k; cases k) hl eT hc hs q fun fs hr => retOut X hx hret rfl (Or.inl ⟨rfl, Or.inl rfl, z, rfl⟩) hd hr
theorem Go.retJW {vm0 : Vm} {k0 : Nat} (X : Stand p l e R (s.setVm vm0) m args below meth c T locs cells slots) (hS : s.Since vm0 k0) (hk : k0 ≤ h.size) (hx : p.tables.exec = Jvm.exec) {pc : Nat} {Ls : Array Slot} {z : Int64} {rest : List Value} (hret : meth.sig.returnType = some .long)
    (hd : decode c.code pc = .ok (.lreturn, 1)) (hl : meth.locks = false) (eT : T.heap = h) (hc : cells ≤ C) (hs : slots ≤ S) (q : Q (some (.long z)) h locs) : Go ReturnedEndW p e below s C S Q (T.setTop (mkF m pc Ls (.long z :: rest))) :=
  Go.outW X hS hk (v := some (.long z)) (fun k => by rw [hret] at k; cases k) hl eT hc hs q fun fs hr => retOut X hx hret rfl (Or.inr (Or.inl ⟨rfl, rfl, z, rfl⟩)) hd hr
theorem Go.retRW {vm0 : Vm} {k0 : Nat} (X : Stand p l e R (s.setVm vm0) m args below meth c T locs cells slots) (hS : s.Since vm0 k0) (hk : k0 ≤ h.size) (hx : p.tables.exec = Jvm.exec) {pc : Nat} {Ls : Array Slot} {v : Value} {t : FieldType} {rest : List Value} (hret : meth.sig.returnType = some t) (ht : t.isReference = true) (hv : v.isRef = true)
    (hd : decode c.code pc = .ok (.areturn, 1)) (hl : meth.locks = false) (eT : T.heap = h) (hc : cells ≤ C) (hs : slots ≤ S) (q : Q (some v) h locs) : Go ReturnedEndW p e below s C S Q (T.setTop (mkF m pc Ls (v :: rest))) :=
  Go.outW X hS hk (v := some v) (fun k => by rw [hret] at k; cases k) hl eT hc hs q fun fs hr => retOut X hx hret (own_narR hv) (Or.inr (Or.inr (Or.inr (Or.inr ⟨rfl, ht, hv⟩)))) hd hr
theorem Go.ret0W {vm0 : Vm} {k0 : Nat} (X : Stand p l e R (s.setVm vm0) m args below meth c T locs cells slots) (hS : s.Since vm0 k0) (hk : k0 ≤ h.size) (hx : p.tables.exec = Jvm.exec) {pc : Nat} {Ls : Array Slot} (hret : meth.sig.returnType = none)
    (hd : decode c.code pc = .ok (.return_, 1)) (hl : meth.locks = false) (eT : T.heap = h) (hc : cells ≤ C) (hs : slots ≤ S) (q : Q none h locs) : Go ReturnedEndW p e below s C S Q (T.setTop (mkF m pc Ls [])) :=
  Go.outW X hS hk (v := none) (fun _ => rfl) hl eT hc hs q fun fs hr => X.returnOut hx hret hd hr
theorem own_lrem {g : JFrame} {target : State} (X : Stand p l e R s m args below meth c T locs cells slots) (hx : p.tables.exec = Jvm.exec) (hg : g.method = m) {x y : Int64} {rest : List Value} (hd : decode c.code g.pc = .ok (.lrem, 1)) (hs : g.stack = .long y :: .long x :: rest) (hy : y ≠ 0)
    (hr : Steps p.tables e below (T.setTop { g with pc := g.pc + 1, stack := .long (x % y) :: rest }) target) : Steps p.tables e below (T.setTop g) target := by
  have q : x - x / y * y = x % y := lrem_mod x y
  exact XS.lrem X.here hx hg hd hs hy (by rw [q]; exact hr)
theorem own_fitR {t : FieldType} {v : Value} (ht : t.isReference = true) (hv : v.isRef = true) : fits t v = true := by cases v <;> first | (cases hv; done) | (cases t <;> first | rfl | cases ht)
variable {Z : State} {h' : Heap} {a b : Addr} {ty : FieldType} {n i sl : Nat} {f : Nat → Value} {v w : Value} {cl : Cell} {j z : Int32} {k : ClassId} {ws : List Addr}
/-- the array at a has n places; place j holds f j -/
def Av (Z : State) (h : Heap) (a : Addr) (ty : FieldType) (n : Nat) (f : Nat → Value) : Prop := ∃ c : Cell, Arr Z h a c ty ∧ c.slots.size = n ∧ n < 2147483648 ∧ ∀ j, j < n → c.slots[j]? = some (f j)
def aset (f : Nat → Value) (i : Nat) (v : Value) : Nat → Value := fun j => if j = i then v else f j
theorem Av.lt (F : Av Z h a ty n f) : a < h.size := by obtain ⟨c, A, -⟩ := F; exact A.lt
theorem Av.ext (F : Av Z h a ty n f) (E : Ext h h') : Av Z h' a ty n f := by obtain ⟨c, A, r⟩ := F; exact ⟨c, A.ext E, r⟩
theorem Av.other (F : Av Z h b ty n f) (W : Wr h h' a sl v) (q : b ≠ a) : Av Z h' b ty n f := by obtain ⟨c, A, r⟩ := F; exact ⟨c, A.other W q, r⟩
theorem Av.keep (F : Av Z h a ty n f) (K : Keep h h' ws) (q : a ∉ ws) : Av Z h' a ty n f := by obtain ⟨c, A, r⟩ := F; exact ⟨c, ⟨K.2.1 a c A.1 q, A.2⟩, r⟩
theorem Av.eq (F : Av Z h a ty n f) {g : Nat → Value} (q : ∀ j, j < n → f j = g j) : Av Z h a ty n g := by obtain ⟨c, A, r1, r2, r3⟩ := F; exact ⟨c, A, r1, r2, fun j hj => by rw [← q j hj]; exact r3 j hj⟩
theorem own_clamp (q : ¬ z < 0) : z.toNatClampNeg < 2147483648 := (back32 q).2
theorem Av.new (A : Arr Z h a (newA k ty z) ty) (q : ¬ z < 0) (e : z.toNatClampNeg = n) : Av Z h a ty n (fun _ => defaultValue ty) := by
  refine ⟨_, A, by rw [sz_new, e], by rw [← e]; exact own_clamp q, fun j hj => ?_⟩
  have q2 : (newA k ty z).slots = Array.replicate z.toNatClampNeg (defaultValue ty) := rfl
  rw [q2, Array.getElem?_replicate, e, if_pos hj]
theorem own_in {c : Cell} (S : c.slots.size = n) (h0 : ¬ j < 0) (h : j.toNatClampNeg < n) : ¬ (j < 0 ∨ c.slots.size ≤ j.toNatClampNeg) := by
  rw [S]; exact fun q => q.elim h0 (Nat.not_le.mpr h)
theorem Av.at {c : Cell} (G : ∀ j, j < n → c.slots[j]? = some (f j)) (e : j.toNatClampNeg = i) (hi : i < n) (w : f i = v) : c.slots[j.toNatClampNeg]? = some v := by rw [e, G i hi, w]
theorem own_slots (c : Cell) (i : Nat) (v : Value) : (c.setSlot i v).slots = c.slots.setIfInBounds i v := rfl
theorem Av.set {c : Cell} (A : Arr Z h a c ty) (S : c.slots.size = n) (M : n < 2147483648) (G : ∀ j, j < n → c.slots[j]? = some (f j)) (W : Wr h h' a j.toNatClampNeg v) (e : j.toNatClampNeg = i) (hin : ¬ (j < 0 ∨ c.slots.size ≤ j.toNatClampNeg)) : Av Z h' a ty n (aset f i v) := by
  have hi : i < c.slots.size := by rw [← e]; exact Nat.lt_of_not_le fun q => hin (Or.inr q)
  refine ⟨_, A.same W, by rw [sz_set]; exact S, M, fun q hq => ?_⟩
  rw [own_slots, e, Array.getElem?_setIfInBounds]
  by_cases r : i = q
  · subst r
    rw [if_pos rfl, if_pos hi]; simp [aset]
  · rw [if_neg r, G q hq]
    show some (f q) = some (if q = i then v else f q)
    rw [if_neg (Ne.symm r)]
theorem own_int_v {aa : Array Value} {t : Term} {k : Int32} (he : (Cond.eq t (.int k)).value aa Z none Z [] = some true) : t.eval aa Z none [] Z = some (.int k) := by
  have hk : (Term.int k).eval aa Z none [] Z = some (.int k) := Term.int_eval k
  cases ht : t.eval aa Z none [] Z with
  | none => simp [Cond.value, ht] at he
  | some x => cases x <;> simp_all [Cond.value]
theorem own_enum {aa : Array Value} {t : Term} {C D n d : String} {k : Int32} (hx : (Cond.exactly t C).value aa Z none Z [] = some true) (he : (Cond.eq (.field t D n d) (.int k)).value aa Z none Z [] = some true) :
    ∃ x : Addr, t.eval aa Z none [] Z = some (.ref x) ∧ Exa Z Z.heap x C ∧ Fld Z Z.heap x D n d (.int k) := by
  obtain ⟨x, hv⟩ := exa_v hx
  exact ⟨x, hv, Exa.start hv hx, Fld.start (by rw [← fld_at hv]; exact own_int_v he)⟩
theorem own_self {y z : MethodName} (hz : (Cond.selects z.cls z z).before args s = true) (e : z.cls = y.cls) (hp : s.PrivateAt y) (hi : (Cond.instanceMethod y).before args s = true) (hy : y.cls ≠ "java/lang/invoke/MethodHandle" ∧ y.cls ≠ "java/lang/invoke/VarHandle") : (Cond.selects y.cls y y).before args s = true := by
  obtain ⟨c2, r2, m2, q1, -, q3, -, kP, hkP, hkPi⟩ := Cond.selects_spec hz
  have q := findClass_of_methodNamed q3
  rw [e] at q
  exact selects_self_of_private q hkP hkPi hp hi hy
def ushI (x y : Int32) : Int32 := (x.toUInt32 >>> (y &&& 31).toUInt32).toInt32
def ushL (x : Int64) (y : Int32) : Int64 := (x.toUInt64 >>> (y &&& 0x3f).toInt64.toUInt64).toInt64
theorem own_nar8 (a : Int32) : nar .byte a.toInt8.toInt32 = a.toInt8.toInt32 := by show a.toInt8.toInt32.toInt8.toInt32 = _; simp
theorem own_nar16 (a : Int32) : nar .char a.toUInt32.toUInt16.toUInt32.toInt32 = a.toUInt32.toUInt16.toUInt32.toInt32 := by
  show a.toUInt32.toUInt16.toUInt32.toInt32.toUInt32.toUInt16.toUInt32.toInt32 = _
  rw [show a.toUInt32.toUInt16.toUInt32.toInt32.toUInt32 = a.toUInt32.toUInt16.toUInt32 from rfl, UInt16.toUInt16_toUInt32]
theorem own_sta_keep {C d nm : String} (F : Sta Z h C nm d w) (K : Keep h h' []) : Sta Z h' C nm d w := by
  obtain ⟨cf, i, k, f, st, cell, h1, h2, h3, h4, h5, r⟩ := F
  exact ⟨cf, i, k, f, st, cell, h1, h2, h3, h4, K.2.1 _ _ h5 nin0, r⟩
theorem own_ext_keep (E : Ext h h') : Keep h h' [] := (Keep.refl h []).ext E
theorem own_keep_eq (e : h' = h) (ws : List Addr) : Keep h h' ws := by rw [e]; exact Keep.refl _ _
end Own
theorem pn_java_lang_Record : plainName "java/lang/Record" = true := by first | (simp [plainName, overriddenIn]; done) | decide +kernel
theorem d_jdk_30_method_1_code_0 : decode jdk_30_method_1_code 0 = .ok (.aload_n 0, 1) := by decide +kernel
theorem d_jdk_30_method_1_code_1 : decode jdk_30_method_1_code 1 = .ok (.invokespecial 1, 3) := by decide +kernel
theorem d_jdk_30_method_1_code_4 : decode jdk_30_method_1_code 4 = .ok (.return_, 1) := by decide +kernel
theorem pn_com_example_keylattice_keylattice_Ber_Element : plainName "com/example/keylattice/keylattice/Ber$Element" = true := by first | (simp [plainName, overriddenIn]; done) | decide +kernel
theorem d_prog_5_method_1_code_0 : decode prog_5_method_1_code 0 = .ok (.aload_n 0, 1) := by decide +kernel
theorem d_prog_5_method_1_code_1 : decode prog_5_method_1_code 1 = .ok (.invokespecial 1, 3) := by decide +kernel
theorem pd___V : parseMethodDescriptor "()V" = some ⟨[], none⟩ := by decide +kernel
theorem d_prog_5_method_1_code_4 : decode prog_5_method_1_code 4 = .ok (.aload_n 0, 1) := by decide +kernel
theorem d_prog_5_method_1_code_5 : decode prog_5_method_1_code 5 = .ok (.iload_n 1, 1) := by decide +kernel
theorem d_prog_5_method_1_code_6 : decode prog_5_method_1_code 6 = .ok (.putfield 7, 3) := by decide +kernel
theorem d_prog_5_method_1_code_9 : decode prog_5_method_1_code 9 = .ok (.aload_n 0, 1) := by decide +kernel
theorem d_prog_5_method_1_code_10 : decode prog_5_method_1_code 10 = .ok (.aload_n 2, 1) := by decide +kernel
theorem d_prog_5_method_1_code_11 : decode prog_5_method_1_code 11 = .ok (.putfield 13, 3) := by decide +kernel
theorem d_prog_5_method_1_code_14 : decode prog_5_method_1_code 14 = .ok (.return_, 1) := by decide +kernel
theorem pn_com_example_keylattice_keylattice_ElementIntegerPinLaw : plainName "com/example/keylattice/keylattice/ElementIntegerPinLaw" = true := by first | (simp [plainName, overriddenIn]; done) | decide +kernel
theorem d_method_2_code_0 : decode method_2_code 0 = .ok (.iload_n 1, 1) := by decide +kernel
theorem d_method_2_code_1 : decode method_2_code 1 = .ok (.iconst 1, 1) := by decide +kernel
theorem d_method_2_code_2 : decode method_2_code 2 = .ok (.if_icmp .ne 12, 3) := by decide +kernel
theorem d_method_2_code_5 : decode method_2_code 5 = .ok (.iconst 1, 1) := by decide +kernel
theorem d_method_2_code_6 : decode method_2_code 6 = .ok (.newarray .byte, 2) := by decide +kernel
theorem d_method_2_code_8 : decode method_2_code 8 = .ok (.dup, 1) := by decide +kernel
theorem d_method_2_code_9 : decode method_2_code 9 = .ok (.iconst 0, 1) := by decide +kernel
theorem d_method_2_code_10 : decode method_2_code 10 = .ok (.iload_n 0, 1) := by decide +kernel
theorem d_method_2_code_11 : decode method_2_code 11 = .ok (.i2b, 1) := by decide +kernel
theorem d_method_2_code_12 : decode method_2_code 12 = .ok (.bastore, 1) := by decide +kernel
theorem d_method_2_code_13 : decode method_2_code 13 = .ok (.areturn, 1) := by decide +kernel
theorem d_prog_5_method_3_code_0 : decode prog_5_method_3_code 0 = .ok (.aload_n 0, 1) := by decide +kernel
theorem d_prog_5_method_3_code_1 : decode prog_5_method_3_code 1 = .ok (.getfield 13, 3) := by decide +kernel
theorem d_prog_5_method_3_code_4 : decode prog_5_method_3_code 4 = .ok (.arraylength, 1) := by decide +kernel
theorem d_prog_5_method_3_code_5 : decode prog_5_method_3_code 5 = .ok (.ifCond .eq 12, 3) := by decide +kernel
theorem d_prog_5_method_3_code_8 : decode prog_5_method_3_code 8 = .ok (.aload_n 0, 1) := by decide +kernel
theorem d_prog_5_method_3_code_9 : decode prog_5_method_3_code 9 = .ok (.getfield 13, 3) := by decide +kernel
theorem d_prog_5_method_3_code_12 : decode prog_5_method_3_code 12 = .ok (.arraylength, 1) := by decide +kernel
theorem d_prog_5_method_3_code_13 : decode prog_5_method_3_code 13 = .ok (.iconst 4, 1) := by decide +kernel
theorem d_prog_5_method_3_code_14 : decode prog_5_method_3_code 14 = .ok (.if_icmp .le 21, 3) := by decide +kernel
theorem d_prog_5_method_3_code_35 : decode prog_5_method_3_code 35 = .ok (.aload_n 0, 1) := by decide +kernel
theorem d_prog_5_method_3_code_36 : decode prog_5_method_3_code 36 = .ok (.getfield 13, 3) := by decide +kernel
theorem d_prog_5_method_3_code_39 : decode prog_5_method_3_code 39 = .ok (.iconst 0, 1) := by decide +kernel
theorem d_prog_5_method_3_code_40 : decode prog_5_method_3_code 40 = .ok (.baload, 1) := by decide +kernel
theorem d_prog_5_method_3_code_41 : decode prog_5_method_3_code 41 = .ok (.istore_n 1, 1) := by decide +kernel
theorem d_prog_5_method_3_code_42 : decode prog_5_method_3_code 42 = .ok (.iconst 1, 1) := by decide +kernel
theorem d_prog_5_method_3_code_43 : decode prog_5_method_3_code 43 = .ok (.istore_n 2, 1) := by decide +kernel
theorem d_prog_5_method_3_code_44 : decode prog_5_method_3_code 44 = .ok (.iload_n 2, 1) := by decide +kernel
theorem d_prog_5_method_3_code_45 : decode prog_5_method_3_code 45 = .ok (.aload_n 0, 1) := by decide +kernel
theorem d_prog_5_method_3_code_46 : decode prog_5_method_3_code 46 = .ok (.getfield 13, 3) := by decide +kernel
theorem d_prog_5_method_3_code_49 : decode prog_5_method_3_code 49 = .ok (.arraylength, 1) := by decide +kernel
theorem d_prog_5_method_3_code_50 : decode prog_5_method_3_code 50 = .ok (.if_icmp .ge 25, 3) := by decide +kernel
theorem d_prog_5_method_3_code_75 : decode prog_5_method_3_code 75 = .ok (.iload_n 1, 1) := by decide +kernel
theorem d_prog_5_method_3_code_76 : decode prog_5_method_3_code 76 = .ok (.ireturn, 1) := by decide +kernel
theorem d_method_2_code_14 : decode method_2_code 14 = .ok (.iload_n 1, 1) := by decide +kernel
theorem d_method_2_code_15 : decode method_2_code 15 = .ok (.iconst 2, 1) := by decide +kernel
theorem d_method_2_code_16 : decode method_2_code 16 = .ok (.if_icmp .ne 20, 3) := by decide +kernel
theorem d_method_2_code_19 : decode method_2_code 19 = .ok (.iconst 2, 1) := by decide +kernel
theorem d_method_2_code_20 : decode method_2_code 20 = .ok (.newarray .byte, 2) := by decide +kernel
theorem d_method_2_code_22 : decode method_2_code 22 = .ok (.dup, 1) := by decide +kernel
theorem d_method_2_code_23 : decode method_2_code 23 = .ok (.iconst 0, 1) := by decide +kernel
theorem d_method_2_code_24 : decode method_2_code 24 = .ok (.iload_n 0, 1) := by decide +kernel
theorem d_method_2_code_25 : decode method_2_code 25 = .ok (.bipush 8, 2) := by decide +kernel
theorem d_method_2_code_27 : decode method_2_code 27 = .ok (.iushr, 1) := by decide +kernel
theorem d_method_2_code_28 : decode method_2_code 28 = .ok (.i2b, 1) := by decide +kernel
theorem d_method_2_code_29 : decode method_2_code 29 = .ok (.bastore, 1) := by decide +kernel
theorem d_method_2_code_30 : decode method_2_code 30 = .ok (.dup, 1) := by decide +kernel
theorem d_method_2_code_31 : decode method_2_code 31 = .ok (.iconst 1, 1) := by decide +kernel
theorem d_method_2_code_32 : decode method_2_code 32 = .ok (.iload_n 0, 1) := by decide +kernel
theorem d_method_2_code_33 : decode method_2_code 33 = .ok (.i2b, 1) := by decide +kernel
theorem d_method_2_code_34 : decode method_2_code 34 = .ok (.bastore, 1) := by decide +kernel
theorem d_method_2_code_35 : decode method_2_code 35 = .ok (.areturn, 1) := by decide +kernel
theorem d_prog_5_method_3_code_53 : decode prog_5_method_3_code 53 = .ok (.iload_n 1, 1) := by decide +kernel
theorem d_prog_5_method_3_code_54 : decode prog_5_method_3_code 54 = .ok (.bipush 8, 2) := by decide +kernel
theorem d_prog_5_method_3_code_56 : decode prog_5_method_3_code 56 = .ok (.ishl, 1) := by decide +kernel
theorem d_prog_5_method_3_code_57 : decode prog_5_method_3_code 57 = .ok (.aload_n 0, 1) := by decide +kernel
theorem d_prog_5_method_3_code_58 : decode prog_5_method_3_code 58 = .ok (.getfield 13, 3) := by decide +kernel
theorem d_prog_5_method_3_code_61 : decode prog_5_method_3_code 61 = .ok (.iload_n 2, 1) := by decide +kernel
theorem d_prog_5_method_3_code_62 : decode prog_5_method_3_code 62 = .ok (.baload, 1) := by decide +kernel
theorem d_prog_5_method_3_code_63 : decode prog_5_method_3_code 63 = .ok (.sipush 255, 3) := by decide +kernel
theorem d_prog_5_method_3_code_66 : decode prog_5_method_3_code 66 = .ok (.iand, 1) := by decide +kernel
theorem d_prog_5_method_3_code_67 : decode prog_5_method_3_code 67 = .ok (.ior, 1) := by decide +kernel
theorem d_prog_5_method_3_code_68 : decode prog_5_method_3_code 68 = .ok (.istore_n 1, 1) := by decide +kernel
theorem d_prog_5_method_3_code_69 : decode prog_5_method_3_code 69 = .ok (.iinc 2 1, 3) := by decide +kernel
theorem d_prog_5_method_3_code_72 : decode prog_5_method_3_code 72 = .ok (.goto (-28), 3) := by decide +kernel
theorem d_method_2_code_36 : decode method_2_code 36 = .ok (.iload_n 1, 1) := by decide +kernel
theorem d_method_2_code_37 : decode method_2_code 37 = .ok (.iconst 3, 1) := by decide +kernel
theorem d_method_2_code_38 : decode method_2_code 38 = .ok (.if_icmp .ne 28, 3) := by decide +kernel
theorem d_method_2_code_41 : decode method_2_code 41 = .ok (.iconst 3, 1) := by decide +kernel
theorem d_method_2_code_42 : decode method_2_code 42 = .ok (.newarray .byte, 2) := by decide +kernel
theorem d_method_2_code_44 : decode method_2_code 44 = .ok (.dup, 1) := by decide +kernel
theorem d_method_2_code_45 : decode method_2_code 45 = .ok (.iconst 0, 1) := by decide +kernel
theorem d_method_2_code_46 : decode method_2_code 46 = .ok (.iload_n 0, 1) := by decide +kernel
theorem d_method_2_code_47 : decode method_2_code 47 = .ok (.bipush 16, 2) := by decide +kernel
theorem d_method_2_code_49 : decode method_2_code 49 = .ok (.iushr, 1) := by decide +kernel
theorem d_method_2_code_50 : decode method_2_code 50 = .ok (.i2b, 1) := by decide +kernel
theorem d_method_2_code_51 : decode method_2_code 51 = .ok (.bastore, 1) := by decide +kernel
theorem d_method_2_code_52 : decode method_2_code 52 = .ok (.dup, 1) := by decide +kernel
theorem d_method_2_code_53 : decode method_2_code 53 = .ok (.iconst 1, 1) := by decide +kernel
theorem d_method_2_code_54 : decode method_2_code 54 = .ok (.iload_n 0, 1) := by decide +kernel
theorem d_method_2_code_55 : decode method_2_code 55 = .ok (.bipush 8, 2) := by decide +kernel
theorem d_method_2_code_57 : decode method_2_code 57 = .ok (.iushr, 1) := by decide +kernel
theorem d_method_2_code_58 : decode method_2_code 58 = .ok (.i2b, 1) := by decide +kernel
theorem d_method_2_code_59 : decode method_2_code 59 = .ok (.bastore, 1) := by decide +kernel
theorem d_method_2_code_60 : decode method_2_code 60 = .ok (.dup, 1) := by decide +kernel
theorem d_method_2_code_61 : decode method_2_code 61 = .ok (.iconst 2, 1) := by decide +kernel
theorem d_method_2_code_62 : decode method_2_code 62 = .ok (.iload_n 0, 1) := by decide +kernel
theorem d_method_2_code_63 : decode method_2_code 63 = .ok (.i2b, 1) := by decide +kernel
theorem d_method_2_code_64 : decode method_2_code 64 = .ok (.bastore, 1) := by decide +kernel
theorem d_method_2_code_65 : decode method_2_code 65 = .ok (.areturn, 1) := by decide +kernel
theorem d_method_2_code_66 : decode method_2_code 66 = .ok (.iconst 4, 1) := by decide +kernel
theorem d_method_2_code_67 : decode method_2_code 67 = .ok (.newarray .byte, 2) := by decide +kernel
theorem d_method_2_code_69 : decode method_2_code 69 = .ok (.dup, 1) := by decide +kernel
theorem d_method_2_code_70 : decode method_2_code 70 = .ok (.iconst 0, 1) := by decide +kernel
theorem d_method_2_code_71 : decode method_2_code 71 = .ok (.iload_n 0, 1) := by decide +kernel
theorem d_method_2_code_72 : decode method_2_code 72 = .ok (.bipush 24, 2) := by decide +kernel
theorem d_method_2_code_74 : decode method_2_code 74 = .ok (.iushr, 1) := by decide +kernel
theorem d_method_2_code_75 : decode method_2_code 75 = .ok (.i2b, 1) := by decide +kernel
theorem d_method_2_code_76 : decode method_2_code 76 = .ok (.bastore, 1) := by decide +kernel
theorem d_method_2_code_77 : decode method_2_code 77 = .ok (.dup, 1) := by decide +kernel
theorem d_method_2_code_78 : decode method_2_code 78 = .ok (.iconst 1, 1) := by decide +kernel
theorem d_method_2_code_79 : decode method_2_code 79 = .ok (.iload_n 0, 1) := by decide +kernel
theorem d_method_2_code_80 : decode method_2_code 80 = .ok (.bipush 16, 2) := by decide +kernel
theorem d_method_2_code_82 : decode method_2_code 82 = .ok (.iushr, 1) := by decide +kernel
theorem d_method_2_code_83 : decode method_2_code 83 = .ok (.i2b, 1) := by decide +kernel
theorem d_method_2_code_84 : decode method_2_code 84 = .ok (.bastore, 1) := by decide +kernel
theorem d_method_2_code_85 : decode method_2_code 85 = .ok (.dup, 1) := by decide +kernel
theorem d_method_2_code_86 : decode method_2_code 86 = .ok (.iconst 2, 1) := by decide +kernel
theorem d_method_2_code_87 : decode method_2_code 87 = .ok (.iload_n 0, 1) := by decide +kernel
theorem d_method_2_code_88 : decode method_2_code 88 = .ok (.bipush 8, 2) := by decide +kernel
theorem d_method_2_code_90 : decode method_2_code 90 = .ok (.iushr, 1) := by decide +kernel
theorem d_method_2_code_91 : decode method_2_code 91 = .ok (.i2b, 1) := by decide +kernel
theorem d_method_2_code_92 : decode method_2_code 92 = .ok (.bastore, 1) := by decide +kernel
theorem d_method_2_code_93 : decode method_2_code 93 = .ok (.dup, 1) := by decide +kernel
theorem d_method_2_code_94 : decode method_2_code 94 = .ok (.iconst 3, 1) := by decide +kernel
theorem d_method_2_code_95 : decode method_2_code 95 = .ok (.iload_n 0, 1) := by decide +kernel
theorem d_method_2_code_96 : decode method_2_code 96 = .ok (.i2b, 1) := by decide +kernel
theorem d_method_2_code_97 : decode method_2_code 97 = .ok (.bastore, 1) := by decide +kernel
theorem d_method_2_code_98 : decode method_2_code 98 = .ok (.areturn, 1) := by decide +kernel
theorem pd__II__B : parseMethodDescriptor "(II)[B" = some ⟨[.int, .int], some (.array .byte)⟩ := by decide +kernel
theorem pd__I_B_V : parseMethodDescriptor "(I[B)V" = some ⟨[.int, (.array .byte)], none⟩ := by decide +kernel
theorem pd___I : parseMethodDescriptor "()I" = some ⟨[], some .int⟩ := by decide +kernel

theorem own_and3 (n : Int32) : n &&& (3 : Int32) = 0 ∨ n &&& (3 : Int32) = 1 ∨ n &&& (3 : Int32) = 2 ∨ n &&& (3 : Int32) = 3 := by
  have h := c_mask n 3 2 (by decide) (by decide)
  have h2 : (n &&& 3).toInt = 0 ∨ (n &&& 3).toInt = 1 ∨ (n &&& 3).toInt = 2 ∨ (n &&& 3).toInt = 3 := by omega
  rcases h2 with q | q | q | q
  · exact Or.inl (Int32.toInt_inj.mp (by rw [q]; decide))
  · exact Or.inr (Or.inl (Int32.toInt_inj.mp (by rw [q]; decide)))
  · exact Or.inr (Or.inr (Or.inl (Int32.toInt_inj.mp (by rw [q]; decide))))
  · exact Or.inr (Or.inr (Or.inr (Int32.toInt_inj.mp (by rw [q]; decide))))
theorem own_byte (a : Int32) : 0 ≤ (a.toInt8.toInt32 &&& (255 : Int32)).toInt ∧ (a.toInt8.toInt32 &&& (255 : Int32)).toInt = a.toInt % 256 := by
  have h := c_mask a.toInt8.toInt32 255 8 (by decide) (by decide)
  have h2 := c_i2b a
  omega
/-- one turn: r <<< 8 ||| (the byte of a) -/
theorem own_turn (r a : Int32) : (((r <<< ((8 : Int32) &&& 31)) ||| (a.toInt8.toInt32 &&& (255 : Int32))).toInt - (r.toInt * 256 + a.toInt % 256)) % 4294967296 = 0 := by
  have h := c_ishl r 8 8 (by decide)
  have hb := own_byte a
  have h2 := c_or (r <<< ((8 : Int32) &&& 31)) (a.toInt8.toInt32 &&& (255 : Int32)) 8 (by decide) 256 (by decide) (by omega) hb.1 (by omega)
  omega
theorem own_ush (x : Int32) (q : Int32) (k : Nat) (hk : q.toBitVec.toNat % 32 = k) (h0 : 0 < k) : (ushI x q).toInt = (x.toInt % 4294967296) / (2 ^ k : Nat) := c_iushr x q k hk h0
theorem own_eq {a b : Int32} (h : (a.toInt - b.toInt) % 4294967296 = 0) : a = b := by
  have h1 := rng32 a
  have h2 := rng32 b
  exact Int32.toInt_inj.mp (by omega)

theorem own_turnE (r a : Int32) : ∃ q : Int, ((r <<< ((8 : Int32) &&& 31)) ||| (a.toInt8.toInt32 &&& (255 : Int32))).toInt = r.toInt * 256 + a.toInt % 256 + 4294967296 * q := by
  have h := own_turn r a
  exact ⟨(((r <<< ((8 : Int32) &&& 31)) ||| (a.toInt8.toInt32 &&& (255 : Int32))).toInt - (r.toInt * 256 + a.toInt % 256)) / 4294967296, by omega⟩
theorem own_byteE (a : Int32) : ∃ q : Int, a.toInt8.toInt32.toInt = a.toInt + 256 * q := by
  have h := (c_i2b a).1
  exact ⟨(a.toInt8.toInt32.toInt - a.toInt) / 256, by omega⟩
/-- the bytes of a number under 2^32 -/
theorem own_bytes (X : Int) (h0 : 0 ≤ X) (h1 : X < 4294967296) : ((((X / 16777216) * 256 + X / 65536 % 256) * 256 + X / 256 % 256) * 256 + X % 256) = X := by omega

theorem own_val1 (x : Int32) : x.toInt8.toInt32 = ((x <<< ((24 : Int32) &&& 31)) >>> ((24 : Int32) &&& 31)) := by
  have hl := c_ishl x 24 24 (by decide)
  have hr := c_ishr (x <<< ((24 : Int32) &&& 31)) 24 24 (by decide)
  have rl := rng32 (x <<< ((24 : Int32) &&& 31))
  have rx := rng32 x
  obtain ⟨b, hb⟩ := own_byteE x
  have rb := (c_i2b x).2
  have ex : x.toInt % 256 = x.toInt % 4294967296 % 256 := by omega
  obtain ⟨kk, hk⟩ : ∃ k, x.toInt = x.toInt % 4294967296 + 4294967296 * k := ⟨x.toInt / 4294967296, by omega⟩
  have hX : 0 ≤ x.toInt % 4294967296 ∧ x.toInt % 4294967296 < 4294967296 := by omega
  obtain ⟨qs, hs⟩ : ∃ q, (x <<< ((24 : Int32) &&& 31)).toInt = x.toInt * 16777216 + 4294967296 * q := ⟨((x <<< ((24 : Int32) &&& 31)).toInt - x.toInt * 16777216) / 4294967296, by omega⟩
  have hR : ((x <<< ((24 : Int32) &&& 31)) >>> ((24 : Int32) &&& 31)).toInt = x.toInt + 256 * qs := by rw [hr, hs]; show (x.toInt * 16777216 + 4294967296 * qs) / 16777216 = _; omega
  apply own_eq
  rw [hR]
  clear hl hr
  omega
theorem own_val2 (x : Int32) : (((ushI x (8 : Int32)).toInt8.toInt32 <<< ((8 : Int32) &&& 31)) ||| (x.toInt8.toInt32 &&& (255 : Int32))) = ((x <<< ((16 : Int32) &&& 31)) >>> ((16 : Int32) &&& 31)) := by
  have hl := c_ishl x 16 16 (by decide)
  have hr := c_ishr (x <<< ((16 : Int32) &&& 31)) 16 16 (by decide)
  have rl := rng32 (x <<< ((16 : Int32) &&& 31))
  have rx := rng32 x
  have u1 : (ushI x (8 : Int32)).toInt = x.toInt % 4294967296 / 256 := own_ush x 8 8 (by decide) (by decide)
  obtain ⟨b, hb⟩ := own_byteE (ushI x (8 : Int32))
  have rb := (c_i2b (ushI x (8 : Int32))).2
  obtain ⟨q0, h0⟩ := own_turnE (ushI x (8 : Int32)).toInt8.toInt32 x
  have r0 := rng32 (((ushI x (8 : Int32)).toInt8.toInt32 <<< ((8 : Int32) &&& 31)) ||| (x.toInt8.toInt32 &&& (255 : Int32)))
  have ex : x.toInt % 256 = x.toInt % 4294967296 % 256 := by omega
  rw [u1] at hb
  rw [ex] at h0
  have hB : x.toInt % 4294967296 = x.toInt % 4294967296 / 256 * 256 + x.toInt % 4294967296 % 256 := by omega
  obtain ⟨kk, hk⟩ : ∃ k, x.toInt = x.toInt % 4294967296 + 4294967296 * k := ⟨x.toInt / 4294967296, by omega⟩
  have hX : 0 ≤ x.toInt % 4294967296 ∧ x.toInt % 4294967296 < 4294967296 := by omega
  have f0 : 0 ≤ x.toInt % 4294967296 % 256 ∧ x.toInt % 4294967296 % 256 < 256 := by omega
  obtain ⟨qs, hs⟩ : ∃ q, (x <<< ((16 : Int32) &&& 31)).toInt = x.toInt * 65536 + 4294967296 * q := ⟨((x <<< ((16 : Int32) &&& 31)).toInt - x.toInt * 65536) / 4294967296, by omega⟩
  have hR : ((x <<< ((16 : Int32) &&& 31)) >>> ((16 : Int32) &&& 31)).toInt = x.toInt + 65536 * qs := by rw [hr, hs]; show (x.toInt * 65536 + 4294967296 * qs) / 65536 = _; omega
  apply own_eq
  rw [hR]
  clear hl hr
  generalize x.toInt % 4294967296 / 256 = A at *
  generalize x.toInt % 4294967296 % 256 = F at *
  omega
theorem own_val3 (x : Int32) : (((((ushI x (16 : Int32)).toInt8.toInt32 <<< ((8 : Int32) &&& 31)) ||| ((ushI x (8 : Int32)).toInt8.toInt32 &&& (255 : Int32))) <<< ((8 : Int32) &&& 31)) ||| (x.toInt8.toInt32 &&& (255 : Int32))) = ((x <<< ((8 : Int32) &&& 31)) >>> ((8 : Int32) &&& 31)) := by
  have hl := c_ishl x 8 8 (by decide)
  have hr := c_ishr (x <<< ((8 : Int32) &&& 31)) 8 8 (by decide)
  have rl := rng32 (x <<< ((8 : Int32) &&& 31))
  have rx := rng32 x
  have u1 : (ushI x (8 : Int32)).toInt = x.toInt % 4294967296 / 256 := own_ush x 8 8 (by decide) (by decide)
  have u2 : (ushI x (16 : Int32)).toInt = x.toInt % 4294967296 / 65536 := own_ush x 16 16 (by decide) (by decide)
  obtain ⟨b, hb⟩ := own_byteE (ushI x (16 : Int32))
  have rb := (c_i2b (ushI x (16 : Int32))).2
  obtain ⟨q1, h1⟩ := own_turnE (ushI x (16 : Int32)).toInt8.toInt32 (ushI x (8 : Int32))
  have r1 := rng32 (((ushI x (16 : Int32)).toInt8.toInt32 <<< ((8 : Int32) &&& 31)) ||| ((ushI x (8 : Int32)).toInt8.toInt32 &&& (255 : Int32)))
  obtain ⟨q0, h0⟩ := own_turnE (((ushI x (16 : Int32)).toInt8.toInt32 <<< ((8 : Int32) &&& 31)) ||| ((ushI x (8 : Int32)).toInt8.toInt32 &&& (255 : Int32))) x
  have r0 := rng32 (((((ushI x (16 : Int32)).toInt8.toInt32 <<< ((8 : Int32) &&& 31)) ||| ((ushI x (8 : Int32)).toInt8.toInt32 &&& (255 : Int32))) <<< ((8 : Int32) &&& 31)) ||| (x.toInt8.toInt32 &&& (255 : Int32)))
  have ex : x.toInt % 256 = x.toInt % 4294967296 % 256 := by omega
  rw [u2] at hb
  rw [u1] at h1
  rw [ex] at h0
  have hB : x.toInt % 4294967296 = (x.toInt % 4294967296 / 65536 * 256 + x.toInt % 4294967296 / 256 % 256) * 256 + x.toInt % 4294967296 % 256 := by omega
  obtain ⟨kk, hk⟩ : ∃ k, x.toInt = x.toInt % 4294967296 + 4294967296 * k := ⟨x.toInt / 4294967296, by omega⟩
  have hX : 0 ≤ x.toInt % 4294967296 ∧ x.toInt % 4294967296 < 4294967296 := by omega
  have f1 : 0 ≤ x.toInt % 4294967296 / 256 % 256 ∧ x.toInt % 4294967296 / 256 % 256 < 256 := by omega
  have f0 : 0 ≤ x.toInt % 4294967296 % 256 ∧ x.toInt % 4294967296 % 256 < 256 := by omega
  obtain ⟨qs, hs⟩ : ∃ q, (x <<< ((8 : Int32) &&& 31)).toInt = x.toInt * 256 + 4294967296 * q := ⟨((x <<< ((8 : Int32) &&& 31)).toInt - x.toInt * 256) / 4294967296, by omega⟩
  have hR : ((x <<< ((8 : Int32) &&& 31)) >>> ((8 : Int32) &&& 31)).toInt = x.toInt + 16777216 * qs := by rw [hr, hs]; show (x.toInt * 256 + 4294967296 * qs) / 256 = _; omega
  apply own_eq
  rw [hR]
  clear hl hr
  generalize x.toInt % 4294967296 / 65536 = A at *
  generalize x.toInt % 4294967296 / 256 % 256 = D at *
  generalize x.toInt % 4294967296 % 256 = F at *
  omega
theorem own_val4 (x : Int32) : (((((((ushI x (24 : Int32)).toInt8.toInt32 <<< ((8 : Int32) &&& 31)) ||| ((ushI x (16 : Int32)).toInt8.toInt32 &&& (255 : Int32))) <<< ((8 : Int32) &&& 31)) ||| ((ushI x (8 : Int32)).toInt8.toInt32 &&& (255 : Int32))) <<< ((8 : Int32) &&& 31)) ||| (x.toInt8.toInt32 &&& (255 : Int32))) = ((x <<< ((0 : Int32) &&& 31)) >>> ((0 : Int32) &&& 31)) := by
  have hr : ((x <<< ((0 : Int32) &&& 31)) >>> ((0 : Int32) &&& 31)) = x := by
    have hl := c_ishl x 0 0 (by decide)
    have hr := c_ishr (x <<< ((0 : Int32) &&& 31)) 0 0 (by decide)
    have e : x <<< ((0 : Int32) &&& 31) = x := own_eq (by omega)
    rw [e] at hr ⊢
    exact own_eq (by omega)
  rw [hr]
  have rx := rng32 x
  have u1 : (ushI x (8 : Int32)).toInt = x.toInt % 4294967296 / 256 := own_ush x 8 8 (by decide) (by decide)
  have u2 : (ushI x (16 : Int32)).toInt = x.toInt % 4294967296 / 65536 := own_ush x 16 16 (by decide) (by decide)
  have u3 : (ushI x (24 : Int32)).toInt = x.toInt % 4294967296 / 16777216 := own_ush x 24 24 (by decide) (by decide)
  obtain ⟨b, hb⟩ := own_byteE (ushI x (24 : Int32))
  have rb := (c_i2b (ushI x (24 : Int32))).2
  obtain ⟨q2, h2⟩ := own_turnE (ushI x (24 : Int32)).toInt8.toInt32 (ushI x (16 : Int32))
  have r2 := rng32 (((ushI x (24 : Int32)).toInt8.toInt32 <<< ((8 : Int32) &&& 31)) ||| ((ushI x (16 : Int32)).toInt8.toInt32 &&& (255 : Int32)))
  obtain ⟨q1, h1⟩ := own_turnE (((ushI x (24 : Int32)).toInt8.toInt32 <<< ((8 : Int32) &&& 31)) ||| ((ushI x (16 : Int32)).toInt8.toInt32 &&& (255 : Int32))) (ushI x (8 : Int32))
  have r1 := rng32 (((((ushI x (24 : Int32)).toInt8.toInt32 <<< ((8 : Int32) &&& 31)) ||| ((ushI x (16 : Int32)).toInt8.toInt32 &&& (255 : Int32))) <<< ((8 : Int32) &&& 31)) ||| ((ushI x (8 : Int32)).toInt8.toInt32 &&& (255 : Int32)))
  obtain ⟨q0, h0⟩ := own_turnE (((((ushI x (24 : Int32)).toInt8.toInt32 <<< ((8 : Int32) &&& 31)) ||| ((ushI x (16 : Int32)).toInt8.toInt32 &&& (255 : Int32))) <<< ((8 : Int32) &&& 31)) ||| ((ushI x (8 : Int32)).toInt8.toInt32 &&& (255 : Int32))) x
  have r0 := rng32 (((((((ushI x (24 : Int32)).toInt8.toInt32 <<< ((8 : Int32) &&& 31)) ||| ((ushI x (16 : Int32)).toInt8.toInt32 &&& (255 : Int32))) <<< ((8 : Int32) &&& 31)) ||| ((ushI x (8 : Int32)).toInt8.toInt32 &&& (255 : Int32))) <<< ((8 : Int32) &&& 31)) ||| (x.toInt8.toInt32 &&& (255 : Int32)))
  have ex : x.toInt % 256 = x.toInt % 4294967296 % 256 := by omega
  rw [u3] at hb
  rw [u2] at h2
  rw [u1] at h1
  rw [ex] at h0
  have hB := own_bytes (x.toInt % 4294967296) (by omega) (by omega)
  obtain ⟨kk, hk⟩ : ∃ k, x.toInt = x.toInt % 4294967296 + 4294967296 * k := ⟨x.toInt / 4294967296, by omega⟩
  have hX : 0 ≤ x.toInt % 4294967296 ∧ x.toInt % 4294967296 < 4294967296 := by omega
  have f1 : 0 ≤ x.toInt % 4294967296 / 256 % 256 ∧ x.toInt % 4294967296 / 256 % 256 < 256 := by omega
  have f0 : 0 ≤ x.toInt % 4294967296 % 256 ∧ x.toInt % 4294967296 % 256 < 256 := by omega
  have f2 : 0 ≤ x.toInt % 4294967296 / 65536 % 256 ∧ x.toInt % 4294967296 / 65536 % 256 < 256 := by omega
  apply own_eq
  clear hr
  generalize x.toInt % 4294967296 / 16777216 = A at *
  generalize x.toInt % 4294967296 / 65536 % 256 = B at *
  generalize x.toInt % 4294967296 / 256 % 256 = D at *
  generalize x.toInt % 4294967296 % 256 = F at *
  omega
def Q1 (Z : State) (a1 : Addr) (h0 : Heap) (v : Option Value) (h : Heap) (L : List Loc) : Prop := v = none ∧ L = [] ∧ h = h0
theorem ef_1 (m : MethodId) (a1 : Addr) : entryFrame m #[(.ref a1)] 1 = mkF m 0 #[.val (.ref a1)] [] := by first | (simp [entryFrame, mkF, argsToLocals, Value.category]; done) | rfl
set_option maxRecDepth 65536 in
set_option maxHeartbeats 40000000 in
theorem rm1 (l : Launch) (Z : State) (a0 : Array Value) (hw : ∀ d ∈ tables_1, d.before a0 Z = true) (ws : List Jvm.Cond) (a1 : Addr) (h0 : Heap) :
    MetFree l (⟨"java/lang/Record", "<init>", "()V"⟩ : MethodName) (head1 (Jvm.Cond.code (⟨"java/lang/Record", "<init>", "()V"⟩ : MethodName) jdk_30_method_1_code 1 none :: ws) ({ frames := 1, cells := 0, slots := 0, locals := 12 } : Room)) (fun a U => a = #[(.ref a1)] ∧ Z.Warmed39 U.vm ∧ U.heap = h0) (fun _ _ _ _ _ => True) (fun _ U o U' => ∃ v L, o = .returned v ∧ (Q1 Z a1 h0) v U'.heap L ∧ FrameEnd U o U' L 0 0) := by
  refine MetFree.of_bodySF (plainFor_of_name pn_java_lang_Record) hisR ?_
  intro p e s m args below meth c s₁ Bd hml0 hP hK
  obtain ⟨rfl, hZ, hh⟩ := hP
  have hx := Bd.exec
  have hby := Bd.bytes
  have hml : c.maxLocals = 1 := hml0
  have hown : s.vm.findClass "java/lang/Record" = some m.cls := findClass_of_methodNamed Bd.named
  have hnm := (name_of_methodNamed Bd.named Bd.method).1
  have X0 : Stand p l e ({ frames := 1, cells := 0, slots := 0, locals := 12 } : Room) s m #[(.ref a1)] below meth c s₁ [] 0 0 := Stand.of_body Bd
  have e0 : s₁.heap = h0 := by rw [← hh, Bd.state]; rfl
  show Go FrameEnd p e below s 0 0 (Q1 Z a1 h0) _
  refine Go.step (fun _ k => castTop (ef_1 m a1) k) ?_
  show Go FrameEnd p e below s 0 0 (Q1 Z a1 h0) (s₁.setTop (mkF m 0 #[.val (.ref a1)] []))
  refine Go.step (fun _ k => XS.aloadN X0.here hx rfl (hb hby d_jdk_30_method_1_code_0) rfl rfl k) ?_
  show Go FrameEnd p e below s 0 0 (Q1 Z a1 h0) (s₁.setTop (mkF m 1 #[.val (.ref a1)] [(.ref a1)]))
  obtain ⟨T1, X1, e1, st1⟩ := initO X0 hx hZ hown (hw _ (List.mem_of_getElem? (i := 16) rfl)) (hw _ (List.mem_of_getElem? (i := 17) rfl)) (hw _ (List.mem_of_getElem? (i := 18) rfl)) e0 (g := (mkF m 1 #[.val (.ref a1)] [(.ref a1)])) rfl (by rw [hml]; rfl) rfl (hb hby d_jdk_30_method_1_code_1) (by decide) (W := 0) (by show 2 * 0 + _ ≤ _; exact Nat.le_of_eq rfl) (by decide)
  refine Go.step st1 ?_
  show Go FrameEnd p e below s 0 0 (Q1 Z a1 h0) (T1.setTop (mkF m 4 #[.val (.ref a1)] []))
  refine Go.ret0 X1 hx Bd.returns (hb hby d_jdk_30_method_1_code_4) (BodyLoose.notSynchronized Bd) e1 (by decide) (by decide) ?_
  exact ⟨rfl, rfl, rfl⟩
def Q2 (Z : State) (a1 : Addr) (p1 : Int32) (a2 : Addr) (u_tag_a1 : Value) (u_content_a1 : Value) (h0 : Heap) (n0 : Nat) (v : Option Value) (h : Heap) (L : List Loc) : Prop := v = none ∧ Fr n0 L ∧ (Keep h0 h [a1]) ∧ (Exa Z h a1 "com/example/keylattice/keylattice/Ber$Element") ∧ (Fld Z h a1 "com/example/keylattice/keylattice/Ber$Element" "content" "[B" (.ref a2))
theorem ef_2 (m : MethodId) (a1 : Addr) (p1 : Int32) (a2 : Addr) : entryFrame m #[(.ref a1), (.int p1), (.ref a2)] 3 = mkF m 0 #[.val (.ref a1), .val (.int p1), .val (.ref a2)] [] := by first | (simp [entryFrame, mkF, argsToLocals, Value.category]; done) | rfl
set_option maxRecDepth 65536 in
set_option maxHeartbeats 40000000 in
theorem rm2 (l : Launch) (Z : State) (a0 : Array Value) (hw : ∀ d ∈ tables_1, d.before a0 Z = true) (ws : List Jvm.Cond) (a1 : Addr) (p1 : Int32) (a2 : Addr) (u_tag_a1 : Value) (u_content_a1 : Value) (h0 : Heap) (n0 : Nat) (Z0 : n0 ≤ h0.size) (E_a1 : Exa Z h0 a1 "com/example/keylattice/keylattice/Ber$Element") (F_tag_a1 : Fld Z h0 a1 "com/example/keylattice/keylattice/Ber$Element" "tag" "I" u_tag_a1) (F_content_a1 : Fld Z h0 a1 "com/example/keylattice/keylattice/Ber$Element" "content" "[B" u_content_a1) (g_a1 : n0 ≤ a1) :
    MetFree l (⟨"com/example/keylattice/keylattice/Ber$Element", "<init>", "(I[B)V"⟩ : MethodName) (head1 (Jvm.Cond.code (⟨"com/example/keylattice/keylattice/Ber$Element", "<init>", "(I[B)V"⟩ : MethodName) prog_5_method_1_code 3 none :: ws) ({ frames := 2, cells := 0, slots := 0, locals := 24 } : Room)) (fun a U => a = #[(.ref a1), (.int p1), (.ref a2)] ∧ Z.Warmed39 U.vm ∧ U.heap = h0) (fun _ _ _ _ _ => True) (fun _ U o U' => ∃ v L, o = .returned v ∧ (Q2 Z a1 p1 a2 u_tag_a1 u_content_a1 h0 n0) v U'.heap L ∧ FrameEnd U o U' L 0 0) := by
  refine MetFree.of_bodySF (plainFor_of_name pn_com_example_keylattice_keylattice_Ber_Element) hisR ?_
  intro p e s m args below meth c s₁ Bd hml0 hP hK
  obtain ⟨rfl, hZ, hh⟩ := hP
  have hx := Bd.exec
  have hby := Bd.bytes
  have hml : c.maxLocals = 3 := hml0
  have hown : s.vm.findClass "com/example/keylattice/keylattice/Ber$Element" = some m.cls := findClass_of_methodNamed Bd.named
  have hnm := (name_of_methodNamed Bd.named Bd.method).1
  have X0 : Stand p l e ({ frames := 2, cells := 0, slots := 0, locals := 24 } : Room) s m #[(.ref a1), (.int p1), (.ref a2)] below meth c s₁ [] 0 0 := Stand.of_body Bd
  have e0 : s₁.heap = h0 := by rw [← hh, Bd.state]; rfl
  have N0 := Fr.nil n0
  show Go FrameEnd p e below s 0 0 (Q2 Z a1 p1 a2 u_tag_a1 u_content_a1 h0 n0) _
  refine Go.step (fun _ k => castTop (ef_2 m a1 p1 a2) k) ?_
  show Go FrameEnd p e below s 0 0 (Q2 Z a1 p1 a2 u_tag_a1 u_content_a1 h0 n0) (s₁.setTop (mkF m 0 #[.val (.ref a1), .val (.int p1), .val (.ref a2)] []))
  refine Go.step (fun _ k => XS.aloadN X0.here hx rfl (hb hby d_prog_5_method_1_code_0) rfl rfl k) ?_
  show Go FrameEnd p e below s 0 0 (Q2 Z a1 p1 a2 u_tag_a1 u_content_a1 h0 n0) (s₁.setTop (mkF m 1 #[.val (.ref a1), .val (.int p1), .val (.ref a2)] [(.ref a1)]))
  obtain ⟨_, _, ⟨T1, L1, k1, n1⟩, -, X1, ⟨Lc1, hQ1, l1, y1, z1⟩, st1⟩ := X0.specialBack hx (y := (⟨"java/lang/Record", "<init>", "()V"⟩ : MethodName)) rfl hown (mvT hZ (hw _ (List.mem_of_getElem? (i := 11) rfl))) (mvT hZ (hw _ (List.mem_of_getElem? (i := 12) rfl))) (mvT hZ (hw _ (List.mem_of_getElem? (i := 15) rfl))) (by decide) (backOf (W := 0) (rm1 l Z a0 hw [] a1  h0 ) hZ (hw _ (List.mem_of_getElem? (i := 15) rfl)) (hw _ (List.mem_of_getElem? (i := 14) rfl)) (by decide) (by decide)) (g := (mkF m 1 #[.val (.ref a1), .val (.int p1), .val (.ref a2)] [(.ref a1)])) rfl (by rw [hml]; rfl) (Steps.refl _) (a := a1) (argsL := []) (rest := []) (lenOf pd___V rfl) rfl (by show 2 * 0 + _ ≤ _; exact Nat.le_of_eq rfl) (hb hby d_prog_5_method_1_code_1) (fun _ _ => ⟨rfl, e0, (by decide : 0 + 0 ≤ _), (by decide : 0 + 0 ≤ _)⟩)
  dsimp only [Pt.U, Pt.locs, Pt.cells, Pt.slots] at X1 l1 y1 z1 st1 hQ1
  subst l1 y1 z1
  obtain ⟨rfl, rfl, e1⟩ := hQ1
  have N1 := Fr.app N0 (Fr.nil n0)
  refine Go.hop st1 ?_
  show Go FrameEnd p e below s 0 0 (Q2 Z a1 p1 a2 u_tag_a1 u_content_a1 h0 n0) (T1.setTop (mkF m 4 #[.val (.ref a1), .val (.int p1), .val (.ref a2)] []))
  refine Go.step (fun _ k => XS.aloadN X1.here hx rfl (hb hby d_prog_5_method_1_code_4) rfl rfl k) ?_
  show Go FrameEnd p e below s 0 0 (Q2 Z a1 p1 a2 u_tag_a1 u_content_a1 h0 n0) (T1.setTop (mkF m 5 #[.val (.ref a1), .val (.int p1), .val (.ref a2)] [(.ref a1)]))
  refine Go.step (fun _ k => XS.iloadN X1.here hx rfl (hb hby d_prog_5_method_1_code_5) rfl k) ?_
  show Go FrameEnd p e below s 0 0 (Q2 Z a1 p1 a2 u_tag_a1 u_content_a1 h0 n0) (T1.setTop (mkF m 6 #[.val (.ref a1), .val (.int p1), .val (.ref a2)] [(.int p1), (.ref a1)]))
  obtain ⟨T2, h2, X2, e2, W2, st2⟩ := putF X1 hx hZ hown (host := "") (Or.inl (hw _ (List.mem_of_getElem? (i := 19) rfl))) Via.refl e1 F_tag_a1 E_a1 (Or.inr ⟨(hw _ (List.mem_of_getElem? (i := 20) rfl)), rfl, hnm⟩) (hw _ (List.mem_of_getElem? (i := 6) rfl)) (ty := .int) (by decide) rfl rfl (g := (mkF m 6 #[.val (.ref a1), .val (.int p1), .val (.ref a2)] [(.int p1), (.ref a1)])) rfl rfl (hb hby d_prog_5_method_1_code_6)
  refine Go.step st2 ?_
  have N2 := Fr.snoc X2 N1 g_a1
  have Z2 : n0 ≤ h2.size := Nat.le_trans Z0 (Keep.of_wr W2).1
  have K02 : Keep h0 h2 [a1] := (Keep.refl h0 [a1]).wr W2 (Or.inl (List.mem_of_getElem? (i := 0) rfl))
  have F2 := F_tag_a1.same W2
  show Go FrameEnd p e below s 0 0 (Q2 Z a1 p1 a2 u_tag_a1 u_content_a1 h0 n0) (T2.setTop (mkF m 9 #[.val (.ref a1), .val (.int p1), .val (.ref a2)] []))
  refine Go.step (fun _ k => XS.aloadN X2.here hx rfl (hb hby d_prog_5_method_1_code_9) rfl rfl k) ?_
  show Go FrameEnd p e below s 0 0 (Q2 Z a1 p1 a2 u_tag_a1 u_content_a1 h0 n0) (T2.setTop (mkF m 10 #[.val (.ref a1), .val (.int p1), .val (.ref a2)] [(.ref a1)]))
  refine Go.step (fun _ k => XS.aloadN X2.here hx rfl (hb hby d_prog_5_method_1_code_10) rfl rfl k) ?_
  show Go FrameEnd p e below s 0 0 (Q2 Z a1 p1 a2 u_tag_a1 u_content_a1 h0 n0) (T2.setTop (mkF m 11 #[.val (.ref a1), .val (.int p1), .val (.ref a2)] [(.ref a2), (.ref a1)]))
  have f_3 := (F_content_a1.other W2 (Or.inr (slot_ne (Or.inr (hw _ (List.mem_of_getElem? (i := 22) rfl))) (Or.inr (hw _ (List.mem_of_getElem? (i := 20) rfl))) (by decide) (t := (.array .byte)) (t' := .int) (by decide) (by decide))))
  obtain ⟨T4, h4, X4, e4, W4, st4⟩ := putF X2 hx hZ hown (host := "") (Or.inl (hw _ (List.mem_of_getElem? (i := 21) rfl))) Via.refl e2 f_3 (E_a1.wr W2) (Or.inr ⟨(hw _ (List.mem_of_getElem? (i := 22) rfl)), rfl, hnm⟩) (hw _ (List.mem_of_getElem? (i := 6) rfl)) (ty := (.array .byte)) (by decide) rfl rfl (g := (mkF m 11 #[.val (.ref a1), .val (.int p1), .val (.ref a2)] [(.ref a2), (.ref a1)])) rfl rfl (hb hby d_prog_5_method_1_code_11)
  refine Go.step st4 ?_
  have N4 := Fr.snoc X4 N2 g_a1
  have Z4 : n0 ≤ h4.size := Nat.le_trans Z2 (Keep.of_wr W4).1
  have K04 : Keep h0 h4 [a1] := K02.wr W4 (Or.inl (List.mem_of_getElem? (i := 0) rfl))
  have F4 := f_3.same W4
  show Go FrameEnd p e below s 0 0 (Q2 Z a1 p1 a2 u_tag_a1 u_content_a1 h0 n0) (T4.setTop (mkF m 14 #[.val (.ref a1), .val (.int p1), .val (.ref a2)] []))
  refine Go.ret0 X4 hx Bd.returns (hb hby d_prog_5_method_1_code_14) (BodyLoose.notSynchronized Bd) e4 (by decide) (by decide) ?_
  have f_5 := ((E_a1.wr W2).wr W4)
  exact ⟨rfl, N4, K04, f_5, F4⟩
def Q3k1 (Z : State) (p1 : Int32) (h0 : Heap) (n0 : Nat) (v : Option Value) (h : Heap) (L : List Loc) : Prop := ∃ b : Addr, v = some (.ref b) ∧ Fr n0 L ∧ h0.size ≤ b ∧ (Keep h0 h []) ∧ (Av Z h b .byte 1 (aset (fun _ => (.int (0 : Int32))) 0 (.int p1.toInt8.toInt32)))
theorem ef_3k1 (m : MethodId) (p1 : Int32) : entryFrame m #[(.int p1), (.int (1 : Int32))] 2 = mkF m 0 #[.val (.int p1), .val (.int (1 : Int32))] [] := by first | (simp [entryFrame, mkF, argsToLocals, Value.category]; done) | rfl
set_option maxRecDepth 65536 in
set_option maxHeartbeats 40000000 in
theorem rm3k1 (l : Launch) (Z : State) (a0 : Array Value) (hw : ∀ d ∈ tables_1, d.before a0 Z = true) (ws : List Jvm.Cond) (p1 : Int32) (h0 : Heap) (n0 : Nat) (Z0 : n0 ≤ h0.size) :
    MetFree l (⟨"com/example/keylattice/keylattice/ElementIntegerPinLaw", "lastBytes", "(II)[B"⟩ : MethodName) (head1 (Jvm.Cond.code (⟨"com/example/keylattice/keylattice/ElementIntegerPinLaw", "lastBytes", "(II)[B"⟩ : MethodName) method_2_code 2 (some (.array .byte)) :: ws) ({ frames := 0, cells := 1, slots := 1, locals := 0 } : Room)) (fun a U => a = #[(.int p1), (.int (1 : Int32))] ∧ Z.Warmed39 U.vm ∧ U.heap = h0) (fun _ _ _ _ _ => True) (fun _ U o U' => ∃ v L, o = .returned v ∧ (Q3k1 Z p1 h0 n0) v U'.heap L ∧ FrameEnd U o U' L 1 1) := by
  refine MetFree.of_bodySF (plainFor_of_name pn_com_example_keylattice_keylattice_ElementIntegerPinLaw) hisR ?_
  intro p e s m args below meth c s₁ Bd hml0 hP hK
  obtain ⟨rfl, hZ, hh⟩ := hP
  have hx := Bd.exec
  have hby := Bd.bytes
  have hml : c.maxLocals = 2 := hml0
  have hown : s.vm.findClass "com/example/keylattice/keylattice/ElementIntegerPinLaw" = some m.cls := findClass_of_methodNamed Bd.named
  have hnm := (name_of_methodNamed Bd.named Bd.method).1
  have X0 : Stand p l e ({ frames := 0, cells := 1, slots := 1, locals := 0 } : Room) s m #[(.int p1), (.int (1 : Int32))] below meth c s₁ [] 0 0 := Stand.of_body Bd
  have e0 : s₁.heap = h0 := by rw [← hh, Bd.state]; rfl
  have N0 := Fr.nil n0
  show Go FrameEnd p e below s 1 1 (Q3k1 Z p1 h0 n0) _
  refine Go.step (fun _ k => castTop (ef_3k1 m p1) k) ?_
  show Go FrameEnd p e below s 1 1 (Q3k1 Z p1 h0 n0) (s₁.setTop (mkF m 0 #[.val (.int p1), .val (.int (1 : Int32))] []))
  refine Go.step (fun _ k => XS.iloadN X0.here hx rfl (hb hby d_method_2_code_0) rfl k) ?_
  show Go FrameEnd p e below s 1 1 (Q3k1 Z p1 h0 n0) (s₁.setTop (mkF m 1 #[.val (.int p1), .val (.int (1 : Int32))] [(.int (1 : Int32))]))
  refine Go.step (fun _ k => XS.iconst X0.here hx rfl (hb hby d_method_2_code_1) k) ?_
  show Go FrameEnd p e below s 1 1 (Q3k1 Z p1 h0 n0) (s₁.setTop (mkF m 2 #[.val (.int p1), .val (.int (1 : Int32))] [(.int (1 : Int32)), (.int (1 : Int32))]))
  refine Go.step (fun _ k => XS.icmpNo X0.here hx rfl (hb hby d_method_2_code_2) rfl (teq rfl).2 k) ?_
  show Go FrameEnd p e below s 1 1 (Q3k1 Z p1 h0 n0) (s₁.setTop (mkF m 5 #[.val (.int p1), .val (.int (1 : Int32))] []))
  refine Go.step (fun _ k => XS.iconst X0.here hx rfl (hb hby d_method_2_code_5) k) ?_
  show Go FrameEnd p e below s 1 1 (Q3k1 Z p1 h0 n0) (s₁.setTop (mkF m 6 #[.val (.int p1), .val (.int (1 : Int32))] [(.int (1 : Int32))]))
  obtain ⟨T1, h1, k1, X1, e1, E1, A1, st1⟩ := newP X0 hx hZ (hw _ (List.mem_of_getElem? (i := 4) rfl)) e0 (g := (mkF m 6 #[.val (.int p1), .val (.int (1 : Int32))] [(.int (1 : Int32))])) rfl (hb hby d_method_2_code_6) rfl (by decide) (cap := 1) (by decide) (by decide) (by decide) (by decide)
  refine Go.step st1 ?_
  obtain ⟨b1, g1⟩ : ∃ z, z = h0.size := ⟨_, rfl⟩
  rw [← g1] at A1 ⊢
  have g_b1 : n0 ≤ b1 := Nat.le_trans Z0 (Nat.le_of_eq g1.symm)
  have Z1 : n0 ≤ h1.size := Nat.le_trans Z0 E1.1
  have K01 : Keep h0 h1 [] := (Keep.refl h0 []).ext E1
  have sz_b1 : h0.size ≤ b1 := Nat.le_trans (Keep.refl h0 []).1 (Nat.le_of_eq g1.symm)
  have V1 : Av Z h1 b1 .byte 1 (fun _ => (.int (0 : Int32))) := Av.new A1 (by decide) rfl
  show Go FrameEnd p e below s 1 1 (Q3k1 Z p1 h0 n0) (T1.setTop (mkF m 8 #[.val (.int p1), .val (.int (1 : Int32))] [(.ref b1)]))
  refine Go.step (fun _ k => XS.dup X1.here hx rfl (hb hby d_method_2_code_8) rfl rfl k) ?_
  show Go FrameEnd p e below s 1 1 (Q3k1 Z p1 h0 n0) (T1.setTop (mkF m 9 #[.val (.int p1), .val (.int (1 : Int32))] [(.ref b1), (.ref b1)]))
  refine Go.step (fun _ k => XS.iconst X1.here hx rfl (hb hby d_method_2_code_9) k) ?_
  show Go FrameEnd p e below s 1 1 (Q3k1 Z p1 h0 n0) (T1.setTop (mkF m 10 #[.val (.int p1), .val (.int (1 : Int32))] [(.int (0 : Int32)), (.ref b1), (.ref b1)]))
  refine Go.step (fun _ k => XS.iloadN X1.here hx rfl (hb hby d_method_2_code_10) rfl k) ?_
  show Go FrameEnd p e below s 1 1 (Q3k1 Z p1 h0 n0) (T1.setTop (mkF m 11 #[.val (.int p1), .val (.int (1 : Int32))] [(.int p1), (.int (0 : Int32)), (.ref b1), (.ref b1)]))
  refine Go.step (fun _ k => XS.i2b X1.here hx rfl (hb hby d_method_2_code_11) rfl k) ?_
  show Go FrameEnd p e below s 1 1 (Q3k1 Z p1 h0 n0) (T1.setTop (mkF m 12 #[.val (.int p1), .val (.int (1 : Int32))] [(.int p1.toInt8.toInt32), (.int (0 : Int32)), (.ref b1), (.ref b1)]))
  obtain ⟨c2, Ac2, Sc2, Mc2, Gc2⟩ := id V1
  obtain ⟨T3, h3, X3, e3, W3, st3⟩ := stB X1 hx hZ e1 Ac2 (j := (0 : Int32)) (own_in Sc2 (by decide) (by decide)) (g := (mkF m 12 #[.val (.int p1), .val (.int (1 : Int32))] [(.int p1.toInt8.toInt32), (.int (0 : Int32)), (.ref b1), (.ref b1)])) rfl rfl (hb hby d_method_2_code_12)
  refine Go.step st3 ?_
  rw [own_nar8] at W3
  have N3 := Fr.snoc X3 N0 g_b1
  have Z3 : n0 ≤ h3.size := Nat.le_trans Z1 (Keep.of_wr W3).1
  have K03 : Keep h0 h3 [] := K01.wr W3 (Or.inr sz_b1)
  have V3 : Av Z h3 b1 .byte 1 (aset (fun _ => (.int (0 : Int32))) 0 (.int p1.toInt8.toInt32)) := Av.set Ac2 Sc2 Mc2 Gc2 W3 (by rfl) (own_in Sc2 (by decide) (by decide))
  show Go FrameEnd p e below s 1 1 (Q3k1 Z p1 h0 n0) (T3.setTop (mkF m 13 #[.val (.int p1), .val (.int (1 : Int32))] [(.ref b1)]))
  refine Go.retR X3 hx Bd.returns rfl rfl (hb hby d_method_2_code_13) (BodyLoose.notSynchronized Bd) e3 (by decide) (by decide) ?_
  exact ⟨b1, rfl, N3, sz_b1, K03, V3⟩
def Q4k1 (Z : State) (a1 : Addr) (t : Addr) (x : Int32) (h0 : Heap) (v : Option Value) (h : Heap) (L : List Loc) : Prop := v = some (.int x.toInt8.toInt32) ∧ L = [] ∧ h = h0
theorem ef_4k1 (m : MethodId) (a1 : Addr) : entryFrame m #[(.ref a1)] 3 = mkF m 0 #[.val (.ref a1), .unset, .unset] [] := by first | (simp [entryFrame, mkF, argsToLocals, Value.category]; done) | rfl
set_option maxRecDepth 65536 in
set_option maxHeartbeats 40000000 in
theorem rm4k1 (l : Launch) (Z : State) (a0 : Array Value) (hw : ∀ d ∈ tables_1, d.before a0 Z = true) (ws : List Jvm.Cond) (a1 : Addr) (t : Addr) (x : Int32) (h0 : Heap) (F_content_a1 : Fld Z h0 a1 "com/example/keylattice/keylattice/Ber$Element" "content" "[B" (.ref t)) (V_t : Av Z h0 t .byte 1 (aset (fun _ => (.int (0 : Int32))) 0 (.int x.toInt8.toInt32))) :
    MetFree l (⟨"com/example/keylattice/keylattice/Ber$Element", "integer", "()I"⟩ : MethodName) (head1 (Jvm.Cond.code (⟨"com/example/keylattice/keylattice/Ber$Element", "integer", "()I"⟩ : MethodName) prog_5_method_3_code 3 (some .int) :: ws) ({ frames := 0, cells := 0, slots := 0, locals := 0 } : Room)) (fun a U => a = #[(.ref a1)] ∧ Z.Warmed39 U.vm ∧ U.heap = h0) (fun _ _ _ _ _ => True) (fun _ U o U' => ∃ v L, o = .returned v ∧ (Q4k1 Z a1 t x h0) v U'.heap L ∧ FrameEnd U o U' L 0 0) := by
  refine MetFree.of_bodySF (plainFor_of_name pn_com_example_keylattice_keylattice_Ber_Element) hisR ?_
  intro p e s m args below meth c s₁ Bd hml0 hP hK
  obtain ⟨rfl, hZ, hh⟩ := hP
  have hx := Bd.exec
  have hby := Bd.bytes
  have hml : c.maxLocals = 3 := hml0
  have hown : s.vm.findClass "com/example/keylattice/keylattice/Ber$Element" = some m.cls := findClass_of_methodNamed Bd.named
  have hnm := (name_of_methodNamed Bd.named Bd.method).1
  have X0 : Stand p l e ({ frames := 0, cells := 0, slots := 0, locals := 0 } : Room) s m #[(.ref a1)] below meth c s₁ [] 0 0 := Stand.of_body Bd
  have e0 : s₁.heap = h0 := by rw [← hh, Bd.state]; rfl
  show Go FrameEnd p e below s 0 0 (Q4k1 Z a1 t x h0) _
  refine Go.step (fun _ k => castTop (ef_4k1 m a1) k) ?_
  show Go FrameEnd p e below s 0 0 (Q4k1 Z a1 t x h0) (s₁.setTop (mkF m 0 #[.val (.ref a1), .unset, .unset] []))
  refine Go.step (fun _ k => XS.aloadN X0.here hx rfl (hb hby d_prog_5_method_3_code_0) rfl rfl k) ?_
  show Go FrameEnd p e below s 0 0 (Q4k1 Z a1 t x h0) (s₁.setTop (mkF m 1 #[.val (.ref a1), .unset, .unset] [(.ref a1)]))
  obtain ⟨T1, X1, e1, st1⟩ := getF X0 hx hZ hown (host := "") (Or.inl (hw _ (List.mem_of_getElem? (i := 21) rfl))) Via.refl e0 F_content_a1 (g := (mkF m 1 #[.val (.ref a1), .unset, .unset] [(.ref a1)])) rfl rfl (hb hby d_prog_5_method_3_code_1)
  refine Go.step st1 ?_
  show Go FrameEnd p e below s 0 0 (Q4k1 Z a1 t x h0) (T1.setTop (mkF m 4 #[.val (.ref a1), .unset, .unset] [(.ref t)]))
  obtain ⟨c2, Ac2, Sc2, Mc2, Gc2⟩ := id V_t
  refine Go.step (X1.arraylength hx (by rw [e1]; exact Ac2.1) (State.isArrayOf_alike hZ.alike Ac2.2.1) (g := (mkF m 4 #[.val (.ref a1), .unset, .unset] [(.ref t)])) rfl rfl (hb hby d_prog_5_method_3_code_4)) ?_
  rw [show c2.slots.size.toInt32 = (1 : Int32) from by rw [Sc2]; rfl]
  show Go FrameEnd p e below s 0 0 (Q4k1 Z a1 t x h0) (T1.setTop (mkF m 5 #[.val (.ref a1), .unset, .unset] [(.int (1 : Int32))]))
  refine Go.step (fun _ k => XS.ifNo X1.here hx rfl (hb hby d_prog_5_method_3_code_5) rfl ((if0 _ _).trans (feq (by decide)).1) k) ?_
  show Go FrameEnd p e below s 0 0 (Q4k1 Z a1 t x h0) (T1.setTop (mkF m 8 #[.val (.ref a1), .unset, .unset] []))
  refine Go.step (fun _ k => XS.aloadN X1.here hx rfl (hb hby d_prog_5_method_3_code_8) rfl rfl k) ?_
  show Go FrameEnd p e below s 0 0 (Q4k1 Z a1 t x h0) (T1.setTop (mkF m 9 #[.val (.ref a1), .unset, .unset] [(.ref a1)]))
  obtain ⟨T3, X3, e3, st3⟩ := getF X1 hx hZ hown (host := "") (Or.inl (hw _ (List.mem_of_getElem? (i := 21) rfl))) Via.refl e1 F_content_a1 (g := (mkF m 9 #[.val (.ref a1), .unset, .unset] [(.ref a1)])) rfl rfl (hb hby d_prog_5_method_3_code_9)
  refine Go.step st3 ?_
  show Go FrameEnd p e below s 0 0 (Q4k1 Z a1 t x h0) (T3.setTop (mkF m 12 #[.val (.ref a1), .unset, .unset] [(.ref t)]))
  obtain ⟨c4, Ac4, Sc4, Mc4, Gc4⟩ := id V_t
  refine Go.step (X3.arraylength hx (by rw [e3]; exact Ac4.1) (State.isArrayOf_alike hZ.alike Ac4.2.1) (g := (mkF m 12 #[.val (.ref a1), .unset, .unset] [(.ref t)])) rfl rfl (hb hby d_prog_5_method_3_code_12)) ?_
  rw [show c4.slots.size.toInt32 = (1 : Int32) from by rw [Sc4]; rfl]
  show Go FrameEnd p e below s 0 0 (Q4k1 Z a1 t x h0) (T3.setTop (mkF m 13 #[.val (.ref a1), .unset, .unset] [(.int (1 : Int32))]))
  refine Go.step (fun _ k => XS.iconst X3.here hx rfl (hb hby d_prog_5_method_3_code_13) k) ?_
  show Go FrameEnd p e below s 0 0 (Q4k1 Z a1 t x h0) (T3.setTop (mkF m 14 #[.val (.ref a1), .unset, .unset] [(.int (4 : Int32)), (.int (1 : Int32))]))
  refine Go.step (fun _ k => XS.icmpYes X3.here hx rfl (pc0 := 14) (pc' := 35) rfl (hb hby d_prog_5_method_3_code_14) rfl (flt (by decide)).2.2.2 (by decide) (by decide) k) ?_
  show Go FrameEnd p e below s 0 0 (Q4k1 Z a1 t x h0) (T3.setTop (mkF m 35 #[.val (.ref a1), .unset, .unset] []))
  refine Go.step (fun _ k => XS.aloadN X3.here hx rfl (hb hby d_prog_5_method_3_code_35) rfl rfl k) ?_
  show Go FrameEnd p e below s 0 0 (Q4k1 Z a1 t x h0) (T3.setTop (mkF m 36 #[.val (.ref a1), .unset, .unset] [(.ref a1)]))
  obtain ⟨T5, X5, e5, st5⟩ := getF X3 hx hZ hown (host := "") (Or.inl (hw _ (List.mem_of_getElem? (i := 21) rfl))) Via.refl e3 F_content_a1 (g := (mkF m 36 #[.val (.ref a1), .unset, .unset] [(.ref a1)])) rfl rfl (hb hby d_prog_5_method_3_code_36)
  refine Go.step st5 ?_
  show Go FrameEnd p e below s 0 0 (Q4k1 Z a1 t x h0) (T5.setTop (mkF m 39 #[.val (.ref a1), .unset, .unset] [(.ref t)]))
  refine Go.step (fun _ k => XS.iconst X5.here hx rfl (hb hby d_prog_5_method_3_code_39) k) ?_
  show Go FrameEnd p e below s 0 0 (Q4k1 Z a1 t x h0) (T5.setTop (mkF m 40 #[.val (.ref a1), .unset, .unset] [(.int (0 : Int32)), (.ref t)]))
  obtain ⟨c6, Ac6, Sc6, Mc6, Gc6⟩ := id V_t
  refine Go.step (X5.baloadBytes hx (j := (0 : Int32)) (v := (.int x.toInt8.toInt32)) (by rw [e5]; exact Ac6.1) (State.isArrayOf_alike hZ.alike Ac6.2.1) Ac6.2.2 (own_in Sc6 (by decide) (by decide)) (Av.at Gc6 (by rfl) (by decide) rfl) (g := (mkF m 40 #[.val (.ref a1), .unset, .unset] [(.int (0 : Int32)), (.ref t)])) rfl rfl (hb hby d_prog_5_method_3_code_40)) ?_
  show Go FrameEnd p e below s 0 0 (Q4k1 Z a1 t x h0) (T5.setTop (mkF m 41 #[.val (.ref a1), .unset, .unset] [(.int x.toInt8.toInt32)]))
  refine Go.step (fun _ k => XS.istoreN X5.here hx rfl (hb hby d_prog_5_method_3_code_41) rfl (l' := #[.val (.ref a1), .val (.int x.toInt8.toInt32), .unset]) rfl k) ?_
  show Go FrameEnd p e below s 0 0 (Q4k1 Z a1 t x h0) (T5.setTop (mkF m 42 #[.val (.ref a1), .val (.int x.toInt8.toInt32), .unset] []))
  refine Go.step (fun _ k => XS.iconst X5.here hx rfl (hb hby d_prog_5_method_3_code_42) k) ?_
  show Go FrameEnd p e below s 0 0 (Q4k1 Z a1 t x h0) (T5.setTop (mkF m 43 #[.val (.ref a1), .val (.int x.toInt8.toInt32), .unset] [(.int (1 : Int32))]))
  refine Go.step (fun _ k => XS.istoreN X5.here hx rfl (hb hby d_prog_5_method_3_code_43) rfl (l' := #[.val (.ref a1), .val (.int x.toInt8.toInt32), .val (.int (1 : Int32))]) rfl k) ?_
  show Go FrameEnd p e below s 0 0 (Q4k1 Z a1 t x h0) (T5.setTop (mkF m 44 #[.val (.ref a1), .val (.int x.toInt8.toInt32), .val (.int (1 : Int32))] []))
  refine Go.step (fun _ k => XS.iloadN X5.here hx rfl (hb hby d_prog_5_method_3_code_44) rfl k) ?_
  show Go FrameEnd p e below s 0 0 (Q4k1 Z a1 t x h0) (T5.setTop (mkF m 45 #[.val (.ref a1), .val (.int x.toInt8.toInt32), .val (.int (1 : Int32))] [(.int (1 : Int32))]))
  refine Go.step (fun _ k => XS.aloadN X5.here hx rfl (hb hby d_prog_5_method_3_code_45) rfl rfl k) ?_
  show Go FrameEnd p e below s 0 0 (Q4k1 Z a1 t x h0) (T5.setTop (mkF m 46 #[.val (.ref a1), .val (.int x.toInt8.toInt32), .val (.int (1 : Int32))] [(.ref a1), (.int (1 : Int32))]))
  obtain ⟨T7, X7, e7, st7⟩ := getF X5 hx hZ hown (host := "") (Or.inl (hw _ (List.mem_of_getElem? (i := 21) rfl))) Via.refl e5 F_content_a1 (g := (mkF m 46 #[.val (.ref a1), .val (.int x.toInt8.toInt32), .val (.int (1 : Int32))] [(.ref a1), (.int (1 : Int32))])) rfl rfl (hb hby d_prog_5_method_3_code_46)
  refine Go.step st7 ?_
  show Go FrameEnd p e below s 0 0 (Q4k1 Z a1 t x h0) (T7.setTop (mkF m 49 #[.val (.ref a1), .val (.int x.toInt8.toInt32), .val (.int (1 : Int32))] [(.ref t), (.int (1 : Int32))]))
  obtain ⟨c8, Ac8, Sc8, Mc8, Gc8⟩ := id V_t
  refine Go.step (X7.arraylength hx (by rw [e7]; exact Ac8.1) (State.isArrayOf_alike hZ.alike Ac8.2.1) (g := (mkF m 49 #[.val (.ref a1), .val (.int x.toInt8.toInt32), .val (.int (1 : Int32))] [(.ref t), (.int (1 : Int32))])) rfl rfl (hb hby d_prog_5_method_3_code_49)) ?_
  rw [show c8.slots.size.toInt32 = (1 : Int32) from by rw [Sc8]; rfl]
  show Go FrameEnd p e below s 0 0 (Q4k1 Z a1 t x h0) (T7.setTop (mkF m 50 #[.val (.ref a1), .val (.int x.toInt8.toInt32), .val (.int (1 : Int32))] [(.int (1 : Int32)), (.int (1 : Int32))]))
  refine Go.step (fun _ k => XS.icmpYes X7.here hx rfl (pc0 := 50) (pc' := 75) rfl (hb hby d_prog_5_method_3_code_50) rfl (flt (by decide)).2.1 (by decide) (by decide) k) ?_
  show Go FrameEnd p e below s 0 0 (Q4k1 Z a1 t x h0) (T7.setTop (mkF m 75 #[.val (.ref a1), .val (.int x.toInt8.toInt32), .val (.int (1 : Int32))] []))
  refine Go.step (fun _ k => XS.iloadN X7.here hx rfl (hb hby d_prog_5_method_3_code_75) rfl k) ?_
  show Go FrameEnd p e below s 0 0 (Q4k1 Z a1 t x h0) (T7.setTop (mkF m 76 #[.val (.ref a1), .val (.int x.toInt8.toInt32), .val (.int (1 : Int32))] [(.int x.toInt8.toInt32)]))
  refine Go.retI X7 hx Bd.returns (hb hby d_prog_5_method_3_code_76) (BodyLoose.notSynchronized Bd) e7 (by decide) (by decide) ?_
  exact ⟨rfl, rfl, rfl⟩
def Q3k2 (Z : State) (p1 : Int32) (h0 : Heap) (n0 : Nat) (v : Option Value) (h : Heap) (L : List Loc) : Prop := ∃ b : Addr, v = some (.ref b) ∧ Fr n0 L ∧ h0.size ≤ b ∧ (Keep h0 h []) ∧ (Av Z h b .byte 2 (aset (aset (fun _ => (.int (0 : Int32))) 0 (.int (ushI p1 (8 : Int32)).toInt8.toInt32)) 1 (.int p1.toInt8.toInt32)))
theorem ef_3k2 (m : MethodId) (p1 : Int32) : entryFrame m #[(.int p1), (.int (2 : Int32))] 2 = mkF m 0 #[.val (.int p1), .val (.int (2 : Int32))] [] := by first | (simp [entryFrame, mkF, argsToLocals, Value.category]; done) | rfl
set_option maxRecDepth 65536 in
set_option maxHeartbeats 40000000 in
theorem rm3k2 (l : Launch) (Z : State) (a0 : Array Value) (hw : ∀ d ∈ tables_1, d.before a0 Z = true) (ws : List Jvm.Cond) (p1 : Int32) (h0 : Heap) (n0 : Nat) (Z0 : n0 ≤ h0.size) :
    MetFree l (⟨"com/example/keylattice/keylattice/ElementIntegerPinLaw", "lastBytes", "(II)[B"⟩ : MethodName) (head1 (Jvm.Cond.code (⟨"com/example/keylattice/keylattice/ElementIntegerPinLaw", "lastBytes", "(II)[B"⟩ : MethodName) method_2_code 2 (some (.array .byte)) :: ws) ({ frames := 0, cells := 1, slots := 2, locals := 0 } : Room)) (fun a U => a = #[(.int p1), (.int (2 : Int32))] ∧ Z.Warmed39 U.vm ∧ U.heap = h0) (fun _ _ _ _ _ => True) (fun _ U o U' => ∃ v L, o = .returned v ∧ (Q3k2 Z p1 h0 n0) v U'.heap L ∧ FrameEnd U o U' L 1 2) := by
  refine MetFree.of_bodySF (plainFor_of_name pn_com_example_keylattice_keylattice_ElementIntegerPinLaw) hisR ?_
  intro p e s m args below meth c s₁ Bd hml0 hP hK
  obtain ⟨rfl, hZ, hh⟩ := hP
  have hx := Bd.exec
  have hby := Bd.bytes
  have hml : c.maxLocals = 2 := hml0
  have hown : s.vm.findClass "com/example/keylattice/keylattice/ElementIntegerPinLaw" = some m.cls := findClass_of_methodNamed Bd.named
  have hnm := (name_of_methodNamed Bd.named Bd.method).1
  have X0 : Stand p l e ({ frames := 0, cells := 1, slots := 2, locals := 0 } : Room) s m #[(.int p1), (.int (2 : Int32))] below meth c s₁ [] 0 0 := Stand.of_body Bd
  have e0 : s₁.heap = h0 := by rw [← hh, Bd.state]; rfl
  have N0 := Fr.nil n0
  show Go FrameEnd p e below s 1 2 (Q3k2 Z p1 h0 n0) _
  refine Go.step (fun _ k => castTop (ef_3k2 m p1) k) ?_
  show Go FrameEnd p e below s 1 2 (Q3k2 Z p1 h0 n0) (s₁.setTop (mkF m 0 #[.val (.int p1), .val (.int (2 : Int32))] []))
  refine Go.step (fun _ k => XS.iloadN X0.here hx rfl (hb hby d_method_2_code_0) rfl k) ?_
  show Go FrameEnd p e below s 1 2 (Q3k2 Z p1 h0 n0) (s₁.setTop (mkF m 1 #[.val (.int p1), .val (.int (2 : Int32))] [(.int (2 : Int32))]))
  refine Go.step (fun _ k => XS.iconst X0.here hx rfl (hb hby d_method_2_code_1) k) ?_
  show Go FrameEnd p e below s 1 2 (Q3k2 Z p1 h0 n0) (s₁.setTop (mkF m 2 #[.val (.int p1), .val (.int (2 : Int32))] [(.int (1 : Int32)), (.int (2 : Int32))]))
  refine Go.step (fun _ k => XS.icmpYes X0.here hx rfl (pc0 := 2) (pc' := 14) rfl (hb hby d_method_2_code_2) rfl (feq (by decide)).2 (by decide) (by decide) k) ?_
  show Go FrameEnd p e below s 1 2 (Q3k2 Z p1 h0 n0) (s₁.setTop (mkF m 14 #[.val (.int p1), .val (.int (2 : Int32))] []))
  refine Go.step (fun _ k => XS.iloadN X0.here hx rfl (hb hby d_method_2_code_14) rfl k) ?_
  show Go FrameEnd p e below s 1 2 (Q3k2 Z p1 h0 n0) (s₁.setTop (mkF m 15 #[.val (.int p1), .val (.int (2 : Int32))] [(.int (2 : Int32))]))
  refine Go.step (fun _ k => XS.iconst X0.here hx rfl (hb hby d_method_2_code_15) k) ?_
  show Go FrameEnd p e below s 1 2 (Q3k2 Z p1 h0 n0) (s₁.setTop (mkF m 16 #[.val (.int p1), .val (.int (2 : Int32))] [(.int (2 : Int32)), (.int (2 : Int32))]))
  refine Go.step (fun _ k => XS.icmpNo X0.here hx rfl (hb hby d_method_2_code_16) rfl (teq rfl).2 k) ?_
  show Go FrameEnd p e below s 1 2 (Q3k2 Z p1 h0 n0) (s₁.setTop (mkF m 19 #[.val (.int p1), .val (.int (2 : Int32))] []))
  refine Go.step (fun _ k => XS.iconst X0.here hx rfl (hb hby d_method_2_code_19) k) ?_
  show Go FrameEnd p e below s 1 2 (Q3k2 Z p1 h0 n0) (s₁.setTop (mkF m 20 #[.val (.int p1), .val (.int (2 : Int32))] [(.int (2 : Int32))]))
  obtain ⟨T1, h1, k1, X1, e1, E1, A1, st1⟩ := newP X0 hx hZ (hw _ (List.mem_of_getElem? (i := 4) rfl)) e0 (g := (mkF m 20 #[.val (.int p1), .val (.int (2 : Int32))] [(.int (2 : Int32))])) rfl (hb hby d_method_2_code_20) rfl (by decide) (cap := 2) (by decide) (by decide) (by decide) (by decide)
  refine Go.step st1 ?_
  obtain ⟨b1, g1⟩ : ∃ z, z = h0.size := ⟨_, rfl⟩
  rw [← g1] at A1 ⊢
  have g_b1 : n0 ≤ b1 := Nat.le_trans Z0 (Nat.le_of_eq g1.symm)
  have Z1 : n0 ≤ h1.size := Nat.le_trans Z0 E1.1
  have K01 : Keep h0 h1 [] := (Keep.refl h0 []).ext E1
  have sz_b1 : h0.size ≤ b1 := Nat.le_trans (Keep.refl h0 []).1 (Nat.le_of_eq g1.symm)
  have V1 : Av Z h1 b1 .byte 2 (fun _ => (.int (0 : Int32))) := Av.new A1 (by decide) rfl
  show Go FrameEnd p e below s 1 2 (Q3k2 Z p1 h0 n0) (T1.setTop (mkF m 22 #[.val (.int p1), .val (.int (2 : Int32))] [(.ref b1)]))
  refine Go.step (fun _ k => XS.dup X1.here hx rfl (hb hby d_method_2_code_22) rfl rfl k) ?_
  show Go FrameEnd p e below s 1 2 (Q3k2 Z p1 h0 n0) (T1.setTop (mkF m 23 #[.val (.int p1), .val (.int (2 : Int32))] [(.ref b1), (.ref b1)]))
  refine Go.step (fun _ k => XS.iconst X1.here hx rfl (hb hby d_method_2_code_23) k) ?_
  show Go FrameEnd p e below s 1 2 (Q3k2 Z p1 h0 n0) (T1.setTop (mkF m 24 #[.val (.int p1), .val (.int (2 : Int32))] [(.int (0 : Int32)), (.ref b1), (.ref b1)]))
  refine Go.step (fun _ k => XS.iloadN X1.here hx rfl (hb hby d_method_2_code_24) rfl k) ?_
  show Go FrameEnd p e below s 1 2 (Q3k2 Z p1 h0 n0) (T1.setTop (mkF m 25 #[.val (.int p1), .val (.int (2 : Int32))] [(.int p1), (.int (0 : Int32)), (.ref b1), (.ref b1)]))
  refine Go.step (fun _ k => XS.bipush X1.here hx rfl (hb hby d_method_2_code_25) k) ?_
  show Go FrameEnd p e below s 1 2 (Q3k2 Z p1 h0 n0) (T1.setTop (mkF m 27 #[.val (.int p1), .val (.int (2 : Int32))] [(.int (8 : Int32)), (.int p1), (.int (0 : Int32)), (.ref b1), (.ref b1)]))
  refine Go.step (fun _ k => XS.iushr X1.here hx rfl (hb hby d_method_2_code_27) rfl k) ?_
  show Go FrameEnd p e below s 1 2 (Q3k2 Z p1 h0 n0) (T1.setTop (mkF m 28 #[.val (.int p1), .val (.int (2 : Int32))] [(.int (ushI p1 (8 : Int32))), (.int (0 : Int32)), (.ref b1), (.ref b1)]))
  refine Go.step (fun _ k => XS.i2b X1.here hx rfl (hb hby d_method_2_code_28) rfl k) ?_
  show Go FrameEnd p e below s 1 2 (Q3k2 Z p1 h0 n0) (T1.setTop (mkF m 29 #[.val (.int p1), .val (.int (2 : Int32))] [(.int (ushI p1 (8 : Int32)).toInt8.toInt32), (.int (0 : Int32)), (.ref b1), (.ref b1)]))
  obtain ⟨c2, Ac2, Sc2, Mc2, Gc2⟩ := id V1
  obtain ⟨T3, h3, X3, e3, W3, st3⟩ := stB X1 hx hZ e1 Ac2 (j := (0 : Int32)) (own_in Sc2 (by decide) (by decide)) (g := (mkF m 29 #[.val (.int p1), .val (.int (2 : Int32))] [(.int (ushI p1 (8 : Int32)).toInt8.toInt32), (.int (0 : Int32)), (.ref b1), (.ref b1)])) rfl rfl (hb hby d_method_2_code_29)
  refine Go.step st3 ?_
  rw [own_nar8] at W3
  have N3 := Fr.snoc X3 N0 g_b1
  have Z3 : n0 ≤ h3.size := Nat.le_trans Z1 (Keep.of_wr W3).1
  have K03 : Keep h0 h3 [] := K01.wr W3 (Or.inr sz_b1)
  have V3 : Av Z h3 b1 .byte 2 (aset (fun _ => (.int (0 : Int32))) 0 (.int (ushI p1 (8 : Int32)).toInt8.toInt32)) := Av.set Ac2 Sc2 Mc2 Gc2 W3 (by rfl) (own_in Sc2 (by decide) (by decide))
  show Go FrameEnd p e below s 1 2 (Q3k2 Z p1 h0 n0) (T3.setTop (mkF m 30 #[.val (.int p1), .val (.int (2 : Int32))] [(.ref b1)]))
  refine Go.step (fun _ k => XS.dup X3.here hx rfl (hb hby d_method_2_code_30) rfl rfl k) ?_
  show Go FrameEnd p e below s 1 2 (Q3k2 Z p1 h0 n0) (T3.setTop (mkF m 31 #[.val (.int p1), .val (.int (2 : Int32))] [(.ref b1), (.ref b1)]))
  refine Go.step (fun _ k => XS.iconst X3.here hx rfl (hb hby d_method_2_code_31) k) ?_
  show Go FrameEnd p e below s 1 2 (Q3k2 Z p1 h0 n0) (T3.setTop (mkF m 32 #[.val (.int p1), .val (.int (2 : Int32))] [(.int (1 : Int32)), (.ref b1), (.ref b1)]))
  refine Go.step (fun _ k => XS.iloadN X3.here hx rfl (hb hby d_method_2_code_32) rfl k) ?_
  show Go FrameEnd p e below s 1 2 (Q3k2 Z p1 h0 n0) (T3.setTop (mkF m 33 #[.val (.int p1), .val (.int (2 : Int32))] [(.int p1), (.int (1 : Int32)), (.ref b1), (.ref b1)]))
  refine Go.step (fun _ k => XS.i2b X3.here hx rfl (hb hby d_method_2_code_33) rfl k) ?_
  show Go FrameEnd p e below s 1 2 (Q3k2 Z p1 h0 n0) (T3.setTop (mkF m 34 #[.val (.int p1), .val (.int (2 : Int32))] [(.int p1.toInt8.toInt32), (.int (1 : Int32)), (.ref b1), (.ref b1)]))
  obtain ⟨c4, Ac4, Sc4, Mc4, Gc4⟩ := id V3
  obtain ⟨T5, h5, X5, e5, W5, st5⟩ := stB X3 hx hZ e3 Ac4 (j := (1 : Int32)) (own_in Sc4 (by decide) (by decide)) (g := (mkF m 34 #[.val (.int p1), .val (.int (2 : Int32))] [(.int p1.toInt8.toInt32), (.int (1 : Int32)), (.ref b1), (.ref b1)])) rfl rfl (hb hby d_method_2_code_34)
  refine Go.step st5 ?_
  rw [own_nar8] at W5
  have N5 := Fr.snoc X5 N3 g_b1
  have Z5 : n0 ≤ h5.size := Nat.le_trans Z3 (Keep.of_wr W5).1
  have K05 : Keep h0 h5 [] := K03.wr W5 (Or.inr sz_b1)
  have V5 : Av Z h5 b1 .byte 2 (aset (aset (fun _ => (.int (0 : Int32))) 0 (.int (ushI p1 (8 : Int32)).toInt8.toInt32)) 1 (.int p1.toInt8.toInt32)) := Av.set Ac4 Sc4 Mc4 Gc4 W5 (by rfl) (own_in Sc4 (by decide) (by decide))
  show Go FrameEnd p e below s 1 2 (Q3k2 Z p1 h0 n0) (T5.setTop (mkF m 35 #[.val (.int p1), .val (.int (2 : Int32))] [(.ref b1)]))
  refine Go.retR X5 hx Bd.returns rfl rfl (hb hby d_method_2_code_35) (BodyLoose.notSynchronized Bd) e5 (by decide) (by decide) ?_
  exact ⟨b1, rfl, N5, sz_b1, K05, V5⟩
def Q4k2 (Z : State) (a1 : Addr) (t : Addr) (x : Int32) (h0 : Heap) (v : Option Value) (h : Heap) (L : List Loc) : Prop := v = some (.int (((ushI x (8 : Int32)).toInt8.toInt32 <<< ((8 : Int32) &&& 31)) ||| (x.toInt8.toInt32 &&& (255 : Int32)))) ∧ L = [] ∧ h = h0
theorem ef_4k2 (m : MethodId) (a1 : Addr) : entryFrame m #[(.ref a1)] 3 = mkF m 0 #[.val (.ref a1), .unset, .unset] [] := by first | (simp [entryFrame, mkF, argsToLocals, Value.category]; done) | rfl
set_option maxRecDepth 65536 in
set_option maxHeartbeats 40000000 in
theorem rm4k2 (l : Launch) (Z : State) (a0 : Array Value) (hw : ∀ d ∈ tables_1, d.before a0 Z = true) (ws : List Jvm.Cond) (a1 : Addr) (t : Addr) (x : Int32) (h0 : Heap) (F_content_a1 : Fld Z h0 a1 "com/example/keylattice/keylattice/Ber$Element" "content" "[B" (.ref t)) (V_t : Av Z h0 t .byte 2 (aset (aset (fun _ => (.int (0 : Int32))) 0 (.int (ushI x (8 : Int32)).toInt8.toInt32)) 1 (.int x.toInt8.toInt32))) :
    MetFree l (⟨"com/example/keylattice/keylattice/Ber$Element", "integer", "()I"⟩ : MethodName) (head1 (Jvm.Cond.code (⟨"com/example/keylattice/keylattice/Ber$Element", "integer", "()I"⟩ : MethodName) prog_5_method_3_code 3 (some .int) :: ws) ({ frames := 0, cells := 0, slots := 0, locals := 0 } : Room)) (fun a U => a = #[(.ref a1)] ∧ Z.Warmed39 U.vm ∧ U.heap = h0) (fun _ _ _ _ _ => True) (fun _ U o U' => ∃ v L, o = .returned v ∧ (Q4k2 Z a1 t x h0) v U'.heap L ∧ FrameEnd U o U' L 0 0) := by
  refine MetFree.of_bodySF (plainFor_of_name pn_com_example_keylattice_keylattice_Ber_Element) hisR ?_
  intro p e s m args below meth c s₁ Bd hml0 hP hK
  obtain ⟨rfl, hZ, hh⟩ := hP
  have hx := Bd.exec
  have hby := Bd.bytes
  have hml : c.maxLocals = 3 := hml0
  have hown : s.vm.findClass "com/example/keylattice/keylattice/Ber$Element" = some m.cls := findClass_of_methodNamed Bd.named
  have hnm := (name_of_methodNamed Bd.named Bd.method).1
  have X0 : Stand p l e ({ frames := 0, cells := 0, slots := 0, locals := 0 } : Room) s m #[(.ref a1)] below meth c s₁ [] 0 0 := Stand.of_body Bd
  have e0 : s₁.heap = h0 := by rw [← hh, Bd.state]; rfl
  show Go FrameEnd p e below s 0 0 (Q4k2 Z a1 t x h0) _
  refine Go.step (fun _ k => castTop (ef_4k2 m a1) k) ?_
  show Go FrameEnd p e below s 0 0 (Q4k2 Z a1 t x h0) (s₁.setTop (mkF m 0 #[.val (.ref a1), .unset, .unset] []))
  refine Go.step (fun _ k => XS.aloadN X0.here hx rfl (hb hby d_prog_5_method_3_code_0) rfl rfl k) ?_
  show Go FrameEnd p e below s 0 0 (Q4k2 Z a1 t x h0) (s₁.setTop (mkF m 1 #[.val (.ref a1), .unset, .unset] [(.ref a1)]))
  obtain ⟨T1, X1, e1, st1⟩ := getF X0 hx hZ hown (host := "") (Or.inl (hw _ (List.mem_of_getElem? (i := 21) rfl))) Via.refl e0 F_content_a1 (g := (mkF m 1 #[.val (.ref a1), .unset, .unset] [(.ref a1)])) rfl rfl (hb hby d_prog_5_method_3_code_1)
  refine Go.step st1 ?_
  show Go FrameEnd p e below s 0 0 (Q4k2 Z a1 t x h0) (T1.setTop (mkF m 4 #[.val (.ref a1), .unset, .unset] [(.ref t)]))
  obtain ⟨c2, Ac2, Sc2, Mc2, Gc2⟩ := id V_t
  refine Go.step (X1.arraylength hx (by rw [e1]; exact Ac2.1) (State.isArrayOf_alike hZ.alike Ac2.2.1) (g := (mkF m 4 #[.val (.ref a1), .unset, .unset] [(.ref t)])) rfl rfl (hb hby d_prog_5_method_3_code_4)) ?_
  rw [show c2.slots.size.toInt32 = (2 : Int32) from by rw [Sc2]; rfl]
  show Go FrameEnd p e below s 0 0 (Q4k2 Z a1 t x h0) (T1.setTop (mkF m 5 #[.val (.ref a1), .unset, .unset] [(.int (2 : Int32))]))
  refine Go.step (fun _ k => XS.ifNo X1.here hx rfl (hb hby d_prog_5_method_3_code_5) rfl ((if0 _ _).trans (feq (by decide)).1) k) ?_
  show Go FrameEnd p e below s 0 0 (Q4k2 Z a1 t x h0) (T1.setTop (mkF m 8 #[.val (.ref a1), .unset, .unset] []))
  refine Go.step (fun _ k => XS.aloadN X1.here hx rfl (hb hby d_prog_5_method_3_code_8) rfl rfl k) ?_
  show Go FrameEnd p e below s 0 0 (Q4k2 Z a1 t x h0) (T1.setTop (mkF m 9 #[.val (.ref a1), .unset, .unset] [(.ref a1)]))
  obtain ⟨T3, X3, e3, st3⟩ := getF X1 hx hZ hown (host := "") (Or.inl (hw _ (List.mem_of_getElem? (i := 21) rfl))) Via.refl e1 F_content_a1 (g := (mkF m 9 #[.val (.ref a1), .unset, .unset] [(.ref a1)])) rfl rfl (hb hby d_prog_5_method_3_code_9)
  refine Go.step st3 ?_
  show Go FrameEnd p e below s 0 0 (Q4k2 Z a1 t x h0) (T3.setTop (mkF m 12 #[.val (.ref a1), .unset, .unset] [(.ref t)]))
  obtain ⟨c4, Ac4, Sc4, Mc4, Gc4⟩ := id V_t
  refine Go.step (X3.arraylength hx (by rw [e3]; exact Ac4.1) (State.isArrayOf_alike hZ.alike Ac4.2.1) (g := (mkF m 12 #[.val (.ref a1), .unset, .unset] [(.ref t)])) rfl rfl (hb hby d_prog_5_method_3_code_12)) ?_
  rw [show c4.slots.size.toInt32 = (2 : Int32) from by rw [Sc4]; rfl]
  show Go FrameEnd p e below s 0 0 (Q4k2 Z a1 t x h0) (T3.setTop (mkF m 13 #[.val (.ref a1), .unset, .unset] [(.int (2 : Int32))]))
  refine Go.step (fun _ k => XS.iconst X3.here hx rfl (hb hby d_prog_5_method_3_code_13) k) ?_
  show Go FrameEnd p e below s 0 0 (Q4k2 Z a1 t x h0) (T3.setTop (mkF m 14 #[.val (.ref a1), .unset, .unset] [(.int (4 : Int32)), (.int (2 : Int32))]))
  refine Go.step (fun _ k => XS.icmpYes X3.here hx rfl (pc0 := 14) (pc' := 35) rfl (hb hby d_prog_5_method_3_code_14) rfl (flt (by decide)).2.2.2 (by decide) (by decide) k) ?_
  show Go FrameEnd p e below s 0 0 (Q4k2 Z a1 t x h0) (T3.setTop (mkF m 35 #[.val (.ref a1), .unset, .unset] []))
  refine Go.step (fun _ k => XS.aloadN X3.here hx rfl (hb hby d_prog_5_method_3_code_35) rfl rfl k) ?_
  show Go FrameEnd p e below s 0 0 (Q4k2 Z a1 t x h0) (T3.setTop (mkF m 36 #[.val (.ref a1), .unset, .unset] [(.ref a1)]))
  obtain ⟨T5, X5, e5, st5⟩ := getF X3 hx hZ hown (host := "") (Or.inl (hw _ (List.mem_of_getElem? (i := 21) rfl))) Via.refl e3 F_content_a1 (g := (mkF m 36 #[.val (.ref a1), .unset, .unset] [(.ref a1)])) rfl rfl (hb hby d_prog_5_method_3_code_36)
  refine Go.step st5 ?_
  show Go FrameEnd p e below s 0 0 (Q4k2 Z a1 t x h0) (T5.setTop (mkF m 39 #[.val (.ref a1), .unset, .unset] [(.ref t)]))
  refine Go.step (fun _ k => XS.iconst X5.here hx rfl (hb hby d_prog_5_method_3_code_39) k) ?_
  show Go FrameEnd p e below s 0 0 (Q4k2 Z a1 t x h0) (T5.setTop (mkF m 40 #[.val (.ref a1), .unset, .unset] [(.int (0 : Int32)), (.ref t)]))
  obtain ⟨c6, Ac6, Sc6, Mc6, Gc6⟩ := id V_t
  refine Go.step (X5.baloadBytes hx (j := (0 : Int32)) (v := (.int (ushI x (8 : Int32)).toInt8.toInt32)) (by rw [e5]; exact Ac6.1) (State.isArrayOf_alike hZ.alike Ac6.2.1) Ac6.2.2 (own_in Sc6 (by decide) (by decide)) (Av.at Gc6 (by rfl) (by decide) rfl) (g := (mkF m 40 #[.val (.ref a1), .unset, .unset] [(.int (0 : Int32)), (.ref t)])) rfl rfl (hb hby d_prog_5_method_3_code_40)) ?_
  show Go FrameEnd p e below s 0 0 (Q4k2 Z a1 t x h0) (T5.setTop (mkF m 41 #[.val (.ref a1), .unset, .unset] [(.int (ushI x (8 : Int32)).toInt8.toInt32)]))
  refine Go.step (fun _ k => XS.istoreN X5.here hx rfl (hb hby d_prog_5_method_3_code_41) rfl (l' := #[.val (.ref a1), .val (.int (ushI x (8 : Int32)).toInt8.toInt32), .unset]) rfl k) ?_
  show Go FrameEnd p e below s 0 0 (Q4k2 Z a1 t x h0) (T5.setTop (mkF m 42 #[.val (.ref a1), .val (.int (ushI x (8 : Int32)).toInt8.toInt32), .unset] []))
  refine Go.step (fun _ k => XS.iconst X5.here hx rfl (hb hby d_prog_5_method_3_code_42) k) ?_
  show Go FrameEnd p e below s 0 0 (Q4k2 Z a1 t x h0) (T5.setTop (mkF m 43 #[.val (.ref a1), .val (.int (ushI x (8 : Int32)).toInt8.toInt32), .unset] [(.int (1 : Int32))]))
  refine Go.step (fun _ k => XS.istoreN X5.here hx rfl (hb hby d_prog_5_method_3_code_43) rfl (l' := #[.val (.ref a1), .val (.int (ushI x (8 : Int32)).toInt8.toInt32), .val (.int (1 : Int32))]) rfl k) ?_
  show Go FrameEnd p e below s 0 0 (Q4k2 Z a1 t x h0) (T5.setTop (mkF m 44 #[.val (.ref a1), .val (.int (ushI x (8 : Int32)).toInt8.toInt32), .val (.int (1 : Int32))] []))
  refine Go.step (fun _ k => XS.iloadN X5.here hx rfl (hb hby d_prog_5_method_3_code_44) rfl k) ?_
  show Go FrameEnd p e below s 0 0 (Q4k2 Z a1 t x h0) (T5.setTop (mkF m 45 #[.val (.ref a1), .val (.int (ushI x (8 : Int32)).toInt8.toInt32), .val (.int (1 : Int32))] [(.int (1 : Int32))]))
  refine Go.step (fun _ k => XS.aloadN X5.here hx rfl (hb hby d_prog_5_method_3_code_45) rfl rfl k) ?_
  show Go FrameEnd p e below s 0 0 (Q4k2 Z a1 t x h0) (T5.setTop (mkF m 46 #[.val (.ref a1), .val (.int (ushI x (8 : Int32)).toInt8.toInt32), .val (.int (1 : Int32))] [(.ref a1), (.int (1 : Int32))]))
  obtain ⟨T7, X7, e7, st7⟩ := getF X5 hx hZ hown (host := "") (Or.inl (hw _ (List.mem_of_getElem? (i := 21) rfl))) Via.refl e5 F_content_a1 (g := (mkF m 46 #[.val (.ref a1), .val (.int (ushI x (8 : Int32)).toInt8.toInt32), .val (.int (1 : Int32))] [(.ref a1), (.int (1 : Int32))])) rfl rfl (hb hby d_prog_5_method_3_code_46)
  refine Go.step st7 ?_
  show Go FrameEnd p e below s 0 0 (Q4k2 Z a1 t x h0) (T7.setTop (mkF m 49 #[.val (.ref a1), .val (.int (ushI x (8 : Int32)).toInt8.toInt32), .val (.int (1 : Int32))] [(.ref t), (.int (1 : Int32))]))
  obtain ⟨c8, Ac8, Sc8, Mc8, Gc8⟩ := id V_t
  refine Go.step (X7.arraylength hx (by rw [e7]; exact Ac8.1) (State.isArrayOf_alike hZ.alike Ac8.2.1) (g := (mkF m 49 #[.val (.ref a1), .val (.int (ushI x (8 : Int32)).toInt8.toInt32), .val (.int (1 : Int32))] [(.ref t), (.int (1 : Int32))])) rfl rfl (hb hby d_prog_5_method_3_code_49)) ?_
  rw [show c8.slots.size.toInt32 = (2 : Int32) from by rw [Sc8]; rfl]
  show Go FrameEnd p e below s 0 0 (Q4k2 Z a1 t x h0) (T7.setTop (mkF m 50 #[.val (.ref a1), .val (.int (ushI x (8 : Int32)).toInt8.toInt32), .val (.int (1 : Int32))] [(.int (2 : Int32)), (.int (1 : Int32))]))
  refine Go.step (fun _ k => XS.icmpNo X7.here hx rfl (hb hby d_prog_5_method_3_code_50) rfl (tlt (by decide)).2.1 k) ?_
  show Go FrameEnd p e below s 0 0 (Q4k2 Z a1 t x h0) (T7.setTop (mkF m 53 #[.val (.ref a1), .val (.int (ushI x (8 : Int32)).toInt8.toInt32), .val (.int (1 : Int32))] []))
  refine Go.step (fun _ k => XS.iloadN X7.here hx rfl (hb hby d_prog_5_method_3_code_53) rfl k) ?_
  show Go FrameEnd p e below s 0 0 (Q4k2 Z a1 t x h0) (T7.setTop (mkF m 54 #[.val (.ref a1), .val (.int (ushI x (8 : Int32)).toInt8.toInt32), .val (.int (1 : Int32))] [(.int (ushI x (8 : Int32)).toInt8.toInt32)]))
  refine Go.step (fun _ k => XS.bipush X7.here hx rfl (hb hby d_prog_5_method_3_code_54) k) ?_
  show Go FrameEnd p e below s 0 0 (Q4k2 Z a1 t x h0) (T7.setTop (mkF m 56 #[.val (.ref a1), .val (.int (ushI x (8 : Int32)).toInt8.toInt32), .val (.int (1 : Int32))] [(.int (8 : Int32)), (.int (ushI x (8 : Int32)).toInt8.toInt32)]))
  refine Go.step (fun _ k => XS.ishl X7.here hx rfl (hb hby d_prog_5_method_3_code_56) rfl k) ?_
  show Go FrameEnd p e below s 0 0 (Q4k2 Z a1 t x h0) (T7.setTop (mkF m 57 #[.val (.ref a1), .val (.int (ushI x (8 : Int32)).toInt8.toInt32), .val (.int (1 : Int32))] [(.int ((ushI x (8 : Int32)).toInt8.toInt32 <<< ((8 : Int32) &&& 31)))]))
  refine Go.step (fun _ k => XS.aloadN X7.here hx rfl (hb hby d_prog_5_method_3_code_57) rfl rfl k) ?_
  show Go FrameEnd p e below s 0 0 (Q4k2 Z a1 t x h0) (T7.setTop (mkF m 58 #[.val (.ref a1), .val (.int (ushI x (8 : Int32)).toInt8.toInt32), .val (.int (1 : Int32))] [(.ref a1), (.int ((ushI x (8 : Int32)).toInt8.toInt32 <<< ((8 : Int32) &&& 31)))]))
  obtain ⟨T9, X9, e9, st9⟩ := getF X7 hx hZ hown (host := "") (Or.inl (hw _ (List.mem_of_getElem? (i := 21) rfl))) Via.refl e7 F_content_a1 (g := (mkF m 58 #[.val (.ref a1), .val (.int (ushI x (8 : Int32)).toInt8.toInt32), .val (.int (1 : Int32))] [(.ref a1), (.int ((ushI x (8 : Int32)).toInt8.toInt32 <<< ((8 : Int32) &&& 31)))])) rfl rfl (hb hby d_prog_5_method_3_code_58)
  refine Go.step st9 ?_
  show Go FrameEnd p e below s 0 0 (Q4k2 Z a1 t x h0) (T9.setTop (mkF m 61 #[.val (.ref a1), .val (.int (ushI x (8 : Int32)).toInt8.toInt32), .val (.int (1 : Int32))] [(.ref t), (.int ((ushI x (8 : Int32)).toInt8.toInt32 <<< ((8 : Int32) &&& 31)))]))
  refine Go.step (fun _ k => XS.iloadN X9.here hx rfl (hb hby d_prog_5_method_3_code_61) rfl k) ?_
  show Go FrameEnd p e below s 0 0 (Q4k2 Z a1 t x h0) (T9.setTop (mkF m 62 #[.val (.ref a1), .val (.int (ushI x (8 : Int32)).toInt8.toInt32), .val (.int (1 : Int32))] [(.int (1 : Int32)), (.ref t), (.int ((ushI x (8 : Int32)).toInt8.toInt32 <<< ((8 : Int32) &&& 31)))]))
  obtain ⟨c10, Ac10, Sc10, Mc10, Gc10⟩ := id V_t
  refine Go.step (X9.baloadBytes hx (j := (1 : Int32)) (v := (.int x.toInt8.toInt32)) (by rw [e9]; exact Ac10.1) (State.isArrayOf_alike hZ.alike Ac10.2.1) Ac10.2.2 (own_in Sc10 (by decide) (by decide)) (Av.at Gc10 (by rfl) (by decide) rfl) (g := (mkF m 62 #[.val (.ref a1), .val (.int (ushI x (8 : Int32)).toInt8.toInt32), .val (.int (1 : Int32))] [(.int (1 : Int32)), (.ref t), (.int ((ushI x (8 : Int32)).toInt8.toInt32 <<< ((8 : Int32) &&& 31)))])) rfl rfl (hb hby d_prog_5_method_3_code_62)) ?_
  show Go FrameEnd p e below s 0 0 (Q4k2 Z a1 t x h0) (T9.setTop (mkF m 63 #[.val (.ref a1), .val (.int (ushI x (8 : Int32)).toInt8.toInt32), .val (.int (1 : Int32))] [(.int x.toInt8.toInt32), (.int ((ushI x (8 : Int32)).toInt8.toInt32 <<< ((8 : Int32) &&& 31)))]))
  refine Go.step (fun _ k => XS.sipush X9.here hx rfl (hb hby d_prog_5_method_3_code_63) k) ?_
  show Go FrameEnd p e below s 0 0 (Q4k2 Z a1 t x h0) (T9.setTop (mkF m 66 #[.val (.ref a1), .val (.int (ushI x (8 : Int32)).toInt8.toInt32), .val (.int (1 : Int32))] [(.int (255 : Int32)), (.int x.toInt8.toInt32), (.int ((ushI x (8 : Int32)).toInt8.toInt32 <<< ((8 : Int32) &&& 31)))]))
  refine Go.step (fun _ k => XS.iand X9.here hx rfl (hb hby d_prog_5_method_3_code_66) rfl k) ?_
  show Go FrameEnd p e below s 0 0 (Q4k2 Z a1 t x h0) (T9.setTop (mkF m 67 #[.val (.ref a1), .val (.int (ushI x (8 : Int32)).toInt8.toInt32), .val (.int (1 : Int32))] [(.int (x.toInt8.toInt32 &&& (255 : Int32))), (.int ((ushI x (8 : Int32)).toInt8.toInt32 <<< ((8 : Int32) &&& 31)))]))
  refine Go.step (fun _ k => XS.ior X9.here hx rfl (hb hby d_prog_5_method_3_code_67) rfl k) ?_
  show Go FrameEnd p e below s 0 0 (Q4k2 Z a1 t x h0) (T9.setTop (mkF m 68 #[.val (.ref a1), .val (.int (ushI x (8 : Int32)).toInt8.toInt32), .val (.int (1 : Int32))] [(.int (((ushI x (8 : Int32)).toInt8.toInt32 <<< ((8 : Int32) &&& 31)) ||| (x.toInt8.toInt32 &&& (255 : Int32))))]))
  refine Go.step (fun _ k => XS.istoreN X9.here hx rfl (hb hby d_prog_5_method_3_code_68) rfl (l' := #[.val (.ref a1), .val (.int (((ushI x (8 : Int32)).toInt8.toInt32 <<< ((8 : Int32) &&& 31)) ||| (x.toInt8.toInt32 &&& (255 : Int32)))), .val (.int (1 : Int32))]) rfl k) ?_
  show Go FrameEnd p e below s 0 0 (Q4k2 Z a1 t x h0) (T9.setTop (mkF m 69 #[.val (.ref a1), .val (.int (((ushI x (8 : Int32)).toInt8.toInt32 <<< ((8 : Int32) &&& 31)) ||| (x.toInt8.toInt32 &&& (255 : Int32)))), .val (.int (1 : Int32))] []))
  refine Go.step (fun _ k => XS.iinc X9.here hx rfl (hb hby d_prog_5_method_3_code_69) rfl (l' := #[.val (.ref a1), .val (.int (((ushI x (8 : Int32)).toInt8.toInt32 <<< ((8 : Int32) &&& 31)) ||| (x.toInt8.toInt32 &&& (255 : Int32)))), .val (.int (2 : Int32))]) rfl k) ?_
  show Go FrameEnd p e below s 0 0 (Q4k2 Z a1 t x h0) (T9.setTop (mkF m 72 #[.val (.ref a1), .val (.int (((ushI x (8 : Int32)).toInt8.toInt32 <<< ((8 : Int32) &&& 31)) ||| (x.toInt8.toInt32 &&& (255 : Int32)))), .val (.int (2 : Int32))] []))
  refine Go.step (fun _ k => XS.goto X9.here hx rfl (pc0 := 72) (pc' := 44) rfl (hb hby d_prog_5_method_3_code_72) (by decide) (by decide) k) ?_
  show Go FrameEnd p e below s 0 0 (Q4k2 Z a1 t x h0) (T9.setTop (mkF m 44 #[.val (.ref a1), .val (.int (((ushI x (8 : Int32)).toInt8.toInt32 <<< ((8 : Int32) &&& 31)) ||| (x.toInt8.toInt32 &&& (255 : Int32)))), .val (.int (2 : Int32))] []))
  refine Go.step (fun _ k => XS.iloadN X9.here hx rfl (hb hby d_prog_5_method_3_code_44) rfl k) ?_
  show Go FrameEnd p e below s 0 0 (Q4k2 Z a1 t x h0) (T9.setTop (mkF m 45 #[.val (.ref a1), .val (.int (((ushI x (8 : Int32)).toInt8.toInt32 <<< ((8 : Int32) &&& 31)) ||| (x.toInt8.toInt32 &&& (255 : Int32)))), .val (.int (2 : Int32))] [(.int (2 : Int32))]))
  refine Go.step (fun _ k => XS.aloadN X9.here hx rfl (hb hby d_prog_5_method_3_code_45) rfl rfl k) ?_
  show Go FrameEnd p e below s 0 0 (Q4k2 Z a1 t x h0) (T9.setTop (mkF m 46 #[.val (.ref a1), .val (.int (((ushI x (8 : Int32)).toInt8.toInt32 <<< ((8 : Int32) &&& 31)) ||| (x.toInt8.toInt32 &&& (255 : Int32)))), .val (.int (2 : Int32))] [(.ref a1), (.int (2 : Int32))]))
  obtain ⟨T11, X11, e11, st11⟩ := getF X9 hx hZ hown (host := "") (Or.inl (hw _ (List.mem_of_getElem? (i := 21) rfl))) Via.refl e9 F_content_a1 (g := (mkF m 46 #[.val (.ref a1), .val (.int (((ushI x (8 : Int32)).toInt8.toInt32 <<< ((8 : Int32) &&& 31)) ||| (x.toInt8.toInt32 &&& (255 : Int32)))), .val (.int (2 : Int32))] [(.ref a1), (.int (2 : Int32))])) rfl rfl (hb hby d_prog_5_method_3_code_46)
  refine Go.step st11 ?_
  show Go FrameEnd p e below s 0 0 (Q4k2 Z a1 t x h0) (T11.setTop (mkF m 49 #[.val (.ref a1), .val (.int (((ushI x (8 : Int32)).toInt8.toInt32 <<< ((8 : Int32) &&& 31)) ||| (x.toInt8.toInt32 &&& (255 : Int32)))), .val (.int (2 : Int32))] [(.ref t), (.int (2 : Int32))]))
  obtain ⟨c12, Ac12, Sc12, Mc12, Gc12⟩ := id V_t
  refine Go.step (X11.arraylength hx (by rw [e11]; exact Ac12.1) (State.isArrayOf_alike hZ.alike Ac12.2.1) (g := (mkF m 49 #[.val (.ref a1), .val (.int (((ushI x (8 : Int32)).toInt8.toInt32 <<< ((8 : Int32) &&& 31)) ||| (x.toInt8.toInt32 &&& (255 : Int32)))), .val (.int (2 : Int32))] [(.ref t), (.int (2 : Int32))])) rfl rfl (hb hby d_prog_5_method_3_code_49)) ?_
  rw [show c12.slots.size.toInt32 = (2 : Int32) from by rw [Sc12]; rfl]
  show Go FrameEnd p e below s 0 0 (Q4k2 Z a1 t x h0) (T11.setTop (mkF m 50 #[.val (.ref a1), .val (.int (((ushI x (8 : Int32)).toInt8.toInt32 <<< ((8 : Int32) &&& 31)) ||| (x.toInt8.toInt32 &&& (255 : Int32)))), .val (.int (2 : Int32))] [(.int (2 : Int32)), (.int (2 : Int32))]))
  refine Go.step (fun _ k => XS.icmpYes X11.here hx rfl (pc0 := 50) (pc' := 75) rfl (hb hby d_prog_5_method_3_code_50) rfl (flt (by decide)).2.1 (by decide) (by decide) k) ?_
  show Go FrameEnd p e below s 0 0 (Q4k2 Z a1 t x h0) (T11.setTop (mkF m 75 #[.val (.ref a1), .val (.int (((ushI x (8 : Int32)).toInt8.toInt32 <<< ((8 : Int32) &&& 31)) ||| (x.toInt8.toInt32 &&& (255 : Int32)))), .val (.int (2 : Int32))] []))
  refine Go.step (fun _ k => XS.iloadN X11.here hx rfl (hb hby d_prog_5_method_3_code_75) rfl k) ?_
  show Go FrameEnd p e below s 0 0 (Q4k2 Z a1 t x h0) (T11.setTop (mkF m 76 #[.val (.ref a1), .val (.int (((ushI x (8 : Int32)).toInt8.toInt32 <<< ((8 : Int32) &&& 31)) ||| (x.toInt8.toInt32 &&& (255 : Int32)))), .val (.int (2 : Int32))] [(.int (((ushI x (8 : Int32)).toInt8.toInt32 <<< ((8 : Int32) &&& 31)) ||| (x.toInt8.toInt32 &&& (255 : Int32))))]))
  refine Go.retI X11 hx Bd.returns (hb hby d_prog_5_method_3_code_76) (BodyLoose.notSynchronized Bd) e11 (by decide) (by decide) ?_
  exact ⟨rfl, rfl, rfl⟩
def Q3k3 (Z : State) (p1 : Int32) (h0 : Heap) (n0 : Nat) (v : Option Value) (h : Heap) (L : List Loc) : Prop := ∃ b : Addr, v = some (.ref b) ∧ Fr n0 L ∧ h0.size ≤ b ∧ (Keep h0 h []) ∧ (Av Z h b .byte 3 (aset (aset (aset (fun _ => (.int (0 : Int32))) 0 (.int (ushI p1 (16 : Int32)).toInt8.toInt32)) 1 (.int (ushI p1 (8 : Int32)).toInt8.toInt32)) 2 (.int p1.toInt8.toInt32)))
theorem ef_3k3 (m : MethodId) (p1 : Int32) : entryFrame m #[(.int p1), (.int (3 : Int32))] 2 = mkF m 0 #[.val (.int p1), .val (.int (3 : Int32))] [] := by first | (simp [entryFrame, mkF, argsToLocals, Value.category]; done) | rfl
set_option maxRecDepth 65536 in
set_option maxHeartbeats 40000000 in
theorem rm3k3 (l : Launch) (Z : State) (a0 : Array Value) (hw : ∀ d ∈ tables_1, d.before a0 Z = true) (ws : List Jvm.Cond) (p1 : Int32) (h0 : Heap) (n0 : Nat) (Z0 : n0 ≤ h0.size) :
    MetFree l (⟨"com/example/keylattice/keylattice/ElementIntegerPinLaw", "lastBytes", "(II)[B"⟩ : MethodName) (head1 (Jvm.Cond.code (⟨"com/example/keylattice/keylattice/ElementIntegerPinLaw", "lastBytes", "(II)[B"⟩ : MethodName) method_2_code 2 (some (.array .byte)) :: ws) ({ frames := 0, cells := 1, slots := 3, locals := 0 } : Room)) (fun a U => a = #[(.int p1), (.int (3 : Int32))] ∧ Z.Warmed39 U.vm ∧ U.heap = h0) (fun _ _ _ _ _ => True) (fun _ U o U' => ∃ v L, o = .returned v ∧ (Q3k3 Z p1 h0 n0) v U'.heap L ∧ FrameEnd U o U' L 1 3) := by
  refine MetFree.of_bodySF (plainFor_of_name pn_com_example_keylattice_keylattice_ElementIntegerPinLaw) hisR ?_
  intro p e s m args below meth c s₁ Bd hml0 hP hK
  obtain ⟨rfl, hZ, hh⟩ := hP
  have hx := Bd.exec
  have hby := Bd.bytes
  have hml : c.maxLocals = 2 := hml0
  have hown : s.vm.findClass "com/example/keylattice/keylattice/ElementIntegerPinLaw" = some m.cls := findClass_of_methodNamed Bd.named
  have hnm := (name_of_methodNamed Bd.named Bd.method).1
  have X0 : Stand p l e ({ frames := 0, cells := 1, slots := 3, locals := 0 } : Room) s m #[(.int p1), (.int (3 : Int32))] below meth c s₁ [] 0 0 := Stand.of_body Bd
  have e0 : s₁.heap = h0 := by rw [← hh, Bd.state]; rfl
  have N0 := Fr.nil n0
  show Go FrameEnd p e below s 1 3 (Q3k3 Z p1 h0 n0) _
  refine Go.step (fun _ k => castTop (ef_3k3 m p1) k) ?_
  show Go FrameEnd p e below s 1 3 (Q3k3 Z p1 h0 n0) (s₁.setTop (mkF m 0 #[.val (.int p1), .val (.int (3 : Int32))] []))
  refine Go.step (fun _ k => XS.iloadN X0.here hx rfl (hb hby d_method_2_code_0) rfl k) ?_
  show Go FrameEnd p e below s 1 3 (Q3k3 Z p1 h0 n0) (s₁.setTop (mkF m 1 #[.val (.int p1), .val (.int (3 : Int32))] [(.int (3 : Int32))]))
  refine Go.step (fun _ k => XS.iconst X0.here hx rfl (hb hby d_method_2_code_1) k) ?_
  show Go FrameEnd p e below s 1 3 (Q3k3 Z p1 h0 n0) (s₁.setTop (mkF m 2 #[.val (.int p1), .val (.int (3 : Int32))] [(.int (1 : Int32)), (.int (3 : Int32))]))
  refine Go.step (fun _ k => XS.icmpYes X0.here hx rfl (pc0 := 2) (pc' := 14) rfl (hb hby d_method_2_code_2) rfl (feq (by decide)).2 (by decide) (by decide) k) ?_
  show Go FrameEnd p e below s 1 3 (Q3k3 Z p1 h0 n0) (s₁.setTop (mkF m 14 #[.val (.int p1), .val (.int (3 : Int32))] []))
  refine Go.step (fun _ k => XS.iloadN X0.here hx rfl (hb hby d_method_2_code_14) rfl k) ?_
  show Go FrameEnd p e below s 1 3 (Q3k3 Z p1 h0 n0) (s₁.setTop (mkF m 15 #[.val (.int p1), .val (.int (3 : Int32))] [(.int (3 : Int32))]))
  refine Go.step (fun _ k => XS.iconst X0.here hx rfl (hb hby d_method_2_code_15) k) ?_
  show Go FrameEnd p e below s 1 3 (Q3k3 Z p1 h0 n0) (s₁.setTop (mkF m 16 #[.val (.int p1), .val (.int (3 : Int32))] [(.int (2 : Int32)), (.int (3 : Int32))]))
  refine Go.step (fun _ k => XS.icmpYes X0.here hx rfl (pc0 := 16) (pc' := 36) rfl (hb hby d_method_2_code_16) rfl (feq (by decide)).2 (by decide) (by decide) k) ?_
  show Go FrameEnd p e below s 1 3 (Q3k3 Z p1 h0 n0) (s₁.setTop (mkF m 36 #[.val (.int p1), .val (.int (3 : Int32))] []))
  refine Go.step (fun _ k => XS.iloadN X0.here hx rfl (hb hby d_method_2_code_36) rfl k) ?_
  show Go FrameEnd p e below s 1 3 (Q3k3 Z p1 h0 n0) (s₁.setTop (mkF m 37 #[.val (.int p1), .val (.int (3 : Int32))] [(.int (3 : Int32))]))
  refine Go.step (fun _ k => XS.iconst X0.here hx rfl (hb hby d_method_2_code_37) k) ?_
  show Go FrameEnd p e below s 1 3 (Q3k3 Z p1 h0 n0) (s₁.setTop (mkF m 38 #[.val (.int p1), .val (.int (3 : Int32))] [(.int (3 : Int32)), (.int (3 : Int32))]))
  refine Go.step (fun _ k => XS.icmpNo X0.here hx rfl (hb hby d_method_2_code_38) rfl (teq rfl).2 k) ?_
  show Go FrameEnd p e below s 1 3 (Q3k3 Z p1 h0 n0) (s₁.setTop (mkF m 41 #[.val (.int p1), .val (.int (3 : Int32))] []))
  refine Go.step (fun _ k => XS.iconst X0.here hx rfl (hb hby d_method_2_code_41) k) ?_
  show Go FrameEnd p e below s 1 3 (Q3k3 Z p1 h0 n0) (s₁.setTop (mkF m 42 #[.val (.int p1), .val (.int (3 : Int32))] [(.int (3 : Int32))]))
  obtain ⟨T1, h1, k1, X1, e1, E1, A1, st1⟩ := newP X0 hx hZ (hw _ (List.mem_of_getElem? (i := 4) rfl)) e0 (g := (mkF m 42 #[.val (.int p1), .val (.int (3 : Int32))] [(.int (3 : Int32))])) rfl (hb hby d_method_2_code_42) rfl (by decide) (cap := 3) (by decide) (by decide) (by decide) (by decide)
  refine Go.step st1 ?_
  obtain ⟨b1, g1⟩ : ∃ z, z = h0.size := ⟨_, rfl⟩
  rw [← g1] at A1 ⊢
  have g_b1 : n0 ≤ b1 := Nat.le_trans Z0 (Nat.le_of_eq g1.symm)
  have Z1 : n0 ≤ h1.size := Nat.le_trans Z0 E1.1
  have K01 : Keep h0 h1 [] := (Keep.refl h0 []).ext E1
  have sz_b1 : h0.size ≤ b1 := Nat.le_trans (Keep.refl h0 []).1 (Nat.le_of_eq g1.symm)
  have V1 : Av Z h1 b1 .byte 3 (fun _ => (.int (0 : Int32))) := Av.new A1 (by decide) rfl
  show Go FrameEnd p e below s 1 3 (Q3k3 Z p1 h0 n0) (T1.setTop (mkF m 44 #[.val (.int p1), .val (.int (3 : Int32))] [(.ref b1)]))
  refine Go.step (fun _ k => XS.dup X1.here hx rfl (hb hby d_method_2_code_44) rfl rfl k) ?_
  show Go FrameEnd p e below s 1 3 (Q3k3 Z p1 h0 n0) (T1.setTop (mkF m 45 #[.val (.int p1), .val (.int (3 : Int32))] [(.ref b1), (.ref b1)]))
  refine Go.step (fun _ k => XS.iconst X1.here hx rfl (hb hby d_method_2_code_45) k) ?_
  show Go FrameEnd p e below s 1 3 (Q3k3 Z p1 h0 n0) (T1.setTop (mkF m 46 #[.val (.int p1), .val (.int (3 : Int32))] [(.int (0 : Int32)), (.ref b1), (.ref b1)]))
  refine Go.step (fun _ k => XS.iloadN X1.here hx rfl (hb hby d_method_2_code_46) rfl k) ?_
  show Go FrameEnd p e below s 1 3 (Q3k3 Z p1 h0 n0) (T1.setTop (mkF m 47 #[.val (.int p1), .val (.int (3 : Int32))] [(.int p1), (.int (0 : Int32)), (.ref b1), (.ref b1)]))
  refine Go.step (fun _ k => XS.bipush X1.here hx rfl (hb hby d_method_2_code_47) k) ?_
  show Go FrameEnd p e below s 1 3 (Q3k3 Z p1 h0 n0) (T1.setTop (mkF m 49 #[.val (.int p1), .val (.int (3 : Int32))] [(.int (16 : Int32)), (.int p1), (.int (0 : Int32)), (.ref b1), (.ref b1)]))
  refine Go.step (fun _ k => XS.iushr X1.here hx rfl (hb hby d_method_2_code_49) rfl k) ?_
  show Go FrameEnd p e below s 1 3 (Q3k3 Z p1 h0 n0) (T1.setTop (mkF m 50 #[.val (.int p1), .val (.int (3 : Int32))] [(.int (ushI p1 (16 : Int32))), (.int (0 : Int32)), (.ref b1), (.ref b1)]))
  refine Go.step (fun _ k => XS.i2b X1.here hx rfl (hb hby d_method_2_code_50) rfl k) ?_
  show Go FrameEnd p e below s 1 3 (Q3k3 Z p1 h0 n0) (T1.setTop (mkF m 51 #[.val (.int p1), .val (.int (3 : Int32))] [(.int (ushI p1 (16 : Int32)).toInt8.toInt32), (.int (0 : Int32)), (.ref b1), (.ref b1)]))
  obtain ⟨c2, Ac2, Sc2, Mc2, Gc2⟩ := id V1
  obtain ⟨T3, h3, X3, e3, W3, st3⟩ := stB X1 hx hZ e1 Ac2 (j := (0 : Int32)) (own_in Sc2 (by decide) (by decide)) (g := (mkF m 51 #[.val (.int p1), .val (.int (3 : Int32))] [(.int (ushI p1 (16 : Int32)).toInt8.toInt32), (.int (0 : Int32)), (.ref b1), (.ref b1)])) rfl rfl (hb hby d_method_2_code_51)
  refine Go.step st3 ?_
  rw [own_nar8] at W3
  have N3 := Fr.snoc X3 N0 g_b1
  have Z3 : n0 ≤ h3.size := Nat.le_trans Z1 (Keep.of_wr W3).1
  have K03 : Keep h0 h3 [] := K01.wr W3 (Or.inr sz_b1)
  have V3 : Av Z h3 b1 .byte 3 (aset (fun _ => (.int (0 : Int32))) 0 (.int (ushI p1 (16 : Int32)).toInt8.toInt32)) := Av.set Ac2 Sc2 Mc2 Gc2 W3 (by rfl) (own_in Sc2 (by decide) (by decide))
  show Go FrameEnd p e below s 1 3 (Q3k3 Z p1 h0 n0) (T3.setTop (mkF m 52 #[.val (.int p1), .val (.int (3 : Int32))] [(.ref b1)]))
  refine Go.step (fun _ k => XS.dup X3.here hx rfl (hb hby d_method_2_code_52) rfl rfl k) ?_
  show Go FrameEnd p e below s 1 3 (Q3k3 Z p1 h0 n0) (T3.setTop (mkF m 53 #[.val (.int p1), .val (.int (3 : Int32))] [(.ref b1), (.ref b1)]))
  refine Go.step (fun _ k => XS.iconst X3.here hx rfl (hb hby d_method_2_code_53) k) ?_
  show Go FrameEnd p e below s 1 3 (Q3k3 Z p1 h0 n0) (T3.setTop (mkF m 54 #[.val (.int p1), .val (.int (3 : Int32))] [(.int (1 : Int32)), (.ref b1), (.ref b1)]))
  refine Go.step (fun _ k => XS.iloadN X3.here hx rfl (hb hby d_method_2_code_54) rfl k) ?_
  show Go FrameEnd p e below s 1 3 (Q3k3 Z p1 h0 n0) (T3.setTop (mkF m 55 #[.val (.int p1), .val (.int (3 : Int32))] [(.int p1), (.int (1 : Int32)), (.ref b1), (.ref b1)]))
  refine Go.step (fun _ k => XS.bipush X3.here hx rfl (hb hby d_method_2_code_55) k) ?_
  show Go FrameEnd p e below s 1 3 (Q3k3 Z p1 h0 n0) (T3.setTop (mkF m 57 #[.val (.int p1), .val (.int (3 : Int32))] [(.int (8 : Int32)), (.int p1), (.int (1 : Int32)), (.ref b1), (.ref b1)]))
  refine Go.step (fun _ k => XS.iushr X3.here hx rfl (hb hby d_method_2_code_57) rfl k) ?_
  show Go FrameEnd p e below s 1 3 (Q3k3 Z p1 h0 n0) (T3.setTop (mkF m 58 #[.val (.int p1), .val (.int (3 : Int32))] [(.int (ushI p1 (8 : Int32))), (.int (1 : Int32)), (.ref b1), (.ref b1)]))
  refine Go.step (fun _ k => XS.i2b X3.here hx rfl (hb hby d_method_2_code_58) rfl k) ?_
  show Go FrameEnd p e below s 1 3 (Q3k3 Z p1 h0 n0) (T3.setTop (mkF m 59 #[.val (.int p1), .val (.int (3 : Int32))] [(.int (ushI p1 (8 : Int32)).toInt8.toInt32), (.int (1 : Int32)), (.ref b1), (.ref b1)]))
  obtain ⟨c4, Ac4, Sc4, Mc4, Gc4⟩ := id V3
  obtain ⟨T5, h5, X5, e5, W5, st5⟩ := stB X3 hx hZ e3 Ac4 (j := (1 : Int32)) (own_in Sc4 (by decide) (by decide)) (g := (mkF m 59 #[.val (.int p1), .val (.int (3 : Int32))] [(.int (ushI p1 (8 : Int32)).toInt8.toInt32), (.int (1 : Int32)), (.ref b1), (.ref b1)])) rfl rfl (hb hby d_method_2_code_59)
  refine Go.step st5 ?_
  rw [own_nar8] at W5
  have N5 := Fr.snoc X5 N3 g_b1
  have Z5 : n0 ≤ h5.size := Nat.le_trans Z3 (Keep.of_wr W5).1
  have K05 : Keep h0 h5 [] := K03.wr W5 (Or.inr sz_b1)
  have V5 : Av Z h5 b1 .byte 3 (aset (aset (fun _ => (.int (0 : Int32))) 0 (.int (ushI p1 (16 : Int32)).toInt8.toInt32)) 1 (.int (ushI p1 (8 : Int32)).toInt8.toInt32)) := Av.set Ac4 Sc4 Mc4 Gc4 W5 (by rfl) (own_in Sc4 (by decide) (by decide))
  show Go FrameEnd p e below s 1 3 (Q3k3 Z p1 h0 n0) (T5.setTop (mkF m 60 #[.val (.int p1), .val (.int (3 : Int32))] [(.ref b1)]))
  refine Go.step (fun _ k => XS.dup X5.here hx rfl (hb hby d_method_2_code_60) rfl rfl k) ?_
  show Go FrameEnd p e below s 1 3 (Q3k3 Z p1 h0 n0) (T5.setTop (mkF m 61 #[.val (.int p1), .val (.int (3 : Int32))] [(.ref b1), (.ref b1)]))
  refine Go.step (fun _ k => XS.iconst X5.here hx rfl (hb hby d_method_2_code_61) k) ?_
  show Go FrameEnd p e below s 1 3 (Q3k3 Z p1 h0 n0) (T5.setTop (mkF m 62 #[.val (.int p1), .val (.int (3 : Int32))] [(.int (2 : Int32)), (.ref b1), (.ref b1)]))
  refine Go.step (fun _ k => XS.iloadN X5.here hx rfl (hb hby d_method_2_code_62) rfl k) ?_
  show Go FrameEnd p e below s 1 3 (Q3k3 Z p1 h0 n0) (T5.setTop (mkF m 63 #[.val (.int p1), .val (.int (3 : Int32))] [(.int p1), (.int (2 : Int32)), (.ref b1), (.ref b1)]))
  refine Go.step (fun _ k => XS.i2b X5.here hx rfl (hb hby d_method_2_code_63) rfl k) ?_
  show Go FrameEnd p e below s 1 3 (Q3k3 Z p1 h0 n0) (T5.setTop (mkF m 64 #[.val (.int p1), .val (.int (3 : Int32))] [(.int p1.toInt8.toInt32), (.int (2 : Int32)), (.ref b1), (.ref b1)]))
  obtain ⟨c6, Ac6, Sc6, Mc6, Gc6⟩ := id V5
  obtain ⟨T7, h7, X7, e7, W7, st7⟩ := stB X5 hx hZ e5 Ac6 (j := (2 : Int32)) (own_in Sc6 (by decide) (by decide)) (g := (mkF m 64 #[.val (.int p1), .val (.int (3 : Int32))] [(.int p1.toInt8.toInt32), (.int (2 : Int32)), (.ref b1), (.ref b1)])) rfl rfl (hb hby d_method_2_code_64)
  refine Go.step st7 ?_
  rw [own_nar8] at W7
  have N7 := Fr.snoc X7 N5 g_b1
  have Z7 : n0 ≤ h7.size := Nat.le_trans Z5 (Keep.of_wr W7).1
  have K07 : Keep h0 h7 [] := K05.wr W7 (Or.inr sz_b1)
  have V7 : Av Z h7 b1 .byte 3 (aset (aset (aset (fun _ => (.int (0 : Int32))) 0 (.int (ushI p1 (16 : Int32)).toInt8.toInt32)) 1 (.int (ushI p1 (8 : Int32)).toInt8.toInt32)) 2 (.int p1.toInt8.toInt32)) := Av.set Ac6 Sc6 Mc6 Gc6 W7 (by rfl) (own_in Sc6 (by decide) (by decide))
  show Go FrameEnd p e below s 1 3 (Q3k3 Z p1 h0 n0) (T7.setTop (mkF m 65 #[.val (.int p1), .val (.int (3 : Int32))] [(.ref b1)]))
  refine Go.retR X7 hx Bd.returns rfl rfl (hb hby d_method_2_code_65) (BodyLoose.notSynchronized Bd) e7 (by decide) (by decide) ?_
  exact ⟨b1, rfl, N7, sz_b1, K07, V7⟩
def Q4k3 (Z : State) (a1 : Addr) (t : Addr) (x : Int32) (h0 : Heap) (v : Option Value) (h : Heap) (L : List Loc) : Prop := v = some (.int (((((ushI x (16 : Int32)).toInt8.toInt32 <<< ((8 : Int32) &&& 31)) ||| ((ushI x (8 : Int32)).toInt8.toInt32 &&& (255 : Int32))) <<< ((8 : Int32) &&& 31)) ||| (x.toInt8.toInt32 &&& (255 : Int32)))) ∧ L = [] ∧ h = h0
theorem ef_4k3 (m : MethodId) (a1 : Addr) : entryFrame m #[(.ref a1)] 3 = mkF m 0 #[.val (.ref a1), .unset, .unset] [] := by first | (simp [entryFrame, mkF, argsToLocals, Value.category]; done) | rfl
set_option maxRecDepth 65536 in
set_option maxHeartbeats 40000000 in
theorem rm4k3 (l : Launch) (Z : State) (a0 : Array Value) (hw : ∀ d ∈ tables_1, d.before a0 Z = true) (ws : List Jvm.Cond) (a1 : Addr) (t : Addr) (x : Int32) (h0 : Heap) (F_content_a1 : Fld Z h0 a1 "com/example/keylattice/keylattice/Ber$Element" "content" "[B" (.ref t)) (V_t : Av Z h0 t .byte 3 (aset (aset (aset (fun _ => (.int (0 : Int32))) 0 (.int (ushI x (16 : Int32)).toInt8.toInt32)) 1 (.int (ushI x (8 : Int32)).toInt8.toInt32)) 2 (.int x.toInt8.toInt32))) :
    MetFree l (⟨"com/example/keylattice/keylattice/Ber$Element", "integer", "()I"⟩ : MethodName) (head1 (Jvm.Cond.code (⟨"com/example/keylattice/keylattice/Ber$Element", "integer", "()I"⟩ : MethodName) prog_5_method_3_code 3 (some .int) :: ws) ({ frames := 0, cells := 0, slots := 0, locals := 0 } : Room)) (fun a U => a = #[(.ref a1)] ∧ Z.Warmed39 U.vm ∧ U.heap = h0) (fun _ _ _ _ _ => True) (fun _ U o U' => ∃ v L, o = .returned v ∧ (Q4k3 Z a1 t x h0) v U'.heap L ∧ FrameEnd U o U' L 0 0) := by
  refine MetFree.of_bodySF (plainFor_of_name pn_com_example_keylattice_keylattice_Ber_Element) hisR ?_
  intro p e s m args below meth c s₁ Bd hml0 hP hK
  obtain ⟨rfl, hZ, hh⟩ := hP
  have hx := Bd.exec
  have hby := Bd.bytes
  have hml : c.maxLocals = 3 := hml0
  have hown : s.vm.findClass "com/example/keylattice/keylattice/Ber$Element" = some m.cls := findClass_of_methodNamed Bd.named
  have hnm := (name_of_methodNamed Bd.named Bd.method).1
  have X0 : Stand p l e ({ frames := 0, cells := 0, slots := 0, locals := 0 } : Room) s m #[(.ref a1)] below meth c s₁ [] 0 0 := Stand.of_body Bd
  have e0 : s₁.heap = h0 := by rw [← hh, Bd.state]; rfl
  show Go FrameEnd p e below s 0 0 (Q4k3 Z a1 t x h0) _
  refine Go.step (fun _ k => castTop (ef_4k3 m a1) k) ?_
  show Go FrameEnd p e below s 0 0 (Q4k3 Z a1 t x h0) (s₁.setTop (mkF m 0 #[.val (.ref a1), .unset, .unset] []))
  refine Go.step (fun _ k => XS.aloadN X0.here hx rfl (hb hby d_prog_5_method_3_code_0) rfl rfl k) ?_
  show Go FrameEnd p e below s 0 0 (Q4k3 Z a1 t x h0) (s₁.setTop (mkF m 1 #[.val (.ref a1), .unset, .unset] [(.ref a1)]))
  obtain ⟨T1, X1, e1, st1⟩ := getF X0 hx hZ hown (host := "") (Or.inl (hw _ (List.mem_of_getElem? (i := 21) rfl))) Via.refl e0 F_content_a1 (g := (mkF m 1 #[.val (.ref a1), .unset, .unset] [(.ref a1)])) rfl rfl (hb hby d_prog_5_method_3_code_1)
  refine Go.step st1 ?_
  show Go FrameEnd p e below s 0 0 (Q4k3 Z a1 t x h0) (T1.setTop (mkF m 4 #[.val (.ref a1), .unset, .unset] [(.ref t)]))
  obtain ⟨c2, Ac2, Sc2, Mc2, Gc2⟩ := id V_t
  refine Go.step (X1.arraylength hx (by rw [e1]; exact Ac2.1) (State.isArrayOf_alike hZ.alike Ac2.2.1) (g := (mkF m 4 #[.val (.ref a1), .unset, .unset] [(.ref t)])) rfl rfl (hb hby d_prog_5_method_3_code_4)) ?_
  rw [show c2.slots.size.toInt32 = (3 : Int32) from by rw [Sc2]; rfl]
  show Go FrameEnd p e below s 0 0 (Q4k3 Z a1 t x h0) (T1.setTop (mkF m 5 #[.val (.ref a1), .unset, .unset] [(.int (3 : Int32))]))
  refine Go.step (fun _ k => XS.ifNo X1.here hx rfl (hb hby d_prog_5_method_3_code_5) rfl ((if0 _ _).trans (feq (by decide)).1) k) ?_
  show Go FrameEnd p e below s 0 0 (Q4k3 Z a1 t x h0) (T1.setTop (mkF m 8 #[.val (.ref a1), .unset, .unset] []))
  refine Go.step (fun _ k => XS.aloadN X1.here hx rfl (hb hby d_prog_5_method_3_code_8) rfl rfl k) ?_
  show Go FrameEnd p e below s 0 0 (Q4k3 Z a1 t x h0) (T1.setTop (mkF m 9 #[.val (.ref a1), .unset, .unset] [(.ref a1)]))
  obtain ⟨T3, X3, e3, st3⟩ := getF X1 hx hZ hown (host := "") (Or.inl (hw _ (List.mem_of_getElem? (i := 21) rfl))) Via.refl e1 F_content_a1 (g := (mkF m 9 #[.val (.ref a1), .unset, .unset] [(.ref a1)])) rfl rfl (hb hby d_prog_5_method_3_code_9)
  refine Go.step st3 ?_
  show Go FrameEnd p e below s 0 0 (Q4k3 Z a1 t x h0) (T3.setTop (mkF m 12 #[.val (.ref a1), .unset, .unset] [(.ref t)]))
  obtain ⟨c4, Ac4, Sc4, Mc4, Gc4⟩ := id V_t
  refine Go.step (X3.arraylength hx (by rw [e3]; exact Ac4.1) (State.isArrayOf_alike hZ.alike Ac4.2.1) (g := (mkF m 12 #[.val (.ref a1), .unset, .unset] [(.ref t)])) rfl rfl (hb hby d_prog_5_method_3_code_12)) ?_
  rw [show c4.slots.size.toInt32 = (3 : Int32) from by rw [Sc4]; rfl]
  show Go FrameEnd p e below s 0 0 (Q4k3 Z a1 t x h0) (T3.setTop (mkF m 13 #[.val (.ref a1), .unset, .unset] [(.int (3 : Int32))]))
  refine Go.step (fun _ k => XS.iconst X3.here hx rfl (hb hby d_prog_5_method_3_code_13) k) ?_
  show Go FrameEnd p e below s 0 0 (Q4k3 Z a1 t x h0) (T3.setTop (mkF m 14 #[.val (.ref a1), .unset, .unset] [(.int (4 : Int32)), (.int (3 : Int32))]))
  refine Go.step (fun _ k => XS.icmpYes X3.here hx rfl (pc0 := 14) (pc' := 35) rfl (hb hby d_prog_5_method_3_code_14) rfl (flt (by decide)).2.2.2 (by decide) (by decide) k) ?_
  show Go FrameEnd p e below s 0 0 (Q4k3 Z a1 t x h0) (T3.setTop (mkF m 35 #[.val (.ref a1), .unset, .unset] []))
  refine Go.step (fun _ k => XS.aloadN X3.here hx rfl (hb hby d_prog_5_method_3_code_35) rfl rfl k) ?_
  show Go FrameEnd p e below s 0 0 (Q4k3 Z a1 t x h0) (T3.setTop (mkF m 36 #[.val (.ref a1), .unset, .unset] [(.ref a1)]))
  obtain ⟨T5, X5, e5, st5⟩ := getF X3 hx hZ hown (host := "") (Or.inl (hw _ (List.mem_of_getElem? (i := 21) rfl))) Via.refl e3 F_content_a1 (g := (mkF m 36 #[.val (.ref a1), .unset, .unset] [(.ref a1)])) rfl rfl (hb hby d_prog_5_method_3_code_36)
  refine Go.step st5 ?_
  show Go FrameEnd p e below s 0 0 (Q4k3 Z a1 t x h0) (T5.setTop (mkF m 39 #[.val (.ref a1), .unset, .unset] [(.ref t)]))
  refine Go.step (fun _ k => XS.iconst X5.here hx rfl (hb hby d_prog_5_method_3_code_39) k) ?_
  show Go FrameEnd p e below s 0 0 (Q4k3 Z a1 t x h0) (T5.setTop (mkF m 40 #[.val (.ref a1), .unset, .unset] [(.int (0 : Int32)), (.ref t)]))
  obtain ⟨c6, Ac6, Sc6, Mc6, Gc6⟩ := id V_t
  refine Go.step (X5.baloadBytes hx (j := (0 : Int32)) (v := (.int (ushI x (16 : Int32)).toInt8.toInt32)) (by rw [e5]; exact Ac6.1) (State.isArrayOf_alike hZ.alike Ac6.2.1) Ac6.2.2 (own_in Sc6 (by decide) (by decide)) (Av.at Gc6 (by rfl) (by decide) rfl) (g := (mkF m 40 #[.val (.ref a1), .unset, .unset] [(.int (0 : Int32)), (.ref t)])) rfl rfl (hb hby d_prog_5_method_3_code_40)) ?_
  show Go FrameEnd p e below s 0 0 (Q4k3 Z a1 t x h0) (T5.setTop (mkF m 41 #[.val (.ref a1), .unset, .unset] [(.int (ushI x (16 : Int32)).toInt8.toInt32)]))
  refine Go.step (fun _ k => XS.istoreN X5.here hx rfl (hb hby d_prog_5_method_3_code_41) rfl (l' := #[.val (.ref a1), .val (.int (ushI x (16 : Int32)).toInt8.toInt32), .unset]) rfl k) ?_
  show Go FrameEnd p e below s 0 0 (Q4k3 Z a1 t x h0) (T5.setTop (mkF m 42 #[.val (.ref a1), .val (.int (ushI x (16 : Int32)).toInt8.toInt32), .unset] []))
  refine Go.step (fun _ k => XS.iconst X5.here hx rfl (hb hby d_prog_5_method_3_code_42) k) ?_
  show Go FrameEnd p e below s 0 0 (Q4k3 Z a1 t x h0) (T5.setTop (mkF m 43 #[.val (.ref a1), .val (.int (ushI x (16 : Int32)).toInt8.toInt32), .unset] [(.int (1 : Int32))]))
  refine Go.step (fun _ k => XS.istoreN X5.here hx rfl (hb hby d_prog_5_method_3_code_43) rfl (l' := #[.val (.ref a1), .val (.int (ushI x (16 : Int32)).toInt8.toInt32), .val (.int (1 : Int32))]) rfl k) ?_
  show Go FrameEnd p e below s 0 0 (Q4k3 Z a1 t x h0) (T5.setTop (mkF m 44 #[.val (.ref a1), .val (.int (ushI x (16 : Int32)).toInt8.toInt32), .val (.int (1 : Int32))] []))
  refine Go.step (fun _ k => XS.iloadN X5.here hx rfl (hb hby d_prog_5_method_3_code_44) rfl k) ?_
  show Go FrameEnd p e below s 0 0 (Q4k3 Z a1 t x h0) (T5.setTop (mkF m 45 #[.val (.ref a1), .val (.int (ushI x (16 : Int32)).toInt8.toInt32), .val (.int (1 : Int32))] [(.int (1 : Int32))]))
  refine Go.step (fun _ k => XS.aloadN X5.here hx rfl (hb hby d_prog_5_method_3_code_45) rfl rfl k) ?_
  show Go FrameEnd p e below s 0 0 (Q4k3 Z a1 t x h0) (T5.setTop (mkF m 46 #[.val (.ref a1), .val (.int (ushI x (16 : Int32)).toInt8.toInt32), .val (.int (1 : Int32))] [(.ref a1), (.int (1 : Int32))]))
  obtain ⟨T7, X7, e7, st7⟩ := getF X5 hx hZ hown (host := "") (Or.inl (hw _ (List.mem_of_getElem? (i := 21) rfl))) Via.refl e5 F_content_a1 (g := (mkF m 46 #[.val (.ref a1), .val (.int (ushI x (16 : Int32)).toInt8.toInt32), .val (.int (1 : Int32))] [(.ref a1), (.int (1 : Int32))])) rfl rfl (hb hby d_prog_5_method_3_code_46)
  refine Go.step st7 ?_
  show Go FrameEnd p e below s 0 0 (Q4k3 Z a1 t x h0) (T7.setTop (mkF m 49 #[.val (.ref a1), .val (.int (ushI x (16 : Int32)).toInt8.toInt32), .val (.int (1 : Int32))] [(.ref t), (.int (1 : Int32))]))
  obtain ⟨c8, Ac8, Sc8, Mc8, Gc8⟩ := id V_t
  refine Go.step (X7.arraylength hx (by rw [e7]; exact Ac8.1) (State.isArrayOf_alike hZ.alike Ac8.2.1) (g := (mkF m 49 #[.val (.ref a1), .val (.int (ushI x (16 : Int32)).toInt8.toInt32), .val (.int (1 : Int32))] [(.ref t), (.int (1 : Int32))])) rfl rfl (hb hby d_prog_5_method_3_code_49)) ?_
  rw [show c8.slots.size.toInt32 = (3 : Int32) from by rw [Sc8]; rfl]
  show Go FrameEnd p e below s 0 0 (Q4k3 Z a1 t x h0) (T7.setTop (mkF m 50 #[.val (.ref a1), .val (.int (ushI x (16 : Int32)).toInt8.toInt32), .val (.int (1 : Int32))] [(.int (3 : Int32)), (.int (1 : Int32))]))
  refine Go.step (fun _ k => XS.icmpNo X7.here hx rfl (hb hby d_prog_5_method_3_code_50) rfl (tlt (by decide)).2.1 k) ?_
  show Go FrameEnd p e below s 0 0 (Q4k3 Z a1 t x h0) (T7.setTop (mkF m 53 #[.val (.ref a1), .val (.int (ushI x (16 : Int32)).toInt8.toInt32), .val (.int (1 : Int32))] []))
  refine Go.step (fun _ k => XS.iloadN X7.here hx rfl (hb hby d_prog_5_method_3_code_53) rfl k) ?_
  show Go FrameEnd p e below s 0 0 (Q4k3 Z a1 t x h0) (T7.setTop (mkF m 54 #[.val (.ref a1), .val (.int (ushI x (16 : Int32)).toInt8.toInt32), .val (.int (1 : Int32))] [(.int (ushI x (16 : Int32)).toInt8.toInt32)]))
  refine Go.step (fun _ k => XS.bipush X7.here hx rfl (hb hby d_prog_5_method_3_code_54) k) ?_
  show Go FrameEnd p e below s 0 0 (Q4k3 Z a1 t x h0) (T7.setTop (mkF m 56 #[.val (.ref a1), .val (.int (ushI x (16 : Int32)).toInt8.toInt32), .val (.int (1 : Int32))] [(.int (8 : Int32)), (.int (ushI x (16 : Int32)).toInt8.toInt32)]))
  refine Go.step (fun _ k => XS.ishl X7.here hx rfl (hb hby d_prog_5_method_3_code_56) rfl k) ?_
  show Go FrameEnd p e below s 0 0 (Q4k3 Z a1 t x h0) (T7.setTop (mkF m 57 #[.val (.ref a1), .val (.int (ushI x (16 : Int32)).toInt8.toInt32), .val (.int (1 : Int32))] [(.int ((ushI x (16 : Int32)).toInt8.toInt32 <<< ((8 : Int32) &&& 31)))]))
  refine Go.step (fun _ k => XS.aloadN X7.here hx rfl (hb hby d_prog_5_method_3_code_57) rfl rfl k) ?_
  show Go FrameEnd p e below s 0 0 (Q4k3 Z a1 t x h0) (T7.setTop (mkF m 58 #[.val (.ref a1), .val (.int (ushI x (16 : Int32)).toInt8.toInt32), .val (.int (1 : Int32))] [(.ref a1), (.int ((ushI x (16 : Int32)).toInt8.toInt32 <<< ((8 : Int32) &&& 31)))]))
  obtain ⟨T9, X9, e9, st9⟩ := getF X7 hx hZ hown (host := "") (Or.inl (hw _ (List.mem_of_getElem? (i := 21) rfl))) Via.refl e7 F_content_a1 (g := (mkF m 58 #[.val (.ref a1), .val (.int (ushI x (16 : Int32)).toInt8.toInt32), .val (.int (1 : Int32))] [(.ref a1), (.int ((ushI x (16 : Int32)).toInt8.toInt32 <<< ((8 : Int32) &&& 31)))])) rfl rfl (hb hby d_prog_5_method_3_code_58)
  refine Go.step st9 ?_
  show Go FrameEnd p e below s 0 0 (Q4k3 Z a1 t x h0) (T9.setTop (mkF m 61 #[.val (.ref a1), .val (.int (ushI x (16 : Int32)).toInt8.toInt32), .val (.int (1 : Int32))] [(.ref t), (.int ((ushI x (16 : Int32)).toInt8.toInt32 <<< ((8 : Int32) &&& 31)))]))
  refine Go.step (fun _ k => XS.iloadN X9.here hx rfl (hb hby d_prog_5_method_3_code_61) rfl k) ?_
  show Go FrameEnd p e below s 0 0 (Q4k3 Z a1 t x h0) (T9.setTop (mkF m 62 #[.val (.ref a1), .val (.int (ushI x (16 : Int32)).toInt8.toInt32), .val (.int (1 : Int32))] [(.int (1 : Int32)), (.ref t), (.int ((ushI x (16 : Int32)).toInt8.toInt32 <<< ((8 : Int32) &&& 31)))]))
  obtain ⟨c10, Ac10, Sc10, Mc10, Gc10⟩ := id V_t
  refine Go.step (X9.baloadBytes hx (j := (1 : Int32)) (v := (.int (ushI x (8 : Int32)).toInt8.toInt32)) (by rw [e9]; exact Ac10.1) (State.isArrayOf_alike hZ.alike Ac10.2.1) Ac10.2.2 (own_in Sc10 (by decide) (by decide)) (Av.at Gc10 (by rfl) (by decide) rfl) (g := (mkF m 62 #[.val (.ref a1), .val (.int (ushI x (16 : Int32)).toInt8.toInt32), .val (.int (1 : Int32))] [(.int (1 : Int32)), (.ref t), (.int ((ushI x (16 : Int32)).toInt8.toInt32 <<< ((8 : Int32) &&& 31)))])) rfl rfl (hb hby d_prog_5_method_3_code_62)) ?_
  show Go FrameEnd p e below s 0 0 (Q4k3 Z a1 t x h0) (T9.setTop (mkF m 63 #[.val (.ref a1), .val (.int (ushI x (16 : Int32)).toInt8.toInt32), .val (.int (1 : Int32))] [(.int (ushI x (8 : Int32)).toInt8.toInt32), (.int ((ushI x (16 : Int32)).toInt8.toInt32 <<< ((8 : Int32) &&& 31)))]))
  refine Go.step (fun _ k => XS.sipush X9.here hx rfl (hb hby d_prog_5_method_3_code_63) k) ?_
  show Go FrameEnd p e below s 0 0 (Q4k3 Z a1 t x h0) (T9.setTop (mkF m 66 #[.val (.ref a1), .val (.int (ushI x (16 : Int32)).toInt8.toInt32), .val (.int (1 : Int32))] [(.int (255 : Int32)), (.int (ushI x (8 : Int32)).toInt8.toInt32), (.int ((ushI x (16 : Int32)).toInt8.toInt32 <<< ((8 : Int32) &&& 31)))]))
  refine Go.step (fun _ k => XS.iand X9.here hx rfl (hb hby d_prog_5_method_3_code_66) rfl k) ?_
  show Go FrameEnd p e below s 0 0 (Q4k3 Z a1 t x h0) (T9.setTop (mkF m 67 #[.val (.ref a1), .val (.int (ushI x (16 : Int32)).toInt8.toInt32), .val (.int (1 : Int32))] [(.int ((ushI x (8 : Int32)).toInt8.toInt32 &&& (255 : Int32))), (.int ((ushI x (16 : Int32)).toInt8.toInt32 <<< ((8 : Int32) &&& 31)))]))
  refine Go.step (fun _ k => XS.ior X9.here hx rfl (hb hby d_prog_5_method_3_code_67) rfl k) ?_
  show Go FrameEnd p e below s 0 0 (Q4k3 Z a1 t x h0) (T9.setTop (mkF m 68 #[.val (.ref a1), .val (.int (ushI x (16 : Int32)).toInt8.toInt32), .val (.int (1 : Int32))] [(.int (((ushI x (16 : Int32)).toInt8.toInt32 <<< ((8 : Int32) &&& 31)) ||| ((ushI x (8 : Int32)).toInt8.toInt32 &&& (255 : Int32))))]))
  refine Go.step (fun _ k => XS.istoreN X9.here hx rfl (hb hby d_prog_5_method_3_code_68) rfl (l' := #[.val (.ref a1), .val (.int (((ushI x (16 : Int32)).toInt8.toInt32 <<< ((8 : Int32) &&& 31)) ||| ((ushI x (8 : Int32)).toInt8.toInt32 &&& (255 : Int32)))), .val (.int (1 : Int32))]) rfl k) ?_
  show Go FrameEnd p e below s 0 0 (Q4k3 Z a1 t x h0) (T9.setTop (mkF m 69 #[.val (.ref a1), .val (.int (((ushI x (16 : Int32)).toInt8.toInt32 <<< ((8 : Int32) &&& 31)) ||| ((ushI x (8 : Int32)).toInt8.toInt32 &&& (255 : Int32)))), .val (.int (1 : Int32))] []))
  refine Go.step (fun _ k => XS.iinc X9.here hx rfl (hb hby d_prog_5_method_3_code_69) rfl (l' := #[.val (.ref a1), .val (.int (((ushI x (16 : Int32)).toInt8.toInt32 <<< ((8 : Int32) &&& 31)) ||| ((ushI x (8 : Int32)).toInt8.toInt32 &&& (255 : Int32)))), .val (.int (2 : Int32))]) rfl k) ?_
  show Go FrameEnd p e below s 0 0 (Q4k3 Z a1 t x h0) (T9.setTop (mkF m 72 #[.val (.ref a1), .val (.int (((ushI x (16 : Int32)).toInt8.toInt32 <<< ((8 : Int32) &&& 31)) ||| ((ushI x (8 : Int32)).toInt8.toInt32 &&& (255 : Int32)))), .val (.int (2 : Int32))] []))
  refine Go.step (fun _ k => XS.goto X9.here hx rfl (pc0 := 72) (pc' := 44) rfl (hb hby d_prog_5_method_3_code_72) (by decide) (by decide) k) ?_
  show Go FrameEnd p e below s 0 0 (Q4k3 Z a1 t x h0) (T9.setTop (mkF m 44 #[.val (.ref a1), .val (.int (((ushI x (16 : Int32)).toInt8.toInt32 <<< ((8 : Int32) &&& 31)) ||| ((ushI x (8 : Int32)).toInt8.toInt32 &&& (255 : Int32)))), .val (.int (2 : Int32))] []))
  refine Go.step (fun _ k => XS.iloadN X9.here hx rfl (hb hby d_prog_5_method_3_code_44) rfl k) ?_
  show Go FrameEnd p e below s 0 0 (Q4k3 Z a1 t x h0) (T9.setTop (mkF m 45 #[.val (.ref a1), .val (.int (((ushI x (16 : Int32)).toInt8.toInt32 <<< ((8 : Int32) &&& 31)) ||| ((ushI x (8 : Int32)).toInt8.toInt32 &&& (255 : Int32)))), .val (.int (2 : Int32))] [(.int (2 : Int32))]))
  refine Go.step (fun _ k => XS.aloadN X9.here hx rfl (hb hby d_prog_5_method_3_code_45) rfl rfl k) ?_
  show Go FrameEnd p e below s 0 0 (Q4k3 Z a1 t x h0) (T9.setTop (mkF m 46 #[.val (.ref a1), .val (.int (((ushI x (16 : Int32)).toInt8.toInt32 <<< ((8 : Int32) &&& 31)) ||| ((ushI x (8 : Int32)).toInt8.toInt32 &&& (255 : Int32)))), .val (.int (2 : Int32))] [(.ref a1), (.int (2 : Int32))]))
  obtain ⟨T11, X11, e11, st11⟩ := getF X9 hx hZ hown (host := "") (Or.inl (hw _ (List.mem_of_getElem? (i := 21) rfl))) Via.refl e9 F_content_a1 (g := (mkF m 46 #[.val (.ref a1), .val (.int (((ushI x (16 : Int32)).toInt8.toInt32 <<< ((8 : Int32) &&& 31)) ||| ((ushI x (8 : Int32)).toInt8.toInt32 &&& (255 : Int32)))), .val (.int (2 : Int32))] [(.ref a1), (.int (2 : Int32))])) rfl rfl (hb hby d_prog_5_method_3_code_46)
  refine Go.step st11 ?_
  show Go FrameEnd p e below s 0 0 (Q4k3 Z a1 t x h0) (T11.setTop (mkF m 49 #[.val (.ref a1), .val (.int (((ushI x (16 : Int32)).toInt8.toInt32 <<< ((8 : Int32) &&& 31)) ||| ((ushI x (8 : Int32)).toInt8.toInt32 &&& (255 : Int32)))), .val (.int (2 : Int32))] [(.ref t), (.int (2 : Int32))]))
  obtain ⟨c12, Ac12, Sc12, Mc12, Gc12⟩ := id V_t
  refine Go.step (X11.arraylength hx (by rw [e11]; exact Ac12.1) (State.isArrayOf_alike hZ.alike Ac12.2.1) (g := (mkF m 49 #[.val (.ref a1), .val (.int (((ushI x (16 : Int32)).toInt8.toInt32 <<< ((8 : Int32) &&& 31)) ||| ((ushI x (8 : Int32)).toInt8.toInt32 &&& (255 : Int32)))), .val (.int (2 : Int32))] [(.ref t), (.int (2 : Int32))])) rfl rfl (hb hby d_prog_5_method_3_code_49)) ?_
  rw [show c12.slots.size.toInt32 = (3 : Int32) from by rw [Sc12]; rfl]
  show Go FrameEnd p e below s 0 0 (Q4k3 Z a1 t x h0) (T11.setTop (mkF m 50 #[.val (.ref a1), .val (.int (((ushI x (16 : Int32)).toInt8.toInt32 <<< ((8 : Int32) &&& 31)) ||| ((ushI x (8 : Int32)).toInt8.toInt32 &&& (255 : Int32)))), .val (.int (2 : Int32))] [(.int (3 : Int32)), (.int (2 : Int32))]))
  refine Go.step (fun _ k => XS.icmpNo X11.here hx rfl (hb hby d_prog_5_method_3_code_50) rfl (tlt (by decide)).2.1 k) ?_
  show Go FrameEnd p e below s 0 0 (Q4k3 Z a1 t x h0) (T11.setTop (mkF m 53 #[.val (.ref a1), .val (.int (((ushI x (16 : Int32)).toInt8.toInt32 <<< ((8 : Int32) &&& 31)) ||| ((ushI x (8 : Int32)).toInt8.toInt32 &&& (255 : Int32)))), .val (.int (2 : Int32))] []))
  refine Go.step (fun _ k => XS.iloadN X11.here hx rfl (hb hby d_prog_5_method_3_code_53) rfl k) ?_
  show Go FrameEnd p e below s 0 0 (Q4k3 Z a1 t x h0) (T11.setTop (mkF m 54 #[.val (.ref a1), .val (.int (((ushI x (16 : Int32)).toInt8.toInt32 <<< ((8 : Int32) &&& 31)) ||| ((ushI x (8 : Int32)).toInt8.toInt32 &&& (255 : Int32)))), .val (.int (2 : Int32))] [(.int (((ushI x (16 : Int32)).toInt8.toInt32 <<< ((8 : Int32) &&& 31)) ||| ((ushI x (8 : Int32)).toInt8.toInt32 &&& (255 : Int32))))]))
  refine Go.step (fun _ k => XS.bipush X11.here hx rfl (hb hby d_prog_5_method_3_code_54) k) ?_
  show Go FrameEnd p e below s 0 0 (Q4k3 Z a1 t x h0) (T11.setTop (mkF m 56 #[.val (.ref a1), .val (.int (((ushI x (16 : Int32)).toInt8.toInt32 <<< ((8 : Int32) &&& 31)) ||| ((ushI x (8 : Int32)).toInt8.toInt32 &&& (255 : Int32)))), .val (.int (2 : Int32))] [(.int (8 : Int32)), (.int (((ushI x (16 : Int32)).toInt8.toInt32 <<< ((8 : Int32) &&& 31)) ||| ((ushI x (8 : Int32)).toInt8.toInt32 &&& (255 : Int32))))]))
  refine Go.step (fun _ k => XS.ishl X11.here hx rfl (hb hby d_prog_5_method_3_code_56) rfl k) ?_
  show Go FrameEnd p e below s 0 0 (Q4k3 Z a1 t x h0) (T11.setTop (mkF m 57 #[.val (.ref a1), .val (.int (((ushI x (16 : Int32)).toInt8.toInt32 <<< ((8 : Int32) &&& 31)) ||| ((ushI x (8 : Int32)).toInt8.toInt32 &&& (255 : Int32)))), .val (.int (2 : Int32))] [(.int ((((ushI x (16 : Int32)).toInt8.toInt32 <<< ((8 : Int32) &&& 31)) ||| ((ushI x (8 : Int32)).toInt8.toInt32 &&& (255 : Int32))) <<< ((8 : Int32) &&& 31)))]))
  refine Go.step (fun _ k => XS.aloadN X11.here hx rfl (hb hby d_prog_5_method_3_code_57) rfl rfl k) ?_
  show Go FrameEnd p e below s 0 0 (Q4k3 Z a1 t x h0) (T11.setTop (mkF m 58 #[.val (.ref a1), .val (.int (((ushI x (16 : Int32)).toInt8.toInt32 <<< ((8 : Int32) &&& 31)) ||| ((ushI x (8 : Int32)).toInt8.toInt32 &&& (255 : Int32)))), .val (.int (2 : Int32))] [(.ref a1), (.int ((((ushI x (16 : Int32)).toInt8.toInt32 <<< ((8 : Int32) &&& 31)) ||| ((ushI x (8 : Int32)).toInt8.toInt32 &&& (255 : Int32))) <<< ((8 : Int32) &&& 31)))]))
  obtain ⟨T13, X13, e13, st13⟩ := getF X11 hx hZ hown (host := "") (Or.inl (hw _ (List.mem_of_getElem? (i := 21) rfl))) Via.refl e11 F_content_a1 (g := (mkF m 58 #[.val (.ref a1), .val (.int (((ushI x (16 : Int32)).toInt8.toInt32 <<< ((8 : Int32) &&& 31)) ||| ((ushI x (8 : Int32)).toInt8.toInt32 &&& (255 : Int32)))), .val (.int (2 : Int32))] [(.ref a1), (.int ((((ushI x (16 : Int32)).toInt8.toInt32 <<< ((8 : Int32) &&& 31)) ||| ((ushI x (8 : Int32)).toInt8.toInt32 &&& (255 : Int32))) <<< ((8 : Int32) &&& 31)))])) rfl rfl (hb hby d_prog_5_method_3_code_58)
  refine Go.step st13 ?_
  show Go FrameEnd p e below s 0 0 (Q4k3 Z a1 t x h0) (T13.setTop (mkF m 61 #[.val (.ref a1), .val (.int (((ushI x (16 : Int32)).toInt8.toInt32 <<< ((8 : Int32) &&& 31)) ||| ((ushI x (8 : Int32)).toInt8.toInt32 &&& (255 : Int32)))), .val (.int (2 : Int32))] [(.ref t), (.int ((((ushI x (16 : Int32)).toInt8.toInt32 <<< ((8 : Int32) &&& 31)) ||| ((ushI x (8 : Int32)).toInt8.toInt32 &&& (255 : Int32))) <<< ((8 : Int32) &&& 31)))]))
  refine Go.step (fun _ k => XS.iloadN X13.here hx rfl (hb hby d_prog_5_method_3_code_61) rfl k) ?_
  show Go FrameEnd p e below s 0 0 (Q4k3 Z a1 t x h0) (T13.setTop (mkF m 62 #[.val (.ref a1), .val (.int (((ushI x (16 : Int32)).toInt8.toInt32 <<< ((8 : Int32) &&& 31)) ||| ((ushI x (8 : Int32)).toInt8.toInt32 &&& (255 : Int32)))), .val (.int (2 : Int32))] [(.int (2 : Int32)), (.ref t), (.int ((((ushI x (16 : Int32)).toInt8.toInt32 <<< ((8 : Int32) &&& 31)) ||| ((ushI x (8 : Int32)).toInt8.toInt32 &&& (255 : Int32))) <<< ((8 : Int32) &&& 31)))]))
  obtain ⟨c14, Ac14, Sc14, Mc14, Gc14⟩ := id V_t
  refine Go.step (X13.baloadBytes hx (j := (2 : Int32)) (v := (.int x.toInt8.toInt32)) (by rw [e13]; exact Ac14.1) (State.isArrayOf_alike hZ.alike Ac14.2.1) Ac14.2.2 (own_in Sc14 (by decide) (by decide)) (Av.at Gc14 (by rfl) (by decide) rfl) (g := (mkF m 62 #[.val (.ref a1), .val (.int (((ushI x (16 : Int32)).toInt8.toInt32 <<< ((8 : Int32) &&& 31)) ||| ((ushI x (8 : Int32)).toInt8.toInt32 &&& (255 : Int32)))), .val (.int (2 : Int32))] [(.int (2 : Int32)), (.ref t), (.int ((((ushI x (16 : Int32)).toInt8.toInt32 <<< ((8 : Int32) &&& 31)) ||| ((ushI x (8 : Int32)).toInt8.toInt32 &&& (255 : Int32))) <<< ((8 : Int32) &&& 31)))])) rfl rfl (hb hby d_prog_5_method_3_code_62)) ?_
  show Go FrameEnd p e below s 0 0 (Q4k3 Z a1 t x h0) (T13.setTop (mkF m 63 #[.val (.ref a1), .val (.int (((ushI x (16 : Int32)).toInt8.toInt32 <<< ((8 : Int32) &&& 31)) ||| ((ushI x (8 : Int32)).toInt8.toInt32 &&& (255 : Int32)))), .val (.int (2 : Int32))] [(.int x.toInt8.toInt32), (.int ((((ushI x (16 : Int32)).toInt8.toInt32 <<< ((8 : Int32) &&& 31)) ||| ((ushI x (8 : Int32)).toInt8.toInt32 &&& (255 : Int32))) <<< ((8 : Int32) &&& 31)))]))
  refine Go.step (fun _ k => XS.sipush X13.here hx rfl (hb hby d_prog_5_method_3_code_63) k) ?_
  show Go FrameEnd p e below s 0 0 (Q4k3 Z a1 t x h0) (T13.setTop (mkF m 66 #[.val (.ref a1), .val (.int (((ushI x (16 : Int32)).toInt8.toInt32 <<< ((8 : Int32) &&& 31)) ||| ((ushI x (8 : Int32)).toInt8.toInt32 &&& (255 : Int32)))), .val (.int (2 : Int32))] [(.int (255 : Int32)), (.int x.toInt8.toInt32), (.int ((((ushI x (16 : Int32)).toInt8.toInt32 <<< ((8 : Int32) &&& 31)) ||| ((ushI x (8 : Int32)).toInt8.toInt32 &&& (255 : Int32))) <<< ((8 : Int32) &&& 31)))]))
  refine Go.step (fun _ k => XS.iand X13.here hx rfl (hb hby d_prog_5_method_3_code_66) rfl k) ?_
  show Go FrameEnd p e below s 0 0 (Q4k3 Z a1 t x h0) (T13.setTop (mkF m 67 #[.val (.ref a1), .val (.int (((ushI x (16 : Int32)).toInt8.toInt32 <<< ((8 : Int32) &&& 31)) ||| ((ushI x (8 : Int32)).toInt8.toInt32 &&& (255 : Int32)))), .val (.int (2 : Int32))] [(.int (x.toInt8.toInt32 &&& (255 : Int32))), (.int ((((ushI x (16 : Int32)).toInt8.toInt32 <<< ((8 : Int32) &&& 31)) ||| ((ushI x (8 : Int32)).toInt8.toInt32 &&& (255 : Int32))) <<< ((8 : Int32) &&& 31)))]))
  refine Go.step (fun _ k => XS.ior X13.here hx rfl (hb hby d_prog_5_method_3_code_67) rfl k) ?_
  show Go FrameEnd p e below s 0 0 (Q4k3 Z a1 t x h0) (T13.setTop (mkF m 68 #[.val (.ref a1), .val (.int (((ushI x (16 : Int32)).toInt8.toInt32 <<< ((8 : Int32) &&& 31)) ||| ((ushI x (8 : Int32)).toInt8.toInt32 &&& (255 : Int32)))), .val (.int (2 : Int32))] [(.int (((((ushI x (16 : Int32)).toInt8.toInt32 <<< ((8 : Int32) &&& 31)) ||| ((ushI x (8 : Int32)).toInt8.toInt32 &&& (255 : Int32))) <<< ((8 : Int32) &&& 31)) ||| (x.toInt8.toInt32 &&& (255 : Int32))))]))
  refine Go.step (fun _ k => XS.istoreN X13.here hx rfl (hb hby d_prog_5_method_3_code_68) rfl (l' := #[.val (.ref a1), .val (.int (((((ushI x (16 : Int32)).toInt8.toInt32 <<< ((8 : Int32) &&& 31)) ||| ((ushI x (8 : Int32)).toInt8.toInt32 &&& (255 : Int32))) <<< ((8 : Int32) &&& 31)) ||| (x.toInt8.toInt32 &&& (255 : Int32)))), .val (.int (2 : Int32))]) rfl k) ?_
  show Go FrameEnd p e below s 0 0 (Q4k3 Z a1 t x h0) (T13.setTop (mkF m 69 #[.val (.ref a1), .val (.int (((((ushI x (16 : Int32)).toInt8.toInt32 <<< ((8 : Int32) &&& 31)) ||| ((ushI x (8 : Int32)).toInt8.toInt32 &&& (255 : Int32))) <<< ((8 : Int32) &&& 31)) ||| (x.toInt8.toInt32 &&& (255 : Int32)))), .val (.int (2 : Int32))] []))
  refine Go.step (fun _ k => XS.iinc X13.here hx rfl (hb hby d_prog_5_method_3_code_69) rfl (l' := #[.val (.ref a1), .val (.int (((((ushI x (16 : Int32)).toInt8.toInt32 <<< ((8 : Int32) &&& 31)) ||| ((ushI x (8 : Int32)).toInt8.toInt32 &&& (255 : Int32))) <<< ((8 : Int32) &&& 31)) ||| (x.toInt8.toInt32 &&& (255 : Int32)))), .val (.int (3 : Int32))]) rfl k) ?_
  show Go FrameEnd p e below s 0 0 (Q4k3 Z a1 t x h0) (T13.setTop (mkF m 72 #[.val (.ref a1), .val (.int (((((ushI x (16 : Int32)).toInt8.toInt32 <<< ((8 : Int32) &&& 31)) ||| ((ushI x (8 : Int32)).toInt8.toInt32 &&& (255 : Int32))) <<< ((8 : Int32) &&& 31)) ||| (x.toInt8.toInt32 &&& (255 : Int32)))), .val (.int (3 : Int32))] []))
  refine Go.step (fun _ k => XS.goto X13.here hx rfl (pc0 := 72) (pc' := 44) rfl (hb hby d_prog_5_method_3_code_72) (by decide) (by decide) k) ?_
  show Go FrameEnd p e below s 0 0 (Q4k3 Z a1 t x h0) (T13.setTop (mkF m 44 #[.val (.ref a1), .val (.int (((((ushI x (16 : Int32)).toInt8.toInt32 <<< ((8 : Int32) &&& 31)) ||| ((ushI x (8 : Int32)).toInt8.toInt32 &&& (255 : Int32))) <<< ((8 : Int32) &&& 31)) ||| (x.toInt8.toInt32 &&& (255 : Int32)))), .val (.int (3 : Int32))] []))
  refine Go.step (fun _ k => XS.iloadN X13.here hx rfl (hb hby d_prog_5_method_3_code_44) rfl k) ?_
  show Go FrameEnd p e below s 0 0 (Q4k3 Z a1 t x h0) (T13.setTop (mkF m 45 #[.val (.ref a1), .val (.int (((((ushI x (16 : Int32)).toInt8.toInt32 <<< ((8 : Int32) &&& 31)) ||| ((ushI x (8 : Int32)).toInt8.toInt32 &&& (255 : Int32))) <<< ((8 : Int32) &&& 31)) ||| (x.toInt8.toInt32 &&& (255 : Int32)))), .val (.int (3 : Int32))] [(.int (3 : Int32))]))
  refine Go.step (fun _ k => XS.aloadN X13.here hx rfl (hb hby d_prog_5_method_3_code_45) rfl rfl k) ?_
  show Go FrameEnd p e below s 0 0 (Q4k3 Z a1 t x h0) (T13.setTop (mkF m 46 #[.val (.ref a1), .val (.int (((((ushI x (16 : Int32)).toInt8.toInt32 <<< ((8 : Int32) &&& 31)) ||| ((ushI x (8 : Int32)).toInt8.toInt32 &&& (255 : Int32))) <<< ((8 : Int32) &&& 31)) ||| (x.toInt8.toInt32 &&& (255 : Int32)))), .val (.int (3 : Int32))] [(.ref a1), (.int (3 : Int32))]))
  obtain ⟨T15, X15, e15, st15⟩ := getF X13 hx hZ hown (host := "") (Or.inl (hw _ (List.mem_of_getElem? (i := 21) rfl))) Via.refl e13 F_content_a1 (g := (mkF m 46 #[.val (.ref a1), .val (.int (((((ushI x (16 : Int32)).toInt8.toInt32 <<< ((8 : Int32) &&& 31)) ||| ((ushI x (8 : Int32)).toInt8.toInt32 &&& (255 : Int32))) <<< ((8 : Int32) &&& 31)) ||| (x.toInt8.toInt32 &&& (255 : Int32)))), .val (.int (3 : Int32))] [(.ref a1), (.int (3 : Int32))])) rfl rfl (hb hby d_prog_5_method_3_code_46)
  refine Go.step st15 ?_
  show Go FrameEnd p e below s 0 0 (Q4k3 Z a1 t x h0) (T15.setTop (mkF m 49 #[.val (.ref a1), .val (.int (((((ushI x (16 : Int32)).toInt8.toInt32 <<< ((8 : Int32) &&& 31)) ||| ((ushI x (8 : Int32)).toInt8.toInt32 &&& (255 : Int32))) <<< ((8 : Int32) &&& 31)) ||| (x.toInt8.toInt32 &&& (255 : Int32)))), .val (.int (3 : Int32))] [(.ref t), (.int (3 : Int32))]))
  obtain ⟨c16, Ac16, Sc16, Mc16, Gc16⟩ := id V_t
  refine Go.step (X15.arraylength hx (by rw [e15]; exact Ac16.1) (State.isArrayOf_alike hZ.alike Ac16.2.1) (g := (mkF m 49 #[.val (.ref a1), .val (.int (((((ushI x (16 : Int32)).toInt8.toInt32 <<< ((8 : Int32) &&& 31)) ||| ((ushI x (8 : Int32)).toInt8.toInt32 &&& (255 : Int32))) <<< ((8 : Int32) &&& 31)) ||| (x.toInt8.toInt32 &&& (255 : Int32)))), .val (.int (3 : Int32))] [(.ref t), (.int (3 : Int32))])) rfl rfl (hb hby d_prog_5_method_3_code_49)) ?_
  rw [show c16.slots.size.toInt32 = (3 : Int32) from by rw [Sc16]; rfl]
  show Go FrameEnd p e below s 0 0 (Q4k3 Z a1 t x h0) (T15.setTop (mkF m 50 #[.val (.ref a1), .val (.int (((((ushI x (16 : Int32)).toInt8.toInt32 <<< ((8 : Int32) &&& 31)) ||| ((ushI x (8 : Int32)).toInt8.toInt32 &&& (255 : Int32))) <<< ((8 : Int32) &&& 31)) ||| (x.toInt8.toInt32 &&& (255 : Int32)))), .val (.int (3 : Int32))] [(.int (3 : Int32)), (.int (3 : Int32))]))
  refine Go.step (fun _ k => XS.icmpYes X15.here hx rfl (pc0 := 50) (pc' := 75) rfl (hb hby d_prog_5_method_3_code_50) rfl (flt (by decide)).2.1 (by decide) (by decide) k) ?_
  show Go FrameEnd p e below s 0 0 (Q4k3 Z a1 t x h0) (T15.setTop (mkF m 75 #[.val (.ref a1), .val (.int (((((ushI x (16 : Int32)).toInt8.toInt32 <<< ((8 : Int32) &&& 31)) ||| ((ushI x (8 : Int32)).toInt8.toInt32 &&& (255 : Int32))) <<< ((8 : Int32) &&& 31)) ||| (x.toInt8.toInt32 &&& (255 : Int32)))), .val (.int (3 : Int32))] []))
  refine Go.step (fun _ k => XS.iloadN X15.here hx rfl (hb hby d_prog_5_method_3_code_75) rfl k) ?_
  show Go FrameEnd p e below s 0 0 (Q4k3 Z a1 t x h0) (T15.setTop (mkF m 76 #[.val (.ref a1), .val (.int (((((ushI x (16 : Int32)).toInt8.toInt32 <<< ((8 : Int32) &&& 31)) ||| ((ushI x (8 : Int32)).toInt8.toInt32 &&& (255 : Int32))) <<< ((8 : Int32) &&& 31)) ||| (x.toInt8.toInt32 &&& (255 : Int32)))), .val (.int (3 : Int32))] [(.int (((((ushI x (16 : Int32)).toInt8.toInt32 <<< ((8 : Int32) &&& 31)) ||| ((ushI x (8 : Int32)).toInt8.toInt32 &&& (255 : Int32))) <<< ((8 : Int32) &&& 31)) ||| (x.toInt8.toInt32 &&& (255 : Int32))))]))
  refine Go.retI X15 hx Bd.returns (hb hby d_prog_5_method_3_code_76) (BodyLoose.notSynchronized Bd) e15 (by decide) (by decide) ?_
  exact ⟨rfl, rfl, rfl⟩
def Q3k4 (Z : State) (p1 : Int32) (h0 : Heap) (n0 : Nat) (v : Option Value) (h : Heap) (L : List Loc) : Prop := ∃ b : Addr, v = some (.ref b) ∧ Fr n0 L ∧ h0.size ≤ b ∧ (Keep h0 h []) ∧ (Av Z h b .byte 4 (aset (aset (aset (aset (fun _ => (.int (0 : Int32))) 0 (.int (ushI p1 (24 : Int32)).toInt8.toInt32)) 1 (.int (ushI p1 (16 : Int32)).toInt8.toInt32)) 2 (.int (ushI p1 (8 : Int32)).toInt8.toInt32)) 3 (.int p1.toInt8.toInt32)))
theorem ef_3k4 (m : MethodId) (p1 : Int32) : entryFrame m #[(.int p1), (.int (4 : Int32))] 2 = mkF m 0 #[.val (.int p1), .val (.int (4 : Int32))] [] := by first | (simp [entryFrame, mkF, argsToLocals, Value.category]; done) | rfl
set_option maxRecDepth 65536 in
set_option maxHeartbeats 40000000 in
theorem rm3k4 (l : Launch) (Z : State) (a0 : Array Value) (hw : ∀ d ∈ tables_1, d.before a0 Z = true) (ws : List Jvm.Cond) (p1 : Int32) (h0 : Heap) (n0 : Nat) (Z0 : n0 ≤ h0.size) :
    MetFree l (⟨"com/example/keylattice/keylattice/ElementIntegerPinLaw", "lastBytes", "(II)[B"⟩ : MethodName) (head1 (Jvm.Cond.code (⟨"com/example/keylattice/keylattice/ElementIntegerPinLaw", "lastBytes", "(II)[B"⟩ : MethodName) method_2_code 2 (some (.array .byte)) :: ws) ({ frames := 0, cells := 1, slots := 4, locals := 0 } : Room)) (fun a U => a = #[(.int p1), (.int (4 : Int32))] ∧ Z.Warmed39 U.vm ∧ U.heap = h0) (fun _ _ _ _ _ => True) (fun _ U o U' => ∃ v L, o = .returned v ∧ (Q3k4 Z p1 h0 n0) v U'.heap L ∧ FrameEnd U o U' L 1 4) := by
  refine MetFree.of_bodySF (plainFor_of_name pn_com_example_keylattice_keylattice_ElementIntegerPinLaw) hisR ?_
  intro p e s m args below meth c s₁ Bd hml0 hP hK
  obtain ⟨rfl, hZ, hh⟩ := hP
  have hx := Bd.exec
  have hby := Bd.bytes
  have hml : c.maxLocals = 2 := hml0
  have hown : s.vm.findClass "com/example/keylattice/keylattice/ElementIntegerPinLaw" = some m.cls := findClass_of_methodNamed Bd.named
  have hnm := (name_of_methodNamed Bd.named Bd.method).1
  have X0 : Stand p l e ({ frames := 0, cells := 1, slots := 4, locals := 0 } : Room) s m #[(.int p1), (.int (4 : Int32))] below meth c s₁ [] 0 0 := Stand.of_body Bd
  have e0 : s₁.heap = h0 := by rw [← hh, Bd.state]; rfl
  have N0 := Fr.nil n0
  show Go FrameEnd p e below s 1 4 (Q3k4 Z p1 h0 n0) _
  refine Go.step (fun _ k => castTop (ef_3k4 m p1) k) ?_
  show Go FrameEnd p e below s 1 4 (Q3k4 Z p1 h0 n0) (s₁.setTop (mkF m 0 #[.val (.int p1), .val (.int (4 : Int32))] []))
  refine Go.step (fun _ k => XS.iloadN X0.here hx rfl (hb hby d_method_2_code_0) rfl k) ?_
  show Go FrameEnd p e below s 1 4 (Q3k4 Z p1 h0 n0) (s₁.setTop (mkF m 1 #[.val (.int p1), .val (.int (4 : Int32))] [(.int (4 : Int32))]))
  refine Go.step (fun _ k => XS.iconst X0.here hx rfl (hb hby d_method_2_code_1) k) ?_
  show Go FrameEnd p e below s 1 4 (Q3k4 Z p1 h0 n0) (s₁.setTop (mkF m 2 #[.val (.int p1), .val (.int (4 : Int32))] [(.int (1 : Int32)), (.int (4 : Int32))]))
  refine Go.step (fun _ k => XS.icmpYes X0.here hx rfl (pc0 := 2) (pc' := 14) rfl (hb hby d_method_2_code_2) rfl (feq (by decide)).2 (by decide) (by decide) k) ?_
  show Go FrameEnd p e below s 1 4 (Q3k4 Z p1 h0 n0) (s₁.setTop (mkF m 14 #[.val (.int p1), .val (.int (4 : Int32))] []))
  refine Go.step (fun _ k => XS.iloadN X0.here hx rfl (hb hby d_method_2_code_14) rfl k) ?_
  show Go FrameEnd p e below s 1 4 (Q3k4 Z p1 h0 n0) (s₁.setTop (mkF m 15 #[.val (.int p1), .val (.int (4 : Int32))] [(.int (4 : Int32))]))
  refine Go.step (fun _ k => XS.iconst X0.here hx rfl (hb hby d_method_2_code_15) k) ?_
  show Go FrameEnd p e below s 1 4 (Q3k4 Z p1 h0 n0) (s₁.setTop (mkF m 16 #[.val (.int p1), .val (.int (4 : Int32))] [(.int (2 : Int32)), (.int (4 : Int32))]))
  refine Go.step (fun _ k => XS.icmpYes X0.here hx rfl (pc0 := 16) (pc' := 36) rfl (hb hby d_method_2_code_16) rfl (feq (by decide)).2 (by decide) (by decide) k) ?_
  show Go FrameEnd p e below s 1 4 (Q3k4 Z p1 h0 n0) (s₁.setTop (mkF m 36 #[.val (.int p1), .val (.int (4 : Int32))] []))
  refine Go.step (fun _ k => XS.iloadN X0.here hx rfl (hb hby d_method_2_code_36) rfl k) ?_
  show Go FrameEnd p e below s 1 4 (Q3k4 Z p1 h0 n0) (s₁.setTop (mkF m 37 #[.val (.int p1), .val (.int (4 : Int32))] [(.int (4 : Int32))]))
  refine Go.step (fun _ k => XS.iconst X0.here hx rfl (hb hby d_method_2_code_37) k) ?_
  show Go FrameEnd p e below s 1 4 (Q3k4 Z p1 h0 n0) (s₁.setTop (mkF m 38 #[.val (.int p1), .val (.int (4 : Int32))] [(.int (3 : Int32)), (.int (4 : Int32))]))
  refine Go.step (fun _ k => XS.icmpYes X0.here hx rfl (pc0 := 38) (pc' := 66) rfl (hb hby d_method_2_code_38) rfl (feq (by decide)).2 (by decide) (by decide) k) ?_
  show Go FrameEnd p e below s 1 4 (Q3k4 Z p1 h0 n0) (s₁.setTop (mkF m 66 #[.val (.int p1), .val (.int (4 : Int32))] []))
  refine Go.step (fun _ k => XS.iconst X0.here hx rfl (hb hby d_method_2_code_66) k) ?_
  show Go FrameEnd p e below s 1 4 (Q3k4 Z p1 h0 n0) (s₁.setTop (mkF m 67 #[.val (.int p1), .val (.int (4 : Int32))] [(.int (4 : Int32))]))
  obtain ⟨T1, h1, k1, X1, e1, E1, A1, st1⟩ := newP X0 hx hZ (hw _ (List.mem_of_getElem? (i := 4) rfl)) e0 (g := (mkF m 67 #[.val (.int p1), .val (.int (4 : Int32))] [(.int (4 : Int32))])) rfl (hb hby d_method_2_code_67) rfl (by decide) (cap := 4) (by decide) (by decide) (by decide) (by decide)
  refine Go.step st1 ?_
  obtain ⟨b1, g1⟩ : ∃ z, z = h0.size := ⟨_, rfl⟩
  rw [← g1] at A1 ⊢
  have g_b1 : n0 ≤ b1 := Nat.le_trans Z0 (Nat.le_of_eq g1.symm)
  have Z1 : n0 ≤ h1.size := Nat.le_trans Z0 E1.1
  have K01 : Keep h0 h1 [] := (Keep.refl h0 []).ext E1
  have sz_b1 : h0.size ≤ b1 := Nat.le_trans (Keep.refl h0 []).1 (Nat.le_of_eq g1.symm)
  have V1 : Av Z h1 b1 .byte 4 (fun _ => (.int (0 : Int32))) := Av.new A1 (by decide) rfl
  show Go FrameEnd p e below s 1 4 (Q3k4 Z p1 h0 n0) (T1.setTop (mkF m 69 #[.val (.int p1), .val (.int (4 : Int32))] [(.ref b1)]))
  refine Go.step (fun _ k => XS.dup X1.here hx rfl (hb hby d_method_2_code_69) rfl rfl k) ?_
  show Go FrameEnd p e below s 1 4 (Q3k4 Z p1 h0 n0) (T1.setTop (mkF m 70 #[.val (.int p1), .val (.int (4 : Int32))] [(.ref b1), (.ref b1)]))
  refine Go.step (fun _ k => XS.iconst X1.here hx rfl (hb hby d_method_2_code_70) k) ?_
  show Go FrameEnd p e below s 1 4 (Q3k4 Z p1 h0 n0) (T1.setTop (mkF m 71 #[.val (.int p1), .val (.int (4 : Int32))] [(.int (0 : Int32)), (.ref b1), (.ref b1)]))
  refine Go.step (fun _ k => XS.iloadN X1.here hx rfl (hb hby d_method_2_code_71) rfl k) ?_
  show Go FrameEnd p e below s 1 4 (Q3k4 Z p1 h0 n0) (T1.setTop (mkF m 72 #[.val (.int p1), .val (.int (4 : Int32))] [(.int p1), (.int (0 : Int32)), (.ref b1), (.ref b1)]))
  refine Go.step (fun _ k => XS.bipush X1.here hx rfl (hb hby d_method_2_code_72) k) ?_
  show Go FrameEnd p e below s 1 4 (Q3k4 Z p1 h0 n0) (T1.setTop (mkF m 74 #[.val (.int p1), .val (.int (4 : Int32))] [(.int (24 : Int32)), (.int p1), (.int (0 : Int32)), (.ref b1), (.ref b1)]))
  refine Go.step (fun _ k => XS.iushr X1.here hx rfl (hb hby d_method_2_code_74) rfl k) ?_
  show Go FrameEnd p e below s 1 4 (Q3k4 Z p1 h0 n0) (T1.setTop (mkF m 75 #[.val (.int p1), .val (.int (4 : Int32))] [(.int (ushI p1 (24 : Int32))), (.int (0 : Int32)), (.ref b1), (.ref b1)]))
  refine Go.step (fun _ k => XS.i2b X1.here hx rfl (hb hby d_method_2_code_75) rfl k) ?_
  show Go FrameEnd p e below s 1 4 (Q3k4 Z p1 h0 n0) (T1.setTop (mkF m 76 #[.val (.int p1), .val (.int (4 : Int32))] [(.int (ushI p1 (24 : Int32)).toInt8.toInt32), (.int (0 : Int32)), (.ref b1), (.ref b1)]))
  obtain ⟨c2, Ac2, Sc2, Mc2, Gc2⟩ := id V1
  obtain ⟨T3, h3, X3, e3, W3, st3⟩ := stB X1 hx hZ e1 Ac2 (j := (0 : Int32)) (own_in Sc2 (by decide) (by decide)) (g := (mkF m 76 #[.val (.int p1), .val (.int (4 : Int32))] [(.int (ushI p1 (24 : Int32)).toInt8.toInt32), (.int (0 : Int32)), (.ref b1), (.ref b1)])) rfl rfl (hb hby d_method_2_code_76)
  refine Go.step st3 ?_
  rw [own_nar8] at W3
  have N3 := Fr.snoc X3 N0 g_b1
  have Z3 : n0 ≤ h3.size := Nat.le_trans Z1 (Keep.of_wr W3).1
  have K03 : Keep h0 h3 [] := K01.wr W3 (Or.inr sz_b1)
  have V3 : Av Z h3 b1 .byte 4 (aset (fun _ => (.int (0 : Int32))) 0 (.int (ushI p1 (24 : Int32)).toInt8.toInt32)) := Av.set Ac2 Sc2 Mc2 Gc2 W3 (by rfl) (own_in Sc2 (by decide) (by decide))
  show Go FrameEnd p e below s 1 4 (Q3k4 Z p1 h0 n0) (T3.setTop (mkF m 77 #[.val (.int p1), .val (.int (4 : Int32))] [(.ref b1)]))
  refine Go.step (fun _ k => XS.dup X3.here hx rfl (hb hby d_method_2_code_77) rfl rfl k) ?_
  show Go FrameEnd p e below s 1 4 (Q3k4 Z p1 h0 n0) (T3.setTop (mkF m 78 #[.val (.int p1), .val (.int (4 : Int32))] [(.ref b1), (.ref b1)]))
  refine Go.step (fun _ k => XS.iconst X3.here hx rfl (hb hby d_method_2_code_78) k) ?_
  show Go FrameEnd p e below s 1 4 (Q3k4 Z p1 h0 n0) (T3.setTop (mkF m 79 #[.val (.int p1), .val (.int (4 : Int32))] [(.int (1 : Int32)), (.ref b1), (.ref b1)]))
  refine Go.step (fun _ k => XS.iloadN X3.here hx rfl (hb hby d_method_2_code_79) rfl k) ?_
  show Go FrameEnd p e below s 1 4 (Q3k4 Z p1 h0 n0) (T3.setTop (mkF m 80 #[.val (.int p1), .val (.int (4 : Int32))] [(.int p1), (.int (1 : Int32)), (.ref b1), (.ref b1)]))
  refine Go.step (fun _ k => XS.bipush X3.here hx rfl (hb hby d_method_2_code_80) k) ?_
  show Go FrameEnd p e below s 1 4 (Q3k4 Z p1 h0 n0) (T3.setTop (mkF m 82 #[.val (.int p1), .val (.int (4 : Int32))] [(.int (16 : Int32)), (.int p1), (.int (1 : Int32)), (.ref b1), (.ref b1)]))
  refine Go.step (fun _ k => XS.iushr X3.here hx rfl (hb hby d_method_2_code_82) rfl k) ?_
  show Go FrameEnd p e below s 1 4 (Q3k4 Z p1 h0 n0) (T3.setTop (mkF m 83 #[.val (.int p1), .val (.int (4 : Int32))] [(.int (ushI p1 (16 : Int32))), (.int (1 : Int32)), (.ref b1), (.ref b1)]))
  refine Go.step (fun _ k => XS.i2b X3.here hx rfl (hb hby d_method_2_code_83) rfl k) ?_
  show Go FrameEnd p e below s 1 4 (Q3k4 Z p1 h0 n0) (T3.setTop (mkF m 84 #[.val (.int p1), .val (.int (4 : Int32))] [(.int (ushI p1 (16 : Int32)).toInt8.toInt32), (.int (1 : Int32)), (.ref b1), (.ref b1)]))
  obtain ⟨c4, Ac4, Sc4, Mc4, Gc4⟩ := id V3
  obtain ⟨T5, h5, X5, e5, W5, st5⟩ := stB X3 hx hZ e3 Ac4 (j := (1 : Int32)) (own_in Sc4 (by decide) (by decide)) (g := (mkF m 84 #[.val (.int p1), .val (.int (4 : Int32))] [(.int (ushI p1 (16 : Int32)).toInt8.toInt32), (.int (1 : Int32)), (.ref b1), (.ref b1)])) rfl rfl (hb hby d_method_2_code_84)
  refine Go.step st5 ?_
  rw [own_nar8] at W5
  have N5 := Fr.snoc X5 N3 g_b1
  have Z5 : n0 ≤ h5.size := Nat.le_trans Z3 (Keep.of_wr W5).1
  have K05 : Keep h0 h5 [] := K03.wr W5 (Or.inr sz_b1)
  have V5 : Av Z h5 b1 .byte 4 (aset (aset (fun _ => (.int (0 : Int32))) 0 (.int (ushI p1 (24 : Int32)).toInt8.toInt32)) 1 (.int (ushI p1 (16 : Int32)).toInt8.toInt32)) := Av.set Ac4 Sc4 Mc4 Gc4 W5 (by rfl) (own_in Sc4 (by decide) (by decide))
  show Go FrameEnd p e below s 1 4 (Q3k4 Z p1 h0 n0) (T5.setTop (mkF m 85 #[.val (.int p1), .val (.int (4 : Int32))] [(.ref b1)]))
  refine Go.step (fun _ k => XS.dup X5.here hx rfl (hb hby d_method_2_code_85) rfl rfl k) ?_
  show Go FrameEnd p e below s 1 4 (Q3k4 Z p1 h0 n0) (T5.setTop (mkF m 86 #[.val (.int p1), .val (.int (4 : Int32))] [(.ref b1), (.ref b1)]))
  refine Go.step (fun _ k => XS.iconst X5.here hx rfl (hb hby d_method_2_code_86) k) ?_
  show Go FrameEnd p e below s 1 4 (Q3k4 Z p1 h0 n0) (T5.setTop (mkF m 87 #[.val (.int p1), .val (.int (4 : Int32))] [(.int (2 : Int32)), (.ref b1), (.ref b1)]))
  refine Go.step (fun _ k => XS.iloadN X5.here hx rfl (hb hby d_method_2_code_87) rfl k) ?_
  show Go FrameEnd p e below s 1 4 (Q3k4 Z p1 h0 n0) (T5.setTop (mkF m 88 #[.val (.int p1), .val (.int (4 : Int32))] [(.int p1), (.int (2 : Int32)), (.ref b1), (.ref b1)]))
  refine Go.step (fun _ k => XS.bipush X5.here hx rfl (hb hby d_method_2_code_88) k) ?_
  show Go FrameEnd p e below s 1 4 (Q3k4 Z p1 h0 n0) (T5.setTop (mkF m 90 #[.val (.int p1), .val (.int (4 : Int32))] [(.int (8 : Int32)), (.int p1), (.int (2 : Int32)), (.ref b1), (.ref b1)]))
  refine Go.step (fun _ k => XS.iushr X5.here hx rfl (hb hby d_method_2_code_90) rfl k) ?_
  show Go FrameEnd p e below s 1 4 (Q3k4 Z p1 h0 n0) (T5.setTop (mkF m 91 #[.val (.int p1), .val (.int (4 : Int32))] [(.int (ushI p1 (8 : Int32))), (.int (2 : Int32)), (.ref b1), (.ref b1)]))
  refine Go.step (fun _ k => XS.i2b X5.here hx rfl (hb hby d_method_2_code_91) rfl k) ?_
  show Go FrameEnd p e below s 1 4 (Q3k4 Z p1 h0 n0) (T5.setTop (mkF m 92 #[.val (.int p1), .val (.int (4 : Int32))] [(.int (ushI p1 (8 : Int32)).toInt8.toInt32), (.int (2 : Int32)), (.ref b1), (.ref b1)]))
  obtain ⟨c6, Ac6, Sc6, Mc6, Gc6⟩ := id V5
  obtain ⟨T7, h7, X7, e7, W7, st7⟩ := stB X5 hx hZ e5 Ac6 (j := (2 : Int32)) (own_in Sc6 (by decide) (by decide)) (g := (mkF m 92 #[.val (.int p1), .val (.int (4 : Int32))] [(.int (ushI p1 (8 : Int32)).toInt8.toInt32), (.int (2 : Int32)), (.ref b1), (.ref b1)])) rfl rfl (hb hby d_method_2_code_92)
  refine Go.step st7 ?_
  rw [own_nar8] at W7
  have N7 := Fr.snoc X7 N5 g_b1
  have Z7 : n0 ≤ h7.size := Nat.le_trans Z5 (Keep.of_wr W7).1
  have K07 : Keep h0 h7 [] := K05.wr W7 (Or.inr sz_b1)
  have V7 : Av Z h7 b1 .byte 4 (aset (aset (aset (fun _ => (.int (0 : Int32))) 0 (.int (ushI p1 (24 : Int32)).toInt8.toInt32)) 1 (.int (ushI p1 (16 : Int32)).toInt8.toInt32)) 2 (.int (ushI p1 (8 : Int32)).toInt8.toInt32)) := Av.set Ac6 Sc6 Mc6 Gc6 W7 (by rfl) (own_in Sc6 (by decide) (by decide))
  show Go FrameEnd p e below s 1 4 (Q3k4 Z p1 h0 n0) (T7.setTop (mkF m 93 #[.val (.int p1), .val (.int (4 : Int32))] [(.ref b1)]))
  refine Go.step (fun _ k => XS.dup X7.here hx rfl (hb hby d_method_2_code_93) rfl rfl k) ?_
  show Go FrameEnd p e below s 1 4 (Q3k4 Z p1 h0 n0) (T7.setTop (mkF m 94 #[.val (.int p1), .val (.int (4 : Int32))] [(.ref b1), (.ref b1)]))
  refine Go.step (fun _ k => XS.iconst X7.here hx rfl (hb hby d_method_2_code_94) k) ?_
  show Go FrameEnd p e below s 1 4 (Q3k4 Z p1 h0 n0) (T7.setTop (mkF m 95 #[.val (.int p1), .val (.int (4 : Int32))] [(.int (3 : Int32)), (.ref b1), (.ref b1)]))
  refine Go.step (fun _ k => XS.iloadN X7.here hx rfl (hb hby d_method_2_code_95) rfl k) ?_
  show Go FrameEnd p e below s 1 4 (Q3k4 Z p1 h0 n0) (T7.setTop (mkF m 96 #[.val (.int p1), .val (.int (4 : Int32))] [(.int p1), (.int (3 : Int32)), (.ref b1), (.ref b1)]))
  refine Go.step (fun _ k => XS.i2b X7.here hx rfl (hb hby d_method_2_code_96) rfl k) ?_
  show Go FrameEnd p e below s 1 4 (Q3k4 Z p1 h0 n0) (T7.setTop (mkF m 97 #[.val (.int p1), .val (.int (4 : Int32))] [(.int p1.toInt8.toInt32), (.int (3 : Int32)), (.ref b1), (.ref b1)]))
  obtain ⟨c8, Ac8, Sc8, Mc8, Gc8⟩ := id V7
  obtain ⟨T9, h9, X9, e9, W9, st9⟩ := stB X7 hx hZ e7 Ac8 (j := (3 : Int32)) (own_in Sc8 (by decide) (by decide)) (g := (mkF m 97 #[.val (.int p1), .val (.int (4 : Int32))] [(.int p1.toInt8.toInt32), (.int (3 : Int32)), (.ref b1), (.ref b1)])) rfl rfl (hb hby d_method_2_code_97)
  refine Go.step st9 ?_
  rw [own_nar8] at W9
  have N9 := Fr.snoc X9 N7 g_b1
  have Z9 : n0 ≤ h9.size := Nat.le_trans Z7 (Keep.of_wr W9).1
  have K09 : Keep h0 h9 [] := K07.wr W9 (Or.inr sz_b1)
  have V9 : Av Z h9 b1 .byte 4 (aset (aset (aset (aset (fun _ => (.int (0 : Int32))) 0 (.int (ushI p1 (24 : Int32)).toInt8.toInt32)) 1 (.int (ushI p1 (16 : Int32)).toInt8.toInt32)) 2 (.int (ushI p1 (8 : Int32)).toInt8.toInt32)) 3 (.int p1.toInt8.toInt32)) := Av.set Ac8 Sc8 Mc8 Gc8 W9 (by rfl) (own_in Sc8 (by decide) (by decide))
  show Go FrameEnd p e below s 1 4 (Q3k4 Z p1 h0 n0) (T9.setTop (mkF m 98 #[.val (.int p1), .val (.int (4 : Int32))] [(.ref b1)]))
  refine Go.retR X9 hx Bd.returns rfl rfl (hb hby d_method_2_code_98) (BodyLoose.notSynchronized Bd) e9 (by decide) (by decide) ?_
  exact ⟨b1, rfl, N9, sz_b1, K09, V9⟩
def Q4k4 (Z : State) (a1 : Addr) (t : Addr) (x : Int32) (h0 : Heap) (v : Option Value) (h : Heap) (L : List Loc) : Prop := v = some (.int (((((((ushI x (24 : Int32)).toInt8.toInt32 <<< ((8 : Int32) &&& 31)) ||| ((ushI x (16 : Int32)).toInt8.toInt32 &&& (255 : Int32))) <<< ((8 : Int32) &&& 31)) ||| ((ushI x (8 : Int32)).toInt8.toInt32 &&& (255 : Int32))) <<< ((8 : Int32) &&& 31)) ||| (x.toInt8.toInt32 &&& (255 : Int32)))) ∧ L = [] ∧ h = h0
theorem ef_4k4 (m : MethodId) (a1 : Addr) : entryFrame m #[(.ref a1)] 3 = mkF m 0 #[.val (.ref a1), .unset, .unset] [] := by first | (simp [entryFrame, mkF, argsToLocals, Value.category]; done) | rfl
set_option maxRecDepth 65536 in
set_option maxHeartbeats 40000000 in
theorem rm4k4 (l : Launch) (Z : State) (a0 : Array Value) (hw : ∀ d ∈ tables_1, d.before a0 Z = true) (ws : List Jvm.Cond) (a1 : Addr) (t : Addr) (x : Int32) (h0 : Heap) (F_content_a1 : Fld Z h0 a1 "com/example/keylattice/keylattice/Ber$Element" "content" "[B" (.ref t)) (V_t : Av Z h0 t .byte 4 (aset (aset (aset (aset (fun _ => (.int (0 : Int32))) 0 (.int (ushI x (24 : Int32)).toInt8.toInt32)) 1 (.int (ushI x (16 : Int32)).toInt8.toInt32)) 2 (.int (ushI x (8 : Int32)).toInt8.toInt32)) 3 (.int x.toInt8.toInt32))) :
    MetFree l (⟨"com/example/keylattice/keylattice/Ber$Element", "integer", "()I"⟩ : MethodName) (head1 (Jvm.Cond.code (⟨"com/example/keylattice/keylattice/Ber$Element", "integer", "()I"⟩ : MethodName) prog_5_method_3_code 3 (some .int) :: ws) ({ frames := 0, cells := 0, slots := 0, locals := 0 } : Room)) (fun a U => a = #[(.ref a1)] ∧ Z.Warmed39 U.vm ∧ U.heap = h0) (fun _ _ _ _ _ => True) (fun _ U o U' => ∃ v L, o = .returned v ∧ (Q4k4 Z a1 t x h0) v U'.heap L ∧ FrameEnd U o U' L 0 0) := by
  refine MetFree.of_bodySF (plainFor_of_name pn_com_example_keylattice_keylattice_Ber_Element) hisR ?_
  intro p e s m args below meth c s₁ Bd hml0 hP hK
  obtain ⟨rfl, hZ, hh⟩ := hP
  have hx := Bd.exec
  have hby := Bd.bytes
  have hml : c.maxLocals = 3 := hml0
  have hown : s.vm.findClass "com/example/keylattice/keylattice/Ber$Element" = some m.cls := findClass_of_methodNamed Bd.named
  have hnm := (name_of_methodNamed Bd.named Bd.method).1
  have X0 : Stand p l e ({ frames := 0, cells := 0, slots := 0, locals := 0 } : Room) s m #[(.ref a1)] below meth c s₁ [] 0 0 := Stand.of_body Bd
  have e0 : s₁.heap = h0 := by rw [← hh, Bd.state]; rfl
  show Go FrameEnd p e below s 0 0 (Q4k4 Z a1 t x h0) _
  refine Go.step (fun _ k => castTop (ef_4k4 m a1) k) ?_
  show Go FrameEnd p e below s 0 0 (Q4k4 Z a1 t x h0) (s₁.setTop (mkF m 0 #[.val (.ref a1), .unset, .unset] []))
  refine Go.step (fun _ k => XS.aloadN X0.here hx rfl (hb hby d_prog_5_method_3_code_0) rfl rfl k) ?_
  show Go FrameEnd p e below s 0 0 (Q4k4 Z a1 t x h0) (s₁.setTop (mkF m 1 #[.val (.ref a1), .unset, .unset] [(.ref a1)]))
  obtain ⟨T1, X1, e1, st1⟩ := getF X0 hx hZ hown (host := "") (Or.inl (hw _ (List.mem_of_getElem? (i := 21) rfl))) Via.refl e0 F_content_a1 (g := (mkF m 1 #[.val (.ref a1), .unset, .unset] [(.ref a1)])) rfl rfl (hb hby d_prog_5_method_3_code_1)
  refine Go.step st1 ?_
  show Go FrameEnd p e below s 0 0 (Q4k4 Z a1 t x h0) (T1.setTop (mkF m 4 #[.val (.ref a1), .unset, .unset] [(.ref t)]))
  obtain ⟨c2, Ac2, Sc2, Mc2, Gc2⟩ := id V_t
  refine Go.step (X1.arraylength hx (by rw [e1]; exact Ac2.1) (State.isArrayOf_alike hZ.alike Ac2.2.1) (g := (mkF m 4 #[.val (.ref a1), .unset, .unset] [(.ref t)])) rfl rfl (hb hby d_prog_5_method_3_code_4)) ?_
  rw [show c2.slots.size.toInt32 = (4 : Int32) from by rw [Sc2]; rfl]
  show Go FrameEnd p e below s 0 0 (Q4k4 Z a1 t x h0) (T1.setTop (mkF m 5 #[.val (.ref a1), .unset, .unset] [(.int (4 : Int32))]))
  refine Go.step (fun _ k => XS.ifNo X1.here hx rfl (hb hby d_prog_5_method_3_code_5) rfl ((if0 _ _).trans (feq (by decide)).1) k) ?_
  show Go FrameEnd p e below s 0 0 (Q4k4 Z a1 t x h0) (T1.setTop (mkF m 8 #[.val (.ref a1), .unset, .unset] []))
  refine Go.step (fun _ k => XS.aloadN X1.here hx rfl (hb hby d_prog_5_method_3_code_8) rfl rfl k) ?_
  show Go FrameEnd p e below s 0 0 (Q4k4 Z a1 t x h0) (T1.setTop (mkF m 9 #[.val (.ref a1), .unset, .unset] [(.ref a1)]))
  obtain ⟨T3, X3, e3, st3⟩ := getF X1 hx hZ hown (host := "") (Or.inl (hw _ (List.mem_of_getElem? (i := 21) rfl))) Via.refl e1 F_content_a1 (g := (mkF m 9 #[.val (.ref a1), .unset, .unset] [(.ref a1)])) rfl rfl (hb hby d_prog_5_method_3_code_9)
  refine Go.step st3 ?_
  show Go FrameEnd p e below s 0 0 (Q4k4 Z a1 t x h0) (T3.setTop (mkF m 12 #[.val (.ref a1), .unset, .unset] [(.ref t)]))
  obtain ⟨c4, Ac4, Sc4, Mc4, Gc4⟩ := id V_t
  refine Go.step (X3.arraylength hx (by rw [e3]; exact Ac4.1) (State.isArrayOf_alike hZ.alike Ac4.2.1) (g := (mkF m 12 #[.val (.ref a1), .unset, .unset] [(.ref t)])) rfl rfl (hb hby d_prog_5_method_3_code_12)) ?_
  rw [show c4.slots.size.toInt32 = (4 : Int32) from by rw [Sc4]; rfl]
  show Go FrameEnd p e below s 0 0 (Q4k4 Z a1 t x h0) (T3.setTop (mkF m 13 #[.val (.ref a1), .unset, .unset] [(.int (4 : Int32))]))
  refine Go.step (fun _ k => XS.iconst X3.here hx rfl (hb hby d_prog_5_method_3_code_13) k) ?_
  show Go FrameEnd p e below s 0 0 (Q4k4 Z a1 t x h0) (T3.setTop (mkF m 14 #[.val (.ref a1), .unset, .unset] [(.int (4 : Int32)), (.int (4 : Int32))]))
  refine Go.step (fun _ k => XS.icmpYes X3.here hx rfl (pc0 := 14) (pc' := 35) rfl (hb hby d_prog_5_method_3_code_14) rfl (flt (by decide)).2.2.2 (by decide) (by decide) k) ?_
  show Go FrameEnd p e below s 0 0 (Q4k4 Z a1 t x h0) (T3.setTop (mkF m 35 #[.val (.ref a1), .unset, .unset] []))
  refine Go.step (fun _ k => XS.aloadN X3.here hx rfl (hb hby d_prog_5_method_3_code_35) rfl rfl k) ?_
  show Go FrameEnd p e below s 0 0 (Q4k4 Z a1 t x h0) (T3.setTop (mkF m 36 #[.val (.ref a1), .unset, .unset] [(.ref a1)]))
  obtain ⟨T5, X5, e5, st5⟩ := getF X3 hx hZ hown (host := "") (Or.inl (hw _ (List.mem_of_getElem? (i := 21) rfl))) Via.refl e3 F_content_a1 (g := (mkF m 36 #[.val (.ref a1), .unset, .unset] [(.ref a1)])) rfl rfl (hb hby d_prog_5_method_3_code_36)
  refine Go.step st5 ?_
  show Go FrameEnd p e below s 0 0 (Q4k4 Z a1 t x h0) (T5.setTop (mkF m 39 #[.val (.ref a1), .unset, .unset] [(.ref t)]))
  refine Go.step (fun _ k => XS.iconst X5.here hx rfl (hb hby d_prog_5_method_3_code_39) k) ?_
  show Go FrameEnd p e below s 0 0 (Q4k4 Z a1 t x h0) (T5.setTop (mkF m 40 #[.val (.ref a1), .unset, .unset] [(.int (0 : Int32)), (.ref t)]))
  obtain ⟨c6, Ac6, Sc6, Mc6, Gc6⟩ := id V_t
  refine Go.step (X5.baloadBytes hx (j := (0 : Int32)) (v := (.int (ushI x (24 : Int32)).toInt8.toInt32)) (by rw [e5]; exact Ac6.1) (State.isArrayOf_alike hZ.alike Ac6.2.1) Ac6.2.2 (own_in Sc6 (by decide) (by decide)) (Av.at Gc6 (by rfl) (by decide) rfl) (g := (mkF m 40 #[.val (.ref a1), .unset, .unset] [(.int (0 : Int32)), (.ref t)])) rfl rfl (hb hby d_prog_5_method_3_code_40)) ?_
  show Go FrameEnd p e below s 0 0 (Q4k4 Z a1 t x h0) (T5.setTop (mkF m 41 #[.val (.ref a1), .unset, .unset] [(.int (ushI x (24 : Int32)).toInt8.toInt32)]))
  refine Go.step (fun _ k => XS.istoreN X5.here hx rfl (hb hby d_prog_5_method_3_code_41) rfl (l' := #[.val (.ref a1), .val (.int (ushI x (24 : Int32)).toInt8.toInt32), .unset]) rfl k) ?_
  show Go FrameEnd p e below s 0 0 (Q4k4 Z a1 t x h0) (T5.setTop (mkF m 42 #[.val (.ref a1), .val (.int (ushI x (24 : Int32)).toInt8.toInt32), .unset] []))
  refine Go.step (fun _ k => XS.iconst X5.here hx rfl (hb hby d_prog_5_method_3_code_42) k) ?_
  show Go FrameEnd p e below s 0 0 (Q4k4 Z a1 t x h0) (T5.setTop (mkF m 43 #[.val (.ref a1), .val (.int (ushI x (24 : Int32)).toInt8.toInt32), .unset] [(.int (1 : Int32))]))
  refine Go.step (fun _ k => XS.istoreN X5.here hx rfl (hb hby d_prog_5_method_3_code_43) rfl (l' := #[.val (.ref a1), .val (.int (ushI x (24 : Int32)).toInt8.toInt32), .val (.int (1 : Int32))]) rfl k) ?_
  show Go FrameEnd p e below s 0 0 (Q4k4 Z a1 t x h0) (T5.setTop (mkF m 44 #[.val (.ref a1), .val (.int (ushI x (24 : Int32)).toInt8.toInt32), .val (.int (1 : Int32))] []))
  refine Go.step (fun _ k => XS.iloadN X5.here hx rfl (hb hby d_prog_5_method_3_code_44) rfl k) ?_
  show Go FrameEnd p e below s 0 0 (Q4k4 Z a1 t x h0) (T5.setTop (mkF m 45 #[.val (.ref a1), .val (.int (ushI x (24 : Int32)).toInt8.toInt32), .val (.int (1 : Int32))] [(.int (1 : Int32))]))
  refine Go.step (fun _ k => XS.aloadN X5.here hx rfl (hb hby d_prog_5_method_3_code_45) rfl rfl k) ?_
  show Go FrameEnd p e below s 0 0 (Q4k4 Z a1 t x h0) (T5.setTop (mkF m 46 #[.val (.ref a1), .val (.int (ushI x (24 : Int32)).toInt8.toInt32), .val (.int (1 : Int32))] [(.ref a1), (.int (1 : Int32))]))
  obtain ⟨T7, X7, e7, st7⟩ := getF X5 hx hZ hown (host := "") (Or.inl (hw _ (List.mem_of_getElem? (i := 21) rfl))) Via.refl e5 F_content_a1 (g := (mkF m 46 #[.val (.ref a1), .val (.int (ushI x (24 : Int32)).toInt8.toInt32), .val (.int (1 : Int32))] [(.ref a1), (.int (1 : Int32))])) rfl rfl (hb hby d_prog_5_method_3_code_46)
  refine Go.step st7 ?_
  show Go FrameEnd p e below s 0 0 (Q4k4 Z a1 t x h0) (T7.setTop (mkF m 49 #[.val (.ref a1), .val (.int (ushI x (24 : Int32)).toInt8.toInt32), .val (.int (1 : Int32))] [(.ref t), (.int (1 : Int32))]))
  obtain ⟨c8, Ac8, Sc8, Mc8, Gc8⟩ := id V_t
  refine Go.step (X7.arraylength hx (by rw [e7]; exact Ac8.1) (State.isArrayOf_alike hZ.alike Ac8.2.1) (g := (mkF m 49 #[.val (.ref a1), .val (.int (ushI x (24 : Int32)).toInt8.toInt32), .val (.int (1 : Int32))] [(.ref t), (.int (1 : Int32))])) rfl rfl (hb hby d_prog_5_method_3_code_49)) ?_
  rw [show c8.slots.size.toInt32 = (4 : Int32) from by rw [Sc8]; rfl]
  show Go FrameEnd p e below s 0 0 (Q4k4 Z a1 t x h0) (T7.setTop (mkF m 50 #[.val (.ref a1), .val (.int (ushI x (24 : Int32)).toInt8.toInt32), .val (.int (1 : Int32))] [(.int (4 : Int32)), (.int (1 : Int32))]))
  refine Go.step (fun _ k => XS.icmpNo X7.here hx rfl (hb hby d_prog_5_method_3_code_50) rfl (tlt (by decide)).2.1 k) ?_
  show Go FrameEnd p e below s 0 0 (Q4k4 Z a1 t x h0) (T7.setTop (mkF m 53 #[.val (.ref a1), .val (.int (ushI x (24 : Int32)).toInt8.toInt32), .val (.int (1 : Int32))] []))
  refine Go.step (fun _ k => XS.iloadN X7.here hx rfl (hb hby d_prog_5_method_3_code_53) rfl k) ?_
  show Go FrameEnd p e below s 0 0 (Q4k4 Z a1 t x h0) (T7.setTop (mkF m 54 #[.val (.ref a1), .val (.int (ushI x (24 : Int32)).toInt8.toInt32), .val (.int (1 : Int32))] [(.int (ushI x (24 : Int32)).toInt8.toInt32)]))
  refine Go.step (fun _ k => XS.bipush X7.here hx rfl (hb hby d_prog_5_method_3_code_54) k) ?_
  show Go FrameEnd p e below s 0 0 (Q4k4 Z a1 t x h0) (T7.setTop (mkF m 56 #[.val (.ref a1), .val (.int (ushI x (24 : Int32)).toInt8.toInt32), .val (.int (1 : Int32))] [(.int (8 : Int32)), (.int (ushI x (24 : Int32)).toInt8.toInt32)]))
  refine Go.step (fun _ k => XS.ishl X7.here hx rfl (hb hby d_prog_5_method_3_code_56) rfl k) ?_
  show Go FrameEnd p e below s 0 0 (Q4k4 Z a1 t x h0) (T7.setTop (mkF m 57 #[.val (.ref a1), .val (.int (ushI x (24 : Int32)).toInt8.toInt32), .val (.int (1 : Int32))] [(.int ((ushI x (24 : Int32)).toInt8.toInt32 <<< ((8 : Int32) &&& 31)))]))
  refine Go.step (fun _ k => XS.aloadN X7.here hx rfl (hb hby d_prog_5_method_3_code_57) rfl rfl k) ?_
  show Go FrameEnd p e below s 0 0 (Q4k4 Z a1 t x h0) (T7.setTop (mkF m 58 #[.val (.ref a1), .val (.int (ushI x (24 : Int32)).toInt8.toInt32), .val (.int (1 : Int32))] [(.ref a1), (.int ((ushI x (24 : Int32)).toInt8.toInt32 <<< ((8 : Int32) &&& 31)))]))
  obtain ⟨T9, X9, e9, st9⟩ := getF X7 hx hZ hown (host := "") (Or.inl (hw _ (List.mem_of_getElem? (i := 21) rfl))) Via.refl e7 F_content_a1 (g := (mkF m 58 #[.val (.ref a1), .val (.int (ushI x (24 : Int32)).toInt8.toInt32), .val (.int (1 : Int32))] [(.ref a1), (.int ((ushI x (24 : Int32)).toInt8.toInt32 <<< ((8 : Int32) &&& 31)))])) rfl rfl (hb hby d_prog_5_method_3_code_58)
  refine Go.step st9 ?_
  show Go FrameEnd p e below s 0 0 (Q4k4 Z a1 t x h0) (T9.setTop (mkF m 61 #[.val (.ref a1), .val (.int (ushI x (24 : Int32)).toInt8.toInt32), .val (.int (1 : Int32))] [(.ref t), (.int ((ushI x (24 : Int32)).toInt8.toInt32 <<< ((8 : Int32) &&& 31)))]))
  refine Go.step (fun _ k => XS.iloadN X9.here hx rfl (hb hby d_prog_5_method_3_code_61) rfl k) ?_
  show Go FrameEnd p e below s 0 0 (Q4k4 Z a1 t x h0) (T9.setTop (mkF m 62 #[.val (.ref a1), .val (.int (ushI x (24 : Int32)).toInt8.toInt32), .val (.int (1 : Int32))] [(.int (1 : Int32)), (.ref t), (.int ((ushI x (24 : Int32)).toInt8.toInt32 <<< ((8 : Int32) &&& 31)))]))
  obtain ⟨c10, Ac10, Sc10, Mc10, Gc10⟩ := id V_t
  refine Go.step (X9.baloadBytes hx (j := (1 : Int32)) (v := (.int (ushI x (16 : Int32)).toInt8.toInt32)) (by rw [e9]; exact Ac10.1) (State.isArrayOf_alike hZ.alike Ac10.2.1) Ac10.2.2 (own_in Sc10 (by decide) (by decide)) (Av.at Gc10 (by rfl) (by decide) rfl) (g := (mkF m 62 #[.val (.ref a1), .val (.int (ushI x (24 : Int32)).toInt8.toInt32), .val (.int (1 : Int32))] [(.int (1 : Int32)), (.ref t), (.int ((ushI x (24 : Int32)).toInt8.toInt32 <<< ((8 : Int32) &&& 31)))])) rfl rfl (hb hby d_prog_5_method_3_code_62)) ?_
  show Go FrameEnd p e below s 0 0 (Q4k4 Z a1 t x h0) (T9.setTop (mkF m 63 #[.val (.ref a1), .val (.int (ushI x (24 : Int32)).toInt8.toInt32), .val (.int (1 : Int32))] [(.int (ushI x (16 : Int32)).toInt8.toInt32), (.int ((ushI x (24 : Int32)).toInt8.toInt32 <<< ((8 : Int32) &&& 31)))]))
  refine Go.step (fun _ k => XS.sipush X9.here hx rfl (hb hby d_prog_5_method_3_code_63) k) ?_
  show Go FrameEnd p e below s 0 0 (Q4k4 Z a1 t x h0) (T9.setTop (mkF m 66 #[.val (.ref a1), .val (.int (ushI x (24 : Int32)).toInt8.toInt32), .val (.int (1 : Int32))] [(.int (255 : Int32)), (.int (ushI x (16 : Int32)).toInt8.toInt32), (.int ((ushI x (24 : Int32)).toInt8.toInt32 <<< ((8 : Int32) &&& 31)))]))
  refine Go.step (fun _ k => XS.iand X9.here hx rfl (hb hby d_prog_5_method_3_code_66) rfl k) ?_
  show Go FrameEnd p e below s 0 0 (Q4k4 Z a1 t x h0) (T9.setTop (mkF m 67 #[.val (.ref a1), .val (.int (ushI x (24 : Int32)).toInt8.toInt32), .val (.int (1 : Int32))] [(.int ((ushI x (16 : Int32)).toInt8.toInt32 &&& (255 : Int32))), (.int ((ushI x (24 : Int32)).toInt8.toInt32 <<< ((8 : Int32) &&& 31)))]))
  refine Go.step (fun _ k => XS.ior X9.here hx rfl (hb hby d_prog_5_method_3_code_67) rfl k) ?_
  show Go FrameEnd p e below s 0 0 (Q4k4 Z a1 t x h0) (T9.setTop (mkF m 68 #[.val (.ref a1), .val (.int (ushI x (24 : Int32)).toInt8.toInt32), .val (.int (1 : Int32))] [(.int (((ushI x (24 : Int32)).toInt8.toInt32 <<< ((8 : Int32) &&& 31)) ||| ((ushI x (16 : Int32)).toInt8.toInt32 &&& (255 : Int32))))]))
  refine Go.step (fun _ k => XS.istoreN X9.here hx rfl (hb hby d_prog_5_method_3_code_68) rfl (l' := #[.val (.ref a1), .val (.int (((ushI x (24 : Int32)).toInt8.toInt32 <<< ((8 : Int32) &&& 31)) ||| ((ushI x (16 : Int32)).toInt8.toInt32 &&& (255 : Int32)))), .val (.int (1 : Int32))]) rfl k) ?_
  show Go FrameEnd p e below s 0 0 (Q4k4 Z a1 t x h0) (T9.setTop (mkF m 69 #[.val (.ref a1), .val (.int (((ushI x (24 : Int32)).toInt8.toInt32 <<< ((8 : Int32) &&& 31)) ||| ((ushI x (16 : Int32)).toInt8.toInt32 &&& (255 : Int32)))), .val (.int (1 : Int32))] []))
  refine Go.step (fun _ k => XS.iinc X9.here hx rfl (hb hby d_prog_5_method_3_code_69) rfl (l' := #[.val (.ref a1), .val (.int (((ushI x (24 : Int32)).toInt8.toInt32 <<< ((8 : Int32) &&& 31)) ||| ((ushI x (16 : Int32)).toInt8.toInt32 &&& (255 : Int32)))), .val (.int (2 : Int32))]) rfl k) ?_
  show Go FrameEnd p e below s 0 0 (Q4k4 Z a1 t x h0) (T9.setTop (mkF m 72 #[.val (.ref a1), .val (.int (((ushI x (24 : Int32)).toInt8.toInt32 <<< ((8 : Int32) &&& 31)) ||| ((ushI x (16 : Int32)).toInt8.toInt32 &&& (255 : Int32)))), .val (.int (2 : Int32))] []))
  refine Go.step (fun _ k => XS.goto X9.here hx rfl (pc0 := 72) (pc' := 44) rfl (hb hby d_prog_5_method_3_code_72) (by decide) (by decide) k) ?_
  show Go FrameEnd p e below s 0 0 (Q4k4 Z a1 t x h0) (T9.setTop (mkF m 44 #[.val (.ref a1), .val (.int (((ushI x (24 : Int32)).toInt8.toInt32 <<< ((8 : Int32) &&& 31)) ||| ((ushI x (16 : Int32)).toInt8.toInt32 &&& (255 : Int32)))), .val (.int (2 : Int32))] []))
  refine Go.step (fun _ k => XS.iloadN X9.here hx rfl (hb hby d_prog_5_method_3_code_44) rfl k) ?_
  show Go FrameEnd p e below s 0 0 (Q4k4 Z a1 t x h0) (T9.setTop (mkF m 45 #[.val (.ref a1), .val (.int (((ushI x (24 : Int32)).toInt8.toInt32 <<< ((8 : Int32) &&& 31)) ||| ((ushI x (16 : Int32)).toInt8.toInt32 &&& (255 : Int32)))), .val (.int (2 : Int32))] [(.int (2 : Int32))]))
  refine Go.step (fun _ k => XS.aloadN X9.here hx rfl (hb hby d_prog_5_method_3_code_45) rfl rfl k) ?_
  show Go FrameEnd p e below s 0 0 (Q4k4 Z a1 t x h0) (T9.setTop (mkF m 46 #[.val (.ref a1), .val (.int (((ushI x (24 : Int32)).toInt8.toInt32 <<< ((8 : Int32) &&& 31)) ||| ((ushI x (16 : Int32)).toInt8.toInt32 &&& (255 : Int32)))), .val (.int (2 : Int32))] [(.ref a1), (.int (2 : Int32))]))
  obtain ⟨T11, X11, e11, st11⟩ := getF X9 hx hZ hown (host := "") (Or.inl (hw _ (List.mem_of_getElem? (i := 21) rfl))) Via.refl e9 F_content_a1 (g := (mkF m 46 #[.val (.ref a1), .val (.int (((ushI x (24 : Int32)).toInt8.toInt32 <<< ((8 : Int32) &&& 31)) ||| ((ushI x (16 : Int32)).toInt8.toInt32 &&& (255 : Int32)))), .val (.int (2 : Int32))] [(.ref a1), (.int (2 : Int32))])) rfl rfl (hb hby d_prog_5_method_3_code_46)
  refine Go.step st11 ?_
  show Go FrameEnd p e below s 0 0 (Q4k4 Z a1 t x h0) (T11.setTop (mkF m 49 #[.val (.ref a1), .val (.int (((ushI x (24 : Int32)).toInt8.toInt32 <<< ((8 : Int32) &&& 31)) ||| ((ushI x (16 : Int32)).toInt8.toInt32 &&& (255 : Int32)))), .val (.int (2 : Int32))] [(.ref t), (.int (2 : Int32))]))
  obtain ⟨c12, Ac12, Sc12, Mc12, Gc12⟩ := id V_t
  refine Go.step (X11.arraylength hx (by rw [e11]; exact Ac12.1) (State.isArrayOf_alike hZ.alike Ac12.2.1) (g := (mkF m 49 #[.val (.ref a1), .val (.int (((ushI x (24 : Int32)).toInt8.toInt32 <<< ((8 : Int32) &&& 31)) ||| ((ushI x (16 : Int32)).toInt8.toInt32 &&& (255 : Int32)))), .val (.int (2 : Int32))] [(.ref t), (.int (2 : Int32))])) rfl rfl (hb hby d_prog_5_method_3_code_49)) ?_
  rw [show c12.slots.size.toInt32 = (4 : Int32) from by rw [Sc12]; rfl]
  show Go FrameEnd p e below s 0 0 (Q4k4 Z a1 t x h0) (T11.setTop (mkF m 50 #[.val (.ref a1), .val (.int (((ushI x (24 : Int32)).toInt8.toInt32 <<< ((8 : Int32) &&& 31)) ||| ((ushI x (16 : Int32)).toInt8.toInt32 &&& (255 : Int32)))), .val (.int (2 : Int32))] [(.int (4 : Int32)), (.int (2 : Int32))]))
  refine Go.step (fun _ k => XS.icmpNo X11.here hx rfl (hb hby d_prog_5_method_3_code_50) rfl (tlt (by decide)).2.1 k) ?_
  show Go FrameEnd p e below s 0 0 (Q4k4 Z a1 t x h0) (T11.setTop (mkF m 53 #[.val (.ref a1), .val (.int (((ushI x (24 : Int32)).toInt8.toInt32 <<< ((8 : Int32) &&& 31)) ||| ((ushI x (16 : Int32)).toInt8.toInt32 &&& (255 : Int32)))), .val (.int (2 : Int32))] []))
  refine Go.step (fun _ k => XS.iloadN X11.here hx rfl (hb hby d_prog_5_method_3_code_53) rfl k) ?_
  show Go FrameEnd p e below s 0 0 (Q4k4 Z a1 t x h0) (T11.setTop (mkF m 54 #[.val (.ref a1), .val (.int (((ushI x (24 : Int32)).toInt8.toInt32 <<< ((8 : Int32) &&& 31)) ||| ((ushI x (16 : Int32)).toInt8.toInt32 &&& (255 : Int32)))), .val (.int (2 : Int32))] [(.int (((ushI x (24 : Int32)).toInt8.toInt32 <<< ((8 : Int32) &&& 31)) ||| ((ushI x (16 : Int32)).toInt8.toInt32 &&& (255 : Int32))))]))
  refine Go.step (fun _ k => XS.bipush X11.here hx rfl (hb hby d_prog_5_method_3_code_54) k) ?_
  show Go FrameEnd p e below s 0 0 (Q4k4 Z a1 t x h0) (T11.setTop (mkF m 56 #[.val (.ref a1), .val (.int (((ushI x (24 : Int32)).toInt8.toInt32 <<< ((8 : Int32) &&& 31)) ||| ((ushI x (16 : Int32)).toInt8.toInt32 &&& (255 : Int32)))), .val (.int (2 : Int32))] [(.int (8 : Int32)), (.int (((ushI x (24 : Int32)).toInt8.toInt32 <<< ((8 : Int32) &&& 31)) ||| ((ushI x (16 : Int32)).toInt8.toInt32 &&& (255 : Int32))))]))
  refine Go.step (fun _ k => XS.ishl X11.here hx rfl (hb hby d_prog_5_method_3_code_56) rfl k) ?_
  show Go FrameEnd p e below s 0 0 (Q4k4 Z a1 t x h0) (T11.setTop (mkF m 57 #[.val (.ref a1), .val (.int (((ushI x (24 : Int32)).toInt8.toInt32 <<< ((8 : Int32) &&& 31)) ||| ((ushI x (16 : Int32)).toInt8.toInt32 &&& (255 : Int32)))), .val (.int (2 : Int32))] [(.int ((((ushI x (24 : Int32)).toInt8.toInt32 <<< ((8 : Int32) &&& 31)) ||| ((ushI x (16 : Int32)).toInt8.toInt32 &&& (255 : Int32))) <<< ((8 : Int32) &&& 31)))]))
  refine Go.step (fun _ k => XS.aloadN X11.here hx rfl (hb hby d_prog_5_method_3_code_57) rfl rfl k) ?_
  show Go FrameEnd p e below s 0 0 (Q4k4 Z a1 t x h0) (T11.setTop (mkF m 58 #[.val (.ref a1), .val (.int (((ushI x (24 : Int32)).toInt8.toInt32 <<< ((8 : Int32) &&& 31)) ||| ((ushI x (16 : Int32)).toInt8.toInt32 &&& (255 : Int32)))), .val (.int (2 : Int32))] [(.ref a1), (.int ((((ushI x (24 : Int32)).toInt8.toInt32 <<< ((8 : Int32) &&& 31)) ||| ((ushI x (16 : Int32)).toInt8.toInt32 &&& (255 : Int32))) <<< ((8 : Int32) &&& 31)))]))
  obtain ⟨T13, X13, e13, st13⟩ := getF X11 hx hZ hown (host := "") (Or.inl (hw _ (List.mem_of_getElem? (i := 21) rfl))) Via.refl e11 F_content_a1 (g := (mkF m 58 #[.val (.ref a1), .val (.int (((ushI x (24 : Int32)).toInt8.toInt32 <<< ((8 : Int32) &&& 31)) ||| ((ushI x (16 : Int32)).toInt8.toInt32 &&& (255 : Int32)))), .val (.int (2 : Int32))] [(.ref a1), (.int ((((ushI x (24 : Int32)).toInt8.toInt32 <<< ((8 : Int32) &&& 31)) ||| ((ushI x (16 : Int32)).toInt8.toInt32 &&& (255 : Int32))) <<< ((8 : Int32) &&& 31)))])) rfl rfl (hb hby d_prog_5_method_3_code_58)
  refine Go.step st13 ?_
  show Go FrameEnd p e below s 0 0 (Q4k4 Z a1 t x h0) (T13.setTop (mkF m 61 #[.val (.ref a1), .val (.int (((ushI x (24 : Int32)).toInt8.toInt32 <<< ((8 : Int32) &&& 31)) ||| ((ushI x (16 : Int32)).toInt8.toInt32 &&& (255 : Int32)))), .val (.int (2 : Int32))] [(.ref t), (.int ((((ushI x (24 : Int32)).toInt8.toInt32 <<< ((8 : Int32) &&& 31)) ||| ((ushI x (16 : Int32)).toInt8.toInt32 &&& (255 : Int32))) <<< ((8 : Int32) &&& 31)))]))
  refine Go.step (fun _ k => XS.iloadN X13.here hx rfl (hb hby d_prog_5_method_3_code_61) rfl k) ?_
  show Go FrameEnd p e below s 0 0 (Q4k4 Z a1 t x h0) (T13.setTop (mkF m 62 #[.val (.ref a1), .val (.int (((ushI x (24 : Int32)).toInt8.toInt32 <<< ((8 : Int32) &&& 31)) ||| ((ushI x (16 : Int32)).toInt8.toInt32 &&& (255 : Int32)))), .val (.int (2 : Int32))] [(.int (2 : Int32)), (.ref t), (.int ((((ushI x (24 : Int32)).toInt8.toInt32 <<< ((8 : Int32) &&& 31)) ||| ((ushI x (16 : Int32)).toInt8.toInt32 &&& (255 : Int32))) <<< ((8 : Int32) &&& 31)))]))
  obtain ⟨c14, Ac14, Sc14, Mc14, Gc14⟩ := id V_t
  refine Go.step (X13.baloadBytes hx (j := (2 : Int32)) (v := (.int (ushI x (8 : Int32)).toInt8.toInt32)) (by rw [e13]; exact Ac14.1) (State.isArrayOf_alike hZ.alike Ac14.2.1) Ac14.2.2 (own_in Sc14 (by decide) (by decide)) (Av.at Gc14 (by rfl) (by decide) rfl) (g := (mkF m 62 #[.val (.ref a1), .val (.int (((ushI x (24 : Int32)).toInt8.toInt32 <<< ((8 : Int32) &&& 31)) ||| ((ushI x (16 : Int32)).toInt8.toInt32 &&& (255 : Int32)))), .val (.int (2 : Int32))] [(.int (2 : Int32)), (.ref t), (.int ((((ushI x (24 : Int32)).toInt8.toInt32 <<< ((8 : Int32) &&& 31)) ||| ((ushI x (16 : Int32)).toInt8.toInt32 &&& (255 : Int32))) <<< ((8 : Int32) &&& 31)))])) rfl rfl (hb hby d_prog_5_method_3_code_62)) ?_
  show Go FrameEnd p e below s 0 0 (Q4k4 Z a1 t x h0) (T13.setTop (mkF m 63 #[.val (.ref a1), .val (.int (((ushI x (24 : Int32)).toInt8.toInt32 <<< ((8 : Int32) &&& 31)) ||| ((ushI x (16 : Int32)).toInt8.toInt32 &&& (255 : Int32)))), .val (.int (2 : Int32))] [(.int (ushI x (8 : Int32)).toInt8.toInt32), (.int ((((ushI x (24 : Int32)).toInt8.toInt32 <<< ((8 : Int32) &&& 31)) ||| ((ushI x (16 : Int32)).toInt8.toInt32 &&& (255 : Int32))) <<< ((8 : Int32) &&& 31)))]))
  refine Go.step (fun _ k => XS.sipush X13.here hx rfl (hb hby d_prog_5_method_3_code_63) k) ?_
  show Go FrameEnd p e below s 0 0 (Q4k4 Z a1 t x h0) (T13.setTop (mkF m 66 #[.val (.ref a1), .val (.int (((ushI x (24 : Int32)).toInt8.toInt32 <<< ((8 : Int32) &&& 31)) ||| ((ushI x (16 : Int32)).toInt8.toInt32 &&& (255 : Int32)))), .val (.int (2 : Int32))] [(.int (255 : Int32)), (.int (ushI x (8 : Int32)).toInt8.toInt32), (.int ((((ushI x (24 : Int32)).toInt8.toInt32 <<< ((8 : Int32) &&& 31)) ||| ((ushI x (16 : Int32)).toInt8.toInt32 &&& (255 : Int32))) <<< ((8 : Int32) &&& 31)))]))
  refine Go.step (fun _ k => XS.iand X13.here hx rfl (hb hby d_prog_5_method_3_code_66) rfl k) ?_
  show Go FrameEnd p e below s 0 0 (Q4k4 Z a1 t x h0) (T13.setTop (mkF m 67 #[.val (.ref a1), .val (.int (((ushI x (24 : Int32)).toInt8.toInt32 <<< ((8 : Int32) &&& 31)) ||| ((ushI x (16 : Int32)).toInt8.toInt32 &&& (255 : Int32)))), .val (.int (2 : Int32))] [(.int ((ushI x (8 : Int32)).toInt8.toInt32 &&& (255 : Int32))), (.int ((((ushI x (24 : Int32)).toInt8.toInt32 <<< ((8 : Int32) &&& 31)) ||| ((ushI x (16 : Int32)).toInt8.toInt32 &&& (255 : Int32))) <<< ((8 : Int32) &&& 31)))]))
  refine Go.step (fun _ k => XS.ior X13.here hx rfl (hb hby d_prog_5_method_3_code_67) rfl k) ?_
  show Go FrameEnd p e below s 0 0 (Q4k4 Z a1 t x h0) (T13.setTop (mkF m 68 #[.val (.ref a1), .val (.int (((ushI x (24 : Int32)).toInt8.toInt32 <<< ((8 : Int32) &&& 31)) ||| ((ushI x (16 : Int32)).toInt8.toInt32 &&& (255 : Int32)))), .val (.int (2 : Int32))] [(.int (((((ushI x (24 : Int32)).toInt8.toInt32 <<< ((8 : Int32) &&& 31)) ||| ((ushI x (16 : Int32)).toInt8.toInt32 &&& (255 : Int32))) <<< ((8 : Int32) &&& 31)) ||| ((ushI x (8 : Int32)).toInt8.toInt32 &&& (255 : Int32))))]))
  refine Go.step (fun _ k => XS.istoreN X13.here hx rfl (hb hby d_prog_5_method_3_code_68) rfl (l' := #[.val (.ref a1), .val (.int (((((ushI x (24 : Int32)).toInt8.toInt32 <<< ((8 : Int32) &&& 31)) ||| ((ushI x (16 : Int32)).toInt8.toInt32 &&& (255 : Int32))) <<< ((8 : Int32) &&& 31)) ||| ((ushI x (8 : Int32)).toInt8.toInt32 &&& (255 : Int32)))), .val (.int (2 : Int32))]) rfl k) ?_
  show Go FrameEnd p e below s 0 0 (Q4k4 Z a1 t x h0) (T13.setTop (mkF m 69 #[.val (.ref a1), .val (.int (((((ushI x (24 : Int32)).toInt8.toInt32 <<< ((8 : Int32) &&& 31)) ||| ((ushI x (16 : Int32)).toInt8.toInt32 &&& (255 : Int32))) <<< ((8 : Int32) &&& 31)) ||| ((ushI x (8 : Int32)).toInt8.toInt32 &&& (255 : Int32)))), .val (.int (2 : Int32))] []))
  refine Go.step (fun _ k => XS.iinc X13.here hx rfl (hb hby d_prog_5_method_3_code_69) rfl (l' := #[.val (.ref a1), .val (.int (((((ushI x (24 : Int32)).toInt8.toInt32 <<< ((8 : Int32) &&& 31)) ||| ((ushI x (16 : Int32)).toInt8.toInt32 &&& (255 : Int32))) <<< ((8 : Int32) &&& 31)) ||| ((ushI x (8 : Int32)).toInt8.toInt32 &&& (255 : Int32)))), .val (.int (3 : Int32))]) rfl k) ?_
  show Go FrameEnd p e below s 0 0 (Q4k4 Z a1 t x h0) (T13.setTop (mkF m 72 #[.val (.ref a1), .val (.int (((((ushI x (24 : Int32)).toInt8.toInt32 <<< ((8 : Int32) &&& 31)) ||| ((ushI x (16 : Int32)).toInt8.toInt32 &&& (255 : Int32))) <<< ((8 : Int32) &&& 31)) ||| ((ushI x (8 : Int32)).toInt8.toInt32 &&& (255 : Int32)))), .val (.int (3 : Int32))] []))
  refine Go.step (fun _ k => XS.goto X13.here hx rfl (pc0 := 72) (pc' := 44) rfl (hb hby d_prog_5_method_3_code_72) (by decide) (by decide) k) ?_
  show Go FrameEnd p e below s 0 0 (Q4k4 Z a1 t x h0) (T13.setTop (mkF m 44 #[.val (.ref a1), .val (.int (((((ushI x (24 : Int32)).toInt8.toInt32 <<< ((8 : Int32) &&& 31)) ||| ((ushI x (16 : Int32)).toInt8.toInt32 &&& (255 : Int32))) <<< ((8 : Int32) &&& 31)) ||| ((ushI x (8 : Int32)).toInt8.toInt32 &&& (255 : Int32)))), .val (.int (3 : Int32))] []))
  refine Go.step (fun _ k => XS.iloadN X13.here hx rfl (hb hby d_prog_5_method_3_code_44) rfl k) ?_
  show Go FrameEnd p e below s 0 0 (Q4k4 Z a1 t x h0) (T13.setTop (mkF m 45 #[.val (.ref a1), .val (.int (((((ushI x (24 : Int32)).toInt8.toInt32 <<< ((8 : Int32) &&& 31)) ||| ((ushI x (16 : Int32)).toInt8.toInt32 &&& (255 : Int32))) <<< ((8 : Int32) &&& 31)) ||| ((ushI x (8 : Int32)).toInt8.toInt32 &&& (255 : Int32)))), .val (.int (3 : Int32))] [(.int (3 : Int32))]))
  refine Go.step (fun _ k => XS.aloadN X13.here hx rfl (hb hby d_prog_5_method_3_code_45) rfl rfl k) ?_
  show Go FrameEnd p e below s 0 0 (Q4k4 Z a1 t x h0) (T13.setTop (mkF m 46 #[.val (.ref a1), .val (.int (((((ushI x (24 : Int32)).toInt8.toInt32 <<< ((8 : Int32) &&& 31)) ||| ((ushI x (16 : Int32)).toInt8.toInt32 &&& (255 : Int32))) <<< ((8 : Int32) &&& 31)) ||| ((ushI x (8 : Int32)).toInt8.toInt32 &&& (255 : Int32)))), .val (.int (3 : Int32))] [(.ref a1), (.int (3 : Int32))]))
  obtain ⟨T15, X15, e15, st15⟩ := getF X13 hx hZ hown (host := "") (Or.inl (hw _ (List.mem_of_getElem? (i := 21) rfl))) Via.refl e13 F_content_a1 (g := (mkF m 46 #[.val (.ref a1), .val (.int (((((ushI x (24 : Int32)).toInt8.toInt32 <<< ((8 : Int32) &&& 31)) ||| ((ushI x (16 : Int32)).toInt8.toInt32 &&& (255 : Int32))) <<< ((8 : Int32) &&& 31)) ||| ((ushI x (8 : Int32)).toInt8.toInt32 &&& (255 : Int32)))), .val (.int (3 : Int32))] [(.ref a1), (.int (3 : Int32))])) rfl rfl (hb hby d_prog_5_method_3_code_46)
  refine Go.step st15 ?_
  show Go FrameEnd p e below s 0 0 (Q4k4 Z a1 t x h0) (T15.setTop (mkF m 49 #[.val (.ref a1), .val (.int (((((ushI x (24 : Int32)).toInt8.toInt32 <<< ((8 : Int32) &&& 31)) ||| ((ushI x (16 : Int32)).toInt8.toInt32 &&& (255 : Int32))) <<< ((8 : Int32) &&& 31)) ||| ((ushI x (8 : Int32)).toInt8.toInt32 &&& (255 : Int32)))), .val (.int (3 : Int32))] [(.ref t), (.int (3 : Int32))]))
  obtain ⟨c16, Ac16, Sc16, Mc16, Gc16⟩ := id V_t
  refine Go.step (X15.arraylength hx (by rw [e15]; exact Ac16.1) (State.isArrayOf_alike hZ.alike Ac16.2.1) (g := (mkF m 49 #[.val (.ref a1), .val (.int (((((ushI x (24 : Int32)).toInt8.toInt32 <<< ((8 : Int32) &&& 31)) ||| ((ushI x (16 : Int32)).toInt8.toInt32 &&& (255 : Int32))) <<< ((8 : Int32) &&& 31)) ||| ((ushI x (8 : Int32)).toInt8.toInt32 &&& (255 : Int32)))), .val (.int (3 : Int32))] [(.ref t), (.int (3 : Int32))])) rfl rfl (hb hby d_prog_5_method_3_code_49)) ?_
  rw [show c16.slots.size.toInt32 = (4 : Int32) from by rw [Sc16]; rfl]
  show Go FrameEnd p e below s 0 0 (Q4k4 Z a1 t x h0) (T15.setTop (mkF m 50 #[.val (.ref a1), .val (.int (((((ushI x (24 : Int32)).toInt8.toInt32 <<< ((8 : Int32) &&& 31)) ||| ((ushI x (16 : Int32)).toInt8.toInt32 &&& (255 : Int32))) <<< ((8 : Int32) &&& 31)) ||| ((ushI x (8 : Int32)).toInt8.toInt32 &&& (255 : Int32)))), .val (.int (3 : Int32))] [(.int (4 : Int32)), (.int (3 : Int32))]))
  refine Go.step (fun _ k => XS.icmpNo X15.here hx rfl (hb hby d_prog_5_method_3_code_50) rfl (tlt (by decide)).2.1 k) ?_
  show Go FrameEnd p e below s 0 0 (Q4k4 Z a1 t x h0) (T15.setTop (mkF m 53 #[.val (.ref a1), .val (.int (((((ushI x (24 : Int32)).toInt8.toInt32 <<< ((8 : Int32) &&& 31)) ||| ((ushI x (16 : Int32)).toInt8.toInt32 &&& (255 : Int32))) <<< ((8 : Int32) &&& 31)) ||| ((ushI x (8 : Int32)).toInt8.toInt32 &&& (255 : Int32)))), .val (.int (3 : Int32))] []))
  refine Go.step (fun _ k => XS.iloadN X15.here hx rfl (hb hby d_prog_5_method_3_code_53) rfl k) ?_
  show Go FrameEnd p e below s 0 0 (Q4k4 Z a1 t x h0) (T15.setTop (mkF m 54 #[.val (.ref a1), .val (.int (((((ushI x (24 : Int32)).toInt8.toInt32 <<< ((8 : Int32) &&& 31)) ||| ((ushI x (16 : Int32)).toInt8.toInt32 &&& (255 : Int32))) <<< ((8 : Int32) &&& 31)) ||| ((ushI x (8 : Int32)).toInt8.toInt32 &&& (255 : Int32)))), .val (.int (3 : Int32))] [(.int (((((ushI x (24 : Int32)).toInt8.toInt32 <<< ((8 : Int32) &&& 31)) ||| ((ushI x (16 : Int32)).toInt8.toInt32 &&& (255 : Int32))) <<< ((8 : Int32) &&& 31)) ||| ((ushI x (8 : Int32)).toInt8.toInt32 &&& (255 : Int32))))]))
  refine Go.step (fun _ k => XS.bipush X15.here hx rfl (hb hby d_prog_5_method_3_code_54) k) ?_
  show Go FrameEnd p e below s 0 0 (Q4k4 Z a1 t x h0) (T15.setTop (mkF m 56 #[.val (.ref a1), .val (.int (((((ushI x (24 : Int32)).toInt8.toInt32 <<< ((8 : Int32) &&& 31)) ||| ((ushI x (16 : Int32)).toInt8.toInt32 &&& (255 : Int32))) <<< ((8 : Int32) &&& 31)) ||| ((ushI x (8 : Int32)).toInt8.toInt32 &&& (255 : Int32)))), .val (.int (3 : Int32))] [(.int (8 : Int32)), (.int (((((ushI x (24 : Int32)).toInt8.toInt32 <<< ((8 : Int32) &&& 31)) ||| ((ushI x (16 : Int32)).toInt8.toInt32 &&& (255 : Int32))) <<< ((8 : Int32) &&& 31)) ||| ((ushI x (8 : Int32)).toInt8.toInt32 &&& (255 : Int32))))]))
  refine Go.step (fun _ k => XS.ishl X15.here hx rfl (hb hby d_prog_5_method_3_code_56) rfl k) ?_
  show Go FrameEnd p e below s 0 0 (Q4k4 Z a1 t x h0) (T15.setTop (mkF m 57 #[.val (.ref a1), .val (.int (((((ushI x (24 : Int32)).toInt8.toInt32 <<< ((8 : Int32) &&& 31)) ||| ((ushI x (16 : Int32)).toInt8.toInt32 &&& (255 : Int32))) <<< ((8 : Int32) &&& 31)) ||| ((ushI x (8 : Int32)).toInt8.toInt32 &&& (255 : Int32)))), .val (.int (3 : Int32))] [(.int ((((((ushI x (24 : Int32)).toInt8.toInt32 <<< ((8 : Int32) &&& 31)) ||| ((ushI x (16 : Int32)).toInt8.toInt32 &&& (255 : Int32))) <<< ((8 : Int32) &&& 31)) ||| ((ushI x (8 : Int32)).toInt8.toInt32 &&& (255 : Int32))) <<< ((8 : Int32) &&& 31)))]))
  refine Go.step (fun _ k => XS.aloadN X15.here hx rfl (hb hby d_prog_5_method_3_code_57) rfl rfl k) ?_
  show Go FrameEnd p e below s 0 0 (Q4k4 Z a1 t x h0) (T15.setTop (mkF m 58 #[.val (.ref a1), .val (.int (((((ushI x (24 : Int32)).toInt8.toInt32 <<< ((8 : Int32) &&& 31)) ||| ((ushI x (16 : Int32)).toInt8.toInt32 &&& (255 : Int32))) <<< ((8 : Int32) &&& 31)) ||| ((ushI x (8 : Int32)).toInt8.toInt32 &&& (255 : Int32)))), .val (.int (3 : Int32))] [(.ref a1), (.int ((((((ushI x (24 : Int32)).toInt8.toInt32 <<< ((8 : Int32) &&& 31)) ||| ((ushI x (16 : Int32)).toInt8.toInt32 &&& (255 : Int32))) <<< ((8 : Int32) &&& 31)) ||| ((ushI x (8 : Int32)).toInt8.toInt32 &&& (255 : Int32))) <<< ((8 : Int32) &&& 31)))]))
  obtain ⟨T17, X17, e17, st17⟩ := getF X15 hx hZ hown (host := "") (Or.inl (hw _ (List.mem_of_getElem? (i := 21) rfl))) Via.refl e15 F_content_a1 (g := (mkF m 58 #[.val (.ref a1), .val (.int (((((ushI x (24 : Int32)).toInt8.toInt32 <<< ((8 : Int32) &&& 31)) ||| ((ushI x (16 : Int32)).toInt8.toInt32 &&& (255 : Int32))) <<< ((8 : Int32) &&& 31)) ||| ((ushI x (8 : Int32)).toInt8.toInt32 &&& (255 : Int32)))), .val (.int (3 : Int32))] [(.ref a1), (.int ((((((ushI x (24 : Int32)).toInt8.toInt32 <<< ((8 : Int32) &&& 31)) ||| ((ushI x (16 : Int32)).toInt8.toInt32 &&& (255 : Int32))) <<< ((8 : Int32) &&& 31)) ||| ((ushI x (8 : Int32)).toInt8.toInt32 &&& (255 : Int32))) <<< ((8 : Int32) &&& 31)))])) rfl rfl (hb hby d_prog_5_method_3_code_58)
  refine Go.step st17 ?_
  show Go FrameEnd p e below s 0 0 (Q4k4 Z a1 t x h0) (T17.setTop (mkF m 61 #[.val (.ref a1), .val (.int (((((ushI x (24 : Int32)).toInt8.toInt32 <<< ((8 : Int32) &&& 31)) ||| ((ushI x (16 : Int32)).toInt8.toInt32 &&& (255 : Int32))) <<< ((8 : Int32) &&& 31)) ||| ((ushI x (8 : Int32)).toInt8.toInt32 &&& (255 : Int32)))), .val (.int (3 : Int32))] [(.ref t), (.int ((((((ushI x (24 : Int32)).toInt8.toInt32 <<< ((8 : Int32) &&& 31)) ||| ((ushI x (16 : Int32)).toInt8.toInt32 &&& (255 : Int32))) <<< ((8 : Int32) &&& 31)) ||| ((ushI x (8 : Int32)).toInt8.toInt32 &&& (255 : Int32))) <<< ((8 : Int32) &&& 31)))]))
  refine Go.step (fun _ k => XS.iloadN X17.here hx rfl (hb hby d_prog_5_method_3_code_61) rfl k) ?_
  show Go FrameEnd p e below s 0 0 (Q4k4 Z a1 t x h0) (T17.setTop (mkF m 62 #[.val (.ref a1), .val (.int (((((ushI x (24 : Int32)).toInt8.toInt32 <<< ((8 : Int32) &&& 31)) ||| ((ushI x (16 : Int32)).toInt8.toInt32 &&& (255 : Int32))) <<< ((8 : Int32) &&& 31)) ||| ((ushI x (8 : Int32)).toInt8.toInt32 &&& (255 : Int32)))), .val (.int (3 : Int32))] [(.int (3 : Int32)), (.ref t), (.int ((((((ushI x (24 : Int32)).toInt8.toInt32 <<< ((8 : Int32) &&& 31)) ||| ((ushI x (16 : Int32)).toInt8.toInt32 &&& (255 : Int32))) <<< ((8 : Int32) &&& 31)) ||| ((ushI x (8 : Int32)).toInt8.toInt32 &&& (255 : Int32))) <<< ((8 : Int32) &&& 31)))]))
  obtain ⟨c18, Ac18, Sc18, Mc18, Gc18⟩ := id V_t
  refine Go.step (X17.baloadBytes hx (j := (3 : Int32)) (v := (.int x.toInt8.toInt32)) (by rw [e17]; exact Ac18.1) (State.isArrayOf_alike hZ.alike Ac18.2.1) Ac18.2.2 (own_in Sc18 (by decide) (by decide)) (Av.at Gc18 (by rfl) (by decide) rfl) (g := (mkF m 62 #[.val (.ref a1), .val (.int (((((ushI x (24 : Int32)).toInt8.toInt32 <<< ((8 : Int32) &&& 31)) ||| ((ushI x (16 : Int32)).toInt8.toInt32 &&& (255 : Int32))) <<< ((8 : Int32) &&& 31)) ||| ((ushI x (8 : Int32)).toInt8.toInt32 &&& (255 : Int32)))), .val (.int (3 : Int32))] [(.int (3 : Int32)), (.ref t), (.int ((((((ushI x (24 : Int32)).toInt8.toInt32 <<< ((8 : Int32) &&& 31)) ||| ((ushI x (16 : Int32)).toInt8.toInt32 &&& (255 : Int32))) <<< ((8 : Int32) &&& 31)) ||| ((ushI x (8 : Int32)).toInt8.toInt32 &&& (255 : Int32))) <<< ((8 : Int32) &&& 31)))])) rfl rfl (hb hby d_prog_5_method_3_code_62)) ?_
  show Go FrameEnd p e below s 0 0 (Q4k4 Z a1 t x h0) (T17.setTop (mkF m 63 #[.val (.ref a1), .val (.int (((((ushI x (24 : Int32)).toInt8.toInt32 <<< ((8 : Int32) &&& 31)) ||| ((ushI x (16 : Int32)).toInt8.toInt32 &&& (255 : Int32))) <<< ((8 : Int32) &&& 31)) ||| ((ushI x (8 : Int32)).toInt8.toInt32 &&& (255 : Int32)))), .val (.int (3 : Int32))] [(.int x.toInt8.toInt32), (.int ((((((ushI x (24 : Int32)).toInt8.toInt32 <<< ((8 : Int32) &&& 31)) ||| ((ushI x (16 : Int32)).toInt8.toInt32 &&& (255 : Int32))) <<< ((8 : Int32) &&& 31)) ||| ((ushI x (8 : Int32)).toInt8.toInt32 &&& (255 : Int32))) <<< ((8 : Int32) &&& 31)))]))
  refine Go.step (fun _ k => XS.sipush X17.here hx rfl (hb hby d_prog_5_method_3_code_63) k) ?_
  show Go FrameEnd p e below s 0 0 (Q4k4 Z a1 t x h0) (T17.setTop (mkF m 66 #[.val (.ref a1), .val (.int (((((ushI x (24 : Int32)).toInt8.toInt32 <<< ((8 : Int32) &&& 31)) ||| ((ushI x (16 : Int32)).toInt8.toInt32 &&& (255 : Int32))) <<< ((8 : Int32) &&& 31)) ||| ((ushI x (8 : Int32)).toInt8.toInt32 &&& (255 : Int32)))), .val (.int (3 : Int32))] [(.int (255 : Int32)), (.int x.toInt8.toInt32), (.int ((((((ushI x (24 : Int32)).toInt8.toInt32 <<< ((8 : Int32) &&& 31)) ||| ((ushI x (16 : Int32)).toInt8.toInt32 &&& (255 : Int32))) <<< ((8 : Int32) &&& 31)) ||| ((ushI x (8 : Int32)).toInt8.toInt32 &&& (255 : Int32))) <<< ((8 : Int32) &&& 31)))]))
  refine Go.step (fun _ k => XS.iand X17.here hx rfl (hb hby d_prog_5_method_3_code_66) rfl k) ?_
  show Go FrameEnd p e below s 0 0 (Q4k4 Z a1 t x h0) (T17.setTop (mkF m 67 #[.val (.ref a1), .val (.int (((((ushI x (24 : Int32)).toInt8.toInt32 <<< ((8 : Int32) &&& 31)) ||| ((ushI x (16 : Int32)).toInt8.toInt32 &&& (255 : Int32))) <<< ((8 : Int32) &&& 31)) ||| ((ushI x (8 : Int32)).toInt8.toInt32 &&& (255 : Int32)))), .val (.int (3 : Int32))] [(.int (x.toInt8.toInt32 &&& (255 : Int32))), (.int ((((((ushI x (24 : Int32)).toInt8.toInt32 <<< ((8 : Int32) &&& 31)) ||| ((ushI x (16 : Int32)).toInt8.toInt32 &&& (255 : Int32))) <<< ((8 : Int32) &&& 31)) ||| ((ushI x (8 : Int32)).toInt8.toInt32 &&& (255 : Int32))) <<< ((8 : Int32) &&& 31)))]))
  refine Go.step (fun _ k => XS.ior X17.here hx rfl (hb hby d_prog_5_method_3_code_67) rfl k) ?_
  show Go FrameEnd p e below s 0 0 (Q4k4 Z a1 t x h0) (T17.setTop (mkF m 68 #[.val (.ref a1), .val (.int (((((ushI x (24 : Int32)).toInt8.toInt32 <<< ((8 : Int32) &&& 31)) ||| ((ushI x (16 : Int32)).toInt8.toInt32 &&& (255 : Int32))) <<< ((8 : Int32) &&& 31)) ||| ((ushI x (8 : Int32)).toInt8.toInt32 &&& (255 : Int32)))), .val (.int (3 : Int32))] [(.int (((((((ushI x (24 : Int32)).toInt8.toInt32 <<< ((8 : Int32) &&& 31)) ||| ((ushI x (16 : Int32)).toInt8.toInt32 &&& (255 : Int32))) <<< ((8 : Int32) &&& 31)) ||| ((ushI x (8 : Int32)).toInt8.toInt32 &&& (255 : Int32))) <<< ((8 : Int32) &&& 31)) ||| (x.toInt8.toInt32 &&& (255 : Int32))))]))
  refine Go.step (fun _ k => XS.istoreN X17.here hx rfl (hb hby d_prog_5_method_3_code_68) rfl (l' := #[.val (.ref a1), .val (.int (((((((ushI x (24 : Int32)).toInt8.toInt32 <<< ((8 : Int32) &&& 31)) ||| ((ushI x (16 : Int32)).toInt8.toInt32 &&& (255 : Int32))) <<< ((8 : Int32) &&& 31)) ||| ((ushI x (8 : Int32)).toInt8.toInt32 &&& (255 : Int32))) <<< ((8 : Int32) &&& 31)) ||| (x.toInt8.toInt32 &&& (255 : Int32)))), .val (.int (3 : Int32))]) rfl k) ?_
  show Go FrameEnd p e below s 0 0 (Q4k4 Z a1 t x h0) (T17.setTop (mkF m 69 #[.val (.ref a1), .val (.int (((((((ushI x (24 : Int32)).toInt8.toInt32 <<< ((8 : Int32) &&& 31)) ||| ((ushI x (16 : Int32)).toInt8.toInt32 &&& (255 : Int32))) <<< ((8 : Int32) &&& 31)) ||| ((ushI x (8 : Int32)).toInt8.toInt32 &&& (255 : Int32))) <<< ((8 : Int32) &&& 31)) ||| (x.toInt8.toInt32 &&& (255 : Int32)))), .val (.int (3 : Int32))] []))
  refine Go.step (fun _ k => XS.iinc X17.here hx rfl (hb hby d_prog_5_method_3_code_69) rfl (l' := #[.val (.ref a1), .val (.int (((((((ushI x (24 : Int32)).toInt8.toInt32 <<< ((8 : Int32) &&& 31)) ||| ((ushI x (16 : Int32)).toInt8.toInt32 &&& (255 : Int32))) <<< ((8 : Int32) &&& 31)) ||| ((ushI x (8 : Int32)).toInt8.toInt32 &&& (255 : Int32))) <<< ((8 : Int32) &&& 31)) ||| (x.toInt8.toInt32 &&& (255 : Int32)))), .val (.int (4 : Int32))]) rfl k) ?_
  show Go FrameEnd p e below s 0 0 (Q4k4 Z a1 t x h0) (T17.setTop (mkF m 72 #[.val (.ref a1), .val (.int (((((((ushI x (24 : Int32)).toInt8.toInt32 <<< ((8 : Int32) &&& 31)) ||| ((ushI x (16 : Int32)).toInt8.toInt32 &&& (255 : Int32))) <<< ((8 : Int32) &&& 31)) ||| ((ushI x (8 : Int32)).toInt8.toInt32 &&& (255 : Int32))) <<< ((8 : Int32) &&& 31)) ||| (x.toInt8.toInt32 &&& (255 : Int32)))), .val (.int (4 : Int32))] []))
  refine Go.step (fun _ k => XS.goto X17.here hx rfl (pc0 := 72) (pc' := 44) rfl (hb hby d_prog_5_method_3_code_72) (by decide) (by decide) k) ?_
  show Go FrameEnd p e below s 0 0 (Q4k4 Z a1 t x h0) (T17.setTop (mkF m 44 #[.val (.ref a1), .val (.int (((((((ushI x (24 : Int32)).toInt8.toInt32 <<< ((8 : Int32) &&& 31)) ||| ((ushI x (16 : Int32)).toInt8.toInt32 &&& (255 : Int32))) <<< ((8 : Int32) &&& 31)) ||| ((ushI x (8 : Int32)).toInt8.toInt32 &&& (255 : Int32))) <<< ((8 : Int32) &&& 31)) ||| (x.toInt8.toInt32 &&& (255 : Int32)))), .val (.int (4 : Int32))] []))
  refine Go.step (fun _ k => XS.iloadN X17.here hx rfl (hb hby d_prog_5_method_3_code_44) rfl k) ?_
  show Go FrameEnd p e below s 0 0 (Q4k4 Z a1 t x h0) (T17.setTop (mkF m 45 #[.val (.ref a1), .val (.int (((((((ushI x (24 : Int32)).toInt8.toInt32 <<< ((8 : Int32) &&& 31)) ||| ((ushI x (16 : Int32)).toInt8.toInt32 &&& (255 : Int32))) <<< ((8 : Int32) &&& 31)) ||| ((ushI x (8 : Int32)).toInt8.toInt32 &&& (255 : Int32))) <<< ((8 : Int32) &&& 31)) ||| (x.toInt8.toInt32 &&& (255 : Int32)))), .val (.int (4 : Int32))] [(.int (4 : Int32))]))
  refine Go.step (fun _ k => XS.aloadN X17.here hx rfl (hb hby d_prog_5_method_3_code_45) rfl rfl k) ?_
  show Go FrameEnd p e below s 0 0 (Q4k4 Z a1 t x h0) (T17.setTop (mkF m 46 #[.val (.ref a1), .val (.int (((((((ushI x (24 : Int32)).toInt8.toInt32 <<< ((8 : Int32) &&& 31)) ||| ((ushI x (16 : Int32)).toInt8.toInt32 &&& (255 : Int32))) <<< ((8 : Int32) &&& 31)) ||| ((ushI x (8 : Int32)).toInt8.toInt32 &&& (255 : Int32))) <<< ((8 : Int32) &&& 31)) ||| (x.toInt8.toInt32 &&& (255 : Int32)))), .val (.int (4 : Int32))] [(.ref a1), (.int (4 : Int32))]))
  obtain ⟨T19, X19, e19, st19⟩ := getF X17 hx hZ hown (host := "") (Or.inl (hw _ (List.mem_of_getElem? (i := 21) rfl))) Via.refl e17 F_content_a1 (g := (mkF m 46 #[.val (.ref a1), .val (.int (((((((ushI x (24 : Int32)).toInt8.toInt32 <<< ((8 : Int32) &&& 31)) ||| ((ushI x (16 : Int32)).toInt8.toInt32 &&& (255 : Int32))) <<< ((8 : Int32) &&& 31)) ||| ((ushI x (8 : Int32)).toInt8.toInt32 &&& (255 : Int32))) <<< ((8 : Int32) &&& 31)) ||| (x.toInt8.toInt32 &&& (255 : Int32)))), .val (.int (4 : Int32))] [(.ref a1), (.int (4 : Int32))])) rfl rfl (hb hby d_prog_5_method_3_code_46)
  refine Go.step st19 ?_
  show Go FrameEnd p e below s 0 0 (Q4k4 Z a1 t x h0) (T19.setTop (mkF m 49 #[.val (.ref a1), .val (.int (((((((ushI x (24 : Int32)).toInt8.toInt32 <<< ((8 : Int32) &&& 31)) ||| ((ushI x (16 : Int32)).toInt8.toInt32 &&& (255 : Int32))) <<< ((8 : Int32) &&& 31)) ||| ((ushI x (8 : Int32)).toInt8.toInt32 &&& (255 : Int32))) <<< ((8 : Int32) &&& 31)) ||| (x.toInt8.toInt32 &&& (255 : Int32)))), .val (.int (4 : Int32))] [(.ref t), (.int (4 : Int32))]))
  obtain ⟨c20, Ac20, Sc20, Mc20, Gc20⟩ := id V_t
  refine Go.step (X19.arraylength hx (by rw [e19]; exact Ac20.1) (State.isArrayOf_alike hZ.alike Ac20.2.1) (g := (mkF m 49 #[.val (.ref a1), .val (.int (((((((ushI x (24 : Int32)).toInt8.toInt32 <<< ((8 : Int32) &&& 31)) ||| ((ushI x (16 : Int32)).toInt8.toInt32 &&& (255 : Int32))) <<< ((8 : Int32) &&& 31)) ||| ((ushI x (8 : Int32)).toInt8.toInt32 &&& (255 : Int32))) <<< ((8 : Int32) &&& 31)) ||| (x.toInt8.toInt32 &&& (255 : Int32)))), .val (.int (4 : Int32))] [(.ref t), (.int (4 : Int32))])) rfl rfl (hb hby d_prog_5_method_3_code_49)) ?_
  rw [show c20.slots.size.toInt32 = (4 : Int32) from by rw [Sc20]; rfl]
  show Go FrameEnd p e below s 0 0 (Q4k4 Z a1 t x h0) (T19.setTop (mkF m 50 #[.val (.ref a1), .val (.int (((((((ushI x (24 : Int32)).toInt8.toInt32 <<< ((8 : Int32) &&& 31)) ||| ((ushI x (16 : Int32)).toInt8.toInt32 &&& (255 : Int32))) <<< ((8 : Int32) &&& 31)) ||| ((ushI x (8 : Int32)).toInt8.toInt32 &&& (255 : Int32))) <<< ((8 : Int32) &&& 31)) ||| (x.toInt8.toInt32 &&& (255 : Int32)))), .val (.int (4 : Int32))] [(.int (4 : Int32)), (.int (4 : Int32))]))
  refine Go.step (fun _ k => XS.icmpYes X19.here hx rfl (pc0 := 50) (pc' := 75) rfl (hb hby d_prog_5_method_3_code_50) rfl (flt (by decide)).2.1 (by decide) (by decide) k) ?_
  show Go FrameEnd p e below s 0 0 (Q4k4 Z a1 t x h0) (T19.setTop (mkF m 75 #[.val (.ref a1), .val (.int (((((((ushI x (24 : Int32)).toInt8.toInt32 <<< ((8 : Int32) &&& 31)) ||| ((ushI x (16 : Int32)).toInt8.toInt32 &&& (255 : Int32))) <<< ((8 : Int32) &&& 31)) ||| ((ushI x (8 : Int32)).toInt8.toInt32 &&& (255 : Int32))) <<< ((8 : Int32) &&& 31)) ||| (x.toInt8.toInt32 &&& (255 : Int32)))), .val (.int (4 : Int32))] []))
  refine Go.step (fun _ k => XS.iloadN X19.here hx rfl (hb hby d_prog_5_method_3_code_75) rfl k) ?_
  show Go FrameEnd p e below s 0 0 (Q4k4 Z a1 t x h0) (T19.setTop (mkF m 76 #[.val (.ref a1), .val (.int (((((((ushI x (24 : Int32)).toInt8.toInt32 <<< ((8 : Int32) &&& 31)) ||| ((ushI x (16 : Int32)).toInt8.toInt32 &&& (255 : Int32))) <<< ((8 : Int32) &&& 31)) ||| ((ushI x (8 : Int32)).toInt8.toInt32 &&& (255 : Int32))) <<< ((8 : Int32) &&& 31)) ||| (x.toInt8.toInt32 &&& (255 : Int32)))), .val (.int (4 : Int32))] [(.int (((((((ushI x (24 : Int32)).toInt8.toInt32 <<< ((8 : Int32) &&& 31)) ||| ((ushI x (16 : Int32)).toInt8.toInt32 &&& (255 : Int32))) <<< ((8 : Int32) &&& 31)) ||| ((ushI x (8 : Int32)).toInt8.toInt32 &&& (255 : Int32))) <<< ((8 : Int32) &&& 31)) ||| (x.toInt8.toInt32 &&& (255 : Int32))))]))
  refine Go.retI X19 hx Bd.returns (hb hby d_prog_5_method_3_code_76) (BodyLoose.notSynchronized Bd) e19 (by decide) (by decide) ?_
  exact ⟨rfl, rfl, rfl⟩
def Q0 (Z : State) (p1 : Int32) (p2 : Int32) (h0 : Heap) (n0 : Nat) (v : Option Value) (h : Heap) (L : List Loc) : Prop := v = some (.int 1) ∧ Fr n0 L
theorem ef_0 (m : MethodId) (p1 : Int32) (p2 : Int32) : entryFrame m #[(.int p1), (.int p2)] maxLocals = mkF m 0 #[.val (.int p1), .val (.int p2), .unset, .unset, .unset, .unset, .unset] [] := by first | (simp [entryFrame, mkF, argsToLocals, Value.category, maxLocals]; done) | rfl
set_option maxRecDepth 65536 in
set_option maxHeartbeats 40000000 in
theorem rm0 (l : Launch) (Z : State) (a0 : Array Value) (hw : ∀ d ∈ tables_1, d.before a0 Z = true) (ws : List Jvm.Cond) (p1 : Int32) (p2 : Int32) (h0 : Heap) (n0 : Nat) (Z0 : n0 ≤ h0.size) :
    MetFree l x (head1 (Jvm.Cond.code x code maxLocals ret :: ws) room_1) (fun a U => a = #[(.int p1), (.int p2)] ∧ Z.Warmed39 U.vm ∧ U.heap = h0) (fun _ _ _ _ _ => True) (fun _ U o U' => ∃ v L, o = .returned v ∧ (Q0 Z p1 p2 h0 n0) v U'.heap L ∧ FrameEnd U o U' L 16 128) := by
  refine MetFree.of_bodySF (plainFor_of_name pn_com_example_keylattice_keylattice_ElementIntegerPinLaw) hisR ?_
  intro p e s m args below meth c s₁ Bd hml0 hP hK
  obtain ⟨rfl, hZ, hh⟩ := hP
  have hx := Bd.exec
  have hby := Bd.bytes
  have hml : c.maxLocals = 7 := hml0
  have hown : s.vm.findClass "com/example/keylattice/keylattice/ElementIntegerPinLaw" = some m.cls := findClass_of_methodNamed Bd.named
  have hnm := (name_of_methodNamed Bd.named Bd.method).1
  have X0 : Stand p l e room_1 s m #[(.int p1), (.int p2)] below meth c s₁ [] 0 0 := Stand.of_body Bd
  have e0 : s₁.heap = h0 := by rw [← hh, Bd.state]; rfl
  have N0 := Fr.nil n0
  show Go FrameEnd p e below s 16 128 (Q0 Z p1 p2 h0 n0) _
  refine Go.step (fun _ k => castTop (ef_0 m p1 p2) k) ?_
  show Go FrameEnd p e below s 16 128 (Q0 Z p1 p2 h0 n0) (s₁.setTop (mkF m 0 #[.val (.int p1), .val (.int p2), .unset, .unset, .unset, .unset, .unset] []))
  refine Go.step (fun _ k => XS.iloadN X0.here hx rfl (hb hby at_0) rfl k) ?_
  show Go FrameEnd p e below s 16 128 (Q0 Z p1 p2 h0 n0) (s₁.setTop (mkF m 1 #[.val (.int p1), .val (.int p2), .unset, .unset, .unset, .unset, .unset] [(.int p2)]))
  refine Go.step (fun _ k => XS.iconst X0.here hx rfl (hb hby at_1) k) ?_
  show Go FrameEnd p e below s 16 128 (Q0 Z p1 p2 h0 n0) (s₁.setTop (mkF m 2 #[.val (.int p1), .val (.int p2), .unset, .unset, .unset, .unset, .unset] [(.int (3 : Int32)), (.int p2)]))
  refine Go.step (fun _ k => XS.iand X0.here hx rfl (hb hby at_2) rfl k) ?_
  show Go FrameEnd p e below s 16 128 (Q0 Z p1 p2 h0 n0) (s₁.setTop (mkF m 3 #[.val (.int p1), .val (.int p2), .unset, .unset, .unset, .unset, .unset] [(.int (p2 &&& (3 : Int32)))]))
  refine Go.step (fun _ k => XS.iconst X0.here hx rfl (hb hby at_3) k) ?_
  show Go FrameEnd p e below s 16 128 (Q0 Z p1 p2 h0 n0) (s₁.setTop (mkF m 4 #[.val (.int p1), .val (.int p2), .unset, .unset, .unset, .unset, .unset] [(.int (1 : Int32)), (.int (p2 &&& (3 : Int32)))]))
  refine Go.step (fun _ k => XS.iadd X0.here hx rfl (hb hby at_4) rfl k) ?_
  show Go FrameEnd p e below s 16 128 (Q0 Z p1 p2 h0 n0) (s₁.setTop (mkF m 5 #[.val (.int p1), .val (.int p2), .unset, .unset, .unset, .unset, .unset] [(.int ((p2 &&& (3 : Int32)) + (1 : Int32)))]))
  rcases own_and3 p2 with q | q | q | q
  · skip
    rw [show (p2 &&& (3 : Int32)) + (1 : Int32) = (1 : Int32) from by rw [q]; decide]
    show Go FrameEnd p e below s 16 128 (Q0 Z p1 p2 h0 n0) (s₁.setTop (mkF m 5 #[.val (.int p1), .val (.int p2), .unset, .unset, .unset, .unset, .unset] [(.int (1 : Int32))]))
    refine Go.step (fun _ k => XS.istoreN X0.here hx rfl (hb hby at_5) rfl (l' := #[.val (.int p1), .val (.int p2), .val (.int (1 : Int32)), .unset, .unset, .unset, .unset]) rfl k) ?_
    show Go FrameEnd p e below s 16 128 (Q0 Z p1 p2 h0 n0) (s₁.setTop (mkF m 6 #[.val (.int p1), .val (.int p2), .val (.int (1 : Int32)), .unset, .unset, .unset, .unset] []))
    refine Go.step (fun _ k => XS.iloadN X0.here hx rfl (hb hby at_6) rfl k) ?_
    show Go FrameEnd p e below s 16 128 (Q0 Z p1 p2 h0 n0) (s₁.setTop (mkF m 7 #[.val (.int p1), .val (.int p2), .val (.int (1 : Int32)), .unset, .unset, .unset, .unset] [(.int p1)]))
    refine Go.step (fun _ k => XS.iloadN X0.here hx rfl (hb hby at_7) rfl k) ?_
    show Go FrameEnd p e below s 16 128 (Q0 Z p1 p2 h0 n0) (s₁.setTop (mkF m 8 #[.val (.int p1), .val (.int p2), .val (.int (1 : Int32)), .unset, .unset, .unset, .unset] [(.int (1 : Int32)), (.int p1)]))
    obtain ⟨_, _, ⟨T1, L1, k1, n1⟩, -, X1, ⟨Lc1, hQ1, l1, y1, z1⟩, st1⟩ := Jvm.LawKit.callS X0 hx (y := (⟨"com/example/keylattice/keylattice/ElementIntegerPinLaw", "lastBytes", "(II)[B"⟩ : MethodName)) hown (mvT hZ (hw _ (List.mem_of_getElem? (i := 0) rfl))) (mvT hZ (hw _ (List.mem_of_getElem? (i := 1) rfl))) (mvT hZ (hw _ (List.mem_of_getElem? (i := 2) rfl))) (mvT hZ (hw _ (List.mem_of_getElem? (i := 3) rfl))) (by decide) (backOf (W := 0) (rm3k1 l Z a0 hw [] p1  h0 n0 Z0 ) hZ (hw _ (List.mem_of_getElem? (i := 3) rfl)) (hw _ (List.mem_of_getElem? (i := 2) rfl)) (by decide) (by decide)) (g := (mkF m 8 #[.val (.int p1), .val (.int p2), .val (.int (1 : Int32)), .unset, .unset, .unset, .unset] [(.int (1 : Int32)), (.int p1)])) rfl (by rw [hml]; rfl) (argsL := [(.int p1), (.int (1 : Int32))]) (rest := []) (lenOf pd__II__B rfl) rfl (by show 2 * 0 + _ ≤ _; exact Nat.le_of_eq rfl) (hb hby at_8) (fun _ _ => ⟨rfl, e0, (by decide : 0 + 1 ≤ _), (by decide : 0 + 1 ≤ _)⟩)
    dsimp only [Pt.U, Pt.locs, Pt.cells, Pt.slots] at X1 l1 y1 z1 st1 hQ1
    subst l1 y1 z1
    obtain ⟨b1a, rfl, N1q, szb1a, K1_0, xA1_1⟩ := hQ1
    have N1 := Fr.app N0 N1q
    have g_b1a : n0 ≤ b1a := Nat.le_trans Z0 szb1a
    have Z1 : n0 ≤ T1.heap.size := Nat.le_trans Z0 K1_0.1
    refine Go.step st1 ?_
    show Go FrameEnd p e below s 16 128 (Q0 Z p1 p2 h0 n0) (T1.setTop (mkF m 11 #[.val (.int p1), .val (.int p2), .val (.int (1 : Int32)), .unset, .unset, .unset, .unset] [(.ref b1a)]))
    refine Go.step (fun _ k => XS.astoreN X1.here hx rfl (hb hby at_11) rfl rfl (l' := #[.val (.int p1), .val (.int p2), .val (.int (1 : Int32)), .val (.ref b1a), .unset, .unset, .unset]) rfl k) ?_
    show Go FrameEnd p e below s 16 128 (Q0 Z p1 p2 h0 n0) (T1.setTop (mkF m 12 #[.val (.int p1), .val (.int p2), .val (.int (1 : Int32)), .val (.ref b1a), .unset, .unset, .unset] []))
    refine Go.step (fun _ k => XS.bipush X1.here hx rfl (hb hby at_12) k) ?_
    show Go FrameEnd p e below s 16 128 (Q0 Z p1 p2 h0 n0) (T1.setTop (mkF m 14 #[.val (.int p1), .val (.int p2), .val (.int (1 : Int32)), .val (.ref b1a), .unset, .unset, .unset] [(.int (32 : Int32))]))
    refine Go.step (fun _ k => XS.bipush X1.here hx rfl (hb hby at_14) k) ?_
    show Go FrameEnd p e below s 16 128 (Q0 Z p1 p2 h0 n0) (T1.setTop (mkF m 16 #[.val (.int p1), .val (.int p2), .val (.int (1 : Int32)), .val (.ref b1a), .unset, .unset, .unset] [(.int (8 : Int32)), (.int (32 : Int32))]))
    refine Go.step (fun _ k => XS.iloadN X1.here hx rfl (hb hby at_16) rfl k) ?_
    show Go FrameEnd p e below s 16 128 (Q0 Z p1 p2 h0 n0) (T1.setTop (mkF m 17 #[.val (.int p1), .val (.int p2), .val (.int (1 : Int32)), .val (.ref b1a), .unset, .unset, .unset] [(.int (1 : Int32)), (.int (8 : Int32)), (.int (32 : Int32))]))
    refine Go.step (fun _ k => XS.imul X1.here hx rfl (hb hby at_17) rfl k) ?_
    show Go FrameEnd p e below s 16 128 (Q0 Z p1 p2 h0 n0) (T1.setTop (mkF m 18 #[.val (.int p1), .val (.int p2), .val (.int (1 : Int32)), .val (.ref b1a), .unset, .unset, .unset] [(.int (8 : Int32)), (.int (32 : Int32))]))
    refine Go.step (fun _ k => XS.isub X1.here hx rfl (hb hby at_18) rfl k) ?_
    show Go FrameEnd p e below s 16 128 (Q0 Z p1 p2 h0 n0) (T1.setTop (mkF m 19 #[.val (.int p1), .val (.int p2), .val (.int (1 : Int32)), .val (.ref b1a), .unset, .unset, .unset] [(.int (24 : Int32))]))
    refine Go.step (fun _ k => XS.istore X1.here hx rfl (hb hby at_19) rfl (l' := #[.val (.int p1), .val (.int p2), .val (.int (1 : Int32)), .val (.ref b1a), .val (.int (24 : Int32)), .unset, .unset]) rfl k) ?_
    show Go FrameEnd p e below s 16 128 (Q0 Z p1 p2 h0 n0) (T1.setTop (mkF m 21 #[.val (.int p1), .val (.int p2), .val (.int (1 : Int32)), .val (.ref b1a), .val (.int (24 : Int32)), .unset, .unset] []))
    refine Go.step (fun _ k => XS.iloadN X1.here hx rfl (hb hby at_21) rfl k) ?_
    show Go FrameEnd p e below s 16 128 (Q0 Z p1 p2 h0 n0) (T1.setTop (mkF m 22 #[.val (.int p1), .val (.int p2), .val (.int (1 : Int32)), .val (.ref b1a), .val (.int (24 : Int32)), .unset, .unset] [(.int p1)]))
    refine Go.step (fun _ k => XS.iload X1.here hx rfl (hb hby at_22) rfl k) ?_
    show Go FrameEnd p e below s 16 128 (Q0 Z p1 p2 h0 n0) (T1.setTop (mkF m 24 #[.val (.int p1), .val (.int p2), .val (.int (1 : Int32)), .val (.ref b1a), .val (.int (24 : Int32)), .unset, .unset] [(.int (24 : Int32)), (.int p1)]))
    refine Go.step (fun _ k => XS.ishl X1.here hx rfl (hb hby at_24) rfl k) ?_
    show Go FrameEnd p e below s 16 128 (Q0 Z p1 p2 h0 n0) (T1.setTop (mkF m 25 #[.val (.int p1), .val (.int p2), .val (.int (1 : Int32)), .val (.ref b1a), .val (.int (24 : Int32)), .unset, .unset] [(.int (p1 <<< ((24 : Int32) &&& 31)))]))
    refine Go.step (fun _ k => XS.iload X1.here hx rfl (hb hby at_25) rfl k) ?_
    show Go FrameEnd p e below s 16 128 (Q0 Z p1 p2 h0 n0) (T1.setTop (mkF m 27 #[.val (.int p1), .val (.int p2), .val (.int (1 : Int32)), .val (.ref b1a), .val (.int (24 : Int32)), .unset, .unset] [(.int (24 : Int32)), (.int (p1 <<< ((24 : Int32) &&& 31)))]))
    refine Go.step (fun _ k => XS.ishr X1.here hx rfl (hb hby at_27) rfl k) ?_
    show Go FrameEnd p e below s 16 128 (Q0 Z p1 p2 h0 n0) (T1.setTop (mkF m 28 #[.val (.int p1), .val (.int p2), .val (.int (1 : Int32)), .val (.ref b1a), .val (.int (24 : Int32)), .unset, .unset] [(.int ((p1 <<< ((24 : Int32) &&& 31)) >>> ((24 : Int32) &&& 31)))]))
    refine Go.step (fun _ k => XS.istore X1.here hx rfl (hb hby at_28) rfl (l' := #[.val (.int p1), .val (.int p2), .val (.int (1 : Int32)), .val (.ref b1a), .val (.int (24 : Int32)), .val (.int ((p1 <<< ((24 : Int32) &&& 31)) >>> ((24 : Int32) &&& 31))), .unset]) rfl k) ?_
    show Go FrameEnd p e below s 16 128 (Q0 Z p1 p2 h0 n0) (T1.setTop (mkF m 30 #[.val (.int p1), .val (.int p2), .val (.int (1 : Int32)), .val (.ref b1a), .val (.int (24 : Int32)), .val (.int ((p1 <<< ((24 : Int32) &&& 31)) >>> ((24 : Int32) &&& 31))), .unset] []))
    obtain ⟨T2, h2, X2, e2, E2, A2, D2, -, st2⟩ := newO X1 hx hZ hown (hw _ (List.mem_of_getElem? (i := 5) rfl)) (hw _ (List.mem_of_getElem? (i := 6) rfl)) (hw _ (List.mem_of_getElem? (i := 7) rfl)) rfl (g := (mkF m 30 #[.val (.int p1), .val (.int p2), .val (.int (1 : Int32)), .val (.ref b1a), .val (.int (24 : Int32)), .val (.int ((p1 <<< ((24 : Int32) &&& 31)) >>> ((24 : Int32) &&& 31))), .unset] [])) rfl (hb hby at_30) (by decide) (by decide)
    refine Go.step st2 ?_
    obtain ⟨b2, g2⟩ : ∃ z, z = T1.heap.size := ⟨_, rfl⟩
    rw [← g2] at A2 D2 ⊢
    have ne_b1a_b2 : b1a ≠ b2 := Nat.ne_of_lt (Nat.lt_of_lt_of_le xA1_1.lt (Nat.le_of_eq g2.symm))
    have g_b2 : n0 ≤ b2 := Nat.le_trans Z1 (Nat.le_of_eq g2.symm)
    have Z2 : n0 ≤ h2.size := Nat.le_trans Z1 E2.1
    have F2_tag : Fld Z h2 b2 "com/example/keylattice/keylattice/Ber$Element" "tag" "I" (.int (0 : Int32)) := D2 (Or.inr (hw _ (List.mem_of_getElem? (i := 20) rfl))) (ty := .int) (by decide)
    have F2_content : Fld Z h2 b2 "com/example/keylattice/keylattice/Ber$Element" "content" "[B" .null := D2 (Or.inr (hw _ (List.mem_of_getElem? (i := 22) rfl))) (ty := (.array .byte)) (by decide)
    show Go FrameEnd p e below s 16 128 (Q0 Z p1 p2 h0 n0) (T2.setTop (mkF m 33 #[.val (.int p1), .val (.int p2), .val (.int (1 : Int32)), .val (.ref b1a), .val (.int (24 : Int32)), .val (.int ((p1 <<< ((24 : Int32) &&& 31)) >>> ((24 : Int32) &&& 31))), .unset] [(.ref b2)]))
    refine Go.step (fun _ k => XS.dup X2.here hx rfl (hb hby at_33) rfl rfl k) ?_
    show Go FrameEnd p e below s 16 128 (Q0 Z p1 p2 h0 n0) (T2.setTop (mkF m 34 #[.val (.int p1), .val (.int p2), .val (.int (1 : Int32)), .val (.ref b1a), .val (.int (24 : Int32)), .val (.int ((p1 <<< ((24 : Int32) &&& 31)) >>> ((24 : Int32) &&& 31))), .unset] [(.ref b2), (.ref b2)]))
    refine Go.step (fun _ k => XS.iconst X2.here hx rfl (hb hby at_34) k) ?_
    show Go FrameEnd p e below s 16 128 (Q0 Z p1 p2 h0 n0) (T2.setTop (mkF m 35 #[.val (.int p1), .val (.int p2), .val (.int (1 : Int32)), .val (.ref b1a), .val (.int (24 : Int32)), .val (.int ((p1 <<< ((24 : Int32) &&& 31)) >>> ((24 : Int32) &&& 31))), .unset] [(.int (2 : Int32)), (.ref b2), (.ref b2)]))
    refine Go.step (fun _ k => XS.aloadN X2.here hx rfl (hb hby at_35) rfl rfl k) ?_
    show Go FrameEnd p e below s 16 128 (Q0 Z p1 p2 h0 n0) (T2.setTop (mkF m 36 #[.val (.int p1), .val (.int p2), .val (.int (1 : Int32)), .val (.ref b1a), .val (.int (24 : Int32)), .val (.int ((p1 <<< ((24 : Int32) &&& 31)) >>> ((24 : Int32) &&& 31))), .unset] [(.ref b1a), (.int (2 : Int32)), (.ref b2), (.ref b2)]))
    obtain ⟨_, _, ⟨T3, L3, k3, n3⟩, -, X3, ⟨Lc3, hQ3, l3, y3, z3⟩, st3⟩ := X2.specialBack hx (y := (⟨"com/example/keylattice/keylattice/Ber$Element", "<init>", "(I[B)V"⟩ : MethodName)) rfl hown (mvT hZ (hw _ (List.mem_of_getElem? (i := 8) rfl))) (mvT hZ (hw _ (List.mem_of_getElem? (i := 9) rfl))) (mvT hZ (hw _ (List.mem_of_getElem? (i := 10) rfl))) (by decide) (backOf (W := 1) (rm2 l Z a0 hw [] b2 (2 : Int32) b1a ((.int (0 : Int32)) : Value) (.null : Value) h2 n0 Z2 A2 F2_tag F2_content g_b2) hZ (hw _ (List.mem_of_getElem? (i := 10) rfl)) (hw _ (List.mem_of_getElem? (i := 7) rfl)) (by decide) (by decide)) (g := (mkF m 36 #[.val (.int p1), .val (.int p2), .val (.int (1 : Int32)), .val (.ref b1a), .val (.int (24 : Int32)), .val (.int ((p1 <<< ((24 : Int32) &&& 31)) >>> ((24 : Int32) &&& 31))), .unset] [(.ref b1a), (.int (2 : Int32)), (.ref b2), (.ref b2)])) rfl (by rw [hml]; rfl) (Steps.refl _) (a := b2) (argsL := [(.int (2 : Int32)), (.ref b1a)]) (rest := [(.ref b2)]) (lenOf pd__I_B_V rfl) rfl (by show 2 * 0 + _ ≤ _; exact Nat.le_of_eq rfl) (hb hby at_36) (fun _ _ => ⟨rfl, e2, (by decide : 2 + 0 ≤ _), (by decide : 3 + 0 ≤ _)⟩)
    dsimp only [Pt.U, Pt.locs, Pt.cells, Pt.slots] at X3 l3 y3 z3 st3 hQ3
    subst l3 y3 z3
    obtain ⟨rfl, N3q, K3_0, xE3_1, xF3_2⟩ := hQ3
    have N3 := Fr.app N1 N3q
    have Z3 : n0 ≤ T3.heap.size := Nat.le_trans Z2 K3_0.1
    refine Go.hop st3 ?_
    show Go FrameEnd p e below s 16 128 (Q0 Z p1 p2 h0 n0) (T3.setTop (mkF m 39 #[.val (.int p1), .val (.int p2), .val (.int (1 : Int32)), .val (.ref b1a), .val (.int (24 : Int32)), .val (.int ((p1 <<< ((24 : Int32) &&& 31)) >>> ((24 : Int32) &&& 31))), .unset] [(.ref b2)]))
    refine Go.step (fun _ k => XS.astore X3.here hx rfl (hb hby at_39) rfl rfl (l' := #[.val (.int p1), .val (.int p2), .val (.int (1 : Int32)), .val (.ref b1a), .val (.int (24 : Int32)), .val (.int ((p1 <<< ((24 : Int32) &&& 31)) >>> ((24 : Int32) &&& 31))), .val (.ref b2)]) rfl k) ?_
    show Go FrameEnd p e below s 16 128 (Q0 Z p1 p2 h0 n0) (T3.setTop (mkF m 41 #[.val (.int p1), .val (.int p2), .val (.int (1 : Int32)), .val (.ref b1a), .val (.int (24 : Int32)), .val (.int ((p1 <<< ((24 : Int32) &&& 31)) >>> ((24 : Int32) &&& 31))), .val (.ref b2)] []))
    refine Go.step (fun _ k => XS.aload X3.here hx rfl (hb hby at_41) rfl rfl k) ?_
    show Go FrameEnd p e below s 16 128 (Q0 Z p1 p2 h0 n0) (T3.setTop (mkF m 43 #[.val (.int p1), .val (.int p2), .val (.int (1 : Int32)), .val (.ref b1a), .val (.int (24 : Int32)), .val (.int ((p1 <<< ((24 : Int32) &&& 31)) >>> ((24 : Int32) &&& 31))), .val (.ref b2)] [(.ref b2)]))
    have f_4 := ((xA1_1.ext E2).keep K3_0 (ninS ne_b1a_b2 nin0))
    obtain ⟨cq5, kq5, q5a, q5b, q5c⟩ := isOf hZ rfl xE3_1
    obtain ⟨_, _, ⟨T5, L5, k5, n5⟩, -, X5, ⟨Lc5, hQ5, l5, y5, z5⟩, st5⟩ := X3.virtualBack hx (y := (⟨"com/example/keylattice/keylattice/Ber$Element", "integer", "()I"⟩ : MethodName)) (z := (⟨"com/example/keylattice/keylattice/Ber$Element", "integer", "()I"⟩ : MethodName)) hown (mvT hZ (hw _ (List.mem_of_getElem? (i := 23) rfl))) (mvT hZ (hw _ (List.mem_of_getElem? (i := 24) rfl))) (notFace_of_selects (args := #[]) (mvT hZ (hw _ (List.mem_of_getElem? (i := 26) rfl)))) (mvT hZ (hw _ (List.mem_of_getElem? (i := 26) rfl))) (mvT hZ (hw _ (List.mem_of_getElem? (i := 25) rfl))) (by decide) (backOf (W := 0) (rm4k1 l Z a0 hw [] b2 b1a p1 T3.heap xF3_2 f_4) hZ (hw _ (List.mem_of_getElem? (i := 27) rfl)) (hw _ (List.mem_of_getElem? (i := 7) rfl)) (by decide) (by decide)) q5a q5c (g := (mkF m 43 #[.val (.int p1), .val (.int p2), .val (.int (1 : Int32)), .val (.ref b1a), .val (.int (24 : Int32)), .val (.int ((p1 <<< ((24 : Int32) &&& 31)) >>> ((24 : Int32) &&& 31))), .val (.ref b2)] [(.ref b2)])) rfl (by rw [hml]; rfl) (Steps.refl _) (argsL := []) (rest := []) (lenOf pd___I rfl) rfl (by show 2 * 0 + _ ≤ _; exact Nat.le_of_eq rfl) (hb hby at_43) (fun _ _ => ⟨rfl, rfl, (by decide : 2 + 0 ≤ _), (by decide : 3 + 0 ≤ _)⟩)
    dsimp only [Pt.U, Pt.locs, Pt.cells, Pt.slots] at X5 l5 y5 z5 st5 hQ5
    subst l5 y5 z5
    obtain ⟨rfl, rfl, e5⟩ := hQ5
    have N5 := Fr.app N3 (Fr.nil n0)
    refine Go.hop st5 ?_
    show Go FrameEnd p e below s 16 128 (Q0 Z p1 p2 h0 n0) (T5.setTop (mkF m 46 #[.val (.int p1), .val (.int p2), .val (.int (1 : Int32)), .val (.ref b1a), .val (.int (24 : Int32)), .val (.int ((p1 <<< ((24 : Int32) &&& 31)) >>> ((24 : Int32) &&& 31))), .val (.ref b2)] [(.int p1.toInt8.toInt32)]))
    refine Go.step (fun _ k => XS.iload X5.here hx rfl (hb hby at_46) rfl k) ?_
    show Go FrameEnd p e below s 16 128 (Q0 Z p1 p2 h0 n0) (T5.setTop (mkF m 48 #[.val (.int p1), .val (.int p2), .val (.int (1 : Int32)), .val (.ref b1a), .val (.int (24 : Int32)), .val (.int ((p1 <<< ((24 : Int32) &&& 31)) >>> ((24 : Int32) &&& 31))), .val (.ref b2)] [(.int ((p1 <<< ((24 : Int32) &&& 31)) >>> ((24 : Int32) &&& 31))), (.int p1.toInt8.toInt32)]))
    refine Go.step (fun _ k => XS.icmpNo X5.here hx rfl (hb hby at_48) rfl (teq (own_val1 p1)).2 k) ?_
    show Go FrameEnd p e below s 16 128 (Q0 Z p1 p2 h0 n0) (T5.setTop (mkF m 51 #[.val (.int p1), .val (.int p2), .val (.int (1 : Int32)), .val (.ref b1a), .val (.int (24 : Int32)), .val (.int ((p1 <<< ((24 : Int32) &&& 31)) >>> ((24 : Int32) &&& 31))), .val (.ref b2)] []))
    refine Go.step (fun _ k => XS.iconst X5.here hx rfl (hb hby at_51) k) ?_
    show Go FrameEnd p e below s 16 128 (Q0 Z p1 p2 h0 n0) (T5.setTop (mkF m 52 #[.val (.int p1), .val (.int p2), .val (.int (1 : Int32)), .val (.ref b1a), .val (.int (24 : Int32)), .val (.int ((p1 <<< ((24 : Int32) &&& 31)) >>> ((24 : Int32) &&& 31))), .val (.ref b2)] [(.int (1 : Int32))]))
    refine Go.step (fun _ k => XS.goto X5.here hx rfl (pc0 := 52) (pc' := 56) rfl (hb hby at_52) (by decide) (by decide) k) ?_
    show Go FrameEnd p e below s 16 128 (Q0 Z p1 p2 h0 n0) (T5.setTop (mkF m 56 #[.val (.int p1), .val (.int p2), .val (.int (1 : Int32)), .val (.ref b1a), .val (.int (24 : Int32)), .val (.int ((p1 <<< ((24 : Int32) &&& 31)) >>> ((24 : Int32) &&& 31))), .val (.ref b2)] [(.int (1 : Int32))]))
    refine Go.retN X5 hx (t := .boolean) Bd.returns (by simp) (by decide) (hb hby at_56) (BodyLoose.notSynchronized Bd) e5 (by decide) (by decide) ?_
    exact ⟨rfl, N5⟩
  · skip
    rw [show (p2 &&& (3 : Int32)) + (1 : Int32) = (2 : Int32) from by rw [q]; decide]
    show Go FrameEnd p e below s 16 128 (Q0 Z p1 p2 h0 n0) (s₁.setTop (mkF m 5 #[.val (.int p1), .val (.int p2), .unset, .unset, .unset, .unset, .unset] [(.int (2 : Int32))]))
    refine Go.step (fun _ k => XS.istoreN X0.here hx rfl (hb hby at_5) rfl (l' := #[.val (.int p1), .val (.int p2), .val (.int (2 : Int32)), .unset, .unset, .unset, .unset]) rfl k) ?_
    show Go FrameEnd p e below s 16 128 (Q0 Z p1 p2 h0 n0) (s₁.setTop (mkF m 6 #[.val (.int p1), .val (.int p2), .val (.int (2 : Int32)), .unset, .unset, .unset, .unset] []))
    refine Go.step (fun _ k => XS.iloadN X0.here hx rfl (hb hby at_6) rfl k) ?_
    show Go FrameEnd p e below s 16 128 (Q0 Z p1 p2 h0 n0) (s₁.setTop (mkF m 7 #[.val (.int p1), .val (.int p2), .val (.int (2 : Int32)), .unset, .unset, .unset, .unset] [(.int p1)]))
    refine Go.step (fun _ k => XS.iloadN X0.here hx rfl (hb hby at_7) rfl k) ?_
    show Go FrameEnd p e below s 16 128 (Q0 Z p1 p2 h0 n0) (s₁.setTop (mkF m 8 #[.val (.int p1), .val (.int p2), .val (.int (2 : Int32)), .unset, .unset, .unset, .unset] [(.int (2 : Int32)), (.int p1)]))
    obtain ⟨_, _, ⟨T6, L6, k6, n6⟩, -, X6, ⟨Lc6, hQ6, l6, y6, z6⟩, st6⟩ := Jvm.LawKit.callS X0 hx (y := (⟨"com/example/keylattice/keylattice/ElementIntegerPinLaw", "lastBytes", "(II)[B"⟩ : MethodName)) hown (mvT hZ (hw _ (List.mem_of_getElem? (i := 0) rfl))) (mvT hZ (hw _ (List.mem_of_getElem? (i := 1) rfl))) (mvT hZ (hw _ (List.mem_of_getElem? (i := 2) rfl))) (mvT hZ (hw _ (List.mem_of_getElem? (i := 3) rfl))) (by decide) (backOf (W := 0) (rm3k2 l Z a0 hw [] p1  h0 n0 Z0 ) hZ (hw _ (List.mem_of_getElem? (i := 3) rfl)) (hw _ (List.mem_of_getElem? (i := 2) rfl)) (by decide) (by decide)) (g := (mkF m 8 #[.val (.int p1), .val (.int p2), .val (.int (2 : Int32)), .unset, .unset, .unset, .unset] [(.int (2 : Int32)), (.int p1)])) rfl (by rw [hml]; rfl) (argsL := [(.int p1), (.int (2 : Int32))]) (rest := []) (lenOf pd__II__B rfl) rfl (by show 2 * 0 + _ ≤ _; exact Nat.le_of_eq rfl) (hb hby at_8) (fun _ _ => ⟨rfl, e0, (by decide : 0 + 1 ≤ _), (by decide : 0 + 2 ≤ _)⟩)
    dsimp only [Pt.U, Pt.locs, Pt.cells, Pt.slots] at X6 l6 y6 z6 st6 hQ6
    subst l6 y6 z6
    obtain ⟨b6a, rfl, N6q, szb6a, K6_0, xA6_1⟩ := hQ6
    have N6 := Fr.app N0 N6q
    have g_b6a : n0 ≤ b6a := Nat.le_trans Z0 szb6a
    have Z6 : n0 ≤ T6.heap.size := Nat.le_trans Z0 K6_0.1
    refine Go.step st6 ?_
    show Go FrameEnd p e below s 16 128 (Q0 Z p1 p2 h0 n0) (T6.setTop (mkF m 11 #[.val (.int p1), .val (.int p2), .val (.int (2 : Int32)), .unset, .unset, .unset, .unset] [(.ref b6a)]))
    refine Go.step (fun _ k => XS.astoreN X6.here hx rfl (hb hby at_11) rfl rfl (l' := #[.val (.int p1), .val (.int p2), .val (.int (2 : Int32)), .val (.ref b6a), .unset, .unset, .unset]) rfl k) ?_
    show Go FrameEnd p e below s 16 128 (Q0 Z p1 p2 h0 n0) (T6.setTop (mkF m 12 #[.val (.int p1), .val (.int p2), .val (.int (2 : Int32)), .val (.ref b6a), .unset, .unset, .unset] []))
    refine Go.step (fun _ k => XS.bipush X6.here hx rfl (hb hby at_12) k) ?_
    show Go FrameEnd p e below s 16 128 (Q0 Z p1 p2 h0 n0) (T6.setTop (mkF m 14 #[.val (.int p1), .val (.int p2), .val (.int (2 : Int32)), .val (.ref b6a), .unset, .unset, .unset] [(.int (32 : Int32))]))
    refine Go.step (fun _ k => XS.bipush X6.here hx rfl (hb hby at_14) k) ?_
    show Go FrameEnd p e below s 16 128 (Q0 Z p1 p2 h0 n0) (T6.setTop (mkF m 16 #[.val (.int p1), .val (.int p2), .val (.int (2 : Int32)), .val (.ref b6a), .unset, .unset, .unset] [(.int (8 : Int32)), (.int (32 : Int32))]))
    refine Go.step (fun _ k => XS.iloadN X6.here hx rfl (hb hby at_16) rfl k) ?_
    show Go FrameEnd p e below s 16 128 (Q0 Z p1 p2 h0 n0) (T6.setTop (mkF m 17 #[.val (.int p1), .val (.int p2), .val (.int (2 : Int32)), .val (.ref b6a), .unset, .unset, .unset] [(.int (2 : Int32)), (.int (8 : Int32)), (.int (32 : Int32))]))
    refine Go.step (fun _ k => XS.imul X6.here hx rfl (hb hby at_17) rfl k) ?_
    show Go FrameEnd p e below s 16 128 (Q0 Z p1 p2 h0 n0) (T6.setTop (mkF m 18 #[.val (.int p1), .val (.int p2), .val (.int (2 : Int32)), .val (.ref b6a), .unset, .unset, .unset] [(.int (16 : Int32)), (.int (32 : Int32))]))
    refine Go.step (fun _ k => XS.isub X6.here hx rfl (hb hby at_18) rfl k) ?_
    show Go FrameEnd p e below s 16 128 (Q0 Z p1 p2 h0 n0) (T6.setTop (mkF m 19 #[.val (.int p1), .val (.int p2), .val (.int (2 : Int32)), .val (.ref b6a), .unset, .unset, .unset] [(.int (16 : Int32))]))
    refine Go.step (fun _ k => XS.istore X6.here hx rfl (hb hby at_19) rfl (l' := #[.val (.int p1), .val (.int p2), .val (.int (2 : Int32)), .val (.ref b6a), .val (.int (16 : Int32)), .unset, .unset]) rfl k) ?_
    show Go FrameEnd p e below s 16 128 (Q0 Z p1 p2 h0 n0) (T6.setTop (mkF m 21 #[.val (.int p1), .val (.int p2), .val (.int (2 : Int32)), .val (.ref b6a), .val (.int (16 : Int32)), .unset, .unset] []))
    refine Go.step (fun _ k => XS.iloadN X6.here hx rfl (hb hby at_21) rfl k) ?_
    show Go FrameEnd p e below s 16 128 (Q0 Z p1 p2 h0 n0) (T6.setTop (mkF m 22 #[.val (.int p1), .val (.int p2), .val (.int (2 : Int32)), .val (.ref b6a), .val (.int (16 : Int32)), .unset, .unset] [(.int p1)]))
    refine Go.step (fun _ k => XS.iload X6.here hx rfl (hb hby at_22) rfl k) ?_
    show Go FrameEnd p e below s 16 128 (Q0 Z p1 p2 h0 n0) (T6.setTop (mkF m 24 #[.val (.int p1), .val (.int p2), .val (.int (2 : Int32)), .val (.ref b6a), .val (.int (16 : Int32)), .unset, .unset] [(.int (16 : Int32)), (.int p1)]))
    refine Go.step (fun _ k => XS.ishl X6.here hx rfl (hb hby at_24) rfl k) ?_
    show Go FrameEnd p e below s 16 128 (Q0 Z p1 p2 h0 n0) (T6.setTop (mkF m 25 #[.val (.int p1), .val (.int p2), .val (.int (2 : Int32)), .val (.ref b6a), .val (.int (16 : Int32)), .unset, .unset] [(.int (p1 <<< ((16 : Int32) &&& 31)))]))
    refine Go.step (fun _ k => XS.iload X6.here hx rfl (hb hby at_25) rfl k) ?_
    show Go FrameEnd p e below s 16 128 (Q0 Z p1 p2 h0 n0) (T6.setTop (mkF m 27 #[.val (.int p1), .val (.int p2), .val (.int (2 : Int32)), .val (.ref b6a), .val (.int (16 : Int32)), .unset, .unset] [(.int (16 : Int32)), (.int (p1 <<< ((16 : Int32) &&& 31)))]))
    refine Go.step (fun _ k => XS.ishr X6.here hx rfl (hb hby at_27) rfl k) ?_
    show Go FrameEnd p e below s 16 128 (Q0 Z p1 p2 h0 n0) (T6.setTop (mkF m 28 #[.val (.int p1), .val (.int p2), .val (.int (2 : Int32)), .val (.ref b6a), .val (.int (16 : Int32)), .unset, .unset] [(.int ((p1 <<< ((16 : Int32) &&& 31)) >>> ((16 : Int32) &&& 31)))]))
    refine Go.step (fun _ k => XS.istore X6.here hx rfl (hb hby at_28) rfl (l' := #[.val (.int p1), .val (.int p2), .val (.int (2 : Int32)), .val (.ref b6a), .val (.int (16 : Int32)), .val (.int ((p1 <<< ((16 : Int32) &&& 31)) >>> ((16 : Int32) &&& 31))), .unset]) rfl k) ?_
    show Go FrameEnd p e below s 16 128 (Q0 Z p1 p2 h0 n0) (T6.setTop (mkF m 30 #[.val (.int p1), .val (.int p2), .val (.int (2 : Int32)), .val (.ref b6a), .val (.int (16 : Int32)), .val (.int ((p1 <<< ((16 : Int32) &&& 31)) >>> ((16 : Int32) &&& 31))), .unset] []))
    obtain ⟨T7, h7, X7, e7, E7, A7, D7, -, st7⟩ := newO X6 hx hZ hown (hw _ (List.mem_of_getElem? (i := 5) rfl)) (hw _ (List.mem_of_getElem? (i := 6) rfl)) (hw _ (List.mem_of_getElem? (i := 7) rfl)) rfl (g := (mkF m 30 #[.val (.int p1), .val (.int p2), .val (.int (2 : Int32)), .val (.ref b6a), .val (.int (16 : Int32)), .val (.int ((p1 <<< ((16 : Int32) &&& 31)) >>> ((16 : Int32) &&& 31))), .unset] [])) rfl (hb hby at_30) (by decide) (by decide)
    refine Go.step st7 ?_
    obtain ⟨b7, g7⟩ : ∃ z, z = T6.heap.size := ⟨_, rfl⟩
    rw [← g7] at A7 D7 ⊢
    have ne_b6a_b7 : b6a ≠ b7 := Nat.ne_of_lt (Nat.lt_of_lt_of_le xA6_1.lt (Nat.le_of_eq g7.symm))
    have g_b7 : n0 ≤ b7 := Nat.le_trans Z6 (Nat.le_of_eq g7.symm)
    have Z7 : n0 ≤ h7.size := Nat.le_trans Z6 E7.1
    have F7_tag : Fld Z h7 b7 "com/example/keylattice/keylattice/Ber$Element" "tag" "I" (.int (0 : Int32)) := D7 (Or.inr (hw _ (List.mem_of_getElem? (i := 20) rfl))) (ty := .int) (by decide)
    have F7_content : Fld Z h7 b7 "com/example/keylattice/keylattice/Ber$Element" "content" "[B" .null := D7 (Or.inr (hw _ (List.mem_of_getElem? (i := 22) rfl))) (ty := (.array .byte)) (by decide)
    show Go FrameEnd p e below s 16 128 (Q0 Z p1 p2 h0 n0) (T7.setTop (mkF m 33 #[.val (.int p1), .val (.int p2), .val (.int (2 : Int32)), .val (.ref b6a), .val (.int (16 : Int32)), .val (.int ((p1 <<< ((16 : Int32) &&& 31)) >>> ((16 : Int32) &&& 31))), .unset] [(.ref b7)]))
    refine Go.step (fun _ k => XS.dup X7.here hx rfl (hb hby at_33) rfl rfl k) ?_
    show Go FrameEnd p e below s 16 128 (Q0 Z p1 p2 h0 n0) (T7.setTop (mkF m 34 #[.val (.int p1), .val (.int p2), .val (.int (2 : Int32)), .val (.ref b6a), .val (.int (16 : Int32)), .val (.int ((p1 <<< ((16 : Int32) &&& 31)) >>> ((16 : Int32) &&& 31))), .unset] [(.ref b7), (.ref b7)]))
    refine Go.step (fun _ k => XS.iconst X7.here hx rfl (hb hby at_34) k) ?_
    show Go FrameEnd p e below s 16 128 (Q0 Z p1 p2 h0 n0) (T7.setTop (mkF m 35 #[.val (.int p1), .val (.int p2), .val (.int (2 : Int32)), .val (.ref b6a), .val (.int (16 : Int32)), .val (.int ((p1 <<< ((16 : Int32) &&& 31)) >>> ((16 : Int32) &&& 31))), .unset] [(.int (2 : Int32)), (.ref b7), (.ref b7)]))
    refine Go.step (fun _ k => XS.aloadN X7.here hx rfl (hb hby at_35) rfl rfl k) ?_
    show Go FrameEnd p e below s 16 128 (Q0 Z p1 p2 h0 n0) (T7.setTop (mkF m 36 #[.val (.int p1), .val (.int p2), .val (.int (2 : Int32)), .val (.ref b6a), .val (.int (16 : Int32)), .val (.int ((p1 <<< ((16 : Int32) &&& 31)) >>> ((16 : Int32) &&& 31))), .unset] [(.ref b6a), (.int (2 : Int32)), (.ref b7), (.ref b7)]))
    obtain ⟨_, _, ⟨T8, L8, k8, n8⟩, -, X8, ⟨Lc8, hQ8, l8, y8, z8⟩, st8⟩ := X7.specialBack hx (y := (⟨"com/example/keylattice/keylattice/Ber$Element", "<init>", "(I[B)V"⟩ : MethodName)) rfl hown (mvT hZ (hw _ (List.mem_of_getElem? (i := 8) rfl))) (mvT hZ (hw _ (List.mem_of_getElem? (i := 9) rfl))) (mvT hZ (hw _ (List.mem_of_getElem? (i := 10) rfl))) (by decide) (backOf (W := 1) (rm2 l Z a0 hw [] b7 (2 : Int32) b6a ((.int (0 : Int32)) : Value) (.null : Value) h7 n0 Z7 A7 F7_tag F7_content g_b7) hZ (hw _ (List.mem_of_getElem? (i := 10) rfl)) (hw _ (List.mem_of_getElem? (i := 7) rfl)) (by decide) (by decide)) (g := (mkF m 36 #[.val (.int p1), .val (.int p2), .val (.int (2 : Int32)), .val (.ref b6a), .val (.int (16 : Int32)), .val (.int ((p1 <<< ((16 : Int32) &&& 31)) >>> ((16 : Int32) &&& 31))), .unset] [(.ref b6a), (.int (2 : Int32)), (.ref b7), (.ref b7)])) rfl (by rw [hml]; rfl) (Steps.refl _) (a := b7) (argsL := [(.int (2 : Int32)), (.ref b6a)]) (rest := [(.ref b7)]) (lenOf pd__I_B_V rfl) rfl (by show 2 * 0 + _ ≤ _; exact Nat.le_of_eq rfl) (hb hby at_36) (fun _ _ => ⟨rfl, e7, (by decide : 2 + 0 ≤ _), (by decide : 4 + 0 ≤ _)⟩)
    dsimp only [Pt.U, Pt.locs, Pt.cells, Pt.slots] at X8 l8 y8 z8 st8 hQ8
    subst l8 y8 z8
    obtain ⟨rfl, N8q, K8_0, xE8_1, xF8_2⟩ := hQ8
    have N8 := Fr.app N6 N8q
    have Z8 : n0 ≤ T8.heap.size := Nat.le_trans Z7 K8_0.1
    refine Go.hop st8 ?_
    show Go FrameEnd p e below s 16 128 (Q0 Z p1 p2 h0 n0) (T8.setTop (mkF m 39 #[.val (.int p1), .val (.int p2), .val (.int (2 : Int32)), .val (.ref b6a), .val (.int (16 : Int32)), .val (.int ((p1 <<< ((16 : Int32) &&& 31)) >>> ((16 : Int32) &&& 31))), .unset] [(.ref b7)]))
    refine Go.step (fun _ k => XS.astore X8.here hx rfl (hb hby at_39) rfl rfl (l' := #[.val (.int p1), .val (.int p2), .val (.int (2 : Int32)), .val (.ref b6a), .val (.int (16 : Int32)), .val (.int ((p1 <<< ((16 : Int32) &&& 31)) >>> ((16 : Int32) &&& 31))), .val (.ref b7)]) rfl k) ?_
    show Go FrameEnd p e below s 16 128 (Q0 Z p1 p2 h0 n0) (T8.setTop (mkF m 41 #[.val (.int p1), .val (.int p2), .val (.int (2 : Int32)), .val (.ref b6a), .val (.int (16 : Int32)), .val (.int ((p1 <<< ((16 : Int32) &&& 31)) >>> ((16 : Int32) &&& 31))), .val (.ref b7)] []))
    refine Go.step (fun _ k => XS.aload X8.here hx rfl (hb hby at_41) rfl rfl k) ?_
    show Go FrameEnd p e below s 16 128 (Q0 Z p1 p2 h0 n0) (T8.setTop (mkF m 43 #[.val (.int p1), .val (.int p2), .val (.int (2 : Int32)), .val (.ref b6a), .val (.int (16 : Int32)), .val (.int ((p1 <<< ((16 : Int32) &&& 31)) >>> ((16 : Int32) &&& 31))), .val (.ref b7)] [(.ref b7)]))
    have f_9 := ((xA6_1.ext E7).keep K8_0 (ninS ne_b6a_b7 nin0))
    obtain ⟨cq10, kq10, q10a, q10b, q10c⟩ := isOf hZ rfl xE8_1
    obtain ⟨_, _, ⟨T10, L10, k10, n10⟩, -, X10, ⟨Lc10, hQ10, l10, y10, z10⟩, st10⟩ := X8.virtualBack hx (y := (⟨"com/example/keylattice/keylattice/Ber$Element", "integer", "()I"⟩ : MethodName)) (z := (⟨"com/example/keylattice/keylattice/Ber$Element", "integer", "()I"⟩ : MethodName)) hown (mvT hZ (hw _ (List.mem_of_getElem? (i := 23) rfl))) (mvT hZ (hw _ (List.mem_of_getElem? (i := 24) rfl))) (notFace_of_selects (args := #[]) (mvT hZ (hw _ (List.mem_of_getElem? (i := 26) rfl)))) (mvT hZ (hw _ (List.mem_of_getElem? (i := 26) rfl))) (mvT hZ (hw _ (List.mem_of_getElem? (i := 25) rfl))) (by decide) (backOf (W := 0) (rm4k2 l Z a0 hw [] b7 b6a p1 T8.heap xF8_2 f_9) hZ (hw _ (List.mem_of_getElem? (i := 27) rfl)) (hw _ (List.mem_of_getElem? (i := 7) rfl)) (by decide) (by decide)) q10a q10c (g := (mkF m 43 #[.val (.int p1), .val (.int p2), .val (.int (2 : Int32)), .val (.ref b6a), .val (.int (16 : Int32)), .val (.int ((p1 <<< ((16 : Int32) &&& 31)) >>> ((16 : Int32) &&& 31))), .val (.ref b7)] [(.ref b7)])) rfl (by rw [hml]; rfl) (Steps.refl _) (argsL := []) (rest := []) (lenOf pd___I rfl) rfl (by show 2 * 0 + _ ≤ _; exact Nat.le_of_eq rfl) (hb hby at_43) (fun _ _ => ⟨rfl, rfl, (by decide : 2 + 0 ≤ _), (by decide : 4 + 0 ≤ _)⟩)
    dsimp only [Pt.U, Pt.locs, Pt.cells, Pt.slots] at X10 l10 y10 z10 st10 hQ10
    subst l10 y10 z10
    obtain ⟨rfl, rfl, e10⟩ := hQ10
    have N10 := Fr.app N8 (Fr.nil n0)
    refine Go.hop st10 ?_
    show Go FrameEnd p e below s 16 128 (Q0 Z p1 p2 h0 n0) (T10.setTop (mkF m 46 #[.val (.int p1), .val (.int p2), .val (.int (2 : Int32)), .val (.ref b6a), .val (.int (16 : Int32)), .val (.int ((p1 <<< ((16 : Int32) &&& 31)) >>> ((16 : Int32) &&& 31))), .val (.ref b7)] [(.int (((ushI p1 (8 : Int32)).toInt8.toInt32 <<< ((8 : Int32) &&& 31)) ||| (p1.toInt8.toInt32 &&& (255 : Int32))))]))
    refine Go.step (fun _ k => XS.iload X10.here hx rfl (hb hby at_46) rfl k) ?_
    show Go FrameEnd p e below s 16 128 (Q0 Z p1 p2 h0 n0) (T10.setTop (mkF m 48 #[.val (.int p1), .val (.int p2), .val (.int (2 : Int32)), .val (.ref b6a), .val (.int (16 : Int32)), .val (.int ((p1 <<< ((16 : Int32) &&& 31)) >>> ((16 : Int32) &&& 31))), .val (.ref b7)] [(.int ((p1 <<< ((16 : Int32) &&& 31)) >>> ((16 : Int32) &&& 31))), (.int (((ushI p1 (8 : Int32)).toInt8.toInt32 <<< ((8 : Int32) &&& 31)) ||| (p1.toInt8.toInt32 &&& (255 : Int32))))]))
    refine Go.step (fun _ k => XS.icmpNo X10.here hx rfl (hb hby at_48) rfl (teq (own_val2 p1)).2 k) ?_
    show Go FrameEnd p e below s 16 128 (Q0 Z p1 p2 h0 n0) (T10.setTop (mkF m 51 #[.val (.int p1), .val (.int p2), .val (.int (2 : Int32)), .val (.ref b6a), .val (.int (16 : Int32)), .val (.int ((p1 <<< ((16 : Int32) &&& 31)) >>> ((16 : Int32) &&& 31))), .val (.ref b7)] []))
    refine Go.step (fun _ k => XS.iconst X10.here hx rfl (hb hby at_51) k) ?_
    show Go FrameEnd p e below s 16 128 (Q0 Z p1 p2 h0 n0) (T10.setTop (mkF m 52 #[.val (.int p1), .val (.int p2), .val (.int (2 : Int32)), .val (.ref b6a), .val (.int (16 : Int32)), .val (.int ((p1 <<< ((16 : Int32) &&& 31)) >>> ((16 : Int32) &&& 31))), .val (.ref b7)] [(.int (1 : Int32))]))
    refine Go.step (fun _ k => XS.goto X10.here hx rfl (pc0 := 52) (pc' := 56) rfl (hb hby at_52) (by decide) (by decide) k) ?_
    show Go FrameEnd p e below s 16 128 (Q0 Z p1 p2 h0 n0) (T10.setTop (mkF m 56 #[.val (.int p1), .val (.int p2), .val (.int (2 : Int32)), .val (.ref b6a), .val (.int (16 : Int32)), .val (.int ((p1 <<< ((16 : Int32) &&& 31)) >>> ((16 : Int32) &&& 31))), .val (.ref b7)] [(.int (1 : Int32))]))
    refine Go.retN X10 hx (t := .boolean) Bd.returns (by simp) (by decide) (hb hby at_56) (BodyLoose.notSynchronized Bd) e10 (by decide) (by decide) ?_
    exact ⟨rfl, N10⟩
  · skip
    rw [show (p2 &&& (3 : Int32)) + (1 : Int32) = (3 : Int32) from by rw [q]; decide]
    show Go FrameEnd p e below s 16 128 (Q0 Z p1 p2 h0 n0) (s₁.setTop (mkF m 5 #[.val (.int p1), .val (.int p2), .unset, .unset, .unset, .unset, .unset] [(.int (3 : Int32))]))
    refine Go.step (fun _ k => XS.istoreN X0.here hx rfl (hb hby at_5) rfl (l' := #[.val (.int p1), .val (.int p2), .val (.int (3 : Int32)), .unset, .unset, .unset, .unset]) rfl k) ?_
    show Go FrameEnd p e below s 16 128 (Q0 Z p1 p2 h0 n0) (s₁.setTop (mkF m 6 #[.val (.int p1), .val (.int p2), .val (.int (3 : Int32)), .unset, .unset, .unset, .unset] []))
    refine Go.step (fun _ k => XS.iloadN X0.here hx rfl (hb hby at_6) rfl k) ?_
    show Go FrameEnd p e below s 16 128 (Q0 Z p1 p2 h0 n0) (s₁.setTop (mkF m 7 #[.val (.int p1), .val (.int p2), .val (.int (3 : Int32)), .unset, .unset, .unset, .unset] [(.int p1)]))
    refine Go.step (fun _ k => XS.iloadN X0.here hx rfl (hb hby at_7) rfl k) ?_
    show Go FrameEnd p e below s 16 128 (Q0 Z p1 p2 h0 n0) (s₁.setTop (mkF m 8 #[.val (.int p1), .val (.int p2), .val (.int (3 : Int32)), .unset, .unset, .unset, .unset] [(.int (3 : Int32)), (.int p1)]))
    obtain ⟨_, _, ⟨T11, L11, k11, n11⟩, -, X11, ⟨Lc11, hQ11, l11, y11, z11⟩, st11⟩ := Jvm.LawKit.callS X0 hx (y := (⟨"com/example/keylattice/keylattice/ElementIntegerPinLaw", "lastBytes", "(II)[B"⟩ : MethodName)) hown (mvT hZ (hw _ (List.mem_of_getElem? (i := 0) rfl))) (mvT hZ (hw _ (List.mem_of_getElem? (i := 1) rfl))) (mvT hZ (hw _ (List.mem_of_getElem? (i := 2) rfl))) (mvT hZ (hw _ (List.mem_of_getElem? (i := 3) rfl))) (by decide) (backOf (W := 0) (rm3k3 l Z a0 hw [] p1  h0 n0 Z0 ) hZ (hw _ (List.mem_of_getElem? (i := 3) rfl)) (hw _ (List.mem_of_getElem? (i := 2) rfl)) (by decide) (by decide)) (g := (mkF m 8 #[.val (.int p1), .val (.int p2), .val (.int (3 : Int32)), .unset, .unset, .unset, .unset] [(.int (3 : Int32)), (.int p1)])) rfl (by rw [hml]; rfl) (argsL := [(.int p1), (.int (3 : Int32))]) (rest := []) (lenOf pd__II__B rfl) rfl (by show 2 * 0 + _ ≤ _; exact Nat.le_of_eq rfl) (hb hby at_8) (fun _ _ => ⟨rfl, e0, (by decide : 0 + 1 ≤ _), (by decide : 0 + 3 ≤ _)⟩)
    dsimp only [Pt.U, Pt.locs, Pt.cells, Pt.slots] at X11 l11 y11 z11 st11 hQ11
    subst l11 y11 z11
    obtain ⟨b11a, rfl, N11q, szb11a, K11_0, xA11_1⟩ := hQ11
    have N11 := Fr.app N0 N11q
    have g_b11a : n0 ≤ b11a := Nat.le_trans Z0 szb11a
    have Z11 : n0 ≤ T11.heap.size := Nat.le_trans Z0 K11_0.1
    refine Go.step st11 ?_
    show Go FrameEnd p e below s 16 128 (Q0 Z p1 p2 h0 n0) (T11.setTop (mkF m 11 #[.val (.int p1), .val (.int p2), .val (.int (3 : Int32)), .unset, .unset, .unset, .unset] [(.ref b11a)]))
    refine Go.step (fun _ k => XS.astoreN X11.here hx rfl (hb hby at_11) rfl rfl (l' := #[.val (.int p1), .val (.int p2), .val (.int (3 : Int32)), .val (.ref b11a), .unset, .unset, .unset]) rfl k) ?_
    show Go FrameEnd p e below s 16 128 (Q0 Z p1 p2 h0 n0) (T11.setTop (mkF m 12 #[.val (.int p1), .val (.int p2), .val (.int (3 : Int32)), .val (.ref b11a), .unset, .unset, .unset] []))
    refine Go.step (fun _ k => XS.bipush X11.here hx rfl (hb hby at_12) k) ?_
    show Go FrameEnd p e below s 16 128 (Q0 Z p1 p2 h0 n0) (T11.setTop (mkF m 14 #[.val (.int p1), .val (.int p2), .val (.int (3 : Int32)), .val (.ref b11a), .unset, .unset, .unset] [(.int (32 : Int32))]))
    refine Go.step (fun _ k => XS.bipush X11.here hx rfl (hb hby at_14) k) ?_
    show Go FrameEnd p e below s 16 128 (Q0 Z p1 p2 h0 n0) (T11.setTop (mkF m 16 #[.val (.int p1), .val (.int p2), .val (.int (3 : Int32)), .val (.ref b11a), .unset, .unset, .unset] [(.int (8 : Int32)), (.int (32 : Int32))]))
    refine Go.step (fun _ k => XS.iloadN X11.here hx rfl (hb hby at_16) rfl k) ?_
    show Go FrameEnd p e below s 16 128 (Q0 Z p1 p2 h0 n0) (T11.setTop (mkF m 17 #[.val (.int p1), .val (.int p2), .val (.int (3 : Int32)), .val (.ref b11a), .unset, .unset, .unset] [(.int (3 : Int32)), (.int (8 : Int32)), (.int (32 : Int32))]))
    refine Go.step (fun _ k => XS.imul X11.here hx rfl (hb hby at_17) rfl k) ?_
    show Go FrameEnd p e below s 16 128 (Q0 Z p1 p2 h0 n0) (T11.setTop (mkF m 18 #[.val (.int p1), .val (.int p2), .val (.int (3 : Int32)), .val (.ref b11a), .unset, .unset, .unset] [(.int (24 : Int32)), (.int (32 : Int32))]))
    refine Go.step (fun _ k => XS.isub X11.here hx rfl (hb hby at_18) rfl k) ?_
    show Go FrameEnd p e below s 16 128 (Q0 Z p1 p2 h0 n0) (T11.setTop (mkF m 19 #[.val (.int p1), .val (.int p2), .val (.int (3 : Int32)), .val (.ref b11a), .unset, .unset, .unset] [(.int (8 : Int32))]))
    refine Go.step (fun _ k => XS.istore X11.here hx rfl (hb hby at_19) rfl (l' := #[.val (.int p1), .val (.int p2), .val (.int (3 : Int32)), .val (.ref b11a), .val (.int (8 : Int32)), .unset, .unset]) rfl k) ?_
    show Go FrameEnd p e below s 16 128 (Q0 Z p1 p2 h0 n0) (T11.setTop (mkF m 21 #[.val (.int p1), .val (.int p2), .val (.int (3 : Int32)), .val (.ref b11a), .val (.int (8 : Int32)), .unset, .unset] []))
    refine Go.step (fun _ k => XS.iloadN X11.here hx rfl (hb hby at_21) rfl k) ?_
    show Go FrameEnd p e below s 16 128 (Q0 Z p1 p2 h0 n0) (T11.setTop (mkF m 22 #[.val (.int p1), .val (.int p2), .val (.int (3 : Int32)), .val (.ref b11a), .val (.int (8 : Int32)), .unset, .unset] [(.int p1)]))
    refine Go.step (fun _ k => XS.iload X11.here hx rfl (hb hby at_22) rfl k) ?_
    show Go FrameEnd p e below s 16 128 (Q0 Z p1 p2 h0 n0) (T11.setTop (mkF m 24 #[.val (.int p1), .val (.int p2), .val (.int (3 : Int32)), .val (.ref b11a), .val (.int (8 : Int32)), .unset, .unset] [(.int (8 : Int32)), (.int p1)]))
    refine Go.step (fun _ k => XS.ishl X11.here hx rfl (hb hby at_24) rfl k) ?_
    show Go FrameEnd p e below s 16 128 (Q0 Z p1 p2 h0 n0) (T11.setTop (mkF m 25 #[.val (.int p1), .val (.int p2), .val (.int (3 : Int32)), .val (.ref b11a), .val (.int (8 : Int32)), .unset, .unset] [(.int (p1 <<< ((8 : Int32) &&& 31)))]))
    refine Go.step (fun _ k => XS.iload X11.here hx rfl (hb hby at_25) rfl k) ?_
    show Go FrameEnd p e below s 16 128 (Q0 Z p1 p2 h0 n0) (T11.setTop (mkF m 27 #[.val (.int p1), .val (.int p2), .val (.int (3 : Int32)), .val (.ref b11a), .val (.int (8 : Int32)), .unset, .unset] [(.int (8 : Int32)), (.int (p1 <<< ((8 : Int32) &&& 31)))]))
    refine Go.step (fun _ k => XS.ishr X11.here hx rfl (hb hby at_27) rfl k) ?_
    show Go FrameEnd p e below s 16 128 (Q0 Z p1 p2 h0 n0) (T11.setTop (mkF m 28 #[.val (.int p1), .val (.int p2), .val (.int (3 : Int32)), .val (.ref b11a), .val (.int (8 : Int32)), .unset, .unset] [(.int ((p1 <<< ((8 : Int32) &&& 31)) >>> ((8 : Int32) &&& 31)))]))
    refine Go.step (fun _ k => XS.istore X11.here hx rfl (hb hby at_28) rfl (l' := #[.val (.int p1), .val (.int p2), .val (.int (3 : Int32)), .val (.ref b11a), .val (.int (8 : Int32)), .val (.int ((p1 <<< ((8 : Int32) &&& 31)) >>> ((8 : Int32) &&& 31))), .unset]) rfl k) ?_
    show Go FrameEnd p e below s 16 128 (Q0 Z p1 p2 h0 n0) (T11.setTop (mkF m 30 #[.val (.int p1), .val (.int p2), .val (.int (3 : Int32)), .val (.ref b11a), .val (.int (8 : Int32)), .val (.int ((p1 <<< ((8 : Int32) &&& 31)) >>> ((8 : Int32) &&& 31))), .unset] []))
    obtain ⟨T12, h12, X12, e12, E12, A12, D12, -, st12⟩ := newO X11 hx hZ hown (hw _ (List.mem_of_getElem? (i := 5) rfl)) (hw _ (List.mem_of_getElem? (i := 6) rfl)) (hw _ (List.mem_of_getElem? (i := 7) rfl)) rfl (g := (mkF m 30 #[.val (.int p1), .val (.int p2), .val (.int (3 : Int32)), .val (.ref b11a), .val (.int (8 : Int32)), .val (.int ((p1 <<< ((8 : Int32) &&& 31)) >>> ((8 : Int32) &&& 31))), .unset] [])) rfl (hb hby at_30) (by decide) (by decide)
    refine Go.step st12 ?_
    obtain ⟨b12, g12⟩ : ∃ z, z = T11.heap.size := ⟨_, rfl⟩
    rw [← g12] at A12 D12 ⊢
    have ne_b11a_b12 : b11a ≠ b12 := Nat.ne_of_lt (Nat.lt_of_lt_of_le xA11_1.lt (Nat.le_of_eq g12.symm))
    have g_b12 : n0 ≤ b12 := Nat.le_trans Z11 (Nat.le_of_eq g12.symm)
    have Z12 : n0 ≤ h12.size := Nat.le_trans Z11 E12.1
    have F12_tag : Fld Z h12 b12 "com/example/keylattice/keylattice/Ber$Element" "tag" "I" (.int (0 : Int32)) := D12 (Or.inr (hw _ (List.mem_of_getElem? (i := 20) rfl))) (ty := .int) (by decide)
    have F12_content : Fld Z h12 b12 "com/example/keylattice/keylattice/Ber$Element" "content" "[B" .null := D12 (Or.inr (hw _ (List.mem_of_getElem? (i := 22) rfl))) (ty := (.array .byte)) (by decide)
    show Go FrameEnd p e below s 16 128 (Q0 Z p1 p2 h0 n0) (T12.setTop (mkF m 33 #[.val (.int p1), .val (.int p2), .val (.int (3 : Int32)), .val (.ref b11a), .val (.int (8 : Int32)), .val (.int ((p1 <<< ((8 : Int32) &&& 31)) >>> ((8 : Int32) &&& 31))), .unset] [(.ref b12)]))
    refine Go.step (fun _ k => XS.dup X12.here hx rfl (hb hby at_33) rfl rfl k) ?_
    show Go FrameEnd p e below s 16 128 (Q0 Z p1 p2 h0 n0) (T12.setTop (mkF m 34 #[.val (.int p1), .val (.int p2), .val (.int (3 : Int32)), .val (.ref b11a), .val (.int (8 : Int32)), .val (.int ((p1 <<< ((8 : Int32) &&& 31)) >>> ((8 : Int32) &&& 31))), .unset] [(.ref b12), (.ref b12)]))
    refine Go.step (fun _ k => XS.iconst X12.here hx rfl (hb hby at_34) k) ?_
    show Go FrameEnd p e below s 16 128 (Q0 Z p1 p2 h0 n0) (T12.setTop (mkF m 35 #[.val (.int p1), .val (.int p2), .val (.int (3 : Int32)), .val (.ref b11a), .val (.int (8 : Int32)), .val (.int ((p1 <<< ((8 : Int32) &&& 31)) >>> ((8 : Int32) &&& 31))), .unset] [(.int (2 : Int32)), (.ref b12), (.ref b12)]))
    refine Go.step (fun _ k => XS.aloadN X12.here hx rfl (hb hby at_35) rfl rfl k) ?_
    show Go FrameEnd p e below s 16 128 (Q0 Z p1 p2 h0 n0) (T12.setTop (mkF m 36 #[.val (.int p1), .val (.int p2), .val (.int (3 : Int32)), .val (.ref b11a), .val (.int (8 : Int32)), .val (.int ((p1 <<< ((8 : Int32) &&& 31)) >>> ((8 : Int32) &&& 31))), .unset] [(.ref b11a), (.int (2 : Int32)), (.ref b12), (.ref b12)]))
    obtain ⟨_, _, ⟨T13, L13, k13, n13⟩, -, X13, ⟨Lc13, hQ13, l13, y13, z13⟩, st13⟩ := X12.specialBack hx (y := (⟨"com/example/keylattice/keylattice/Ber$Element", "<init>", "(I[B)V"⟩ : MethodName)) rfl hown (mvT hZ (hw _ (List.mem_of_getElem? (i := 8) rfl))) (mvT hZ (hw _ (List.mem_of_getElem? (i := 9) rfl))) (mvT hZ (hw _ (List.mem_of_getElem? (i := 10) rfl))) (by decide) (backOf (W := 1) (rm2 l Z a0 hw [] b12 (2 : Int32) b11a ((.int (0 : Int32)) : Value) (.null : Value) h12 n0 Z12 A12 F12_tag F12_content g_b12) hZ (hw _ (List.mem_of_getElem? (i := 10) rfl)) (hw _ (List.mem_of_getElem? (i := 7) rfl)) (by decide) (by decide)) (g := (mkF m 36 #[.val (.int p1), .val (.int p2), .val (.int (3 : Int32)), .val (.ref b11a), .val (.int (8 : Int32)), .val (.int ((p1 <<< ((8 : Int32) &&& 31)) >>> ((8 : Int32) &&& 31))), .unset] [(.ref b11a), (.int (2 : Int32)), (.ref b12), (.ref b12)])) rfl (by rw [hml]; rfl) (Steps.refl _) (a := b12) (argsL := [(.int (2 : Int32)), (.ref b11a)]) (rest := [(.ref b12)]) (lenOf pd__I_B_V rfl) rfl (by show 2 * 0 + _ ≤ _; exact Nat.le_of_eq rfl) (hb hby at_36) (fun _ _ => ⟨rfl, e12, (by decide : 2 + 0 ≤ _), (by decide : 5 + 0 ≤ _)⟩)
    dsimp only [Pt.U, Pt.locs, Pt.cells, Pt.slots] at X13 l13 y13 z13 st13 hQ13
    subst l13 y13 z13
    obtain ⟨rfl, N13q, K13_0, xE13_1, xF13_2⟩ := hQ13
    have N13 := Fr.app N11 N13q
    have Z13 : n0 ≤ T13.heap.size := Nat.le_trans Z12 K13_0.1
    refine Go.hop st13 ?_
    show Go FrameEnd p e below s 16 128 (Q0 Z p1 p2 h0 n0) (T13.setTop (mkF m 39 #[.val (.int p1), .val (.int p2), .val (.int (3 : Int32)), .val (.ref b11a), .val (.int (8 : Int32)), .val (.int ((p1 <<< ((8 : Int32) &&& 31)) >>> ((8 : Int32) &&& 31))), .unset] [(.ref b12)]))
    refine Go.step (fun _ k => XS.astore X13.here hx rfl (hb hby at_39) rfl rfl (l' := #[.val (.int p1), .val (.int p2), .val (.int (3 : Int32)), .val (.ref b11a), .val (.int (8 : Int32)), .val (.int ((p1 <<< ((8 : Int32) &&& 31)) >>> ((8 : Int32) &&& 31))), .val (.ref b12)]) rfl k) ?_
    show Go FrameEnd p e below s 16 128 (Q0 Z p1 p2 h0 n0) (T13.setTop (mkF m 41 #[.val (.int p1), .val (.int p2), .val (.int (3 : Int32)), .val (.ref b11a), .val (.int (8 : Int32)), .val (.int ((p1 <<< ((8 : Int32) &&& 31)) >>> ((8 : Int32) &&& 31))), .val (.ref b12)] []))
    refine Go.step (fun _ k => XS.aload X13.here hx rfl (hb hby at_41) rfl rfl k) ?_
    show Go FrameEnd p e below s 16 128 (Q0 Z p1 p2 h0 n0) (T13.setTop (mkF m 43 #[.val (.int p1), .val (.int p2), .val (.int (3 : Int32)), .val (.ref b11a), .val (.int (8 : Int32)), .val (.int ((p1 <<< ((8 : Int32) &&& 31)) >>> ((8 : Int32) &&& 31))), .val (.ref b12)] [(.ref b12)]))
    have f_14 := ((xA11_1.ext E12).keep K13_0 (ninS ne_b11a_b12 nin0))
    obtain ⟨cq15, kq15, q15a, q15b, q15c⟩ := isOf hZ rfl xE13_1
    obtain ⟨_, _, ⟨T15, L15, k15, n15⟩, -, X15, ⟨Lc15, hQ15, l15, y15, z15⟩, st15⟩ := X13.virtualBack hx (y := (⟨"com/example/keylattice/keylattice/Ber$Element", "integer", "()I"⟩ : MethodName)) (z := (⟨"com/example/keylattice/keylattice/Ber$Element", "integer", "()I"⟩ : MethodName)) hown (mvT hZ (hw _ (List.mem_of_getElem? (i := 23) rfl))) (mvT hZ (hw _ (List.mem_of_getElem? (i := 24) rfl))) (notFace_of_selects (args := #[]) (mvT hZ (hw _ (List.mem_of_getElem? (i := 26) rfl)))) (mvT hZ (hw _ (List.mem_of_getElem? (i := 26) rfl))) (mvT hZ (hw _ (List.mem_of_getElem? (i := 25) rfl))) (by decide) (backOf (W := 0) (rm4k3 l Z a0 hw [] b12 b11a p1 T13.heap xF13_2 f_14) hZ (hw _ (List.mem_of_getElem? (i := 27) rfl)) (hw _ (List.mem_of_getElem? (i := 7) rfl)) (by decide) (by decide)) q15a q15c (g := (mkF m 43 #[.val (.int p1), .val (.int p2), .val (.int (3 : Int32)), .val (.ref b11a), .val (.int (8 : Int32)), .val (.int ((p1 <<< ((8 : Int32) &&& 31)) >>> ((8 : Int32) &&& 31))), .val (.ref b12)] [(.ref b12)])) rfl (by rw [hml]; rfl) (Steps.refl _) (argsL := []) (rest := []) (lenOf pd___I rfl) rfl (by show 2 * 0 + _ ≤ _; exact Nat.le_of_eq rfl) (hb hby at_43) (fun _ _ => ⟨rfl, rfl, (by decide : 2 + 0 ≤ _), (by decide : 5 + 0 ≤ _)⟩)
    dsimp only [Pt.U, Pt.locs, Pt.cells, Pt.slots] at X15 l15 y15 z15 st15 hQ15
    subst l15 y15 z15
    obtain ⟨rfl, rfl, e15⟩ := hQ15
    have N15 := Fr.app N13 (Fr.nil n0)
    refine Go.hop st15 ?_
    show Go FrameEnd p e below s 16 128 (Q0 Z p1 p2 h0 n0) (T15.setTop (mkF m 46 #[.val (.int p1), .val (.int p2), .val (.int (3 : Int32)), .val (.ref b11a), .val (.int (8 : Int32)), .val (.int ((p1 <<< ((8 : Int32) &&& 31)) >>> ((8 : Int32) &&& 31))), .val (.ref b12)] [(.int (((((ushI p1 (16 : Int32)).toInt8.toInt32 <<< ((8 : Int32) &&& 31)) ||| ((ushI p1 (8 : Int32)).toInt8.toInt32 &&& (255 : Int32))) <<< ((8 : Int32) &&& 31)) ||| (p1.toInt8.toInt32 &&& (255 : Int32))))]))
    refine Go.step (fun _ k => XS.iload X15.here hx rfl (hb hby at_46) rfl k) ?_
    show Go FrameEnd p e below s 16 128 (Q0 Z p1 p2 h0 n0) (T15.setTop (mkF m 48 #[.val (.int p1), .val (.int p2), .val (.int (3 : Int32)), .val (.ref b11a), .val (.int (8 : Int32)), .val (.int ((p1 <<< ((8 : Int32) &&& 31)) >>> ((8 : Int32) &&& 31))), .val (.ref b12)] [(.int ((p1 <<< ((8 : Int32) &&& 31)) >>> ((8 : Int32) &&& 31))), (.int (((((ushI p1 (16 : Int32)).toInt8.toInt32 <<< ((8 : Int32) &&& 31)) ||| ((ushI p1 (8 : Int32)).toInt8.toInt32 &&& (255 : Int32))) <<< ((8 : Int32) &&& 31)) ||| (p1.toInt8.toInt32 &&& (255 : Int32))))]))
    refine Go.step (fun _ k => XS.icmpNo X15.here hx rfl (hb hby at_48) rfl (teq (own_val3 p1)).2 k) ?_
    show Go FrameEnd p e below s 16 128 (Q0 Z p1 p2 h0 n0) (T15.setTop (mkF m 51 #[.val (.int p1), .val (.int p2), .val (.int (3 : Int32)), .val (.ref b11a), .val (.int (8 : Int32)), .val (.int ((p1 <<< ((8 : Int32) &&& 31)) >>> ((8 : Int32) &&& 31))), .val (.ref b12)] []))
    refine Go.step (fun _ k => XS.iconst X15.here hx rfl (hb hby at_51) k) ?_
    show Go FrameEnd p e below s 16 128 (Q0 Z p1 p2 h0 n0) (T15.setTop (mkF m 52 #[.val (.int p1), .val (.int p2), .val (.int (3 : Int32)), .val (.ref b11a), .val (.int (8 : Int32)), .val (.int ((p1 <<< ((8 : Int32) &&& 31)) >>> ((8 : Int32) &&& 31))), .val (.ref b12)] [(.int (1 : Int32))]))
    refine Go.step (fun _ k => XS.goto X15.here hx rfl (pc0 := 52) (pc' := 56) rfl (hb hby at_52) (by decide) (by decide) k) ?_
    show Go FrameEnd p e below s 16 128 (Q0 Z p1 p2 h0 n0) (T15.setTop (mkF m 56 #[.val (.int p1), .val (.int p2), .val (.int (3 : Int32)), .val (.ref b11a), .val (.int (8 : Int32)), .val (.int ((p1 <<< ((8 : Int32) &&& 31)) >>> ((8 : Int32) &&& 31))), .val (.ref b12)] [(.int (1 : Int32))]))
    refine Go.retN X15 hx (t := .boolean) Bd.returns (by simp) (by decide) (hb hby at_56) (BodyLoose.notSynchronized Bd) e15 (by decide) (by decide) ?_
    exact ⟨rfl, N15⟩
  · skip
    rw [show (p2 &&& (3 : Int32)) + (1 : Int32) = (4 : Int32) from by rw [q]; decide]
    show Go FrameEnd p e below s 16 128 (Q0 Z p1 p2 h0 n0) (s₁.setTop (mkF m 5 #[.val (.int p1), .val (.int p2), .unset, .unset, .unset, .unset, .unset] [(.int (4 : Int32))]))
    refine Go.step (fun _ k => XS.istoreN X0.here hx rfl (hb hby at_5) rfl (l' := #[.val (.int p1), .val (.int p2), .val (.int (4 : Int32)), .unset, .unset, .unset, .unset]) rfl k) ?_
    show Go FrameEnd p e below s 16 128 (Q0 Z p1 p2 h0 n0) (s₁.setTop (mkF m 6 #[.val (.int p1), .val (.int p2), .val (.int (4 : Int32)), .unset, .unset, .unset, .unset] []))
    refine Go.step (fun _ k => XS.iloadN X0.here hx rfl (hb hby at_6) rfl k) ?_
    show Go FrameEnd p e below s 16 128 (Q0 Z p1 p2 h0 n0) (s₁.setTop (mkF m 7 #[.val (.int p1), .val (.int p2), .val (.int (4 : Int32)), .unset, .unset, .unset, .unset] [(.int p1)]))
    refine Go.step (fun _ k => XS.iloadN X0.here hx rfl (hb hby at_7) rfl k) ?_
    show Go FrameEnd p e below s 16 128 (Q0 Z p1 p2 h0 n0) (s₁.setTop (mkF m 8 #[.val (.int p1), .val (.int p2), .val (.int (4 : Int32)), .unset, .unset, .unset, .unset] [(.int (4 : Int32)), (.int p1)]))
    obtain ⟨_, _, ⟨T16, L16, k16, n16⟩, -, X16, ⟨Lc16, hQ16, l16, y16, z16⟩, st16⟩ := Jvm.LawKit.callS X0 hx (y := (⟨"com/example/keylattice/keylattice/ElementIntegerPinLaw", "lastBytes", "(II)[B"⟩ : MethodName)) hown (mvT hZ (hw _ (List.mem_of_getElem? (i := 0) rfl))) (mvT hZ (hw _ (List.mem_of_getElem? (i := 1) rfl))) (mvT hZ (hw _ (List.mem_of_getElem? (i := 2) rfl))) (mvT hZ (hw _ (List.mem_of_getElem? (i := 3) rfl))) (by decide) (backOf (W := 0) (rm3k4 l Z a0 hw [] p1  h0 n0 Z0 ) hZ (hw _ (List.mem_of_getElem? (i := 3) rfl)) (hw _ (List.mem_of_getElem? (i := 2) rfl)) (by decide) (by decide)) (g := (mkF m 8 #[.val (.int p1), .val (.int p2), .val (.int (4 : Int32)), .unset, .unset, .unset, .unset] [(.int (4 : Int32)), (.int p1)])) rfl (by rw [hml]; rfl) (argsL := [(.int p1), (.int (4 : Int32))]) (rest := []) (lenOf pd__II__B rfl) rfl (by show 2 * 0 + _ ≤ _; exact Nat.le_of_eq rfl) (hb hby at_8) (fun _ _ => ⟨rfl, e0, (by decide : 0 + 1 ≤ _), (by decide : 0 + 4 ≤ _)⟩)
    dsimp only [Pt.U, Pt.locs, Pt.cells, Pt.slots] at X16 l16 y16 z16 st16 hQ16
    subst l16 y16 z16
    obtain ⟨b16a, rfl, N16q, szb16a, K16_0, xA16_1⟩ := hQ16
    have N16 := Fr.app N0 N16q
    have g_b16a : n0 ≤ b16a := Nat.le_trans Z0 szb16a
    have Z16 : n0 ≤ T16.heap.size := Nat.le_trans Z0 K16_0.1
    refine Go.step st16 ?_
    show Go FrameEnd p e below s 16 128 (Q0 Z p1 p2 h0 n0) (T16.setTop (mkF m 11 #[.val (.int p1), .val (.int p2), .val (.int (4 : Int32)), .unset, .unset, .unset, .unset] [(.ref b16a)]))
    refine Go.step (fun _ k => XS.astoreN X16.here hx rfl (hb hby at_11) rfl rfl (l' := #[.val (.int p1), .val (.int p2), .val (.int (4 : Int32)), .val (.ref b16a), .unset, .unset, .unset]) rfl k) ?_
    show Go FrameEnd p e below s 16 128 (Q0 Z p1 p2 h0 n0) (T16.setTop (mkF m 12 #[.val (.int p1), .val (.int p2), .val (.int (4 : Int32)), .val (.ref b16a), .unset, .unset, .unset] []))
    refine Go.step (fun _ k => XS.bipush X16.here hx rfl (hb hby at_12) k) ?_
    show Go FrameEnd p e below s 16 128 (Q0 Z p1 p2 h0 n0) (T16.setTop (mkF m 14 #[.val (.int p1), .val (.int p2), .val (.int (4 : Int32)), .val (.ref b16a), .unset, .unset, .unset] [(.int (32 : Int32))]))
    refine Go.step (fun _ k => XS.bipush X16.here hx rfl (hb hby at_14) k) ?_
    show Go FrameEnd p e below s 16 128 (Q0 Z p1 p2 h0 n0) (T16.setTop (mkF m 16 #[.val (.int p1), .val (.int p2), .val (.int (4 : Int32)), .val (.ref b16a), .unset, .unset, .unset] [(.int (8 : Int32)), (.int (32 : Int32))]))
    refine Go.step (fun _ k => XS.iloadN X16.here hx rfl (hb hby at_16) rfl k) ?_
    show Go FrameEnd p e below s 16 128 (Q0 Z p1 p2 h0 n0) (T16.setTop (mkF m 17 #[.val (.int p1), .val (.int p2), .val (.int (4 : Int32)), .val (.ref b16a), .unset, .unset, .unset] [(.int (4 : Int32)), (.int (8 : Int32)), (.int (32 : Int32))]))
    refine Go.step (fun _ k => XS.imul X16.here hx rfl (hb hby at_17) rfl k) ?_
    show Go FrameEnd p e below s 16 128 (Q0 Z p1 p2 h0 n0) (T16.setTop (mkF m 18 #[.val (.int p1), .val (.int p2), .val (.int (4 : Int32)), .val (.ref b16a), .unset, .unset, .unset] [(.int (32 : Int32)), (.int (32 : Int32))]))
    refine Go.step (fun _ k => XS.isub X16.here hx rfl (hb hby at_18) rfl k) ?_
    show Go FrameEnd p e below s 16 128 (Q0 Z p1 p2 h0 n0) (T16.setTop (mkF m 19 #[.val (.int p1), .val (.int p2), .val (.int (4 : Int32)), .val (.ref b16a), .unset, .unset, .unset] [(.int (0 : Int32))]))
    refine Go.step (fun _ k => XS.istore X16.here hx rfl (hb hby at_19) rfl (l' := #[.val (.int p1), .val (.int p2), .val (.int (4 : Int32)), .val (.ref b16a), .val (.int (0 : Int32)), .unset, .unset]) rfl k) ?_
    show Go FrameEnd p e below s 16 128 (Q0 Z p1 p2 h0 n0) (T16.setTop (mkF m 21 #[.val (.int p1), .val (.int p2), .val (.int (4 : Int32)), .val (.ref b16a), .val (.int (0 : Int32)), .unset, .unset] []))
    refine Go.step (fun _ k => XS.iloadN X16.here hx rfl (hb hby at_21) rfl k) ?_
    show Go FrameEnd p e below s 16 128 (Q0 Z p1 p2 h0 n0) (T16.setTop (mkF m 22 #[.val (.int p1), .val (.int p2), .val (.int (4 : Int32)), .val (.ref b16a), .val (.int (0 : Int32)), .unset, .unset] [(.int p1)]))
    refine Go.step (fun _ k => XS.iload X16.here hx rfl (hb hby at_22) rfl k) ?_
    show Go FrameEnd p e below s 16 128 (Q0 Z p1 p2 h0 n0) (T16.setTop (mkF m 24 #[.val (.int p1), .val (.int p2), .val (.int (4 : Int32)), .val (.ref b16a), .val (.int (0 : Int32)), .unset, .unset] [(.int (0 : Int32)), (.int p1)]))
    refine Go.step (fun _ k => XS.ishl X16.here hx rfl (hb hby at_24) rfl k) ?_
    show Go FrameEnd p e below s 16 128 (Q0 Z p1 p2 h0 n0) (T16.setTop (mkF m 25 #[.val (.int p1), .val (.int p2), .val (.int (4 : Int32)), .val (.ref b16a), .val (.int (0 : Int32)), .unset, .unset] [(.int (p1 <<< ((0 : Int32) &&& 31)))]))
    refine Go.step (fun _ k => XS.iload X16.here hx rfl (hb hby at_25) rfl k) ?_
    show Go FrameEnd p e below s 16 128 (Q0 Z p1 p2 h0 n0) (T16.setTop (mkF m 27 #[.val (.int p1), .val (.int p2), .val (.int (4 : Int32)), .val (.ref b16a), .val (.int (0 : Int32)), .unset, .unset] [(.int (0 : Int32)), (.int (p1 <<< ((0 : Int32) &&& 31)))]))
    refine Go.step (fun _ k => XS.ishr X16.here hx rfl (hb hby at_27) rfl k) ?_
    show Go FrameEnd p e below s 16 128 (Q0 Z p1 p2 h0 n0) (T16.setTop (mkF m 28 #[.val (.int p1), .val (.int p2), .val (.int (4 : Int32)), .val (.ref b16a), .val (.int (0 : Int32)), .unset, .unset] [(.int ((p1 <<< ((0 : Int32) &&& 31)) >>> ((0 : Int32) &&& 31)))]))
    refine Go.step (fun _ k => XS.istore X16.here hx rfl (hb hby at_28) rfl (l' := #[.val (.int p1), .val (.int p2), .val (.int (4 : Int32)), .val (.ref b16a), .val (.int (0 : Int32)), .val (.int ((p1 <<< ((0 : Int32) &&& 31)) >>> ((0 : Int32) &&& 31))), .unset]) rfl k) ?_
    show Go FrameEnd p e below s 16 128 (Q0 Z p1 p2 h0 n0) (T16.setTop (mkF m 30 #[.val (.int p1), .val (.int p2), .val (.int (4 : Int32)), .val (.ref b16a), .val (.int (0 : Int32)), .val (.int ((p1 <<< ((0 : Int32) &&& 31)) >>> ((0 : Int32) &&& 31))), .unset] []))
    obtain ⟨T17, h17, X17, e17, E17, A17, D17, -, st17⟩ := newO X16 hx hZ hown (hw _ (List.mem_of_getElem? (i := 5) rfl)) (hw _ (List.mem_of_getElem? (i := 6) rfl)) (hw _ (List.mem_of_getElem? (i := 7) rfl)) rfl (g := (mkF m 30 #[.val (.int p1), .val (.int p2), .val (.int (4 : Int32)), .val (.ref b16a), .val (.int (0 : Int32)), .val (.int ((p1 <<< ((0 : Int32) &&& 31)) >>> ((0 : Int32) &&& 31))), .unset] [])) rfl (hb hby at_30) (by decide) (by decide)
    refine Go.step st17 ?_
    obtain ⟨b17, g17⟩ : ∃ z, z = T16.heap.size := ⟨_, rfl⟩
    rw [← g17] at A17 D17 ⊢
    have ne_b16a_b17 : b16a ≠ b17 := Nat.ne_of_lt (Nat.lt_of_lt_of_le xA16_1.lt (Nat.le_of_eq g17.symm))
    have g_b17 : n0 ≤ b17 := Nat.le_trans Z16 (Nat.le_of_eq g17.symm)
    have Z17 : n0 ≤ h17.size := Nat.le_trans Z16 E17.1
    have F17_tag : Fld Z h17 b17 "com/example/keylattice/keylattice/Ber$Element" "tag" "I" (.int (0 : Int32)) := D17 (Or.inr (hw _ (List.mem_of_getElem? (i := 20) rfl))) (ty := .int) (by decide)
    have F17_content : Fld Z h17 b17 "com/example/keylattice/keylattice/Ber$Element" "content" "[B" .null := D17 (Or.inr (hw _ (List.mem_of_getElem? (i := 22) rfl))) (ty := (.array .byte)) (by decide)
    show Go FrameEnd p e below s 16 128 (Q0 Z p1 p2 h0 n0) (T17.setTop (mkF m 33 #[.val (.int p1), .val (.int p2), .val (.int (4 : Int32)), .val (.ref b16a), .val (.int (0 : Int32)), .val (.int ((p1 <<< ((0 : Int32) &&& 31)) >>> ((0 : Int32) &&& 31))), .unset] [(.ref b17)]))
    refine Go.step (fun _ k => XS.dup X17.here hx rfl (hb hby at_33) rfl rfl k) ?_
    show Go FrameEnd p e below s 16 128 (Q0 Z p1 p2 h0 n0) (T17.setTop (mkF m 34 #[.val (.int p1), .val (.int p2), .val (.int (4 : Int32)), .val (.ref b16a), .val (.int (0 : Int32)), .val (.int ((p1 <<< ((0 : Int32) &&& 31)) >>> ((0 : Int32) &&& 31))), .unset] [(.ref b17), (.ref b17)]))
    refine Go.step (fun _ k => XS.iconst X17.here hx rfl (hb hby at_34) k) ?_
    show Go FrameEnd p e below s 16 128 (Q0 Z p1 p2 h0 n0) (T17.setTop (mkF m 35 #[.val (.int p1), .val (.int p2), .val (.int (4 : Int32)), .val (.ref b16a), .val (.int (0 : Int32)), .val (.int ((p1 <<< ((0 : Int32) &&& 31)) >>> ((0 : Int32) &&& 31))), .unset] [(.int (2 : Int32)), (.ref b17), (.ref b17)]))
    refine Go.step (fun _ k => XS.aloadN X17.here hx rfl (hb hby at_35) rfl rfl k) ?_
    show Go FrameEnd p e below s 16 128 (Q0 Z p1 p2 h0 n0) (T17.setTop (mkF m 36 #[.val (.int p1), .val (.int p2), .val (.int (4 : Int32)), .val (.ref b16a), .val (.int (0 : Int32)), .val (.int ((p1 <<< ((0 : Int32) &&& 31)) >>> ((0 : Int32) &&& 31))), .unset] [(.ref b16a), (.int (2 : Int32)), (.ref b17), (.ref b17)]))
    obtain ⟨_, _, ⟨T18, L18, k18, n18⟩, -, X18, ⟨Lc18, hQ18, l18, y18, z18⟩, st18⟩ := X17.specialBack hx (y := (⟨"com/example/keylattice/keylattice/Ber$Element", "<init>", "(I[B)V"⟩ : MethodName)) rfl hown (mvT hZ (hw _ (List.mem_of_getElem? (i := 8) rfl))) (mvT hZ (hw _ (List.mem_of_getElem? (i := 9) rfl))) (mvT hZ (hw _ (List.mem_of_getElem? (i := 10) rfl))) (by decide) (backOf (W := 1) (rm2 l Z a0 hw [] b17 (2 : Int32) b16a ((.int (0 : Int32)) : Value) (.null : Value) h17 n0 Z17 A17 F17_tag F17_content g_b17) hZ (hw _ (List.mem_of_getElem? (i := 10) rfl)) (hw _ (List.mem_of_getElem? (i := 7) rfl)) (by decide) (by decide)) (g := (mkF m 36 #[.val (.int p1), .val (.int p2), .val (.int (4 : Int32)), .val (.ref b16a), .val (.int (0 : Int32)), .val (.int ((p1 <<< ((0 : Int32) &&& 31)) >>> ((0 : Int32) &&& 31))), .unset] [(.ref b16a), (.int (2 : Int32)), (.ref b17), (.ref b17)])) rfl (by rw [hml]; rfl) (Steps.refl _) (a := b17) (argsL := [(.int (2 : Int32)), (.ref b16a)]) (rest := [(.ref b17)]) (lenOf pd__I_B_V rfl) rfl (by show 2 * 0 + _ ≤ _; exact Nat.le_of_eq rfl) (hb hby at_36) (fun _ _ => ⟨rfl, e17, (by decide : 2 + 0 ≤ _), (by decide : 6 + 0 ≤ _)⟩)
    dsimp only [Pt.U, Pt.locs, Pt.cells, Pt.slots] at X18 l18 y18 z18 st18 hQ18
    subst l18 y18 z18
    obtain ⟨rfl, N18q, K18_0, xE18_1, xF18_2⟩ := hQ18
    have N18 := Fr.app N16 N18q
    have Z18 : n0 ≤ T18.heap.size := Nat.le_trans Z17 K18_0.1
    refine Go.hop st18 ?_
    show Go FrameEnd p e below s 16 128 (Q0 Z p1 p2 h0 n0) (T18.setTop (mkF m 39 #[.val (.int p1), .val (.int p2), .val (.int (4 : Int32)), .val (.ref b16a), .val (.int (0 : Int32)), .val (.int ((p1 <<< ((0 : Int32) &&& 31)) >>> ((0 : Int32) &&& 31))), .unset] [(.ref b17)]))
    refine Go.step (fun _ k => XS.astore X18.here hx rfl (hb hby at_39) rfl rfl (l' := #[.val (.int p1), .val (.int p2), .val (.int (4 : Int32)), .val (.ref b16a), .val (.int (0 : Int32)), .val (.int ((p1 <<< ((0 : Int32) &&& 31)) >>> ((0 : Int32) &&& 31))), .val (.ref b17)]) rfl k) ?_
    show Go FrameEnd p e below s 16 128 (Q0 Z p1 p2 h0 n0) (T18.setTop (mkF m 41 #[.val (.int p1), .val (.int p2), .val (.int (4 : Int32)), .val (.ref b16a), .val (.int (0 : Int32)), .val (.int ((p1 <<< ((0 : Int32) &&& 31)) >>> ((0 : Int32) &&& 31))), .val (.ref b17)] []))
    refine Go.step (fun _ k => XS.aload X18.here hx rfl (hb hby at_41) rfl rfl k) ?_
    show Go FrameEnd p e below s 16 128 (Q0 Z p1 p2 h0 n0) (T18.setTop (mkF m 43 #[.val (.int p1), .val (.int p2), .val (.int (4 : Int32)), .val (.ref b16a), .val (.int (0 : Int32)), .val (.int ((p1 <<< ((0 : Int32) &&& 31)) >>> ((0 : Int32) &&& 31))), .val (.ref b17)] [(.ref b17)]))
    have f_19 := ((xA16_1.ext E17).keep K18_0 (ninS ne_b16a_b17 nin0))
    obtain ⟨cq20, kq20, q20a, q20b, q20c⟩ := isOf hZ rfl xE18_1
    obtain ⟨_, _, ⟨T20, L20, k20, n20⟩, -, X20, ⟨Lc20, hQ20, l20, y20, z20⟩, st20⟩ := X18.virtualBack hx (y := (⟨"com/example/keylattice/keylattice/Ber$Element", "integer", "()I"⟩ : MethodName)) (z := (⟨"com/example/keylattice/keylattice/Ber$Element", "integer", "()I"⟩ : MethodName)) hown (mvT hZ (hw _ (List.mem_of_getElem? (i := 23) rfl))) (mvT hZ (hw _ (List.mem_of_getElem? (i := 24) rfl))) (notFace_of_selects (args := #[]) (mvT hZ (hw _ (List.mem_of_getElem? (i := 26) rfl)))) (mvT hZ (hw _ (List.mem_of_getElem? (i := 26) rfl))) (mvT hZ (hw _ (List.mem_of_getElem? (i := 25) rfl))) (by decide) (backOf (W := 0) (rm4k4 l Z a0 hw [] b17 b16a p1 T18.heap xF18_2 f_19) hZ (hw _ (List.mem_of_getElem? (i := 27) rfl)) (hw _ (List.mem_of_getElem? (i := 7) rfl)) (by decide) (by decide)) q20a q20c (g := (mkF m 43 #[.val (.int p1), .val (.int p2), .val (.int (4 : Int32)), .val (.ref b16a), .val (.int (0 : Int32)), .val (.int ((p1 <<< ((0 : Int32) &&& 31)) >>> ((0 : Int32) &&& 31))), .val (.ref b17)] [(.ref b17)])) rfl (by rw [hml]; rfl) (Steps.refl _) (argsL := []) (rest := []) (lenOf pd___I rfl) rfl (by show 2 * 0 + _ ≤ _; exact Nat.le_of_eq rfl) (hb hby at_43) (fun _ _ => ⟨rfl, rfl, (by decide : 2 + 0 ≤ _), (by decide : 6 + 0 ≤ _)⟩)
    dsimp only [Pt.U, Pt.locs, Pt.cells, Pt.slots] at X20 l20 y20 z20 st20 hQ20
    subst l20 y20 z20
    obtain ⟨rfl, rfl, e20⟩ := hQ20
    have N20 := Fr.app N18 (Fr.nil n0)
    refine Go.hop st20 ?_
    show Go FrameEnd p e below s 16 128 (Q0 Z p1 p2 h0 n0) (T20.setTop (mkF m 46 #[.val (.int p1), .val (.int p2), .val (.int (4 : Int32)), .val (.ref b16a), .val (.int (0 : Int32)), .val (.int ((p1 <<< ((0 : Int32) &&& 31)) >>> ((0 : Int32) &&& 31))), .val (.ref b17)] [(.int (((((((ushI p1 (24 : Int32)).toInt8.toInt32 <<< ((8 : Int32) &&& 31)) ||| ((ushI p1 (16 : Int32)).toInt8.toInt32 &&& (255 : Int32))) <<< ((8 : Int32) &&& 31)) ||| ((ushI p1 (8 : Int32)).toInt8.toInt32 &&& (255 : Int32))) <<< ((8 : Int32) &&& 31)) ||| (p1.toInt8.toInt32 &&& (255 : Int32))))]))
    refine Go.step (fun _ k => XS.iload X20.here hx rfl (hb hby at_46) rfl k) ?_
    show Go FrameEnd p e below s 16 128 (Q0 Z p1 p2 h0 n0) (T20.setTop (mkF m 48 #[.val (.int p1), .val (.int p2), .val (.int (4 : Int32)), .val (.ref b16a), .val (.int (0 : Int32)), .val (.int ((p1 <<< ((0 : Int32) &&& 31)) >>> ((0 : Int32) &&& 31))), .val (.ref b17)] [(.int ((p1 <<< ((0 : Int32) &&& 31)) >>> ((0 : Int32) &&& 31))), (.int (((((((ushI p1 (24 : Int32)).toInt8.toInt32 <<< ((8 : Int32) &&& 31)) ||| ((ushI p1 (16 : Int32)).toInt8.toInt32 &&& (255 : Int32))) <<< ((8 : Int32) &&& 31)) ||| ((ushI p1 (8 : Int32)).toInt8.toInt32 &&& (255 : Int32))) <<< ((8 : Int32) &&& 31)) ||| (p1.toInt8.toInt32 &&& (255 : Int32))))]))
    refine Go.step (fun _ k => XS.icmpNo X20.here hx rfl (hb hby at_48) rfl (teq (own_val4 p1)).2 k) ?_
    show Go FrameEnd p e below s 16 128 (Q0 Z p1 p2 h0 n0) (T20.setTop (mkF m 51 #[.val (.int p1), .val (.int p2), .val (.int (4 : Int32)), .val (.ref b16a), .val (.int (0 : Int32)), .val (.int ((p1 <<< ((0 : Int32) &&& 31)) >>> ((0 : Int32) &&& 31))), .val (.ref b17)] []))
    refine Go.step (fun _ k => XS.iconst X20.here hx rfl (hb hby at_51) k) ?_
    show Go FrameEnd p e below s 16 128 (Q0 Z p1 p2 h0 n0) (T20.setTop (mkF m 52 #[.val (.int p1), .val (.int p2), .val (.int (4 : Int32)), .val (.ref b16a), .val (.int (0 : Int32)), .val (.int ((p1 <<< ((0 : Int32) &&& 31)) >>> ((0 : Int32) &&& 31))), .val (.ref b17)] [(.int (1 : Int32))]))
    refine Go.step (fun _ k => XS.goto X20.here hx rfl (pc0 := 52) (pc' := 56) rfl (hb hby at_52) (by decide) (by decide) k) ?_
    show Go FrameEnd p e below s 16 128 (Q0 Z p1 p2 h0 n0) (T20.setTop (mkF m 56 #[.val (.int p1), .val (.int p2), .val (.int (4 : Int32)), .val (.ref b16a), .val (.int (0 : Int32)), .val (.int ((p1 <<< ((0 : Int32) &&& 31)) >>> ((0 : Int32) &&& 31))), .val (.ref b17)] [(.int (1 : Int32))]))
    refine Go.retN X20 hx (t := .boolean) Bd.returns (by simp) (by decide) (hb hby at_56) (BodyLoose.notSynchronized Bd) e20 (by decide) (by decide) ?_
    exact ⟨rfl, N20⟩
set_option maxRecDepth 65536 in
set_option maxHeartbeats 40000000 in
theorem comes_1 {Post : Tables → Env → Array Value → State → Outcome → State → Prop} (hpost : ∀ tb e args s v u, (limb_1_1.after args s (.returned v) u = true ∧ limb_1_2.after args s (.returned v) u = true ∧ True) → FrameEnd s (.returned v) u (Jvm.fieldLocs frame_1_writes args s ++ Jvm.arrayLocs frame_1_arrays args s ++ Jvm.staticLocs frame_1_statics s) 16 128 → Post tb e args s (.returned v) u) :
    ArmFor flags0 classFile x code maxLocals ret World_1 tables_1 room_1 Calls_1 rest_1 Pre_1 Post := by
  intro l hfl _ _ p e ha hc hk s m args below hf hA hF happ hP
  obtain ⟨hcalls, hrest, hpre⟩ := hP
  obtain ⟨-, -, -, hnamed, -, -, -, hat⟩ := (Spec.applies_iff hf).mp happ
  obtain ⟨hg, hn⟩ := and_e (Cond.before_iff.mp (show (Jvm.Cond.and given_1 narrow_1).before args s = true from hpre))
  obtain ⟨h1, h2⟩ := and_e hg
  obtain ⟨w0, w1, rfl⟩ : ∃ w0 w1 : Value, args = #[w0, w1] := by
    have hs : args.size = 2 := by simpa [Cond.value, given_1] using h1
    obtain ⟨L⟩ := args
    match L, hs with
    | [w0, w1], _ => exact ⟨w0, w1, rfl⟩
  have hw := fun d (hd : d ∈ tables_1) => atoms_spec (ws := Jvm.Cond.code x code maxLocals ret :: tables_1) hat d (List.mem_cons_of_mem _ hd)
  have hfit : Fit s := fun {y c} hc i hi => by
    obtain ⟨ha, rfl⟩ := Array.getElem?_eq_some_iff.mp hc
    have q := List.all_eq_true.mp ((Array.all_eq_true_iff_forall_mem.mp hF) _ (Array.getElem_mem ha)) i (List.mem_range.mpr hi)
    simpa [Array.getElem?_eq_getElem hi] using q
  obtain ⟨c0, r0⟩ := and_e h2
  obtain ⟨i0, q0⟩ := is_v c0
  obtain rfl : w0 = (.int i0) := Option.some.inj q0
  obtain ⟨i1, q1⟩ := is_v r0
  obtain rfl : w1 = (.int i1) := Option.some.inj q1
  obtain ⟨n, o, h1, h2, h3, _, L, rfl, ⟨rfl, N⟩, hq⟩ := rm0 l s _ hw tables_1 i0 i1  s.heap s.heap.size (Nat.le_refl _)  p e ha hc hk s m _ below hf ((Spec.applies_iff_loose hf).mp happ).1 ⟨rfl, State.Warmed39.refl s, rfl⟩ trivial
  refine ⟨n, _, h1, h2, h3, hpost _ _ _ _ _ _ ⟨Cond.after_iff.mpr rfl, Cond.after_iff.mpr (eq_i res_at (Term.int_eval (1)) rfl), trivial⟩ ⟨hq.1, hq.2.1, (hq.2.2.sift fun y hy => Or.inr (N y hy)).mono (by decide) (by decide)⟩⟩
theorem main_1_1 : Claimed_1_1 := comes_1 fun _ _ _ _ _ _ h hF => ⟨h.1, hF⟩
theorem main_1_2 : Claimed_1_2 := comes_1 fun _ _ _ _ _ _ h hF => ⟨h.2.1, hF⟩
end Jvm.Pilot.@@N@@
namespace Jvm.Pilot.@@N@@
open Jvm Jvm.ClassFile Sem Op Lib Jvm.Free Jvm.Stand Jvm.Pilot.@@N@@.Jvm.D
/-! MADE BY PROGRAM (witnessworld.py) out of the Statement's table words and the real class files: 10 classes; the members and pool entries that the words name. The judged class is class 1, her method 2. -/
namespace start1
open Jvm.ClassFile
def u (s : String) : CpInfo := .utf8 (stringToUtf16 s)
/-- a pool by its gaps: so many unusable entries, then the entry; so many at the end -/
def gap : Nat → List CpInfo → List CpInfo
  | 0, r => r
  | n + 1, r => .unusable :: gap n r
def poolList (es : List (Nat × CpInfo)) (last : Nat) : List CpInfo := es.foldr (fun e r => gap e.1 (e.2 :: r)) (gap last [])
def pool (es : List (Nat × CpInfo)) (last : Nat) : Array CpInfo := ⟨poolList es last⟩
def fileOf (pool : Array CpInfo) (this : Nat) (attrs : Array Attribute := #[]) (ms : Array MethodInfo := #[]) (fl : Nat := 33) (sup : Nat := 0) (ifs : Array Nat := #[]) (fds : Array FieldInfo := #[]) : ClassFile where
  minorVersion := 0
  majorVersion := 65
  constantPool := pool
  accessFlags := fl
  thisClass := this
  superClass := sup
  interfaces := ifs
  fields := fds
  methods := ms
  attributes := attrs
def plain (name : String) (sup : Option ClassId) : Class where
  name := name
  kind := .ordinary
  loader := none
  accessFlags := 33
  super := sup
  interfaces := #[]
  cf := none
  fields := #[]
  methods := #[]
  instanceTypes := #[]
  staticTypes := #[]
  resolved := #[]
  callSites := []
  init := .initialized
  statics := none
  mirror := none

def pool0 : Array CpInfo := pool [(5, u "<init>"), (0, u "()V"), (1, .class_ 10), (1, u "java/lang/Object")] 113

def k0c0 : Code := { maxStack := 0, maxLocals := 1, code := object_method_1_code, exceptionTable := #[], attributes := #[] }
def k0m0 : Method := { name := "<init>", desc := "()V", sig := { parameters := [], returnType := none }, accessFlags := 1, code := some k0c0 }
/-- java/lang/Object -/
def k0 : Class := { plain "java/lang/Object" none with
  accessFlags := 33
  interfaces := #[]
  cf := some (fileOf pool0 8 #[] #[{ accessFlags := 1, nameIndex := 5, descriptorIndex := 6, attributes := #[] }] 33 0 #[] #[])
  fields := #[]
  methods := #[k0m0]
  instanceTypes := #[]
  staticTypes := #[]
  resolved := Array.replicate 124 none
  statics := none }

def pool1 : Array CpInfo := pool [(2, .class_ 4), (1, u "java/lang/Object"), (0, u "<init>"), (0, u "()V"), (0, .methodref 8 9), (0, .class_ 10), (0, .nameAndType 11 12), (0, u "com/example/keylattice/keylattice/ElementIntegerPinLaw"), (0, u "lastBytes"), (0, u "(II)[B"), (0, .class_ 14), (0, u "com/example/keylattice/keylattice/Ber$Element"), (2, .methodref 13 18), (0, .nameAndType 5 19), (0, u "(I[B)V"), (0, .methodref 13 21), (0, .nameAndType 22 23), (0, u "integer"), (0, u "()I"), (3, u "law"), (0, u "(II)Z")] 9

def k1m0 : Method := { name := "<init>", desc := "()V", sig := { parameters := [], returnType := none }, accessFlags := 2, code := none }
def k1c1 : Code := { maxStack := 5, maxLocals := 2, code := method_2_code, exceptionTable := #[], attributes := #[] }
def k1m1 : Method := { name := "lastBytes", desc := "(II)[B", sig := { parameters := [.int, .int], returnType := some (.array .byte) }, accessFlags := 10, code := some k1c1 }
def k1c2 : Code := { maxStack := 4, maxLocals := 7, code := code, exceptionTable := #[], attributes := #[] }
def k1m2 : Method := { name := "law", desc := "(II)Z", sig := { parameters := [.int, .int], returnType := some .boolean }, accessFlags := 9, code := some k1c2 }
/-- com/example/keylattice/keylattice/ElementIntegerPinLaw -/
def k1 : Class := { plain "com/example/keylattice/keylattice/ElementIntegerPinLaw" (some 0) with
  accessFlags := 49
  interfaces := #[]
  cf := some (fileOf pool1 8 #[] #[{ accessFlags := 2, nameIndex := 5, descriptorIndex := 6, attributes := #[] }, { accessFlags := 10, nameIndex := 11, descriptorIndex := 12, attributes := #[] }, { accessFlags := 9, nameIndex := 27, descriptorIndex := 28, attributes := #[] }] 49 2 #[] #[])
  fields := #[]
  methods := #[k1m0, k1m1, k1m2]
  instanceTypes := #[]
  staticTypes := #[]
  resolved := Array.replicate 38 none
  statics := none }

def pool2 : Array CpInfo := pool [(1, .methodref 2 3), (0, .class_ 4), (0, .nameAndType 5 6), (0, u "java/lang/Object"), (0, u "<init>"), (0, u "()V"), (0, .class_ 8), (0, u "java/lang/Record")] 13

def k2c0 : Code := { maxStack := 1, maxLocals := 1, code := jdk_30_method_1_code, exceptionTable := #[], attributes := #[] }
def k2m0 : Method := { name := "<init>", desc := "()V", sig := { parameters := [], returnType := none }, accessFlags := 4, code := some k2c0 }
/-- java/lang/Record -/
def k2 : Class := { plain "java/lang/Record" (some 0) with
  accessFlags := 1057
  interfaces := #[]
  cf := some (fileOf pool2 7 #[] #[{ accessFlags := 4, nameIndex := 5, descriptorIndex := 6, attributes := #[] }] 1057 2 #[] #[])
  fields := #[]
  methods := #[k2m0]
  instanceTypes := #[]
  staticTypes := #[]
  resolved := Array.replicate 22 none
  statics := none }

def pool3 : Array CpInfo := pool [(1, .methodref 2 3), (0, .class_ 4), (0, .nameAndType 5 6), (0, u "java/lang/Record"), (0, u "<init>"), (0, u "()V"), (0, .fieldref 8 9), (0, .class_ 10), (0, .nameAndType 11 12), (0, u "com/example/keylattice/keylattice/Ber$Element"), (0, u "tag"), (0, u "I"), (0, .fieldref 8 14), (0, .nameAndType 15 16), (0, u "content"), (0, u "[B"), (11, u "()I"), (1, .class_ 32), (1, u "com/example/keylattice/keylattice/Ber"), (44, u "(I[B)V"), (9, u "integer")] 34

def k3c0 : Code := { maxStack := 2, maxLocals := 3, code := prog_5_method_1_code, exceptionTable := #[], attributes := #[] }
def k3m0 : Method := { name := "<init>", desc := "(I[B)V", sig := { parameters := [.int, (.array .byte)], returnType := none }, accessFlags := 0, code := some k3c0 }
def k3c1 : Code := { maxStack := 3, maxLocals := 3, code := prog_5_method_3_code, exceptionTable := #[], attributes := #[] }
def k3m1 : Method := { name := "integer", desc := "()I", sig := { parameters := [], returnType := some .int }, accessFlags := 0, code := some k3c1 }
/-- com/example/keylattice/keylattice/Ber$Element -/
def k3 : Class := { plain "com/example/keylattice/keylattice/Ber$Element" (some 2) with
  accessFlags := 48
  interfaces := #[]
  cf := some (fileOf pool3 8 #[.nestHost 30] #[{ accessFlags := 0, nameIndex := 5, descriptorIndex := 77, attributes := #[] }, { accessFlags := 0, nameIndex := 87, descriptorIndex := 28, attributes := #[] }] 48 2 #[] #[{ accessFlags := 18, nameIndex := 11, descriptorIndex := 12, attributes := #[] }, { accessFlags := 18, nameIndex := 15, descriptorIndex := 16, attributes := #[] }])
  fields := #[{ name := "tag", type := .int, accessFlags := 18, slot := 0, constantValue := 0 }, { name := "content", type := (.array .byte), accessFlags := 18, slot := 1, constantValue := 0 }]
  methods := #[k3m0, k3m1]
  instanceTypes := #[.int, (.array .byte)]
  staticTypes := #[]
  resolved := Array.replicate 122 none
  statics := none }

def pool4 : Array CpInfo := pool [(1, u "java/lang/Cloneable"), (0, .class_ 1), (0, u "java/lang/Object"), (0, .class_ 3)] 3

/-- java/lang/Cloneable -/
def k4 : Class := { plain "java/lang/Cloneable" (some 0) with
  accessFlags := 1537
  interfaces := #[]
  cf := some (fileOf pool4 2 #[] #[] 1537 4 #[] #[])
  fields := #[]
  methods := #[]
  instanceTypes := #[]
  staticTypes := #[]
  resolved := Array.replicate 8 none
  statics := none }

def pool5 : Array CpInfo := pool [(1, u "java/io/Serializable"), (0, .class_ 1), (0, u "java/lang/Object"), (0, .class_ 3)] 3

/-- java/io/Serializable -/
def k5 : Class := { plain "java/io/Serializable" (some 0) with
  accessFlags := 1537
  interfaces := #[]
  cf := some (fileOf pool5 2 #[] #[] 1537 4 #[] #[])
  fields := #[]
  methods := #[]
  instanceTypes := #[]
  staticTypes := #[]
  resolved := Array.replicate 8 none
  statics := none }

/-- the primitive byte -/
def k6 : Class := { plain "byte" none with kind := .primitive 'B', accessFlags := 0x411 }
/-- [B -/
def k7 : Class := { plain "[B" (some 0) with kind := .array 6 .byte, interfaces := #[4, 5], accessFlags := 1041 }

/-- the primitive int -/
def k8 : Class := { plain "int" none with kind := .primitive 'I', accessFlags := 0x411 }
/-- [I -/
def k9 : Class := { plain "[I" (some 0) with kind := .array 8 .int, interfaces := #[4, 5], accessFlags := 1041 }

def heap : Heap := #[]
def classes : Array Class := #[k0, k1, k2, k3, k4, k5, k6, k7, k8, k9]
def interned : List (Array UInt16 × Addr) := []
def slotsUsed : Nat := 0
def theMethod : MethodId := ⟨1, 2⟩
def args0 : Array Value := #[.int 5, .int 6]
def aboutOver (below : List Frame) : State where
  vm := { classes := classes, interned := interned.toArray }
  heap := heap
  slotsUsed := slotsUsed
  threads := #[{ frames := .invoking theMethod args0 :: below }]
def below0 : List Frame := [.native { method := ⟨0, 0⟩, args := #[] }]
def about1 : State := aboutOver below0
def p0 : Program := .bare "" "" ""
def e0 : Env := launch0.env 0 0 0
theorem w_frames : about1.frames = Frame.invoking theMethod args0 :: below0 := rfl
set_option maxRecDepth 65536 in
theorem w_args : argsFit about1.vm theMethod args0 = true := by decide +kernel
set_option maxRecDepth 65536 in
theorem w_heap : heapFits about1 = true := by decide +kernel
set_option maxRecDepth 65536 in
theorem w_runnable : about1.curStatus? = some .runnable := by decide +kernel
set_option maxRecDepth 65536 in
theorem w_alone : about1.alone = true := by decide +kernel
set_option maxRecDepth 65536 in
theorem w_named : about1.methodNamed? x = some theMethod := by decide +kernel
set_option maxRecDepth 65536 in
theorem w_hears : about1.hears theMethod below0 = true := by decide +kernel
set_option maxRecDepth 65536 in
theorem w_ripe : about1.ripe theMethod args0 below0 = true := by decide +kernel
theorem w_running : about1.status = .running := rfl
set_option maxRecDepth 65536 in
theorem w_room : about1.hasRoom e0.platform room_1 = true :=
  launch0.hasRoom_least _ room_1 (by decide +kernel) (by decide +kernel) (by decide +kernel) (by decide +kernel) (by decide +kernel) (by decide +kernel)
theorem allAtoms_all (ts : List Jvm.Cond) (a : Array Jvm.Value) (st : Jvm.State) : (allAtoms ts).before a st = ts.all (fun c => c.before a st) := by
  induction ts with
  | nil => rfl
  | cons c t ih =>
    show (Jvm.Cond.and c (allAtoms t)).before a st = _
    rw [Jvm.Cond.before_and, ih, List.all_cons]
def words1 : List Jvm.Cond := Jvm.Cond.code x code maxLocals ret :: tables_1
/-- a 'code' word, met by the world's own term for the bytes: nothing is compared byte by byte -/
theorem code_word {y : MethodName} {bytes : ByteArray} {mx : Nat} {rt : Option FieldType} {a : Array Value} {s : State} {m : MethodId} {meth : Method} {c : Code} (h1 : s.methodNamed? y = some m) (h2 : s.vm.method? m = some meth) (h3 : meth.code = some c) (h4 : c.code = bytes)
    (h5 : (c.maxLocals == mx && c.exceptionTable.isEmpty && decide (c.maxStack ≤ mostOperands) && decide (meth.sig.returnType = rt) && !meth.locks && decide (parseMethodDescriptor y.desc = some meth.sig)) = true) : (Jvm.Cond.code y bytes mx rt).before a s = true := by
  simp only [Bool.and_eq_true, beq_iff_eq, Bool.not_eq_true', decide_eq_true_eq] at h5
  obtain ⟨⟨⟨⟨⟨g1, g2⟩, g3⟩, g4⟩, g5⟩, g6⟩ := h5
  simp [Cond.before, Cond.holds, Cond.value, h1, h2, h3, h4, g1, g2, g3, g4, g5, g6]
def isCode : Jvm.Cond → Bool
  | .code _ _ _ _ => true
  | _ => false
theorem all_split {L : List Jvm.Cond} {P : Jvm.Cond → Bool} (h1 : L.all (fun c => isCode c || P c) = true) (h2 : ∀ c ∈ L.filter isCode, P c = true) : L.all P = true := by
  refine List.all_eq_true.mpr fun c hc => ?_
  have h := List.all_eq_true.mp h1 c hc
  rcases Bool.eq_false_or_eq_true (isCode c) with hi | hi
  · exact h2 c (List.mem_filter.mpr ⟨hc, hi⟩)
  · simpa [hi] using h
set_option maxRecDepth 65536 in
theorem w_c0 : (Jvm.Cond.code x code maxLocals ret).before args0 about1 = true := code_word (m := ⟨1, 2⟩) (meth := k1m2) (c := k1c2) (by decide +kernel) rfl rfl rfl (by decide +kernel)
set_option maxRecDepth 65536 in
theorem w_c1 : (Jvm.Cond.code ({ cls := "com/example/keylattice/keylattice/ElementIntegerPinLaw", name := "lastBytes", desc := "(II)[B" } : Jvm.MethodName) method_2_code (2 : Nat) (Option.some (Jvm.ClassFile.FieldType.array Jvm.ClassFile.FieldType.byte))).before args0 about1 = true := code_word (m := ⟨1, 1⟩) (meth := k1m1) (c := k1c1) (by decide +kernel) rfl rfl rfl (by decide +kernel)
set_option maxRecDepth 65536 in
theorem w_c2 : (Jvm.Cond.code ({ cls := "com/example/keylattice/keylattice/Ber$Element", name := "<init>", desc := "(I[B)V" } : Jvm.MethodName) prog_5_method_1_code (3 : Nat) (Option.none : Option Jvm.ClassFile.FieldType)).before args0 about1 = true := code_word (m := ⟨3, 0⟩) (meth := k3m0) (c := k3c0) (by decide +kernel) rfl rfl rfl (by decide +kernel)
set_option maxRecDepth 65536 in
theorem w_c3 : (Jvm.Cond.code ({ cls := "java/lang/Record", name := "<init>", desc := "()V" } : Jvm.MethodName) jdk_30_method_1_code (1 : Nat) (Option.none : Option Jvm.ClassFile.FieldType)).before args0 about1 = true := code_word (m := ⟨2, 0⟩) (meth := k2m0) (c := k2c0) (by decide +kernel) rfl rfl rfl (by decide +kernel)
set_option maxRecDepth 65536 in
theorem w_c4 : (Jvm.Cond.code ({ cls := "java/lang/Object", name := "<init>", desc := "()V" } : Jvm.MethodName) object_method_1_code (1 : Nat) (Option.none : Option Jvm.ClassFile.FieldType)).before args0 about1 = true := code_word (m := ⟨0, 0⟩) (meth := k0m0) (c := k0c0) (by decide +kernel) rfl rfl rfl (by decide +kernel)
set_option maxRecDepth 65536 in
theorem w_c5 : (Jvm.Cond.code ({ cls := "com/example/keylattice/keylattice/Ber$Element", name := "integer", desc := "()I" } : Jvm.MethodName) prog_5_method_3_code (3 : Nat) (Option.some Jvm.ClassFile.FieldType.int)).before args0 about1 = true := code_word (m := ⟨3, 1⟩) (meth := k3m1) (c := k3c1) (by decide +kernel) rfl rfl rfl (by decide +kernel)
def codes1 : List Jvm.Cond := [Jvm.Cond.code x code maxLocals ret, Jvm.Cond.code ({ cls := "com/example/keylattice/keylattice/ElementIntegerPinLaw", name := "lastBytes", desc := "(II)[B" } : Jvm.MethodName) method_2_code (2 : Nat) (Option.some (Jvm.ClassFile.FieldType.array Jvm.ClassFile.FieldType.byte)), Jvm.Cond.code ({ cls := "com/example/keylattice/keylattice/Ber$Element", name := "<init>", desc := "(I[B)V" } : Jvm.MethodName) prog_5_method_1_code (3 : Nat) (Option.none : Option Jvm.ClassFile.FieldType), Jvm.Cond.code ({ cls := "java/lang/Record", name := "<init>", desc := "()V" } : Jvm.MethodName) jdk_30_method_1_code (1 : Nat) (Option.none : Option Jvm.ClassFile.FieldType), Jvm.Cond.code ({ cls := "java/lang/Object", name := "<init>", desc := "()V" } : Jvm.MethodName) object_method_1_code (1 : Nat) (Option.none : Option Jvm.ClassFile.FieldType), Jvm.Cond.code ({ cls := "com/example/keylattice/keylattice/Ber$Element", name := "integer", desc := "()I" } : Jvm.MethodName) prog_5_method_3_code (3 : Nat) (Option.some Jvm.ClassFile.FieldType.int)]
set_option maxRecDepth 65536 in
theorem codes_eq : words1.filter isCode = codes1 := rfl
theorem w_codes : ∀ c ∈ words1.filter isCode, c.before args0 about1 = true := by
  rw [codes_eq]
  intro c hc
  simp only [codes1, List.mem_cons, List.not_mem_nil, or_false] at hc
  rcases hc with rfl | rfl | rfl | rfl | rfl | rfl
  · exact w_c0
  · exact w_c1
  · exact w_c2
  · exact w_c3
  · exact w_c4
  · exact w_c5
set_option maxRecDepth 65536 in
theorem w_t1 : (words1.take 24).all (fun c => isCode c || c.before args0 about1) = true := by decide +kernel
set_option maxRecDepth 65536 in
theorem w_t2 : (words1.drop 24).all (fun c => isCode c || c.before args0 about1) = true := by decide +kernel
theorem w_tables : (allAtoms (Jvm.Cond.code x code maxLocals ret :: tables_1)).before args0 about1 = true := by
  rw [allAtoms_all]
  show words1.all (fun c => c.before args0 about1) = true
  refine all_split ?_ w_codes
  rw [← List.take_append_drop 24 words1, List.all_append, w_t1, w_t2]
  rfl
set_option maxRecDepth 65536 in
theorem w_case : (Jvm.Cond.and given_1 narrow_1).before args0 about1 = true := by decide +kernel
theorem w_applies : (headSpec (Jvm.Cond.code x code maxLocals ret :: tables_1) room_1).applies x e0.platform about1 = true :=
  (Spec.applies_iff w_frames).mpr ⟨w_running, w_runnable, w_alone, w_named, w_hears, w_ripe, w_room, w_tables⟩
theorem atStart : AtStart classFile x code maxLocals ret World_1 tables_1 room_1 Calls_1 rest_1 Pre_1 launch0 p0 e0 about1 theMethod args0 below0 :=
  ⟨lists_1, trivial, launch0.admits_env _ _ _, launch0.least_env, fairChoices_fair.cas, fairChoices_fair.clock, w_frames, w_args, w_heap, w_applies, trivial, trivial, w_case⟩
end start1
theorem witness_1 : WitnessClaimed_1 := ⟨start1.p0, start1.e0, start1.about1, start1.theMethod, start1.args0, start1.below0, start1.atStart⟩
end Jvm.Pilot.@@N@@
