import JvmDerived
import JvmDerived.Pilot.@@N@@Statement
import JvmDerived.Pilot.@@N@@Code
set_option linter.unusedVariables false
set_option linter.unusedSimpArgs false
namespace Jvm.Pilot.@@N@@
open Jvm Jvm.ClassFile Sem Op Lib Jvm.Free Jvm.Stand Jvm.LawKit Jvm.RoadKit Bundle Jvm.Pilot.@@N@@.Jvm.D
section Own
variable {p : Program} {l : Launch} {e : Env} {R : Room} {s : State} {m : MethodId} {args : Array Value} {below : List Frame} {meth : Method} {c : Code} {T : State} {locs : List Loc} {cells slots : Nat}
/-- from the state A on the run comes to a return of the body that s was about to invoke, with Q of the value, the heap and the places written -/
def Go (En : State → Outcome → State → List Loc → Nat → Nat → Prop) (p : Program) (e : Env) (below : List Frame) (s : State) (C S : Nat) (Q : Option Value → Heap → List Loc → Prop) (A : State) : Prop :=
  ∃ s₂ o, Steps p.tables e below A s₂ ∧ s₂.status = .running ∧ Ended s₂ below o ∧ ∃ v L, o = .returned v ∧ Q v s₂.heap L ∧ En s o s₂ L C S
variable {En : State → Outcome → State → List Loc → Nat → Nat → Prop} {C S : Nat} {Q : Option Value → Heap → List Loc → Prop} {A B : State} {h : Heap}
theorem Go.step (h : ∀ t, Steps p.tables e below B t → Steps p.tables e below A t) (g : Go En p e below s C S Q B) : Go En p e below s C S Q A := by
  obtain ⟨s₂, o, h1, r⟩ := g
  exact ⟨s₂, o, h _ h1, r⟩
theorem Go.hop (h : Steps p.tables e below A B) (g : Go En p e below s C S Q B) : Go En p e below s C S Q A := Go.step (fun _ k => h.trans k) g
theorem Go.out (X : Stand p l e R s m args below meth c T locs cells slots) {v : Option Value} (hv : meth.sig.returnType = none → v = none) (hl : meth.locks = false) (eT : T.heap = h) (hc : cells ≤ C) (hs : slots ≤ S) (q : Q v h locs)
    (st : ∀ fs, (∀ (f : JFrame) (acts : List Action), f.method = m → f.locked = none → f.entered = [] → (doReturn e (T.setTop f) acts v).1 = T.setFrames fs) → Steps p.tables e below A (T.setFrames fs)) : Go FrameEnd p e below s C S Q A := by
  obtain ⟨fs, hr, hrun, hended, hW, hsame⟩ := X.leave (v := v) hv hl
  refine ⟨_, _, st fs hr, hrun, hended, _, _, rfl, ?_, ⟨_, rfl⟩, hW, hsame.mono hc hs⟩
  show Q v T.heap locs
  rw [eT]
  exact q
theorem Go.retN (X : Stand p l e R s m args below meth c T locs cells slots) (hx : p.tables.exec = Jvm.exec) {pc : Nat} {Ls : Array Slot} {z : Int32} {t : FieldType} {rest : List Value} (hret : meth.sig.returnType = some t) (ht : t = .boolean ∨ t = .byte ∨ t = .char ∨ t = .short)
    (hz : nar t z = z) (hd : decode c.code pc = .ok (.ireturn, 1)) (hl : meth.locks = false) (eT : T.heap = h) (hc : cells ≤ C) (hs : slots ≤ S) (q : Q (some (.int z)) h locs) : Go FrameEnd p e below s C S Q (T.setTop (mkF m pc Ls (.int z :: rest))) :=
  Go.out X (v := some (.int z)) (fun k => by rw [hret] at k; cases k) hl eT hc hs q fun fs hr => Jvm.RoadKit.retN X hx (t := t) hret ht hd (by rw [hz]; exact hr)
theorem Go.retI (X : Stand p l e R s m args below meth c T locs cells slots) (hx : p.tables.exec = Jvm.exec) {pc : Nat} {Ls : Array Slot} {z : Int32} {rest : List Value} (hret : meth.sig.returnType = some .int)
    (hd : decode c.code pc = .ok (.ireturn, 1)) (hl : meth.locks = false) (eT : T.heap = h) (hc : cells ≤ C) (hs : slots ≤ S) (q : Q (some (.int z)) h locs) : Go FrameEnd p e below s C S Q (T.setTop (mkF m pc Ls (.int z :: rest))) :=
  Go.out X (v := some (.int z)) (fun k => by rw [hret] at k; cases k) hl eT hc hs q fun fs hr => retOut X hx hret rfl (Or.inl ⟨rfl, Or.inl rfl, z, rfl⟩) hd hr
theorem Go.retJ (X : Stand p l e R s m args below meth c T locs cells slots) (hx : p.tables.exec = Jvm.exec) {pc : Nat} {Ls : Array Slot} {z : Int64} {rest : List Value} (hret : meth.sig.returnType = some .long)
    (hd : decode c.code pc = .ok (.lreturn, 1)) (hl : meth.locks = false) (eT : T.heap = h) (hc : cells ≤ C) (hs : slots ≤ S) (q : Q (some (.long z)) h locs) : Go FrameEnd p e below s C S Q (T.setTop (mkF m pc Ls (.long z :: rest))) :=
  Go.out X (v := some (.long z)) (fun k => by rw [hret] at k; cases k) hl eT hc hs q fun fs hr => retOut X hx hret rfl (Or.inr (Or.inl ⟨rfl, rfl, z, rfl⟩)) hd hr
theorem own_narR {t : FieldType} {v : Value} (hv : v.isRef = true) : narrow t v = v := by cases v <;> first | (cases hv; done) | (cases t <;> rfl)
theorem Go.retR (X : Stand p l e R s m args below meth c T locs cells slots) (hx : p.tables.exec = Jvm.exec) {pc : Nat} {Ls : Array Slot} {v : Value} {t : FieldType} {rest : List Value} (hret : meth.sig.returnType = some t) (ht : t.isReference = true) (hv : v.isRef = true)
    (hd : decode c.code pc = .ok (.areturn, 1)) (hl : meth.locks = false) (eT : T.heap = h) (hc : cells ≤ C) (hs : slots ≤ S) (q : Q (some v) h locs) : Go FrameEnd p e below s C S Q (T.setTop (mkF m pc Ls (v :: rest))) :=
  Go.out X (v := some v) (fun k => by rw [hret] at k; cases k) hl eT hc hs q fun fs hr => retOut X hx hret (own_narR hv) (Or.inr (Or.inr (Or.inr (Or.inr ⟨rfl, ht, hv⟩)))) hd hr
theorem Go.ret0 (X : Stand p l e R s m args below meth c T locs cells slots) (hx : p.tables.exec = Jvm.exec) {pc : Nat} {Ls : Array Slot} (hret : meth.sig.returnType = none)
    (hd : decode c.code pc = .ok (.return_, 1)) (hl : meth.locks = false) (eT : T.heap = h) (hc : cells ≤ C) (hs : slots ≤ S) (q : Q none h locs) : Go FrameEnd p e below s C S Q (T.setTop (mkF m pc Ls [])) :=
  Go.out X (v := none) (fun _ => rfl) hl eT hc hs q fun fs hr => X.returnOut hx hret hd hr
theorem Go.outW {vm0 : Vm} {k0 : Nat} (X : Stand p l e R (s.setVm vm0) m args below meth c T locs cells slots) (hS : s.Since vm0 k0) (hk : k0 ≤ h.size) {v : Option Value} (hv : meth.sig.returnType = none → v = none) (hl : meth.locks = false) (eT : T.heap = h) (hc : cells ≤ C) (hs : slots ≤ S) (q : Q v h locs)
    (st : ∀ fs, (∀ (f : JFrame) (acts : List Action), f.method = m → f.locked = none → f.entered = [] → (doReturn e (T.setTop f) acts v).1 = T.setFrames fs) → Steps p.tables e below A (T.setFrames fs)) : Go ReturnedEndW p e below s C S Q A := by
  obtain ⟨fs, hr, hrun, hended, hq1, hq2, hq3, hq4⟩ := X.leaveW hS (by rw [eT]; exact hk) (v := v) hv hl
  refine ⟨_, _, st fs hr, hrun, hended, _, _, rfl, ?_, hq1, hq2, hq3, hq4.mono hc hs⟩
  show Q v T.heap locs
  rw [eT]
  exact q
theorem Go.retNW {vm0 : Vm} {k0 : Nat} (X : Stand p l e R (s.setVm vm0) m args below meth c T locs cells slots) (hS : s.Since vm0 k0) (hk : k0 ≤ h.size) (hx : p.tables.exec = Jvm.exec) {pc : Nat} {Ls : Array Slot} {z : Int32} {t : FieldType} {rest : List Value} (hret : meth.sig.returnType = some t) (ht : t = .boolean ∨ t = .byte ∨ t = .char ∨ t = .short)
    (hz : nar t z = z) (hd : decode c.code pc = .ok (.ireturn, 1)) (hl : meth.locks = false) (eT : T.heap = h) (hc : cells ≤ C) (hs : slots ≤ S) (q : Q (some (.int z)) h locs) : Go ReturnedEndW p e below s C S Q (T.setTop (mkF m pc Ls (.int z :: rest))) :=
  Go.outW X hS hk (v := some (.int z)) (fun k => by rw [hret] at k; cases k) hl eT hc hs q fun fs hr => Jvm.RoadKit.retN X hx (t := t) hret ht hd (by rw [hz]; exact hr)
theorem Go.retIW {vm0 : Vm} {k0 : Nat} (X : Stand p l e R (s.setVm vm0) m args below meth c T locs cells slots) (hS : s.Since vm0 k0) (hk : k0 ≤ h.size) (hx : p.tables.exec = Jvm.exec) {pc : Nat} {Ls : Array Slot} {z : Int32} {rest : List Value} (hret : meth.sig.returnType = some .int)
    (hd : decode c.code pc = .ok (.ireturn, 1)) (hl : meth.locks = false) (eT : T.heap = h) (hc : cells ≤ C) (hs : slots ≤ S) (q : Q (some (.int z)) h locs) : Go ReturnedEndW p e below s C S Q (T.setTop (mkF m pc Ls (.int z :: rest))) :=
  Go.outW X hS hk (v := some (.int z)) (fun k => by rw [hret] at k; cases k) hl eT hc hs q fun fs hr => retOut X hx hret rfl (Or.inl ⟨rfl, Or.inl rfl, z, rfl⟩) hd hr
theorem Go.retJW {vm0 : Vm} {k0 : Nat} (X : Stand p l e R (s.setVm vm0) m args below meth c T locs cells slots) (hS : s.Since vm0 k0) (hk : k0 ≤ h.size) (hx : p.tables.exec = Jvm.exec) {pc : Nat} {Ls : Array Slot} {z : Int64} {rest : List Value} (hret : meth.sig.returnType = some .long)
    (hd : decode c.code pc = .ok (.lreturn, 1)) (hl : meth.locks = false) (eT : T.heap = h) (hc : cells ≤ C) (hs : slots ≤ S) (q : Q (some (.long z)) h locs) : Go ReturnedEndW p e below s C S Q (T.setTop (mkF m pc Ls (.long z :: rest))) :=
  Go.outW X hS hk (v := some (.long z)) (fun k => by rw [hret] at k; cases k) hl eT hc hs q fun fs hr => retOut X hx hret rfl (Or.inr (Or.inl ⟨rfl, rfl, z, rfl⟩)) hd hr
theorem Go.retRW {vm0 : Vm} {k0 : Nat} (X : Stand p l e R (s.setVm vm0) m args below meth c T locs cells slots) (hS : s.Since vm0 k0) (hk : k0 ≤ h.size) (hx : p.tables.exec = Jvm.exec) {pc : Nat} {Ls : Array Slot} {v : Value} {t : FieldType} {rest : List Value} (hret : meth.sig.returnType = some t) (ht : t.isReference = true) (hv : v.isRef = true)
    (hd : decode c.code pc = .ok (.areturn, 1)) (hl : meth.locks = false) (eT : T.heap = h) (hc : cells ≤ C) (hs : slots ≤ S) (q : Q (some v) h locs) : Go ReturnedEndW p e below s C S Q (T.setTop (mkF m pc Ls (v :: rest))) :=
  Go.outW X hS hk (v := some v) (fun k => by rw [hret] at k; cases k) hl eT hc hs q fun fs hr => retOut X hx hret (own_narR hv) (Or.inr (Or.inr (Or.inr (Or.inr ⟨rfl, ht, hv⟩)))) hd hr
theorem Go.ret0W {vm0 : Vm} {k0 : Nat} (X : Stand p l e R (s.setVm vm0) m args below meth c T locs cells slots) (hS : s.Since vm0 k0) (hk : k0 ≤ h.size) (hx : p.tables.exec = Jvm.exec) {pc : Nat} {Ls : Array Slot} (hret : meth.sig.returnType = none)
    (hd : decode c.code pc = .ok (.return_, 1)) (hl : meth.locks = false) (eT : T.heap = h) (hc : cells ≤ C) (hs : slots ≤ S) (q : Q none h locs) : Go ReturnedEndW p e below s C S Q (T.setTop (mkF m pc Ls [])) :=
  Go.outW X hS hk (v := none) (fun _ => rfl) hl eT hc hs q fun fs hr => X.returnOut hx hret hd hr
theorem own_lrem {g : JFrame} {target : State} (X : Stand p l e R s m args below meth c T locs cells slots) (hx : p.tables.exec = Jvm.exec) (hg : g.method = m) {x y : Int64} {rest : List Value} (hd : decode c.code g.pc = .ok (.lrem, 1)) (hs : g.stack = .long y :: .long x :: rest) (hy : y ≠ 0)
    (hr : Steps p.tables e below (T.setTop { g with pc := g.pc + 1, stack := .long (x % y) :: rest }) target) : Steps p.tables e below (T.setTop g) target := by
  have q : x - x / y * y = x % y := lrem_mod x y
  exact XS.lrem X.here hx hg hd hs hy (by rw [q]; exact hr)
theorem own_fitR {t : FieldType} {v : Value} (ht : t.isReference = true) (hv : v.isRef = true) : fits t v = true := by cases v <;> first | (cases hv; done) | (cases t <;> first | rfl | cases ht)
variable {Z : State} {h' : Heap} {a b : Addr} {ty : FieldType} {n i sl : Nat} {f : Nat → Value} {v w : Value} {cl : Cell} {j z : Int32} {k : ClassId} {ws : List Addr}
/-- the array at a has n places; place j holds f j -/
def Av (Z : State) (h : Heap) (a : Addr) (ty : FieldType) (n : Nat) (f : Nat → Value) : Prop := ∃ c : Cell, Arr Z h a c ty ∧ c.slots.size = n ∧ n < 2147483648 ∧ ∀ j, j < n → c.slots[j]? = some (f j)
def aset (f : Nat → Value) (i : Nat) (v : Value) : Nat → Value := fun j => if j = i then v else f j
theorem Av.lt (F : Av Z h a ty n f) : a < h.size := by obtain ⟨c, A, -⟩ := F; exact A.lt
theorem Av.ext (F : Av Z h a ty n f) (E : Ext h h') : Av Z h' a ty n f := by obtain ⟨c, A, r⟩ := F; exact ⟨c, A.ext E, r⟩
theorem Av.other (F : Av Z h b ty n f) (W : Wr h h' a sl v) (q : b ≠ a) : Av Z h' b ty n f := by obtain ⟨c, A, r⟩ := F; exact ⟨c, A.other W q, r⟩
theorem Av.keep (F : Av Z h a ty n f) (K : Keep h h' ws) (q : a ∉ ws) : Av Z h' a ty n f := by obtain ⟨c, A, r⟩ := F; exact ⟨c, ⟨K.2.1 a c A.1 q, A.2⟩, r⟩
theorem Av.eq (F : Av Z h a ty n f) {g : Nat → Value} (q : ∀ j, j < n → f j = g j) : Av Z h a ty n g := by obtain ⟨c, A, r1, r2, r3⟩ := F; exact ⟨c, A, r1, r2, fun j hj => by rw [← q j hj]; exact r3 j hj⟩
theorem own_clamp (q : ¬ z < 0) : z.toNatClampNeg < 2147483648 := (back32 q).2
theorem Av.new (A : Arr Z h a (newA k ty z) ty) (q : ¬ z < 0) (e : z.toNatClampNeg = n) : Av Z h a ty n (fun _ => defaultValue ty) := by
  refine ⟨_, A, by rw [sz_new, e], by rw [← e]; exact own_clamp q, fun j hj => ?_⟩
  have q2 : (newA k ty z).slots = Array.replicate z.toNatClampNeg (defaultValue ty) := rfl
  rw [q2, Array.getElem?_replicate, e, if_pos hj]
theorem own_in {c : Cell} (S : c.slots.size = n) (h0 : ¬ j < 0) (h : j.toNatClampNeg < n) : ¬ (j < 0 ∨ c.slots.size ≤ j.toNatClampNeg) := by
  rw [S]; exact fun q => q.elim h0 (Nat.not_le.mpr h)
theorem Av.at {c : Cell} (G : ∀ j, j < n → c.slots[j]? = some (f j)) (e : j.toNatClampNeg = i) (hi : i < n) (w : f i = v) : c.slots[j.toNatClampNeg]? = some v := by rw [e, G i hi, w]
theorem own_slots (c : Cell) (i : Nat) (v : Value) : (c.setSlot i v).slots = c.slots.setIfInBounds i v := rfl
theorem Av.set {c : Cell} (A : Arr Z h a c ty) (S : c.slots.size = n) (M : n < 2147483648) (G : ∀ j, j < n → c.slots[j]? = some (f j)) (W : Wr h h' a j.toNatClampNeg v) (e : j.toNatClampNeg = i) (hin : ¬ (j < 0 ∨ c.slots.size ≤ j.toNatClampNeg)) : Av Z h' a ty n (aset f i v) := by
  have hi : i < c.slots.size := by rw [← e]; exact Nat.lt_of_not_le fun q => hin (Or.inr q)
  refine ⟨_, A.same W, by rw [sz_set]; exact S, M, fun q hq => ?_⟩
  rw [own_slots, e, Array.getElem?_setIfInBounds]
  by_cases r : i = q
  · subst r
    rw [if_pos rfl, if_pos hi]; simp [aset]
  · rw [if_neg r, G q hq]
    show some (f q) = some (if q = i then v else f q)
    rw [if_neg (Ne.symm r)]
theorem own_int_v {aa : Array Value} {t : Term} {k : Int32} (he : (Cond.eq t (.int k)).value aa Z none Z [] = some true) : t.eval aa Z none [] Z = some (.int k) := by
  have hk : (Term.int k).eval aa Z none [] Z = some (.int k) := Term.int_eval k
  cases ht : t.eval aa Z none [] Z with
  | none => simp [Cond.value, ht] at he
  | some x => cases x <;> simp_all [Cond.value]
theorem own_enum {aa : Array Value} {t : Term} {C D n d : String} {k : Int32} (hx : (Cond.exactly t C).value aa Z none Z [] = some true) (he : (Cond.eq (.field t D n d) (.int k)).value aa Z none Z [] = some true) :
    ∃ x : Addr, t.eval aa Z none [] Z = some (.ref x) ∧ Exa Z Z.heap x C ∧ Fld Z Z.heap x D n d (.int k) := by
  obtain ⟨x, hv⟩ := exa_v hx
  exact ⟨x, hv, Exa.start hv hx, Fld.start (by rw [← fld_at hv]; exact own_int_v he)⟩
theorem own_self {y z : MethodName} (hz : (Cond.selects z.cls z z).before args s = true) (e : z.cls = y.cls) (hp : s.PrivateAt y) (hi : (Cond.instanceMethod y).before args s = true) (hy : y.cls ≠ "java/lang/invoke/MethodHandle" ∧ y.cls ≠ "java/lang/invoke/VarHandle") : (Cond.selects y.cls y y).before args s = true := by
  obtain ⟨c2, r2, m2, q1, -, q3, -, kP, hkP, hkPi⟩ := Cond.selects_spec hz
  have q := findClass_of_methodNamed q3
  rw [e] at q
  exact selects_self_of_private q hkP hkPi hp hi hy
def ushI (x y : Int32) : Int32 := (x.toUInt32 >>> (y &&& 31).toUInt32).toInt32
def ushL (x : Int64) (y : Int32) : Int64 := (x.toUInt64 >>> (y &&& 0x3f).toInt64.toUInt64).toInt64
theorem own_nar8 (a : Int32) : nar .byte a.toInt8.toInt32 = a.toInt8.toInt32 := by show a.toInt8.toInt32.toInt8.toInt32 = _; simp
theorem own_nar16 (a : Int32) : nar .char a.toUInt32.toUInt16.toUInt32.toInt32 = a.toUInt32.toUInt16.toUInt32.toInt32 := by
  show a.toUInt32.toUInt16.toUInt32.toInt32.toUInt32.toUInt16.toUInt32.toInt32 = _
  rw [show a.toUInt32.toUInt16.toUInt32.toInt32.toUInt32 = a.toUInt32.toUInt16.toUInt32 from rfl, UInt16.toUInt16_toUInt32]
theorem own_sta_keep {C d nm : String} (F : Sta Z h C nm d w) (K : Keep h h' []) : Sta Z h' C nm d w := by
  obtain ⟨cf, i, k, f, st, cell, h1, h2, h3, h4, h5, r⟩ := F
  exact ⟨cf, i, k, f, st, cell, h1, h2, h3, h4, K.2.1 _ _ h5 nin0, r⟩
theorem own_ext_keep (E : Ext h h') : Keep h h' [] := (Keep.refl h []).ext E
theorem own_keep_eq (e : h' = h) (ws : List Addr) : Keep h h' ws := by rw [e]; exact Keep.refl _ _
end Own
theorem pn_java_util_Objects : plainName "java/util/Objects" = true := by first | (simp [plainName, overriddenIn]; done) | decide +kernel
theorem d_jdk_31_method_11_code_0 : decode jdk_31_method_11_code 0 = .ok (.aload_n 0, 1) := by decide +kernel
theorem d_jdk_31_method_11_code_1 : decode jdk_31_method_11_code 1 = .ok (.ifnonnull 12, 3) := by decide +kernel
theorem d_jdk_31_method_11_code_13 : decode jdk_31_method_11_code 13 = .ok (.aload_n 0, 1) := by decide +kernel
theorem d_jdk_31_method_11_code_14 : decode jdk_31_method_11_code 14 = .ok (.areturn, 1) := by decide +kernel
theorem pn_com_example_wunce_wunce_records_StoredRecord : plainName "com/example/wunce/wunce/records/StoredRecord" = true := by first | (simp [plainName, overriddenIn]; done) | decide +kernel
theorem d_prog_32_method_1_code_0 : decode prog_32_method_1_code 0 = .ok (.aload_n 0, 1) := by decide +kernel
theorem d_prog_32_method_1_code_1 : decode prog_32_method_1_code 1 = .ok (.invokespecial 1, 3) := by decide +kernel
theorem d_prog_32_method_1_code_4 : decode prog_32_method_1_code 4 = .ok (.aload_n 0, 1) := by decide +kernel
theorem d_prog_32_method_1_code_5 : decode prog_32_method_1_code 5 = .ok (.aload_n 1, 1) := by decide +kernel
theorem d_prog_32_method_1_code_6 : decode prog_32_method_1_code 6 = .ok (.ldc 7, 2) := by decide +kernel
theorem own_strAtoms {Z : State} {a0 : Array Value} (hw : ∀ d ∈ tables_1, d.before a0 Z = true) : ∀ a ∈ Bundle.stringAtoms, a.before a0 Z = true := by
  intro d hd
  simp only [Bundle.stringAtoms, List.mem_cons, List.not_mem_nil, or_false] at hd
  rcases hd with rfl | rfl | rfl | rfl | rfl | rfl | rfl
  · exact (hw _ (List.mem_of_getElem? (i := 9) rfl))
  · exact (hw _ (List.mem_of_getElem? (i := 10) rfl))
  · exact (hw _ (List.mem_of_getElem? (i := 0) rfl))
  · exact (hw _ (List.mem_of_getElem? (i := 11) rfl))
  · exact (hw _ (List.mem_of_getElem? (i := 12) rfl))
  · exact (hw _ (List.mem_of_getElem? (i := 13) rfl))
  · exact (hw _ (List.mem_of_getElem? (i := 14) rfl))
theorem d_prog_32_method_1_code_8 : decode prog_32_method_1_code 8 = .ok (.invokestatic 9, 3) := by decide +kernel
theorem pd__Ljava_lang_Object_Ljava_lang_String__Ljava_lang_Object_ : parseMethodDescriptor "(Ljava/lang/Object;Ljava/lang/String;)Ljava/lang/Object;" = some ⟨[(.object "java/lang/Object"), (.object "java/lang/String")], some (.object "java/lang/Object")⟩ := by decide +kernel
theorem d_prog_32_method_1_code_11 : decode prog_32_method_1_code 11 = .ok (.checkcast 15, 3) := by decide +kernel
theorem d_prog_32_method_1_code_14 : decode prog_32_method_1_code 14 = .ok (.putfield 17, 3) := by decide +kernel
theorem d_prog_32_method_1_code_17 : decode prog_32_method_1_code 17 = .ok (.aload_n 0, 1) := by decide +kernel
theorem d_prog_32_method_1_code_18 : decode prog_32_method_1_code 18 = .ok (.aload_n 2, 1) := by decide +kernel
theorem d_prog_32_method_1_code_19 : decode prog_32_method_1_code 19 = .ok (.putfield 22, 3) := by decide +kernel
theorem d_prog_32_method_1_code_22 : decode prog_32_method_1_code 22 = .ok (.return_, 1) := by decide +kernel
theorem d_prog_32_method_3_code_0 : decode prog_32_method_3_code 0 = .ok (.new 18, 3) := by decide +kernel
theorem d_prog_32_method_3_code_3 : decode prog_32_method_3_code 3 = .ok (.dup, 1) := by decide +kernel
theorem d_prog_32_method_3_code_4 : decode prog_32_method_3_code 4 = .ok (.aload_n 0, 1) := by decide +kernel
theorem d_prog_32_method_3_code_5 : decode prog_32_method_3_code 5 = .ok (.aload_n 1, 1) := by decide +kernel
theorem d_prog_32_method_3_code_6 : decode prog_32_method_3_code 6 = .ok (.ldc 28, 2) := by decide +kernel
theorem d_prog_32_method_3_code_8 : decode prog_32_method_3_code 8 = .ok (.invokestatic 9, 3) := by decide +kernel
theorem d_prog_32_method_3_code_11 : decode prog_32_method_3_code 11 = .ok (.checkcast 15, 3) := by decide +kernel
theorem d_prog_32_method_3_code_14 : decode prog_32_method_3_code 14 = .ok (.invokespecial 25, 3) := by decide +kernel
theorem pd___B_B_V : parseMethodDescriptor "([B[B)V" = some ⟨[(.array .byte), (.array .byte)], none⟩ := by decide +kernel
theorem d_prog_32_method_3_code_17 : decode prog_32_method_3_code 17 = .ok (.areturn, 1) := by decide +kernel
theorem d_prog_32_method_5_code_0 : decode prog_32_method_5_code 0 = .ok (.aload_n 0, 1) := by decide +kernel
theorem d_prog_32_method_5_code_1 : decode prog_32_method_5_code 1 = .ok (.getfield 22, 3) := by decide +kernel
theorem d_prog_32_method_5_code_4 : decode prog_32_method_5_code 4 = .ok (.ifnull 7, 3) := by decide +kernel
theorem d_prog_32_method_5_code_7 : decode prog_32_method_5_code 7 = .ok (.iconst 1, 1) := by decide +kernel
theorem d_prog_32_method_5_code_8 : decode prog_32_method_5_code 8 = .ok (.goto 4, 3) := by decide +kernel
theorem d_prog_32_method_5_code_12 : decode prog_32_method_5_code 12 = .ok (.ireturn, 1) := by decide +kernel
theorem d_prog_32_method_4_code_0 : decode prog_32_method_4_code 0 = .ok (.aload_n 0, 1) := by decide +kernel
theorem d_prog_32_method_4_code_1 : decode prog_32_method_4_code 1 = .ok (.getfield 17, 3) := by decide +kernel
theorem d_prog_32_method_4_code_4 : decode prog_32_method_4_code 4 = .ok (.areturn, 1) := by decide +kernel
theorem d_prog_32_method_6_code_0 : decode prog_32_method_6_code 0 = .ok (.aload_n 0, 1) := by decide +kernel
theorem d_prog_32_method_6_code_1 : decode prog_32_method_6_code 1 = .ok (.getfield 22, 3) := by decide +kernel
theorem d_prog_32_method_6_code_4 : decode prog_32_method_6_code 4 = .ok (.areturn, 1) := by decide +kernel
theorem pn_com_example_wunce_wunce_records_StoredRecordCompletedPinLaw : plainName "com/example/wunce/wunce/records/StoredRecordCompletedPinLaw" = true := by first | (simp [plainName, overriddenIn]; done) | decide +kernel
theorem pd___B_B_Lcom_example_wunce_wunce_records_StoredRecord_ : parseMethodDescriptor "([B[B)Lcom/example/wunce/wunce/records/StoredRecord;" = some ⟨[(.array .byte), (.array .byte)], some (.object "com/example/wunce/wunce/records/StoredRecord")⟩ := by decide +kernel
theorem pd___Z : parseMethodDescriptor "()Z" = some ⟨[], some .boolean⟩ := by decide +kernel
theorem pd____B : parseMethodDescriptor "()[B" = some ⟨[], some (.array .byte)⟩ := by decide +kernel
def Q1 (Z : State) (a1 : Addr) (a2 : Addr) (h0 : Heap) (v : Option Value) (h : Heap) (L : List Loc) : Prop := v = some (.ref a1) ∧ L = [] ∧ h = h0
theorem ef_1 (m : MethodId) (a1 : Addr) (a2 : Addr) : entryFrame m #[(.ref a1), (.ref a2)] 2 = mkF m 0 #[.val (.ref a1), .val (.ref a2)] [] := by first | (simp [entryFrame, mkF, argsToLocals, Value.category]; done) | rfl
set_option maxRecDepth 65536 in
set_option maxHeartbeats 40000000 in
theorem rm1 (l : Launch) (Z : State) (a0 : Array Value) (hw : ∀ d ∈ tables_1, d.before a0 Z = true) (ws : List Jvm.Cond) (a1 : Addr) (a2 : Addr) (h0 : Heap) :
    MetFree l (⟨"java/util/Objects", "requireNonNull", "(Ljava/lang/Object;Ljava/lang/String;)Ljava/lang/Object;"⟩ : MethodName) (head1 (Jvm.Cond.code (⟨"java/util/Objects", "requireNonNull", "(Ljava/lang/Object;Ljava/lang/String;)Ljava/lang/Object;"⟩ : MethodName) jdk_31_method_11_code 2 (some (.object "java/lang/Object")) :: ws) ({ frames := 0, cells := 0, slots := 0, locals := 0 } : Room)) (fun a U => a = #[(.ref a1), (.ref a2)] ∧ Z.Warmed39 U.vm ∧ U.heap = h0) (fun _ _ _ _ _ => True) (fun _ U o U' => ∃ v L, o = .returned v ∧ (Q1 Z a1 a2 h0) v U'.heap L ∧ FrameEnd U o U' L 0 0) := by
  refine MetFree.of_bodySF (plainFor_of_name pn_java_util_Objects) hisR ?_
  intro p e s m args below meth c s₁ Bd hml0 hP hK
  obtain ⟨rfl, hZ, hh⟩ := hP
  have hx := Bd.exec
  have hby := Bd.bytes
  have hml : c.maxLocals = 2 := hml0
  have hown : s.vm.findClass "java/util/Objects" = some m.cls := findClass_of_methodNamed Bd.named
  have hnm := (name_of_methodNamed Bd.named Bd.method).1
  have X0 : Stand p l e ({ frames := 0, cells := 0, slots := 0, locals := 0 } : Room) s m #[(.ref a1), (.ref a2)] below meth c s₁ [] 0 0 := Stand.of_body Bd
  have e0 : s₁.heap = h0 := by rw [← hh, Bd.state]; rfl
  show Go FrameEnd p e below s 0 0 (Q1 Z a1 a2 h0) _
  refine Go.step (fun _ k => castTop (ef_1 m a1 a2) k) ?_
  show Go FrameEnd p e below s 0 0 (Q1 Z a1 a2 h0) (s₁.setTop (mkF m 0 #[.val (.ref a1), .val (.ref a2)] []))
  refine Go.step (fun _ k => XS.aloadN X0.here hx rfl (hb hby d_jdk_31_method_11_code_0) rfl rfl k) ?_
  show Go FrameEnd p e below s 0 0 (Q1 Z a1 a2 h0) (s₁.setTop (mkF m 1 #[.val (.ref a1), .val (.ref a2)] [(.ref a1)]))
  refine Go.step (fun _ k => XS.ifnonnullYes X0.here hx rfl (pc0 := 1) (pc' := 13) rfl (hb hby d_jdk_31_method_11_code_1) rfl (by decide) (by decide) k) ?_
  show Go FrameEnd p e below s 0 0 (Q1 Z a1 a2 h0) (s₁.setTop (mkF m 13 #[.val (.ref a1), .val (.ref a2)] []))
  refine Go.step (fun _ k => XS.aloadN X0.here hx rfl (hb hby d_jdk_31_method_11_code_13) rfl rfl k) ?_
  show Go FrameEnd p e below s 0 0 (Q1 Z a1 a2 h0) (s₁.setTop (mkF m 14 #[.val (.ref a1), .val (.ref a2)] [(.ref a1)]))
  refine Go.retR X0 hx Bd.returns rfl rfl (hb hby d_jdk_31_method_11_code_14) (BodyLoose.notSynchronized Bd) e0 (by decide) (by decide) ?_
  exact ⟨rfl, rfl, rfl⟩
def Q2 (Z : State) (a1 : Addr) (a2 : Addr) (a3 : Addr) (u_mFingerprint_a1 : Value) (u_mResult_a1 : Value) (h0 : Heap) (n0 : Nat) (v : Option Value) (h : Heap) (L : List Loc) : Prop := v = none ∧ Fr n0 L ∧ (Keep h0 h [a1]) ∧ (Exa Z h a1 "com/example/wunce/wunce/records/StoredRecord") ∧ (Fld Z h a1 "com/example/wunce/wunce/records/StoredRecord" "mFingerprint" "[B" (.ref a2)) ∧ (Fld Z h a1 "com/example/wunce/wunce/records/StoredRecord" "mResult" "[B" (.ref a3))
theorem ef_2 (m : MethodId) (a1 : Addr) (a2 : Addr) (a3 : Addr) : entryFrame m #[(.ref a1), (.ref a2), (.ref a3)] 3 = mkF m 0 #[.val (.ref a1), .val (.ref a2), .val (.ref a3)] [] := by first | (simp [entryFrame, mkF, argsToLocals, Value.category]; done) | rfl
set_option maxRecDepth 65536 in
set_option maxHeartbeats 40000000 in
theorem rm2 (l : Launch) (Z : State) (a0 : Array Value) (hw : ∀ d ∈ tables_1, d.before a0 Z = true) (ws : List Jvm.Cond) (a1 : Addr) (a2 : Addr) (a3 : Addr) (u_mFingerprint_a1 : Value) (u_mResult_a1 : Value) (h0 : Heap) (n0 : Nat) (Z0 : n0 ≤ h0.size) (E_a1 : Exa Z h0 a1 "com/example/wunce/wunce/records/StoredRecord") (F_mFingerprint_a1 : Fld Z h0 a1 "com/example/wunce/wunce/records/StoredRecord" "mFingerprint" "[B" u_mFingerprint_a1) (F_mResult_a1 : Fld Z h0 a1 "com/example/wunce/wunce/records/StoredRecord" "mResult" "[B" u_mResult_a1) (E_a2 : Exa Z h0 a2 "[B") (g_a1 : n0 ≤ a1) :
    MetFree l (⟨"com/example/wunce/wunce/records/StoredRecord", "<init>", "([B[B)V"⟩ : MethodName) (head1 (Jvm.Cond.code (⟨"com/example/wunce/wunce/records/StoredRecord", "<init>", "([B[B)V"⟩ : MethodName) prog_32_method_1_code 3 none :: ws) ({ frames := 1, cells := 2, slots := 48, locals := 14 } : Room)) (fun a U => a = #[(.ref a1), (.ref a2), (.ref a3)] ∧ Z.Warmed39 U.vm ∧ U.heap = h0) (fun _ _ _ _ _ => True) (fun _ U o U' => ∃ v L, o = .returned v ∧ (Q2 Z a1 a2 a3 u_mFingerprint_a1 u_mResult_a1 h0 n0) v U'.heap L ∧ ReturnedEndW U o U' L 2 48) := by
  refine MetFree.of_bodySF (plainFor_of_name pn_com_example_wunce_wunce_records_StoredRecord) hisR ?_
  intro p e s m args below meth c s₁ Bd hml0 hP hK
  obtain ⟨rfl, hZ, hh⟩ := hP
  have hx := Bd.exec
  have hby := Bd.bytes
  have hml : c.maxLocals = 3 := hml0
  have hown : s.vm.findClass "com/example/wunce/wunce/records/StoredRecord" = some m.cls := findClass_of_methodNamed Bd.named
  have hnm := (name_of_methodNamed Bd.named Bd.method).1
  have X0 : Stand p l e ({ frames := 1, cells := 2, slots := 48, locals := 14 } : Room) (s.setVm s.vm) m #[(.ref a1), (.ref a2), (.ref a3)] below meth c s₁ [] 0 0 := Stand.of_body Bd
  have e0 : s₁.heap = h0 := by rw [← hh, Bd.state]; rfl
  have N0 := Fr.nil n0
  have hS0 : s.Since s.vm 0 := (State.WarmedH.refl s).since 0
  have hk0 : 0 ≤ h0.size := Nat.zero_le _
  show Go ReturnedEndW p e below s 2 48 (Q2 Z a1 a2 a3 u_mFingerprint_a1 u_mResult_a1 h0 n0) _
  refine Go.step (fun _ k => castTop (ef_2 m a1 a2 a3) k) ?_
  show Go ReturnedEndW p e below s 2 48 (Q2 Z a1 a2 a3 u_mFingerprint_a1 u_mResult_a1 h0 n0) (s₁.setTop (mkF m 0 #[.val (.ref a1), .val (.ref a2), .val (.ref a3)] []))
  refine Go.step (fun _ k => XS.aloadN X0.here hx rfl (hb hby d_prog_32_method_1_code_0) rfl rfl k) ?_
  show Go ReturnedEndW p e below s 2 48 (Q2 Z a1 a2 a3 u_mFingerprint_a1 u_mResult_a1 h0 n0) (s₁.setTop (mkF m 1 #[.val (.ref a1), .val (.ref a2), .val (.ref a3)] [(.ref a1)]))
  obtain ⟨T1, X1, e1, st1⟩ := initO X0 hx hZ hown (hw _ (List.mem_of_getElem? (i := 24) rfl)) (hw _ (List.mem_of_getElem? (i := 25) rfl)) (hw _ (List.mem_of_getElem? (i := 26) rfl)) e0 (g := (mkF m 1 #[.val (.ref a1), .val (.ref a2), .val (.ref a3)] [(.ref a1)])) rfl (by rw [hml]; rfl) rfl (hb hby d_prog_32_method_1_code_1) (by decide) (W := 0) (by show 2 * 0 + _ ≤ _; exact Nat.le_of_eq rfl) (by decide)
  refine Go.step st1 ?_
  show Go ReturnedEndW p e below s 2 48 (Q2 Z a1 a2 a3 u_mFingerprint_a1 u_mResult_a1 h0 n0) (T1.setTop (mkF m 4 #[.val (.ref a1), .val (.ref a2), .val (.ref a3)] []))
  refine Go.step (fun _ k => XS.aloadN X1.here hx rfl (hb hby d_prog_32_method_1_code_4) rfl rfl k) ?_
  show Go ReturnedEndW p e below s 2 48 (Q2 Z a1 a2 a3 u_mFingerprint_a1 u_mResult_a1 h0 n0) (T1.setTop (mkF m 5 #[.val (.ref a1), .val (.ref a2), .val (.ref a3)] [(.ref a1)]))
  refine Go.step (fun _ k => XS.aloadN X1.here hx rfl (hb hby d_prog_32_method_1_code_5) rfl rfl k) ?_
  show Go ReturnedEndW p e below s 2 48 (Q2 Z a1 a2 a3 u_mFingerprint_a1 u_mResult_a1 h0 n0) (T1.setTop (mkF m 6 #[.val (.ref a1), .val (.ref a2), .val (.ref a3)] [(.ref a2), (.ref a1)]))
  obtain ⟨b2, T2, h2, k2, X2, e2, E2, hS2, hk2, hZ2, hown2, st2⟩ := ldcS (s := s) (vm0 := s.vm) X1 hx hZ hown (hw _ (List.mem_of_getElem? (i := 27) rfl)) (own_strAtoms hw) e1 hS0 hk0 (g := (mkF m 6 #[.val (.ref a1), .val (.ref a2), .val (.ref a3)] [(.ref a2), (.ref a1)])) rfl (hb hby d_prog_32_method_1_code_6) (n := 44) (by decide) (by decide) (by decide) (by decide)
  refine Go.step st2 ?_
  have Z2 : n0 ≤ h2.size := Nat.le_trans Z0 E2.1
  have K02 : Keep h0 h2 [a1] := (Keep.refl h0 [a1]).ext E2
  show Go ReturnedEndW p e below s 2 48 (Q2 Z a1 a2 a3 u_mFingerprint_a1 u_mResult_a1 h0 n0) (T2.setTop (mkF m 8 #[.val (.ref a1), .val (.ref a2), .val (.ref a3)] [(.ref b2), (.ref a2), (.ref a1)]))
  obtain ⟨_, _, ⟨T3, L3, k3, n3⟩, -, X3, ⟨Lc3, hQ3, l3, y3, z3⟩, st3⟩ := Jvm.LawKit.callS X2 hx (y := (⟨"java/util/Objects", "requireNonNull", "(Ljava/lang/Object;Ljava/lang/String;)Ljava/lang/Object;"⟩ : MethodName)) hown2 (mvT hZ2 (hw _ (List.mem_of_getElem? (i := 15) rfl))) (mvT hZ2 (hw _ (List.mem_of_getElem? (i := 16) rfl))) (mvT hZ2 (hw _ (List.mem_of_getElem? (i := 17) rfl))) (mvT hZ2 (hw _ (List.mem_of_getElem? (i := 18) rfl))) (by decide) (backOf (W := 1) (rm1 l Z a0 hw [] a2 b2  h2 ) hZ2 (hw _ (List.mem_of_getElem? (i := 18) rfl)) (hw _ (List.mem_of_getElem? (i := 17) rfl)) (by decide) (by decide)) (g := (mkF m 8 #[.val (.ref a1), .val (.ref a2), .val (.ref a3)] [(.ref b2), (.ref a2), (.ref a1)])) rfl (by rw [hml]; rfl) (argsL := [(.ref a2), (.ref b2)]) (rest := [(.ref a1)]) (lenOf pd__Ljava_lang_Object_Ljava_lang_String__Ljava_lang_Object_ rfl) rfl (by show 2 * 0 + _ ≤ _; exact Nat.le_of_eq rfl) (hb hby d_prog_32_method_1_code_8) (fun _ _ => ⟨rfl, e2, (by decide : 2 + 0 ≤ _), (by decide : 48 + 0 ≤ _)⟩)
  dsimp only [Pt.U, Pt.locs, Pt.cells, Pt.slots] at X3 l3 y3 z3 st3 hQ3
  subst l3 y3 z3
  obtain ⟨rfl, rfl, e3⟩ := hQ3
  have N3 := Fr.app N0 (Fr.nil n0)
  refine Go.step st3 ?_
  show Go ReturnedEndW p e below s 2 48 (Q2 Z a1 a2 a3 u_mFingerprint_a1 u_mResult_a1 h0 n0) (T3.setTop (mkF m 11 #[.val (.ref a1), .val (.ref a2), .val (.ref a3)] [(.ref a2), (.ref a1)]))
  have f_4 := (E_a2.ext E2)
  obtain ⟨T5, X5, e5, st5⟩ := castY X3 hx hZ2 hown2 (hw _ (List.mem_of_getElem? (i := 19) rfl)) e3 (Ins.self f_4) (g := (mkF m 11 #[.val (.ref a1), .val (.ref a2), .val (.ref a3)] [(.ref a2), (.ref a1)])) rfl rfl (hb hby d_prog_32_method_1_code_11)
  refine Go.step st5 ?_
  show Go ReturnedEndW p e below s 2 48 (Q2 Z a1 a2 a3 u_mFingerprint_a1 u_mResult_a1 h0 n0) (T5.setTop (mkF m 14 #[.val (.ref a1), .val (.ref a2), .val (.ref a3)] [(.ref a2), (.ref a1)]))
  have f_6 := (F_mFingerprint_a1.ext E2)
  have f_7 := (E_a1.ext E2)
  obtain ⟨T8, h8, X8, e8, W8, st8⟩ := putF X5 hx hZ2 hown2 (host := "") (Or.inl (hw _ (List.mem_of_getElem? (i := 28) rfl))) Via.refl e5 f_6 f_7 (Or.inr ⟨(hw _ (List.mem_of_getElem? (i := 29) rfl)), rfl, hnm⟩) (hw _ (List.mem_of_getElem? (i := 7) rfl)) (ty := (.array .byte)) (by decide) rfl rfl (g := (mkF m 14 #[.val (.ref a1), .val (.ref a2), .val (.ref a3)] [(.ref a2), (.ref a1)])) rfl rfl (hb hby d_prog_32_method_1_code_14)
  refine Go.step st8 ?_
  have N8 := Fr.snoc X8 N3 g_a1
  have hk8 : k2 ≤ h8.size := Nat.le_trans hk2 (Keep.of_wr W8).1
  have Z8 : n0 ≤ h8.size := Nat.le_trans Z2 (Keep.of_wr W8).1
  have K08 : Keep h0 h8 [a1] := K02.wr W8 (Or.inl (List.mem_of_getElem? (i := 0) rfl))
  have F8 := f_6.same W8
  show Go ReturnedEndW p e below s 2 48 (Q2 Z a1 a2 a3 u_mFingerprint_a1 u_mResult_a1 h0 n0) (T8.setTop (mkF m 17 #[.val (.ref a1), .val (.ref a2), .val (.ref a3)] []))
  refine Go.step (fun _ k => XS.aloadN X8.here hx rfl (hb hby d_prog_32_method_1_code_17) rfl rfl k) ?_
  show Go ReturnedEndW p e below s 2 48 (Q2 Z a1 a2 a3 u_mFingerprint_a1 u_mResult_a1 h0 n0) (T8.setTop (mkF m 18 #[.val (.ref a1), .val (.ref a2), .val (.ref a3)] [(.ref a1)]))
  refine Go.step (fun _ k => XS.aloadN X8.here hx rfl (hb hby d_prog_32_method_1_code_18) rfl rfl k) ?_
  show Go ReturnedEndW p e below s 2 48 (Q2 Z a1 a2 a3 u_mFingerprint_a1 u_mResult_a1 h0 n0) (T8.setTop (mkF m 19 #[.val (.ref a1), .val (.ref a2), .val (.ref a3)] [(.ref a3), (.ref a1)]))
  have f_9 := ((F_mResult_a1.ext E2).other W8 (Or.inr (slot_ne (Or.inr (hw _ (List.mem_of_getElem? (i := 31) rfl))) (Or.inr (hw _ (List.mem_of_getElem? (i := 29) rfl))) (by decide) (t := (.array .byte)) (t' := (.array .byte)) (by decide) (by decide))))
  obtain ⟨T10, h10, X10, e10, W10, st10⟩ := putF X8 hx hZ2 hown2 (host := "") (Or.inl (hw _ (List.mem_of_getElem? (i := 30) rfl))) Via.refl e8 f_9 (f_7.wr W8) (Or.inr ⟨(hw _ (List.mem_of_getElem? (i := 31) rfl)), rfl, hnm⟩) (hw _ (List.mem_of_getElem? (i := 7) rfl)) (ty := (.array .byte)) (by decide) rfl rfl (g := (mkF m 19 #[.val (.ref a1), .val (.ref a2), .val (.ref a3)] [(.ref a3), (.ref a1)])) rfl rfl (hb hby d_prog_32_method_1_code_19)
  refine Go.step st10 ?_
  have N10 := Fr.snoc X10 N8 g_a1
  have hk10 : k2 ≤ h10.size := Nat.le_trans hk8 (Keep.of_wr W10).1
  have Z10 : n0 ≤ h10.size := Nat.le_trans Z8 (Keep.of_wr W10).1
  have K010 : Keep h0 h10 [a1] := K08.wr W10 (Or.inl (List.mem_of_getElem? (i := 0) rfl))
  have F10 := f_9.same W10
  show Go ReturnedEndW p e below s 2 48 (Q2 Z a1 a2 a3 u_mFingerprint_a1 u_mResult_a1 h0 n0) (T10.setTop (mkF m 22 #[.val (.ref a1), .val (.ref a2), .val (.ref a3)] []))
  refine Go.ret0W X10 hS2 hk10 hx Bd.returns (hb hby d_prog_32_method_1_code_22) (BodyLoose.notSynchronized Bd) e10 (by decide) (by decide) ?_
  have f_11 := ((f_7.wr W8).wr W10)
  have f_12 := (F8.other W10 (Or.inr (slot_ne (Or.inr (hw _ (List.mem_of_getElem? (i := 29) rfl))) (Or.inr (hw _ (List.mem_of_getElem? (i := 31) rfl))) (by decide) (t := (.array .byte)) (t' := (.array .byte)) (by decide) (by decide))))
  exact ⟨rfl, N10, K010, f_11, f_12, F10⟩
def Q3 (Z : State) (a1 : Addr) (a2 : Addr) (h0 : Heap) (n0 : Nat) (v : Option Value) (h : Heap) (L : List Loc) : Prop := ∃ b : Addr, v = some (.ref b) ∧ Fr n0 L ∧ h0.size ≤ b ∧ (Keep h0 h []) ∧ (Exa Z h b "com/example/wunce/wunce/records/StoredRecord") ∧ (Fld Z h b "com/example/wunce/wunce/records/StoredRecord" "mFingerprint" "[B" (.ref a1)) ∧ (Fld Z h b "com/example/wunce/wunce/records/StoredRecord" "mResult" "[B" (.ref a2))
theorem ef_3 (m : MethodId) (a1 : Addr) (a2 : Addr) : entryFrame m #[(.ref a1), (.ref a2)] 2 = mkF m 0 #[.val (.ref a1), .val (.ref a2)] [] := by first | (simp [entryFrame, mkF, argsToLocals, Value.category]; done) | rfl
set_option maxRecDepth 65536 in
set_option maxHeartbeats 40000000 in
theorem rm3 (l : Launch) (Z : State) (a0 : Array Value) (hw : ∀ d ∈ tables_1, d.before a0 Z = true) (ws : List Jvm.Cond) (a1 : Addr) (a2 : Addr) (h0 : Heap) (n0 : Nat) (Z0 : n0 ≤ h0.size) (E_a1 : Exa Z h0 a1 "[B") (E_a2 : Exa Z h0 a2 "[B") :
    MetFree l (⟨"com/example/wunce/wunce/records/StoredRecord", "completed", "([B[B)Lcom/example/wunce/wunce/records/StoredRecord;"⟩ : MethodName) (head1 (Jvm.Cond.code (⟨"com/example/wunce/wunce/records/StoredRecord", "completed", "([B[B)Lcom/example/wunce/wunce/records/StoredRecord;"⟩ : MethodName) prog_32_method_3_code 2 (some (.object "com/example/wunce/wunce/records/StoredRecord")) :: ws) ({ frames := 2, cells := 5, slots := 78, locals := 29 } : Room)) (fun a U => a = #[(.ref a1), (.ref a2)] ∧ Z.Warmed39 U.vm ∧ U.heap = h0) (fun _ _ _ _ _ => True) (fun _ U o U' => ∃ v L, o = .returned v ∧ (Q3 Z a1 a2 h0 n0) v U'.heap L ∧ ReturnedEndW U o U' L 5 78) := by
  refine MetFree.of_bodySF (plainFor_of_name pn_com_example_wunce_wunce_records_StoredRecord) hisR ?_
  intro p e s m args below meth c s₁ Bd hml0 hP hK
  obtain ⟨rfl, hZ, hh⟩ := hP
  have hx := Bd.exec
  have hby := Bd.bytes
  have hml : c.maxLocals = 2 := hml0
  have hown : s.vm.findClass "com/example/wunce/wunce/records/StoredRecord" = some m.cls := findClass_of_methodNamed Bd.named
  have hnm := (name_of_methodNamed Bd.named Bd.method).1
  have X0 : Stand p l e ({ frames := 2, cells := 5, slots := 78, locals := 29 } : Room) (s.setVm s.vm) m #[(.ref a1), (.ref a2)] below meth c s₁ [] 0 0 := Stand.of_body Bd
  have e0 : s₁.heap = h0 := by rw [← hh, Bd.state]; rfl
  have N0 := Fr.nil n0
  have hS0 : s.Since s.vm 0 := (State.WarmedH.refl s).since 0
  have hk0 : 0 ≤ h0.size := Nat.zero_le _
  show Go ReturnedEndW p e below s 5 78 (Q3 Z a1 a2 h0 n0) _
  refine Go.step (fun _ k => castTop (ef_3 m a1 a2) k) ?_
  show Go ReturnedEndW p e below s 5 78 (Q3 Z a1 a2 h0 n0) (s₁.setTop (mkF m 0 #[.val (.ref a1), .val (.ref a2)] []))
  obtain ⟨T1, h1, X1, e1, E1, A1, D1, -, st1⟩ := newO X0 hx hZ hown (hw _ (List.mem_of_getElem? (i := 6) rfl)) (hw _ (List.mem_of_getElem? (i := 7) rfl)) (hw _ (List.mem_of_getElem? (i := 4) rfl)) e0 (g := (mkF m 0 #[.val (.ref a1), .val (.ref a2)] [])) rfl (hb hby d_prog_32_method_3_code_0) (by decide) (by decide)
  refine Go.step st1 ?_
  obtain ⟨b1, g1⟩ : ∃ z, z = h0.size := ⟨_, rfl⟩
  rw [← g1] at A1 D1 ⊢
  have ne_a1_b1 : a1 ≠ b1 := Nat.ne_of_lt (Nat.lt_of_lt_of_le E_a1.lt (Nat.le_of_eq g1.symm))
  have ne_a2_b1 : a2 ≠ b1 := Nat.ne_of_lt (Nat.lt_of_lt_of_le E_a2.lt (Nat.le_of_eq g1.symm))
  have g_b1 : n0 ≤ b1 := Nat.le_trans Z0 (Nat.le_of_eq g1.symm)
  have Z1 : n0 ≤ h1.size := Nat.le_trans Z0 E1.1
  have hk1 : 0 ≤ h1.size := Nat.le_trans hk0 E1.1
  have K01 : Keep h0 h1 [] := (Keep.refl h0 []).ext E1
  have sz_b1 : h0.size ≤ b1 := Nat.le_trans (Keep.refl h0 []).1 (Nat.le_of_eq g1.symm)
  have F1_mFingerprint : Fld Z h1 b1 "com/example/wunce/wunce/records/StoredRecord" "mFingerprint" "[B" .null := D1 (Or.inr (hw _ (List.mem_of_getElem? (i := 29) rfl))) (ty := (.array .byte)) (by decide)
  have F1_mResult : Fld Z h1 b1 "com/example/wunce/wunce/records/StoredRecord" "mResult" "[B" .null := D1 (Or.inr (hw _ (List.mem_of_getElem? (i := 31) rfl))) (ty := (.array .byte)) (by decide)
  show Go ReturnedEndW p e below s 5 78 (Q3 Z a1 a2 h0 n0) (T1.setTop (mkF m 3 #[.val (.ref a1), .val (.ref a2)] [(.ref b1)]))
  refine Go.step (fun _ k => XS.dup X1.here hx rfl (hb hby d_prog_32_method_3_code_3) rfl rfl k) ?_
  show Go ReturnedEndW p e below s 5 78 (Q3 Z a1 a2 h0 n0) (T1.setTop (mkF m 4 #[.val (.ref a1), .val (.ref a2)] [(.ref b1), (.ref b1)]))
  refine Go.step (fun _ k => XS.aloadN X1.here hx rfl (hb hby d_prog_32_method_3_code_4) rfl rfl k) ?_
  show Go ReturnedEndW p e below s 5 78 (Q3 Z a1 a2 h0 n0) (T1.setTop (mkF m 5 #[.val (.ref a1), .val (.ref a2)] [(.ref a1), (.ref b1), (.ref b1)]))
  refine Go.step (fun _ k => XS.aloadN X1.here hx rfl (hb hby d_prog_32_method_3_code_5) rfl rfl k) ?_
  show Go ReturnedEndW p e below s 5 78 (Q3 Z a1 a2 h0 n0) (T1.setTop (mkF m 6 #[.val (.ref a1), .val (.ref a2)] [(.ref a2), (.ref a1), (.ref b1), (.ref b1)]))
  obtain ⟨b2, T2, h2, k2, X2, e2, E2, hS2, hk2, hZ2, hown2, st2⟩ := ldcS (s := s) (vm0 := s.vm) X1 hx hZ hown (hw _ (List.mem_of_getElem? (i := 8) rfl)) (own_strAtoms hw) e1 hS0 hk1 (g := (mkF m 6 #[.val (.ref a1), .val (.ref a2)] [(.ref a2), (.ref a1), (.ref b1), (.ref b1)])) rfl (hb hby d_prog_32_method_3_code_6) (n := 24) (by decide) (by decide) (by decide) (by decide)
  refine Go.step st2 ?_
  have Z2 : n0 ≤ h2.size := Nat.le_trans Z1 E2.1
  have K02 : Keep h0 h2 [] := K01.ext E2
  show Go ReturnedEndW p e below s 5 78 (Q3 Z a1 a2 h0 n0) (T2.setTop (mkF m 8 #[.val (.ref a1), .val (.ref a2)] [(.ref b2), (.ref a2), (.ref a1), (.ref b1), (.ref b1)]))
  obtain ⟨_, _, ⟨T3, L3, k3, n3⟩, -, X3, ⟨Lc3, hQ3, l3, y3, z3⟩, st3⟩ := Jvm.LawKit.callS X2 hx (y := (⟨"java/util/Objects", "requireNonNull", "(Ljava/lang/Object;Ljava/lang/String;)Ljava/lang/Object;"⟩ : MethodName)) hown2 (mvT hZ2 (hw _ (List.mem_of_getElem? (i := 15) rfl))) (mvT hZ2 (hw _ (List.mem_of_getElem? (i := 16) rfl))) (mvT hZ2 (hw _ (List.mem_of_getElem? (i := 17) rfl))) (mvT hZ2 (hw _ (List.mem_of_getElem? (i := 18) rfl))) (by decide) (backOf (W := 3) (rm1 l Z a0 hw [] a2 b2  h2 ) hZ2 (hw _ (List.mem_of_getElem? (i := 18) rfl)) (hw _ (List.mem_of_getElem? (i := 17) rfl)) (by decide) (by decide)) (g := (mkF m 8 #[.val (.ref a1), .val (.ref a2)] [(.ref b2), (.ref a2), (.ref a1), (.ref b1), (.ref b1)])) rfl (by rw [hml]; rfl) (argsL := [(.ref a2), (.ref b2)]) (rest := [(.ref a1), (.ref b1), (.ref b1)]) (lenOf pd__Ljava_lang_Object_Ljava_lang_String__Ljava_lang_Object_ rfl) rfl (by show 2 * 0 + _ ≤ _; exact Nat.le_of_eq rfl) (hb hby d_prog_32_method_3_code_8) (fun _ _ => ⟨rfl, e2, (by decide : 3 + 0 ≤ _), (by decide : 30 + 0 ≤ _)⟩)
  dsimp only [Pt.U, Pt.locs, Pt.cells, Pt.slots] at X3 l3 y3 z3 st3 hQ3
  subst l3 y3 z3
  obtain ⟨rfl, rfl, e3⟩ := hQ3
  have N3 := Fr.app N0 (Fr.nil n0)
  refine Go.step st3 ?_
  show Go ReturnedEndW p e below s 5 78 (Q3 Z a1 a2 h0 n0) (T3.setTop (mkF m 11 #[.val (.ref a1), .val (.ref a2)] [(.ref a2), (.ref a1), (.ref b1), (.ref b1)]))
  have f_4 := ((E_a2.ext E1).ext E2)
  obtain ⟨T5, X5, e5, st5⟩ := castY X3 hx hZ2 hown2 (hw _ (List.mem_of_getElem? (i := 19) rfl)) e3 (Ins.self f_4) (g := (mkF m 11 #[.val (.ref a1), .val (.ref a2)] [(.ref a2), (.ref a1), (.ref b1), (.ref b1)])) rfl rfl (hb hby d_prog_32_method_3_code_11)
  refine Go.step st5 ?_
  show Go ReturnedEndW p e below s 5 78 (Q3 Z a1 a2 h0 n0) (T5.setTop (mkF m 14 #[.val (.ref a1), .val (.ref a2)] [(.ref a2), (.ref a1), (.ref b1), (.ref b1)]))
  have f_6 := (F1_mFingerprint.ext E2)
  have f_7 := (F1_mResult.ext E2)
  have f_8 := ((E_a1.ext E1).ext E2)
  obtain ⟨_, _, ⟨T9, L9, k9, n9⟩, -, X9, hSx9, hgr9, ⟨Lc9, hQ9, l9, y9, z9⟩, st9⟩ := X5.specialBackS hx (y := (⟨"com/example/wunce/wunce/records/StoredRecord", "<init>", "([B[B)V"⟩ : MethodName)) rfl hown2 (mvT hZ2 (hw _ (List.mem_of_getElem? (i := 21) rfl))) (mvT hZ2 (hw _ (List.mem_of_getElem? (i := 22) rfl))) (mvT hZ2 (hw _ (List.mem_of_getElem? (i := 23) rfl))) (by decide) (backOfS (W := 1) (rm2 l Z a0 hw [] b1 a1 a2 (.null : Value) (.null : Value) h2 n0 Z2 (A1.ext E2) f_6 f_7 f_8 g_b1) hZ2 (hw _ (List.mem_of_getElem? (i := 23) rfl)) (hw _ (List.mem_of_getElem? (i := 4) rfl)) (by decide) (by decide)) (g := (mkF m 14 #[.val (.ref a1), .val (.ref a2)] [(.ref a2), (.ref a1), (.ref b1), (.ref b1)])) rfl (by rw [hml]; rfl) (Steps.refl _) (a := b1) (argsL := [(.ref a1), (.ref a2)]) (rest := [(.ref b1)]) (lenOf pd___B_B_V rfl) rfl (by show 2 * 0 + _ ≤ _; exact Nat.le_of_eq rfl) (hb hby d_prog_32_method_3_code_14) (fun _ _ => ⟨rfl, e5, (by decide : 3 + 2 ≤ _), (by decide : 30 + 48 ≤ _)⟩)
  dsimp only [Pt.U, Pt.locs, Pt.cells, Pt.slots] at X9 l9 y9 z9 st9 hQ9
  subst l9 y9 z9
  obtain ⟨rfl, N9q, K9_0, xE9_1, xF9_2, xF9_3⟩ := hQ9
  have N9 := Fr.app N3 N9q
  have Z9 : n0 ≤ T9.heap.size := Nat.le_trans Z2 K9_0.1
  have K09 : Keep h0 T9.heap [] := K02.trans K9_0 (allS (Or.inr sz_b1) all0)
  refine Go.hop st9 ?_
  have hS9 : s.Since T9.vm T9.heap.size := hS2.trans hSx9 (Nat.le_trans hk2 (by rw [e5] at hgr9; exact hgr9))
  have hZ9 : Z.Warmed39 (s.setVm T9.vm).vm := State.Warmed39.trans (t := s.setVm T2.vm) hZ2 hSx9.1
  have hown9 : (s.setVm T9.vm).vm.findClass "com/example/wunce/wunce/records/StoredRecord" = some m.cls := by rw [show (s.setVm T9.vm).vm = T9.vm from rfl, hSx9.1.alike.findClass]; exact hown2
  have X9 : Stand p l e _ (s.setVm T9.vm) m _ below meth c T9 _ _ _ := X9
  have hk9 : T9.heap.size ≤ T9.heap.size := Nat.le_refl _
  show Go ReturnedEndW p e below s 5 78 (Q3 Z a1 a2 h0 n0) (T9.setTop (mkF m 17 #[.val (.ref a1), .val (.ref a2)] [(.ref b1)]))
  refine Go.retRW X9 hS9 hk9 hx Bd.returns rfl rfl (hb hby d_prog_32_method_3_code_17) (BodyLoose.notSynchronized Bd) rfl (by decide) (by decide) ?_
  exact ⟨b1, rfl, N9, sz_b1, K09, xE9_1, xF9_2, xF9_3⟩
def Q4 (Z : State) (a1 : Addr) (t : Addr) (h0 : Heap) (v : Option Value) (h : Heap) (L : List Loc) : Prop := v = some (.int (1 : Int32)) ∧ L = [] ∧ h = h0
theorem ef_4 (m : MethodId) (a1 : Addr) : entryFrame m #[(.ref a1)] 1 = mkF m 0 #[.val (.ref a1)] [] := by first | (simp [entryFrame, mkF, argsToLocals, Value.category]; done) | rfl
set_option maxRecDepth 65536 in
set_option maxHeartbeats 40000000 in
theorem rm4 (l : Launch) (Z : State) (a0 : Array Value) (hw : ∀ d ∈ tables_1, d.before a0 Z = true) (ws : List Jvm.Cond) (a1 : Addr) (t : Addr) (h0 : Heap) (F_mResult_a1 : Fld Z h0 a1 "com/example/wunce/wunce/records/StoredRecord" "mResult" "[B" (.ref t)) :
    MetFree l (⟨"com/example/wunce/wunce/records/StoredRecord", "isCompleted", "()Z"⟩ : MethodName) (head1 (Jvm.Cond.code (⟨"com/example/wunce/wunce/records/StoredRecord", "isCompleted", "()Z"⟩ : MethodName) prog_32_method_5_code 1 (some .boolean) :: ws) ({ frames := 0, cells := 0, slots := 0, locals := 0 } : Room)) (fun a U => a = #[(.ref a1)] ∧ Z.Warmed39 U.vm ∧ U.heap = h0) (fun _ _ _ _ _ => True) (fun _ U o U' => ∃ v L, o = .returned v ∧ (Q4 Z a1 t h0) v U'.heap L ∧ FrameEnd U o U' L 0 0) := by
  refine MetFree.of_bodySF (plainFor_of_name pn_com_example_wunce_wunce_records_StoredRecord) hisR ?_
  intro p e s m args below meth c s₁ Bd hml0 hP hK
  obtain ⟨rfl, hZ, hh⟩ := hP
  have hx := Bd.exec
  have hby := Bd.bytes
  have hml : c.maxLocals = 1 := hml0
  have hown : s.vm.findClass "com/example/wunce/wunce/records/StoredRecord" = some m.cls := findClass_of_methodNamed Bd.named
  have hnm := (name_of_methodNamed Bd.named Bd.method).1
  have X0 : Stand p l e ({ frames := 0, cells := 0, slots := 0, locals := 0 } : Room) s m #[(.ref a1)] below meth c s₁ [] 0 0 := Stand.of_body Bd
  have e0 : s₁.heap = h0 := by rw [← hh, Bd.state]; rfl
  show Go FrameEnd p e below s 0 0 (Q4 Z a1 t h0) _
  refine Go.step (fun _ k => castTop (ef_4 m a1) k) ?_
  show Go FrameEnd p e below s 0 0 (Q4 Z a1 t h0) (s₁.setTop (mkF m 0 #[.val (.ref a1)] []))
  refine Go.step (fun _ k => XS.aloadN X0.here hx rfl (hb hby d_prog_32_method_5_code_0) rfl rfl k) ?_
  show Go FrameEnd p e below s 0 0 (Q4 Z a1 t h0) (s₁.setTop (mkF m 1 #[.val (.ref a1)] [(.ref a1)]))
  obtain ⟨T1, X1, e1, st1⟩ := getF X0 hx hZ hown (host := "") (Or.inl (hw _ (List.mem_of_getElem? (i := 30) rfl))) Via.refl e0 F_mResult_a1 (g := (mkF m 1 #[.val (.ref a1)] [(.ref a1)])) rfl rfl (hb hby d_prog_32_method_5_code_1)
  refine Go.step st1 ?_
  show Go FrameEnd p e below s 0 0 (Q4 Z a1 t h0) (T1.setTop (mkF m 4 #[.val (.ref a1)] [(.ref t)]))
  refine Go.step (fun _ k => XS.ifnullNo X1.here hx rfl (hb hby d_prog_32_method_5_code_4) rfl k) ?_
  show Go FrameEnd p e below s 0 0 (Q4 Z a1 t h0) (T1.setTop (mkF m 7 #[.val (.ref a1)] []))
  refine Go.step (fun _ k => XS.iconst X1.here hx rfl (hb hby d_prog_32_method_5_code_7) k) ?_
  show Go FrameEnd p e below s 0 0 (Q4 Z a1 t h0) (T1.setTop (mkF m 8 #[.val (.ref a1)] [(.int (1 : Int32))]))
  refine Go.step (fun _ k => XS.goto X1.here hx rfl (pc0 := 8) (pc' := 12) rfl (hb hby d_prog_32_method_5_code_8) (by decide) (by decide) k) ?_
  show Go FrameEnd p e below s 0 0 (Q4 Z a1 t h0) (T1.setTop (mkF m 12 #[.val (.ref a1)] [(.int (1 : Int32))]))
  refine Go.retN X1 hx (t := .boolean) Bd.returns (by simp) (by decide) (hb hby d_prog_32_method_5_code_12) (BodyLoose.notSynchronized Bd) e1 (by decide) (by decide) ?_
  exact ⟨rfl, rfl, rfl⟩
def Q5 (Z : State) (a1 : Addr) (t : Addr) (h0 : Heap) (v : Option Value) (h : Heap) (L : List Loc) : Prop := v = some (.ref t) ∧ L = [] ∧ h = h0
theorem ef_5 (m : MethodId) (a1 : Addr) : entryFrame m #[(.ref a1)] 1 = mkF m 0 #[.val (.ref a1)] [] := by first | (simp [entryFrame, mkF, argsToLocals, Value.category]; done) | rfl
set_option maxRecDepth 65536 in
set_option maxHeartbeats 40000000 in
theorem rm5 (l : Launch) (Z : State) (a0 : Array Value) (hw : ∀ d ∈ tables_1, d.before a0 Z = true) (ws : List Jvm.Cond) (a1 : Addr) (t : Addr) (h0 : Heap) (F_mFingerprint_a1 : Fld Z h0 a1 "com/example/wunce/wunce/records/StoredRecord" "mFingerprint" "[B" (.ref t)) :
    MetFree l (⟨"com/example/wunce/wunce/records/StoredRecord", "fingerprint", "()[B"⟩ : MethodName) (head1 (Jvm.Cond.code (⟨"com/example/wunce/wunce/records/StoredRecord", "fingerprint", "()[B"⟩ : MethodName) prog_32_method_4_code 1 (some (.array .byte)) :: ws) ({ frames := 0, cells := 0, slots := 0, locals := 0 } : Room)) (fun a U => a = #[(.ref a1)] ∧ Z.Warmed39 U.vm ∧ U.heap = h0) (fun _ _ _ _ _ => True) (fun _ U o U' => ∃ v L, o = .returned v ∧ (Q5 Z a1 t h0) v U'.heap L ∧ FrameEnd U o U' L 0 0) := by
  refine MetFree.of_bodySF (plainFor_of_name pn_com_example_wunce_wunce_records_StoredRecord) hisR ?_
  intro p e s m args below meth c s₁ Bd hml0 hP hK
  obtain ⟨rfl, hZ, hh⟩ := hP
  have hx := Bd.exec
  have hby := Bd.bytes
  have hml : c.maxLocals = 1 := hml0
  have hown : s.vm.findClass "com/example/wunce/wunce/records/StoredRecord" = some m.cls := findClass_of_methodNamed Bd.named
  have hnm := (name_of_methodNamed Bd.named Bd.method).1
  have X0 : Stand p l e ({ frames := 0, cells := 0, slots := 0, locals := 0 } : Room) s m #[(.ref a1)] below meth c s₁ [] 0 0 := Stand.of_body Bd
  have e0 : s₁.heap = h0 := by rw [← hh, Bd.state]; rfl
  show Go FrameEnd p e below s 0 0 (Q5 Z a1 t h0) _
  refine Go.step (fun _ k => castTop (ef_5 m a1) k) ?_
  show Go FrameEnd p e below s 0 0 (Q5 Z a1 t h0) (s₁.setTop (mkF m 0 #[.val (.ref a1)] []))
  refine Go.step (fun _ k => XS.aloadN X0.here hx rfl (hb hby d_prog_32_method_4_code_0) rfl rfl k) ?_
  show Go FrameEnd p e below s 0 0 (Q5 Z a1 t h0) (s₁.setTop (mkF m 1 #[.val (.ref a1)] [(.ref a1)]))
  obtain ⟨T1, X1, e1, st1⟩ := getF X0 hx hZ hown (host := "") (Or.inl (hw _ (List.mem_of_getElem? (i := 28) rfl))) Via.refl e0 F_mFingerprint_a1 (g := (mkF m 1 #[.val (.ref a1)] [(.ref a1)])) rfl rfl (hb hby d_prog_32_method_4_code_1)
  refine Go.step st1 ?_
  show Go FrameEnd p e below s 0 0 (Q5 Z a1 t h0) (T1.setTop (mkF m 4 #[.val (.ref a1)] [(.ref t)]))
  refine Go.retR X1 hx Bd.returns rfl rfl (hb hby d_prog_32_method_4_code_4) (BodyLoose.notSynchronized Bd) e1 (by decide) (by decide) ?_
  exact ⟨rfl, rfl, rfl⟩
def Q6 (Z : State) (a1 : Addr) (t : Addr) (h0 : Heap) (v : Option Value) (h : Heap) (L : List Loc) : Prop := v = some (.ref t) ∧ L = [] ∧ h = h0
theorem ef_6 (m : MethodId) (a1 : Addr) : entryFrame m #[(.ref a1)] 1 = mkF m 0 #[.val (.ref a1)] [] := by first | (simp [entryFrame, mkF, argsToLocals, Value.category]; done) | rfl
set_option maxRecDepth 65536 in
set_option maxHeartbeats 40000000 in
theorem rm6 (l : Launch) (Z : State) (a0 : Array Value) (hw : ∀ d ∈ tables_1, d.before a0 Z = true) (ws : List Jvm.Cond) (a1 : Addr) (t : Addr) (h0 : Heap) (F_mResult_a1 : Fld Z h0 a1 "com/example/wunce/wunce/records/StoredRecord" "mResult" "[B" (.ref t)) :
    MetFree l (⟨"com/example/wunce/wunce/records/StoredRecord", "result", "()[B"⟩ : MethodName) (head1 (Jvm.Cond.code (⟨"com/example/wunce/wunce/records/StoredRecord", "result", "()[B"⟩ : MethodName) prog_32_method_6_code 1 (some (.array .byte)) :: ws) ({ frames := 0, cells := 0, slots := 0, locals := 0 } : Room)) (fun a U => a = #[(.ref a1)] ∧ Z.Warmed39 U.vm ∧ U.heap = h0) (fun _ _ _ _ _ => True) (fun _ U o U' => ∃ v L, o = .returned v ∧ (Q6 Z a1 t h0) v U'.heap L ∧ FrameEnd U o U' L 0 0) := by
  refine MetFree.of_bodySF (plainFor_of_name pn_com_example_wunce_wunce_records_StoredRecord) hisR ?_
  intro p e s m args below meth c s₁ Bd hml0 hP hK
  obtain ⟨rfl, hZ, hh⟩ := hP
  have hx := Bd.exec
  have hby := Bd.bytes
  have hml : c.maxLocals = 1 := hml0
  have hown : s.vm.findClass "com/example/wunce/wunce/records/StoredRecord" = some m.cls := findClass_of_methodNamed Bd.named
  have hnm := (name_of_methodNamed Bd.named Bd.method).1
  have X0 : Stand p l e ({ frames := 0, cells := 0, slots := 0, locals := 0 } : Room) s m #[(.ref a1)] below meth c s₁ [] 0 0 := Stand.of_body Bd
  have e0 : s₁.heap = h0 := by rw [← hh, Bd.state]; rfl
  show Go FrameEnd p e below s 0 0 (Q6 Z a1 t h0) _
  refine Go.step (fun _ k => castTop (ef_6 m a1) k) ?_
  show Go FrameEnd p e below s 0 0 (Q6 Z a1 t h0) (s₁.setTop (mkF m 0 #[.val (.ref a1)] []))
  refine Go.step (fun _ k => XS.aloadN X0.here hx rfl (hb hby d_prog_32_method_6_code_0) rfl rfl k) ?_
  show Go FrameEnd p e below s 0 0 (Q6 Z a1 t h0) (s₁.setTop (mkF m 1 #[.val (.ref a1)] [(.ref a1)]))
  obtain ⟨T1, X1, e1, st1⟩ := getF X0 hx hZ hown (host := "") (Or.inl (hw _ (List.mem_of_getElem? (i := 30) rfl))) Via.refl e0 F_mResult_a1 (g := (mkF m 1 #[.val (.ref a1)] [(.ref a1)])) rfl rfl (hb hby d_prog_32_method_6_code_1)
  refine Go.step st1 ?_
  show Go FrameEnd p e below s 0 0 (Q6 Z a1 t h0) (T1.setTop (mkF m 4 #[.val (.ref a1)] [(.ref t)]))
  refine Go.retR X1 hx Bd.returns rfl rfl (hb hby d_prog_32_method_6_code_4) (BodyLoose.notSynchronized Bd) e1 (by decide) (by decide) ?_
  exact ⟨rfl, rfl, rfl⟩
def Q0 (Z : State) (p1 : Int32) (p2 : Int32) (p3 : Int32) (p4 : Int32) (h0 : Heap) (n0 : Nat) (v : Option Value) (h : Heap) (L : List Loc) : Prop := v = some (.int 1) ∧ Fr n0 L
theorem ef_0 (m : MethodId) (p1 : Int32) (p2 : Int32) (p3 : Int32) (p4 : Int32) : entryFrame m #[(.int p1), (.int p2), (.int p3), (.int p4)] maxLocals = mkF m 0 #[.val (.int p1), .val (.int p2), .val (.int p3), .val (.int p4), .unset, .unset, .unset, .unset, .unset, .unset, .unset] [] := by first | (simp [entryFrame, mkF, argsToLocals, Value.category, maxLocals]; done) | rfl
set_option maxRecDepth 65536 in
set_option maxHeartbeats 40000000 in
theorem rm0 (l : Launch) (Z : State) (a0 : Array Value) (hw : ∀ d ∈ tables_1, d.before a0 Z = true) (ws : List Jvm.Cond) (p1 : Int32) (p2 : Int32) (p3 : Int32) (p4 : Int32) (h0 : Heap) (n0 : Nat) (Z0 : n0 ≤ h0.size) :
    MetFree l x (head1 (Jvm.Cond.code x code maxLocals ret :: ws) room_1) (fun a U => a = #[(.int p1), (.int p2), (.int p3), (.int p4)] ∧ Z.Warmed39 U.vm ∧ U.heap = h0) (fun _ _ _ _ _ => True) (fun _ U o U' => ∃ v L, o = .returned v ∧ (Q0 Z p1 p2 p3 p4 h0 n0) v U'.heap L ∧ ReturnedEndW U o U' L 24 2176) := by
  refine MetFree.of_bodySF (plainFor_of_name pn_com_example_wunce_wunce_records_StoredRecordCompletedPinLaw) hisR ?_
  intro p e s m args below meth c s₁ Bd hml0 hP hK
  obtain ⟨rfl, hZ, hh⟩ := hP
  have hx := Bd.exec
  have hby := Bd.bytes
  have hml : c.maxLocals = 11 := hml0
  have hown : s.vm.findClass "com/example/wunce/wunce/records/StoredRecordCompletedPinLaw" = some m.cls := findClass_of_methodNamed Bd.named
  have hnm := (name_of_methodNamed Bd.named Bd.method).1
  have X0 : Stand p l e room_1 (s.setVm s.vm) m #[(.int p1), (.int p2), (.int p3), (.int p4)] below meth c s₁ [] 0 0 := Stand.of_body Bd
  have e0 : s₁.heap = h0 := by rw [← hh, Bd.state]; rfl
  have N0 := Fr.nil n0
  have hS0 : s.Since s.vm 0 := (State.WarmedH.refl s).since 0
  have hk0 : 0 ≤ h0.size := Nat.zero_le _
  show Go ReturnedEndW p e below s 24 2176 (Q0 Z p1 p2 p3 p4 h0 n0) _
  refine Go.step (fun _ k => castTop (ef_0 m p1 p2 p3 p4) k) ?_
  show Go ReturnedEndW p e below s 24 2176 (Q0 Z p1 p2 p3 p4 h0 n0) (s₁.setTop (mkF m 0 #[.val (.int p1), .val (.int p2), .val (.int p3), .val (.int p4), .unset, .unset, .unset, .unset, .unset, .unset, .unset] []))
  refine Go.step (fun _ k => XS.iconst X0.here hx rfl (hb hby at_0) k) ?_
  show Go ReturnedEndW p e below s 24 2176 (Q0 Z p1 p2 p3 p4 h0 n0) (s₁.setTop (mkF m 1 #[.val (.int p1), .val (.int p2), .val (.int p3), .val (.int p4), .unset, .unset, .unset, .unset, .unset, .unset, .unset] [(.int (2 : Int32))]))
  obtain ⟨T1, h1, k1, X1, e1, E1, A1, B1, st1⟩ := newPE X0 hx hZ (hw _ (List.mem_of_getElem? (i := 0) rfl)) e0 (g := (mkF m 1 #[.val (.int p1), .val (.int p2), .val (.int p3), .val (.int p4), .unset, .unset, .unset, .unset, .unset, .unset, .unset] [(.int (2 : Int32))])) rfl (hb hby at_1) rfl (by decide) (cap := 2) (by decide) (by decide) (by decide) (by decide) (ad := "[B") (by decide)
  refine Go.step st1 ?_
  obtain ⟨b1, g1⟩ : ∃ z, z = h0.size := ⟨_, rfl⟩
  rw [← g1] at A1 B1 ⊢
  have g_b1 : n0 ≤ b1 := Nat.le_trans Z0 (Nat.le_of_eq g1.symm)
  have Z1 : n0 ≤ h1.size := Nat.le_trans Z0 E1.1
  have hk1 : 0 ≤ h1.size := Nat.le_trans hk0 E1.1
  have V1 : Av Z h1 b1 .byte 2 (fun _ => (.int (0 : Int32))) := Av.new A1 (by decide) rfl
  show Go ReturnedEndW p e below s 24 2176 (Q0 Z p1 p2 p3 p4 h0 n0) (T1.setTop (mkF m 3 #[.val (.int p1), .val (.int p2), .val (.int p3), .val (.int p4), .unset, .unset, .unset, .unset, .unset, .unset, .unset] [(.ref b1)]))
  refine Go.step (fun _ k => XS.dup X1.here hx rfl (hb hby at_3) rfl rfl k) ?_
  show Go ReturnedEndW p e below s 24 2176 (Q0 Z p1 p2 p3 p4 h0 n0) (T1.setTop (mkF m 4 #[.val (.int p1), .val (.int p2), .val (.int p3), .val (.int p4), .unset, .unset, .unset, .unset, .unset, .unset, .unset] [(.ref b1), (.ref b1)]))
  refine Go.step (fun _ k => XS.iconst X1.here hx rfl (hb hby at_4) k) ?_
  show Go ReturnedEndW p e below s 24 2176 (Q0 Z p1 p2 p3 p4 h0 n0) (T1.setTop (mkF m 5 #[.val (.int p1), .val (.int p2), .val (.int p3), .val (.int p4), .unset, .unset, .unset, .unset, .unset, .unset, .unset] [(.int (0 : Int32)), (.ref b1), (.ref b1)]))
  refine Go.step (fun _ k => XS.iloadN X1.here hx rfl (hb hby at_5) rfl k) ?_
  show Go ReturnedEndW p e below s 24 2176 (Q0 Z p1 p2 p3 p4 h0 n0) (T1.setTop (mkF m 6 #[.val (.int p1), .val (.int p2), .val (.int p3), .val (.int p4), .unset, .unset, .unset, .unset, .unset, .unset, .unset] [(.int p1), (.int (0 : Int32)), (.ref b1), (.ref b1)]))
  refine Go.step (fun _ k => XS.i2b X1.here hx rfl (hb hby at_6) rfl k) ?_
  show Go ReturnedEndW p e below s 24 2176 (Q0 Z p1 p2 p3 p4 h0 n0) (T1.setTop (mkF m 7 #[.val (.int p1), .val (.int p2), .val (.int p3), .val (.int p4), .unset, .unset, .unset, .unset, .unset, .unset, .unset] [(.int p1.toInt8.toInt32), (.int (0 : Int32)), (.ref b1), (.ref b1)]))
  obtain ⟨c2, Ac2, Sc2, Mc2, Gc2⟩ := id V1
  obtain ⟨T3, h3, X3, e3, W3, st3⟩ := stB X1 hx hZ e1 Ac2 (j := (0 : Int32)) (own_in Sc2 (by decide) (by decide)) (g := (mkF m 7 #[.val (.int p1), .val (.int p2), .val (.int p3), .val (.int p4), .unset, .unset, .unset, .unset, .unset, .unset, .unset] [(.int p1.toInt8.toInt32), (.int (0 : Int32)), (.ref b1), (.ref b1)])) rfl rfl (hb hby at_7)
  refine Go.step st3 ?_
  rw [own_nar8] at W3
  have N3 := Fr.snoc X3 N0 g_b1
  have hk3 : 0 ≤ h3.size := Nat.le_trans hk1 (Keep.of_wr W3).1
  have Z3 : n0 ≤ h3.size := Nat.le_trans Z1 (Keep.of_wr W3).1
  have V3 : Av Z h3 b1 .byte 2 (aset (fun _ => (.int (0 : Int32))) 0 (.int p1.toInt8.toInt32)) := Av.set Ac2 Sc2 Mc2 Gc2 W3 (by rfl) (own_in Sc2 (by decide) (by decide))
  show Go ReturnedEndW p e below s 24 2176 (Q0 Z p1 p2 p3 p4 h0 n0) (T3.setTop (mkF m 8 #[.val (.int p1), .val (.int p2), .val (.int p3), .val (.int p4), .unset, .unset, .unset, .unset, .unset, .unset, .unset] [(.ref b1)]))
  refine Go.step (fun _ k => XS.dup X3.here hx rfl (hb hby at_8) rfl rfl k) ?_
  show Go ReturnedEndW p e below s 24 2176 (Q0 Z p1 p2 p3 p4 h0 n0) (T3.setTop (mkF m 9 #[.val (.int p1), .val (.int p2), .val (.int p3), .val (.int p4), .unset, .unset, .unset, .unset, .unset, .unset, .unset] [(.ref b1), (.ref b1)]))
  refine Go.step (fun _ k => XS.iconst X3.here hx rfl (hb hby at_9) k) ?_
  show Go ReturnedEndW p e below s 24 2176 (Q0 Z p1 p2 p3 p4 h0 n0) (T3.setTop (mkF m 10 #[.val (.int p1), .val (.int p2), .val (.int p3), .val (.int p4), .unset, .unset, .unset, .unset, .unset, .unset, .unset] [(.int (1 : Int32)), (.ref b1), (.ref b1)]))
  refine Go.step (fun _ k => XS.iloadN X3.here hx rfl (hb hby at_10) rfl k) ?_
  show Go ReturnedEndW p e below s 24 2176 (Q0 Z p1 p2 p3 p4 h0 n0) (T3.setTop (mkF m 11 #[.val (.int p1), .val (.int p2), .val (.int p3), .val (.int p4), .unset, .unset, .unset, .unset, .unset, .unset, .unset] [(.int p2), (.int (1 : Int32)), (.ref b1), (.ref b1)]))
  refine Go.step (fun _ k => XS.i2b X3.here hx rfl (hb hby at_11) rfl k) ?_
  show Go ReturnedEndW p e below s 24 2176 (Q0 Z p1 p2 p3 p4 h0 n0) (T3.setTop (mkF m 12 #[.val (.int p1), .val (.int p2), .val (.int p3), .val (.int p4), .unset, .unset, .unset, .unset, .unset, .unset, .unset] [(.int p2.toInt8.toInt32), (.int (1 : Int32)), (.ref b1), (.ref b1)]))
  obtain ⟨c4, Ac4, Sc4, Mc4, Gc4⟩ := id V3
  obtain ⟨T5, h5, X5, e5, W5, st5⟩ := stB X3 hx hZ e3 Ac4 (j := (1 : Int32)) (own_in Sc4 (by decide) (by decide)) (g := (mkF m 12 #[.val (.int p1), .val (.int p2), .val (.int p3), .val (.int p4), .unset, .unset, .unset, .unset, .unset, .unset, .unset] [(.int p2.toInt8.toInt32), (.int (1 : Int32)), (.ref b1), (.ref b1)])) rfl rfl (hb hby at_12)
  refine Go.step st5 ?_
  rw [own_nar8] at W5
  have N5 := Fr.snoc X5 N3 g_b1
  have hk5 : 0 ≤ h5.size := Nat.le_trans hk3 (Keep.of_wr W5).1
  have Z5 : n0 ≤ h5.size := Nat.le_trans Z3 (Keep.of_wr W5).1
  have V5 : Av Z h5 b1 .byte 2 (aset (aset (fun _ => (.int (0 : Int32))) 0 (.int p1.toInt8.toInt32)) 1 (.int p2.toInt8.toInt32)) := Av.set Ac4 Sc4 Mc4 Gc4 W5 (by rfl) (own_in Sc4 (by decide) (by decide))
  show Go ReturnedEndW p e below s 24 2176 (Q0 Z p1 p2 p3 p4 h0 n0) (T5.setTop (mkF m 13 #[.val (.int p1), .val (.int p2), .val (.int p3), .val (.int p4), .unset, .unset, .unset, .unset, .unset, .unset, .unset] [(.ref b1)]))
  refine Go.step (fun _ k => XS.astore X5.here hx rfl (hb hby at_13) rfl rfl (l' := #[.val (.int p1), .val (.int p2), .val (.int p3), .val (.int p4), .val (.ref b1), .unset, .unset, .unset, .unset, .unset, .unset]) rfl k) ?_
  show Go ReturnedEndW p e below s 24 2176 (Q0 Z p1 p2 p3 p4 h0 n0) (T5.setTop (mkF m 15 #[.val (.int p1), .val (.int p2), .val (.int p3), .val (.int p4), .val (.ref b1), .unset, .unset, .unset, .unset, .unset, .unset] []))
  refine Go.step (fun _ k => XS.iconst X5.here hx rfl (hb hby at_15) k) ?_
  show Go ReturnedEndW p e below s 24 2176 (Q0 Z p1 p2 p3 p4 h0 n0) (T5.setTop (mkF m 16 #[.val (.int p1), .val (.int p2), .val (.int p3), .val (.int p4), .val (.ref b1), .unset, .unset, .unset, .unset, .unset, .unset] [(.int (1 : Int32))]))
  obtain ⟨T6, h6, k6, X6, e6, E6, A6, B6, st6⟩ := newPE X5 hx hZ (hw _ (List.mem_of_getElem? (i := 0) rfl)) e5 (g := (mkF m 16 #[.val (.int p1), .val (.int p2), .val (.int p3), .val (.int p4), .val (.ref b1), .unset, .unset, .unset, .unset, .unset, .unset] [(.int (1 : Int32))])) rfl (hb hby at_16) rfl (by decide) (cap := 1) (by decide) (by decide) (by decide) (by decide) (ad := "[B") (by decide)
  refine Go.step st6 ?_
  have f_7 := ((B1.wr W3).wr W5)
  obtain ⟨b6, g6⟩ : ∃ z, z = h5.size := ⟨_, rfl⟩
  rw [← g6] at A6 B6 ⊢
  have ne_b1_b6 : b1 ≠ b6 := Nat.ne_of_lt (Nat.lt_of_lt_of_le f_7.lt (Nat.le_of_eq g6.symm))
  have g_b6 : n0 ≤ b6 := Nat.le_trans Z5 (Nat.le_of_eq g6.symm)
  have Z6 : n0 ≤ h6.size := Nat.le_trans Z5 E6.1
  have hk6 : 0 ≤ h6.size := Nat.le_trans hk5 E6.1
  have V6 : Av Z h6 b6 .byte 1 (fun _ => (.int (0 : Int32))) := Av.new A6 (by decide) rfl
  show Go ReturnedEndW p e below s 24 2176 (Q0 Z p1 p2 p3 p4 h0 n0) (T6.setTop (mkF m 18 #[.val (.int p1), .val (.int p2), .val (.int p3), .val (.int p4), .val (.ref b1), .unset, .unset, .unset, .unset, .unset, .unset] [(.ref b6)]))
  refine Go.step (fun _ k => XS.dup X6.here hx rfl (hb hby at_18) rfl rfl k) ?_
  show Go ReturnedEndW p e below s 24 2176 (Q0 Z p1 p2 p3 p4 h0 n0) (T6.setTop (mkF m 19 #[.val (.int p1), .val (.int p2), .val (.int p3), .val (.int p4), .val (.ref b1), .unset, .unset, .unset, .unset, .unset, .unset] [(.ref b6), (.ref b6)]))
  refine Go.step (fun _ k => XS.iconst X6.here hx rfl (hb hby at_19) k) ?_
  show Go ReturnedEndW p e below s 24 2176 (Q0 Z p1 p2 p3 p4 h0 n0) (T6.setTop (mkF m 20 #[.val (.int p1), .val (.int p2), .val (.int p3), .val (.int p4), .val (.ref b1), .unset, .unset, .unset, .unset, .unset, .unset] [(.int (0 : Int32)), (.ref b6), (.ref b6)]))
  refine Go.step (fun _ k => XS.iloadN X6.here hx rfl (hb hby at_20) rfl k) ?_
  show Go ReturnedEndW p e below s 24 2176 (Q0 Z p1 p2 p3 p4 h0 n0) (T6.setTop (mkF m 21 #[.val (.int p1), .val (.int p2), .val (.int p3), .val (.int p4), .val (.ref b1), .unset, .unset, .unset, .unset, .unset, .unset] [(.int p3), (.int (0 : Int32)), (.ref b6), (.ref b6)]))
  refine Go.step (fun _ k => XS.i2b X6.here hx rfl (hb hby at_21) rfl k) ?_
  show Go ReturnedEndW p e below s 24 2176 (Q0 Z p1 p2 p3 p4 h0 n0) (T6.setTop (mkF m 22 #[.val (.int p1), .val (.int p2), .val (.int p3), .val (.int p4), .val (.ref b1), .unset, .unset, .unset, .unset, .unset, .unset] [(.int p3.toInt8.toInt32), (.int (0 : Int32)), (.ref b6), (.ref b6)]))
  obtain ⟨c8, Ac8, Sc8, Mc8, Gc8⟩ := id V6
  obtain ⟨T9, h9, X9, e9, W9, st9⟩ := stB X6 hx hZ e6 Ac8 (j := (0 : Int32)) (own_in Sc8 (by decide) (by decide)) (g := (mkF m 22 #[.val (.int p1), .val (.int p2), .val (.int p3), .val (.int p4), .val (.ref b1), .unset, .unset, .unset, .unset, .unset, .unset] [(.int p3.toInt8.toInt32), (.int (0 : Int32)), (.ref b6), (.ref b6)])) rfl rfl (hb hby at_22)
  refine Go.step st9 ?_
  rw [own_nar8] at W9
  have N9 := Fr.snoc X9 N5 g_b6
  have hk9 : 0 ≤ h9.size := Nat.le_trans hk6 (Keep.of_wr W9).1
  have Z9 : n0 ≤ h9.size := Nat.le_trans Z6 (Keep.of_wr W9).1
  have V9 : Av Z h9 b6 .byte 1 (aset (fun _ => (.int (0 : Int32))) 0 (.int p3.toInt8.toInt32)) := Av.set Ac8 Sc8 Mc8 Gc8 W9 (by rfl) (own_in Sc8 (by decide) (by decide))
  show Go ReturnedEndW p e below s 24 2176 (Q0 Z p1 p2 p3 p4 h0 n0) (T9.setTop (mkF m 23 #[.val (.int p1), .val (.int p2), .val (.int p3), .val (.int p4), .val (.ref b1), .unset, .unset, .unset, .unset, .unset, .unset] [(.ref b6)]))
  refine Go.step (fun _ k => XS.astore X9.here hx rfl (hb hby at_23) rfl rfl (l' := #[.val (.int p1), .val (.int p2), .val (.int p3), .val (.int p4), .val (.ref b1), .val (.ref b6), .unset, .unset, .unset, .unset, .unset]) rfl k) ?_
  show Go ReturnedEndW p e below s 24 2176 (Q0 Z p1 p2 p3 p4 h0 n0) (T9.setTop (mkF m 25 #[.val (.int p1), .val (.int p2), .val (.int p3), .val (.int p4), .val (.ref b1), .val (.ref b6), .unset, .unset, .unset, .unset, .unset] []))
  refine Go.step (fun _ k => XS.iconst X9.here hx rfl (hb hby at_25) k) ?_
  show Go ReturnedEndW p e below s 24 2176 (Q0 Z p1 p2 p3 p4 h0 n0) (T9.setTop (mkF m 26 #[.val (.int p1), .val (.int p2), .val (.int p3), .val (.int p4), .val (.ref b1), .val (.ref b6), .unset, .unset, .unset, .unset, .unset] [(.int (0 : Int32))]))
  obtain ⟨T10, h10, k10, X10, e10, E10, A10, B10, st10⟩ := newPE X9 hx hZ (hw _ (List.mem_of_getElem? (i := 0) rfl)) e9 (g := (mkF m 26 #[.val (.int p1), .val (.int p2), .val (.int p3), .val (.int p4), .val (.ref b1), .val (.ref b6), .unset, .unset, .unset, .unset, .unset] [(.int (0 : Int32))])) rfl (hb hby at_26) rfl (by decide) (cap := 0) (by decide) (by decide) (by decide) (by decide) (ad := "[B") (by decide)
  refine Go.step st10 ?_
  have f_11 := ((f_7.ext E6).wr W9)
  obtain ⟨b10, g10⟩ : ∃ z, z = h9.size := ⟨_, rfl⟩
  rw [← g10] at A10 B10 ⊢
  have ne_b1_b10 : b1 ≠ b10 := Nat.ne_of_lt (Nat.lt_of_lt_of_le f_11.lt (Nat.le_of_eq g10.symm))
  have ne_b6_b10 : b6 ≠ b10 := Nat.ne_of_lt (Nat.lt_of_lt_of_le (B6.wr W9).lt (Nat.le_of_eq g10.symm))
  have g_b10 : n0 ≤ b10 := Nat.le_trans Z9 (Nat.le_of_eq g10.symm)
  have Z10 : n0 ≤ h10.size := Nat.le_trans Z9 E10.1
  have hk10 : 0 ≤ h10.size := Nat.le_trans hk9 E10.1
  have V10 : Av Z h10 b10 .byte 0 (fun _ => (.int (0 : Int32))) := Av.new A10 (by decide) rfl
  show Go ReturnedEndW p e below s 24 2176 (Q0 Z p1 p2 p3 p4 h0 n0) (T10.setTop (mkF m 28 #[.val (.int p1), .val (.int p2), .val (.int p3), .val (.int p4), .val (.ref b1), .val (.ref b6), .unset, .unset, .unset, .unset, .unset] [(.ref b10)]))
  refine Go.step (fun _ k => XS.astore X10.here hx rfl (hb hby at_28) rfl rfl (l' := #[.val (.int p1), .val (.int p2), .val (.int p3), .val (.int p4), .val (.ref b1), .val (.ref b6), .val (.ref b10), .unset, .unset, .unset, .unset]) rfl k) ?_
  show Go ReturnedEndW p e below s 24 2176 (Q0 Z p1 p2 p3 p4 h0 n0) (T10.setTop (mkF m 30 #[.val (.int p1), .val (.int p2), .val (.int p3), .val (.int p4), .val (.ref b1), .val (.ref b6), .val (.ref b10), .unset, .unset, .unset, .unset] []))
  refine Go.step (fun _ k => XS.iloadN X10.here hx rfl (hb hby at_30) rfl k) ?_
  show Go ReturnedEndW p e below s 24 2176 (Q0 Z p1 p2 p3 p4 h0 n0) (T10.setTop (mkF m 31 #[.val (.int p1), .val (.int p2), .val (.int p3), .val (.int p4), .val (.ref b1), .val (.ref b6), .val (.ref b10), .unset, .unset, .unset, .unset] [(.int p4)]))
  refine Go.step (X10.ldcInt hx hown (mvT hZ (hw _ (List.mem_of_getElem? (i := 1) rfl))) (g := (mkF m 31 #[.val (.int p1), .val (.int p2), .val (.int p3), .val (.int p4), .val (.ref b1), .val (.ref b6), .val (.ref b10), .unset, .unset, .unset, .unset] [(.int p4)])) rfl (hb hby at_31)) ?_
  show Go ReturnedEndW p e below s 24 2176 (Q0 Z p1 p2 p3 p4 h0 n0) (T10.setTop (mkF m 33 #[.val (.int p1), .val (.int p2), .val (.int p3), .val (.int p4), .val (.ref b1), .val (.ref b6), .val (.ref b10), .unset, .unset, .unset, .unset] [(.int (2147483647 : Int32)), (.int p4)]))
  refine Go.step (fun _ k => XS.iand X10.here hx rfl (hb hby at_33) rfl k) ?_
  show Go ReturnedEndW p e below s 24 2176 (Q0 Z p1 p2 p3 p4 h0 n0) (T10.setTop (mkF m 34 #[.val (.int p1), .val (.int p2), .val (.int p3), .val (.int p4), .val (.ref b1), .val (.ref b6), .val (.ref b10), .unset, .unset, .unset, .unset] [(.int (p4 &&& (2147483647 : Int32)))]))
  refine Go.step (fun _ k => XS.iconst X10.here hx rfl (hb hby at_34) k) ?_
  show Go ReturnedEndW p e below s 24 2176 (Q0 Z p1 p2 p3 p4 h0 n0) (T10.setTop (mkF m 35 #[.val (.int p1), .val (.int p2), .val (.int p3), .val (.int p4), .val (.ref b1), .val (.ref b6), .val (.ref b10), .unset, .unset, .unset, .unset] [(.int (3 : Int32)), (.int (p4 &&& (2147483647 : Int32)))]))
  refine Go.step (fun _ k => iremM X10 hx rfl (hb hby at_35) rfl (by decide) k) ?_
  show Go ReturnedEndW p e below s 24 2176 (Q0 Z p1 p2 p3 p4 h0 n0) (T10.setTop (mkF m 36 #[.val (.int p1), .val (.int p2), .val (.int p3), .val (.int p4), .val (.ref b1), .val (.ref b6), .val (.ref b10), .unset, .unset, .unset, .unset] [(.int ((p4 &&& (2147483647 : Int32)) % (3 : Int32)))]))
  refine Go.step (fun _ k => XS.istore X10.here hx rfl (hb hby at_36) rfl (l' := #[.val (.int p1), .val (.int p2), .val (.int p3), .val (.int p4), .val (.ref b1), .val (.ref b6), .val (.ref b10), .val (.int ((p4 &&& (2147483647 : Int32)) % (3 : Int32))), .unset, .unset, .unset]) rfl k) ?_
  show Go ReturnedEndW p e below s 24 2176 (Q0 Z p1 p2 p3 p4 h0 n0) (T10.setTop (mkF m 38 #[.val (.int p1), .val (.int p2), .val (.int p3), .val (.int p4), .val (.ref b1), .val (.ref b6), .val (.ref b10), .val (.int ((p4 &&& (2147483647 : Int32)) % (3 : Int32))), .unset, .unset, .unset] []))
  refine Go.step (fun _ k => XS.iload X10.here hx rfl (hb hby at_38) rfl k) ?_
  show Go ReturnedEndW p e below s 24 2176 (Q0 Z p1 p2 p3 p4 h0 n0) (T10.setTop (mkF m 40 #[.val (.int p1), .val (.int p2), .val (.int p3), .val (.int p4), .val (.ref b1), .val (.ref b6), .val (.ref b10), .val (.int ((p4 &&& (2147483647 : Int32)) % (3 : Int32))), .unset, .unset, .unset] [(.int ((p4 &&& (2147483647 : Int32)) % (3 : Int32)))]))
  by_cases hc40 : ((p4 &&& (2147483647 : Int32)) % (3 : Int32)) = (0 : Int32)
  · skip
    refine Go.step (fun _ k => XS.ifNo X10.here hx rfl (hb hby at_40) rfl ((if0 _ _).trans (teq hc40).2) k) ?_
    show Go ReturnedEndW p e below s 24 2176 (Q0 Z p1 p2 p3 p4 h0 n0) (T10.setTop (mkF m 43 #[.val (.int p1), .val (.int p2), .val (.int p3), .val (.int p4), .val (.ref b1), .val (.ref b6), .val (.ref b10), .val (.int ((p4 &&& (2147483647 : Int32)) % (3 : Int32))), .unset, .unset, .unset] []))
    refine Go.step (fun _ k => XS.aload X10.here hx rfl (hb hby at_43) rfl rfl k) ?_
    show Go ReturnedEndW p e below s 24 2176 (Q0 Z p1 p2 p3 p4 h0 n0) (T10.setTop (mkF m 45 #[.val (.int p1), .val (.int p2), .val (.int p3), .val (.int p4), .val (.ref b1), .val (.ref b6), .val (.ref b10), .val (.int ((p4 &&& (2147483647 : Int32)) % (3 : Int32))), .unset, .unset, .unset] [(.ref b6)]))
    refine Go.step (fun _ k => XS.goto X10.here hx rfl (pc0 := 45) (pc' := 61) rfl (hb hby at_45) (by decide) (by decide) k) ?_
    show Go ReturnedEndW p e below s 24 2176 (Q0 Z p1 p2 p3 p4 h0 n0) (T10.setTop (mkF m 61 #[.val (.int p1), .val (.int p2), .val (.int p3), .val (.int p4), .val (.ref b1), .val (.ref b6), .val (.ref b10), .val (.int ((p4 &&& (2147483647 : Int32)) % (3 : Int32))), .unset, .unset, .unset] [(.ref b6)]))
    refine Go.step (fun _ k => XS.astore X10.here hx rfl (hb hby at_61) rfl rfl (l' := #[.val (.int p1), .val (.int p2), .val (.int p3), .val (.int p4), .val (.ref b1), .val (.ref b6), .val (.ref b10), .val (.int ((p4 &&& (2147483647 : Int32)) % (3 : Int32))), .val (.ref b6), .unset, .unset]) rfl k) ?_
    show Go ReturnedEndW p e below s 24 2176 (Q0 Z p1 p2 p3 p4 h0 n0) (T10.setTop (mkF m 63 #[.val (.int p1), .val (.int p2), .val (.int p3), .val (.int p4), .val (.ref b1), .val (.ref b6), .val (.ref b10), .val (.int ((p4 &&& (2147483647 : Int32)) % (3 : Int32))), .val (.ref b6), .unset, .unset] []))
    refine Go.step (fun _ k => XS.aload X10.here hx rfl (hb hby at_63) rfl rfl k) ?_
    show Go ReturnedEndW p e below s 24 2176 (Q0 Z p1 p2 p3 p4 h0 n0) (T10.setTop (mkF m 65 #[.val (.int p1), .val (.int p2), .val (.int p3), .val (.int p4), .val (.ref b1), .val (.ref b6), .val (.ref b10), .val (.int ((p4 &&& (2147483647 : Int32)) % (3 : Int32))), .val (.ref b6), .unset, .unset] [(.ref b1)]))
    refine Go.step (fun _ k => XS.aload X10.here hx rfl (hb hby at_65) rfl rfl k) ?_
    show Go ReturnedEndW p e below s 24 2176 (Q0 Z p1 p2 p3 p4 h0 n0) (T10.setTop (mkF m 67 #[.val (.int p1), .val (.int p2), .val (.int p3), .val (.int p4), .val (.ref b1), .val (.ref b6), .val (.ref b10), .val (.int ((p4 &&& (2147483647 : Int32)) % (3 : Int32))), .val (.ref b6), .unset, .unset] [(.ref b6), (.ref b1)]))
    have f_12 := (f_11.ext E10)
    have f_13 := ((B6.wr W9).ext E10)
    obtain ⟨_, _, ⟨T14, L14, k14, n14⟩, -, X14, hSx14, hgr14, ⟨Lc14, hQ14, l14, y14, z14⟩, st14⟩ := callSS X10 hx (y := (⟨"com/example/wunce/wunce/records/StoredRecord", "completed", "([B[B)Lcom/example/wunce/wunce/records/StoredRecord;"⟩ : MethodName)) hown (mvT hZ (hw _ (List.mem_of_getElem? (i := 2) rfl))) (mvT hZ (hw _ (List.mem_of_getElem? (i := 3) rfl))) (mvT hZ (hw _ (List.mem_of_getElem? (i := 4) rfl))) (mvT hZ (hw _ (List.mem_of_getElem? (i := 5) rfl))) (by decide) (backOfS (W := 0) (rm3 l Z a0 hw [] b1 b6  h10 n0 Z10 f_12 f_13) hZ (hw _ (List.mem_of_getElem? (i := 5) rfl)) (hw _ (List.mem_of_getElem? (i := 4) rfl)) (by decide) (by decide)) (g := (mkF m 67 #[.val (.int p1), .val (.int p2), .val (.int p3), .val (.int p4), .val (.ref b1), .val (.ref b6), .val (.ref b10), .val (.int ((p4 &&& (2147483647 : Int32)) % (3 : Int32))), .val (.ref b6), .unset, .unset] [(.ref b6), (.ref b1)])) rfl (by rw [hml]; rfl) (argsL := [(.ref b1), (.ref b6)]) (rest := []) (lenOf pd___B_B_Lcom_example_wunce_wunce_records_StoredRecord_ rfl) rfl (by show 2 * 0 + _ ≤ _; exact Nat.le_of_eq rfl) (hb hby at_67) (fun _ _ => ⟨rfl, e10, (by decide : 3 + 5 ≤ _), (by decide : 3 + 78 ≤ _)⟩)
    dsimp only [Pt.U, Pt.locs, Pt.cells, Pt.slots] at X14 l14 y14 z14 st14 hQ14
    subst l14 y14 z14
    obtain ⟨b14a, rfl, N14q, szb14a, K14_0, xE14_1, xF14_2, xF14_3⟩ := hQ14
    have N14 := Fr.app N9 N14q
    have ne_b1_b14a : b1 ≠ b14a := Nat.ne_of_lt (Nat.lt_of_lt_of_le f_12.lt szb14a)
    have ne_b6_b14a : b6 ≠ b14a := Nat.ne_of_lt (Nat.lt_of_lt_of_le f_13.lt szb14a)
    have ne_b10_b14a : b10 ≠ b14a := Nat.ne_of_lt (Nat.lt_of_lt_of_le B10.lt szb14a)
    have g_b14a : n0 ≤ b14a := Nat.le_trans Z10 szb14a
    have Z14 : n0 ≤ T14.heap.size := Nat.le_trans Z10 K14_0.1
    refine Go.hop st14 ?_
    have hS14 : s.Since T14.vm T14.heap.size := hS0.trans hSx14 (Nat.le_trans hk10 (by rw [e10] at hgr14; exact hgr14))
    have hZ14 : Z.Warmed39 (s.setVm T14.vm).vm := State.Warmed39.trans (t := s.setVm s.vm) hZ hSx14.1
    have hown14 : (s.setVm T14.vm).vm.findClass "com/example/wunce/wunce/records/StoredRecordCompletedPinLaw" = some m.cls := by rw [show (s.setVm T14.vm).vm = T14.vm from rfl, hSx14.1.alike.findClass]; exact hown
    have X14 : Stand p l e _ (s.setVm T14.vm) m _ below meth c T14 _ _ _ := X14
    have hk14 : T14.heap.size ≤ T14.heap.size := Nat.le_refl _
    show Go ReturnedEndW p e below s 24 2176 (Q0 Z p1 p2 p3 p4 h0 n0) (T14.setTop (mkF m 70 #[.val (.int p1), .val (.int p2), .val (.int p3), .val (.int p4), .val (.ref b1), .val (.ref b6), .val (.ref b10), .val (.int ((p4 &&& (2147483647 : Int32)) % (3 : Int32))), .val (.ref b6), .unset, .unset] [(.ref b14a)]))
    refine Go.step (fun _ k => XS.astore X14.here hx rfl (hb hby at_70) rfl rfl (l' := #[.val (.int p1), .val (.int p2), .val (.int p3), .val (.int p4), .val (.ref b1), .val (.ref b6), .val (.ref b10), .val (.int ((p4 &&& (2147483647 : Int32)) % (3 : Int32))), .val (.ref b6), .val (.ref b14a), .unset]) rfl k) ?_
    show Go ReturnedEndW p e below s 24 2176 (Q0 Z p1 p2 p3 p4 h0 n0) (T14.setTop (mkF m 72 #[.val (.int p1), .val (.int p2), .val (.int p3), .val (.int p4), .val (.ref b1), .val (.ref b6), .val (.ref b10), .val (.int ((p4 &&& (2147483647 : Int32)) % (3 : Int32))), .val (.ref b6), .val (.ref b14a), .unset] []))
    refine Go.step (fun _ k => XS.aload X14.here hx rfl (hb hby at_72) rfl rfl k) ?_
    show Go ReturnedEndW p e below s 24 2176 (Q0 Z p1 p2 p3 p4 h0 n0) (T14.setTop (mkF m 74 #[.val (.int p1), .val (.int p2), .val (.int p3), .val (.int p4), .val (.ref b1), .val (.ref b6), .val (.ref b10), .val (.int ((p4 &&& (2147483647 : Int32)) % (3 : Int32))), .val (.ref b6), .val (.ref b14a), .unset] [(.ref b14a)]))
    refine Go.step (fun _ k => XS.ifnonnullYes X14.here hx rfl (pc0 := 74) (pc' := 79) rfl (hb hby at_74) rfl (by decide) (by decide) k) ?_
    show Go ReturnedEndW p e below s 24 2176 (Q0 Z p1 p2 p3 p4 h0 n0) (T14.setTop (mkF m 79 #[.val (.int p1), .val (.int p2), .val (.int p3), .val (.int p4), .val (.ref b1), .val (.ref b6), .val (.ref b10), .val (.int ((p4 &&& (2147483647 : Int32)) % (3 : Int32))), .val (.ref b6), .val (.ref b14a), .unset] []))
    refine Go.step (fun _ k => XS.aload X14.here hx rfl (hb hby at_79) rfl rfl k) ?_
    show Go ReturnedEndW p e below s 24 2176 (Q0 Z p1 p2 p3 p4 h0 n0) (T14.setTop (mkF m 81 #[.val (.int p1), .val (.int p2), .val (.int p3), .val (.int p4), .val (.ref b1), .val (.ref b6), .val (.ref b10), .val (.int ((p4 &&& (2147483647 : Int32)) % (3 : Int32))), .val (.ref b6), .val (.ref b14a), .unset] [(.ref b14a)]))
    obtain ⟨cq15, kq15, q15a, q15b, q15c⟩ := isOf hZ14 rfl xE14_1
    obtain ⟨_, _, ⟨T15, L15, k15, n15⟩, -, X15, ⟨Lc15, hQ15, l15, y15, z15⟩, st15⟩ := X14.virtualBack hx (y := (⟨"com/example/wunce/wunce/records/StoredRecord", "isCompleted", "()Z"⟩ : MethodName)) (z := (⟨"com/example/wunce/wunce/records/StoredRecord", "isCompleted", "()Z"⟩ : MethodName)) hown14 (mvT hZ14 (hw _ (List.mem_of_getElem? (i := 32) rfl))) (mvT hZ14 (hw _ (List.mem_of_getElem? (i := 33) rfl))) (notFace_of_selects (args := #[]) (mvT hZ14 (hw _ (List.mem_of_getElem? (i := 35) rfl)))) (mvT hZ14 (hw _ (List.mem_of_getElem? (i := 35) rfl))) (mvT hZ14 (hw _ (List.mem_of_getElem? (i := 34) rfl))) (by decide) (backOf (W := 0) (rm4 l Z a0 hw [] b14a b6 T14.heap xF14_3) hZ14 (hw _ (List.mem_of_getElem? (i := 36) rfl)) (hw _ (List.mem_of_getElem? (i := 4) rfl)) (by decide) (by decide)) q15a q15c (g := (mkF m 81 #[.val (.int p1), .val (.int p2), .val (.int p3), .val (.int p4), .val (.ref b1), .val (.ref b6), .val (.ref b10), .val (.int ((p4 &&& (2147483647 : Int32)) % (3 : Int32))), .val (.ref b6), .val (.ref b14a), .unset] [(.ref b14a)])) rfl (by rw [hml]; rfl) (Steps.refl _) (argsL := []) (rest := []) (lenOf pd___Z rfl) rfl (by show 2 * 0 + _ ≤ _; exact Nat.le_of_eq rfl) (hb hby at_81) (fun _ _ => ⟨rfl, rfl, (by decide : 8 + 0 ≤ _), (by decide : 81 + 0 ≤ _)⟩)
    dsimp only [Pt.U, Pt.locs, Pt.cells, Pt.slots] at X15 l15 y15 z15 st15 hQ15
    subst l15 y15 z15
    obtain ⟨rfl, rfl, e15⟩ := hQ15
    have N15 := Fr.app N14 (Fr.nil n0)
    refine Go.hop st15 ?_
    show Go ReturnedEndW p e below s 24 2176 (Q0 Z p1 p2 p3 p4 h0 n0) (T15.setTop (mkF m 84 #[.val (.int p1), .val (.int p2), .val (.int p3), .val (.int p4), .val (.ref b1), .val (.ref b6), .val (.ref b10), .val (.int ((p4 &&& (2147483647 : Int32)) % (3 : Int32))), .val (.ref b6), .val (.ref b14a), .unset] [(.int (1 : Int32))]))
    refine Go.step (fun _ k => XS.istore X15.here hx rfl (hb hby at_84) rfl (l' := #[.val (.int p1), .val (.int p2), .val (.int p3), .val (.int p4), .val (.ref b1), .val (.ref b6), .val (.ref b10), .val (.int ((p4 &&& (2147483647 : Int32)) % (3 : Int32))), .val (.ref b6), .val (.ref b14a), .val (.int (1 : Int32))]) rfl k) ?_
    show Go ReturnedEndW p e below s 24 2176 (Q0 Z p1 p2 p3 p4 h0 n0) (T15.setTop (mkF m 86 #[.val (.int p1), .val (.int p2), .val (.int p3), .val (.int p4), .val (.ref b1), .val (.ref b6), .val (.ref b10), .val (.int ((p4 &&& (2147483647 : Int32)) % (3 : Int32))), .val (.ref b6), .val (.ref b14a), .val (.int (1 : Int32))] []))
    refine Go.step (fun _ k => XS.iload X15.here hx rfl (hb hby at_86) rfl k) ?_
    show Go ReturnedEndW p e below s 24 2176 (Q0 Z p1 p2 p3 p4 h0 n0) (T15.setTop (mkF m 88 #[.val (.int p1), .val (.int p2), .val (.int p3), .val (.int p4), .val (.ref b1), .val (.ref b6), .val (.ref b10), .val (.int ((p4 &&& (2147483647 : Int32)) % (3 : Int32))), .val (.ref b6), .val (.ref b14a), .val (.int (1 : Int32))] [(.int (1 : Int32))]))
    refine Go.step (fun _ k => XS.ifNo X15.here hx rfl (hb hby at_88) rfl ((if0 _ _).trans (feq (by decide)).1) k) ?_
    show Go ReturnedEndW p e below s 24 2176 (Q0 Z p1 p2 p3 p4 h0 n0) (T15.setTop (mkF m 91 #[.val (.int p1), .val (.int p2), .val (.int p3), .val (.int p4), .val (.ref b1), .val (.ref b6), .val (.ref b10), .val (.int ((p4 &&& (2147483647 : Int32)) % (3 : Int32))), .val (.ref b6), .val (.ref b14a), .val (.int (1 : Int32))] []))
    refine Go.step (fun _ k => XS.aload X15.here hx rfl (hb hby at_91) rfl rfl k) ?_
    show Go ReturnedEndW p e below s 24 2176 (Q0 Z p1 p2 p3 p4 h0 n0) (T15.setTop (mkF m 93 #[.val (.int p1), .val (.int p2), .val (.int p3), .val (.int p4), .val (.ref b1), .val (.ref b6), .val (.ref b10), .val (.int ((p4 &&& (2147483647 : Int32)) % (3 : Int32))), .val (.ref b6), .val (.ref b14a), .val (.int (1 : Int32))] [(.ref b14a)]))
    obtain ⟨cq16, kq16, q16a, q16b, q16c⟩ := isOf hZ14 e15 xE14_1
    obtain ⟨_, _, ⟨T16, L16, k16, n16⟩, -, X16, ⟨Lc16, hQ16, l16, y16, z16⟩, st16⟩ := X15.virtualBack hx (y := (⟨"com/example/wunce/wunce/records/StoredRecord", "fingerprint", "()[B"⟩ : MethodName)) (z := (⟨"com/example/wunce/wunce/records/StoredRecord", "fingerprint", "()[B"⟩ : MethodName)) hown14 (mvT hZ14 (hw _ (List.mem_of_getElem? (i := 37) rfl))) (mvT hZ14 (hw _ (List.mem_of_getElem? (i := 38) rfl))) (notFace_of_selects (args := #[]) (mvT hZ14 (hw _ (List.mem_of_getElem? (i := 40) rfl)))) (mvT hZ14 (hw _ (List.mem_of_getElem? (i := 40) rfl))) (mvT hZ14 (hw _ (List.mem_of_getElem? (i := 39) rfl))) (by decide) (backOf (W := 0) (rm5 l Z a0 hw [] b14a b1 T14.heap xF14_2) hZ14 (hw _ (List.mem_of_getElem? (i := 41) rfl)) (hw _ (List.mem_of_getElem? (i := 4) rfl)) (by decide) (by decide)) q16a q16c (g := (mkF m 93 #[.val (.int p1), .val (.int p2), .val (.int p3), .val (.int p4), .val (.ref b1), .val (.ref b6), .val (.ref b10), .val (.int ((p4 &&& (2147483647 : Int32)) % (3 : Int32))), .val (.ref b6), .val (.ref b14a), .val (.int (1 : Int32))] [(.ref b14a)])) rfl (by rw [hml]; rfl) (Steps.refl _) (argsL := []) (rest := []) (lenOf pd____B rfl) rfl (by show 2 * 0 + _ ≤ _; exact Nat.le_of_eq rfl) (hb hby at_93) (fun _ _ => ⟨rfl, e15, (by decide : 8 + 0 ≤ _), (by decide : 81 + 0 ≤ _)⟩)
    dsimp only [Pt.U, Pt.locs, Pt.cells, Pt.slots] at X16 l16 y16 z16 st16 hQ16
    subst l16 y16 z16
    obtain ⟨rfl, rfl, e16⟩ := hQ16
    have N16 := Fr.app N15 (Fr.nil n0)
    refine Go.hop st16 ?_
    show Go ReturnedEndW p e below s 24 2176 (Q0 Z p1 p2 p3 p4 h0 n0) (T16.setTop (mkF m 96 #[.val (.int p1), .val (.int p2), .val (.int p3), .val (.int p4), .val (.ref b1), .val (.ref b6), .val (.ref b10), .val (.int ((p4 &&& (2147483647 : Int32)) % (3 : Int32))), .val (.ref b6), .val (.ref b14a), .val (.int (1 : Int32))] [(.ref b1)]))
    refine Go.step (fun _ k => XS.aload X16.here hx rfl (hb hby at_96) rfl rfl k) ?_
    show Go ReturnedEndW p e below s 24 2176 (Q0 Z p1 p2 p3 p4 h0 n0) (T16.setTop (mkF m 98 #[.val (.int p1), .val (.int p2), .val (.int p3), .val (.int p4), .val (.ref b1), .val (.ref b6), .val (.ref b10), .val (.int ((p4 &&& (2147483647 : Int32)) % (3 : Int32))), .val (.ref b6), .val (.ref b14a), .val (.int (1 : Int32))] [(.ref b1), (.ref b1)]))
    refine Go.step (fun _ k => Jvm.RoadKit.acmp (g := (mkF m 98 #[.val (.int p1), .val (.int p2), .val (.int p3), .val (.int p4), .val (.ref b1), .val (.ref b6), .val (.ref b10), .val (.int ((p4 &&& (2147483647 : Int32)) % (3 : Int32))), .val (.ref b6), .val (.ref b14a), .val (.int (1 : Int32))] [(.ref b1), (.ref b1)])) X16 hx rfl rfl rfl (pc0 := 98) (pc' := 101) (same := true) rfl (hb hby at_98) rfl (decide_eq_true (congrArg Value.ref rfl)) (by decide) (by decide) k) ?_
    show Go ReturnedEndW p e below s 24 2176 (Q0 Z p1 p2 p3 p4 h0 n0) (T16.setTop (mkF m 101 #[.val (.int p1), .val (.int p2), .val (.int p3), .val (.int p4), .val (.ref b1), .val (.ref b6), .val (.ref b10), .val (.int ((p4 &&& (2147483647 : Int32)) % (3 : Int32))), .val (.ref b6), .val (.ref b14a), .val (.int (1 : Int32))] []))
    refine Go.step (fun _ k => XS.iconst X16.here hx rfl (hb hby at_101) k) ?_
    show Go ReturnedEndW p e below s 24 2176 (Q0 Z p1 p2 p3 p4 h0 n0) (T16.setTop (mkF m 102 #[.val (.int p1), .val (.int p2), .val (.int p3), .val (.int p4), .val (.ref b1), .val (.ref b6), .val (.ref b10), .val (.int ((p4 &&& (2147483647 : Int32)) % (3 : Int32))), .val (.ref b6), .val (.ref b14a), .val (.int (1 : Int32))] [(.int (1 : Int32))]))
    refine Go.step (fun _ k => XS.goto X16.here hx rfl (pc0 := 102) (pc' := 106) rfl (hb hby at_102) (by decide) (by decide) k) ?_
    show Go ReturnedEndW p e below s 24 2176 (Q0 Z p1 p2 p3 p4 h0 n0) (T16.setTop (mkF m 106 #[.val (.int p1), .val (.int p2), .val (.int p3), .val (.int p4), .val (.ref b1), .val (.ref b6), .val (.ref b10), .val (.int ((p4 &&& (2147483647 : Int32)) % (3 : Int32))), .val (.ref b6), .val (.ref b14a), .val (.int (1 : Int32))] [(.int (1 : Int32))]))
    refine Go.step (fun _ k => XS.istore X16.here hx rfl (hb hby at_106) rfl (l' := #[.val (.int p1), .val (.int p2), .val (.int p3), .val (.int p4), .val (.ref b1), .val (.ref b6), .val (.ref b10), .val (.int ((p4 &&& (2147483647 : Int32)) % (3 : Int32))), .val (.ref b6), .val (.ref b14a), .val (.int (1 : Int32))]) rfl k) ?_
    show Go ReturnedEndW p e below s 24 2176 (Q0 Z p1 p2 p3 p4 h0 n0) (T16.setTop (mkF m 108 #[.val (.int p1), .val (.int p2), .val (.int p3), .val (.int p4), .val (.ref b1), .val (.ref b6), .val (.ref b10), .val (.int ((p4 &&& (2147483647 : Int32)) % (3 : Int32))), .val (.ref b6), .val (.ref b14a), .val (.int (1 : Int32))] []))
    refine Go.step (fun _ k => XS.iload X16.here hx rfl (hb hby at_108) rfl k) ?_
    show Go ReturnedEndW p e below s 24 2176 (Q0 Z p1 p2 p3 p4 h0 n0) (T16.setTop (mkF m 110 #[.val (.int p1), .val (.int p2), .val (.int p3), .val (.int p4), .val (.ref b1), .val (.ref b6), .val (.ref b10), .val (.int ((p4 &&& (2147483647 : Int32)) % (3 : Int32))), .val (.ref b6), .val (.ref b14a), .val (.int (1 : Int32))] [(.int (1 : Int32))]))
    refine Go.step (fun _ k => XS.ifNo X16.here hx rfl (hb hby at_110) rfl ((if0 _ _).trans (feq (by decide)).1) k) ?_
    show Go ReturnedEndW p e below s 24 2176 (Q0 Z p1 p2 p3 p4 h0 n0) (T16.setTop (mkF m 113 #[.val (.int p1), .val (.int p2), .val (.int p3), .val (.int p4), .val (.ref b1), .val (.ref b6), .val (.ref b10), .val (.int ((p4 &&& (2147483647 : Int32)) % (3 : Int32))), .val (.ref b6), .val (.ref b14a), .val (.int (1 : Int32))] []))
    refine Go.step (fun _ k => XS.aload X16.here hx rfl (hb hby at_113) rfl rfl k) ?_
    show Go ReturnedEndW p e below s 24 2176 (Q0 Z p1 p2 p3 p4 h0 n0) (T16.setTop (mkF m 115 #[.val (.int p1), .val (.int p2), .val (.int p3), .val (.int p4), .val (.ref b1), .val (.ref b6), .val (.ref b10), .val (.int ((p4 &&& (2147483647 : Int32)) % (3 : Int32))), .val (.ref b6), .val (.ref b14a), .val (.int (1 : Int32))] [(.ref b14a)]))
    obtain ⟨cq17, kq17, q17a, q17b, q17c⟩ := isOf hZ14 e16 xE14_1
    obtain ⟨_, _, ⟨T17, L17, k17, n17⟩, -, X17, ⟨Lc17, hQ17, l17, y17, z17⟩, st17⟩ := X16.virtualBack hx (y := (⟨"com/example/wunce/wunce/records/StoredRecord", "result", "()[B"⟩ : MethodName)) (z := (⟨"com/example/wunce/wunce/records/StoredRecord", "result", "()[B"⟩ : MethodName)) hown14 (mvT hZ14 (hw _ (List.mem_of_getElem? (i := 42) rfl))) (mvT hZ14 (hw _ (List.mem_of_getElem? (i := 43) rfl))) (notFace_of_selects (args := #[]) (mvT hZ14 (hw _ (List.mem_of_getElem? (i := 45) rfl)))) (mvT hZ14 (hw _ (List.mem_of_getElem? (i := 45) rfl))) (mvT hZ14 (hw _ (List.mem_of_getElem? (i := 44) rfl))) (by decide) (backOf (W := 0) (rm6 l Z a0 hw [] b14a b6 T14.heap xF14_3) hZ14 (hw _ (List.mem_of_getElem? (i := 46) rfl)) (hw _ (List.mem_of_getElem? (i := 4) rfl)) (by decide) (by decide)) q17a q17c (g := (mkF m 115 #[.val (.int p1), .val (.int p2), .val (.int p3), .val (.int p4), .val (.ref b1), .val (.ref b6), .val (.ref b10), .val (.int ((p4 &&& (2147483647 : Int32)) % (3 : Int32))), .val (.ref b6), .val (.ref b14a), .val (.int (1 : Int32))] [(.ref b14a)])) rfl (by rw [hml]; rfl) (Steps.refl _) (argsL := []) (rest := []) (lenOf pd____B rfl) rfl (by show 2 * 0 + _ ≤ _; exact Nat.le_of_eq rfl) (hb hby at_115) (fun _ _ => ⟨rfl, e16, (by decide : 8 + 0 ≤ _), (by decide : 81 + 0 ≤ _)⟩)
    dsimp only [Pt.U, Pt.locs, Pt.cells, Pt.slots] at X17 l17 y17 z17 st17 hQ17
    subst l17 y17 z17
    obtain ⟨rfl, rfl, e17⟩ := hQ17
    have N17 := Fr.app N16 (Fr.nil n0)
    refine Go.hop st17 ?_
    show Go ReturnedEndW p e below s 24 2176 (Q0 Z p1 p2 p3 p4 h0 n0) (T17.setTop (mkF m 118 #[.val (.int p1), .val (.int p2), .val (.int p3), .val (.int p4), .val (.ref b1), .val (.ref b6), .val (.ref b10), .val (.int ((p4 &&& (2147483647 : Int32)) % (3 : Int32))), .val (.ref b6), .val (.ref b14a), .val (.int (1 : Int32))] [(.ref b6)]))
    refine Go.step (fun _ k => XS.aload X17.here hx rfl (hb hby at_118) rfl rfl k) ?_
    show Go ReturnedEndW p e below s 24 2176 (Q0 Z p1 p2 p3 p4 h0 n0) (T17.setTop (mkF m 120 #[.val (.int p1), .val (.int p2), .val (.int p3), .val (.int p4), .val (.ref b1), .val (.ref b6), .val (.ref b10), .val (.int ((p4 &&& (2147483647 : Int32)) % (3 : Int32))), .val (.ref b6), .val (.ref b14a), .val (.int (1 : Int32))] [(.ref b6), (.ref b6)]))
    refine Go.step (fun _ k => Jvm.RoadKit.acmp (g := (mkF m 120 #[.val (.int p1), .val (.int p2), .val (.int p3), .val (.int p4), .val (.ref b1), .val (.ref b6), .val (.ref b10), .val (.int ((p4 &&& (2147483647 : Int32)) % (3 : Int32))), .val (.ref b6), .val (.ref b14a), .val (.int (1 : Int32))] [(.ref b6), (.ref b6)])) X17 hx rfl rfl rfl (pc0 := 120) (pc' := 123) (same := true) rfl (hb hby at_120) rfl (decide_eq_true (congrArg Value.ref rfl)) (by decide) (by decide) k) ?_
    show Go ReturnedEndW p e below s 24 2176 (Q0 Z p1 p2 p3 p4 h0 n0) (T17.setTop (mkF m 123 #[.val (.int p1), .val (.int p2), .val (.int p3), .val (.int p4), .val (.ref b1), .val (.ref b6), .val (.ref b10), .val (.int ((p4 &&& (2147483647 : Int32)) % (3 : Int32))), .val (.ref b6), .val (.ref b14a), .val (.int (1 : Int32))] []))
    refine Go.step (fun _ k => XS.iconst X17.here hx rfl (hb hby at_123) k) ?_
    show Go ReturnedEndW p e below s 24 2176 (Q0 Z p1 p2 p3 p4 h0 n0) (T17.setTop (mkF m 124 #[.val (.int p1), .val (.int p2), .val (.int p3), .val (.int p4), .val (.ref b1), .val (.ref b6), .val (.ref b10), .val (.int ((p4 &&& (2147483647 : Int32)) % (3 : Int32))), .val (.ref b6), .val (.ref b14a), .val (.int (1 : Int32))] [(.int (1 : Int32))]))
    refine Go.step (fun _ k => XS.goto X17.here hx rfl (pc0 := 124) (pc' := 128) rfl (hb hby at_124) (by decide) (by decide) k) ?_
    show Go ReturnedEndW p e below s 24 2176 (Q0 Z p1 p2 p3 p4 h0 n0) (T17.setTop (mkF m 128 #[.val (.int p1), .val (.int p2), .val (.int p3), .val (.int p4), .val (.ref b1), .val (.ref b6), .val (.ref b10), .val (.int ((p4 &&& (2147483647 : Int32)) % (3 : Int32))), .val (.ref b6), .val (.ref b14a), .val (.int (1 : Int32))] [(.int (1 : Int32))]))
    refine Go.step (fun _ k => XS.istore X17.here hx rfl (hb hby at_128) rfl (l' := #[.val (.int p1), .val (.int p2), .val (.int p3), .val (.int p4), .val (.ref b1), .val (.ref b6), .val (.ref b10), .val (.int ((p4 &&& (2147483647 : Int32)) % (3 : Int32))), .val (.ref b6), .val (.ref b14a), .val (.int (1 : Int32))]) rfl k) ?_
    show Go ReturnedEndW p e below s 24 2176 (Q0 Z p1 p2 p3 p4 h0 n0) (T17.setTop (mkF m 130 #[.val (.int p1), .val (.int p2), .val (.int p3), .val (.int p4), .val (.ref b1), .val (.ref b6), .val (.ref b10), .val (.int ((p4 &&& (2147483647 : Int32)) % (3 : Int32))), .val (.ref b6), .val (.ref b14a), .val (.int (1 : Int32))] []))
    refine Go.step (fun _ k => XS.iload X17.here hx rfl (hb hby at_130) rfl k) ?_
    show Go ReturnedEndW p e below s 24 2176 (Q0 Z p1 p2 p3 p4 h0 n0) (T17.setTop (mkF m 132 #[.val (.int p1), .val (.int p2), .val (.int p3), .val (.int p4), .val (.ref b1), .val (.ref b6), .val (.ref b10), .val (.int ((p4 &&& (2147483647 : Int32)) % (3 : Int32))), .val (.ref b6), .val (.ref b14a), .val (.int (1 : Int32))] [(.int (1 : Int32))]))
    refine Go.step (fun _ k => XS.ifNo X17.here hx rfl (hb hby at_132) rfl ((if0 _ _).trans (feq (by decide)).1) k) ?_
    show Go ReturnedEndW p e below s 24 2176 (Q0 Z p1 p2 p3 p4 h0 n0) (T17.setTop (mkF m 135 #[.val (.int p1), .val (.int p2), .val (.int p3), .val (.int p4), .val (.ref b1), .val (.ref b6), .val (.ref b10), .val (.int ((p4 &&& (2147483647 : Int32)) % (3 : Int32))), .val (.ref b6), .val (.ref b14a), .val (.int (1 : Int32))] []))
    refine Go.step (fun _ k => XS.aload X17.here hx rfl (hb hby at_135) rfl rfl k) ?_
    show Go ReturnedEndW p e below s 24 2176 (Q0 Z p1 p2 p3 p4 h0 n0) (T17.setTop (mkF m 137 #[.val (.int p1), .val (.int p2), .val (.int p3), .val (.int p4), .val (.ref b1), .val (.ref b6), .val (.ref b10), .val (.int ((p4 &&& (2147483647 : Int32)) % (3 : Int32))), .val (.ref b6), .val (.ref b14a), .val (.int (1 : Int32))] [(.ref b1)]))
    have f_18 := ((((V5.ext E6).other W9 ne_b1_b6).ext E10).keep K14_0 nin0)
    obtain ⟨c19, Ac19, Sc19, Mc19, Gc19⟩ := id f_18
    refine Go.step (X17.arraylength hx (by rw [e17]; exact Ac19.1) (State.isArrayOf_alike hZ14.alike Ac19.2.1) (g := (mkF m 137 #[.val (.int p1), .val (.int p2), .val (.int p3), .val (.int p4), .val (.ref b1), .val (.ref b6), .val (.ref b10), .val (.int ((p4 &&& (2147483647 : Int32)) % (3 : Int32))), .val (.ref b6), .val (.ref b14a), .val (.int (1 : Int32))] [(.ref b1)])) rfl rfl (hb hby at_137)) ?_
    rw [show c19.slots.size.toInt32 = (2 : Int32) from by rw [Sc19]; rfl]
    show Go ReturnedEndW p e below s 24 2176 (Q0 Z p1 p2 p3 p4 h0 n0) (T17.setTop (mkF m 138 #[.val (.int p1), .val (.int p2), .val (.int p3), .val (.int p4), .val (.ref b1), .val (.ref b6), .val (.ref b10), .val (.int ((p4 &&& (2147483647 : Int32)) % (3 : Int32))), .val (.ref b6), .val (.ref b14a), .val (.int (1 : Int32))] [(.int (2 : Int32))]))
    refine Go.step (fun _ k => XS.iconst X17.here hx rfl (hb hby at_138) k) ?_
    show Go ReturnedEndW p e below s 24 2176 (Q0 Z p1 p2 p3 p4 h0 n0) (T17.setTop (mkF m 139 #[.val (.int p1), .val (.int p2), .val (.int p3), .val (.int p4), .val (.ref b1), .val (.ref b6), .val (.ref b10), .val (.int ((p4 &&& (2147483647 : Int32)) % (3 : Int32))), .val (.ref b6), .val (.ref b14a), .val (.int (1 : Int32))] [(.int (2 : Int32)), (.int (2 : Int32))]))
    refine Go.step (fun _ k => XS.icmpNo X17.here hx rfl (hb hby at_139) rfl (teq rfl).2 k) ?_
    show Go ReturnedEndW p e below s 24 2176 (Q0 Z p1 p2 p3 p4 h0 n0) (T17.setTop (mkF m 142 #[.val (.int p1), .val (.int p2), .val (.int p3), .val (.int p4), .val (.ref b1), .val (.ref b6), .val (.ref b10), .val (.int ((p4 &&& (2147483647 : Int32)) % (3 : Int32))), .val (.ref b6), .val (.ref b14a), .val (.int (1 : Int32))] []))
    refine Go.step (fun _ k => XS.aload X17.here hx rfl (hb hby at_142) rfl rfl k) ?_
    show Go ReturnedEndW p e below s 24 2176 (Q0 Z p1 p2 p3 p4 h0 n0) (T17.setTop (mkF m 144 #[.val (.int p1), .val (.int p2), .val (.int p3), .val (.int p4), .val (.ref b1), .val (.ref b6), .val (.ref b10), .val (.int ((p4 &&& (2147483647 : Int32)) % (3 : Int32))), .val (.ref b6), .val (.ref b14a), .val (.int (1 : Int32))] [(.ref b1)]))
    refine Go.step (fun _ k => XS.iconst X17.here hx rfl (hb hby at_144) k) ?_
    show Go ReturnedEndW p e below s 24 2176 (Q0 Z p1 p2 p3 p4 h0 n0) (T17.setTop (mkF m 145 #[.val (.int p1), .val (.int p2), .val (.int p3), .val (.int p4), .val (.ref b1), .val (.ref b6), .val (.ref b10), .val (.int ((p4 &&& (2147483647 : Int32)) % (3 : Int32))), .val (.ref b6), .val (.ref b14a), .val (.int (1 : Int32))] [(.int (0 : Int32)), (.ref b1)]))
    obtain ⟨c20, Ac20, Sc20, Mc20, Gc20⟩ := id f_18
    refine Go.step (X17.baloadBytes hx (j := (0 : Int32)) (v := (.int p1.toInt8.toInt32)) (by rw [e17]; exact Ac20.1) (State.isArrayOf_alike hZ14.alike Ac20.2.1) Ac20.2.2 (own_in Sc20 (by decide) (by decide)) (Av.at Gc20 (by rfl) (by decide) rfl) (g := (mkF m 145 #[.val (.int p1), .val (.int p2), .val (.int p3), .val (.int p4), .val (.ref b1), .val (.ref b6), .val (.ref b10), .val (.int ((p4 &&& (2147483647 : Int32)) % (3 : Int32))), .val (.ref b6), .val (.ref b14a), .val (.int (1 : Int32))] [(.int (0 : Int32)), (.ref b1)])) rfl rfl (hb hby at_145)) ?_
    show Go ReturnedEndW p e below s 24 2176 (Q0 Z p1 p2 p3 p4 h0 n0) (T17.setTop (mkF m 146 #[.val (.int p1), .val (.int p2), .val (.int p3), .val (.int p4), .val (.ref b1), .val (.ref b6), .val (.ref b10), .val (.int ((p4 &&& (2147483647 : Int32)) % (3 : Int32))), .val (.ref b6), .val (.ref b14a), .val (.int (1 : Int32))] [(.int p1.toInt8.toInt32)]))
    refine Go.step (fun _ k => XS.iloadN X17.here hx rfl (hb hby at_146) rfl k) ?_
    show Go ReturnedEndW p e below s 24 2176 (Q0 Z p1 p2 p3 p4 h0 n0) (T17.setTop (mkF m 147 #[.val (.int p1), .val (.int p2), .val (.int p3), .val (.int p4), .val (.ref b1), .val (.ref b6), .val (.ref b10), .val (.int ((p4 &&& (2147483647 : Int32)) % (3 : Int32))), .val (.ref b6), .val (.ref b14a), .val (.int (1 : Int32))] [(.int p1), (.int p1.toInt8.toInt32)]))
    refine Go.step (fun _ k => XS.i2b X17.here hx rfl (hb hby at_147) rfl k) ?_
    show Go ReturnedEndW p e below s 24 2176 (Q0 Z p1 p2 p3 p4 h0 n0) (T17.setTop (mkF m 148 #[.val (.int p1), .val (.int p2), .val (.int p3), .val (.int p4), .val (.ref b1), .val (.ref b6), .val (.ref b10), .val (.int ((p4 &&& (2147483647 : Int32)) % (3 : Int32))), .val (.ref b6), .val (.ref b14a), .val (.int (1 : Int32))] [(.int p1.toInt8.toInt32), (.int p1.toInt8.toInt32)]))
    refine Go.step (fun _ k => XS.icmpNo X17.here hx rfl (hb hby at_148) rfl (teq rfl).2 k) ?_
    show Go ReturnedEndW p e below s 24 2176 (Q0 Z p1 p2 p3 p4 h0 n0) (T17.setTop (mkF m 151 #[.val (.int p1), .val (.int p2), .val (.int p3), .val (.int p4), .val (.ref b1), .val (.ref b6), .val (.ref b10), .val (.int ((p4 &&& (2147483647 : Int32)) % (3 : Int32))), .val (.ref b6), .val (.ref b14a), .val (.int (1 : Int32))] []))
    refine Go.step (fun _ k => XS.aload X17.here hx rfl (hb hby at_151) rfl rfl k) ?_
    show Go ReturnedEndW p e below s 24 2176 (Q0 Z p1 p2 p3 p4 h0 n0) (T17.setTop (mkF m 153 #[.val (.int p1), .val (.int p2), .val (.int p3), .val (.int p4), .val (.ref b1), .val (.ref b6), .val (.ref b10), .val (.int ((p4 &&& (2147483647 : Int32)) % (3 : Int32))), .val (.ref b6), .val (.ref b14a), .val (.int (1 : Int32))] [(.ref b1)]))
    refine Go.step (fun _ k => XS.iconst X17.here hx rfl (hb hby at_153) k) ?_
    show Go ReturnedEndW p e below s 24 2176 (Q0 Z p1 p2 p3 p4 h0 n0) (T17.setTop (mkF m 154 #[.val (.int p1), .val (.int p2), .val (.int p3), .val (.int p4), .val (.ref b1), .val (.ref b6), .val (.ref b10), .val (.int ((p4 &&& (2147483647 : Int32)) % (3 : Int32))), .val (.ref b6), .val (.ref b14a), .val (.int (1 : Int32))] [(.int (1 : Int32)), (.ref b1)]))
    obtain ⟨c21, Ac21, Sc21, Mc21, Gc21⟩ := id f_18
    refine Go.step (X17.baloadBytes hx (j := (1 : Int32)) (v := (.int p2.toInt8.toInt32)) (by rw [e17]; exact Ac21.1) (State.isArrayOf_alike hZ14.alike Ac21.2.1) Ac21.2.2 (own_in Sc21 (by decide) (by decide)) (Av.at Gc21 (by rfl) (by decide) rfl) (g := (mkF m 154 #[.val (.int p1), .val (.int p2), .val (.int p3), .val (.int p4), .val (.ref b1), .val (.ref b6), .val (.ref b10), .val (.int ((p4 &&& (2147483647 : Int32)) % (3 : Int32))), .val (.ref b6), .val (.ref b14a), .val (.int (1 : Int32))] [(.int (1 : Int32)), (.ref b1)])) rfl rfl (hb hby at_154)) ?_
    show Go ReturnedEndW p e below s 24 2176 (Q0 Z p1 p2 p3 p4 h0 n0) (T17.setTop (mkF m 155 #[.val (.int p1), .val (.int p2), .val (.int p3), .val (.int p4), .val (.ref b1), .val (.ref b6), .val (.ref b10), .val (.int ((p4 &&& (2147483647 : Int32)) % (3 : Int32))), .val (.ref b6), .val (.ref b14a), .val (.int (1 : Int32))] [(.int p2.toInt8.toInt32)]))
    refine Go.step (fun _ k => XS.iloadN X17.here hx rfl (hb hby at_155) rfl k) ?_
    show Go ReturnedEndW p e below s 24 2176 (Q0 Z p1 p2 p3 p4 h0 n0) (T17.setTop (mkF m 156 #[.val (.int p1), .val (.int p2), .val (.int p3), .val (.int p4), .val (.ref b1), .val (.ref b6), .val (.ref b10), .val (.int ((p4 &&& (2147483647 : Int32)) % (3 : Int32))), .val (.ref b6), .val (.ref b14a), .val (.int (1 : Int32))] [(.int p2), (.int p2.toInt8.toInt32)]))
    refine Go.step (fun _ k => XS.i2b X17.here hx rfl (hb hby at_156) rfl k) ?_
    show Go ReturnedEndW p e below s 24 2176 (Q0 Z p1 p2 p3 p4 h0 n0) (T17.setTop (mkF m 157 #[.val (.int p1), .val (.int p2), .val (.int p3), .val (.int p4), .val (.ref b1), .val (.ref b6), .val (.ref b10), .val (.int ((p4 &&& (2147483647 : Int32)) % (3 : Int32))), .val (.ref b6), .val (.ref b14a), .val (.int (1 : Int32))] [(.int p2.toInt8.toInt32), (.int p2.toInt8.toInt32)]))
    refine Go.step (fun _ k => XS.icmpNo X17.here hx rfl (hb hby at_157) rfl (teq rfl).2 k) ?_
    show Go ReturnedEndW p e below s 24 2176 (Q0 Z p1 p2 p3 p4 h0 n0) (T17.setTop (mkF m 160 #[.val (.int p1), .val (.int p2), .val (.int p3), .val (.int p4), .val (.ref b1), .val (.ref b6), .val (.ref b10), .val (.int ((p4 &&& (2147483647 : Int32)) % (3 : Int32))), .val (.ref b6), .val (.ref b14a), .val (.int (1 : Int32))] []))
    refine Go.step (fun _ k => XS.iconst X17.here hx rfl (hb hby at_160) k) ?_
    show Go ReturnedEndW p e below s 24 2176 (Q0 Z p1 p2 p3 p4 h0 n0) (T17.setTop (mkF m 161 #[.val (.int p1), .val (.int p2), .val (.int p3), .val (.int p4), .val (.ref b1), .val (.ref b6), .val (.ref b10), .val (.int ((p4 &&& (2147483647 : Int32)) % (3 : Int32))), .val (.ref b6), .val (.ref b14a), .val (.int (1 : Int32))] [(.int (1 : Int32))]))
    refine Go.step (fun _ k => XS.goto X17.here hx rfl (pc0 := 161) (pc' := 165) rfl (hb hby at_161) (by decide) (by decide) k) ?_
    show Go ReturnedEndW p e below s 24 2176 (Q0 Z p1 p2 p3 p4 h0 n0) (T17.setTop (mkF m 165 #[.val (.int p1), .val (.int p2), .val (.int p3), .val (.int p4), .val (.ref b1), .val (.ref b6), .val (.ref b10), .val (.int ((p4 &&& (2147483647 : Int32)) % (3 : Int32))), .val (.ref b6), .val (.ref b14a), .val (.int (1 : Int32))] [(.int (1 : Int32))]))
    refine Go.step (fun _ k => XS.istore X17.here hx rfl (hb hby at_165) rfl (l' := #[.val (.int p1), .val (.int p2), .val (.int p3), .val (.int p4), .val (.ref b1), .val (.ref b6), .val (.ref b10), .val (.int ((p4 &&& (2147483647 : Int32)) % (3 : Int32))), .val (.ref b6), .val (.ref b14a), .val (.int (1 : Int32))]) rfl k) ?_
    show Go ReturnedEndW p e below s 24 2176 (Q0 Z p1 p2 p3 p4 h0 n0) (T17.setTop (mkF m 167 #[.val (.int p1), .val (.int p2), .val (.int p3), .val (.int p4), .val (.ref b1), .val (.ref b6), .val (.ref b10), .val (.int ((p4 &&& (2147483647 : Int32)) % (3 : Int32))), .val (.ref b6), .val (.ref b14a), .val (.int (1 : Int32))] []))
    refine Go.step (fun _ k => XS.iload X17.here hx rfl (hb hby at_167) rfl k) ?_
    show Go ReturnedEndW p e below s 24 2176 (Q0 Z p1 p2 p3 p4 h0 n0) (T17.setTop (mkF m 169 #[.val (.int p1), .val (.int p2), .val (.int p3), .val (.int p4), .val (.ref b1), .val (.ref b6), .val (.ref b10), .val (.int ((p4 &&& (2147483647 : Int32)) % (3 : Int32))), .val (.ref b6), .val (.ref b14a), .val (.int (1 : Int32))] [(.int (1 : Int32))]))
    refine Go.step (fun _ k => XS.ifNo X17.here hx rfl (hb hby at_169) rfl ((if0 _ _).trans (feq (by decide)).1) k) ?_
    show Go ReturnedEndW p e below s 24 2176 (Q0 Z p1 p2 p3 p4 h0 n0) (T17.setTop (mkF m 172 #[.val (.int p1), .val (.int p2), .val (.int p3), .val (.int p4), .val (.ref b1), .val (.ref b6), .val (.ref b10), .val (.int ((p4 &&& (2147483647 : Int32)) % (3 : Int32))), .val (.ref b6), .val (.ref b14a), .val (.int (1 : Int32))] []))
    refine Go.step (fun _ k => XS.aload X17.here hx rfl (hb hby at_172) rfl rfl k) ?_
    show Go ReturnedEndW p e below s 24 2176 (Q0 Z p1 p2 p3 p4 h0 n0) (T17.setTop (mkF m 174 #[.val (.int p1), .val (.int p2), .val (.int p3), .val (.int p4), .val (.ref b1), .val (.ref b6), .val (.ref b10), .val (.int ((p4 &&& (2147483647 : Int32)) % (3 : Int32))), .val (.ref b6), .val (.ref b14a), .val (.int (1 : Int32))] [(.ref b6)]))
    have f_22 := ((V9.ext E10).keep K14_0 nin0)
    obtain ⟨c23, Ac23, Sc23, Mc23, Gc23⟩ := id f_22
    refine Go.step (X17.arraylength hx (by rw [e17]; exact Ac23.1) (State.isArrayOf_alike hZ14.alike Ac23.2.1) (g := (mkF m 174 #[.val (.int p1), .val (.int p2), .val (.int p3), .val (.int p4), .val (.ref b1), .val (.ref b6), .val (.ref b10), .val (.int ((p4 &&& (2147483647 : Int32)) % (3 : Int32))), .val (.ref b6), .val (.ref b14a), .val (.int (1 : Int32))] [(.ref b6)])) rfl rfl (hb hby at_174)) ?_
    rw [show c23.slots.size.toInt32 = (1 : Int32) from by rw [Sc23]; rfl]
    show Go ReturnedEndW p e below s 24 2176 (Q0 Z p1 p2 p3 p4 h0 n0) (T17.setTop (mkF m 175 #[.val (.int p1), .val (.int p2), .val (.int p3), .val (.int p4), .val (.ref b1), .val (.ref b6), .val (.ref b10), .val (.int ((p4 &&& (2147483647 : Int32)) % (3 : Int32))), .val (.ref b6), .val (.ref b14a), .val (.int (1 : Int32))] [(.int (1 : Int32))]))
    refine Go.step (fun _ k => XS.iconst X17.here hx rfl (hb hby at_175) k) ?_
    show Go ReturnedEndW p e below s 24 2176 (Q0 Z p1 p2 p3 p4 h0 n0) (T17.setTop (mkF m 176 #[.val (.int p1), .val (.int p2), .val (.int p3), .val (.int p4), .val (.ref b1), .val (.ref b6), .val (.ref b10), .val (.int ((p4 &&& (2147483647 : Int32)) % (3 : Int32))), .val (.ref b6), .val (.ref b14a), .val (.int (1 : Int32))] [(.int (1 : Int32)), (.int (1 : Int32))]))
    refine Go.step (fun _ k => XS.icmpNo X17.here hx rfl (hb hby at_176) rfl (teq rfl).2 k) ?_
    show Go ReturnedEndW p e below s 24 2176 (Q0 Z p1 p2 p3 p4 h0 n0) (T17.setTop (mkF m 179 #[.val (.int p1), .val (.int p2), .val (.int p3), .val (.int p4), .val (.ref b1), .val (.ref b6), .val (.ref b10), .val (.int ((p4 &&& (2147483647 : Int32)) % (3 : Int32))), .val (.ref b6), .val (.ref b14a), .val (.int (1 : Int32))] []))
    refine Go.step (fun _ k => XS.aload X17.here hx rfl (hb hby at_179) rfl rfl k) ?_
    show Go ReturnedEndW p e below s 24 2176 (Q0 Z p1 p2 p3 p4 h0 n0) (T17.setTop (mkF m 181 #[.val (.int p1), .val (.int p2), .val (.int p3), .val (.int p4), .val (.ref b1), .val (.ref b6), .val (.ref b10), .val (.int ((p4 &&& (2147483647 : Int32)) % (3 : Int32))), .val (.ref b6), .val (.ref b14a), .val (.int (1 : Int32))] [(.ref b6)]))
    refine Go.step (fun _ k => XS.iconst X17.here hx rfl (hb hby at_181) k) ?_
    show Go ReturnedEndW p e below s 24 2176 (Q0 Z p1 p2 p3 p4 h0 n0) (T17.setTop (mkF m 182 #[.val (.int p1), .val (.int p2), .val (.int p3), .val (.int p4), .val (.ref b1), .val (.ref b6), .val (.ref b10), .val (.int ((p4 &&& (2147483647 : Int32)) % (3 : Int32))), .val (.ref b6), .val (.ref b14a), .val (.int (1 : Int32))] [(.int (0 : Int32)), (.ref b6)]))
    obtain ⟨c24, Ac24, Sc24, Mc24, Gc24⟩ := id f_22
    refine Go.step (X17.baloadBytes hx (j := (0 : Int32)) (v := (.int p3.toInt8.toInt32)) (by rw [e17]; exact Ac24.1) (State.isArrayOf_alike hZ14.alike Ac24.2.1) Ac24.2.2 (own_in Sc24 (by decide) (by decide)) (Av.at Gc24 (by rfl) (by decide) rfl) (g := (mkF m 182 #[.val (.int p1), .val (.int p2), .val (.int p3), .val (.int p4), .val (.ref b1), .val (.ref b6), .val (.ref b10), .val (.int ((p4 &&& (2147483647 : Int32)) % (3 : Int32))), .val (.ref b6), .val (.ref b14a), .val (.int (1 : Int32))] [(.int (0 : Int32)), (.ref b6)])) rfl rfl (hb hby at_182)) ?_
    show Go ReturnedEndW p e below s 24 2176 (Q0 Z p1 p2 p3 p4 h0 n0) (T17.setTop (mkF m 183 #[.val (.int p1), .val (.int p2), .val (.int p3), .val (.int p4), .val (.ref b1), .val (.ref b6), .val (.ref b10), .val (.int ((p4 &&& (2147483647 : Int32)) % (3 : Int32))), .val (.ref b6), .val (.ref b14a), .val (.int (1 : Int32))] [(.int p3.toInt8.toInt32)]))
    refine Go.step (fun _ k => XS.iloadN X17.here hx rfl (hb hby at_183) rfl k) ?_
    show Go ReturnedEndW p e below s 24 2176 (Q0 Z p1 p2 p3 p4 h0 n0) (T17.setTop (mkF m 184 #[.val (.int p1), .val (.int p2), .val (.int p3), .val (.int p4), .val (.ref b1), .val (.ref b6), .val (.ref b10), .val (.int ((p4 &&& (2147483647 : Int32)) % (3 : Int32))), .val (.ref b6), .val (.ref b14a), .val (.int (1 : Int32))] [(.int p3), (.int p3.toInt8.toInt32)]))
    refine Go.step (fun _ k => XS.i2b X17.here hx rfl (hb hby at_184) rfl k) ?_
    show Go ReturnedEndW p e below s 24 2176 (Q0 Z p1 p2 p3 p4 h0 n0) (T17.setTop (mkF m 185 #[.val (.int p1), .val (.int p2), .val (.int p3), .val (.int p4), .val (.ref b1), .val (.ref b6), .val (.ref b10), .val (.int ((p4 &&& (2147483647 : Int32)) % (3 : Int32))), .val (.ref b6), .val (.ref b14a), .val (.int (1 : Int32))] [(.int p3.toInt8.toInt32), (.int p3.toInt8.toInt32)]))
    refine Go.step (fun _ k => XS.icmpNo X17.here hx rfl (hb hby at_185) rfl (teq rfl).2 k) ?_
    show Go ReturnedEndW p e below s 24 2176 (Q0 Z p1 p2 p3 p4 h0 n0) (T17.setTop (mkF m 188 #[.val (.int p1), .val (.int p2), .val (.int p3), .val (.int p4), .val (.ref b1), .val (.ref b6), .val (.ref b10), .val (.int ((p4 &&& (2147483647 : Int32)) % (3 : Int32))), .val (.ref b6), .val (.ref b14a), .val (.int (1 : Int32))] []))
    refine Go.step (fun _ k => XS.iconst X17.here hx rfl (hb hby at_188) k) ?_
    show Go ReturnedEndW p e below s 24 2176 (Q0 Z p1 p2 p3 p4 h0 n0) (T17.setTop (mkF m 189 #[.val (.int p1), .val (.int p2), .val (.int p3), .val (.int p4), .val (.ref b1), .val (.ref b6), .val (.ref b10), .val (.int ((p4 &&& (2147483647 : Int32)) % (3 : Int32))), .val (.ref b6), .val (.ref b14a), .val (.int (1 : Int32))] [(.int (1 : Int32))]))
    refine Go.step (fun _ k => XS.goto X17.here hx rfl (pc0 := 189) (pc' := 193) rfl (hb hby at_189) (by decide) (by decide) k) ?_
    show Go ReturnedEndW p e below s 24 2176 (Q0 Z p1 p2 p3 p4 h0 n0) (T17.setTop (mkF m 193 #[.val (.int p1), .val (.int p2), .val (.int p3), .val (.int p4), .val (.ref b1), .val (.ref b6), .val (.ref b10), .val (.int ((p4 &&& (2147483647 : Int32)) % (3 : Int32))), .val (.ref b6), .val (.ref b14a), .val (.int (1 : Int32))] [(.int (1 : Int32))]))
    refine Go.step (fun _ k => XS.istore X17.here hx rfl (hb hby at_193) rfl (l' := #[.val (.int p1), .val (.int p2), .val (.int p3), .val (.int p4), .val (.ref b1), .val (.ref b6), .val (.ref b10), .val (.int ((p4 &&& (2147483647 : Int32)) % (3 : Int32))), .val (.ref b6), .val (.ref b14a), .val (.int (1 : Int32))]) rfl k) ?_
    show Go ReturnedEndW p e below s 24 2176 (Q0 Z p1 p2 p3 p4 h0 n0) (T17.setTop (mkF m 195 #[.val (.int p1), .val (.int p2), .val (.int p3), .val (.int p4), .val (.ref b1), .val (.ref b6), .val (.ref b10), .val (.int ((p4 &&& (2147483647 : Int32)) % (3 : Int32))), .val (.ref b6), .val (.ref b14a), .val (.int (1 : Int32))] []))
    refine Go.step (fun _ k => XS.iload X17.here hx rfl (hb hby at_195) rfl k) ?_
    show Go ReturnedEndW p e below s 24 2176 (Q0 Z p1 p2 p3 p4 h0 n0) (T17.setTop (mkF m 197 #[.val (.int p1), .val (.int p2), .val (.int p3), .val (.int p4), .val (.ref b1), .val (.ref b6), .val (.ref b10), .val (.int ((p4 &&& (2147483647 : Int32)) % (3 : Int32))), .val (.ref b6), .val (.ref b14a), .val (.int (1 : Int32))] [(.int (1 : Int32))]))
    refine Go.step (fun _ k => XS.ifNo X17.here hx rfl (hb hby at_197) rfl ((if0 _ _).trans (feq (by decide)).1) k) ?_
    show Go ReturnedEndW p e below s 24 2176 (Q0 Z p1 p2 p3 p4 h0 n0) (T17.setTop (mkF m 200 #[.val (.int p1), .val (.int p2), .val (.int p3), .val (.int p4), .val (.ref b1), .val (.ref b6), .val (.ref b10), .val (.int ((p4 &&& (2147483647 : Int32)) % (3 : Int32))), .val (.ref b6), .val (.ref b14a), .val (.int (1 : Int32))] []))
    refine Go.step (fun _ k => XS.aload X17.here hx rfl (hb hby at_200) rfl rfl k) ?_
    show Go ReturnedEndW p e below s 24 2176 (Q0 Z p1 p2 p3 p4 h0 n0) (T17.setTop (mkF m 202 #[.val (.int p1), .val (.int p2), .val (.int p3), .val (.int p4), .val (.ref b1), .val (.ref b6), .val (.ref b10), .val (.int ((p4 &&& (2147483647 : Int32)) % (3 : Int32))), .val (.ref b6), .val (.ref b14a), .val (.int (1 : Int32))] [(.ref b10)]))
    have f_25 := (V10.keep K14_0 nin0)
    obtain ⟨c26, Ac26, Sc26, Mc26, Gc26⟩ := id f_25
    refine Go.step (X17.arraylength hx (by rw [e17]; exact Ac26.1) (State.isArrayOf_alike hZ14.alike Ac26.2.1) (g := (mkF m 202 #[.val (.int p1), .val (.int p2), .val (.int p3), .val (.int p4), .val (.ref b1), .val (.ref b6), .val (.ref b10), .val (.int ((p4 &&& (2147483647 : Int32)) % (3 : Int32))), .val (.ref b6), .val (.ref b14a), .val (.int (1 : Int32))] [(.ref b10)])) rfl rfl (hb hby at_202)) ?_
    rw [show c26.slots.size.toInt32 = (0 : Int32) from by rw [Sc26]; rfl]
    show Go ReturnedEndW p e below s 24 2176 (Q0 Z p1 p2 p3 p4 h0 n0) (T17.setTop (mkF m 203 #[.val (.int p1), .val (.int p2), .val (.int p3), .val (.int p4), .val (.ref b1), .val (.ref b6), .val (.ref b10), .val (.int ((p4 &&& (2147483647 : Int32)) % (3 : Int32))), .val (.ref b6), .val (.ref b14a), .val (.int (1 : Int32))] [(.int (0 : Int32))]))
    refine Go.step (fun _ k => XS.ifNo X17.here hx rfl (hb hby at_203) rfl ((if0 _ _).trans (teq rfl).2) k) ?_
    show Go ReturnedEndW p e below s 24 2176 (Q0 Z p1 p2 p3 p4 h0 n0) (T17.setTop (mkF m 206 #[.val (.int p1), .val (.int p2), .val (.int p3), .val (.int p4), .val (.ref b1), .val (.ref b6), .val (.ref b10), .val (.int ((p4 &&& (2147483647 : Int32)) % (3 : Int32))), .val (.ref b6), .val (.ref b14a), .val (.int (1 : Int32))] []))
    refine Go.step (fun _ k => XS.iconst X17.here hx rfl (hb hby at_206) k) ?_
    show Go ReturnedEndW p e below s 24 2176 (Q0 Z p1 p2 p3 p4 h0 n0) (T17.setTop (mkF m 207 #[.val (.int p1), .val (.int p2), .val (.int p3), .val (.int p4), .val (.ref b1), .val (.ref b6), .val (.ref b10), .val (.int ((p4 &&& (2147483647 : Int32)) % (3 : Int32))), .val (.ref b6), .val (.ref b14a), .val (.int (1 : Int32))] [(.int (1 : Int32))]))
    refine Go.step (fun _ k => XS.goto X17.here hx rfl (pc0 := 207) (pc' := 211) rfl (hb hby at_207) (by decide) (by decide) k) ?_
    show Go ReturnedEndW p e below s 24 2176 (Q0 Z p1 p2 p3 p4 h0 n0) (T17.setTop (mkF m 211 #[.val (.int p1), .val (.int p2), .val (.int p3), .val (.int p4), .val (.ref b1), .val (.ref b6), .val (.ref b10), .val (.int ((p4 &&& (2147483647 : Int32)) % (3 : Int32))), .val (.ref b6), .val (.ref b14a), .val (.int (1 : Int32))] [(.int (1 : Int32))]))
    refine Go.step (fun _ k => XS.istore X17.here hx rfl (hb hby at_211) rfl (l' := #[.val (.int p1), .val (.int p2), .val (.int p3), .val (.int p4), .val (.ref b1), .val (.ref b6), .val (.ref b10), .val (.int ((p4 &&& (2147483647 : Int32)) % (3 : Int32))), .val (.ref b6), .val (.ref b14a), .val (.int (1 : Int32))]) rfl k) ?_
    show Go ReturnedEndW p e below s 24 2176 (Q0 Z p1 p2 p3 p4 h0 n0) (T17.setTop (mkF m 213 #[.val (.int p1), .val (.int p2), .val (.int p3), .val (.int p4), .val (.ref b1), .val (.ref b6), .val (.ref b10), .val (.int ((p4 &&& (2147483647 : Int32)) % (3 : Int32))), .val (.ref b6), .val (.ref b14a), .val (.int (1 : Int32))] []))
    refine Go.step (fun _ k => XS.iload X17.here hx rfl (hb hby at_213) rfl k) ?_
    show Go ReturnedEndW p e below s 24 2176 (Q0 Z p1 p2 p3 p4 h0 n0) (T17.setTop (mkF m 215 #[.val (.int p1), .val (.int p2), .val (.int p3), .val (.int p4), .val (.ref b1), .val (.ref b6), .val (.ref b10), .val (.int ((p4 &&& (2147483647 : Int32)) % (3 : Int32))), .val (.ref b6), .val (.ref b14a), .val (.int (1 : Int32))] [(.int (1 : Int32))]))
    refine Go.retNW X17 hS14 hk14 hx (t := .boolean) Bd.returns (by simp) (by decide) (hb hby at_215) (BodyLoose.notSynchronized Bd) e17 (by decide) (by decide) ?_
    exact ⟨rfl, N17⟩
  · skip
    refine Go.step (fun _ k => XS.ifYes X10.here hx rfl (pc0 := 40) (pc' := 48) rfl (hb hby at_40) rfl ((if0 _ _).trans (feq hc40).2) (by decide) (by decide) k) ?_
    show Go ReturnedEndW p e below s 24 2176 (Q0 Z p1 p2 p3 p4 h0 n0) (T10.setTop (mkF m 48 #[.val (.int p1), .val (.int p2), .val (.int p3), .val (.int p4), .val (.ref b1), .val (.ref b6), .val (.ref b10), .val (.int ((p4 &&& (2147483647 : Int32)) % (3 : Int32))), .unset, .unset, .unset] []))
    refine Go.step (fun _ k => XS.iload X10.here hx rfl (hb hby at_48) rfl k) ?_
    show Go ReturnedEndW p e below s 24 2176 (Q0 Z p1 p2 p3 p4 h0 n0) (T10.setTop (mkF m 50 #[.val (.int p1), .val (.int p2), .val (.int p3), .val (.int p4), .val (.ref b1), .val (.ref b6), .val (.ref b10), .val (.int ((p4 &&& (2147483647 : Int32)) % (3 : Int32))), .unset, .unset, .unset] [(.int ((p4 &&& (2147483647 : Int32)) % (3 : Int32)))]))
    refine Go.step (fun _ k => XS.iconst X10.here hx rfl (hb hby at_50) k) ?_
    show Go ReturnedEndW p e below s 24 2176 (Q0 Z p1 p2 p3 p4 h0 n0) (T10.setTop (mkF m 51 #[.val (.int p1), .val (.int p2), .val (.int p3), .val (.int p4), .val (.ref b1), .val (.ref b6), .val (.ref b10), .val (.int ((p4 &&& (2147483647 : Int32)) % (3 : Int32))), .unset, .unset, .unset] [(.int (1 : Int32)), (.int ((p4 &&& (2147483647 : Int32)) % (3 : Int32)))]))
    by_cases hc51 : ((p4 &&& (2147483647 : Int32)) % (3 : Int32)) = (1 : Int32)
    · skip
      refine Go.step (fun _ k => XS.icmpNo X10.here hx rfl (hb hby at_51) rfl (teq hc51).2 k) ?_
      show Go ReturnedEndW p e below s 24 2176 (Q0 Z p1 p2 p3 p4 h0 n0) (T10.setTop (mkF m 54 #[.val (.int p1), .val (.int p2), .val (.int p3), .val (.int p4), .val (.ref b1), .val (.ref b6), .val (.ref b10), .val (.int ((p4 &&& (2147483647 : Int32)) % (3 : Int32))), .unset, .unset, .unset] []))
      refine Go.step (fun _ k => XS.aload X10.here hx rfl (hb hby at_54) rfl rfl k) ?_
      show Go ReturnedEndW p e below s 24 2176 (Q0 Z p1 p2 p3 p4 h0 n0) (T10.setTop (mkF m 56 #[.val (.int p1), .val (.int p2), .val (.int p3), .val (.int p4), .val (.ref b1), .val (.ref b6), .val (.ref b10), .val (.int ((p4 &&& (2147483647 : Int32)) % (3 : Int32))), .unset, .unset, .unset] [(.ref b10)]))
      refine Go.step (fun _ k => XS.goto X10.here hx rfl (pc0 := 56) (pc' := 61) rfl (hb hby at_56) (by decide) (by decide) k) ?_
      show Go ReturnedEndW p e below s 24 2176 (Q0 Z p1 p2 p3 p4 h0 n0) (T10.setTop (mkF m 61 #[.val (.int p1), .val (.int p2), .val (.int p3), .val (.int p4), .val (.ref b1), .val (.ref b6), .val (.ref b10), .val (.int ((p4 &&& (2147483647 : Int32)) % (3 : Int32))), .unset, .unset, .unset] [(.ref b10)]))
      refine Go.step (fun _ k => XS.astore X10.here hx rfl (hb hby at_61) rfl rfl (l' := #[.val (.int p1), .val (.int p2), .val (.int p3), .val (.int p4), .val (.ref b1), .val (.ref b6), .val (.ref b10), .val (.int ((p4 &&& (2147483647 : Int32)) % (3 : Int32))), .val (.ref b10), .unset, .unset]) rfl k) ?_
      show Go ReturnedEndW p e below s 24 2176 (Q0 Z p1 p2 p3 p4 h0 n0) (T10.setTop (mkF m 63 #[.val (.int p1), .val (.int p2), .val (.int p3), .val (.int p4), .val (.ref b1), .val (.ref b6), .val (.ref b10), .val (.int ((p4 &&& (2147483647 : Int32)) % (3 : Int32))), .val (.ref b10), .unset, .unset] []))
      refine Go.step (fun _ k => XS.aload X10.here hx rfl (hb hby at_63) rfl rfl k) ?_
      show Go ReturnedEndW p e below s 24 2176 (Q0 Z p1 p2 p3 p4 h0 n0) (T10.setTop (mkF m 65 #[.val (.int p1), .val (.int p2), .val (.int p3), .val (.int p4), .val (.ref b1), .val (.ref b6), .val (.ref b10), .val (.int ((p4 &&& (2147483647 : Int32)) % (3 : Int32))), .val (.ref b10), .unset, .unset] [(.ref b1)]))
      refine Go.step (fun _ k => XS.aload X10.here hx rfl (hb hby at_65) rfl rfl k) ?_
      show Go ReturnedEndW p e below s 24 2176 (Q0 Z p1 p2 p3 p4 h0 n0) (T10.setTop (mkF m 67 #[.val (.int p1), .val (.int p2), .val (.int p3), .val (.int p4), .val (.ref b1), .val (.ref b6), .val (.ref b10), .val (.int ((p4 &&& (2147483647 : Int32)) % (3 : Int32))), .val (.ref b10), .unset, .unset] [(.ref b10), (.ref b1)]))
      have f_27 := (f_11.ext E10)
      obtain ⟨_, _, ⟨T28, L28, k28, n28⟩, -, X28, hSx28, hgr28, ⟨Lc28, hQ28, l28, y28, z28⟩, st28⟩ := callSS X10 hx (y := (⟨"com/example/wunce/wunce/records/StoredRecord", "completed", "([B[B)Lcom/example/wunce/wunce/records/StoredRecord;"⟩ : MethodName)) hown (mvT hZ (hw _ (List.mem_of_getElem? (i := 2) rfl))) (mvT hZ (hw _ (List.mem_of_getElem? (i := 3) rfl))) (mvT hZ (hw _ (List.mem_of_getElem? (i := 4) rfl))) (mvT hZ (hw _ (List.mem_of_getElem? (i := 5) rfl))) (by decide) (backOfS (W := 0) (rm3 l Z a0 hw [] b1 b10  h10 n0 Z10 f_27 B10) hZ (hw _ (List.mem_of_getElem? (i := 5) rfl)) (hw _ (List.mem_of_getElem? (i := 4) rfl)) (by decide) (by decide)) (g := (mkF m 67 #[.val (.int p1), .val (.int p2), .val (.int p3), .val (.int p4), .val (.ref b1), .val (.ref b6), .val (.ref b10), .val (.int ((p4 &&& (2147483647 : Int32)) % (3 : Int32))), .val (.ref b10), .unset, .unset] [(.ref b10), (.ref b1)])) rfl (by rw [hml]; rfl) (argsL := [(.ref b1), (.ref b10)]) (rest := []) (lenOf pd___B_B_Lcom_example_wunce_wunce_records_StoredRecord_ rfl) rfl (by show 2 * 0 + _ ≤ _; exact Nat.le_of_eq rfl) (hb hby at_67) (fun _ _ => ⟨rfl, e10, (by decide : 3 + 5 ≤ _), (by decide : 3 + 78 ≤ _)⟩)
      dsimp only [Pt.U, Pt.locs, Pt.cells, Pt.slots] at X28 l28 y28 z28 st28 hQ28
      subst l28 y28 z28
      have f_29 := ((B6.wr W9).ext E10)
      obtain ⟨b28a, rfl, N28q, szb28a, K28_0, xE28_1, xF28_2, xF28_3⟩ := hQ28
      have N28 := Fr.app N9 N28q
      have ne_b1_b28a : b1 ≠ b28a := Nat.ne_of_lt (Nat.lt_of_lt_of_le f_27.lt szb28a)
      have ne_b6_b28a : b6 ≠ b28a := Nat.ne_of_lt (Nat.lt_of_lt_of_le f_29.lt szb28a)
      have ne_b10_b28a : b10 ≠ b28a := Nat.ne_of_lt (Nat.lt_of_lt_of_le B10.lt szb28a)
      have g_b28a : n0 ≤ b28a := Nat.le_trans Z10 szb28a
      have Z28 : n0 ≤ T28.heap.size := Nat.le_trans Z10 K28_0.1
      refine Go.hop st28 ?_
      have hS28 : s.Since T28.vm T28.heap.size := hS0.trans hSx28 (Nat.le_trans hk10 (by rw [e10] at hgr28; exact hgr28))
      have hZ28 : Z.Warmed39 (s.setVm T28.vm).vm := State.Warmed39.trans (t := s.setVm s.vm) hZ hSx28.1
      have hown28 : (s.setVm T28.vm).vm.findClass "com/example/wunce/wunce/records/StoredRecordCompletedPinLaw" = some m.cls := by rw [show (s.setVm T28.vm).vm = T28.vm from rfl, hSx28.1.alike.findClass]; exact hown
      have X28 : Stand p l e _ (s.setVm T28.vm) m _ below meth c T28 _ _ _ := X28
      have hk28 : T28.heap.size ≤ T28.heap.size := Nat.le_refl _
      show Go ReturnedEndW p e below s 24 2176 (Q0 Z p1 p2 p3 p4 h0 n0) (T28.setTop (mkF m 70 #[.val (.int p1), .val (.int p2), .val (.int p3), .val (.int p4), .val (.ref b1), .val (.ref b6), .val (.ref b10), .val (.int ((p4 &&& (2147483647 : Int32)) % (3 : Int32))), .val (.ref b10), .unset, .unset] [(.ref b28a)]))
      refine Go.step (fun _ k => XS.astore X28.here hx rfl (hb hby at_70) rfl rfl (l' := #[.val (.int p1), .val (.int p2), .val (.int p3), .val (.int p4), .val (.ref b1), .val (.ref b6), .val (.ref b10), .val (.int ((p4 &&& (2147483647 : Int32)) % (3 : Int32))), .val (.ref b10), .val (.ref b28a), .unset]) rfl k) ?_
      show Go ReturnedEndW p e below s 24 2176 (Q0 Z p1 p2 p3 p4 h0 n0) (T28.setTop (mkF m 72 #[.val (.int p1), .val (.int p2), .val (.int p3), .val (.int p4), .val (.ref b1), .val (.ref b6), .val (.ref b10), .val (.int ((p4 &&& (2147483647 : Int32)) % (3 : Int32))), .val (.ref b10), .val (.ref b28a), .unset] []))
      refine Go.step (fun _ k => XS.aload X28.here hx rfl (hb hby at_72) rfl rfl k) ?_
      show Go ReturnedEndW p e below s 24 2176 (Q0 Z p1 p2 p3 p4 h0 n0) (T28.setTop (mkF m 74 #[.val (.int p1), .val (.int p2), .val (.int p3), .val (.int p4), .val (.ref b1), .val (.ref b6), .val (.ref b10), .val (.int ((p4 &&& (2147483647 : Int32)) % (3 : Int32))), .val (.ref b10), .val (.ref b28a), .unset] [(.ref b28a)]))
      refine Go.step (fun _ k => XS.ifnonnullYes X28.here hx rfl (pc0 := 74) (pc' := 79) rfl (hb hby at_74) rfl (by decide) (by decide) k) ?_
      show Go ReturnedEndW p e below s 24 2176 (Q0 Z p1 p2 p3 p4 h0 n0) (T28.setTop (mkF m 79 #[.val (.int p1), .val (.int p2), .val (.int p3), .val (.int p4), .val (.ref b1), .val (.ref b6), .val (.ref b10), .val (.int ((p4 &&& (2147483647 : Int32)) % (3 : Int32))), .val (.ref b10), .val (.ref b28a), .unset] []))
      refine Go.step (fun _ k => XS.aload X28.here hx rfl (hb hby at_79) rfl rfl k) ?_
      show Go ReturnedEndW p e below s 24 2176 (Q0 Z p1 p2 p3 p4 h0 n0) (T28.setTop (mkF m 81 #[.val (.int p1), .val (.int p2), .val (.int p3), .val (.int p4), .val (.ref b1), .val (.ref b6), .val (.ref b10), .val (.int ((p4 &&& (2147483647 : Int32)) % (3 : Int32))), .val (.ref b10), .val (.ref b28a), .unset] [(.ref b28a)]))
      obtain ⟨cq30, kq30, q30a, q30b, q30c⟩ := isOf hZ28 rfl xE28_1
      obtain ⟨_, _, ⟨T30, L30, k30, n30⟩, -, X30, ⟨Lc30, hQ30, l30, y30, z30⟩, st30⟩ := X28.virtualBack hx (y := (⟨"com/example/wunce/wunce/records/StoredRecord", "isCompleted", "()Z"⟩ : MethodName)) (z := (⟨"com/example/wunce/wunce/records/StoredRecord", "isCompleted", "()Z"⟩ : MethodName)) hown28 (mvT hZ28 (hw _ (List.mem_of_getElem? (i := 32) rfl))) (mvT hZ28 (hw _ (List.mem_of_getElem? (i := 33) rfl))) (notFace_of_selects (args := #[]) (mvT hZ28 (hw _ (List.mem_of_getElem? (i := 35) rfl)))) (mvT hZ28 (hw _ (List.mem_of_getElem? (i := 35) rfl))) (mvT hZ28 (hw _ (List.mem_of_getElem? (i := 34) rfl))) (by decide) (backOf (W := 0) (rm4 l Z a0 hw [] b28a b10 T28.heap xF28_3) hZ28 (hw _ (List.mem_of_getElem? (i := 36) rfl)) (hw _ (List.mem_of_getElem? (i := 4) rfl)) (by decide) (by decide)) q30a q30c (g := (mkF m 81 #[.val (.int p1), .val (.int p2), .val (.int p3), .val (.int p4), .val (.ref b1), .val (.ref b6), .val (.ref b10), .val (.int ((p4 &&& (2147483647 : Int32)) % (3 : Int32))), .val (.ref b10), .val (.ref b28a), .unset] [(.ref b28a)])) rfl (by rw [hml]; rfl) (Steps.refl _) (argsL := []) (rest := []) (lenOf pd___Z rfl) rfl (by show 2 * 0 + _ ≤ _; exact Nat.le_of_eq rfl) (hb hby at_81) (fun _ _ => ⟨rfl, rfl, (by decide : 8 + 0 ≤ _), (by decide : 81 + 0 ≤ _)⟩)
      dsimp only [Pt.U, Pt.locs, Pt.cells, Pt.slots] at X30 l30 y30 z30 st30 hQ30
      subst l30 y30 z30
      obtain ⟨rfl, rfl, e30⟩ := hQ30
      have N30 := Fr.app N28 (Fr.nil n0)
      refine Go.hop st30 ?_
      show Go ReturnedEndW p e below s 24 2176 (Q0 Z p1 p2 p3 p4 h0 n0) (T30.setTop (mkF m 84 #[.val (.int p1), .val (.int p2), .val (.int p3), .val (.int p4), .val (.ref b1), .val (.ref b6), .val (.ref b10), .val (.int ((p4 &&& (2147483647 : Int32)) % (3 : Int32))), .val (.ref b10), .val (.ref b28a), .unset] [(.int (1 : Int32))]))
      refine Go.step (fun _ k => XS.istore X30.here hx rfl (hb hby at_84) rfl (l' := #[.val (.int p1), .val (.int p2), .val (.int p3), .val (.int p4), .val (.ref b1), .val (.ref b6), .val (.ref b10), .val (.int ((p4 &&& (2147483647 : Int32)) % (3 : Int32))), .val (.ref b10), .val (.ref b28a), .val (.int (1 : Int32))]) rfl k) ?_
      show Go ReturnedEndW p e below s 24 2176 (Q0 Z p1 p2 p3 p4 h0 n0) (T30.setTop (mkF m 86 #[.val (.int p1), .val (.int p2), .val (.int p3), .val (.int p4), .val (.ref b1), .val (.ref b6), .val (.ref b10), .val (.int ((p4 &&& (2147483647 : Int32)) % (3 : Int32))), .val (.ref b10), .val (.ref b28a), .val (.int (1 : Int32))] []))
      refine Go.step (fun _ k => XS.iload X30.here hx rfl (hb hby at_86) rfl k) ?_
      show Go ReturnedEndW p e below s 24 2176 (Q0 Z p1 p2 p3 p4 h0 n0) (T30.setTop (mkF m 88 #[.val (.int p1), .val (.int p2), .val (.int p3), .val (.int p4), .val (.ref b1), .val (.ref b6), .val (.ref b10), .val (.int ((p4 &&& (2147483647 : Int32)) % (3 : Int32))), .val (.ref b10), .val (.ref b28a), .val (.int (1 : Int32))] [(.int (1 : Int32))]))
      refine Go.step (fun _ k => XS.ifNo X30.here hx rfl (hb hby at_88) rfl ((if0 _ _).trans (feq (by decide)).1) k) ?_
      show Go ReturnedEndW p e below s 24 2176 (Q0 Z p1 p2 p3 p4 h0 n0) (T30.setTop (mkF m 91 #[.val (.int p1), .val (.int p2), .val (.int p3), .val (.int p4), .val (.ref b1), .val (.ref b6), .val (.ref b10), .val (.int ((p4 &&& (2147483647 : Int32)) % (3 : Int32))), .val (.ref b10), .val (.ref b28a), .val (.int (1 : Int32))] []))
      refine Go.step (fun _ k => XS.aload X30.here hx rfl (hb hby at_91) rfl rfl k) ?_
      show Go ReturnedEndW p e below s 24 2176 (Q0 Z p1 p2 p3 p4 h0 n0) (T30.setTop (mkF m 93 #[.val (.int p1), .val (.int p2), .val (.int p3), .val (.int p4), .val (.ref b1), .val (.ref b6), .val (.ref b10), .val (.int ((p4 &&& (2147483647 : Int32)) % (3 : Int32))), .val (.ref b10), .val (.ref b28a), .val (.int (1 : Int32))] [(.ref b28a)]))
      obtain ⟨cq31, kq31, q31a, q31b, q31c⟩ := isOf hZ28 e30 xE28_1
      obtain ⟨_, _, ⟨T31, L31, k31, n31⟩, -, X31, ⟨Lc31, hQ31, l31, y31, z31⟩, st31⟩ := X30.virtualBack hx (y := (⟨"com/example/wunce/wunce/records/StoredRecord", "fingerprint", "()[B"⟩ : MethodName)) (z := (⟨"com/example/wunce/wunce/records/StoredRecord", "fingerprint", "()[B"⟩ : MethodName)) hown28 (mvT hZ28 (hw _ (List.mem_of_getElem? (i := 37) rfl))) (mvT hZ28 (hw _ (List.mem_of_getElem? (i := 38) rfl))) (notFace_of_selects (args := #[]) (mvT hZ28 (hw _ (List.mem_of_getElem? (i := 40) rfl)))) (mvT hZ28 (hw _ (List.mem_of_getElem? (i := 40) rfl))) (mvT hZ28 (hw _ (List.mem_of_getElem? (i := 39) rfl))) (by decide) (backOf (W := 0) (rm5 l Z a0 hw [] b28a b1 T28.heap xF28_2) hZ28 (hw _ (List.mem_of_getElem? (i := 41) rfl)) (hw _ (List.mem_of_getElem? (i := 4) rfl)) (by decide) (by decide)) q31a q31c (g := (mkF m 93 #[.val (.int p1), .val (.int p2), .val (.int p3), .val (.int p4), .val (.ref b1), .val (.ref b6), .val (.ref b10), .val (.int ((p4 &&& (2147483647 : Int32)) % (3 : Int32))), .val (.ref b10), .val (.ref b28a), .val (.int (1 : Int32))] [(.ref b28a)])) rfl (by rw [hml]; rfl) (Steps.refl _) (argsL := []) (rest := []) (lenOf pd____B rfl) rfl (by show 2 * 0 + _ ≤ _; exact Nat.le_of_eq rfl) (hb hby at_93) (fun _ _ => ⟨rfl, e30, (by decide : 8 + 0 ≤ _), (by decide : 81 + 0 ≤ _)⟩)
      dsimp only [Pt.U, Pt.locs, Pt.cells, Pt.slots] at X31 l31 y31 z31 st31 hQ31
      subst l31 y31 z31
      obtain ⟨rfl, rfl, e31⟩ := hQ31
      have N31 := Fr.app N30 (Fr.nil n0)
      refine Go.hop st31 ?_
      show Go ReturnedEndW p e below s 24 2176 (Q0 Z p1 p2 p3 p4 h0 n0) (T31.setTop (mkF m 96 #[.val (.int p1), .val (.int p2), .val (.int p3), .val (.int p4), .val (.ref b1), .val (.ref b6), .val (.ref b10), .val (.int ((p4 &&& (2147483647 : Int32)) % (3 : Int32))), .val (.ref b10), .val (.ref b28a), .val (.int (1 : Int32))] [(.ref b1)]))
      refine Go.step (fun _ k => XS.aload X31.here hx rfl (hb hby at_96) rfl rfl k) ?_
      show Go ReturnedEndW p e below s 24 2176 (Q0 Z p1 p2 p3 p4 h0 n0) (T31.setTop (mkF m 98 #[.val (.int p1), .val (.int p2), .val (.int p3), .val (.int p4), .val (.ref b1), .val (.ref b6), .val (.ref b10), .val (.int ((p4 &&& (2147483647 : Int32)) % (3 : Int32))), .val (.ref b10), .val (.ref b28a), .val (.int (1 : Int32))] [(.ref b1), (.ref b1)]))
      refine Go.step (fun _ k => Jvm.RoadKit.acmp (g := (mkF m 98 #[.val (.int p1), .val (.int p2), .val (.int p3), .val (.int p4), .val (.ref b1), .val (.ref b6), .val (.ref b10), .val (.int ((p4 &&& (2147483647 : Int32)) % (3 : Int32))), .val (.ref b10), .val (.ref b28a), .val (.int (1 : Int32))] [(.ref b1), (.ref b1)])) X31 hx rfl rfl rfl (pc0 := 98) (pc' := 101) (same := true) rfl (hb hby at_98) rfl (decide_eq_true (congrArg Value.ref rfl)) (by decide) (by decide) k) ?_
      show Go ReturnedEndW p e below s 24 2176 (Q0 Z p1 p2 p3 p4 h0 n0) (T31.setTop (mkF m 101 #[.val (.int p1), .val (.int p2), .val (.int p3), .val (.int p4), .val (.ref b1), .val (.ref b6), .val (.ref b10), .val (.int ((p4 &&& (2147483647 : Int32)) % (3 : Int32))), .val (.ref b10), .val (.ref b28a), .val (.int (1 : Int32))] []))
      refine Go.step (fun _ k => XS.iconst X31.here hx rfl (hb hby at_101) k) ?_
      show Go ReturnedEndW p e below s 24 2176 (Q0 Z p1 p2 p3 p4 h0 n0) (T31.setTop (mkF m 102 #[.val (.int p1), .val (.int p2), .val (.int p3), .val (.int p4), .val (.ref b1), .val (.ref b6), .val (.ref b10), .val (.int ((p4 &&& (2147483647 : Int32)) % (3 : Int32))), .val (.ref b10), .val (.ref b28a), .val (.int (1 : Int32))] [(.int (1 : Int32))]))
      refine Go.step (fun _ k => XS.goto X31.here hx rfl (pc0 := 102) (pc' := 106) rfl (hb hby at_102) (by decide) (by decide) k) ?_
      show Go ReturnedEndW p e below s 24 2176 (Q0 Z p1 p2 p3 p4 h0 n0) (T31.setTop (mkF m 106 #[.val (.int p1), .val (.int p2), .val (.int p3), .val (.int p4), .val (.ref b1), .val (.ref b6), .val (.ref b10), .val (.int ((p4 &&& (2147483647 : Int32)) % (3 : Int32))), .val (.ref b10), .val (.ref b28a), .val (.int (1 : Int32))] [(.int (1 : Int32))]))
      refine Go.step (fun _ k => XS.istore X31.here hx rfl (hb hby at_106) rfl (l' := #[.val (.int p1), .val (.int p2), .val (.int p3), .val (.int p4), .val (.ref b1), .val (.ref b6), .val (.ref b10), .val (.int ((p4 &&& (2147483647 : Int32)) % (3 : Int32))), .val (.ref b10), .val (.ref b28a), .val (.int (1 : Int32))]) rfl k) ?_
      show Go ReturnedEndW p e below s 24 2176 (Q0 Z p1 p2 p3 p4 h0 n0) (T31.setTop (mkF m 108 #[.val (.int p1), .val (.int p2), .val (.int p3), .val (.int p4), .val (.ref b1), .val (.ref b6), .val (.ref b10), .val (.int ((p4 &&& (2147483647 : Int32)) % (3 : Int32))), .val (.ref b10), .val (.ref b28a), .val (.int (1 : Int32))] []))
      refine Go.step (fun _ k => XS.iload X31.here hx rfl (hb hby at_108) rfl k) ?_
      show Go ReturnedEndW p e below s 24 2176 (Q0 Z p1 p2 p3 p4 h0 n0) (T31.setTop (mkF m 110 #[.val (.int p1), .val (.int p2), .val (.int p3), .val (.int p4), .val (.ref b1), .val (.ref b6), .val (.ref b10), .val (.int ((p4 &&& (2147483647 : Int32)) % (3 : Int32))), .val (.ref b10), .val (.ref b28a), .val (.int (1 : Int32))] [(.int (1 : Int32))]))
      refine Go.step (fun _ k => XS.ifNo X31.here hx rfl (hb hby at_110) rfl ((if0 _ _).trans (feq (by decide)).1) k) ?_
      show Go ReturnedEndW p e below s 24 2176 (Q0 Z p1 p2 p3 p4 h0 n0) (T31.setTop (mkF m 113 #[.val (.int p1), .val (.int p2), .val (.int p3), .val (.int p4), .val (.ref b1), .val (.ref b6), .val (.ref b10), .val (.int ((p4 &&& (2147483647 : Int32)) % (3 : Int32))), .val (.ref b10), .val (.ref b28a), .val (.int (1 : Int32))] []))
      refine Go.step (fun _ k => XS.aload X31.here hx rfl (hb hby at_113) rfl rfl k) ?_
      show Go ReturnedEndW p e below s 24 2176 (Q0 Z p1 p2 p3 p4 h0 n0) (T31.setTop (mkF m 115 #[.val (.int p1), .val (.int p2), .val (.int p3), .val (.int p4), .val (.ref b1), .val (.ref b6), .val (.ref b10), .val (.int ((p4 &&& (2147483647 : Int32)) % (3 : Int32))), .val (.ref b10), .val (.ref b28a), .val (.int (1 : Int32))] [(.ref b28a)]))
      obtain ⟨cq32, kq32, q32a, q32b, q32c⟩ := isOf hZ28 e31 xE28_1
      obtain ⟨_, _, ⟨T32, L32, k32, n32⟩, -, X32, ⟨Lc32, hQ32, l32, y32, z32⟩, st32⟩ := X31.virtualBack hx (y := (⟨"com/example/wunce/wunce/records/StoredRecord", "result", "()[B"⟩ : MethodName)) (z := (⟨"com/example/wunce/wunce/records/StoredRecord", "result", "()[B"⟩ : MethodName)) hown28 (mvT hZ28 (hw _ (List.mem_of_getElem? (i := 42) rfl))) (mvT hZ28 (hw _ (List.mem_of_getElem? (i := 43) rfl))) (notFace_of_selects (args := #[]) (mvT hZ28 (hw _ (List.mem_of_getElem? (i := 45) rfl)))) (mvT hZ28 (hw _ (List.mem_of_getElem? (i := 45) rfl))) (mvT hZ28 (hw _ (List.mem_of_getElem? (i := 44) rfl))) (by decide) (backOf (W := 0) (rm6 l Z a0 hw [] b28a b10 T28.heap xF28_3) hZ28 (hw _ (List.mem_of_getElem? (i := 46) rfl)) (hw _ (List.mem_of_getElem? (i := 4) rfl)) (by decide) (by decide)) q32a q32c (g := (mkF m 115 #[.val (.int p1), .val (.int p2), .val (.int p3), .val (.int p4), .val (.ref b1), .val (.ref b6), .val (.ref b10), .val (.int ((p4 &&& (2147483647 : Int32)) % (3 : Int32))), .val (.ref b10), .val (.ref b28a), .val (.int (1 : Int32))] [(.ref b28a)])) rfl (by rw [hml]; rfl) (Steps.refl _) (argsL := []) (rest := []) (lenOf pd____B rfl) rfl (by show 2 * 0 + _ ≤ _; exact Nat.le_of_eq rfl) (hb hby at_115) (fun _ _ => ⟨rfl, e31, (by decide : 8 + 0 ≤ _), (by decide : 81 + 0 ≤ _)⟩)
      dsimp only [Pt.U, Pt.locs, Pt.cells, Pt.slots] at X32 l32 y32 z32 st32 hQ32
      subst l32 y32 z32
      obtain ⟨rfl, rfl, e32⟩ := hQ32
      have N32 := Fr.app N31 (Fr.nil n0)
      refine Go.hop st32 ?_
      show Go ReturnedEndW p e below s 24 2176 (Q0 Z p1 p2 p3 p4 h0 n0) (T32.setTop (mkF m 118 #[.val (.int p1), .val (.int p2), .val (.int p3), .val (.int p4), .val (.ref b1), .val (.ref b6), .val (.ref b10), .val (.int ((p4 &&& (2147483647 : Int32)) % (3 : Int32))), .val (.ref b10), .val (.ref b28a), .val (.int (1 : Int32))] [(.ref b10)]))
      refine Go.step (fun _ k => XS.aload X32.here hx rfl (hb hby at_118) rfl rfl k) ?_
      show Go ReturnedEndW p e below s 24 2176 (Q0 Z p1 p2 p3 p4 h0 n0) (T32.setTop (mkF m 120 #[.val (.int p1), .val (.int p2), .val (.int p3), .val (.int p4), .val (.ref b1), .val (.ref b6), .val (.ref b10), .val (.int ((p4 &&& (2147483647 : Int32)) % (3 : Int32))), .val (.ref b10), .val (.ref b28a), .val (.int (1 : Int32))] [(.ref b10), (.ref b10)]))
      refine Go.step (fun _ k => Jvm.RoadKit.acmp (g := (mkF m 120 #[.val (.int p1), .val (.int p2), .val (.int p3), .val (.int p4), .val (.ref b1), .val (.ref b6), .val (.ref b10), .val (.int ((p4 &&& (2147483647 : Int32)) % (3 : Int32))), .val (.ref b10), .val (.ref b28a), .val (.int (1 : Int32))] [(.ref b10), (.ref b10)])) X32 hx rfl rfl rfl (pc0 := 120) (pc' := 123) (same := true) rfl (hb hby at_120) rfl (decide_eq_true (congrArg Value.ref rfl)) (by decide) (by decide) k) ?_
      show Go ReturnedEndW p e below s 24 2176 (Q0 Z p1 p2 p3 p4 h0 n0) (T32.setTop (mkF m 123 #[.val (.int p1), .val (.int p2), .val (.int p3), .val (.int p4), .val (.ref b1), .val (.ref b6), .val (.ref b10), .val (.int ((p4 &&& (2147483647 : Int32)) % (3 : Int32))), .val (.ref b10), .val (.ref b28a), .val (.int (1 : Int32))] []))
      refine Go.step (fun _ k => XS.iconst X32.here hx rfl (hb hby at_123) k) ?_
      show Go ReturnedEndW p e below s 24 2176 (Q0 Z p1 p2 p3 p4 h0 n0) (T32.setTop (mkF m 124 #[.val (.int p1), .val (.int p2), .val (.int p3), .val (.int p4), .val (.ref b1), .val (.ref b6), .val (.ref b10), .val (.int ((p4 &&& (2147483647 : Int32)) % (3 : Int32))), .val (.ref b10), .val (.ref b28a), .val (.int (1 : Int32))] [(.int (1 : Int32))]))
      refine Go.step (fun _ k => XS.goto X32.here hx rfl (pc0 := 124) (pc' := 128) rfl (hb hby at_124) (by decide) (by decide) k) ?_
      show Go ReturnedEndW p e below s 24 2176 (Q0 Z p1 p2 p3 p4 h0 n0) (T32.setTop (mkF m 128 #[.val (.int p1), .val (.int p2), .val (.int p3), .val (.int p4), .val (.ref b1), .val (.ref b6), .val (.ref b10), .val (.int ((p4 &&& (2147483647 : Int32)) % (3 : Int32))), .val (.ref b10), .val (.ref b28a), .val (.int (1 : Int32))] [(.int (1 : Int32))]))
      refine Go.step (fun _ k => XS.istore X32.here hx rfl (hb hby at_128) rfl (l' := #[.val (.int p1), .val (.int p2), .val (.int p3), .val (.int p4), .val (.ref b1), .val (.ref b6), .val (.ref b10), .val (.int ((p4 &&& (2147483647 : Int32)) % (3 : Int32))), .val (.ref b10), .val (.ref b28a), .val (.int (1 : Int32))]) rfl k) ?_
      show Go ReturnedEndW p e below s 24 2176 (Q0 Z p1 p2 p3 p4 h0 n0) (T32.setTop (mkF m 130 #[.val (.int p1), .val (.int p2), .val (.int p3), .val (.int p4), .val (.ref b1), .val (.ref b6), .val (.ref b10), .val (.int ((p4 &&& (2147483647 : Int32)) % (3 : Int32))), .val (.ref b10), .val (.ref b28a), .val (.int (1 : Int32))] []))
      refine Go.step (fun _ k => XS.iload X32.here hx rfl (hb hby at_130) rfl k) ?_
      show Go ReturnedEndW p e below s 24 2176 (Q0 Z p1 p2 p3 p4 h0 n0) (T32.setTop (mkF m 132 #[.val (.int p1), .val (.int p2), .val (.int p3), .val (.int p4), .val (.ref b1), .val (.ref b6), .val (.ref b10), .val (.int ((p4 &&& (2147483647 : Int32)) % (3 : Int32))), .val (.ref b10), .val (.ref b28a), .val (.int (1 : Int32))] [(.int (1 : Int32))]))
      refine Go.step (fun _ k => XS.ifNo X32.here hx rfl (hb hby at_132) rfl ((if0 _ _).trans (feq (by decide)).1) k) ?_
      show Go ReturnedEndW p e below s 24 2176 (Q0 Z p1 p2 p3 p4 h0 n0) (T32.setTop (mkF m 135 #[.val (.int p1), .val (.int p2), .val (.int p3), .val (.int p4), .val (.ref b1), .val (.ref b6), .val (.ref b10), .val (.int ((p4 &&& (2147483647 : Int32)) % (3 : Int32))), .val (.ref b10), .val (.ref b28a), .val (.int (1 : Int32))] []))
      refine Go.step (fun _ k => XS.aload X32.here hx rfl (hb hby at_135) rfl rfl k) ?_
      show Go ReturnedEndW p e below s 24 2176 (Q0 Z p1 p2 p3 p4 h0 n0) (T32.setTop (mkF m 137 #[.val (.int p1), .val (.int p2), .val (.int p3), .val (.int p4), .val (.ref b1), .val (.ref b6), .val (.ref b10), .val (.int ((p4 &&& (2147483647 : Int32)) % (3 : Int32))), .val (.ref b10), .val (.ref b28a), .val (.int (1 : Int32))] [(.ref b1)]))
      have f_33 := ((((V5.ext E6).other W9 ne_b1_b6).ext E10).keep K28_0 nin0)
      obtain ⟨c34, Ac34, Sc34, Mc34, Gc34⟩ := id f_33
      refine Go.step (X32.arraylength hx (by rw [e32]; exact Ac34.1) (State.isArrayOf_alike hZ28.alike Ac34.2.1) (g := (mkF m 137 #[.val (.int p1), .val (.int p2), .val (.int p3), .val (.int p4), .val (.ref b1), .val (.ref b6), .val (.ref b10), .val (.int ((p4 &&& (2147483647 : Int32)) % (3 : Int32))), .val (.ref b10), .val (.ref b28a), .val (.int (1 : Int32))] [(.ref b1)])) rfl rfl (hb hby at_137)) ?_
      rw [show c34.slots.size.toInt32 = (2 : Int32) from by rw [Sc34]; rfl]
      show Go ReturnedEndW p e below s 24 2176 (Q0 Z p1 p2 p3 p4 h0 n0) (T32.setTop (mkF m 138 #[.val (.int p1), .val (.int p2), .val (.int p3), .val (.int p4), .val (.ref b1), .val (.ref b6), .val (.ref b10), .val (.int ((p4 &&& (2147483647 : Int32)) % (3 : Int32))), .val (.ref b10), .val (.ref b28a), .val (.int (1 : Int32))] [(.int (2 : Int32))]))
      refine Go.step (fun _ k => XS.iconst X32.here hx rfl (hb hby at_138) k) ?_
      show Go ReturnedEndW p e below s 24 2176 (Q0 Z p1 p2 p3 p4 h0 n0) (T32.setTop (mkF m 139 #[.val (.int p1), .val (.int p2), .val (.int p3), .val (.int p4), .val (.ref b1), .val (.ref b6), .val (.ref b10), .val (.int ((p4 &&& (2147483647 : Int32)) % (3 : Int32))), .val (.ref b10), .val (.ref b28a), .val (.int (1 : Int32))] [(.int (2 : Int32)), (.int (2 : Int32))]))
      refine Go.step (fun _ k => XS.icmpNo X32.here hx rfl (hb hby at_139) rfl (teq rfl).2 k) ?_
      show Go ReturnedEndW p e below s 24 2176 (Q0 Z p1 p2 p3 p4 h0 n0) (T32.setTop (mkF m 142 #[.val (.int p1), .val (.int p2), .val (.int p3), .val (.int p4), .val (.ref b1), .val (.ref b6), .val (.ref b10), .val (.int ((p4 &&& (2147483647 : Int32)) % (3 : Int32))), .val (.ref b10), .val (.ref b28a), .val (.int (1 : Int32))] []))
      refine Go.step (fun _ k => XS.aload X32.here hx rfl (hb hby at_142) rfl rfl k) ?_
      show Go ReturnedEndW p e below s 24 2176 (Q0 Z p1 p2 p3 p4 h0 n0) (T32.setTop (mkF m 144 #[.val (.int p1), .val (.int p2), .val (.int p3), .val (.int p4), .val (.ref b1), .val (.ref b6), .val (.ref b10), .val (.int ((p4 &&& (2147483647 : Int32)) % (3 : Int32))), .val (.ref b10), .val (.ref b28a), .val (.int (1 : Int32))] [(.ref b1)]))
      refine Go.step (fun _ k => XS.iconst X32.here hx rfl (hb hby at_144) k) ?_
      show Go ReturnedEndW p e below s 24 2176 (Q0 Z p1 p2 p3 p4 h0 n0) (T32.setTop (mkF m 145 #[.val (.int p1), .val (.int p2), .val (.int p3), .val (.int p4), .val (.ref b1), .val (.ref b6), .val (.ref b10), .val (.int ((p4 &&& (2147483647 : Int32)) % (3 : Int32))), .val (.ref b10), .val (.ref b28a), .val (.int (1 : Int32))] [(.int (0 : Int32)), (.ref b1)]))
      obtain ⟨c35, Ac35, Sc35, Mc35, Gc35⟩ := id f_33
      refine Go.step (X32.baloadBytes hx (j := (0 : Int32)) (v := (.int p1.toInt8.toInt32)) (by rw [e32]; exact Ac35.1) (State.isArrayOf_alike hZ28.alike Ac35.2.1) Ac35.2.2 (own_in Sc35 (by decide) (by decide)) (Av.at Gc35 (by rfl) (by decide) rfl) (g := (mkF m 145 #[.val (.int p1), .val (.int p2), .val (.int p3), .val (.int p4), .val (.ref b1), .val (.ref b6), .val (.ref b10), .val (.int ((p4 &&& (2147483647 : Int32)) % (3 : Int32))), .val (.ref b10), .val (.ref b28a), .val (.int (1 : Int32))] [(.int (0 : Int32)), (.ref b1)])) rfl rfl (hb hby at_145)) ?_
      show Go ReturnedEndW p e below s 24 2176 (Q0 Z p1 p2 p3 p4 h0 n0) (T32.setTop (mkF m 146 #[.val (.int p1), .val (.int p2), .val (.int p3), .val (.int p4), .val (.ref b1), .val (.ref b6), .val (.ref b10), .val (.int ((p4 &&& (2147483647 : Int32)) % (3 : Int32))), .val (.ref b10), .val (.ref b28a), .val (.int (1 : Int32))] [(.int p1.toInt8.toInt32)]))
      refine Go.step (fun _ k => XS.iloadN X32.here hx rfl (hb hby at_146) rfl k) ?_
      show Go ReturnedEndW p e below s 24 2176 (Q0 Z p1 p2 p3 p4 h0 n0) (T32.setTop (mkF m 147 #[.val (.int p1), .val (.int p2), .val (.int p3), .val (.int p4), .val (.ref b1), .val (.ref b6), .val (.ref b10), .val (.int ((p4 &&& (2147483647 : Int32)) % (3 : Int32))), .val (.ref b10), .val (.ref b28a), .val (.int (1 : Int32))] [(.int p1), (.int p1.toInt8.toInt32)]))
      refine Go.step (fun _ k => XS.i2b X32.here hx rfl (hb hby at_147) rfl k) ?_
      show Go ReturnedEndW p e below s 24 2176 (Q0 Z p1 p2 p3 p4 h0 n0) (T32.setTop (mkF m 148 #[.val (.int p1), .val (.int p2), .val (.int p3), .val (.int p4), .val (.ref b1), .val (.ref b6), .val (.ref b10), .val (.int ((p4 &&& (2147483647 : Int32)) % (3 : Int32))), .val (.ref b10), .val (.ref b28a), .val (.int (1 : Int32))] [(.int p1.toInt8.toInt32), (.int p1.toInt8.toInt32)]))
      refine Go.step (fun _ k => XS.icmpNo X32.here hx rfl (hb hby at_148) rfl (teq rfl).2 k) ?_
      show Go ReturnedEndW p e below s 24 2176 (Q0 Z p1 p2 p3 p4 h0 n0) (T32.setTop (mkF m 151 #[.val (.int p1), .val (.int p2), .val (.int p3), .val (.int p4), .val (.ref b1), .val (.ref b6), .val (.ref b10), .val (.int ((p4 &&& (2147483647 : Int32)) % (3 : Int32))), .val (.ref b10), .val (.ref b28a), .val (.int (1 : Int32))] []))
      refine Go.step (fun _ k => XS.aload X32.here hx rfl (hb hby at_151) rfl rfl k) ?_
      show Go ReturnedEndW p e below s 24 2176 (Q0 Z p1 p2 p3 p4 h0 n0) (T32.setTop (mkF m 153 #[.val (.int p1), .val (.int p2), .val (.int p3), .val (.int p4), .val (.ref b1), .val (.ref b6), .val (.ref b10), .val (.int ((p4 &&& (2147483647 : Int32)) % (3 : Int32))), .val (.ref b10), .val (.ref b28a), .val (.int (1 : Int32))] [(.ref b1)]))
      refine Go.step (fun _ k => XS.iconst X32.here hx rfl (hb hby at_153) k) ?_
      show Go ReturnedEndW p e below s 24 2176 (Q0 Z p1 p2 p3 p4 h0 n0) (T32.setTop (mkF m 154 #[.val (.int p1), .val (.int p2), .val (.int p3), .val (.int p4), .val (.ref b1), .val (.ref b6), .val (.ref b10), .val (.int ((p4 &&& (2147483647 : Int32)) % (3 : Int32))), .val (.ref b10), .val (.ref b28a), .val (.int (1 : Int32))] [(.int (1 : Int32)), (.ref b1)]))
      obtain ⟨c36, Ac36, Sc36, Mc36, Gc36⟩ := id f_33
      refine Go.step (X32.baloadBytes hx (j := (1 : Int32)) (v := (.int p2.toInt8.toInt32)) (by rw [e32]; exact Ac36.1) (State.isArrayOf_alike hZ28.alike Ac36.2.1) Ac36.2.2 (own_in Sc36 (by decide) (by decide)) (Av.at Gc36 (by rfl) (by decide) rfl) (g := (mkF m 154 #[.val (.int p1), .val (.int p2), .val (.int p3), .val (.int p4), .val (.ref b1), .val (.ref b6), .val (.ref b10), .val (.int ((p4 &&& (2147483647 : Int32)) % (3 : Int32))), .val (.ref b10), .val (.ref b28a), .val (.int (1 : Int32))] [(.int (1 : Int32)), (.ref b1)])) rfl rfl (hb hby at_154)) ?_
      show Go ReturnedEndW p e below s 24 2176 (Q0 Z p1 p2 p3 p4 h0 n0) (T32.setTop (mkF m 155 #[.val (.int p1), .val (.int p2), .val (.int p3), .val (.int p4), .val (.ref b1), .val (.ref b6), .val (.ref b10), .val (.int ((p4 &&& (2147483647 : Int32)) % (3 : Int32))), .val (.ref b10), .val (.ref b28a), .val (.int (1 : Int32))] [(.int p2.toInt8.toInt32)]))
      refine Go.step (fun _ k => XS.iloadN X32.here hx rfl (hb hby at_155) rfl k) ?_
      show Go ReturnedEndW p e below s 24 2176 (Q0 Z p1 p2 p3 p4 h0 n0) (T32.setTop (mkF m 156 #[.val (.int p1), .val (.int p2), .val (.int p3), .val (.int p4), .val (.ref b1), .val (.ref b6), .val (.ref b10), .val (.int ((p4 &&& (2147483647 : Int32)) % (3 : Int32))), .val (.ref b10), .val (.ref b28a), .val (.int (1 : Int32))] [(.int p2), (.int p2.toInt8.toInt32)]))
      refine Go.step (fun _ k => XS.i2b X32.here hx rfl (hb hby at_156) rfl k) ?_
      show Go ReturnedEndW p e below s 24 2176 (Q0 Z p1 p2 p3 p4 h0 n0) (T32.setTop (mkF m 157 #[.val (.int p1), .val (.int p2), .val (.int p3), .val (.int p4), .val (.ref b1), .val (.ref b6), .val (.ref b10), .val (.int ((p4 &&& (2147483647 : Int32)) % (3 : Int32))), .val (.ref b10), .val (.ref b28a), .val (.int (1 : Int32))] [(.int p2.toInt8.toInt32), (.int p2.toInt8.toInt32)]))
      refine Go.step (fun _ k => XS.icmpNo X32.here hx rfl (hb hby at_157) rfl (teq rfl).2 k) ?_
      show Go ReturnedEndW p e below s 24 2176 (Q0 Z p1 p2 p3 p4 h0 n0) (T32.setTop (mkF m 160 #[.val (.int p1), .val (.int p2), .val (.int p3), .val (.int p4), .val (.ref b1), .val (.ref b6), .val (.ref b10), .val (.int ((p4 &&& (2147483647 : Int32)) % (3 : Int32))), .val (.ref b10), .val (.ref b28a), .val (.int (1 : Int32))] []))
      refine Go.step (fun _ k => XS.iconst X32.here hx rfl (hb hby at_160) k) ?_
      show Go ReturnedEndW p e below s 24 2176 (Q0 Z p1 p2 p3 p4 h0 n0) (T32.setTop (mkF m 161 #[.val (.int p1), .val (.int p2), .val (.int p3), .val (.int p4), .val (.ref b1), .val (.ref b6), .val (.ref b10), .val (.int ((p4 &&& (2147483647 : Int32)) % (3 : Int32))), .val (.ref b10), .val (.ref b28a), .val (.int (1 : Int32))] [(.int (1 : Int32))]))
      refine Go.step (fun _ k => XS.goto X32.here hx rfl (pc0 := 161) (pc' := 165) rfl (hb hby at_161) (by decide) (by decide) k) ?_
      show Go ReturnedEndW p e below s 24 2176 (Q0 Z p1 p2 p3 p4 h0 n0) (T32.setTop (mkF m 165 #[.val (.int p1), .val (.int p2), .val (.int p3), .val (.int p4), .val (.ref b1), .val (.ref b6), .val (.ref b10), .val (.int ((p4 &&& (2147483647 : Int32)) % (3 : Int32))), .val (.ref b10), .val (.ref b28a), .val (.int (1 : Int32))] [(.int (1 : Int32))]))
      refine Go.step (fun _ k => XS.istore X32.here hx rfl (hb hby at_165) rfl (l' := #[.val (.int p1), .val (.int p2), .val (.int p3), .val (.int p4), .val (.ref b1), .val (.ref b6), .val (.ref b10), .val (.int ((p4 &&& (2147483647 : Int32)) % (3 : Int32))), .val (.ref b10), .val (.ref b28a), .val (.int (1 : Int32))]) rfl k) ?_
      show Go ReturnedEndW p e below s 24 2176 (Q0 Z p1 p2 p3 p4 h0 n0) (T32.setTop (mkF m 167 #[.val (.int p1), .val (.int p2), .val (.int p3), .val (.int p4), .val (.ref b1), .val (.ref b6), .val (.ref b10), .val (.int ((p4 &&& (2147483647 : Int32)) % (3 : Int32))), .val (.ref b10), .val (.ref b28a), .val (.int (1 : Int32))] []))
      refine Go.step (fun _ k => XS.iload X32.here hx rfl (hb hby at_167) rfl k) ?_
      show Go ReturnedEndW p e below s 24 2176 (Q0 Z p1 p2 p3 p4 h0 n0) (T32.setTop (mkF m 169 #[.val (.int p1), .val (.int p2), .val (.int p3), .val (.int p4), .val (.ref b1), .val (.ref b6), .val (.ref b10), .val (.int ((p4 &&& (2147483647 : Int32)) % (3 : Int32))), .val (.ref b10), .val (.ref b28a), .val (.int (1 : Int32))] [(.int (1 : Int32))]))
      refine Go.step (fun _ k => XS.ifNo X32.here hx rfl (hb hby at_169) rfl ((if0 _ _).trans (feq (by decide)).1) k) ?_
      show Go ReturnedEndW p e below s 24 2176 (Q0 Z p1 p2 p3 p4 h0 n0) (T32.setTop (mkF m 172 #[.val (.int p1), .val (.int p2), .val (.int p3), .val (.int p4), .val (.ref b1), .val (.ref b6), .val (.ref b10), .val (.int ((p4 &&& (2147483647 : Int32)) % (3 : Int32))), .val (.ref b10), .val (.ref b28a), .val (.int (1 : Int32))] []))
      refine Go.step (fun _ k => XS.aload X32.here hx rfl (hb hby at_172) rfl rfl k) ?_
      show Go ReturnedEndW p e below s 24 2176 (Q0 Z p1 p2 p3 p4 h0 n0) (T32.setTop (mkF m 174 #[.val (.int p1), .val (.int p2), .val (.int p3), .val (.int p4), .val (.ref b1), .val (.ref b6), .val (.ref b10), .val (.int ((p4 &&& (2147483647 : Int32)) % (3 : Int32))), .val (.ref b10), .val (.ref b28a), .val (.int (1 : Int32))] [(.ref b6)]))
      have f_37 := ((V9.ext E10).keep K28_0 nin0)
      obtain ⟨c38, Ac38, Sc38, Mc38, Gc38⟩ := id f_37
      refine Go.step (X32.arraylength hx (by rw [e32]; exact Ac38.1) (State.isArrayOf_alike hZ28.alike Ac38.2.1) (g := (mkF m 174 #[.val (.int p1), .val (.int p2), .val (.int p3), .val (.int p4), .val (.ref b1), .val (.ref b6), .val (.ref b10), .val (.int ((p4 &&& (2147483647 : Int32)) % (3 : Int32))), .val (.ref b10), .val (.ref b28a), .val (.int (1 : Int32))] [(.ref b6)])) rfl rfl (hb hby at_174)) ?_
      rw [show c38.slots.size.toInt32 = (1 : Int32) from by rw [Sc38]; rfl]
      show Go ReturnedEndW p e below s 24 2176 (Q0 Z p1 p2 p3 p4 h0 n0) (T32.setTop (mkF m 175 #[.val (.int p1), .val (.int p2), .val (.int p3), .val (.int p4), .val (.ref b1), .val (.ref b6), .val (.ref b10), .val (.int ((p4 &&& (2147483647 : Int32)) % (3 : Int32))), .val (.ref b10), .val (.ref b28a), .val (.int (1 : Int32))] [(.int (1 : Int32))]))
      refine Go.step (fun _ k => XS.iconst X32.here hx rfl (hb hby at_175) k) ?_
      show Go ReturnedEndW p e below s 24 2176 (Q0 Z p1 p2 p3 p4 h0 n0) (T32.setTop (mkF m 176 #[.val (.int p1), .val (.int p2), .val (.int p3), .val (.int p4), .val (.ref b1), .val (.ref b6), .val (.ref b10), .val (.int ((p4 &&& (2147483647 : Int32)) % (3 : Int32))), .val (.ref b10), .val (.ref b28a), .val (.int (1 : Int32))] [(.int (1 : Int32)), (.int (1 : Int32))]))
      refine Go.step (fun _ k => XS.icmpNo X32.here hx rfl (hb hby at_176) rfl (teq rfl).2 k) ?_
      show Go ReturnedEndW p e below s 24 2176 (Q0 Z p1 p2 p3 p4 h0 n0) (T32.setTop (mkF m 179 #[.val (.int p1), .val (.int p2), .val (.int p3), .val (.int p4), .val (.ref b1), .val (.ref b6), .val (.ref b10), .val (.int ((p4 &&& (2147483647 : Int32)) % (3 : Int32))), .val (.ref b10), .val (.ref b28a), .val (.int (1 : Int32))] []))
      refine Go.step (fun _ k => XS.aload X32.here hx rfl (hb hby at_179) rfl rfl k) ?_
      show Go ReturnedEndW p e below s 24 2176 (Q0 Z p1 p2 p3 p4 h0 n0) (T32.setTop (mkF m 181 #[.val (.int p1), .val (.int p2), .val (.int p3), .val (.int p4), .val (.ref b1), .val (.ref b6), .val (.ref b10), .val (.int ((p4 &&& (2147483647 : Int32)) % (3 : Int32))), .val (.ref b10), .val (.ref b28a), .val (.int (1 : Int32))] [(.ref b6)]))
      refine Go.step (fun _ k => XS.iconst X32.here hx rfl (hb hby at_181) k) ?_
      show Go ReturnedEndW p e below s 24 2176 (Q0 Z p1 p2 p3 p4 h0 n0) (T32.setTop (mkF m 182 #[.val (.int p1), .val (.int p2), .val (.int p3), .val (.int p4), .val (.ref b1), .val (.ref b6), .val (.ref b10), .val (.int ((p4 &&& (2147483647 : Int32)) % (3 : Int32))), .val (.ref b10), .val (.ref b28a), .val (.int (1 : Int32))] [(.int (0 : Int32)), (.ref b6)]))
      obtain ⟨c39, Ac39, Sc39, Mc39, Gc39⟩ := id f_37
      refine Go.step (X32.baloadBytes hx (j := (0 : Int32)) (v := (.int p3.toInt8.toInt32)) (by rw [e32]; exact Ac39.1) (State.isArrayOf_alike hZ28.alike Ac39.2.1) Ac39.2.2 (own_in Sc39 (by decide) (by decide)) (Av.at Gc39 (by rfl) (by decide) rfl) (g := (mkF m 182 #[.val (.int p1), .val (.int p2), .val (.int p3), .val (.int p4), .val (.ref b1), .val (.ref b6), .val (.ref b10), .val (.int ((p4 &&& (2147483647 : Int32)) % (3 : Int32))), .val (.ref b10), .val (.ref b28a), .val (.int (1 : Int32))] [(.int (0 : Int32)), (.ref b6)])) rfl rfl (hb hby at_182)) ?_
      show Go ReturnedEndW p e below s 24 2176 (Q0 Z p1 p2 p3 p4 h0 n0) (T32.setTop (mkF m 183 #[.val (.int p1), .val (.int p2), .val (.int p3), .val (.int p4), .val (.ref b1), .val (.ref b6), .val (.ref b10), .val (.int ((p4 &&& (2147483647 : Int32)) % (3 : Int32))), .val (.ref b10), .val (.ref b28a), .val (.int (1 : Int32))] [(.int p3.toInt8.toInt32)]))
      refine Go.step (fun _ k => XS.iloadN X32.here hx rfl (hb hby at_183) rfl k) ?_
      show Go ReturnedEndW p e below s 24 2176 (Q0 Z p1 p2 p3 p4 h0 n0) (T32.setTop (mkF m 184 #[.val (.int p1), .val (.int p2), .val (.int p3), .val (.int p4), .val (.ref b1), .val (.ref b6), .val (.ref b10), .val (.int ((p4 &&& (2147483647 : Int32)) % (3 : Int32))), .val (.ref b10), .val (.ref b28a), .val (.int (1 : Int32))] [(.int p3), (.int p3.toInt8.toInt32)]))
      refine Go.step (fun _ k => XS.i2b X32.here hx rfl (hb hby at_184) rfl k) ?_
      show Go ReturnedEndW p e below s 24 2176 (Q0 Z p1 p2 p3 p4 h0 n0) (T32.setTop (mkF m 185 #[.val (.int p1), .val (.int p2), .val (.int p3), .val (.int p4), .val (.ref b1), .val (.ref b6), .val (.ref b10), .val (.int ((p4 &&& (2147483647 : Int32)) % (3 : Int32))), .val (.ref b10), .val (.ref b28a), .val (.int (1 : Int32))] [(.int p3.toInt8.toInt32), (.int p3.toInt8.toInt32)]))
      refine Go.step (fun _ k => XS.icmpNo X32.here hx rfl (hb hby at_185) rfl (teq rfl).2 k) ?_
      show Go ReturnedEndW p e below s 24 2176 (Q0 Z p1 p2 p3 p4 h0 n0) (T32.setTop (mkF m 188 #[.val (.int p1), .val (.int p2), .val (.int p3), .val (.int p4), .val (.ref b1), .val (.ref b6), .val (.ref b10), .val (.int ((p4 &&& (2147483647 : Int32)) % (3 : Int32))), .val (.ref b10), .val (.ref b28a), .val (.int (1 : Int32))] []))
      refine Go.step (fun _ k => XS.iconst X32.here hx rfl (hb hby at_188) k) ?_
      show Go ReturnedEndW p e below s 24 2176 (Q0 Z p1 p2 p3 p4 h0 n0) (T32.setTop (mkF m 189 #[.val (.int p1), .val (.int p2), .val (.int p3), .val (.int p4), .val (.ref b1), .val (.ref b6), .val (.ref b10), .val (.int ((p4 &&& (2147483647 : Int32)) % (3 : Int32))), .val (.ref b10), .val (.ref b28a), .val (.int (1 : Int32))] [(.int (1 : Int32))]))
      refine Go.step (fun _ k => XS.goto X32.here hx rfl (pc0 := 189) (pc' := 193) rfl (hb hby at_189) (by decide) (by decide) k) ?_
      show Go ReturnedEndW p e below s 24 2176 (Q0 Z p1 p2 p3 p4 h0 n0) (T32.setTop (mkF m 193 #[.val (.int p1), .val (.int p2), .val (.int p3), .val (.int p4), .val (.ref b1), .val (.ref b6), .val (.ref b10), .val (.int ((p4 &&& (2147483647 : Int32)) % (3 : Int32))), .val (.ref b10), .val (.ref b28a), .val (.int (1 : Int32))] [(.int (1 : Int32))]))
      refine Go.step (fun _ k => XS.istore X32.here hx rfl (hb hby at_193) rfl (l' := #[.val (.int p1), .val (.int p2), .val (.int p3), .val (.int p4), .val (.ref b1), .val (.ref b6), .val (.ref b10), .val (.int ((p4 &&& (2147483647 : Int32)) % (3 : Int32))), .val (.ref b10), .val (.ref b28a), .val (.int (1 : Int32))]) rfl k) ?_
      show Go ReturnedEndW p e below s 24 2176 (Q0 Z p1 p2 p3 p4 h0 n0) (T32.setTop (mkF m 195 #[.val (.int p1), .val (.int p2), .val (.int p3), .val (.int p4), .val (.ref b1), .val (.ref b6), .val (.ref b10), .val (.int ((p4 &&& (2147483647 : Int32)) % (3 : Int32))), .val (.ref b10), .val (.ref b28a), .val (.int (1 : Int32))] []))
      refine Go.step (fun _ k => XS.iload X32.here hx rfl (hb hby at_195) rfl k) ?_
      show Go ReturnedEndW p e below s 24 2176 (Q0 Z p1 p2 p3 p4 h0 n0) (T32.setTop (mkF m 197 #[.val (.int p1), .val (.int p2), .val (.int p3), .val (.int p4), .val (.ref b1), .val (.ref b6), .val (.ref b10), .val (.int ((p4 &&& (2147483647 : Int32)) % (3 : Int32))), .val (.ref b10), .val (.ref b28a), .val (.int (1 : Int32))] [(.int (1 : Int32))]))
      refine Go.step (fun _ k => XS.ifNo X32.here hx rfl (hb hby at_197) rfl ((if0 _ _).trans (feq (by decide)).1) k) ?_
      show Go ReturnedEndW p e below s 24 2176 (Q0 Z p1 p2 p3 p4 h0 n0) (T32.setTop (mkF m 200 #[.val (.int p1), .val (.int p2), .val (.int p3), .val (.int p4), .val (.ref b1), .val (.ref b6), .val (.ref b10), .val (.int ((p4 &&& (2147483647 : Int32)) % (3 : Int32))), .val (.ref b10), .val (.ref b28a), .val (.int (1 : Int32))] []))
      refine Go.step (fun _ k => XS.aload X32.here hx rfl (hb hby at_200) rfl rfl k) ?_
      show Go ReturnedEndW p e below s 24 2176 (Q0 Z p1 p2 p3 p4 h0 n0) (T32.setTop (mkF m 202 #[.val (.int p1), .val (.int p2), .val (.int p3), .val (.int p4), .val (.ref b1), .val (.ref b6), .val (.ref b10), .val (.int ((p4 &&& (2147483647 : Int32)) % (3 : Int32))), .val (.ref b10), .val (.ref b28a), .val (.int (1 : Int32))] [(.ref b10)]))
      have f_40 := (V10.keep K28_0 nin0)
      obtain ⟨c41, Ac41, Sc41, Mc41, Gc41⟩ := id f_40
      refine Go.step (X32.arraylength hx (by rw [e32]; exact Ac41.1) (State.isArrayOf_alike hZ28.alike Ac41.2.1) (g := (mkF m 202 #[.val (.int p1), .val (.int p2), .val (.int p3), .val (.int p4), .val (.ref b1), .val (.ref b6), .val (.ref b10), .val (.int ((p4 &&& (2147483647 : Int32)) % (3 : Int32))), .val (.ref b10), .val (.ref b28a), .val (.int (1 : Int32))] [(.ref b10)])) rfl rfl (hb hby at_202)) ?_
      rw [show c41.slots.size.toInt32 = (0 : Int32) from by rw [Sc41]; rfl]
      show Go ReturnedEndW p e below s 24 2176 (Q0 Z p1 p2 p3 p4 h0 n0) (T32.setTop (mkF m 203 #[.val (.int p1), .val (.int p2), .val (.int p3), .val (.int p4), .val (.ref b1), .val (.ref b6), .val (.ref b10), .val (.int ((p4 &&& (2147483647 : Int32)) % (3 : Int32))), .val (.ref b10), .val (.ref b28a), .val (.int (1 : Int32))] [(.int (0 : Int32))]))
      refine Go.step (fun _ k => XS.ifNo X32.here hx rfl (hb hby at_203) rfl ((if0 _ _).trans (teq rfl).2) k) ?_
      show Go ReturnedEndW p e below s 24 2176 (Q0 Z p1 p2 p3 p4 h0 n0) (T32.setTop (mkF m 206 #[.val (.int p1), .val (.int p2), .val (.int p3), .val (.int p4), .val (.ref b1), .val (.ref b6), .val (.ref b10), .val (.int ((p4 &&& (2147483647 : Int32)) % (3 : Int32))), .val (.ref b10), .val (.ref b28a), .val (.int (1 : Int32))] []))
      refine Go.step (fun _ k => XS.iconst X32.here hx rfl (hb hby at_206) k) ?_
      show Go ReturnedEndW p e below s 24 2176 (Q0 Z p1 p2 p3 p4 h0 n0) (T32.setTop (mkF m 207 #[.val (.int p1), .val (.int p2), .val (.int p3), .val (.int p4), .val (.ref b1), .val (.ref b6), .val (.ref b10), .val (.int ((p4 &&& (2147483647 : Int32)) % (3 : Int32))), .val (.ref b10), .val (.ref b28a), .val (.int (1 : Int32))] [(.int (1 : Int32))]))
      refine Go.step (fun _ k => XS.goto X32.here hx rfl (pc0 := 207) (pc' := 211) rfl (hb hby at_207) (by decide) (by decide) k) ?_
      show Go ReturnedEndW p e below s 24 2176 (Q0 Z p1 p2 p3 p4 h0 n0) (T32.setTop (mkF m 211 #[.val (.int p1), .val (.int p2), .val (.int p3), .val (.int p4), .val (.ref b1), .val (.ref b6), .val (.ref b10), .val (.int ((p4 &&& (2147483647 : Int32)) % (3 : Int32))), .val (.ref b10), .val (.ref b28a), .val (.int (1 : Int32))] [(.int (1 : Int32))]))
      refine Go.step (fun _ k => XS.istore X32.here hx rfl (hb hby at_211) rfl (l' := #[.val (.int p1), .val (.int p2), .val (.int p3), .val (.int p4), .val (.ref b1), .val (.ref b6), .val (.ref b10), .val (.int ((p4 &&& (2147483647 : Int32)) % (3 : Int32))), .val (.ref b10), .val (.ref b28a), .val (.int (1 : Int32))]) rfl k) ?_
      show Go ReturnedEndW p e below s 24 2176 (Q0 Z p1 p2 p3 p4 h0 n0) (T32.setTop (mkF m 213 #[.val (.int p1), .val (.int p2), .val (.int p3), .val (.int p4), .val (.ref b1), .val (.ref b6), .val (.ref b10), .val (.int ((p4 &&& (2147483647 : Int32)) % (3 : Int32))), .val (.ref b10), .val (.ref b28a), .val (.int (1 : Int32))] []))
      refine Go.step (fun _ k => XS.iload X32.here hx rfl (hb hby at_213) rfl k) ?_
      show Go ReturnedEndW p e below s 24 2176 (Q0 Z p1 p2 p3 p4 h0 n0) (T32.setTop (mkF m 215 #[.val (.int p1), .val (.int p2), .val (.int p3), .val (.int p4), .val (.ref b1), .val (.ref b6), .val (.ref b10), .val (.int ((p4 &&& (2147483647 : Int32)) % (3 : Int32))), .val (.ref b10), .val (.ref b28a), .val (.int (1 : Int32))] [(.int (1 : Int32))]))
      refine Go.retNW X32 hS28 hk28 hx (t := .boolean) Bd.returns (by simp) (by decide) (hb hby at_215) (BodyLoose.notSynchronized Bd) e32 (by decide) (by decide) ?_
      exact ⟨rfl, N32⟩
    · skip
      refine Go.step (fun _ k => XS.icmpYes X10.here hx rfl (pc0 := 51) (pc' := 59) rfl (hb hby at_51) rfl (feq hc51).2 (by decide) (by decide) k) ?_
      show Go ReturnedEndW p e below s 24 2176 (Q0 Z p1 p2 p3 p4 h0 n0) (T10.setTop (mkF m 59 #[.val (.int p1), .val (.int p2), .val (.int p3), .val (.int p4), .val (.ref b1), .val (.ref b6), .val (.ref b10), .val (.int ((p4 &&& (2147483647 : Int32)) % (3 : Int32))), .unset, .unset, .unset] []))
      refine Go.step (fun _ k => XS.aload X10.here hx rfl (hb hby at_59) rfl rfl k) ?_
      show Go ReturnedEndW p e below s 24 2176 (Q0 Z p1 p2 p3 p4 h0 n0) (T10.setTop (mkF m 61 #[.val (.int p1), .val (.int p2), .val (.int p3), .val (.int p4), .val (.ref b1), .val (.ref b6), .val (.ref b10), .val (.int ((p4 &&& (2147483647 : Int32)) % (3 : Int32))), .unset, .unset, .unset] [(.ref b1)]))
      refine Go.step (fun _ k => XS.astore X10.here hx rfl (hb hby at_61) rfl rfl (l' := #[.val (.int p1), .val (.int p2), .val (.int p3), .val (.int p4), .val (.ref b1), .val (.ref b6), .val (.ref b10), .val (.int ((p4 &&& (2147483647 : Int32)) % (3 : Int32))), .val (.ref b1), .unset, .unset]) rfl k) ?_
      show Go ReturnedEndW p e below s 24 2176 (Q0 Z p1 p2 p3 p4 h0 n0) (T10.setTop (mkF m 63 #[.val (.int p1), .val (.int p2), .val (.int p3), .val (.int p4), .val (.ref b1), .val (.ref b6), .val (.ref b10), .val (.int ((p4 &&& (2147483647 : Int32)) % (3 : Int32))), .val (.ref b1), .unset, .unset] []))
      refine Go.step (fun _ k => XS.aload X10.here hx rfl (hb hby at_63) rfl rfl k) ?_
      show Go ReturnedEndW p e below s 24 2176 (Q0 Z p1 p2 p3 p4 h0 n0) (T10.setTop (mkF m 65 #[.val (.int p1), .val (.int p2), .val (.int p3), .val (.int p4), .val (.ref b1), .val (.ref b6), .val (.ref b10), .val (.int ((p4 &&& (2147483647 : Int32)) % (3 : Int32))), .val (.ref b1), .unset, .unset] [(.ref b1)]))
      refine Go.step (fun _ k => XS.aload X10.here hx rfl (hb hby at_65) rfl rfl k) ?_
      show Go ReturnedEndW p e below s 24 2176 (Q0 Z p1 p2 p3 p4 h0 n0) (T10.setTop (mkF m 67 #[.val (.int p1), .val (.int p2), .val (.int p3), .val (.int p4), .val (.ref b1), .val (.ref b6), .val (.ref b10), .val (.int ((p4 &&& (2147483647 : Int32)) % (3 : Int32))), .val (.ref b1), .unset, .unset] [(.ref b1), (.ref b1)]))
      have f_42 := (f_11.ext E10)
      obtain ⟨_, _, ⟨T43, L43, k43, n43⟩, -, X43, hSx43, hgr43, ⟨Lc43, hQ43, l43, y43, z43⟩, st43⟩ := callSS X10 hx (y := (⟨"com/example/wunce/wunce/records/StoredRecord", "completed", "([B[B)Lcom/example/wunce/wunce/records/StoredRecord;"⟩ : MethodName)) hown (mvT hZ (hw _ (List.mem_of_getElem? (i := 2) rfl))) (mvT hZ (hw _ (List.mem_of_getElem? (i := 3) rfl))) (mvT hZ (hw _ (List.mem_of_getElem? (i := 4) rfl))) (mvT hZ (hw _ (List.mem_of_getElem? (i := 5) rfl))) (by decide) (backOfS (W := 0) (rm3 l Z a0 hw [] b1 b1  h10 n0 Z10 f_42 f_42) hZ (hw _ (List.mem_of_getElem? (i := 5) rfl)) (hw _ (List.mem_of_getElem? (i := 4) rfl)) (by decide) (by decide)) (g := (mkF m 67 #[.val (.int p1), .val (.int p2), .val (.int p3), .val (.int p4), .val (.ref b1), .val (.ref b6), .val (.ref b10), .val (.int ((p4 &&& (2147483647 : Int32)) % (3 : Int32))), .val (.ref b1), .unset, .unset] [(.ref b1), (.ref b1)])) rfl (by rw [hml]; rfl) (argsL := [(.ref b1), (.ref b1)]) (rest := []) (lenOf pd___B_B_Lcom_example_wunce_wunce_records_StoredRecord_ rfl) rfl (by show 2 * 0 + _ ≤ _; exact Nat.le_of_eq rfl) (hb hby at_67) (fun _ _ => ⟨rfl, e10, (by decide : 3 + 5 ≤ _), (by decide : 3 + 78 ≤ _)⟩)
      dsimp only [Pt.U, Pt.locs, Pt.cells, Pt.slots] at X43 l43 y43 z43 st43 hQ43
      subst l43 y43 z43
      have f_44 := ((B6.wr W9).ext E10)
      obtain ⟨b43a, rfl, N43q, szb43a, K43_0, xE43_1, xF43_2, xF43_3⟩ := hQ43
      have N43 := Fr.app N9 N43q
      have ne_b1_b43a : b1 ≠ b43a := Nat.ne_of_lt (Nat.lt_of_lt_of_le f_42.lt szb43a)
      have ne_b6_b43a : b6 ≠ b43a := Nat.ne_of_lt (Nat.lt_of_lt_of_le f_44.lt szb43a)
      have ne_b10_b43a : b10 ≠ b43a := Nat.ne_of_lt (Nat.lt_of_lt_of_le B10.lt szb43a)
      have g_b43a : n0 ≤ b43a := Nat.le_trans Z10 szb43a
      have Z43 : n0 ≤ T43.heap.size := Nat.le_trans Z10 K43_0.1
      refine Go.hop st43 ?_
      have hS43 : s.Since T43.vm T43.heap.size := hS0.trans hSx43 (Nat.le_trans hk10 (by rw [e10] at hgr43; exact hgr43))
      have hZ43 : Z.Warmed39 (s.setVm T43.vm).vm := State.Warmed39.trans (t := s.setVm s.vm) hZ hSx43.1
      have hown43 : (s.setVm T43.vm).vm.findClass "com/example/wunce/wunce/records/StoredRecordCompletedPinLaw" = some m.cls := by rw [show (s.setVm T43.vm).vm = T43.vm from rfl, hSx43.1.alike.findClass]; exact hown
      have X43 : Stand p l e _ (s.setVm T43.vm) m _ below meth c T43 _ _ _ := X43
      have hk43 : T43.heap.size ≤ T43.heap.size := Nat.le_refl _
      show Go ReturnedEndW p e below s 24 2176 (Q0 Z p1 p2 p3 p4 h0 n0) (T43.setTop (mkF m 70 #[.val (.int p1), .val (.int p2), .val (.int p3), .val (.int p4), .val (.ref b1), .val (.ref b6), .val (.ref b10), .val (.int ((p4 &&& (2147483647 : Int32)) % (3 : Int32))), .val (.ref b1), .unset, .unset] [(.ref b43a)]))
      refine Go.step (fun _ k => XS.astore X43.here hx rfl (hb hby at_70) rfl rfl (l' := #[.val (.int p1), .val (.int p2), .val (.int p3), .val (.int p4), .val (.ref b1), .val (.ref b6), .val (.ref b10), .val (.int ((p4 &&& (2147483647 : Int32)) % (3 : Int32))), .val (.ref b1), .val (.ref b43a), .unset]) rfl k) ?_
      show Go ReturnedEndW p e below s 24 2176 (Q0 Z p1 p2 p3 p4 h0 n0) (T43.setTop (mkF m 72 #[.val (.int p1), .val (.int p2), .val (.int p3), .val (.int p4), .val (.ref b1), .val (.ref b6), .val (.ref b10), .val (.int ((p4 &&& (2147483647 : Int32)) % (3 : Int32))), .val (.ref b1), .val (.ref b43a), .unset] []))
      refine Go.step (fun _ k => XS.aload X43.here hx rfl (hb hby at_72) rfl rfl k) ?_
      show Go ReturnedEndW p e below s 24 2176 (Q0 Z p1 p2 p3 p4 h0 n0) (T43.setTop (mkF m 74 #[.val (.int p1), .val (.int p2), .val (.int p3), .val (.int p4), .val (.ref b1), .val (.ref b6), .val (.ref b10), .val (.int ((p4 &&& (2147483647 : Int32)) % (3 : Int32))), .val (.ref b1), .val (.ref b43a), .unset] [(.ref b43a)]))
      refine Go.step (fun _ k => XS.ifnonnullYes X43.here hx rfl (pc0 := 74) (pc' := 79) rfl (hb hby at_74) rfl (by decide) (by decide) k) ?_
      show Go ReturnedEndW p e below s 24 2176 (Q0 Z p1 p2 p3 p4 h0 n0) (T43.setTop (mkF m 79 #[.val (.int p1), .val (.int p2), .val (.int p3), .val (.int p4), .val (.ref b1), .val (.ref b6), .val (.ref b10), .val (.int ((p4 &&& (2147483647 : Int32)) % (3 : Int32))), .val (.ref b1), .val (.ref b43a), .unset] []))
      refine Go.step (fun _ k => XS.aload X43.here hx rfl (hb hby at_79) rfl rfl k) ?_
      show Go ReturnedEndW p e below s 24 2176 (Q0 Z p1 p2 p3 p4 h0 n0) (T43.setTop (mkF m 81 #[.val (.int p1), .val (.int p2), .val (.int p3), .val (.int p4), .val (.ref b1), .val (.ref b6), .val (.ref b10), .val (.int ((p4 &&& (2147483647 : Int32)) % (3 : Int32))), .val (.ref b1), .val (.ref b43a), .unset] [(.ref b43a)]))
      obtain ⟨cq45, kq45, q45a, q45b, q45c⟩ := isOf hZ43 rfl xE43_1
      obtain ⟨_, _, ⟨T45, L45, k45, n45⟩, -, X45, ⟨Lc45, hQ45, l45, y45, z45⟩, st45⟩ := X43.virtualBack hx (y := (⟨"com/example/wunce/wunce/records/StoredRecord", "isCompleted", "()Z"⟩ : MethodName)) (z := (⟨"com/example/wunce/wunce/records/StoredRecord", "isCompleted", "()Z"⟩ : MethodName)) hown43 (mvT hZ43 (hw _ (List.mem_of_getElem? (i := 32) rfl))) (mvT hZ43 (hw _ (List.mem_of_getElem? (i := 33) rfl))) (notFace_of_selects (args := #[]) (mvT hZ43 (hw _ (List.mem_of_getElem? (i := 35) rfl)))) (mvT hZ43 (hw _ (List.mem_of_getElem? (i := 35) rfl))) (mvT hZ43 (hw _ (List.mem_of_getElem? (i := 34) rfl))) (by decide) (backOf (W := 0) (rm4 l Z a0 hw [] b43a b1 T43.heap xF43_3) hZ43 (hw _ (List.mem_of_getElem? (i := 36) rfl)) (hw _ (List.mem_of_getElem? (i := 4) rfl)) (by decide) (by decide)) q45a q45c (g := (mkF m 81 #[.val (.int p1), .val (.int p2), .val (.int p3), .val (.int p4), .val (.ref b1), .val (.ref b6), .val (.ref b10), .val (.int ((p4 &&& (2147483647 : Int32)) % (3 : Int32))), .val (.ref b1), .val (.ref b43a), .unset] [(.ref b43a)])) rfl (by rw [hml]; rfl) (Steps.refl _) (argsL := []) (rest := []) (lenOf pd___Z rfl) rfl (by show 2 * 0 + _ ≤ _; exact Nat.le_of_eq rfl) (hb hby at_81) (fun _ _ => ⟨rfl, rfl, (by decide : 8 + 0 ≤ _), (by decide : 81 + 0 ≤ _)⟩)
      dsimp only [Pt.U, Pt.locs, Pt.cells, Pt.slots] at X45 l45 y45 z45 st45 hQ45
      subst l45 y45 z45
      obtain ⟨rfl, rfl, e45⟩ := hQ45
      have N45 := Fr.app N43 (Fr.nil n0)
      refine Go.hop st45 ?_
      show Go ReturnedEndW p e below s 24 2176 (Q0 Z p1 p2 p3 p4 h0 n0) (T45.setTop (mkF m 84 #[.val (.int p1), .val (.int p2), .val (.int p3), .val (.int p4), .val (.ref b1), .val (.ref b6), .val (.ref b10), .val (.int ((p4 &&& (2147483647 : Int32)) % (3 : Int32))), .val (.ref b1), .val (.ref b43a), .unset] [(.int (1 : Int32))]))
      refine Go.step (fun _ k => XS.istore X45.here hx rfl (hb hby at_84) rfl (l' := #[.val (.int p1), .val (.int p2), .val (.int p3), .val (.int p4), .val (.ref b1), .val (.ref b6), .val (.ref b10), .val (.int ((p4 &&& (2147483647 : Int32)) % (3 : Int32))), .val (.ref b1), .val (.ref b43a), .val (.int (1 : Int32))]) rfl k) ?_
      show Go ReturnedEndW p e below s 24 2176 (Q0 Z p1 p2 p3 p4 h0 n0) (T45.setTop (mkF m 86 #[.val (.int p1), .val (.int p2), .val (.int p3), .val (.int p4), .val (.ref b1), .val (.ref b6), .val (.ref b10), .val (.int ((p4 &&& (2147483647 : Int32)) % (3 : Int32))), .val (.ref b1), .val (.ref b43a), .val (.int (1 : Int32))] []))
      refine Go.step (fun _ k => XS.iload X45.here hx rfl (hb hby at_86) rfl k) ?_
      show Go ReturnedEndW p e below s 24 2176 (Q0 Z p1 p2 p3 p4 h0 n0) (T45.setTop (mkF m 88 #[.val (.int p1), .val (.int p2), .val (.int p3), .val (.int p4), .val (.ref b1), .val (.ref b6), .val (.ref b10), .val (.int ((p4 &&& (2147483647 : Int32)) % (3 : Int32))), .val (.ref b1), .val (.ref b43a), .val (.int (1 : Int32))] [(.int (1 : Int32))]))
      refine Go.step (fun _ k => XS.ifNo X45.here hx rfl (hb hby at_88) rfl ((if0 _ _).trans (feq (by decide)).1) k) ?_
      show Go ReturnedEndW p e below s 24 2176 (Q0 Z p1 p2 p3 p4 h0 n0) (T45.setTop (mkF m 91 #[.val (.int p1), .val (.int p2), .val (.int p3), .val (.int p4), .val (.ref b1), .val (.ref b6), .val (.ref b10), .val (.int ((p4 &&& (2147483647 : Int32)) % (3 : Int32))), .val (.ref b1), .val (.ref b43a), .val (.int (1 : Int32))] []))
      refine Go.step (fun _ k => XS.aload X45.here hx rfl (hb hby at_91) rfl rfl k) ?_
      show Go ReturnedEndW p e below s 24 2176 (Q0 Z p1 p2 p3 p4 h0 n0) (T45.setTop (mkF m 93 #[.val (.int p1), .val (.int p2), .val (.int p3), .val (.int p4), .val (.ref b1), .val (.ref b6), .val (.ref b10), .val (.int ((p4 &&& (2147483647 : Int32)) % (3 : Int32))), .val (.ref b1), .val (.ref b43a), .val (.int (1 : Int32))] [(.ref b43a)]))
      obtain ⟨cq46, kq46, q46a, q46b, q46c⟩ := isOf hZ43 e45 xE43_1
      obtain ⟨_, _, ⟨T46, L46, k46, n46⟩, -, X46, ⟨Lc46, hQ46, l46, y46, z46⟩, st46⟩ := X45.virtualBack hx (y := (⟨"com/example/wunce/wunce/records/StoredRecord", "fingerprint", "()[B"⟩ : MethodName)) (z := (⟨"com/example/wunce/wunce/records/StoredRecord", "fingerprint", "()[B"⟩ : MethodName)) hown43 (mvT hZ43 (hw _ (List.mem_of_getElem? (i := 37) rfl))) (mvT hZ43 (hw _ (List.mem_of_getElem? (i := 38) rfl))) (notFace_of_selects (args := #[]) (mvT hZ43 (hw _ (List.mem_of_getElem? (i := 40) rfl)))) (mvT hZ43 (hw _ (List.mem_of_getElem? (i := 40) rfl))) (mvT hZ43 (hw _ (List.mem_of_getElem? (i := 39) rfl))) (by decide) (backOf (W := 0) (rm5 l Z a0 hw [] b43a b1 T43.heap xF43_2) hZ43 (hw _ (List.mem_of_getElem? (i := 41) rfl)) (hw _ (List.mem_of_getElem? (i := 4) rfl)) (by decide) (by decide)) q46a q46c (g := (mkF m 93 #[.val (.int p1), .val (.int p2), .val (.int p3), .val (.int p4), .val (.ref b1), .val (.ref b6), .val (.ref b10), .val (.int ((p4 &&& (2147483647 : Int32)) % (3 : Int32))), .val (.ref b1), .val (.ref b43a), .val (.int (1 : Int32))] [(.ref b43a)])) rfl (by rw [hml]; rfl) (Steps.refl _) (argsL := []) (rest := []) (lenOf pd____B rfl) rfl (by show 2 * 0 + _ ≤ _; exact Nat.le_of_eq rfl) (hb hby at_93) (fun _ _ => ⟨rfl, e45, (by decide : 8 + 0 ≤ _), (by decide : 81 + 0 ≤ _)⟩)
      dsimp only [Pt.U, Pt.locs, Pt.cells, Pt.slots] at X46 l46 y46 z46 st46 hQ46
      subst l46 y46 z46
      obtain ⟨rfl, rfl, e46⟩ := hQ46
      have N46 := Fr.app N45 (Fr.nil n0)
      refine Go.hop st46 ?_
      show Go ReturnedEndW p e below s 24 2176 (Q0 Z p1 p2 p3 p4 h0 n0) (T46.setTop (mkF m 96 #[.val (.int p1), .val (.int p2), .val (.int p3), .val (.int p4), .val (.ref b1), .val (.ref b6), .val (.ref b10), .val (.int ((p4 &&& (2147483647 : Int32)) % (3 : Int32))), .val (.ref b1), .val (.ref b43a), .val (.int (1 : Int32))] [(.ref b1)]))
      refine Go.step (fun _ k => XS.aload X46.here hx rfl (hb hby at_96) rfl rfl k) ?_
      show Go ReturnedEndW p e below s 24 2176 (Q0 Z p1 p2 p3 p4 h0 n0) (T46.setTop (mkF m 98 #[.val (.int p1), .val (.int p2), .val (.int p3), .val (.int p4), .val (.ref b1), .val (.ref b6), .val (.ref b10), .val (.int ((p4 &&& (2147483647 : Int32)) % (3 : Int32))), .val (.ref b1), .val (.ref b43a), .val (.int (1 : Int32))] [(.ref b1), (.ref b1)]))
      refine Go.step (fun _ k => Jvm.RoadKit.acmp (g := (mkF m 98 #[.val (.int p1), .val (.int p2), .val (.int p3), .val (.int p4), .val (.ref b1), .val (.ref b6), .val (.ref b10), .val (.int ((p4 &&& (2147483647 : Int32)) % (3 : Int32))), .val (.ref b1), .val (.ref b43a), .val (.int (1 : Int32))] [(.ref b1), (.ref b1)])) X46 hx rfl rfl rfl (pc0 := 98) (pc' := 101) (same := true) rfl (hb hby at_98) rfl (decide_eq_true (congrArg Value.ref rfl)) (by decide) (by decide) k) ?_
      show Go ReturnedEndW p e below s 24 2176 (Q0 Z p1 p2 p3 p4 h0 n0) (T46.setTop (mkF m 101 #[.val (.int p1), .val (.int p2), .val (.int p3), .val (.int p4), .val (.ref b1), .val (.ref b6), .val (.ref b10), .val (.int ((p4 &&& (2147483647 : Int32)) % (3 : Int32))), .val (.ref b1), .val (.ref b43a), .val (.int (1 : Int32))] []))
      refine Go.step (fun _ k => XS.iconst X46.here hx rfl (hb hby at_101) k) ?_
      show Go ReturnedEndW p e below s 24 2176 (Q0 Z p1 p2 p3 p4 h0 n0) (T46.setTop (mkF m 102 #[.val (.int p1), .val (.int p2), .val (.int p3), .val (.int p4), .val (.ref b1), .val (.ref b6), .val (.ref b10), .val (.int ((p4 &&& (2147483647 : Int32)) % (3 : Int32))), .val (.ref b1), .val (.ref b43a), .val (.int (1 : Int32))] [(.int (1 : Int32))]))
      refine Go.step (fun _ k => XS.goto X46.here hx rfl (pc0 := 102) (pc' := 106) rfl (hb hby at_102) (by decide) (by decide) k) ?_
      show Go ReturnedEndW p e below s 24 2176 (Q0 Z p1 p2 p3 p4 h0 n0) (T46.setTop (mkF m 106 #[.val (.int p1), .val (.int p2), .val (.int p3), .val (.int p4), .val (.ref b1), .val (.ref b6), .val (.ref b10), .val (.int ((p4 &&& (2147483647 : Int32)) % (3 : Int32))), .val (.ref b1), .val (.ref b43a), .val (.int (1 : Int32))] [(.int (1 : Int32))]))
      refine Go.step (fun _ k => XS.istore X46.here hx rfl (hb hby at_106) rfl (l' := #[.val (.int p1), .val (.int p2), .val (.int p3), .val (.int p4), .val (.ref b1), .val (.ref b6), .val (.ref b10), .val (.int ((p4 &&& (2147483647 : Int32)) % (3 : Int32))), .val (.ref b1), .val (.ref b43a), .val (.int (1 : Int32))]) rfl k) ?_
      show Go ReturnedEndW p e below s 24 2176 (Q0 Z p1 p2 p3 p4 h0 n0) (T46.setTop (mkF m 108 #[.val (.int p1), .val (.int p2), .val (.int p3), .val (.int p4), .val (.ref b1), .val (.ref b6), .val (.ref b10), .val (.int ((p4 &&& (2147483647 : Int32)) % (3 : Int32))), .val (.ref b1), .val (.ref b43a), .val (.int (1 : Int32))] []))
      refine Go.step (fun _ k => XS.iload X46.here hx rfl (hb hby at_108) rfl k) ?_
      show Go ReturnedEndW p e below s 24 2176 (Q0 Z p1 p2 p3 p4 h0 n0) (T46.setTop (mkF m 110 #[.val (.int p1), .val (.int p2), .val (.int p3), .val (.int p4), .val (.ref b1), .val (.ref b6), .val (.ref b10), .val (.int ((p4 &&& (2147483647 : Int32)) % (3 : Int32))), .val (.ref b1), .val (.ref b43a), .val (.int (1 : Int32))] [(.int (1 : Int32))]))
      refine Go.step (fun _ k => XS.ifNo X46.here hx rfl (hb hby at_110) rfl ((if0 _ _).trans (feq (by decide)).1) k) ?_
      show Go ReturnedEndW p e below s 24 2176 (Q0 Z p1 p2 p3 p4 h0 n0) (T46.setTop (mkF m 113 #[.val (.int p1), .val (.int p2), .val (.int p3), .val (.int p4), .val (.ref b1), .val (.ref b6), .val (.ref b10), .val (.int ((p4 &&& (2147483647 : Int32)) % (3 : Int32))), .val (.ref b1), .val (.ref b43a), .val (.int (1 : Int32))] []))
      refine Go.step (fun _ k => XS.aload X46.here hx rfl (hb hby at_113) rfl rfl k) ?_
      show Go ReturnedEndW p e below s 24 2176 (Q0 Z p1 p2 p3 p4 h0 n0) (T46.setTop (mkF m 115 #[.val (.int p1), .val (.int p2), .val (.int p3), .val (.int p4), .val (.ref b1), .val (.ref b6), .val (.ref b10), .val (.int ((p4 &&& (2147483647 : Int32)) % (3 : Int32))), .val (.ref b1), .val (.ref b43a), .val (.int (1 : Int32))] [(.ref b43a)]))
      obtain ⟨cq47, kq47, q47a, q47b, q47c⟩ := isOf hZ43 e46 xE43_1
      obtain ⟨_, _, ⟨T47, L47, k47, n47⟩, -, X47, ⟨Lc47, hQ47, l47, y47, z47⟩, st47⟩ := X46.virtualBack hx (y := (⟨"com/example/wunce/wunce/records/StoredRecord", "result", "()[B"⟩ : MethodName)) (z := (⟨"com/example/wunce/wunce/records/StoredRecord", "result", "()[B"⟩ : MethodName)) hown43 (mvT hZ43 (hw _ (List.mem_of_getElem? (i := 42) rfl))) (mvT hZ43 (hw _ (List.mem_of_getElem? (i := 43) rfl))) (notFace_of_selects (args := #[]) (mvT hZ43 (hw _ (List.mem_of_getElem? (i := 45) rfl)))) (mvT hZ43 (hw _ (List.mem_of_getElem? (i := 45) rfl))) (mvT hZ43 (hw _ (List.mem_of_getElem? (i := 44) rfl))) (by decide) (backOf (W := 0) (rm6 l Z a0 hw [] b43a b1 T43.heap xF43_3) hZ43 (hw _ (List.mem_of_getElem? (i := 46) rfl)) (hw _ (List.mem_of_getElem? (i := 4) rfl)) (by decide) (by decide)) q47a q47c (g := (mkF m 115 #[.val (.int p1), .val (.int p2), .val (.int p3), .val (.int p4), .val (.ref b1), .val (.ref b6), .val (.ref b10), .val (.int ((p4 &&& (2147483647 : Int32)) % (3 : Int32))), .val (.ref b1), .val (.ref b43a), .val (.int (1 : Int32))] [(.ref b43a)])) rfl (by rw [hml]; rfl) (Steps.refl _) (argsL := []) (rest := []) (lenOf pd____B rfl) rfl (by show 2 * 0 + _ ≤ _; exact Nat.le_of_eq rfl) (hb hby at_115) (fun _ _ => ⟨rfl, e46, (by decide : 8 + 0 ≤ _), (by decide : 81 + 0 ≤ _)⟩)
      dsimp only [Pt.U, Pt.locs, Pt.cells, Pt.slots] at X47 l47 y47 z47 st47 hQ47
      subst l47 y47 z47
      obtain ⟨rfl, rfl, e47⟩ := hQ47
      have N47 := Fr.app N46 (Fr.nil n0)
      refine Go.hop st47 ?_
      show Go ReturnedEndW p e below s 24 2176 (Q0 Z p1 p2 p3 p4 h0 n0) (T47.setTop (mkF m 118 #[.val (.int p1), .val (.int p2), .val (.int p3), .val (.int p4), .val (.ref b1), .val (.ref b6), .val (.ref b10), .val (.int ((p4 &&& (2147483647 : Int32)) % (3 : Int32))), .val (.ref b1), .val (.ref b43a), .val (.int (1 : Int32))] [(.ref b1)]))
      refine Go.step (fun _ k => XS.aload X47.here hx rfl (hb hby at_118) rfl rfl k) ?_
      show Go ReturnedEndW p e below s 24 2176 (Q0 Z p1 p2 p3 p4 h0 n0) (T47.setTop (mkF m 120 #[.val (.int p1), .val (.int p2), .val (.int p3), .val (.int p4), .val (.ref b1), .val (.ref b6), .val (.ref b10), .val (.int ((p4 &&& (2147483647 : Int32)) % (3 : Int32))), .val (.ref b1), .val (.ref b43a), .val (.int (1 : Int32))] [(.ref b1), (.ref b1)]))
      refine Go.step (fun _ k => Jvm.RoadKit.acmp (g := (mkF m 120 #[.val (.int p1), .val (.int p2), .val (.int p3), .val (.int p4), .val (.ref b1), .val (.ref b6), .val (.ref b10), .val (.int ((p4 &&& (2147483647 : Int32)) % (3 : Int32))), .val (.ref b1), .val (.ref b43a), .val (.int (1 : Int32))] [(.ref b1), (.ref b1)])) X47 hx rfl rfl rfl (pc0 := 120) (pc' := 123) (same := true) rfl (hb hby at_120) rfl (decide_eq_true (congrArg Value.ref rfl)) (by decide) (by decide) k) ?_
      show Go ReturnedEndW p e below s 24 2176 (Q0 Z p1 p2 p3 p4 h0 n0) (T47.setTop (mkF m 123 #[.val (.int p1), .val (.int p2), .val (.int p3), .val (.int p4), .val (.ref b1), .val (.ref b6), .val (.ref b10), .val (.int ((p4 &&& (2147483647 : Int32)) % (3 : Int32))), .val (.ref b1), .val (.ref b43a), .val (.int (1 : Int32))] []))
      refine Go.step (fun _ k => XS.iconst X47.here hx rfl (hb hby at_123) k) ?_
      show Go ReturnedEndW p e below s 24 2176 (Q0 Z p1 p2 p3 p4 h0 n0) (T47.setTop (mkF m 124 #[.val (.int p1), .val (.int p2), .val (.int p3), .val (.int p4), .val (.ref b1), .val (.ref b6), .val (.ref b10), .val (.int ((p4 &&& (2147483647 : Int32)) % (3 : Int32))), .val (.ref b1), .val (.ref b43a), .val (.int (1 : Int32))] [(.int (1 : Int32))]))
      refine Go.step (fun _ k => XS.goto X47.here hx rfl (pc0 := 124) (pc' := 128) rfl (hb hby at_124) (by decide) (by decide) k) ?_
      show Go ReturnedEndW p e below s 24 2176 (Q0 Z p1 p2 p3 p4 h0 n0) (T47.setTop (mkF m 128 #[.val (.int p1), .val (.int p2), .val (.int p3), .val (.int p4), .val (.ref b1), .val (.ref b6), .val (.ref b10), .val (.int ((p4 &&& (2147483647 : Int32)) % (3 : Int32))), .val (.ref b1), .val (.ref b43a), .val (.int (1 : Int32))] [(.int (1 : Int32))]))
      refine Go.step (fun _ k => XS.istore X47.here hx rfl (hb hby at_128) rfl (l' := #[.val (.int p1), .val (.int p2), .val (.int p3), .val (.int p4), .val (.ref b1), .val (.ref b6), .val (.ref b10), .val (.int ((p4 &&& (2147483647 : Int32)) % (3 : Int32))), .val (.ref b1), .val (.ref b43a), .val (.int (1 : Int32))]) rfl k) ?_
      show Go ReturnedEndW p e below s 24 2176 (Q0 Z p1 p2 p3 p4 h0 n0) (T47.setTop (mkF m 130 #[.val (.int p1), .val (.int p2), .val (.int p3), .val (.int p4), .val (.ref b1), .val (.ref b6), .val (.ref b10), .val (.int ((p4 &&& (2147483647 : Int32)) % (3 : Int32))), .val (.ref b1), .val (.ref b43a), .val (.int (1 : Int32))] []))
      refine Go.step (fun _ k => XS.iload X47.here hx rfl (hb hby at_130) rfl k) ?_
      show Go ReturnedEndW p e below s 24 2176 (Q0 Z p1 p2 p3 p4 h0 n0) (T47.setTop (mkF m 132 #[.val (.int p1), .val (.int p2), .val (.int p3), .val (.int p4), .val (.ref b1), .val (.ref b6), .val (.ref b10), .val (.int ((p4 &&& (2147483647 : Int32)) % (3 : Int32))), .val (.ref b1), .val (.ref b43a), .val (.int (1 : Int32))] [(.int (1 : Int32))]))
      refine Go.step (fun _ k => XS.ifNo X47.here hx rfl (hb hby at_132) rfl ((if0 _ _).trans (feq (by decide)).1) k) ?_
      show Go ReturnedEndW p e below s 24 2176 (Q0 Z p1 p2 p3 p4 h0 n0) (T47.setTop (mkF m 135 #[.val (.int p1), .val (.int p2), .val (.int p3), .val (.int p4), .val (.ref b1), .val (.ref b6), .val (.ref b10), .val (.int ((p4 &&& (2147483647 : Int32)) % (3 : Int32))), .val (.ref b1), .val (.ref b43a), .val (.int (1 : Int32))] []))
      refine Go.step (fun _ k => XS.aload X47.here hx rfl (hb hby at_135) rfl rfl k) ?_
      show Go ReturnedEndW p e below s 24 2176 (Q0 Z p1 p2 p3 p4 h0 n0) (T47.setTop (mkF m 137 #[.val (.int p1), .val (.int p2), .val (.int p3), .val (.int p4), .val (.ref b1), .val (.ref b6), .val (.ref b10), .val (.int ((p4 &&& (2147483647 : Int32)) % (3 : Int32))), .val (.ref b1), .val (.ref b43a), .val (.int (1 : Int32))] [(.ref b1)]))
      have f_48 := ((((V5.ext E6).other W9 ne_b1_b6).ext E10).keep K43_0 nin0)
      obtain ⟨c49, Ac49, Sc49, Mc49, Gc49⟩ := id f_48
      refine Go.step (X47.arraylength hx (by rw [e47]; exact Ac49.1) (State.isArrayOf_alike hZ43.alike Ac49.2.1) (g := (mkF m 137 #[.val (.int p1), .val (.int p2), .val (.int p3), .val (.int p4), .val (.ref b1), .val (.ref b6), .val (.ref b10), .val (.int ((p4 &&& (2147483647 : Int32)) % (3 : Int32))), .val (.ref b1), .val (.ref b43a), .val (.int (1 : Int32))] [(.ref b1)])) rfl rfl (hb hby at_137)) ?_
      rw [show c49.slots.size.toInt32 = (2 : Int32) from by rw [Sc49]; rfl]
      show Go ReturnedEndW p e below s 24 2176 (Q0 Z p1 p2 p3 p4 h0 n0) (T47.setTop (mkF m 138 #[.val (.int p1), .val (.int p2), .val (.int p3), .val (.int p4), .val (.ref b1), .val (.ref b6), .val (.ref b10), .val (.int ((p4 &&& (2147483647 : Int32)) % (3 : Int32))), .val (.ref b1), .val (.ref b43a), .val (.int (1 : Int32))] [(.int (2 : Int32))]))
      refine Go.step (fun _ k => XS.iconst X47.here hx rfl (hb hby at_138) k) ?_
      show Go ReturnedEndW p e below s 24 2176 (Q0 Z p1 p2 p3 p4 h0 n0) (T47.setTop (mkF m 139 #[.val (.int p1), .val (.int p2), .val (.int p3), .val (.int p4), .val (.ref b1), .val (.ref b6), .val (.ref b10), .val (.int ((p4 &&& (2147483647 : Int32)) % (3 : Int32))), .val (.ref b1), .val (.ref b43a), .val (.int (1 : Int32))] [(.int (2 : Int32)), (.int (2 : Int32))]))
      refine Go.step (fun _ k => XS.icmpNo X47.here hx rfl (hb hby at_139) rfl (teq rfl).2 k) ?_
      show Go ReturnedEndW p e below s 24 2176 (Q0 Z p1 p2 p3 p4 h0 n0) (T47.setTop (mkF m 142 #[.val (.int p1), .val (.int p2), .val (.int p3), .val (.int p4), .val (.ref b1), .val (.ref b6), .val (.ref b10), .val (.int ((p4 &&& (2147483647 : Int32)) % (3 : Int32))), .val (.ref b1), .val (.ref b43a), .val (.int (1 : Int32))] []))
      refine Go.step (fun _ k => XS.aload X47.here hx rfl (hb hby at_142) rfl rfl k) ?_
      show Go ReturnedEndW p e below s 24 2176 (Q0 Z p1 p2 p3 p4 h0 n0) (T47.setTop (mkF m 144 #[.val (.int p1), .val (.int p2), .val (.int p3), .val (.int p4), .val (.ref b1), .val (.ref b6), .val (.ref b10), .val (.int ((p4 &&& (2147483647 : Int32)) % (3 : Int32))), .val (.ref b1), .val (.ref b43a), .val (.int (1 : Int32))] [(.ref b1)]))
      refine Go.step (fun _ k => XS.iconst X47.here hx rfl (hb hby at_144) k) ?_
      show Go ReturnedEndW p e below s 24 2176 (Q0 Z p1 p2 p3 p4 h0 n0) (T47.setTop (mkF m 145 #[.val (.int p1), .val (.int p2), .val (.int p3), .val (.int p4), .val (.ref b1), .val (.ref b6), .val (.ref b10), .val (.int ((p4 &&& (2147483647 : Int32)) % (3 : Int32))), .val (.ref b1), .val (.ref b43a), .val (.int (1 : Int32))] [(.int (0 : Int32)), (.ref b1)]))
      obtain ⟨c50, Ac50, Sc50, Mc50, Gc50⟩ := id f_48
      refine Go.step (X47.baloadBytes hx (j := (0 : Int32)) (v := (.int p1.toInt8.toInt32)) (by rw [e47]; exact Ac50.1) (State.isArrayOf_alike hZ43.alike Ac50.2.1) Ac50.2.2 (own_in Sc50 (by decide) (by decide)) (Av.at Gc50 (by rfl) (by decide) rfl) (g := (mkF m 145 #[.val (.int p1), .val (.int p2), .val (.int p3), .val (.int p4), .val (.ref b1), .val (.ref b6), .val (.ref b10), .val (.int ((p4 &&& (2147483647 : Int32)) % (3 : Int32))), .val (.ref b1), .val (.ref b43a), .val (.int (1 : Int32))] [(.int (0 : Int32)), (.ref b1)])) rfl rfl (hb hby at_145)) ?_
      show Go ReturnedEndW p e below s 24 2176 (Q0 Z p1 p2 p3 p4 h0 n0) (T47.setTop (mkF m 146 #[.val (.int p1), .val (.int p2), .val (.int p3), .val (.int p4), .val (.ref b1), .val (.ref b6), .val (.ref b10), .val (.int ((p4 &&& (2147483647 : Int32)) % (3 : Int32))), .val (.ref b1), .val (.ref b43a), .val (.int (1 : Int32))] [(.int p1.toInt8.toInt32)]))
      refine Go.step (fun _ k => XS.iloadN X47.here hx rfl (hb hby at_146) rfl k) ?_
      show Go ReturnedEndW p e below s 24 2176 (Q0 Z p1 p2 p3 p4 h0 n0) (T47.setTop (mkF m 147 #[.val (.int p1), .val (.int p2), .val (.int p3), .val (.int p4), .val (.ref b1), .val (.ref b6), .val (.ref b10), .val (.int ((p4 &&& (2147483647 : Int32)) % (3 : Int32))), .val (.ref b1), .val (.ref b43a), .val (.int (1 : Int32))] [(.int p1), (.int p1.toInt8.toInt32)]))
      refine Go.step (fun _ k => XS.i2b X47.here hx rfl (hb hby at_147) rfl k) ?_
      show Go ReturnedEndW p e below s 24 2176 (Q0 Z p1 p2 p3 p4 h0 n0) (T47.setTop (mkF m 148 #[.val (.int p1), .val (.int p2), .val (.int p3), .val (.int p4), .val (.ref b1), .val (.ref b6), .val (.ref b10), .val (.int ((p4 &&& (2147483647 : Int32)) % (3 : Int32))), .val (.ref b1), .val (.ref b43a), .val (.int (1 : Int32))] [(.int p1.toInt8.toInt32), (.int p1.toInt8.toInt32)]))
      refine Go.step (fun _ k => XS.icmpNo X47.here hx rfl (hb hby at_148) rfl (teq rfl).2 k) ?_
      show Go ReturnedEndW p e below s 24 2176 (Q0 Z p1 p2 p3 p4 h0 n0) (T47.setTop (mkF m 151 #[.val (.int p1), .val (.int p2), .val (.int p3), .val (.int p4), .val (.ref b1), .val (.ref b6), .val (.ref b10), .val (.int ((p4 &&& (2147483647 : Int32)) % (3 : Int32))), .val (.ref b1), .val (.ref b43a), .val (.int (1 : Int32))] []))
      refine Go.step (fun _ k => XS.aload X47.here hx rfl (hb hby at_151) rfl rfl k) ?_
      show Go ReturnedEndW p e below s 24 2176 (Q0 Z p1 p2 p3 p4 h0 n0) (T47.setTop (mkF m 153 #[.val (.int p1), .val (.int p2), .val (.int p3), .val (.int p4), .val (.ref b1), .val (.ref b6), .val (.ref b10), .val (.int ((p4 &&& (2147483647 : Int32)) % (3 : Int32))), .val (.ref b1), .val (.ref b43a), .val (.int (1 : Int32))] [(.ref b1)]))
      refine Go.step (fun _ k => XS.iconst X47.here hx rfl (hb hby at_153) k) ?_
      show Go ReturnedEndW p e below s 24 2176 (Q0 Z p1 p2 p3 p4 h0 n0) (T47.setTop (mkF m 154 #[.val (.int p1), .val (.int p2), .val (.int p3), .val (.int p4), .val (.ref b1), .val (.ref b6), .val (.ref b10), .val (.int ((p4 &&& (2147483647 : Int32)) % (3 : Int32))), .val (.ref b1), .val (.ref b43a), .val (.int (1 : Int32))] [(.int (1 : Int32)), (.ref b1)]))
      obtain ⟨c51, Ac51, Sc51, Mc51, Gc51⟩ := id f_48
      refine Go.step (X47.baloadBytes hx (j := (1 : Int32)) (v := (.int p2.toInt8.toInt32)) (by rw [e47]; exact Ac51.1) (State.isArrayOf_alike hZ43.alike Ac51.2.1) Ac51.2.2 (own_in Sc51 (by decide) (by decide)) (Av.at Gc51 (by rfl) (by decide) rfl) (g := (mkF m 154 #[.val (.int p1), .val (.int p2), .val (.int p3), .val (.int p4), .val (.ref b1), .val (.ref b6), .val (.ref b10), .val (.int ((p4 &&& (2147483647 : Int32)) % (3 : Int32))), .val (.ref b1), .val (.ref b43a), .val (.int (1 : Int32))] [(.int (1 : Int32)), (.ref b1)])) rfl rfl (hb hby at_154)) ?_
      show Go ReturnedEndW p e below s 24 2176 (Q0 Z p1 p2 p3 p4 h0 n0) (T47.setTop (mkF m 155 #[.val (.int p1), .val (.int p2), .val (.int p3), .val (.int p4), .val (.ref b1), .val (.ref b6), .val (.ref b10), .val (.int ((p4 &&& (2147483647 : Int32)) % (3 : Int32))), .val (.ref b1), .val (.ref b43a), .val (.int (1 : Int32))] [(.int p2.toInt8.toInt32)]))
      refine Go.step (fun _ k => XS.iloadN X47.here hx rfl (hb hby at_155) rfl k) ?_
      show Go ReturnedEndW p e below s 24 2176 (Q0 Z p1 p2 p3 p4 h0 n0) (T47.setTop (mkF m 156 #[.val (.int p1), .val (.int p2), .val (.int p3), .val (.int p4), .val (.ref b1), .val (.ref b6), .val (.ref b10), .val (.int ((p4 &&& (2147483647 : Int32)) % (3 : Int32))), .val (.ref b1), .val (.ref b43a), .val (.int (1 : Int32))] [(.int p2), (.int p2.toInt8.toInt32)]))
      refine Go.step (fun _ k => XS.i2b X47.here hx rfl (hb hby at_156) rfl k) ?_
      show Go ReturnedEndW p e below s 24 2176 (Q0 Z p1 p2 p3 p4 h0 n0) (T47.setTop (mkF m 157 #[.val (.int p1), .val (.int p2), .val (.int p3), .val (.int p4), .val (.ref b1), .val (.ref b6), .val (.ref b10), .val (.int ((p4 &&& (2147483647 : Int32)) % (3 : Int32))), .val (.ref b1), .val (.ref b43a), .val (.int (1 : Int32))] [(.int p2.toInt8.toInt32), (.int p2.toInt8.toInt32)]))
      refine Go.step (fun _ k => XS.icmpNo X47.here hx rfl (hb hby at_157) rfl (teq rfl).2 k) ?_
      show Go ReturnedEndW p e below s 24 2176 (Q0 Z p1 p2 p3 p4 h0 n0) (T47.setTop (mkF m 160 #[.val (.int p1), .val (.int p2), .val (.int p3), .val (.int p4), .val (.ref b1), .val (.ref b6), .val (.ref b10), .val (.int ((p4 &&& (2147483647 : Int32)) % (3 : Int32))), .val (.ref b1), .val (.ref b43a), .val (.int (1 : Int32))] []))
      refine Go.step (fun _ k => XS.iconst X47.here hx rfl (hb hby at_160) k) ?_
      show Go ReturnedEndW p e below s 24 2176 (Q0 Z p1 p2 p3 p4 h0 n0) (T47.setTop (mkF m 161 #[.val (.int p1), .val (.int p2), .val (.int p3), .val (.int p4), .val (.ref b1), .val (.ref b6), .val (.ref b10), .val (.int ((p4 &&& (2147483647 : Int32)) % (3 : Int32))), .val (.ref b1), .val (.ref b43a), .val (.int (1 : Int32))] [(.int (1 : Int32))]))
      refine Go.step (fun _ k => XS.goto X47.here hx rfl (pc0 := 161) (pc' := 165) rfl (hb hby at_161) (by decide) (by decide) k) ?_
      show Go ReturnedEndW p e below s 24 2176 (Q0 Z p1 p2 p3 p4 h0 n0) (T47.setTop (mkF m 165 #[.val (.int p1), .val (.int p2), .val (.int p3), .val (.int p4), .val (.ref b1), .val (.ref b6), .val (.ref b10), .val (.int ((p4 &&& (2147483647 : Int32)) % (3 : Int32))), .val (.ref b1), .val (.ref b43a), .val (.int (1 : Int32))] [(.int (1 : Int32))]))
      refine Go.step (fun _ k => XS.istore X47.here hx rfl (hb hby at_165) rfl (l' := #[.val (.int p1), .val (.int p2), .val (.int p3), .val (.int p4), .val (.ref b1), .val (.ref b6), .val (.ref b10), .val (.int ((p4 &&& (2147483647 : Int32)) % (3 : Int32))), .val (.ref b1), .val (.ref b43a), .val (.int (1 : Int32))]) rfl k) ?_
      show Go ReturnedEndW p e below s 24 2176 (Q0 Z p1 p2 p3 p4 h0 n0) (T47.setTop (mkF m 167 #[.val (.int p1), .val (.int p2), .val (.int p3), .val (.int p4), .val (.ref b1), .val (.ref b6), .val (.ref b10), .val (.int ((p4 &&& (2147483647 : Int32)) % (3 : Int32))), .val (.ref b1), .val (.ref b43a), .val (.int (1 : Int32))] []))
      refine Go.step (fun _ k => XS.iload X47.here hx rfl (hb hby at_167) rfl k) ?_
      show Go ReturnedEndW p e below s 24 2176 (Q0 Z p1 p2 p3 p4 h0 n0) (T47.setTop (mkF m 169 #[.val (.int p1), .val (.int p2), .val (.int p3), .val (.int p4), .val (.ref b1), .val (.ref b6), .val (.ref b10), .val (.int ((p4 &&& (2147483647 : Int32)) % (3 : Int32))), .val (.ref b1), .val (.ref b43a), .val (.int (1 : Int32))] [(.int (1 : Int32))]))
      refine Go.step (fun _ k => XS.ifNo X47.here hx rfl (hb hby at_169) rfl ((if0 _ _).trans (feq (by decide)).1) k) ?_
      show Go ReturnedEndW p e below s 24 2176 (Q0 Z p1 p2 p3 p4 h0 n0) (T47.setTop (mkF m 172 #[.val (.int p1), .val (.int p2), .val (.int p3), .val (.int p4), .val (.ref b1), .val (.ref b6), .val (.ref b10), .val (.int ((p4 &&& (2147483647 : Int32)) % (3 : Int32))), .val (.ref b1), .val (.ref b43a), .val (.int (1 : Int32))] []))
      refine Go.step (fun _ k => XS.aload X47.here hx rfl (hb hby at_172) rfl rfl k) ?_
      show Go ReturnedEndW p e below s 24 2176 (Q0 Z p1 p2 p3 p4 h0 n0) (T47.setTop (mkF m 174 #[.val (.int p1), .val (.int p2), .val (.int p3), .val (.int p4), .val (.ref b1), .val (.ref b6), .val (.ref b10), .val (.int ((p4 &&& (2147483647 : Int32)) % (3 : Int32))), .val (.ref b1), .val (.ref b43a), .val (.int (1 : Int32))] [(.ref b6)]))
      have f_52 := ((V9.ext E10).keep K43_0 nin0)
      obtain ⟨c53, Ac53, Sc53, Mc53, Gc53⟩ := id f_52
      refine Go.step (X47.arraylength hx (by rw [e47]; exact Ac53.1) (State.isArrayOf_alike hZ43.alike Ac53.2.1) (g := (mkF m 174 #[.val (.int p1), .val (.int p2), .val (.int p3), .val (.int p4), .val (.ref b1), .val (.ref b6), .val (.ref b10), .val (.int ((p4 &&& (2147483647 : Int32)) % (3 : Int32))), .val (.ref b1), .val (.ref b43a), .val (.int (1 : Int32))] [(.ref b6)])) rfl rfl (hb hby at_174)) ?_
      rw [show c53.slots.size.toInt32 = (1 : Int32) from by rw [Sc53]; rfl]
      show Go ReturnedEndW p e below s 24 2176 (Q0 Z p1 p2 p3 p4 h0 n0) (T47.setTop (mkF m 175 #[.val (.int p1), .val (.int p2), .val (.int p3), .val (.int p4), .val (.ref b1), .val (.ref b6), .val (.ref b10), .val (.int ((p4 &&& (2147483647 : Int32)) % (3 : Int32))), .val (.ref b1), .val (.ref b43a), .val (.int (1 : Int32))] [(.int (1 : Int32))]))
      refine Go.step (fun _ k => XS.iconst X47.here hx rfl (hb hby at_175) k) ?_
      show Go ReturnedEndW p e below s 24 2176 (Q0 Z p1 p2 p3 p4 h0 n0) (T47.setTop (mkF m 176 #[.val (.int p1), .val (.int p2), .val (.int p3), .val (.int p4), .val (.ref b1), .val (.ref b6), .val (.ref b10), .val (.int ((p4 &&& (2147483647 : Int32)) % (3 : Int32))), .val (.ref b1), .val (.ref b43a), .val (.int (1 : Int32))] [(.int (1 : Int32)), (.int (1 : Int32))]))
      refine Go.step (fun _ k => XS.icmpNo X47.here hx rfl (hb hby at_176) rfl (teq rfl).2 k) ?_
      show Go ReturnedEndW p e below s 24 2176 (Q0 Z p1 p2 p3 p4 h0 n0) (T47.setTop (mkF m 179 #[.val (.int p1), .val (.int p2), .val (.int p3), .val (.int p4), .val (.ref b1), .val (.ref b6), .val (.ref b10), .val (.int ((p4 &&& (2147483647 : Int32)) % (3 : Int32))), .val (.ref b1), .val (.ref b43a), .val (.int (1 : Int32))] []))
      refine Go.step (fun _ k => XS.aload X47.here hx rfl (hb hby at_179) rfl rfl k) ?_
      show Go ReturnedEndW p e below s 24 2176 (Q0 Z p1 p2 p3 p4 h0 n0) (T47.setTop (mkF m 181 #[.val (.int p1), .val (.int p2), .val (.int p3), .val (.int p4), .val (.ref b1), .val (.ref b6), .val (.ref b10), .val (.int ((p4 &&& (2147483647 : Int32)) % (3 : Int32))), .val (.ref b1), .val (.ref b43a), .val (.int (1 : Int32))] [(.ref b6)]))
      refine Go.step (fun _ k => XS.iconst X47.here hx rfl (hb hby at_181) k) ?_
      show Go ReturnedEndW p e below s 24 2176 (Q0 Z p1 p2 p3 p4 h0 n0) (T47.setTop (mkF m 182 #[.val (.int p1), .val (.int p2), .val (.int p3), .val (.int p4), .val (.ref b1), .val (.ref b6), .val (.ref b10), .val (.int ((p4 &&& (2147483647 : Int32)) % (3 : Int32))), .val (.ref b1), .val (.ref b43a), .val (.int (1 : Int32))] [(.int (0 : Int32)), (.ref b6)]))
      obtain ⟨c54, Ac54, Sc54, Mc54, Gc54⟩ := id f_52
      refine Go.step (X47.baloadBytes hx (j := (0 : Int32)) (v := (.int p3.toInt8.toInt32)) (by rw [e47]; exact Ac54.1) (State.isArrayOf_alike hZ43.alike Ac54.2.1) Ac54.2.2 (own_in Sc54 (by decide) (by decide)) (Av.at Gc54 (by rfl) (by decide) rfl) (g := (mkF m 182 #[.val (.int p1), .val (.int p2), .val (.int p3), .val (.int p4), .val (.ref b1), .val (.ref b6), .val (.ref b10), .val (.int ((p4 &&& (2147483647 : Int32)) % (3 : Int32))), .val (.ref b1), .val (.ref b43a), .val (.int (1 : Int32))] [(.int (0 : Int32)), (.ref b6)])) rfl rfl (hb hby at_182)) ?_
      show Go ReturnedEndW p e below s 24 2176 (Q0 Z p1 p2 p3 p4 h0 n0) (T47.setTop (mkF m 183 #[.val (.int p1), .val (.int p2), .val (.int p3), .val (.int p4), .val (.ref b1), .val (.ref b6), .val (.ref b10), .val (.int ((p4 &&& (2147483647 : Int32)) % (3 : Int32))), .val (.ref b1), .val (.ref b43a), .val (.int (1 : Int32))] [(.int p3.toInt8.toInt32)]))
      refine Go.step (fun _ k => XS.iloadN X47.here hx rfl (hb hby at_183) rfl k) ?_
      show Go ReturnedEndW p e below s 24 2176 (Q0 Z p1 p2 p3 p4 h0 n0) (T47.setTop (mkF m 184 #[.val (.int p1), .val (.int p2), .val (.int p3), .val (.int p4), .val (.ref b1), .val (.ref b6), .val (.ref b10), .val (.int ((p4 &&& (2147483647 : Int32)) % (3 : Int32))), .val (.ref b1), .val (.ref b43a), .val (.int (1 : Int32))] [(.int p3), (.int p3.toInt8.toInt32)]))
      refine Go.step (fun _ k => XS.i2b X47.here hx rfl (hb hby at_184) rfl k) ?_
      show Go ReturnedEndW p e below s 24 2176 (Q0 Z p1 p2 p3 p4 h0 n0) (T47.setTop (mkF m 185 #[.val (.int p1), .val (.int p2), .val (.int p3), .val (.int p4), .val (.ref b1), .val (.ref b6), .val (.ref b10), .val (.int ((p4 &&& (2147483647 : Int32)) % (3 : Int32))), .val (.ref b1), .val (.ref b43a), .val (.int (1 : Int32))] [(.int p3.toInt8.toInt32), (.int p3.toInt8.toInt32)]))
      refine Go.step (fun _ k => XS.icmpNo X47.here hx rfl (hb hby at_185) rfl (teq rfl).2 k) ?_
      show Go ReturnedEndW p e below s 24 2176 (Q0 Z p1 p2 p3 p4 h0 n0) (T47.setTop (mkF m 188 #[.val (.int p1), .val (.int p2), .val (.int p3), .val (.int p4), .val (.ref b1), .val (.ref b6), .val (.ref b10), .val (.int ((p4 &&& (2147483647 : Int32)) % (3 : Int32))), .val (.ref b1), .val (.ref b43a), .val (.int (1 : Int32))] []))
      refine Go.step (fun _ k => XS.iconst X47.here hx rfl (hb hby at_188) k) ?_
      show Go ReturnedEndW p e below s 24 2176 (Q0 Z p1 p2 p3 p4 h0 n0) (T47.setTop (mkF m 189 #[.val (.int p1), .val (.int p2), .val (.int p3), .val (.int p4), .val (.ref b1), .val (.ref b6), .val (.ref b10), .val (.int ((p4 &&& (2147483647 : Int32)) % (3 : Int32))), .val (.ref b1), .val (.ref b43a), .val (.int (1 : Int32))] [(.int (1 : Int32))]))
      refine Go.step (fun _ k => XS.goto X47.here hx rfl (pc0 := 189) (pc' := 193) rfl (hb hby at_189) (by decide) (by decide) k) ?_
      show Go ReturnedEndW p e below s 24 2176 (Q0 Z p1 p2 p3 p4 h0 n0) (T47.setTop (mkF m 193 #[.val (.int p1), .val (.int p2), .val (.int p3), .val (.int p4), .val (.ref b1), .val (.ref b6), .val (.ref b10), .val (.int ((p4 &&& (2147483647 : Int32)) % (3 : Int32))), .val (.ref b1), .val (.ref b43a), .val (.int (1 : Int32))] [(.int (1 : Int32))]))
      refine Go.step (fun _ k => XS.istore X47.here hx rfl (hb hby at_193) rfl (l' := #[.val (.int p1), .val (.int p2), .val (.int p3), .val (.int p4), .val (.ref b1), .val (.ref b6), .val (.ref b10), .val (.int ((p4 &&& (2147483647 : Int32)) % (3 : Int32))), .val (.ref b1), .val (.ref b43a), .val (.int (1 : Int32))]) rfl k) ?_
      show Go ReturnedEndW p e below s 24 2176 (Q0 Z p1 p2 p3 p4 h0 n0) (T47.setTop (mkF m 195 #[.val (.int p1), .val (.int p2), .val (.int p3), .val (.int p4), .val (.ref b1), .val (.ref b6), .val (.ref b10), .val (.int ((p4 &&& (2147483647 : Int32)) % (3 : Int32))), .val (.ref b1), .val (.ref b43a), .val (.int (1 : Int32))] []))
      refine Go.step (fun _ k => XS.iload X47.here hx rfl (hb hby at_195) rfl k) ?_
      show Go ReturnedEndW p e below s 24 2176 (Q0 Z p1 p2 p3 p4 h0 n0) (T47.setTop (mkF m 197 #[.val (.int p1), .val (.int p2), .val (.int p3), .val (.int p4), .val (.ref b1), .val (.ref b6), .val (.ref b10), .val (.int ((p4 &&& (2147483647 : Int32)) % (3 : Int32))), .val (.ref b1), .val (.ref b43a), .val (.int (1 : Int32))] [(.int (1 : Int32))]))
      refine Go.step (fun _ k => XS.ifNo X47.here hx rfl (hb hby at_197) rfl ((if0 _ _).trans (feq (by decide)).1) k) ?_
      show Go ReturnedEndW p e below s 24 2176 (Q0 Z p1 p2 p3 p4 h0 n0) (T47.setTop (mkF m 200 #[.val (.int p1), .val (.int p2), .val (.int p3), .val (.int p4), .val (.ref b1), .val (.ref b6), .val (.ref b10), .val (.int ((p4 &&& (2147483647 : Int32)) % (3 : Int32))), .val (.ref b1), .val (.ref b43a), .val (.int (1 : Int32))] []))
      refine Go.step (fun _ k => XS.aload X47.here hx rfl (hb hby at_200) rfl rfl k) ?_
      show Go ReturnedEndW p e below s 24 2176 (Q0 Z p1 p2 p3 p4 h0 n0) (T47.setTop (mkF m 202 #[.val (.int p1), .val (.int p2), .val (.int p3), .val (.int p4), .val (.ref b1), .val (.ref b6), .val (.ref b10), .val (.int ((p4 &&& (2147483647 : Int32)) % (3 : Int32))), .val (.ref b1), .val (.ref b43a), .val (.int (1 : Int32))] [(.ref b10)]))
      have f_55 := (V10.keep K43_0 nin0)
      obtain ⟨c56, Ac56, Sc56, Mc56, Gc56⟩ := id f_55
      refine Go.step (X47.arraylength hx (by rw [e47]; exact Ac56.1) (State.isArrayOf_alike hZ43.alike Ac56.2.1) (g := (mkF m 202 #[.val (.int p1), .val (.int p2), .val (.int p3), .val (.int p4), .val (.ref b1), .val (.ref b6), .val (.ref b10), .val (.int ((p4 &&& (2147483647 : Int32)) % (3 : Int32))), .val (.ref b1), .val (.ref b43a), .val (.int (1 : Int32))] [(.ref b10)])) rfl rfl (hb hby at_202)) ?_
      rw [show c56.slots.size.toInt32 = (0 : Int32) from by rw [Sc56]; rfl]
      show Go ReturnedEndW p e below s 24 2176 (Q0 Z p1 p2 p3 p4 h0 n0) (T47.setTop (mkF m 203 #[.val (.int p1), .val (.int p2), .val (.int p3), .val (.int p4), .val (.ref b1), .val (.ref b6), .val (.ref b10), .val (.int ((p4 &&& (2147483647 : Int32)) % (3 : Int32))), .val (.ref b1), .val (.ref b43a), .val (.int (1 : Int32))] [(.int (0 : Int32))]))
      refine Go.step (fun _ k => XS.ifNo X47.here hx rfl (hb hby at_203) rfl ((if0 _ _).trans (teq rfl).2) k) ?_
      show Go ReturnedEndW p e below s 24 2176 (Q0 Z p1 p2 p3 p4 h0 n0) (T47.setTop (mkF m 206 #[.val (.int p1), .val (.int p2), .val (.int p3), .val (.int p4), .val (.ref b1), .val (.ref b6), .val (.ref b10), .val (.int ((p4 &&& (2147483647 : Int32)) % (3 : Int32))), .val (.ref b1), .val (.ref b43a), .val (.int (1 : Int32))] []))
      refine Go.step (fun _ k => XS.iconst X47.here hx rfl (hb hby at_206) k) ?_
      show Go ReturnedEndW p e below s 24 2176 (Q0 Z p1 p2 p3 p4 h0 n0) (T47.setTop (mkF m 207 #[.val (.int p1), .val (.int p2), .val (.int p3), .val (.int p4), .val (.ref b1), .val (.ref b6), .val (.ref b10), .val (.int ((p4 &&& (2147483647 : Int32)) % (3 : Int32))), .val (.ref b1), .val (.ref b43a), .val (.int (1 : Int32))] [(.int (1 : Int32))]))
      refine Go.step (fun _ k => XS.goto X47.here hx rfl (pc0 := 207) (pc' := 211) rfl (hb hby at_207) (by decide) (by decide) k) ?_
      show Go ReturnedEndW p e below s 24 2176 (Q0 Z p1 p2 p3 p4 h0 n0) (T47.setTop (mkF m 211 #[.val (.int p1), .val (.int p2), .val (.int p3), .val (.int p4), .val (.ref b1), .val (.ref b6), .val (.ref b10), .val (.int ((p4 &&& (2147483647 : Int32)) % (3 : Int32))), .val (.ref b1), .val (.ref b43a), .val (.int (1 : Int32))] [(.int (1 : Int32))]))
      refine Go.step (fun _ k => XS.istore X47.here hx rfl (hb hby at_211) rfl (l' := #[.val (.int p1), .val (.int p2), .val (.int p3), .val (.int p4), .val (.ref b1), .val (.ref b6), .val (.ref b10), .val (.int ((p4 &&& (2147483647 : Int32)) % (3 : Int32))), .val (.ref b1), .val (.ref b43a), .val (.int (1 : Int32))]) rfl k) ?_
      show Go ReturnedEndW p e below s 24 2176 (Q0 Z p1 p2 p3 p4 h0 n0) (T47.setTop (mkF m 213 #[.val (.int p1), .val (.int p2), .val (.int p3), .val (.int p4), .val (.ref b1), .val (.ref b6), .val (.ref b10), .val (.int ((p4 &&& (2147483647 : Int32)) % (3 : Int32))), .val (.ref b1), .val (.ref b43a), .val (.int (1 : Int32))] []))
      refine Go.step (fun _ k => XS.iload X47.here hx rfl (hb hby at_213) rfl k) ?_
      show Go ReturnedEndW p e below s 24 2176 (Q0 Z p1 p2 p3 p4 h0 n0) (T47.setTop (mkF m 215 #[.val (.int p1), .val (.int p2), .val (.int p3), .val (.int p4), .val (.ref b1), .val (.ref b6), .val (.ref b10), .val (.int ((p4 &&& (2147483647 : Int32)) % (3 : Int32))), .val (.ref b1), .val (.ref b43a), .val (.int (1 : Int32))] [(.int (1 : Int32))]))
      refine Go.retNW X47 hS43 hk43 hx (t := .boolean) Bd.returns (by simp) (by decide) (hb hby at_215) (BodyLoose.notSynchronized Bd) e47 (by decide) (by decide) ?_
      exact ⟨rfl, N47⟩
set_option maxRecDepth 65536 in
set_option maxHeartbeats 40000000 in
theorem comes_1 {Post : Tables → Env → Array Value → State → Outcome → State → Prop} (hpost : ∀ tb e args s v u, (limb_1_1.after args s (.returned v) u = true ∧ limb_1_2.after args s (.returned v) u = true ∧ True) → ReturnedEndW s (.returned v) u (Jvm.fieldLocs frame_1_writes args s ++ Jvm.arrayLocs frame_1_arrays args s ++ Jvm.staticLocs frame_1_statics s) 24 2176 → Post tb e args s (.returned v) u) :
    ArmFor flags0 classFile x code maxLocals ret World_1 tables_1 room_1 Calls_1 rest_1 Pre_1 Post := by
  intro l hfl _ _ p e ha hc hk s m args below hf hA hF happ hP
  obtain ⟨hcalls, hrest, hpre⟩ := hP
  obtain ⟨-, -, -, hnamed, -, -, -, hat⟩ := (Spec.applies_iff hf).mp happ
  obtain ⟨hg, hn⟩ := and_e (Cond.before_iff.mp (show (Jvm.Cond.and given_1 narrow_1).before args s = true from hpre))
  obtain ⟨h1, h2⟩ := and_e hg
  obtain ⟨w0, w1, w2, w3, rfl⟩ : ∃ w0 w1 w2 w3 : Value, args = #[w0, w1, w2, w3] := by
    have hs : args.size = 4 := by simpa [Cond.value, given_1] using h1
    obtain ⟨L⟩ := args
    match L, hs with
    | [w0, w1, w2, w3], _ => exact ⟨w0, w1, w2, w3, rfl⟩
  have hw := fun d (hd : d ∈ tables_1) => atoms_spec (ws := Jvm.Cond.code x code maxLocals ret :: tables_1) hat d (List.mem_cons_of_mem _ hd)
  have hfit : Fit s := fun {y c} hc i hi => by
    obtain ⟨ha, rfl⟩ := Array.getElem?_eq_some_iff.mp hc
    have q := List.all_eq_true.mp ((Array.all_eq_true_iff_forall_mem.mp hF) _ (Array.getElem_mem ha)) i (List.mem_range.mpr hi)
    simpa [Array.getElem?_eq_getElem hi] using q
  obtain ⟨c0, r0⟩ := and_e h2
  obtain ⟨i0, q0⟩ := is_v c0
  obtain rfl : w0 = (.int i0) := Option.some.inj q0
  obtain ⟨c1, r1⟩ := and_e r0
  obtain ⟨i1, q1⟩ := is_v c1
  obtain rfl : w1 = (.int i1) := Option.some.inj q1
  obtain ⟨c2, r2⟩ := and_e r1
  obtain ⟨i2, q2⟩ := is_v c2
  obtain rfl : w2 = (.int i2) := Option.some.inj q2
  obtain ⟨i3, q3⟩ := is_v r2
  obtain rfl : w3 = (.int i3) := Option.some.inj q3
  obtain ⟨n, o, h1, h2, h3, _, L, rfl, ⟨rfl, N⟩, hq⟩ := rm0 l s _ hw tables_1 i0 i1 i2 i3  s.heap s.heap.size (Nat.le_refl _)  p e ha hc hk s m _ below hf ((Spec.applies_iff_loose hf).mp happ).1 ⟨rfl, State.Warmed39.refl s, rfl⟩ trivial
  refine ⟨n, _, h1, h2, h3, hpost _ _ _ _ _ _ ⟨Cond.after_iff.mpr rfl, Cond.after_iff.mpr (eq_i res_at (Term.int_eval (1)) rfl), trivial⟩ ⟨hq.1, hq.2.1, hq.2.2.1, (hq.2.2.2.sift fun y hy => Or.inr (N y hy)).mono (by decide) (by decide)⟩⟩
theorem main_1_1 : Claimed_1_1 := comes_1 fun _ _ _ _ _ _ h hF => ⟨h.1, hF⟩
theorem main_1_2 : Claimed_1_2 := comes_1 fun _ _ _ _ _ _ h hF => ⟨h.2.1, hF⟩
end Jvm.Pilot.@@N@@
namespace Jvm.Pilot.@@N@@
open Jvm Jvm.ClassFile Sem Op Lib Jvm.Free Jvm.Stand Jvm.Pilot.@@N@@.Jvm.D
/-! MADE BY PROGRAM (witnessworld.py) out of the Statement's table words and the real class files: 16 classes; the members and pool entries that the words name. The judged class is class 1, her method 1. -/
namespace start1
open Jvm.ClassFile
def u (s : String) : CpInfo := .utf8 (stringToUtf16 s)
/-- a pool by its gaps: so many unusable entries, then the entry; so many at the end -/
def gap : Nat → List CpInfo → List CpInfo
  | 0, r => r
  | n + 1, r => .unusable :: gap n r
def poolList (es : List (Nat × CpInfo)) (last : Nat) : List CpInfo := es.foldr (fun e r => gap e.1 (e.2 :: r)) (gap last [])
def pool (es : List (Nat × CpInfo)) (last : Nat) : Array CpInfo := ⟨poolList es last⟩
def fileOf (pool : Array CpInfo) (this : Nat) (attrs : Array Attribute := #[]) (ms : Array MethodInfo := #[]) (fl : Nat := 33) (sup : Nat := 0) (ifs : Array Nat := #[]) (fds : Array FieldInfo := #[]) : ClassFile where
  minorVersion := 0
  majorVersion := 65
  constantPool := pool
  accessFlags := fl
  thisClass := this
  superClass := sup
  interfaces := ifs
  fields := fds
  methods := ms
  attributes := attrs
def plain (name : String) (sup : Option ClassId) : Class where
  name := name
  kind := .ordinary
  loader := none
  accessFlags := 33
  super := sup
  interfaces := #[]
  cf := none
  fields := #[]
  methods := #[]
  instanceTypes := #[]
  staticTypes := #[]
  resolved := #[]
  callSites := []
  init := .initialized
  statics := none
  mirror := none

def pool0 : Array CpInfo := pool [(5, u "<init>"), (0, u "()V"), (1, .class_ 10), (1, u "java/lang/Object")] 113

def k0c0 : Code := { maxStack := 0, maxLocals := 1, code := object_method_1_code, exceptionTable := #[], attributes := #[] }
def k0m0 : Method := { name := "<init>", desc := "()V", sig := { parameters := [], returnType := none }, accessFlags := 1, code := some k0c0 }
/-- java/lang/Object -/
def k0 : Class := { plain "java/lang/Object" none with
  accessFlags := 33
  interfaces := #[]
  cf := some (fileOf pool0 8 #[] #[{ accessFlags := 1, nameIndex := 5, descriptorIndex := 6, attributes := #[] }] 33 0 #[] #[])
  fields := #[]
  methods := #[k0m0]
  instanceTypes := #[]
  staticTypes := #[]
  resolved := Array.replicate 124 none
  statics := none }

def pool1 : Array CpInfo := pool [(2, .class_ 4), (1, u "java/lang/Object"), (0, u "<init>"), (0, u "()V"), (0, .integer 2147483647), (0, .methodref 9 10), (0, .class_ 11), (0, .nameAndType 12 13), (0, u "com/example/wunce/wunce/records/StoredRecord"), (0, u "completed"), (0, u "([B[B)Lcom/example/wunce/wunce/records/StoredRecord;"), (0, .methodref 9 15), (0, .nameAndType 16 17), (0, u "isCompleted"), (0, u "()Z"), (0, .methodref 9 19), (0, .nameAndType 20 21), (0, u "fingerprint"), (0, u "()[B"), (0, .methodref 9 23), (0, .nameAndType 24 21), (0, u "result"), (0, .class_ 26), (0, u "com/example/wunce/wunce/records/StoredRecordCompletedPinLaw"), (2, u "law"), (0, u "(IIII)Z")] 5

def k1m0 : Method := { name := "<init>", desc := "()V", sig := { parameters := [], returnType := none }, accessFlags := 1, code := none }
def k1c1 : Code := { maxStack := 4, maxLocals := 11, code := code, exceptionTable := #[], attributes := #[] }
def k1m1 : Method := { name := "law", desc := "(IIII)Z", sig := { parameters := [.int, .int, .int, .int], returnType := some .boolean }, accessFlags := 9, code := some k1c1 }
/-- com/example/wunce/wunce/records/StoredRecordCompletedPinLaw -/
def k1 : Class := { plain "com/example/wunce/wunce/records/StoredRecordCompletedPinLaw" (some 0) with
  accessFlags := 49
  interfaces := #[]
  cf := some (fileOf pool1 25 #[] #[{ accessFlags := 1, nameIndex := 5, descriptorIndex := 6, attributes := #[] }, { accessFlags := 9, nameIndex := 29, descriptorIndex := 30, attributes := #[] }] 49 2 #[] #[])
  fields := #[]
  methods := #[k1m0, k1m1]
  instanceTypes := #[]
  staticTypes := #[]
  resolved := Array.replicate 36 none
  statics := none }

def pool2 : Array CpInfo := pool [(1, .class_ 2), (0, u "com/example/wunce/wunce/records/Claim"), (0, .class_ 4), (0, u "java/lang/Object")] 7

/-- com/example/wunce/wunce/records/Claim -/
def k2 : Class := { plain "com/example/wunce/wunce/records/Claim" (some 0) with
  accessFlags := 1537
  interfaces := #[]
  cf := some (fileOf pool2 1 #[] #[] 1537 3 #[] #[])
  fields := #[]
  methods := #[]
  instanceTypes := #[]
  staticTypes := #[]
  resolved := Array.replicate 12 none
  statics := none }

def pool3 : Array CpInfo := pool [(1, .methodref 2 3), (0, .class_ 4), (0, .nameAndType 5 6), (0, u "java/lang/Object"), (0, u "<init>"), (0, u "()V"), (0, .string 8), (0, u "fingerprint"), (0, .methodref 10 11), (0, .class_ 12), (0, .nameAndType 13 14), (0, u "java/util/Objects"), (0, u "requireNonNull"), (0, u "(Ljava/lang/Object;Ljava/lang/String;)Ljava/lang/Object;"), (0, .class_ 16), (0, u "[B"), (0, .fieldref 18 19), (0, .class_ 20), (0, .nameAndType 21 16), (0, u "com/example/wunce/wunce/records/StoredRecord"), (0, u "mFingerprint"), (0, .fieldref 18 23), (0, .nameAndType 24 16), (0, u "mResult"), (0, .methodref 18 26), (0, .nameAndType 5 27), (0, u "([B[B)V"), (0, .string 29), (0, u "result"), (0, .class_ 31), (0, u "com/example/wunce/wunce/records/Claim"), (4, u "completed"), (0, u "([B[B)Lcom/example/wunce/wunce/records/StoredRecord;"), (0, u "()[B"), (0, u "isCompleted"), (0, u "()Z")] 3

def k3c0 : Code := { maxStack := 3, maxLocals := 3, code := prog_32_method_1_code, exceptionTable := #[], attributes := #[] }
def k3m0 : Method := { name := "<init>", desc := "([B[B)V", sig := { parameters := [(.array .byte), (.array .byte)], returnType := none }, accessFlags := 2, code := some k3c0 }
def k3c1 : Code := { maxStack := 5, maxLocals := 2, code := prog_32_method_3_code, exceptionTable := #[], attributes := #[] }
def k3m1 : Method := { name := "completed", desc := "([B[B)Lcom/example/wunce/wunce/records/StoredRecord;", sig := { parameters := [(.array .byte), (.array .byte)], returnType := some (.object "com/example/wunce/wunce/records/StoredRecord") }, accessFlags := 9, code := some k3c1 }
def k3c2 : Code := { maxStack := 1, maxLocals := 1, code := prog_32_method_4_code, exceptionTable := #[], attributes := #[] }
def k3m2 : Method := { name := "fingerprint", desc := "()[B", sig := { parameters := [], returnType := some (.array .byte) }, accessFlags := 1, code := some k3c2 }
def k3c3 : Code := { maxStack := 1, maxLocals := 1, code := prog_32_method_5_code, exceptionTable := #[], attributes := #[] }
def k3m3 : Method := { name := "isCompleted", desc := "()Z", sig := { parameters := [], returnType := some .boolean }, accessFlags := 1, code := some k3c3 }
def k3c4 : Code := { maxStack := 1, maxLocals := 1, code := prog_32_method_6_code, exceptionTable := #[], attributes := #[] }
def k3m4 : Method := { name := "result", desc := "()[B", sig := { parameters := [], returnType := some (.array .byte) }, accessFlags := 1, code := some k3c4 }
/-- com/example/wunce/wunce/records/StoredRecord -/
def k3 : Class := { plain "com/example/wunce/wunce/records/StoredRecord" (some 0) with
  accessFlags := 49
  interfaces := #[2]
  cf := some (fileOf pool3 18 #[] #[{ accessFlags := 2, nameIndex := 5, descriptorIndex := 27, attributes := #[] }, { accessFlags := 9, nameIndex := 36, descriptorIndex := 37, attributes := #[] }, { accessFlags := 1, nameIndex := 8, descriptorIndex := 38, attributes := #[] }, { accessFlags := 1, nameIndex := 39, descriptorIndex := 40, attributes := #[] }, { accessFlags := 1, nameIndex := 29, descriptorIndex := 38, attributes := #[] }] 49 2 #[30] #[{ accessFlags := 18, nameIndex := 21, descriptorIndex := 16, attributes := #[] }, { accessFlags := 18, nameIndex := 24, descriptorIndex := 16, attributes := #[] }])
  fields := #[{ name := "mFingerprint", type := (.array .byte), accessFlags := 18, slot := 0, constantValue := 0 }, { name := "mResult", type := (.array .byte), accessFlags := 18, slot := 1, constantValue := 0 }]
  methods := #[k3m0, k3m1, k3m2, k3m3, k3m4]
  instanceTypes := #[(.array .byte), (.array .byte)]
  staticTypes := #[]
  resolved := Array.replicate 44 none
  statics := none }

def pool4 : Array CpInfo := pool [(1, .class_ 2), (0, u "java/io/Serializable"), (0, .class_ 4), (0, u "java/lang/Object")] 2

/-- java/io/Serializable -/
def k4 : Class := { plain "java/io/Serializable" (some 0) with
  accessFlags := 1537
  interfaces := #[]
  cf := some (fileOf pool4 1 #[] #[] 1537 3 #[] #[])
  fields := #[]
  methods := #[]
  instanceTypes := #[]
  staticTypes := #[]
  resolved := Array.replicate 7 none
  statics := none }

def pool5 : Array CpInfo := pool [(1, .class_ 2), (0, u "java/lang/Comparable"), (0, .class_ 4), (0, u "java/lang/Object")] 7

/-- java/lang/Comparable -/
def k5 : Class := { plain "java/lang/Comparable" (some 0) with
  accessFlags := 1537
  interfaces := #[]
  cf := some (fileOf pool5 1 #[] #[] 1537 3 #[] #[])
  fields := #[]
  methods := #[]
  instanceTypes := #[]
  staticTypes := #[]
  resolved := Array.replicate 12 none
  statics := none }

def pool6 : Array CpInfo := pool [(2, .class_ 4), (1, u "java/lang/CharSequence"), (42, .class_ 48), (0, u "java/lang/CharSequence$1CodePointIterator"), (10, .class_ 60), (0, u "java/lang/CharSequence$1CharIterator"), (5, .class_ 67), (0, u "java/lang/Object")] 63

/-- java/lang/CharSequence -/
def k6 : Class := { plain "java/lang/CharSequence" (some 0) with
  accessFlags := 1537
  interfaces := #[]
  cf := some (fileOf pool6 2 #[.nestMembers #[47, 59]] #[] 1537 66 #[] #[])
  fields := #[]
  methods := #[]
  instanceTypes := #[]
  staticTypes := #[]
  resolved := Array.replicate 131 none
  statics := none }

def pool7 : Array CpInfo := pool [(1, .class_ 2), (0, u "java/lang/constant/Constable"), (0, .class_ 4), (0, u "java/lang/Object")] 6

/-- java/lang/constant/Constable -/
def k7 : Class := { plain "java/lang/constant/Constable" (some 0) with
  accessFlags := 1537
  interfaces := #[]
  cf := some (fileOf pool7 1 #[] #[] 1537 3 #[] #[])
  fields := #[]
  methods := #[]
  instanceTypes := #[]
  staticTypes := #[]
  resolved := Array.replicate 11 none
  statics := none }

def pool8 : Array CpInfo := pool [(1, .class_ 2), (0, u "java/lang/constant/ConstantDesc"), (0, .class_ 4), (0, u "java/lang/Object")] 32

/-- java/lang/constant/ConstantDesc -/
def k8 : Class := { plain "java/lang/constant/ConstantDesc" (some 0) with
  accessFlags := 1537
  interfaces := #[]
  cf := some (fileOf pool8 1 #[] #[] 1537 3 #[] #[])
  fields := #[]
  methods := #[]
  instanceTypes := #[]
  staticTypes := #[]
  resolved := Array.replicate 37 none
  statics := none }

def pool9 : Array CpInfo := pool [(2, .class_ 4), (1, u "java/lang/Object"), (0, u "<init>"), (0, u "()V"), (3, .class_ 12), (1, u "java/lang/String"), (0, u "value"), (0, u "[B"), (2, u "coder"), (0, u "B"), (2, u "hash"), (0, u "I"), (2, u "hashIsZero"), (0, u "Z"), (13, u "COMPACT_STRINGS"), (534, .class_ 576), (0, u "java/lang/CharSequence"), (22, u "CASE_INSENSITIVE_ORDER"), (0, u "Ljava/util/Comparator;"), (500, u "serialPersistentFields"), (0, u "[Ljava/io/ObjectStreamField;"), (0, .class_ 1104), (0, u "java/lang/String$CaseInsensitiveComparator"), (1, .class_ 1107), (0, u "java/io/Serializable"), (0, .class_ 1109), (0, u "java/lang/Comparable"), (0, .class_ 1111), (0, u "java/lang/constant/Constable"), (0, .class_ 1113), (0, u "java/lang/constant/ConstantDesc"), (2, u "serialVersionUID"), (0, u "J"), (3, u "REPL"), (0, u "C"), (2, u "LATIN1"), (1, u "UTF16")] 323

def k9m0 : Method := { name := "<init>", desc := "()V", sig := { parameters := [], returnType := none }, accessFlags := 1, code := none }
/-- java/lang/String -/
def k9 : Class := { plain "java/lang/String" (some 0) with
  accessFlags := 49
  interfaces := #[4, 5, 6, 7, 8]
  cf := some (fileOf pool9 10 #[.nestMembers #[1103]] #[{ accessFlags := 1, nameIndex := 5, descriptorIndex := 6, attributes := #[] }] 49 2 #[1106, 1108, 575, 1110, 1112] #[{ accessFlags := 18, nameIndex := 13, descriptorIndex := 14, attributes := #[] }, { accessFlags := 18, nameIndex := 17, descriptorIndex := 18, attributes := #[] }, { accessFlags := 2, nameIndex := 21, descriptorIndex := 22, attributes := #[] }, { accessFlags := 2, nameIndex := 25, descriptorIndex := 26, attributes := #[] }, { accessFlags := 26, nameIndex := 1116, descriptorIndex := 1117, attributes := #[] }, { accessFlags := 24, nameIndex := 40, descriptorIndex := 26, attributes := #[] }, { accessFlags := 26, nameIndex := 1101, descriptorIndex := 1102, attributes := #[] }, { accessFlags := 26, nameIndex := 1121, descriptorIndex := 1122, attributes := #[] }, { accessFlags := 25, nameIndex := 599, descriptorIndex := 600, attributes := #[] }, { accessFlags := 24, nameIndex := 1125, descriptorIndex := 18, attributes := #[] }, { accessFlags := 24, nameIndex := 1127, descriptorIndex := 18, attributes := #[] }])
  fields := #[{ name := "value", type := (.array .byte), accessFlags := 18, slot := 0, constantValue := 0 }, { name := "coder", type := .byte, accessFlags := 18, slot := 1, constantValue := 0 }, { name := "hash", type := .int, accessFlags := 2, slot := 2, constantValue := 0 }, { name := "hashIsZero", type := .boolean, accessFlags := 2, slot := 3, constantValue := 0 }, { name := "serialVersionUID", type := .long, accessFlags := 26, slot := 0, constantValue := 0 }, { name := "COMPACT_STRINGS", type := .boolean, accessFlags := 24, slot := 1, constantValue := 0 }, { name := "serialPersistentFields", type := (.array (.object "java/io/ObjectStreamField")), accessFlags := 26, slot := 2, constantValue := 0 }, { name := "REPL", type := .char, accessFlags := 26, slot := 3, constantValue := 0 }, { name := "CASE_INSENSITIVE_ORDER", type := (.object "java/util/Comparator"), accessFlags := 25, slot := 4, constantValue := 0 }, { name := "LATIN1", type := .byte, accessFlags := 24, slot := 5, constantValue := 0 }, { name := "UTF16", type := .byte, accessFlags := 24, slot := 6, constantValue := 0 }]
  methods := #[k9m0]
  instanceTypes := #[(.array .byte), .byte, .int, .boolean]
  staticTypes := #[.long, .boolean, (.array (.object "java/io/ObjectStreamField")), .char, (.object "java/util/Comparator"), .byte, .byte]
  resolved := Array.replicate 1451 none
  statics := none }

def pool10 : Array CpInfo := pool [(2, .class_ 4), (1, u "java/lang/Object"), (0, u "<init>"), (0, u "()V"), (35, .class_ 44), (1, u "java/util/Objects"), (0, u "requireNonNull"), (48, u "(Ljava/lang/Object;Ljava/lang/String;)Ljava/lang/Object;")] 89

def k10m0 : Method := { name := "<init>", desc := "()V", sig := { parameters := [], returnType := none }, accessFlags := 2, code := none }
def k10c1 : Code := { maxStack := 3, maxLocals := 2, code := jdk_31_method_11_code, exceptionTable := #[], attributes := #[] }
def k10m1 : Method := { name := "requireNonNull", desc := "(Ljava/lang/Object;Ljava/lang/String;)Ljava/lang/Object;", sig := { parameters := [(.object "java/lang/Object"), (.object "java/lang/String")], returnType := some (.object "java/lang/Object") }, accessFlags := 9, code := some k10c1 }
/-- java/util/Objects -/
def k10 : Class := { plain "java/util/Objects" (some 0) with
  accessFlags := 49
  interfaces := #[]
  cf := some (fileOf pool10 42 #[] #[{ accessFlags := 2, nameIndex := 5, descriptorIndex := 6, attributes := #[] }, { accessFlags := 9, nameIndex := 45, descriptorIndex := 94, attributes := #[] }] 49 2 #[] #[])
  fields := #[]
  methods := #[k10m0, k10m1]
  instanceTypes := #[]
  staticTypes := #[]
  resolved := Array.replicate 184 none
  statics := none }

def pool11 : Array CpInfo := pool [(1, u "java/lang/Cloneable"), (0, .class_ 1), (0, u "java/lang/Object"), (0, .class_ 3)] 3

/-- java/lang/Cloneable -/
def k11 : Class := { plain "java/lang/Cloneable" (some 0) with
  accessFlags := 1537
  interfaces := #[]
  cf := some (fileOf pool11 2 #[] #[] 1537 4 #[] #[])
  fields := #[]
  methods := #[]
  instanceTypes := #[]
  staticTypes := #[]
  resolved := Array.replicate 8 none
  statics := none }

/-- the primitive byte -/
def k12 : Class := { plain "byte" none with kind := .primitive 'B', accessFlags := 0x411 }
/-- [B -/
def k13 : Class := { plain "[B" (some 0) with kind := .array 12 .byte, interfaces := #[11, 4], accessFlags := 1041 }

/-- the primitive int -/
def k14 : Class := { plain "int" none with kind := .primitive 'I', accessFlags := 0x411 }
/-- [I -/
def k15 : Class := { plain "[I" (some 0) with kind := .array 14 .int, interfaces := #[11, 4], accessFlags := 1041 }

def heap : Heap := #[]
def classes : Array Class := #[k0, k1, k2, k3, k4, k5, k6, k7, k8, k9, k10, k11, k12, k13, k14, k15]
def interned : List (Array UInt16 × Addr) := []
def slotsUsed : Nat := 0
def theMethod : MethodId := ⟨1, 1⟩
def args0 : Array Value := #[.int 5, .int 6, .int 7, .int 3]
def aboutOver (below : List Frame) : State where
  vm := { classes := classes, interned := interned.toArray }
  heap := heap
  slotsUsed := slotsUsed
  threads := #[{ frames := .invoking theMethod args0 :: below }]
def below0 : List Frame := [.native { method := ⟨0, 0⟩, args := #[] }]
def about1 : State := aboutOver below0
def p0 : Program := .bare "" "" ""
def e0 : Env := launch0.env 0 0 0
theorem w_frames : about1.frames = Frame.invoking theMethod args0 :: below0 := rfl
set_option maxRecDepth 65536 in
theorem w_args : argsFit about1.vm theMethod args0 = true := by decide +kernel
set_option maxRecDepth 65536 in
theorem w_heap : heapFits about1 = true := by decide +kernel
set_option maxRecDepth 65536 in
theorem w_runnable : about1.curStatus? = some .runnable := by decide +kernel
set_option maxRecDepth 65536 in
theorem w_alone : about1.alone = true := by decide +kernel
set_option maxRecDepth 65536 in
theorem w_named : about1.methodNamed? x = some theMethod := by decide +kernel
set_option maxRecDepth 65536 in
theorem w_hears : about1.hears theMethod below0 = true := by decide +kernel
set_option maxRecDepth 65536 in
theorem w_ripe : about1.ripe theMethod args0 below0 = true := by decide +kernel
theorem w_running : about1.status = .running := rfl
set_option maxRecDepth 65536 in
theorem w_room : about1.hasRoom e0.platform room_1 = true :=
  launch0.hasRoom_least _ room_1 (by decide +kernel) (by decide +kernel) (by decide +kernel) (by decide +kernel) (by decide +kernel) (by decide +kernel)
theorem allAtoms_all (ts : List Jvm.Cond) (a : Array Jvm.Value) (st : Jvm.State) : (allAtoms ts).before a st = ts.all (fun c => c.before a st) := by
  induction ts with
  | nil => rfl
  | cons c t ih =>
    show (Jvm.Cond.and c (allAtoms t)).before a st = _
    rw [Jvm.Cond.before_and, ih, List.all_cons]
def words1 : List Jvm.Cond := Jvm.Cond.code x code maxLocals ret :: tables_1
/-- a 'code' word, met by the world's own term for the bytes: nothing is compared byte by byte -/
theorem code_word {y : MethodName} {bytes : ByteArray} {mx : Nat} {rt : Option FieldType} {a : Array Value} {s : State} {m : MethodId} {meth : Method} {c : Code} (h1 : s.methodNamed? y = some m) (h2 : s.vm.method? m = some meth) (h3 : meth.code = some c) (h4 : c.code = bytes)
    (h5 : (c.maxLocals == mx && c.exceptionTable.isEmpty && decide (c.maxStack ≤ mostOperands) && decide (meth.sig.returnType = rt) && !meth.locks && decide (parseMethodDescriptor y.desc = some meth.sig)) = true) : (Jvm.Cond.code y bytes mx rt).before a s = true := by
  simp only [Bool.and_eq_true, beq_iff_eq, Bool.not_eq_true', decide_eq_true_eq] at h5
  obtain ⟨⟨⟨⟨⟨g1, g2⟩, g3⟩, g4⟩, g5⟩, g6⟩ := h5
  simp [Cond.before, Cond.holds, Cond.value, h1, h2, h3, h4, g1, g2, g3, g4, g5, g6]
def isCode : Jvm.Cond → Bool
  | .code _ _ _ _ => true
  | _ => false
theorem all_split {L : List Jvm.Cond} {P : Jvm.Cond → Bool} (h1 : L.all (fun c => isCode c || P c) = true) (h2 : ∀ c ∈ L.filter isCode, P c = true) : L.all P = true := by
  refine List.all_eq_true.mpr fun c hc => ?_
  have h := List.all_eq_true.mp h1 c hc
  rcases Bool.eq_false_or_eq_true (isCode c) with hi | hi
  · exact h2 c (List.mem_filter.mpr ⟨hc, hi⟩)
  · simpa [hi] using h
set_option maxRecDepth 65536 in
theorem w_c0 : (Jvm.Cond.code x code maxLocals ret).before args0 about1 = true := code_word (m := ⟨1, 1⟩) (meth := k1m1) (c := k1c1) (by decide +kernel) rfl rfl rfl (by decide +kernel)
set_option maxRecDepth 65536 in
theorem w_c1 : (Jvm.Cond.code ({ cls := "com/example/wunce/wunce/records/StoredRecord", name := "completed", desc := "([B[B)Lcom/example/wunce/wunce/records/StoredRecord;" } : Jvm.MethodName) prog_32_method_3_code (2 : Nat) (Option.some (Jvm.ClassFile.FieldType.object "com/example/wunce/wunce/records/StoredRecord"))).before args0 about1 = true := code_word (m := ⟨3, 1⟩) (meth := k3m1) (c := k3c1) (by decide +kernel) rfl rfl rfl (by decide +kernel)
set_option maxRecDepth 65536 in
theorem w_c2 : (Jvm.Cond.code ({ cls := "java/util/Objects", name := "requireNonNull", desc := "(Ljava/lang/Object;Ljava/lang/String;)Ljava/lang/Object;" } : Jvm.MethodName) jdk_31_method_11_code (2 : Nat) (Option.some (Jvm.ClassFile.FieldType.object "java/lang/Object"))).before args0 about1 = true := code_word (m := ⟨10, 1⟩) (meth := k10m1) (c := k10c1) (by decide +kernel) rfl rfl rfl (by decide +kernel)
set_option maxRecDepth 65536 in
theorem w_c3 : (Jvm.Cond.code ({ cls := "com/example/wunce/wunce/records/StoredRecord", name := "<init>", desc := "([B[B)V" } : Jvm.MethodName) prog_32_method_1_code (3 : Nat) (Option.none : Option Jvm.ClassFile.FieldType)).before args0 about1 = true := code_word (m := ⟨3, 0⟩) (meth := k3m0) (c := k3c0) (by decide +kernel) rfl rfl rfl (by decide +kernel)
set_option maxRecDepth 65536 in
theorem w_c4 : (Jvm.Cond.code ({ cls := "java/lang/Object", name := "<init>", desc := "()V" } : Jvm.MethodName) object_method_1_code (1 : Nat) (Option.none : Option Jvm.ClassFile.FieldType)).before args0 about1 = true := code_word (m := ⟨0, 0⟩) (meth := k0m0) (c := k0c0) (by decide +kernel) rfl rfl rfl (by decide +kernel)
set_option maxRecDepth 65536 in
theorem w_c5 : (Jvm.Cond.code ({ cls := "com/example/wunce/wunce/records/StoredRecord", name := "isCompleted", desc := "()Z" } : Jvm.MethodName) prog_32_method_5_code (1 : Nat) (Option.some Jvm.ClassFile.FieldType.boolean)).before args0 about1 = true := code_word (m := ⟨3, 3⟩) (meth := k3m3) (c := k3c3) (by decide +kernel) rfl rfl rfl (by decide +kernel)
set_option maxRecDepth 65536 in
theorem w_c6 : (Jvm.Cond.code ({ cls := "com/example/wunce/wunce/records/StoredRecord", name := "fingerprint", desc := "()[B" } : Jvm.MethodName) prog_32_method_4_code (1 : Nat) (Option.some (Jvm.ClassFile.FieldType.array Jvm.ClassFile.FieldType.byte))).before args0 about1 = true := code_word (m := ⟨3, 2⟩) (meth := k3m2) (c := k3c2) (by decide +kernel) rfl rfl rfl (by decide +kernel)
set_option maxRecDepth 65536 in
theorem w_c7 : (Jvm.Cond.code ({ cls := "com/example/wunce/wunce/records/StoredRecord", name := "result", desc := "()[B" } : Jvm.MethodName) prog_32_method_6_code (1 : Nat) (Option.some (Jvm.ClassFile.FieldType.array Jvm.ClassFile.FieldType.byte))).before args0 about1 = true := code_word (m := ⟨3, 4⟩) (meth := k3m4) (c := k3c4) (by decide +kernel) rfl rfl rfl (by decide +kernel)
def codes1 : List Jvm.Cond := [Jvm.Cond.code x code maxLocals ret, Jvm.Cond.code ({ cls := "com/example/wunce/wunce/records/StoredRecord", name := "completed", desc := "([B[B)Lcom/example/wunce/wunce/records/StoredRecord;" } : Jvm.MethodName) prog_32_method_3_code (2 : Nat) (Option.some (Jvm.ClassFile.FieldType.object "com/example/wunce/wunce/records/StoredRecord")), Jvm.Cond.code ({ cls := "java/util/Objects", name := "requireNonNull", desc := "(Ljava/lang/Object;Ljava/lang/String;)Ljava/lang/Object;" } : Jvm.MethodName) jdk_31_method_11_code (2 : Nat) (Option.some (Jvm.ClassFile.FieldType.object "java/lang/Object")), Jvm.Cond.code ({ cls := "com/example/wunce/wunce/records/StoredRecord", name := "<init>", desc := "([B[B)V" } : Jvm.MethodName) prog_32_method_1_code (3 : Nat) (Option.none : Option Jvm.ClassFile.FieldType), Jvm.Cond.code ({ cls := "java/lang/Object", name := "<init>", desc := "()V" } : Jvm.MethodName) object_method_1_code (1 : Nat) (Option.none : Option Jvm.ClassFile.FieldType), Jvm.Cond.code ({ cls := "com/example/wunce/wunce/records/StoredRecord", name := "isCompleted", desc := "()Z" } : Jvm.MethodName) prog_32_method_5_code (1 : Nat) (Option.some Jvm.ClassFile.FieldType.boolean), Jvm.Cond.code ({ cls := "com/example/wunce/wunce/records/StoredRecord", name := "fingerprint", desc := "()[B" } : Jvm.MethodName) prog_32_method_4_code (1 : Nat) (Option.some (Jvm.ClassFile.FieldType.array Jvm.ClassFile.FieldType.byte)), Jvm.Cond.code ({ cls := "com/example/wunce/wunce/records/StoredRecord", name := "result", desc := "()[B" } : Jvm.MethodName) prog_32_method_6_code (1 : Nat) (Option.some (Jvm.ClassFile.FieldType.array Jvm.ClassFile.FieldType.byte))]
set_option maxRecDepth 65536 in
theorem codes_eq : words1.filter isCode = codes1 := rfl
theorem w_codes : ∀ c ∈ words1.filter isCode, c.before args0 about1 = true := by
  rw [codes_eq]
  intro c hc
  simp only [codes1, List.mem_cons, List.not_mem_nil, or_false] at hc
  rcases hc with rfl | rfl | rfl | rfl | rfl | rfl | rfl | rfl
  · exact w_c0
  · exact w_c1
  · exact w_c2
  · exact w_c3
  · exact w_c4
  · exact w_c5
  · exact w_c6
  · exact w_c7
set_option maxRecDepth 65536 in
theorem w_t1 : (words1.take 24).all (fun c => isCode c || c.before args0 about1) = true := by decide +kernel
set_option maxRecDepth 65536 in
theorem w_t2 : (words1.drop 24).all (fun c => isCode c || c.before args0 about1) = true := by decide +kernel
theorem w_tables : (allAtoms (Jvm.Cond.code x code maxLocals ret :: tables_1)).before args0 about1 = true := by
  rw [allAtoms_all]
  show words1.all (fun c => c.before args0 about1) = true
  refine all_split ?_ w_codes
  rw [← List.take_append_drop 24 words1, List.all_append, w_t1, w_t2]
  rfl
set_option maxRecDepth 65536 in
theorem w_case : (Jvm.Cond.and given_1 narrow_1).before args0 about1 = true := by decide +kernel
theorem w_applies : (headSpec (Jvm.Cond.code x code maxLocals ret :: tables_1) room_1).applies x e0.platform about1 = true :=
  (Spec.applies_iff w_frames).mpr ⟨w_running, w_runnable, w_alone, w_named, w_hears, w_ripe, w_room, w_tables⟩
theorem atStart : AtStart classFile x code maxLocals ret World_1 tables_1 room_1 Calls_1 rest_1 Pre_1 launch0 p0 e0 about1 theMethod args0 below0 :=
  ⟨lists_1, trivial, launch0.admits_env _ _ _, launch0.least_env, fairChoices_fair.cas, fairChoices_fair.clock, w_frames, w_args, w_heap, w_applies, trivial, trivial, w_case⟩
end start1
theorem witness_1 : WitnessClaimed_1 := ⟨start1.p0, start1.e0, start1.about1, start1.theMethod, start1.args0, start1.below0, start1.atStart⟩
end Jvm.Pilot.@@N@@
