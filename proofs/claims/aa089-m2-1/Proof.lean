import JvmDerived
import JvmDerived.Pilot.@@N@@Statement
import JvmDerived.Pilot.@@N@@Code
set_option linter.unusedVariables false
set_option linter.unusedSimpArgs false
namespace Jvm.Pilot.@@N@@
open Jvm Jvm.ClassFile Sem Op Lib Jvm.Free Jvm.Stand Jvm.LawKit Jvm.RoadKit Bundle Jvm.Pilot.@@N@@.Jvm.D
section Own
variable {p : Program} {l : Launch} {e : Env} {R : Room} {s : State} {m : MethodId} {args : Array Value} {below : List Frame} {meth : Method} {c : Code} {T : State} {locs : List Loc} {cells slots : Nat}
/-- from the state A on the run comes to a return of the body that s was about to invoke, with Q of the value, the heap and the places written -/
def Go (En : State → Outcome → State → List Loc → Nat → Nat → Prop) (p : Program) (e : Env) (below : List Frame) (s : State) (C S : Nat) (Q : Option Value → Heap → List Loc → Prop) (A : State) : Prop :=
  ∃ s₂ o, Steps p.tables e below A s₂ ∧ s₂.status = .running ∧ Ended s₂ below o ∧ ∃ v L, o = .returned v ∧ Q v s₂.heap L ∧ En s o s₂ L C S
variable {En : State → Outcome → State → List Loc → Nat → Nat → Prop} {C S : Nat} {Q : Option Value → Heap → List Loc → Prop} {A B : State} {h : Heap}
theorem Go.step (h : ∀ t, Steps p.tables e below B t → Steps p.tables e below A t) (g : Go En p e below s C S Q B) : Go En p e below s C S Q A := by
  obtain ⟨s₂, o, h1, r⟩ := g
  exact ⟨s₂, o, h _ h1, r⟩
theorem Go.hop (h : Steps p.tables e below A B) (g : Go En p e below s C S Q B) : Go En p e below s C S Q A := Go.step (fun _ k => h.trans k) g
theorem Go.out (X : Stand p l e R s m args below meth c T locs cells slots) {v : Option Value} (hv : meth.sig.returnType = none → v = none) (hl : meth.locks = false) (eT : T.heap = h) (hc : cells ≤ C) (hs : slots ≤ S) (q : Q v h locs)
    (st : ∀ fs, (∀ (f : JFrame) (acts : List Action), f.method = m → f.locked = none → f.entered = [] → (doReturn e (T.setTop f) acts v).1 = T.setFrames fs) → Steps p.tables e below A (T.setFrames fs)) : Go FrameEnd p e below s C S Q A := by
  obtain ⟨fs, hr, hrun, hended, hW, hsame⟩ := X.leave (v := v) hv hl
  refine ⟨_, _, st fs hr, hrun, hended, _, _, rfl, ?_, ⟨_, rfl⟩, hW, hsame.mono hc hs⟩
  show Q v T.heap locs
  rw [eT]
  exact q
theorem Go.retN (X : Stand p l e R s m args below meth c T locs cells slots) (hx : p.tables.exec = Jvm.exec) {pc : Nat} {Ls : Array Slot} {z : Int32} {t : FieldType} {rest : List Value} (hret : meth.sig.returnType = some t) (ht : t = .boolean ∨ t = .byte ∨ t = .char ∨ t = .short)
    (hz : nar t z = z) (hd : decode c.code pc = .ok (.ireturn, 1)) (hl : meth.locks = false) (eT : T.heap = h) (hc : cells ≤ C) (hs : slots ≤ S) (q : Q (some (.int z)) h locs) : Go FrameEnd p e below s C S Q (T.setTop (mkF m pc Ls (.int z :: rest))) :=
  Go.out X (v := some (.int z)) (fun k => by rw [hret] at k; cases k) hl eT hc hs q fun fs hr => Jvm.RoadKit.retN X hx (t := t) hret ht hd (by rw [hz]; exact hr)
theorem Go.retI (X : Stand p l e R s m args below meth c T locs cells slots) (hx : p.tables.exec = Jvm.exec) {pc : Nat} {Ls : Array Slot} {z : Int32} {rest : List Value} (hret : meth.sig.returnType = some .int)
    (hd : decode c.code pc = .ok (.ireturn, 1)) (hl : meth.locks = false) (eT : T.heap = h) (hc : cells ≤ C) (hs : slots ≤ S) (q : Q (some (.int z)) h locs) : Go FrameEnd p e below s C S Q (T.setTop (mkF m pc Ls (.int z :: rest))) :=
  Go.out X (v := some (.int z)) (fun k => by rw [hret] at k; cases k) hl eT hc hs q fun fs hr => retOut X hx hret rfl (Or.inl ⟨rfl, Or.inl rfl, z, rfl⟩) hd hr
theorem Go.retJ (X : Stand p l e R s m args below meth c T locs cells slots) (hx : p.tables.exec = Jvm.exec) {pc : Nat} {Ls : Array Slot} {z : Int64} {rest : List Value} (hret : meth.sig.returnType = some .long)
    (hd : decode c.code pc = .ok (.lreturn, 1)) (hl : meth.locks = false) (eT : T.heap = h) (hc : cells ≤ C) (hs : slots ≤ S) (q : Q (some (.long z)) h locs) : Go FrameEnd p e below s C S Q (T.setTop (mkF m pc Ls (.long z :: rest))) :=
  Go.out X (v := some (.long z)) (fun k => by rw [hret] at k; cases k) hl eT hc hs q fun fs hr => retOut X hx hret rfl (Or.inr (Or.inl ⟨rfl, rfl, z, rfl⟩)) hd hr
theorem own_narR {t : FieldType} {v : Value} (hv : v.isRef = true) : narrow t v = v := by cases v <;> first | (cases hv; done) | (cases t <;> rfl)
theorem Go.retR (X : Stand p l e R s m args below meth c T locs cells slots) (hx : p.tables.exec = Jvm.exec) {pc : Nat} {Ls : Array Slot} {v : Value} {t : FieldType} {rest : List Value} (hret : meth.sig.returnType = some t) (ht : t.isReference = true) (hv : v.isRef = true)
    (hd : decode c.code pc = .ok (.areturn, 1)) (hl : meth.locks = false) (eT : T.heap = h) (hc : cells ≤ C) (hs : slots ≤ S) (q : Q (some v) h locs) : Go FrameEnd p e below s C S Q (T.setTop (mkF m pc Ls (v :: rest))) :=
  Go.out X (v := some v) (fun k => by rw [hret] at k; cases k) hl eT hc hs q fun fs hr => retOut X hx hret (own_narR hv) (Or.inr (Or.inr (Or.inr (Or.inr ⟨rfl, ht, hv⟩)))) hd hr
theorem Go.ret0 (X : Stand p l e R s m args below meth c T locs cells slots) (hx : p.tables.exec = Jvm.exec) {pc : Nat} {Ls : Array Slot} (hret : meth.sig.returnType = none)
    (hd : decode c.code pc = .ok (.return_, 1)) (hl : meth.locks = false) (eT : T.heap = h) (hc : cells ≤ C) (hs : slots ≤ S) (q : Q none h locs) : Go FrameEnd p e below s C S Q (T.setTop (mkF m pc Ls [])) :=
  Go.out X (v := none) (fun _ => rfl) hl eT hc hs q fun fs hr => X.returnOut hx hret hd hr
theorem Go.outW {vm0 : Vm} {k0 : Nat} (X : Stand p l e R (s.setVm vm0) m args below meth c T locs cells slots) (hS : s.Since vm0 k0) (hk : k0 ≤ h.size) {v : Option Value} (hv : meth.sig.returnType = none → v = none) (hl : meth.locks = false) (eT : T.heap = h) (hc : cells ≤ C) (hs : slots ≤ S) (q : Q v h locs)
    (st : ∀ fs, (∀ (f : JFrame) (acts : List Action), f.method = m → f.locked = none → f.entered = [] → (doReturn e (T.setTop f) acts v).1 = T.setFrames fs) → Steps p.tables e below A (T.setFrames fs)) : Go ReturnedEndW p e below s C S Q A := by
  obtain ⟨fs, hr, hrun, hended, hq1, hq2, hq3, hq4⟩ := X.leaveW hS (by rw [eT]; exact hk) (v := v) hv hl
  refine ⟨_, _, st fs hr, hrun, hended, _, _, rfl, ?_, hq1, hq2, hq3, hq4.mono hc hs⟩
  show Q v T.heap locs
  rw [eT]
  exact q
theorem Go.retNW {vm0 : Vm} {k0 : Nat} (X : Stand p l e R (s.setVm vm0) m args below meth c T locs cells slots) (hS : s.Since vm0 k0) (hk : k0 ≤ h.size) (hx : p.tables.exec = Jvm.exec) {pc : Nat} {Ls : Array Slot} {z : Int32} {t : FieldType} {rest : List Value} (hret : meth.sig.returnType = some t) (ht : t = .boolean ∨ t = .byte ∨ t = .char ∨ t = .short)
    (hz : nar t z = z) (hd : decode c.code pc = .ok (.ireturn, 1)) (hl : meth.locks = false) (eT : T.heap = h) (hc : cells ≤ C) (hs : slots ≤ S) (q : Q (some (.int z)) h locs) : Go ReturnedEndW p e below s C S Q (T.setTop (mkF m pc Ls (.int z :: rest))) :=
  Go.outW X hS hk (v := some (.int z)) (fun k => by rw [hret] at k; cases k) hl eT hc hs q fun fs hr => Jvm.RoadKit.retN X hx (t := t) hret ht hd (by rw [hz]; exact hr)
theorem Go.retIW {vm0 : Vm} {k0 : Nat} (X : Stand p l e R (s.setVm vm0) m args below meth c T locs cells slots) (hS : s.Since vm0 k0) (hk : k0 ≤ h.size) (hx : p.tables.exec = Jvm.exec) {pc : Nat} {Ls : Array Slot} {z : Int32} {rest : List Value} (hret : meth.sig.returnType = some .int)
    (hd : decode c.code pc = .ok (.ireturn, 1)) (hl : meth.locks = false) (eT : T.heap = h) (hc : cells ≤ C) (hs : slots ≤ S) (q : Q (some (.int z)) h locs) : Go ReturnedEndW p e below s C S Q (T.setTop (mkF m pc Ls (.int z :: rest))) :=
  Go.outW X hS hk (v := some (.int z)) (fun k => by rw [hret] at k; cases k) hl eT hc hs q fun fs hr => retOut X hx hret rfl (Or.inl ⟨rfl, Or.inl rfl, z, rfl⟩) hd hr
theorem Go.retJW {vm0 : Vm} {k0 : Nat} (X : Stand p l e R (s.setVm vm0) m args below meth c T locs cells slots) (hS : s.Since vm0 k0) (hk : k0 ≤ h.size) (hx : p.tables.exec = Jvm.exec) {pc : Nat} {Ls : Array Slot} {z : Int64} {rest : List Value} (hret : meth.sig.returnType = some .long)
    (hd : decode c.code pc = .ok (.lreturn, 1)) (hl : meth.locks = false) (eT : T.heap = h) (hc : cells ≤ C) (hs : slots ≤ S) (q : Q (some (.long z)) h locs) : Go ReturnedEndW p e below s C S Q (T.setTop (mkF m pc Ls (.long z :: rest))) :=
  Go.outW X hS hk (v := some (.long z)) (fun k => by rw [hret] at k; cases k) hl eT hc hs q fun fs hr => retOut X hx hret rfl (Or.inr (Or.inl ⟨rfl, rfl, z, rfl⟩)) hd hr
theorem Go.retRW {vm0 : Vm} {k0 : Nat} (X : Stand p l e R (s.setVm vm0) m args below meth c T locs cells slots) (hS : s.Since vm0 k0) (hk : k0 ≤ h.size) (hx : p.tables.exec = Jvm.exec) {pc : Nat} {Ls : Array Slot} {v : Value} {t : FieldType} {rest : List Value} (hret : meth.sig.returnType = some t) (ht : t.isReference = true) (hv : v.isRef = true)
    (hd : decode c.code pc = .ok (.areturn, 1)) (hl : meth.locks = false) (eT : T.heap = h) (hc : cells ≤ C) (hs : slots ≤ S) (q : Q (some v) h locs) : Go ReturnedEndW p e below s C S Q (T.setTop (mkF m pc Ls (v :: rest))) :=
  Go.outW X hS hk (v := some v) (fun k => by rw [hret] at k; cases k) hl eT hc hs q fun fs hr => retOut X hx hret (own_narR hv) (Or.inr (Or.inr (Or.inr (Or.inr ⟨rfl, ht, hv⟩)))) hd hr
theorem Go.ret0W {vm0 : Vm} {k0 : Nat} (X : Stand p l e R (s.setVm vm0) m args below meth c T locs cells slots) (hS : s.Since vm0 k0) (hk : k0 ≤ h.size) (hx : p.tables.exec = Jvm.exec) {pc : Nat} {Ls : Array Slot} (hret : meth.sig.returnType = none)
    (hd : decode c.code pc = .ok (.return_, 1)) (hl : meth.locks = false) (eT : T.heap = h) (hc : cells ≤ C) (hs : slots ≤ S) (q : Q none h locs) : Go ReturnedEndW p e below s C S Q (T.setTop (mkF m pc Ls [])) :=
  Go.outW X hS hk (v := none) (fun _ => rfl) hl eT hc hs q fun fs hr => X.returnOut hx hret hd hr
theorem own_lrem {g : JFrame} {target : State} (X : Stand p l e R s m args below meth c T locs cells slots) (hx : p.tables.exec = Jvm.exec) (hg : g.method = m) {x y : Int64} {rest : List Value} (hd : decode c.code g.pc = .ok (.lrem, 1)) (hs : g.stack = .long y :: .long x :: rest) (hy : y ≠ 0)
    (hr : Steps p.tables e below (T.setTop { g with pc := g.pc + 1, stack := .long (x % y) :: rest }) target) : Steps p.tables e below (T.setTop g) target := by
  have q : x - x / y * y = x % y := lrem_mod x y
  exact XS.lrem X.here hx hg hd hs hy (by rw [q]; exact hr)
theorem own_fitR {t : FieldType} {v : Value} (ht : t.isReference = true) (hv : v.isRef = true) : fits t v = true := by cases v <;> first | (cases hv; done) | (cases t <;> first | rfl | cases ht)
variable {Z : State} {h' : Heap} {a b : Addr} {ty : FieldType} {n i sl : Nat} {f : Nat → Value} {v w : Value} {cl : Cell} {j z : Int32} {k : ClassId} {ws : List Addr}
/-- the array at a has n places; place j holds f j -/
def Av (Z : State) (h : Heap) (a : Addr) (ty : FieldType) (n : Nat) (f : Nat → Value) : Prop := ∃ c : Cell, Arr Z h a c ty ∧ c.slots.size = n ∧ n < 2147483648 ∧ ∀ j, j < n → c.slots[j]? = some (f j)
def aset (f : Nat → Value) (i : Nat) (v : Value) : Nat → Value := fun j => if j = i then v else f j
theorem Av.lt (F : Av Z h a ty n f) : a < h.size := by obtain ⟨c, A, -⟩ := F; exact A.lt
theorem Av.ext (F : Av Z h a ty n f) (E : Ext h h') : Av Z h' a ty n f := by obtain ⟨c, A, r⟩ := F; exact ⟨c, A.ext E, r⟩
theorem Av.other (F : Av Z h b ty n f) (W : Wr h h' a sl v) (q : b ≠ a) : Av Z h' b ty n f := by obtain ⟨c, A, r⟩ := F; exact ⟨c, A.other W q, r⟩
theorem Av.keep (F : Av Z h a ty n f) (K : Keep h h' ws) (q : a ∉ ws) : Av Z h' a ty n f := by obtain ⟨c, A, r⟩ := F; exact ⟨c, ⟨K.2.1 a c A.1 q, A.2⟩, r⟩
theorem Av.eq (F : Av Z h a ty n f) {g : Nat → Value} (q : ∀ j, j < n → f j = g j) : Av Z h a ty n g := by obtain ⟨c, A, r1, r2, r3⟩ := F; exact ⟨c, A, r1, r2, fun j hj => by rw [← q j hj]; exact r3 j hj⟩
theorem own_clamp (q : ¬ z < 0) : z.toNatClampNeg < 2147483648 := (back32 q).2
theorem Av.new (A : Arr Z h a (newA k ty z) ty) (q : ¬ z < 0) (e : z.toNatClampNeg = n) : Av Z h a ty n (fun _ => defaultValue ty) := by
  refine ⟨_, A, by rw [sz_new, e], by rw [← e]; exact own_clamp q, fun j hj => ?_⟩
  have q2 : (newA k ty z).slots = Array.replicate z.toNatClampNeg (defaultValue ty) := rfl
  rw [q2, Array.getElem?_replicate, e, if_pos hj]
theorem own_in {c : Cell} (S : c.slots.size = n) (h0 : ¬ j < 0) (h : j.toNatClampNeg < n) : ¬ (j < 0 ∨ c.slots.size ≤ j.toNatClampNeg) := by
  rw [S]; exact fun q => q.elim h0 (Nat.not_le.mpr h)
theorem Av.at {c : Cell} (G : ∀ j, j < n → c.slots[j]? = some (f j)) (e : j.toNatClampNeg = i) (hi : i < n) (w : f i = v) : c.slots[j.toNatClampNeg]? = some v := by rw [e, G i hi, w]
theorem own_slots (c : Cell) (i : Nat) (v : Value) : (c.setSlot i v).slots = c.slots.setIfInBounds i v := rfl
theorem Av.set {c : Cell} (A : Arr Z h a c ty) (S : c.slots.size = n) (M : n < 2147483648) (G : ∀ j, j < n → c.slots[j]? = some (f j)) (W : Wr h h' a j.toNatClampNeg v) (e : j.toNatClampNeg = i) (hin : ¬ (j < 0 ∨ c.slots.size ≤ j.toNatClampNeg)) : Av Z h' a ty n (aset f i v) := by
  have hi : i < c.slots.size := by rw [← e]; exact Nat.lt_of_not_le fun q => hin (Or.inr q)
  refine ⟨_, A.same W, by rw [sz_set]; exact S, M, fun q hq => ?_⟩
  rw [own_slots, e, Array.getElem?_setIfInBounds]
  by_cases r : i = q
  · subst r
    rw [if_pos rfl, if_pos hi]; simp [aset]
  · rw [if_neg r, G q hq]
    show some (f q) = some (if q = i then v else f q)
    rw [if_neg (Ne.symm r)]
theorem own_int_v {aa : Array Value} {t : Term} {k : Int32} (he : (Cond.eq t (.int k)).value aa Z none Z [] = some true) : t.eval aa Z none [] Z = some (.int k) := by
  have hk : (Term.int k).eval aa Z none [] Z = some (.int k) := Term.int_eval k
  cases ht : t.eval aa Z none [] Z with
  | none => simp [Cond.value, ht] at he
  | some x => cases x <;> simp_all [Cond.value]
theorem own_enum {aa : Array Value} {t : Term} {C D n d : String} {k : Int32} (hx : (Cond.exactly t C).value aa Z none Z [] = some true) (he : (Cond.eq (.field t D n d) (.int k)).value aa Z none Z [] = some true) :
    ∃ x : Addr, t.eval aa Z none [] Z = some (.ref x) ∧ Exa Z Z.heap x C ∧ Fld Z Z.heap x D n d (.int k) := by
  obtain ⟨x, hv⟩ := exa_v hx
  exact ⟨x, hv, Exa.start hv hx, Fld.start (by rw [← fld_at hv]; exact own_int_v he)⟩
theorem own_self {y z : MethodName} (hz : (Cond.selects z.cls z z).before args s = true) (e : z.cls = y.cls) (hp : s.PrivateAt y) (hi : (Cond.instanceMethod y).before args s = true) (hy : y.cls ≠ "java/lang/invoke/MethodHandle" ∧ y.cls ≠ "java/lang/invoke/VarHandle") : (Cond.selects y.cls y y).before args s = true := by
  obtain ⟨c2, r2, m2, q1, -, q3, -, kP, hkP, hkPi⟩ := Cond.selects_spec hz
  have q := findClass_of_methodNamed q3
  rw [e] at q
  exact selects_self_of_private q hkP hkPi hp hi hy
def ushI (x y : Int32) : Int32 := (x.toUInt32 >>> (y &&& 31).toUInt32).toInt32
def ushL (x : Int64) (y : Int32) : Int64 := (x.toUInt64 >>> (y &&& 0x3f).toInt64.toUInt64).toInt64
theorem own_nar8 (a : Int32) : nar .byte a.toInt8.toInt32 = a.toInt8.toInt32 := by show a.toInt8.toInt32.toInt8.toInt32 = _; simp
theorem own_nar16 (a : Int32) : nar .char a.toUInt32.toUInt16.toUInt32.toInt32 = a.toUInt32.toUInt16.toUInt32.toInt32 := by
  show a.toUInt32.toUInt16.toUInt32.toInt32.toUInt32.toUInt16.toUInt32.toInt32 = _
  rw [show a.toUInt32.toUInt16.toUInt32.toInt32.toUInt32 = a.toUInt32.toUInt16.toUInt32 from rfl, UInt16.toUInt16_toUInt32]
theorem own_sta_keep {C d nm : String} (F : Sta Z h C nm d w) (K : Keep h h' []) : Sta Z h' C nm d w := by
  obtain ⟨cf, i, k, f, st, cell, h1, h2, h3, h4, h5, r⟩ := F
  exact ⟨cf, i, k, f, st, cell, h1, h2, h3, h4, K.2.1 _ _ h5 nin0, r⟩
theorem own_ext_keep (E : Ext h h') : Keep h h' [] := (Keep.refl h []).ext E
theorem own_keep_eq (e : h' = h) (ws : List Addr) : Keep h h' ws := by rw [e]; exact Keep.refl _ _
end Own
theorem pn_deckmill_Shuffler : plainName "deckmill/Shuffler" = true := by first | (simp [plainName, overriddenIn]; done) | decide +kernel
theorem d_prog_43_method_2_code_0 : decode prog_43_method_2_code 0 = .ok (.aload_n 0, 1) := by decide +kernel
theorem d_prog_43_method_2_code_1 : decode prog_43_method_2_code 1 = .ok (.lload_n 1, 1) := by decide +kernel
theorem d_prog_43_method_2_code_2 : decode prog_43_method_2_code 2 = .ok (.ldc2_w 13, 3) := by decide +kernel
theorem d_prog_43_method_2_code_5 : decode prog_43_method_2_code 5 = .ok (.lxor, 1) := by decide +kernel
theorem d_prog_43_method_2_code_6 : decode prog_43_method_2_code 6 = .ok (.ldc2_w 15, 3) := by decide +kernel
theorem d_prog_43_method_2_code_9 : decode prog_43_method_2_code 9 = .ok (.land, 1) := by decide +kernel
theorem d_prog_43_method_2_code_10 : decode prog_43_method_2_code 10 = .ok (.putfield 17, 3) := by decide +kernel
theorem d_prog_43_method_2_code_13 : decode prog_43_method_2_code 13 = .ok (.return_, 1) := by decide +kernel
theorem d_prog_43_method_1_code_0 : decode prog_43_method_1_code 0 = .ok (.aload_n 0, 1) := by decide +kernel
theorem d_prog_43_method_1_code_1 : decode prog_43_method_1_code 1 = .ok (.invokespecial 3, 3) := by decide +kernel
theorem d_prog_43_method_1_code_4 : decode prog_43_method_1_code 4 = .ok (.aload_n 0, 1) := by decide +kernel
theorem d_prog_43_method_1_code_5 : decode prog_43_method_1_code 5 = .ok (.lload_n 1, 1) := by decide +kernel
theorem d_prog_43_method_1_code_6 : decode prog_43_method_1_code 6 = .ok (.invokevirtual 9, 3) := by decide +kernel
theorem pd__J_V : parseMethodDescriptor "(J)V" = some ⟨[.long], none⟩ := by decide +kernel
theorem d_prog_43_method_1_code_9 : decode prog_43_method_1_code 9 = .ok (.return_, 1) := by decide +kernel
theorem d_prog_43_method_5_code_0 : decode prog_43_method_5_code 0 = .ok (.aload_n 0, 1) := by decide +kernel
theorem d_prog_43_method_5_code_1 : decode prog_43_method_5_code 1 = .ok (.aload_n 0, 1) := by decide +kernel
theorem d_prog_43_method_5_code_2 : decode prog_43_method_5_code 2 = .ok (.getfield 17, 3) := by decide +kernel
theorem d_prog_43_method_5_code_5 : decode prog_43_method_5_code 5 = .ok (.ldc2_w 13, 3) := by decide +kernel
theorem d_prog_43_method_5_code_8 : decode prog_43_method_5_code 8 = .ok (.lmul, 1) := by decide +kernel
theorem d_prog_43_method_5_code_9 : decode prog_43_method_5_code 9 = .ok (.ldc2_w 29, 3) := by decide +kernel
theorem d_prog_43_method_5_code_12 : decode prog_43_method_5_code 12 = .ok (.ladd, 1) := by decide +kernel
theorem d_prog_43_method_5_code_13 : decode prog_43_method_5_code 13 = .ok (.ldc2_w 15, 3) := by decide +kernel
theorem d_prog_43_method_5_code_16 : decode prog_43_method_5_code 16 = .ok (.land, 1) := by decide +kernel
theorem d_prog_43_method_5_code_17 : decode prog_43_method_5_code 17 = .ok (.putfield 17, 3) := by decide +kernel
theorem d_prog_43_method_5_code_20 : decode prog_43_method_5_code 20 = .ok (.aload_n 0, 1) := by decide +kernel
theorem d_prog_43_method_5_code_21 : decode prog_43_method_5_code 21 = .ok (.getfield 17, 3) := by decide +kernel
theorem d_prog_43_method_5_code_24 : decode prog_43_method_5_code 24 = .ok (.bipush 17, 2) := by decide +kernel
theorem d_prog_43_method_5_code_26 : decode prog_43_method_5_code 26 = .ok (.lushr, 1) := by decide +kernel
theorem d_prog_43_method_5_code_27 : decode prog_43_method_5_code 27 = .ok (.l2i, 1) := by decide +kernel
theorem d_prog_43_method_5_code_28 : decode prog_43_method_5_code 28 = .ok (.ireturn, 1) := by decide +kernel
theorem d_prog_43_method_4_code_0 : decode prog_43_method_4_code 0 = .ok (.aload_n 0, 1) := by decide +kernel
theorem d_prog_43_method_4_code_1 : decode prog_43_method_4_code 1 = .ok (.invokevirtual 25, 3) := by decide +kernel
theorem pd___I : parseMethodDescriptor "()I" = some ⟨[], some .int⟩ := by decide +kernel
theorem d_prog_43_method_4_code_4 : decode prog_43_method_4_code 4 = .ok (.istore_n 2, 1) := by decide +kernel
theorem d_prog_43_method_4_code_5 : decode prog_43_method_4_code 5 = .ok (.iload_n 1, 1) := by decide +kernel
theorem d_prog_43_method_4_code_6 : decode prog_43_method_4_code 6 = .ok (.iconst 1, 1) := by decide +kernel
theorem d_prog_43_method_4_code_7 : decode prog_43_method_4_code 7 = .ok (.isub, 1) := by decide +kernel
theorem d_prog_43_method_4_code_8 : decode prog_43_method_4_code 8 = .ok (.istore_n 3, 1) := by decide +kernel
theorem d_prog_43_method_4_code_9 : decode prog_43_method_4_code 9 = .ok (.iload_n 1, 1) := by decide +kernel
theorem d_prog_43_method_4_code_10 : decode prog_43_method_4_code 10 = .ok (.iload_n 3, 1) := by decide +kernel
theorem d_prog_43_method_4_code_11 : decode prog_43_method_4_code 11 = .ok (.iand, 1) := by decide +kernel
theorem d_prog_43_method_4_code_12 : decode prog_43_method_4_code 12 = .ok (.ifCond .ne 13, 3) := by decide +kernel
theorem d_prog_43_method_4_code_15 : decode prog_43_method_4_code 15 = .ok (.iload_n 1, 1) := by decide +kernel
theorem d_prog_43_method_4_code_16 : decode prog_43_method_4_code 16 = .ok (.i2l, 1) := by decide +kernel
theorem d_prog_43_method_4_code_17 : decode prog_43_method_4_code 17 = .ok (.iload_n 2, 1) := by decide +kernel
theorem d_prog_43_method_4_code_18 : decode prog_43_method_4_code 18 = .ok (.i2l, 1) := by decide +kernel
theorem d_prog_43_method_4_code_19 : decode prog_43_method_4_code 19 = .ok (.lmul, 1) := by decide +kernel
theorem d_prog_43_method_4_code_20 : decode prog_43_method_4_code 20 = .ok (.bipush 31, 2) := by decide +kernel
theorem d_prog_43_method_4_code_22 : decode prog_43_method_4_code 22 = .ok (.lshr, 1) := by decide +kernel
theorem d_prog_43_method_4_code_23 : decode prog_43_method_4_code 23 = .ok (.l2i, 1) := by decide +kernel
theorem d_prog_43_method_4_code_24 : decode prog_43_method_4_code 24 = .ok (.ireturn, 1) := by decide +kernel
theorem pn_deckmill_ShufflerSeedPinLaw : plainName "deckmill/ShufflerSeedPinLaw" = true := by first | (simp [plainName, overriddenIn]; done) | decide +kernel
theorem d_method_2_code_0 : decode method_2_code 0 = .ok (.lload_n 0, 1) := by decide +kernel
theorem d_method_2_code_1 : decode method_2_code 1 = .ok (.ldc2_w 7, 3) := by decide +kernel
theorem d_method_2_code_4 : decode method_2_code 4 = .ok (.lmul, 1) := by decide +kernel
theorem d_method_2_code_5 : decode method_2_code 5 = .ok (.ldc2_w 9, 3) := by decide +kernel
theorem d_method_2_code_8 : decode method_2_code 8 = .ok (.ladd, 1) := by decide +kernel
theorem d_method_2_code_9 : decode method_2_code 9 = .ok (.ldc2_w 11, 3) := by decide +kernel
theorem d_method_2_code_12 : decode method_2_code 12 = .ok (.land, 1) := by decide +kernel
theorem d_method_2_code_13 : decode method_2_code 13 = .ok (.lreturn, 1) := by decide +kernel
theorem pd__I_I : parseMethodDescriptor "(I)I" = some ⟨[.int], some .int⟩ := by decide +kernel
theorem pd__J_J : parseMethodDescriptor "(J)J" = some ⟨[.long], some .long⟩ := by decide +kernel

def seedL (q : Int64) : Int64 := (q ^^^ (25214903917 : Int64)) &&& (281474976710655 : Int64)
def stepL (s : Int64) : Int64 := ((s * (25214903917 : Int64)) + (11 : Int64)) &&& (281474976710655 : Int64)
def outL (s : Int64) : Int32 := (ushL s (17 : Int32)).toInt32
def nI (p : Int32) (s : Int64) : Int32 := ((p.toInt64 * (outL s).toInt64) >>> ((31 : Int32) &&& 0x3f).toInt64).toInt32
theorem own_pow_all : ∀ n : Fin 31, ((1 : Int32) <<< ((Int32.ofNat n.val) &&& 31)) &&& (((1 : Int32) <<< ((Int32.ofNat n.val) &&& 31)) - 1) = 0 := by decide
theorem own_pow (k : Int32) : ((1 : Int32) <<< ((k &&& (30 : Int32)) &&& 31)) &&& (((1 : Int32) <<< ((k &&& (30 : Int32)) &&& 31)) - (1 : Int32)) = 0 := by
  have h := c_and k 30 (by decide)
  have e30 : (30 : Int32).toInt = 30 := by decide
  have hn : (k &&& 30).toInt.toNat < 31 := by omega
  have e : (k &&& 30) = Int32.ofNat (k &&& 30).toInt.toNat := by
    apply Int32.toInt_inj.mp
    rw [Int32.toInt_ofNat_of_lt (by omega)]
    omega
  rw [e]
  exact own_pow_all ⟨_, hn⟩
theorem own_us17 (x : Int64) : (ushL x (17 : Int32)).toInt = (x.toInt % 18446744073709551616) / 131072 := c_lushr x 17 17 (by decide) (by decide)
theorem own_us18 (x : Int64) : (ushL x (18 : Int32)).toInt = (x.toInt % 18446744073709551616) / 262144 := c_lushr x 18 18 (by decide) (by decide)
theorem own_shr31 (x : Int64) : (x >>> ((31 : Int32) &&& 0x3f).toInt64).toInt = x.toInt / 2147483648 := c_lshr x 31 31 (by decide)
theorem own_r (t : Int64) : nI (1073741824 : Int32) (stepL t) = (ushL (stepL t) (18 : Int32)).toInt32 := by
  have hm := c_maskL ((t * (25214903917 : Int64)) + (11 : Int64)) 281474976710655 48 (by decide) (by decide)
  have hs : 0 ≤ (stepL t).toInt ∧ (stepL t).toInt < 281474976710656 := by
    show 0 ≤ (((t * (25214903917 : Int64)) + (11 : Int64)) &&& (281474976710655 : Int64)).toInt ∧ (((t * (25214903917 : Int64)) + (11 : Int64)) &&& (281474976710655 : Int64)).toInt < 281474976710656
    rw [hm]; omega
  generalize stepL t = s at hs
  have a := own_us17 s
  have b := own_us18 s
  have c := c_l2i (ushL s (17 : Int32))
  have d := rng32 (ushL s (17 : Int32)).toInt32
  have o : (outL s).toInt = s.toInt / 131072 := by show ((ushL s (17 : Int32)).toInt32).toInt = _; omega
  have m := c_lmul (1073741824 : Int32).toInt64 (outL s).toInt64
  have r := rng64 ((1073741824 : Int32).toInt64 * (outL s).toInt64)
  rw [c_i2l, c_i2l, show (1073741824 : Int32).toInt = 1073741824 from by decide, o] at m
  have mm : ((1073741824 : Int32).toInt64 * (outL s).toInt64).toInt = 1073741824 * (s.toInt / 131072) := by omega
  have q := own_shr31 ((1073741824 : Int32).toInt64 * (outL s).toInt64)
  rw [mm] at q
  have x1 := c_l2i (((1073741824 : Int32).toInt64 * (outL s).toInt64) >>> ((31 : Int32) &&& 0x3f).toInt64)
  have x2 := c_l2i (ushL s (18 : Int32))
  have x3 := rng32 (nI (1073741824 : Int32) s)
  have x4 := rng32 (ushL s (18 : Int32)).toInt32
  apply Int32.toInt_inj.mp
  show ((((1073741824 : Int32).toInt64 * (outL s).toInt64) >>> ((31 : Int32) &&& 0x3f).toInt64).toInt32).toInt = _
  have x5 : -2147483648 ≤ ((((1073741824 : Int32).toInt64 * (outL s).toInt64) >>> ((31 : Int32) &&& 0x3f).toInt64).toInt32).toInt ∧ ((((1073741824 : Int32).toInt64 * (outL s).toInt64) >>> ((31 : Int32) &&& 0x3f).toInt64).toInt32).toInt < 2147483648 := rng32 _
  omega

def Q1 (Z : State) (a1 : Addr) (q1 : Int64) (u1 : Int64) (h0 : Heap) (n0 : Nat) (v : Option Value) (h : Heap) (L : List Loc) : Prop := v = none ∧ Fr n0 L ∧ (Keep h0 h [a1]) ∧ (Exa Z h a1 "deckmill/Shuffler") ∧ (Fld Z h a1 "deckmill/Shuffler" "state" "J" (.long (seedL q1)))
theorem ef_1 (m : MethodId) (a1 : Addr) (q1 : Int64) : entryFrame m #[(.ref a1), (.long q1)] 3 = mkF m 0 #[.val (.ref a1), .val (.long q1), .second] [] := by first | (simp [entryFrame, mkF, argsToLocals, Value.category]; done) | rfl
set_option maxRecDepth 65536 in
set_option maxHeartbeats 40000000 in
theorem rm1 (l : Launch) (Z : State) (a0 : Array Value) (hw : ∀ d ∈ tables_1, d.before a0 Z = true) (ws : List Jvm.Cond) (a1 : Addr) (q1 : Int64) (u1 : Int64) (h0 : Heap) (n0 : Nat) (Z0 : n0 ≤ h0.size) (E_a1 : Exa Z h0 a1 "deckmill/Shuffler") (F_state_a1 : Fld Z h0 a1 "deckmill/Shuffler" "state" "J" (.long u1)) (g_a1 : n0 ≤ a1) :
    MetFree l (⟨"deckmill/Shuffler", "seed", "(J)V"⟩ : MethodName) (head1 (Jvm.Cond.code (⟨"deckmill/Shuffler", "seed", "(J)V"⟩ : MethodName) prog_43_method_2_code 3 none :: ws) ({ frames := 0, cells := 0, slots := 0, locals := 0 } : Room)) (fun a U => a = #[(.ref a1), (.long q1)] ∧ Z.Warmed39 U.vm ∧ U.heap = h0) (fun _ _ _ _ _ => True) (fun _ U o U' => ∃ v L, o = .returned v ∧ (Q1 Z a1 q1 u1 h0 n0) v U'.heap L ∧ FrameEnd U o U' L 0 0) := by
  refine MetFree.of_bodySF (plainFor_of_name pn_deckmill_Shuffler) hisR ?_
  intro p e s m args below meth c s₁ Bd hml0 hP hK
  obtain ⟨rfl, hZ, hh⟩ := hP
  have hx := Bd.exec
  have hby := Bd.bytes
  have hml : c.maxLocals = 3 := hml0
  have hown : s.vm.findClass "deckmill/Shuffler" = some m.cls := findClass_of_methodNamed Bd.named
  have hnm := (name_of_methodNamed Bd.named Bd.method).1
  have X0 : Stand p l e ({ frames := 0, cells := 0, slots := 0, locals := 0 } : Room) s m #[(.ref a1), (.long q1)] below meth c s₁ [] 0 0 := Stand.of_body Bd
  have e0 : s₁.heap = h0 := by rw [← hh, Bd.state]; rfl
  have N0 := Fr.nil n0
  show Go FrameEnd p e below s 0 0 (Q1 Z a1 q1 u1 h0 n0) _
  refine Go.step (fun _ k => castTop (ef_1 m a1 q1) k) ?_
  show Go FrameEnd p e below s 0 0 (Q1 Z a1 q1 u1 h0 n0) (s₁.setTop (mkF m 0 #[.val (.ref a1), .val (.long q1), .second] []))
  refine Go.step (fun _ k => XS.aloadN X0.here hx rfl (hb hby d_prog_43_method_2_code_0) rfl rfl k) ?_
  show Go FrameEnd p e below s 0 0 (Q1 Z a1 q1 u1 h0 n0) (s₁.setTop (mkF m 1 #[.val (.ref a1), .val (.long q1), .second] [(.ref a1)]))
  refine Go.step (fun _ k => XS.lloadN X0.here hx rfl (hb hby d_prog_43_method_2_code_1) rfl k) ?_
  show Go FrameEnd p e below s 0 0 (Q1 Z a1 q1 u1 h0 n0) (s₁.setTop (mkF m 2 #[.val (.ref a1), .val (.long q1), .second] [(.long q1), (.ref a1)]))
  refine Go.step (X0.ldc2Long hx hown (mvT hZ (hw _ (List.mem_of_getElem? (i := 14) rfl))) (g := (mkF m 2 #[.val (.ref a1), .val (.long q1), .second] [(.long q1), (.ref a1)])) rfl (hb hby d_prog_43_method_2_code_2)) ?_
  show Go FrameEnd p e below s 0 0 (Q1 Z a1 q1 u1 h0 n0) (s₁.setTop (mkF m 5 #[.val (.ref a1), .val (.long q1), .second] [(.long (25214903917 : Int64)), (.long q1), (.ref a1)]))
  refine Go.step (fun _ k => XS.lxor X0.here hx rfl (hb hby d_prog_43_method_2_code_5) rfl k) ?_
  show Go FrameEnd p e below s 0 0 (Q1 Z a1 q1 u1 h0 n0) (s₁.setTop (mkF m 6 #[.val (.ref a1), .val (.long q1), .second] [(.long (q1 ^^^ (25214903917 : Int64))), (.ref a1)]))
  refine Go.step (X0.ldc2Long hx hown (mvT hZ (hw _ (List.mem_of_getElem? (i := 15) rfl))) (g := (mkF m 6 #[.val (.ref a1), .val (.long q1), .second] [(.long (q1 ^^^ (25214903917 : Int64))), (.ref a1)])) rfl (hb hby d_prog_43_method_2_code_6)) ?_
  show Go FrameEnd p e below s 0 0 (Q1 Z a1 q1 u1 h0 n0) (s₁.setTop (mkF m 9 #[.val (.ref a1), .val (.long q1), .second] [(.long (281474976710655 : Int64)), (.long (q1 ^^^ (25214903917 : Int64))), (.ref a1)]))
  refine Go.step (fun _ k => XS.land X0.here hx rfl (hb hby d_prog_43_method_2_code_9) rfl k) ?_
  show Go FrameEnd p e below s 0 0 (Q1 Z a1 q1 u1 h0 n0) (s₁.setTop (mkF m 10 #[.val (.ref a1), .val (.long q1), .second] [(.long ((q1 ^^^ (25214903917 : Int64)) &&& (281474976710655 : Int64))), (.ref a1)]))
  obtain ⟨T1, h1, X1, e1, W1, st1⟩ := putF X0 hx hZ hown (host := "") (Or.inl (hw _ (List.mem_of_getElem? (i := 16) rfl))) Via.refl e0 F_state_a1 E_a1 (Or.inl (hw _ (List.mem_of_getElem? (i := 17) rfl))) (hw _ (List.mem_of_getElem? (i := 1) rfl)) (ty := .long) (by decide) rfl rfl (g := (mkF m 10 #[.val (.ref a1), .val (.long q1), .second] [(.long ((q1 ^^^ (25214903917 : Int64)) &&& (281474976710655 : Int64))), (.ref a1)])) rfl rfl (hb hby d_prog_43_method_2_code_10)
  refine Go.step st1 ?_
  have N1 := Fr.snoc X1 N0 g_a1
  have Z1 : n0 ≤ h1.size := Nat.le_trans Z0 (Keep.of_wr W1).1
  have K01 : Keep h0 h1 [a1] := (Keep.refl h0 [a1]).wr W1 (Or.inl (List.mem_of_getElem? (i := 0) rfl))
  have F1 := F_state_a1.same W1
  show Go FrameEnd p e below s 0 0 (Q1 Z a1 q1 u1 h0 n0) (T1.setTop (mkF m 13 #[.val (.ref a1), .val (.long q1), .second] []))
  refine Go.ret0 X1 hx Bd.returns (hb hby d_prog_43_method_2_code_13) (BodyLoose.notSynchronized Bd) e1 (by decide) (by decide) ?_
  exact ⟨rfl, N1, K01, (E_a1.wr W1), F1⟩
def Q2 (Z : State) (a1 : Addr) (q1 : Int64) (u1 : Int64) (h0 : Heap) (n0 : Nat) (v : Option Value) (h : Heap) (L : List Loc) : Prop := v = none ∧ Fr n0 L ∧ (Keep h0 h [a1]) ∧ (Exa Z h a1 "deckmill/Shuffler") ∧ (Fld Z h a1 "deckmill/Shuffler" "state" "J" (.long (seedL q1)))
theorem ef_2 (m : MethodId) (a1 : Addr) (q1 : Int64) : entryFrame m #[(.ref a1), (.long q1)] 3 = mkF m 0 #[.val (.ref a1), .val (.long q1), .second] [] := by first | (simp [entryFrame, mkF, argsToLocals, Value.category]; done) | rfl
set_option maxRecDepth 65536 in
set_option maxHeartbeats 40000000 in
theorem rm2 (l : Launch) (Z : State) (a0 : Array Value) (hw : ∀ d ∈ tables_1, d.before a0 Z = true) (ws : List Jvm.Cond) (a1 : Addr) (q1 : Int64) (u1 : Int64) (h0 : Heap) (n0 : Nat) (Z0 : n0 ≤ h0.size) (E_a1 : Exa Z h0 a1 "deckmill/Shuffler") (F_state_a1 : Fld Z h0 a1 "deckmill/Shuffler" "state" "J" (.long u1)) (g_a1 : n0 ≤ a1) :
    MetFree l (⟨"deckmill/Shuffler", "<init>", "(J)V"⟩ : MethodName) (head1 (Jvm.Cond.code (⟨"deckmill/Shuffler", "<init>", "(J)V"⟩ : MethodName) prog_43_method_1_code 3 none :: ws) ({ frames := 1, cells := 0, slots := 0, locals := 14 } : Room)) (fun a U => a = #[(.ref a1), (.long q1)] ∧ Z.Warmed39 U.vm ∧ U.heap = h0) (fun _ _ _ _ _ => True) (fun _ U o U' => ∃ v L, o = .returned v ∧ (Q2 Z a1 q1 u1 h0 n0) v U'.heap L ∧ FrameEnd U o U' L 0 0) := by
  refine MetFree.of_bodySF (plainFor_of_name pn_deckmill_Shuffler) hisR ?_
  intro p e s m args below meth c s₁ Bd hml0 hP hK
  obtain ⟨rfl, hZ, hh⟩ := hP
  have hx := Bd.exec
  have hby := Bd.bytes
  have hml : c.maxLocals = 3 := hml0
  have hown : s.vm.findClass "deckmill/Shuffler" = some m.cls := findClass_of_methodNamed Bd.named
  have hnm := (name_of_methodNamed Bd.named Bd.method).1
  have X0 : Stand p l e ({ frames := 1, cells := 0, slots := 0, locals := 14 } : Room) s m #[(.ref a1), (.long q1)] below meth c s₁ [] 0 0 := Stand.of_body Bd
  have e0 : s₁.heap = h0 := by rw [← hh, Bd.state]; rfl
  have N0 := Fr.nil n0
  show Go FrameEnd p e below s 0 0 (Q2 Z a1 q1 u1 h0 n0) _
  refine Go.step (fun _ k => castTop (ef_2 m a1 q1) k) ?_
  show Go FrameEnd p e below s 0 0 (Q2 Z a1 q1 u1 h0 n0) (s₁.setTop (mkF m 0 #[.val (.ref a1), .val (.long q1), .second] []))
  refine Go.step (fun _ k => XS.aloadN X0.here hx rfl (hb hby d_prog_43_method_1_code_0) rfl rfl k) ?_
  show Go FrameEnd p e below s 0 0 (Q2 Z a1 q1 u1 h0 n0) (s₁.setTop (mkF m 1 #[.val (.ref a1), .val (.long q1), .second] [(.ref a1)]))
  obtain ⟨T1, X1, e1, st1⟩ := initO X0 hx hZ hown (hw _ (List.mem_of_getElem? (i := 6) rfl)) (hw _ (List.mem_of_getElem? (i := 7) rfl)) (hw _ (List.mem_of_getElem? (i := 8) rfl)) e0 (g := (mkF m 1 #[.val (.ref a1), .val (.long q1), .second] [(.ref a1)])) rfl (by rw [hml]; rfl) rfl (hb hby d_prog_43_method_1_code_1) (by decide) (W := 0) (by show 2 * 0 + _ ≤ _; exact Nat.le_of_eq rfl) (by decide)
  refine Go.step st1 ?_
  show Go FrameEnd p e below s 0 0 (Q2 Z a1 q1 u1 h0 n0) (T1.setTop (mkF m 4 #[.val (.ref a1), .val (.long q1), .second] []))
  refine Go.step (fun _ k => XS.aloadN X1.here hx rfl (hb hby d_prog_43_method_1_code_4) rfl rfl k) ?_
  show Go FrameEnd p e below s 0 0 (Q2 Z a1 q1 u1 h0 n0) (T1.setTop (mkF m 5 #[.val (.ref a1), .val (.long q1), .second] [(.ref a1)]))
  refine Go.step (fun _ k => XS.lloadN X1.here hx rfl (hb hby d_prog_43_method_1_code_5) rfl k) ?_
  show Go FrameEnd p e below s 0 0 (Q2 Z a1 q1 u1 h0 n0) (T1.setTop (mkF m 6 #[.val (.ref a1), .val (.long q1), .second] [(.long q1), (.ref a1)]))
  obtain ⟨cq2, kq2, q2a, q2b, q2c⟩ := isOf hZ e1 E_a1
  obtain ⟨_, _, ⟨T2, L2, k2, n2⟩, -, X2, ⟨Lc2, hQ2, l2, y2, z2⟩, st2⟩ := X1.virtualBack hx (y := (⟨"deckmill/Shuffler", "seed", "(J)V"⟩ : MethodName)) (z := (⟨"deckmill/Shuffler", "seed", "(J)V"⟩ : MethodName)) hown (mvT hZ (hw _ (List.mem_of_getElem? (i := 9) rfl))) (mvT hZ (hw _ (List.mem_of_getElem? (i := 10) rfl))) (notFace_of_selects (args := #[]) (mvT hZ (hw _ (List.mem_of_getElem? (i := 12) rfl)))) (mvT hZ (hw _ (List.mem_of_getElem? (i := 12) rfl))) (mvT hZ (hw _ (List.mem_of_getElem? (i := 11) rfl))) (by decide) (backOf (W := 0) (rm1 l Z a0 hw [] a1 q1 u1 h0 n0 Z0 E_a1 F_state_a1 g_a1) hZ (hw _ (List.mem_of_getElem? (i := 13) rfl)) (hw _ (List.mem_of_getElem? (i := 2) rfl)) (by decide) (by decide)) q2a q2c (g := (mkF m 6 #[.val (.ref a1), .val (.long q1), .second] [(.long q1), (.ref a1)])) rfl (by rw [hml]; rfl) (Steps.refl _) (argsL := [(.long q1)]) (rest := []) (lenOf pd__J_V rfl) rfl (by show 2 * 0 + _ ≤ _; exact Nat.le_of_eq rfl) (hb hby d_prog_43_method_1_code_6) (fun _ _ => ⟨rfl, e1, (by decide : 0 + 0 ≤ _), (by decide : 0 + 0 ≤ _)⟩)
  dsimp only [Pt.U, Pt.locs, Pt.cells, Pt.slots] at X2 l2 y2 z2 st2 hQ2
  subst l2 y2 z2
  obtain ⟨rfl, N2q, K2_0, xE2_1, xF2_2⟩ := hQ2
  have N2 := Fr.app N0 N2q
  have Z2 : n0 ≤ T2.heap.size := Nat.le_trans Z0 K2_0.1
  have K02 : Keep h0 T2.heap [a1] := (Keep.refl h0 [a1]).trans K2_0 (allS (Or.inl (List.mem_of_getElem? (i := 0) rfl)) all0)
  refine Go.hop st2 ?_
  show Go FrameEnd p e below s 0 0 (Q2 Z a1 q1 u1 h0 n0) (T2.setTop (mkF m 9 #[.val (.ref a1), .val (.long q1), .second] []))
  refine Go.ret0 X2 hx Bd.returns (hb hby d_prog_43_method_1_code_9) (BodyLoose.notSynchronized Bd) rfl (by decide) (by decide) ?_
  exact ⟨rfl, N2, K02, xE2_1, xF2_2⟩
def Q3 (Z : State) (a1 : Addr) (u1 : Int64) (h0 : Heap) (n0 : Nat) (v : Option Value) (h : Heap) (L : List Loc) : Prop := v = some (.int (outL (stepL u1))) ∧ Fr n0 L ∧ (Keep h0 h [a1]) ∧ (Exa Z h a1 "deckmill/Shuffler") ∧ (Fld Z h a1 "deckmill/Shuffler" "state" "J" (.long (stepL u1)))
theorem ef_3 (m : MethodId) (a1 : Addr) : entryFrame m #[(.ref a1)] 1 = mkF m 0 #[.val (.ref a1)] [] := by first | (simp [entryFrame, mkF, argsToLocals, Value.category]; done) | rfl
set_option maxRecDepth 65536 in
set_option maxHeartbeats 40000000 in
theorem rm3 (l : Launch) (Z : State) (a0 : Array Value) (hw : ∀ d ∈ tables_1, d.before a0 Z = true) (ws : List Jvm.Cond) (a1 : Addr) (u1 : Int64) (h0 : Heap) (n0 : Nat) (Z0 : n0 ≤ h0.size) (E_a1 : Exa Z h0 a1 "deckmill/Shuffler") (F_state_a1 : Fld Z h0 a1 "deckmill/Shuffler" "state" "J" (.long u1)) (g_a1 : n0 ≤ a1) :
    MetFree l (⟨"deckmill/Shuffler", "next", "()I"⟩ : MethodName) (head1 (Jvm.Cond.code (⟨"deckmill/Shuffler", "next", "()I"⟩ : MethodName) prog_43_method_5_code 1 (some .int) :: ws) ({ frames := 0, cells := 0, slots := 0, locals := 0 } : Room)) (fun a U => a = #[(.ref a1)] ∧ Z.Warmed39 U.vm ∧ U.heap = h0) (fun _ _ _ _ _ => True) (fun _ U o U' => ∃ v L, o = .returned v ∧ (Q3 Z a1 u1 h0 n0) v U'.heap L ∧ FrameEnd U o U' L 0 0) := by
  refine MetFree.of_bodySF (plainFor_of_name pn_deckmill_Shuffler) hisR ?_
  intro p e s m args below meth c s₁ Bd hml0 hP hK
  obtain ⟨rfl, hZ, hh⟩ := hP
  have hx := Bd.exec
  have hby := Bd.bytes
  have hml : c.maxLocals = 1 := hml0
  have hown : s.vm.findClass "deckmill/Shuffler" = some m.cls := findClass_of_methodNamed Bd.named
  have hnm := (name_of_methodNamed Bd.named Bd.method).1
  have X0 : Stand p l e ({ frames := 0, cells := 0, slots := 0, locals := 0 } : Room) s m #[(.ref a1)] below meth c s₁ [] 0 0 := Stand.of_body Bd
  have e0 : s₁.heap = h0 := by rw [← hh, Bd.state]; rfl
  have N0 := Fr.nil n0
  show Go FrameEnd p e below s 0 0 (Q3 Z a1 u1 h0 n0) _
  refine Go.step (fun _ k => castTop (ef_3 m a1) k) ?_
  show Go FrameEnd p e below s 0 0 (Q3 Z a1 u1 h0 n0) (s₁.setTop (mkF m 0 #[.val (.ref a1)] []))
  refine Go.step (fun _ k => XS.aloadN X0.here hx rfl (hb hby d_prog_43_method_5_code_0) rfl rfl k) ?_
  show Go FrameEnd p e below s 0 0 (Q3 Z a1 u1 h0 n0) (s₁.setTop (mkF m 1 #[.val (.ref a1)] [(.ref a1)]))
  refine Go.step (fun _ k => XS.aloadN X0.here hx rfl (hb hby d_prog_43_method_5_code_1) rfl rfl k) ?_
  show Go FrameEnd p e below s 0 0 (Q3 Z a1 u1 h0 n0) (s₁.setTop (mkF m 2 #[.val (.ref a1)] [(.ref a1), (.ref a1)]))
  obtain ⟨T1, X1, e1, st1⟩ := getF X0 hx hZ hown (host := "") (Or.inl (hw _ (List.mem_of_getElem? (i := 16) rfl))) Via.refl e0 F_state_a1 (g := (mkF m 2 #[.val (.ref a1)] [(.ref a1), (.ref a1)])) rfl rfl (hb hby d_prog_43_method_5_code_2)
  refine Go.step st1 ?_
  show Go FrameEnd p e below s 0 0 (Q3 Z a1 u1 h0 n0) (T1.setTop (mkF m 5 #[.val (.ref a1)] [(.long u1), (.ref a1)]))
  refine Go.step (X1.ldc2Long hx hown (mvT hZ (hw _ (List.mem_of_getElem? (i := 14) rfl))) (g := (mkF m 5 #[.val (.ref a1)] [(.long u1), (.ref a1)])) rfl (hb hby d_prog_43_method_5_code_5)) ?_
  show Go FrameEnd p e below s 0 0 (Q3 Z a1 u1 h0 n0) (T1.setTop (mkF m 8 #[.val (.ref a1)] [(.long (25214903917 : Int64)), (.long u1), (.ref a1)]))
  refine Go.step (fun _ k => XS.lmul X1.here hx rfl (hb hby d_prog_43_method_5_code_8) rfl k) ?_
  show Go FrameEnd p e below s 0 0 (Q3 Z a1 u1 h0 n0) (T1.setTop (mkF m 9 #[.val (.ref a1)] [(.long (u1 * (25214903917 : Int64))), (.ref a1)]))
  refine Go.step (X1.ldc2Long hx hown (mvT hZ (hw _ (List.mem_of_getElem? (i := 27) rfl))) (g := (mkF m 9 #[.val (.ref a1)] [(.long (u1 * (25214903917 : Int64))), (.ref a1)])) rfl (hb hby d_prog_43_method_5_code_9)) ?_
  show Go FrameEnd p e below s 0 0 (Q3 Z a1 u1 h0 n0) (T1.setTop (mkF m 12 #[.val (.ref a1)] [(.long (11 : Int64)), (.long (u1 * (25214903917 : Int64))), (.ref a1)]))
  refine Go.step (fun _ k => XS.ladd X1.here hx rfl (hb hby d_prog_43_method_5_code_12) rfl k) ?_
  show Go FrameEnd p e below s 0 0 (Q3 Z a1 u1 h0 n0) (T1.setTop (mkF m 13 #[.val (.ref a1)] [(.long ((u1 * (25214903917 : Int64)) + (11 : Int64))), (.ref a1)]))
  refine Go.step (X1.ldc2Long hx hown (mvT hZ (hw _ (List.mem_of_getElem? (i := 15) rfl))) (g := (mkF m 13 #[.val (.ref a1)] [(.long ((u1 * (25214903917 : Int64)) + (11 : Int64))), (.ref a1)])) rfl (hb hby d_prog_43_method_5_code_13)) ?_
  show Go FrameEnd p e below s 0 0 (Q3 Z a1 u1 h0 n0) (T1.setTop (mkF m 16 #[.val (.ref a1)] [(.long (281474976710655 : Int64)), (.long ((u1 * (25214903917 : Int64)) + (11 : Int64))), (.ref a1)]))
  refine Go.step (fun _ k => XS.land X1.here hx rfl (hb hby d_prog_43_method_5_code_16) rfl k) ?_
  show Go FrameEnd p e below s 0 0 (Q3 Z a1 u1 h0 n0) (T1.setTop (mkF m 17 #[.val (.ref a1)] [(.long (((u1 * (25214903917 : Int64)) + (11 : Int64)) &&& (281474976710655 : Int64))), (.ref a1)]))
  obtain ⟨T2, h2, X2, e2, W2, st2⟩ := putF X1 hx hZ hown (host := "") (Or.inl (hw _ (List.mem_of_getElem? (i := 16) rfl))) Via.refl e1 F_state_a1 E_a1 (Or.inl (hw _ (List.mem_of_getElem? (i := 17) rfl))) (hw _ (List.mem_of_getElem? (i := 1) rfl)) (ty := .long) (by decide) rfl rfl (g := (mkF m 17 #[.val (.ref a1)] [(.long (((u1 * (25214903917 : Int64)) + (11 : Int64)) &&& (281474976710655 : Int64))), (.ref a1)])) rfl rfl (hb hby d_prog_43_method_5_code_17)
  refine Go.step st2 ?_
  have N2 := Fr.snoc X2 N0 g_a1
  have Z2 : n0 ≤ h2.size := Nat.le_trans Z0 (Keep.of_wr W2).1
  have K02 : Keep h0 h2 [a1] := (Keep.refl h0 [a1]).wr W2 (Or.inl (List.mem_of_getElem? (i := 0) rfl))
  have F2 := F_state_a1.same W2
  show Go FrameEnd p e below s 0 0 (Q3 Z a1 u1 h0 n0) (T2.setTop (mkF m 20 #[.val (.ref a1)] []))
  refine Go.step (fun _ k => XS.aloadN X2.here hx rfl (hb hby d_prog_43_method_5_code_20) rfl rfl k) ?_
  show Go FrameEnd p e below s 0 0 (Q3 Z a1 u1 h0 n0) (T2.setTop (mkF m 21 #[.val (.ref a1)] [(.ref a1)]))
  obtain ⟨T3, X3, e3, st3⟩ := getF X2 hx hZ hown (host := "") (Or.inl (hw _ (List.mem_of_getElem? (i := 16) rfl))) Via.refl e2 F2 (g := (mkF m 21 #[.val (.ref a1)] [(.ref a1)])) rfl rfl (hb hby d_prog_43_method_5_code_21)
  refine Go.step st3 ?_
  show Go FrameEnd p e below s 0 0 (Q3 Z a1 u1 h0 n0) (T3.setTop (mkF m 24 #[.val (.ref a1)] [(.long (((u1 * (25214903917 : Int64)) + (11 : Int64)) &&& (281474976710655 : Int64)))]))
  refine Go.step (fun _ k => XS.bipush X3.here hx rfl (hb hby d_prog_43_method_5_code_24) k) ?_
  show Go FrameEnd p e below s 0 0 (Q3 Z a1 u1 h0 n0) (T3.setTop (mkF m 26 #[.val (.ref a1)] [(.int (17 : Int32)), (.long (((u1 * (25214903917 : Int64)) + (11 : Int64)) &&& (281474976710655 : Int64)))]))
  refine Go.step (fun _ k => XS.lushr X3.here hx rfl (hb hby d_prog_43_method_5_code_26) rfl k) ?_
  show Go FrameEnd p e below s 0 0 (Q3 Z a1 u1 h0 n0) (T3.setTop (mkF m 27 #[.val (.ref a1)] [(.long (ushL (((u1 * (25214903917 : Int64)) + (11 : Int64)) &&& (281474976710655 : Int64)) (17 : Int32)))]))
  refine Go.step (fun _ k => XS.l2i X3.here hx rfl (hb hby d_prog_43_method_5_code_27) rfl k) ?_
  show Go FrameEnd p e below s 0 0 (Q3 Z a1 u1 h0 n0) (T3.setTop (mkF m 28 #[.val (.ref a1)] [(.int (ushL (((u1 * (25214903917 : Int64)) + (11 : Int64)) &&& (281474976710655 : Int64)) (17 : Int32)).toInt32)]))
  refine Go.retI X3 hx Bd.returns (hb hby d_prog_43_method_5_code_28) (BodyLoose.notSynchronized Bd) e3 (by decide) (by decide) ?_
  exact ⟨rfl, N2, K02, (E_a1.wr W2), F2⟩
def Q4 (Z : State) (a1 : Addr) (p1 : Int32) (u1 : Int64) (h0 : Heap) (n0 : Nat) (v : Option Value) (h : Heap) (L : List Loc) : Prop := v = some (.int (nI p1 (stepL u1))) ∧ Fr n0 L ∧ (Keep h0 h [a1]) ∧ (Exa Z h a1 "deckmill/Shuffler") ∧ (Fld Z h a1 "deckmill/Shuffler" "state" "J" (.long (stepL u1)))
theorem ef_4 (m : MethodId) (a1 : Addr) (p1 : Int32) : entryFrame m #[(.ref a1), (.int p1)] 5 = mkF m 0 #[.val (.ref a1), .val (.int p1), .unset, .unset, .unset] [] := by first | (simp [entryFrame, mkF, argsToLocals, Value.category]; done) | rfl
set_option maxRecDepth 65536 in
set_option maxHeartbeats 40000000 in
theorem rm4 (l : Launch) (Z : State) (a0 : Array Value) (hw : ∀ d ∈ tables_1, d.before a0 Z = true) (ws : List Jvm.Cond) (a1 : Addr) (p1 : Int32) (u1 : Int64) (h0 : Heap) (n0 : Nat) (Z0 : n0 ≤ h0.size) (E_a1 : Exa Z h0 a1 "deckmill/Shuffler") (F_state_a1 : Fld Z h0 a1 "deckmill/Shuffler" "state" "J" (.long u1)) (g_a1 : n0 ≤ a1) (hpw : p1 &&& (p1 - (1 : Int32)) = 0) :
    MetFree l (⟨"deckmill/Shuffler", "nextInt", "(I)I"⟩ : MethodName) (head1 (Jvm.Cond.code (⟨"deckmill/Shuffler", "nextInt", "(I)I"⟩ : MethodName) prog_43_method_4_code 5 (some .int) :: ws) ({ frames := 1, cells := 0, slots := 0, locals := 12 } : Room)) (fun a U => a = #[(.ref a1), (.int p1)] ∧ Z.Warmed39 U.vm ∧ U.heap = h0) (fun _ _ _ _ _ => True) (fun _ U o U' => ∃ v L, o = .returned v ∧ (Q4 Z a1 p1 u1 h0 n0) v U'.heap L ∧ FrameEnd U o U' L 0 0) := by
  refine MetFree.of_bodySF (plainFor_of_name pn_deckmill_Shuffler) hisR ?_
  intro p e s m args below meth c s₁ Bd hml0 hP hK
  obtain ⟨rfl, hZ, hh⟩ := hP
  have hx := Bd.exec
  have hby := Bd.bytes
  have hml : c.maxLocals = 5 := hml0
  have hown : s.vm.findClass "deckmill/Shuffler" = some m.cls := findClass_of_methodNamed Bd.named
  have hnm := (name_of_methodNamed Bd.named Bd.method).1
  have X0 : Stand p l e ({ frames := 1, cells := 0, slots := 0, locals := 12 } : Room) s m #[(.ref a1), (.int p1)] below meth c s₁ [] 0 0 := Stand.of_body Bd
  have e0 : s₁.heap = h0 := by rw [← hh, Bd.state]; rfl
  have N0 := Fr.nil n0
  show Go FrameEnd p e below s 0 0 (Q4 Z a1 p1 u1 h0 n0) _
  refine Go.step (fun _ k => castTop (ef_4 m a1 p1) k) ?_
  show Go FrameEnd p e below s 0 0 (Q4 Z a1 p1 u1 h0 n0) (s₁.setTop (mkF m 0 #[.val (.ref a1), .val (.int p1), .unset, .unset, .unset] []))
  refine Go.step (fun _ k => XS.aloadN X0.here hx rfl (hb hby d_prog_43_method_4_code_0) rfl rfl k) ?_
  show Go FrameEnd p e below s 0 0 (Q4 Z a1 p1 u1 h0 n0) (s₁.setTop (mkF m 1 #[.val (.ref a1), .val (.int p1), .unset, .unset, .unset] [(.ref a1)]))
  obtain ⟨cq1, q1, q1'⟩ := E_a1.cell
  obtain ⟨_, _, ⟨T1, L1, k1, n1⟩, -, X1, ⟨Lc1, hQ1, l1, y1, z1⟩, st1⟩ := X0.privateBack hx (y := (⟨"deckmill/Shuffler", "next", "()I"⟩ : MethodName)) hown (mvT hZ (hw _ (List.mem_of_getElem? (i := 23) rfl))) (mvT hZ (hw _ (List.mem_of_getElem? (i := 24) rfl))) (own_self (z := (⟨"deckmill/Shuffler", "seed", "(J)V"⟩ : MethodName)) (mvT hZ (hw _ (List.mem_of_getElem? (i := 12) rfl))) rfl (Cond.privateMethod_at (mvP hZ (hw _ (List.mem_of_getElem? (i := 25) rfl)) (args := #[]))) (mvT hZ (hw _ (List.mem_of_getElem? (i := 24) rfl))) (by decide)) (Cond.privateMethod_at (mvP hZ (hw _ (List.mem_of_getElem? (i := 25) rfl)) (args := #[]))) (mvT hZ (hw _ (List.mem_of_getElem? (i := 26) rfl))) (by decide) (backOf (W := 0) (rm3 l Z a0 hw [] a1 u1 h0 n0 Z0 E_a1 F_state_a1 g_a1) hZ (hw _ (List.mem_of_getElem? (i := 26) rfl)) (hw _ (List.mem_of_getElem? (i := 2) rfl)) (by decide) (by decide)) (g := (mkF m 1 #[.val (.ref a1), .val (.int p1), .unset, .unset, .unset] [(.ref a1)])) rfl (by rw [hml]; rfl) (Steps.refl _) (a := a1) (by rw [e0]; exact q1) q1' (argsL := []) (rest := []) (lenOf pd___I rfl) rfl (by show 2 * 0 + _ ≤ _; exact Nat.le_of_eq rfl) (hb hby d_prog_43_method_4_code_1) (fun _ _ => ⟨rfl, e0, (by decide : 0 + 0 ≤ _), (by decide : 0 + 0 ≤ _)⟩)
  dsimp only [Pt.U, Pt.locs, Pt.cells, Pt.slots] at X1 l1 y1 z1 st1 hQ1
  subst l1 y1 z1
  obtain ⟨rfl, N1q, K1_0, xE1_1, xF1_2⟩ := hQ1
  have N1 := Fr.app N0 N1q
  have Z1 : n0 ≤ T1.heap.size := Nat.le_trans Z0 K1_0.1
  have K01 : Keep h0 T1.heap [a1] := (Keep.refl h0 [a1]).trans K1_0 (allS (Or.inl (List.mem_of_getElem? (i := 0) rfl)) all0)
  refine Go.hop st1 ?_
  show Go FrameEnd p e below s 0 0 (Q4 Z a1 p1 u1 h0 n0) (T1.setTop (mkF m 4 #[.val (.ref a1), .val (.int p1), .unset, .unset, .unset] [(.int (outL (stepL u1)))]))
  refine Go.step (fun _ k => XS.istoreN X1.here hx rfl (hb hby d_prog_43_method_4_code_4) rfl (l' := #[.val (.ref a1), .val (.int p1), .val (.int (outL (stepL u1))), .unset, .unset]) rfl k) ?_
  show Go FrameEnd p e below s 0 0 (Q4 Z a1 p1 u1 h0 n0) (T1.setTop (mkF m 5 #[.val (.ref a1), .val (.int p1), .val (.int (outL (stepL u1))), .unset, .unset] []))
  refine Go.step (fun _ k => XS.iloadN X1.here hx rfl (hb hby d_prog_43_method_4_code_5) rfl k) ?_
  show Go FrameEnd p e below s 0 0 (Q4 Z a1 p1 u1 h0 n0) (T1.setTop (mkF m 6 #[.val (.ref a1), .val (.int p1), .val (.int (outL (stepL u1))), .unset, .unset] [(.int p1)]))
  refine Go.step (fun _ k => XS.iconst X1.here hx rfl (hb hby d_prog_43_method_4_code_6) k) ?_
  show Go FrameEnd p e below s 0 0 (Q4 Z a1 p1 u1 h0 n0) (T1.setTop (mkF m 7 #[.val (.ref a1), .val (.int p1), .val (.int (outL (stepL u1))), .unset, .unset] [(.int (1 : Int32)), (.int p1)]))
  refine Go.step (fun _ k => XS.isub X1.here hx rfl (hb hby d_prog_43_method_4_code_7) rfl k) ?_
  show Go FrameEnd p e below s 0 0 (Q4 Z a1 p1 u1 h0 n0) (T1.setTop (mkF m 8 #[.val (.ref a1), .val (.int p1), .val (.int (outL (stepL u1))), .unset, .unset] [(.int (p1 - (1 : Int32)))]))
  refine Go.step (fun _ k => XS.istoreN X1.here hx rfl (hb hby d_prog_43_method_4_code_8) rfl (l' := #[.val (.ref a1), .val (.int p1), .val (.int (outL (stepL u1))), .val (.int (p1 - (1 : Int32))), .unset]) rfl k) ?_
  show Go FrameEnd p e below s 0 0 (Q4 Z a1 p1 u1 h0 n0) (T1.setTop (mkF m 9 #[.val (.ref a1), .val (.int p1), .val (.int (outL (stepL u1))), .val (.int (p1 - (1 : Int32))), .unset] []))
  refine Go.step (fun _ k => XS.iloadN X1.here hx rfl (hb hby d_prog_43_method_4_code_9) rfl k) ?_
  show Go FrameEnd p e below s 0 0 (Q4 Z a1 p1 u1 h0 n0) (T1.setTop (mkF m 10 #[.val (.ref a1), .val (.int p1), .val (.int (outL (stepL u1))), .val (.int (p1 - (1 : Int32))), .unset] [(.int p1)]))
  refine Go.step (fun _ k => XS.iloadN X1.here hx rfl (hb hby d_prog_43_method_4_code_10) rfl k) ?_
  show Go FrameEnd p e below s 0 0 (Q4 Z a1 p1 u1 h0 n0) (T1.setTop (mkF m 11 #[.val (.ref a1), .val (.int p1), .val (.int (outL (stepL u1))), .val (.int (p1 - (1 : Int32))), .unset] [(.int (p1 - (1 : Int32))), (.int p1)]))
  refine Go.step (fun _ k => XS.iand X1.here hx rfl (hb hby d_prog_43_method_4_code_11) rfl k) ?_
  show Go FrameEnd p e below s 0 0 (Q4 Z a1 p1 u1 h0 n0) (T1.setTop (mkF m 12 #[.val (.ref a1), .val (.int p1), .val (.int (outL (stepL u1))), .val (.int (p1 - (1 : Int32))), .unset] [(.int (p1 &&& (p1 - (1 : Int32))))]))
  refine Go.step (fun _ k => XS.ifNo X1.here hx rfl (hb hby d_prog_43_method_4_code_12) rfl ((if0 _ _).trans (teq hpw).2) k) ?_
  show Go FrameEnd p e below s 0 0 (Q4 Z a1 p1 u1 h0 n0) (T1.setTop (mkF m 15 #[.val (.ref a1), .val (.int p1), .val (.int (outL (stepL u1))), .val (.int (p1 - (1 : Int32))), .unset] []))
  refine Go.step (fun _ k => XS.iloadN X1.here hx rfl (hb hby d_prog_43_method_4_code_15) rfl k) ?_
  show Go FrameEnd p e below s 0 0 (Q4 Z a1 p1 u1 h0 n0) (T1.setTop (mkF m 16 #[.val (.ref a1), .val (.int p1), .val (.int (outL (stepL u1))), .val (.int (p1 - (1 : Int32))), .unset] [(.int p1)]))
  refine Go.step (fun _ k => XS.i2l X1.here hx rfl (hb hby d_prog_43_method_4_code_16) rfl k) ?_
  show Go FrameEnd p e below s 0 0 (Q4 Z a1 p1 u1 h0 n0) (T1.setTop (mkF m 17 #[.val (.ref a1), .val (.int p1), .val (.int (outL (stepL u1))), .val (.int (p1 - (1 : Int32))), .unset] [(.long p1.toInt64)]))
  refine Go.step (fun _ k => XS.iloadN X1.here hx rfl (hb hby d_prog_43_method_4_code_17) rfl k) ?_
  show Go FrameEnd p e below s 0 0 (Q4 Z a1 p1 u1 h0 n0) (T1.setTop (mkF m 18 #[.val (.ref a1), .val (.int p1), .val (.int (outL (stepL u1))), .val (.int (p1 - (1 : Int32))), .unset] [(.int (outL (stepL u1))), (.long p1.toInt64)]))
  refine Go.step (fun _ k => XS.i2l X1.here hx rfl (hb hby d_prog_43_method_4_code_18) rfl k) ?_
  show Go FrameEnd p e below s 0 0 (Q4 Z a1 p1 u1 h0 n0) (T1.setTop (mkF m 19 #[.val (.ref a1), .val (.int p1), .val (.int (outL (stepL u1))), .val (.int (p1 - (1 : Int32))), .unset] [(.long (outL (stepL u1)).toInt64), (.long p1.toInt64)]))
  refine Go.step (fun _ k => XS.lmul X1.here hx rfl (hb hby d_prog_43_method_4_code_19) rfl k) ?_
  show Go FrameEnd p e below s 0 0 (Q4 Z a1 p1 u1 h0 n0) (T1.setTop (mkF m 20 #[.val (.ref a1), .val (.int p1), .val (.int (outL (stepL u1))), .val (.int (p1 - (1 : Int32))), .unset] [(.long (p1.toInt64 * (outL (stepL u1)).toInt64))]))
  refine Go.step (fun _ k => XS.bipush X1.here hx rfl (hb hby d_prog_43_method_4_code_20) k) ?_
  show Go FrameEnd p e below s 0 0 (Q4 Z a1 p1 u1 h0 n0) (T1.setTop (mkF m 22 #[.val (.ref a1), .val (.int p1), .val (.int (outL (stepL u1))), .val (.int (p1 - (1 : Int32))), .unset] [(.int (31 : Int32)), (.long (p1.toInt64 * (outL (stepL u1)).toInt64))]))
  refine Go.step (fun _ k => XS.lshr X1.here hx rfl (hb hby d_prog_43_method_4_code_22) rfl k) ?_
  show Go FrameEnd p e below s 0 0 (Q4 Z a1 p1 u1 h0 n0) (T1.setTop (mkF m 23 #[.val (.ref a1), .val (.int p1), .val (.int (outL (stepL u1))), .val (.int (p1 - (1 : Int32))), .unset] [(.long ((p1.toInt64 * (outL (stepL u1)).toInt64) >>> ((31 : Int32) &&& 0x3f).toInt64))]))
  refine Go.step (fun _ k => XS.l2i X1.here hx rfl (hb hby d_prog_43_method_4_code_23) rfl k) ?_
  show Go FrameEnd p e below s 0 0 (Q4 Z a1 p1 u1 h0 n0) (T1.setTop (mkF m 24 #[.val (.ref a1), .val (.int p1), .val (.int (outL (stepL u1))), .val (.int (p1 - (1 : Int32))), .unset] [(.int ((p1.toInt64 * (outL (stepL u1)).toInt64) >>> ((31 : Int32) &&& 0x3f).toInt64).toInt32)]))
  refine Go.retI X1 hx Bd.returns (hb hby d_prog_43_method_4_code_24) (BodyLoose.notSynchronized Bd) rfl (by decide) (by decide) ?_
  exact ⟨rfl, N1, K01, xE1_1, xF1_2⟩
def Q5 (Z : State) (q1 : Int64) (h0 : Heap) (v : Option Value) (h : Heap) (L : List Loc) : Prop := v = some (.long (stepL q1)) ∧ L = [] ∧ h = h0
theorem ef_5 (m : MethodId) (q1 : Int64) : entryFrame m #[(.long q1)] 2 = mkF m 0 #[.val (.long q1), .second] [] := by first | (simp [entryFrame, mkF, argsToLocals, Value.category]; done) | rfl
set_option maxRecDepth 65536 in
set_option maxHeartbeats 40000000 in
theorem rm5 (l : Launch) (Z : State) (a0 : Array Value) (hw : ∀ d ∈ tables_1, d.before a0 Z = true) (ws : List Jvm.Cond) (q1 : Int64) (h0 : Heap) :
    MetFree l (⟨"deckmill/ShufflerSeedPinLaw", "step", "(J)J"⟩ : MethodName) (head1 (Jvm.Cond.code (⟨"deckmill/ShufflerSeedPinLaw", "step", "(J)J"⟩ : MethodName) method_2_code 2 (some .long) :: ws) ({ frames := 0, cells := 0, slots := 0, locals := 0 } : Room)) (fun a U => a = #[(.long q1)] ∧ Z.Warmed39 U.vm ∧ U.heap = h0) (fun _ _ _ _ _ => True) (fun _ U o U' => ∃ v L, o = .returned v ∧ (Q5 Z q1 h0) v U'.heap L ∧ FrameEnd U o U' L 0 0) := by
  refine MetFree.of_bodySF (plainFor_of_name pn_deckmill_ShufflerSeedPinLaw) hisR ?_
  intro p e s m args below meth c s₁ Bd hml0 hP hK
  obtain ⟨rfl, hZ, hh⟩ := hP
  have hx := Bd.exec
  have hby := Bd.bytes
  have hml : c.maxLocals = 2 := hml0
  have hown : s.vm.findClass "deckmill/ShufflerSeedPinLaw" = some m.cls := findClass_of_methodNamed Bd.named
  have hnm := (name_of_methodNamed Bd.named Bd.method).1
  have X0 : Stand p l e ({ frames := 0, cells := 0, slots := 0, locals := 0 } : Room) s m #[(.long q1)] below meth c s₁ [] 0 0 := Stand.of_body Bd
  have e0 : s₁.heap = h0 := by rw [← hh, Bd.state]; rfl
  show Go FrameEnd p e below s 0 0 (Q5 Z q1 h0) _
  refine Go.step (fun _ k => castTop (ef_5 m q1) k) ?_
  show Go FrameEnd p e below s 0 0 (Q5 Z q1 h0) (s₁.setTop (mkF m 0 #[.val (.long q1), .second] []))
  refine Go.step (fun _ k => XS.lloadN X0.here hx rfl (hb hby d_method_2_code_0) rfl k) ?_
  show Go FrameEnd p e below s 0 0 (Q5 Z q1 h0) (s₁.setTop (mkF m 1 #[.val (.long q1), .second] [(.long q1)]))
  refine Go.step (X0.ldc2Long hx hown (mvT hZ (hw _ (List.mem_of_getElem? (i := 30) rfl))) (g := (mkF m 1 #[.val (.long q1), .second] [(.long q1)])) rfl (hb hby d_method_2_code_1)) ?_
  show Go FrameEnd p e below s 0 0 (Q5 Z q1 h0) (s₁.setTop (mkF m 4 #[.val (.long q1), .second] [(.long (25214903917 : Int64)), (.long q1)]))
  refine Go.step (fun _ k => XS.lmul X0.here hx rfl (hb hby d_method_2_code_4) rfl k) ?_
  show Go FrameEnd p e below s 0 0 (Q5 Z q1 h0) (s₁.setTop (mkF m 5 #[.val (.long q1), .second] [(.long (q1 * (25214903917 : Int64)))]))
  refine Go.step (X0.ldc2Long hx hown (mvT hZ (hw _ (List.mem_of_getElem? (i := 36) rfl))) (g := (mkF m 5 #[.val (.long q1), .second] [(.long (q1 * (25214903917 : Int64)))])) rfl (hb hby d_method_2_code_5)) ?_
  show Go FrameEnd p e below s 0 0 (Q5 Z q1 h0) (s₁.setTop (mkF m 8 #[.val (.long q1), .second] [(.long (11 : Int64)), (.long (q1 * (25214903917 : Int64)))]))
  refine Go.step (fun _ k => XS.ladd X0.here hx rfl (hb hby d_method_2_code_8) rfl k) ?_
  show Go FrameEnd p e below s 0 0 (Q5 Z q1 h0) (s₁.setTop (mkF m 9 #[.val (.long q1), .second] [(.long ((q1 * (25214903917 : Int64)) + (11 : Int64)))]))
  refine Go.step (X0.ldc2Long hx hown (mvT hZ (hw _ (List.mem_of_getElem? (i := 31) rfl))) (g := (mkF m 9 #[.val (.long q1), .second] [(.long ((q1 * (25214903917 : Int64)) + (11 : Int64)))])) rfl (hb hby d_method_2_code_9)) ?_
  show Go FrameEnd p e below s 0 0 (Q5 Z q1 h0) (s₁.setTop (mkF m 12 #[.val (.long q1), .second] [(.long (281474976710655 : Int64)), (.long ((q1 * (25214903917 : Int64)) + (11 : Int64)))]))
  refine Go.step (fun _ k => XS.land X0.here hx rfl (hb hby d_method_2_code_12) rfl k) ?_
  show Go FrameEnd p e below s 0 0 (Q5 Z q1 h0) (s₁.setTop (mkF m 13 #[.val (.long q1), .second] [(.long (((q1 * (25214903917 : Int64)) + (11 : Int64)) &&& (281474976710655 : Int64)))]))
  refine Go.retJ X0 hx Bd.returns (hb hby d_method_2_code_13) (BodyLoose.notSynchronized Bd) e0 (by decide) (by decide) ?_
  exact ⟨rfl, rfl, rfl⟩
def Q0 (Z : State) (q1 : Int64) (q2 : Int64) (p4 : Int32) (h0 : Heap) (n0 : Nat) (v : Option Value) (h : Heap) (L : List Loc) : Prop := v = some (.int 1) ∧ Fr n0 L
theorem ef_0 (m : MethodId) (q1 : Int64) (q2 : Int64) (p4 : Int32) : entryFrame m #[(.long q1), (.long q2), (.int p4)] maxLocals = mkF m 0 #[.val (.long q1), .second, .val (.long q2), .second, .val (.int p4), .unset, .unset, .unset, .unset, .unset, .unset, .unset, .unset, .unset, .unset, .unset] [] := by first | (simp [entryFrame, mkF, argsToLocals, Value.category, maxLocals]; done) | rfl
set_option maxRecDepth 65536 in
set_option maxHeartbeats 40000000 in
theorem rm0 (l : Launch) (Z : State) (a0 : Array Value) (hw : ∀ d ∈ tables_1, d.before a0 Z = true) (ws : List Jvm.Cond) (q1 : Int64) (q2 : Int64) (p4 : Int32) (h0 : Heap) (n0 : Nat) (Z0 : n0 ≤ h0.size) :
    MetFree l x (head1 (Jvm.Cond.code x code maxLocals ret :: ws) room_1) (fun a U => a = #[(.long q1), (.long q2), (.int p4)] ∧ Z.Warmed39 U.vm ∧ U.heap = h0) (fun _ _ _ _ _ => True) (fun _ U o U' => ∃ v L, o = .returned v ∧ (Q0 Z q1 q2 p4 h0 n0) v U'.heap L ∧ FrameEnd U o U' L 16 128) := by
  refine MetFree.of_bodySF (plainFor_of_name pn_deckmill_ShufflerSeedPinLaw) hisR ?_
  intro p e s m args below meth c s₁ Bd hml0 hP hK
  obtain ⟨rfl, hZ, hh⟩ := hP
  have hx := Bd.exec
  have hby := Bd.bytes
  have hml : c.maxLocals = 16 := hml0
  have hown : s.vm.findClass "deckmill/ShufflerSeedPinLaw" = some m.cls := findClass_of_methodNamed Bd.named
  have hnm := (name_of_methodNamed Bd.named Bd.method).1
  have X0 : Stand p l e room_1 s m #[(.long q1), (.long q2), (.int p4)] below meth c s₁ [] 0 0 := Stand.of_body Bd
  have e0 : s₁.heap = h0 := by rw [← hh, Bd.state]; rfl
  have N0 := Fr.nil n0
  show Go FrameEnd p e below s 16 128 (Q0 Z q1 q2 p4 h0 n0) _
  refine Go.step (fun _ k => castTop (ef_0 m q1 q2 p4) k) ?_
  show Go FrameEnd p e below s 16 128 (Q0 Z q1 q2 p4 h0 n0) (s₁.setTop (mkF m 0 #[.val (.long q1), .second, .val (.long q2), .second, .val (.int p4), .unset, .unset, .unset, .unset, .unset, .unset, .unset, .unset, .unset, .unset, .unset] []))
  obtain ⟨T1, h1, X1, e1, E1, A1, D1, -, st1⟩ := newO X0 hx hZ hown (hw _ (List.mem_of_getElem? (i := 0) rfl)) (hw _ (List.mem_of_getElem? (i := 1) rfl)) (hw _ (List.mem_of_getElem? (i := 2) rfl)) e0 (g := (mkF m 0 #[.val (.long q1), .second, .val (.long q2), .second, .val (.int p4), .unset, .unset, .unset, .unset, .unset, .unset, .unset, .unset, .unset, .unset, .unset] [])) rfl (hb hby at_0) (by decide) (by decide)
  refine Go.step st1 ?_
  obtain ⟨b1, g1⟩ : ∃ z, z = h0.size := ⟨_, rfl⟩
  rw [← g1] at A1 D1 ⊢
  have g_b1 : n0 ≤ b1 := Nat.le_trans Z0 (Nat.le_of_eq g1.symm)
  have Z1 : n0 ≤ h1.size := Nat.le_trans Z0 E1.1
  have F1_state : Fld Z h1 b1 "deckmill/Shuffler" "state" "J" (.long (0 : Int64)) := D1 (Or.inl (hw _ (List.mem_of_getElem? (i := 17) rfl))) (ty := .long) (by decide)
  show Go FrameEnd p e below s 16 128 (Q0 Z q1 q2 p4 h0 n0) (T1.setTop (mkF m 3 #[.val (.long q1), .second, .val (.long q2), .second, .val (.int p4), .unset, .unset, .unset, .unset, .unset, .unset, .unset, .unset, .unset, .unset, .unset] [(.ref b1)]))
  refine Go.step (fun _ k => XS.dup X1.here hx rfl (hb hby at_3) rfl rfl k) ?_
  show Go FrameEnd p e below s 16 128 (Q0 Z q1 q2 p4 h0 n0) (T1.setTop (mkF m 4 #[.val (.long q1), .second, .val (.long q2), .second, .val (.int p4), .unset, .unset, .unset, .unset, .unset, .unset, .unset, .unset, .unset, .unset, .unset] [(.ref b1), (.ref b1)]))
  refine Go.step (fun _ k => XS.lloadN X1.here hx rfl (hb hby at_4) rfl k) ?_
  show Go FrameEnd p e below s 16 128 (Q0 Z q1 q2 p4 h0 n0) (T1.setTop (mkF m 5 #[.val (.long q1), .second, .val (.long q2), .second, .val (.int p4), .unset, .unset, .unset, .unset, .unset, .unset, .unset, .unset, .unset, .unset, .unset] [(.long q1), (.ref b1), (.ref b1)]))
  obtain ⟨_, _, ⟨T2, L2, k2, n2⟩, -, X2, ⟨Lc2, hQ2, l2, y2, z2⟩, st2⟩ := X1.specialBack hx (y := (⟨"deckmill/Shuffler", "<init>", "(J)V"⟩ : MethodName)) rfl hown (mvT hZ (hw _ (List.mem_of_getElem? (i := 3) rfl))) (mvT hZ (hw _ (List.mem_of_getElem? (i := 4) rfl))) (mvT hZ (hw _ (List.mem_of_getElem? (i := 5) rfl))) (by decide) (backOf (W := 1) (rm2 l Z a0 hw [] b1 q1 (0 : Int64) h1 n0 Z1 A1 F1_state g_b1) hZ (hw _ (List.mem_of_getElem? (i := 5) rfl)) (hw _ (List.mem_of_getElem? (i := 2) rfl)) (by decide) (by decide)) (g := (mkF m 5 #[.val (.long q1), .second, .val (.long q2), .second, .val (.int p4), .unset, .unset, .unset, .unset, .unset, .unset, .unset, .unset, .unset, .unset, .unset] [(.long q1), (.ref b1), (.ref b1)])) rfl (by rw [hml]; rfl) (Steps.refl _) (a := b1) (argsL := [(.long q1)]) (rest := [(.ref b1)]) (lenOf pd__J_V rfl) rfl (by show 2 * 0 + _ ≤ _; exact Nat.le_of_eq rfl) (hb hby at_5) (fun _ _ => ⟨rfl, e1, (by decide : 1 + 0 ≤ _), (by decide : 1 + 0 ≤ _)⟩)
  dsimp only [Pt.U, Pt.locs, Pt.cells, Pt.slots] at X2 l2 y2 z2 st2 hQ2
  subst l2 y2 z2
  obtain ⟨rfl, N2q, K2_0, xE2_1, xF2_2⟩ := hQ2
  have N2 := Fr.app N0 N2q
  have Z2 : n0 ≤ T2.heap.size := Nat.le_trans Z1 K2_0.1
  refine Go.hop st2 ?_
  show Go FrameEnd p e below s 16 128 (Q0 Z q1 q2 p4 h0 n0) (T2.setTop (mkF m 8 #[.val (.long q1), .second, .val (.long q2), .second, .val (.int p4), .unset, .unset, .unset, .unset, .unset, .unset, .unset, .unset, .unset, .unset, .unset] [(.ref b1)]))
  refine Go.step (fun _ k => XS.astore X2.here hx rfl (hb hby at_8) rfl rfl (l' := #[.val (.long q1), .second, .val (.long q2), .second, .val (.int p4), .val (.ref b1), .unset, .unset, .unset, .unset, .unset, .unset, .unset, .unset, .unset, .unset]) rfl k) ?_
  show Go FrameEnd p e below s 16 128 (Q0 Z q1 q2 p4 h0 n0) (T2.setTop (mkF m 10 #[.val (.long q1), .second, .val (.long q2), .second, .val (.int p4), .val (.ref b1), .unset, .unset, .unset, .unset, .unset, .unset, .unset, .unset, .unset, .unset] []))
  refine Go.step (fun _ k => XS.aload X2.here hx rfl (hb hby at_10) rfl rfl k) ?_
  show Go FrameEnd p e below s 16 128 (Q0 Z q1 q2 p4 h0 n0) (T2.setTop (mkF m 12 #[.val (.long q1), .second, .val (.long q2), .second, .val (.int p4), .val (.ref b1), .unset, .unset, .unset, .unset, .unset, .unset, .unset, .unset, .unset, .unset] [(.ref b1)]))
  refine Go.step (fun _ k => XS.iconst X2.here hx rfl (hb hby at_12) k) ?_
  show Go FrameEnd p e below s 16 128 (Q0 Z q1 q2 p4 h0 n0) (T2.setTop (mkF m 13 #[.val (.long q1), .second, .val (.long q2), .second, .val (.int p4), .val (.ref b1), .unset, .unset, .unset, .unset, .unset, .unset, .unset, .unset, .unset, .unset] [(.int (1 : Int32)), (.ref b1)]))
  refine Go.step (fun _ k => XS.iload X2.here hx rfl (hb hby at_13) rfl k) ?_
  show Go FrameEnd p e below s 16 128 (Q0 Z q1 q2 p4 h0 n0) (T2.setTop (mkF m 15 #[.val (.long q1), .second, .val (.long q2), .second, .val (.int p4), .val (.ref b1), .unset, .unset, .unset, .unset, .unset, .unset, .unset, .unset, .unset, .unset] [(.int p4), (.int (1 : Int32)), (.ref b1)]))
  refine Go.step (fun _ k => XS.bipush X2.here hx rfl (hb hby at_15) k) ?_
  show Go FrameEnd p e below s 16 128 (Q0 Z q1 q2 p4 h0 n0) (T2.setTop (mkF m 17 #[.val (.long q1), .second, .val (.long q2), .second, .val (.int p4), .val (.ref b1), .unset, .unset, .unset, .unset, .unset, .unset, .unset, .unset, .unset, .unset] [(.int (30 : Int32)), (.int p4), (.int (1 : Int32)), (.ref b1)]))
  refine Go.step (fun _ k => XS.iand X2.here hx rfl (hb hby at_17) rfl k) ?_
  show Go FrameEnd p e below s 16 128 (Q0 Z q1 q2 p4 h0 n0) (T2.setTop (mkF m 18 #[.val (.long q1), .second, .val (.long q2), .second, .val (.int p4), .val (.ref b1), .unset, .unset, .unset, .unset, .unset, .unset, .unset, .unset, .unset, .unset] [(.int (p4 &&& (30 : Int32))), (.int (1 : Int32)), (.ref b1)]))
  refine Go.step (fun _ k => XS.ishl X2.here hx rfl (hb hby at_18) rfl k) ?_
  show Go FrameEnd p e below s 16 128 (Q0 Z q1 q2 p4 h0 n0) (T2.setTop (mkF m 19 #[.val (.long q1), .second, .val (.long q2), .second, .val (.int p4), .val (.ref b1), .unset, .unset, .unset, .unset, .unset, .unset, .unset, .unset, .unset, .unset] [(.int ((1 : Int32) <<< ((p4 &&& (30 : Int32)) &&& 31))), (.ref b1)]))
  obtain ⟨cq3, kq3, q3a, q3b, q3c⟩ := isOf hZ rfl xE2_1
  obtain ⟨_, _, ⟨T3, L3, k3, n3⟩, -, X3, ⟨Lc3, hQ3, l3, y3, z3⟩, st3⟩ := X2.virtualBack hx (y := (⟨"deckmill/Shuffler", "nextInt", "(I)I"⟩ : MethodName)) (z := (⟨"deckmill/Shuffler", "nextInt", "(I)I"⟩ : MethodName)) hown (mvT hZ (hw _ (List.mem_of_getElem? (i := 18) rfl))) (mvT hZ (hw _ (List.mem_of_getElem? (i := 19) rfl))) (notFace_of_selects (args := #[]) (mvT hZ (hw _ (List.mem_of_getElem? (i := 21) rfl)))) (mvT hZ (hw _ (List.mem_of_getElem? (i := 21) rfl))) (mvT hZ (hw _ (List.mem_of_getElem? (i := 20) rfl))) (by decide) (backOf (W := 0) (rm4 l Z a0 hw [] b1 ((1 : Int32) <<< ((p4 &&& (30 : Int32)) &&& 31)) (seedL q1) T2.heap n0 Z2 xE2_1 xF2_2 g_b1 (own_pow p4)) hZ (hw _ (List.mem_of_getElem? (i := 22) rfl)) (hw _ (List.mem_of_getElem? (i := 2) rfl)) (by decide) (by decide)) q3a q3c (g := (mkF m 19 #[.val (.long q1), .second, .val (.long q2), .second, .val (.int p4), .val (.ref b1), .unset, .unset, .unset, .unset, .unset, .unset, .unset, .unset, .unset, .unset] [(.int ((1 : Int32) <<< ((p4 &&& (30 : Int32)) &&& 31))), (.ref b1)])) rfl (by rw [hml]; rfl) (Steps.refl _) (argsL := [(.int ((1 : Int32) <<< ((p4 &&& (30 : Int32)) &&& 31)))]) (rest := []) (lenOf pd__I_I rfl) rfl (by show 2 * 0 + _ ≤ _; exact Nat.le_of_eq rfl) (hb hby at_19) (fun _ _ => ⟨rfl, rfl, (by decide : 1 + 0 ≤ _), (by decide : 1 + 0 ≤ _)⟩)
  dsimp only [Pt.U, Pt.locs, Pt.cells, Pt.slots] at X3 l3 y3 z3 st3 hQ3
  subst l3 y3 z3
  obtain ⟨rfl, N3q, K3_0, xE3_1, xF3_2⟩ := hQ3
  have N3 := Fr.app N2 N3q
  have Z3 : n0 ≤ T3.heap.size := Nat.le_trans Z2 K3_0.1
  refine Go.hop st3 ?_
  show Go FrameEnd p e below s 16 128 (Q0 Z q1 q2 p4 h0 n0) (T3.setTop (mkF m 22 #[.val (.long q1), .second, .val (.long q2), .second, .val (.int p4), .val (.ref b1), .unset, .unset, .unset, .unset, .unset, .unset, .unset, .unset, .unset, .unset] [(.int (nI ((1 : Int32) <<< ((p4 &&& (30 : Int32)) &&& 31)) (stepL (seedL q1))))]))
  refine Go.step (fun _ k => XS.pop X3.here hx rfl (hb hby at_22) rfl rfl k) ?_
  show Go FrameEnd p e below s 16 128 (Q0 Z q1 q2 p4 h0 n0) (T3.setTop (mkF m 23 #[.val (.long q1), .second, .val (.long q2), .second, .val (.int p4), .val (.ref b1), .unset, .unset, .unset, .unset, .unset, .unset, .unset, .unset, .unset, .unset] []))
  refine Go.step (fun _ k => XS.aload X3.here hx rfl (hb hby at_23) rfl rfl k) ?_
  show Go FrameEnd p e below s 16 128 (Q0 Z q1 q2 p4 h0 n0) (T3.setTop (mkF m 25 #[.val (.long q1), .second, .val (.long q2), .second, .val (.int p4), .val (.ref b1), .unset, .unset, .unset, .unset, .unset, .unset, .unset, .unset, .unset, .unset] [(.ref b1)]))
  refine Go.step (fun _ k => XS.lloadN X3.here hx rfl (hb hby at_25) rfl k) ?_
  show Go FrameEnd p e below s 16 128 (Q0 Z q1 q2 p4 h0 n0) (T3.setTop (mkF m 26 #[.val (.long q1), .second, .val (.long q2), .second, .val (.int p4), .val (.ref b1), .unset, .unset, .unset, .unset, .unset, .unset, .unset, .unset, .unset, .unset] [(.long q2), (.ref b1)]))
  obtain ⟨cq4, kq4, q4a, q4b, q4c⟩ := isOf hZ rfl xE3_1
  obtain ⟨_, _, ⟨T4, L4, k4, n4⟩, -, X4, ⟨Lc4, hQ4, l4, y4, z4⟩, st4⟩ := X3.virtualBack hx (y := (⟨"deckmill/Shuffler", "seed", "(J)V"⟩ : MethodName)) (z := (⟨"deckmill/Shuffler", "seed", "(J)V"⟩ : MethodName)) hown (mvT hZ (hw _ (List.mem_of_getElem? (i := 28) rfl))) (mvT hZ (hw _ (List.mem_of_getElem? (i := 10) rfl))) (notFace_of_selects (args := #[]) (mvT hZ (hw _ (List.mem_of_getElem? (i := 12) rfl)))) (mvT hZ (hw _ (List.mem_of_getElem? (i := 12) rfl))) (mvT hZ (hw _ (List.mem_of_getElem? (i := 11) rfl))) (by decide) (backOf (W := 0) (rm1 l Z a0 hw [] b1 q2 (stepL (seedL q1)) T3.heap n0 Z3 xE3_1 xF3_2 g_b1) hZ (hw _ (List.mem_of_getElem? (i := 13) rfl)) (hw _ (List.mem_of_getElem? (i := 2) rfl)) (by decide) (by decide)) q4a q4c (g := (mkF m 26 #[.val (.long q1), .second, .val (.long q2), .second, .val (.int p4), .val (.ref b1), .unset, .unset, .unset, .unset, .unset, .unset, .unset, .unset, .unset, .unset] [(.long q2), (.ref b1)])) rfl (by rw [hml]; rfl) (Steps.refl _) (argsL := [(.long q2)]) (rest := []) (lenOf pd__J_V rfl) rfl (by show 2 * 0 + _ ≤ _; exact Nat.le_of_eq rfl) (hb hby at_26) (fun _ _ => ⟨rfl, rfl, (by decide : 1 + 0 ≤ _), (by decide : 1 + 0 ≤ _)⟩)
  dsimp only [Pt.U, Pt.locs, Pt.cells, Pt.slots] at X4 l4 y4 z4 st4 hQ4
  subst l4 y4 z4
  obtain ⟨rfl, N4q, K4_0, xE4_1, xF4_2⟩ := hQ4
  have N4 := Fr.app N3 N4q
  have Z4 : n0 ≤ T4.heap.size := Nat.le_trans Z3 K4_0.1
  refine Go.hop st4 ?_
  show Go FrameEnd p e below s 16 128 (Q0 Z q1 q2 p4 h0 n0) (T4.setTop (mkF m 29 #[.val (.long q1), .second, .val (.long q2), .second, .val (.int p4), .val (.ref b1), .unset, .unset, .unset, .unset, .unset, .unset, .unset, .unset, .unset, .unset] []))
  refine Go.step (fun _ k => XS.aload X4.here hx rfl (hb hby at_29) rfl rfl k) ?_
  show Go FrameEnd p e below s 16 128 (Q0 Z q1 q2 p4 h0 n0) (T4.setTop (mkF m 31 #[.val (.long q1), .second, .val (.long q2), .second, .val (.int p4), .val (.ref b1), .unset, .unset, .unset, .unset, .unset, .unset, .unset, .unset, .unset, .unset] [(.ref b1)]))
  refine Go.step (X4.ldcInt hx hown (mvT hZ (hw _ (List.mem_of_getElem? (i := 29) rfl))) (g := (mkF m 31 #[.val (.long q1), .second, .val (.long q2), .second, .val (.int p4), .val (.ref b1), .unset, .unset, .unset, .unset, .unset, .unset, .unset, .unset, .unset, .unset] [(.ref b1)])) rfl (hb hby at_31)) ?_
  show Go FrameEnd p e below s 16 128 (Q0 Z q1 q2 p4 h0 n0) (T4.setTop (mkF m 33 #[.val (.long q1), .second, .val (.long q2), .second, .val (.int p4), .val (.ref b1), .unset, .unset, .unset, .unset, .unset, .unset, .unset, .unset, .unset, .unset] [(.int (1073741824 : Int32)), (.ref b1)]))
  obtain ⟨cq5, kq5, q5a, q5b, q5c⟩ := isOf hZ rfl xE4_1
  obtain ⟨_, _, ⟨T5, L5, k5, n5⟩, -, X5, ⟨Lc5, hQ5, l5, y5, z5⟩, st5⟩ := X4.virtualBack hx (y := (⟨"deckmill/Shuffler", "nextInt", "(I)I"⟩ : MethodName)) (z := (⟨"deckmill/Shuffler", "nextInt", "(I)I"⟩ : MethodName)) hown (mvT hZ (hw _ (List.mem_of_getElem? (i := 18) rfl))) (mvT hZ (hw _ (List.mem_of_getElem? (i := 19) rfl))) (notFace_of_selects (args := #[]) (mvT hZ (hw _ (List.mem_of_getElem? (i := 21) rfl)))) (mvT hZ (hw _ (List.mem_of_getElem? (i := 21) rfl))) (mvT hZ (hw _ (List.mem_of_getElem? (i := 20) rfl))) (by decide) (backOf (W := 0) (rm4 l Z a0 hw [] b1 (1073741824 : Int32) (seedL q2) T4.heap n0 Z4 xE4_1 xF4_2 g_b1 (by decide)) hZ (hw _ (List.mem_of_getElem? (i := 22) rfl)) (hw _ (List.mem_of_getElem? (i := 2) rfl)) (by decide) (by decide)) q5a q5c (g := (mkF m 33 #[.val (.long q1), .second, .val (.long q2), .second, .val (.int p4), .val (.ref b1), .unset, .unset, .unset, .unset, .unset, .unset, .unset, .unset, .unset, .unset] [(.int (1073741824 : Int32)), (.ref b1)])) rfl (by rw [hml]; rfl) (Steps.refl _) (argsL := [(.int (1073741824 : Int32))]) (rest := []) (lenOf pd__I_I rfl) rfl (by show 2 * 0 + _ ≤ _; exact Nat.le_of_eq rfl) (hb hby at_33) (fun _ _ => ⟨rfl, rfl, (by decide : 1 + 0 ≤ _), (by decide : 1 + 0 ≤ _)⟩)
  dsimp only [Pt.U, Pt.locs, Pt.cells, Pt.slots] at X5 l5 y5 z5 st5 hQ5
  subst l5 y5 z5
  obtain ⟨rfl, N5q, K5_0, xE5_1, xF5_2⟩ := hQ5
  have N5 := Fr.app N4 N5q
  have Z5 : n0 ≤ T5.heap.size := Nat.le_trans Z4 K5_0.1
  refine Go.hop st5 ?_
  show Go FrameEnd p e below s 16 128 (Q0 Z q1 q2 p4 h0 n0) (T5.setTop (mkF m 36 #[.val (.long q1), .second, .val (.long q2), .second, .val (.int p4), .val (.ref b1), .unset, .unset, .unset, .unset, .unset, .unset, .unset, .unset, .unset, .unset] [(.int (nI (1073741824 : Int32) (stepL (seedL q2))))]))
  refine Go.step (fun _ k => XS.istore X5.here hx rfl (hb hby at_36) rfl (l' := #[.val (.long q1), .second, .val (.long q2), .second, .val (.int p4), .val (.ref b1), .val (.int (nI (1073741824 : Int32) (stepL (seedL q2)))), .unset, .unset, .unset, .unset, .unset, .unset, .unset, .unset, .unset]) rfl k) ?_
  show Go FrameEnd p e below s 16 128 (Q0 Z q1 q2 p4 h0 n0) (T5.setTop (mkF m 38 #[.val (.long q1), .second, .val (.long q2), .second, .val (.int p4), .val (.ref b1), .val (.int (nI (1073741824 : Int32) (stepL (seedL q2)))), .unset, .unset, .unset, .unset, .unset, .unset, .unset, .unset, .unset] []))
  refine Go.step (fun _ k => XS.aload X5.here hx rfl (hb hby at_38) rfl rfl k) ?_
  show Go FrameEnd p e below s 16 128 (Q0 Z q1 q2 p4 h0 n0) (T5.setTop (mkF m 40 #[.val (.long q1), .second, .val (.long q2), .second, .val (.int p4), .val (.ref b1), .val (.int (nI (1073741824 : Int32) (stepL (seedL q2)))), .unset, .unset, .unset, .unset, .unset, .unset, .unset, .unset, .unset] [(.ref b1)]))
  refine Go.step (X5.ldcInt hx hown (mvT hZ (hw _ (List.mem_of_getElem? (i := 29) rfl))) (g := (mkF m 40 #[.val (.long q1), .second, .val (.long q2), .second, .val (.int p4), .val (.ref b1), .val (.int (nI (1073741824 : Int32) (stepL (seedL q2)))), .unset, .unset, .unset, .unset, .unset, .unset, .unset, .unset, .unset] [(.ref b1)])) rfl (hb hby at_40)) ?_
  show Go FrameEnd p e below s 16 128 (Q0 Z q1 q2 p4 h0 n0) (T5.setTop (mkF m 42 #[.val (.long q1), .second, .val (.long q2), .second, .val (.int p4), .val (.ref b1), .val (.int (nI (1073741824 : Int32) (stepL (seedL q2)))), .unset, .unset, .unset, .unset, .unset, .unset, .unset, .unset, .unset] [(.int (1073741824 : Int32)), (.ref b1)]))
  obtain ⟨cq6, kq6, q6a, q6b, q6c⟩ := isOf hZ rfl xE5_1
  obtain ⟨_, _, ⟨T6, L6, k6, n6⟩, -, X6, ⟨Lc6, hQ6, l6, y6, z6⟩, st6⟩ := X5.virtualBack hx (y := (⟨"deckmill/Shuffler", "nextInt", "(I)I"⟩ : MethodName)) (z := (⟨"deckmill/Shuffler", "nextInt", "(I)I"⟩ : MethodName)) hown (mvT hZ (hw _ (List.mem_of_getElem? (i := 18) rfl))) (mvT hZ (hw _ (List.mem_of_getElem? (i := 19) rfl))) (notFace_of_selects (args := #[]) (mvT hZ (hw _ (List.mem_of_getElem? (i := 21) rfl)))) (mvT hZ (hw _ (List.mem_of_getElem? (i := 21) rfl))) (mvT hZ (hw _ (List.mem_of_getElem? (i := 20) rfl))) (by decide) (backOf (W := 0) (rm4 l Z a0 hw [] b1 (1073741824 : Int32) (stepL (seedL q2)) T5.heap n0 Z5 xE5_1 xF5_2 g_b1 (by decide)) hZ (hw _ (List.mem_of_getElem? (i := 22) rfl)) (hw _ (List.mem_of_getElem? (i := 2) rfl)) (by decide) (by decide)) q6a q6c (g := (mkF m 42 #[.val (.long q1), .second, .val (.long q2), .second, .val (.int p4), .val (.ref b1), .val (.int (nI (1073741824 : Int32) (stepL (seedL q2)))), .unset, .unset, .unset, .unset, .unset, .unset, .unset, .unset, .unset] [(.int (1073741824 : Int32)), (.ref b1)])) rfl (by rw [hml]; rfl) (Steps.refl _) (argsL := [(.int (1073741824 : Int32))]) (rest := []) (lenOf pd__I_I rfl) rfl (by show 2 * 0 + _ ≤ _; exact Nat.le_of_eq rfl) (hb hby at_42) (fun _ _ => ⟨rfl, rfl, (by decide : 1 + 0 ≤ _), (by decide : 1 + 0 ≤ _)⟩)
  dsimp only [Pt.U, Pt.locs, Pt.cells, Pt.slots] at X6 l6 y6 z6 st6 hQ6
  subst l6 y6 z6
  obtain ⟨rfl, N6q, K6_0, xE6_1, xF6_2⟩ := hQ6
  have N6 := Fr.app N5 N6q
  have Z6 : n0 ≤ T6.heap.size := Nat.le_trans Z5 K6_0.1
  refine Go.hop st6 ?_
  show Go FrameEnd p e below s 16 128 (Q0 Z q1 q2 p4 h0 n0) (T6.setTop (mkF m 45 #[.val (.long q1), .second, .val (.long q2), .second, .val (.int p4), .val (.ref b1), .val (.int (nI (1073741824 : Int32) (stepL (seedL q2)))), .unset, .unset, .unset, .unset, .unset, .unset, .unset, .unset, .unset] [(.int (nI (1073741824 : Int32) (stepL (stepL (seedL q2)))))]))
  refine Go.step (fun _ k => XS.istore X6.here hx rfl (hb hby at_45) rfl (l' := #[.val (.long q1), .second, .val (.long q2), .second, .val (.int p4), .val (.ref b1), .val (.int (nI (1073741824 : Int32) (stepL (seedL q2)))), .val (.int (nI (1073741824 : Int32) (stepL (stepL (seedL q2))))), .unset, .unset, .unset, .unset, .unset, .unset, .unset, .unset]) rfl k) ?_
  show Go FrameEnd p e below s 16 128 (Q0 Z q1 q2 p4 h0 n0) (T6.setTop (mkF m 47 #[.val (.long q1), .second, .val (.long q2), .second, .val (.int p4), .val (.ref b1), .val (.int (nI (1073741824 : Int32) (stepL (seedL q2)))), .val (.int (nI (1073741824 : Int32) (stepL (stepL (seedL q2))))), .unset, .unset, .unset, .unset, .unset, .unset, .unset, .unset] []))
  refine Go.step (fun _ k => XS.lloadN X6.here hx rfl (hb hby at_47) rfl k) ?_
  show Go FrameEnd p e below s 16 128 (Q0 Z q1 q2 p4 h0 n0) (T6.setTop (mkF m 48 #[.val (.long q1), .second, .val (.long q2), .second, .val (.int p4), .val (.ref b1), .val (.int (nI (1073741824 : Int32) (stepL (seedL q2)))), .val (.int (nI (1073741824 : Int32) (stepL (stepL (seedL q2))))), .unset, .unset, .unset, .unset, .unset, .unset, .unset, .unset] [(.long q2)]))
  refine Go.step (X6.ldc2Long hx hown (mvT hZ (hw _ (List.mem_of_getElem? (i := 30) rfl))) (g := (mkF m 48 #[.val (.long q1), .second, .val (.long q2), .second, .val (.int p4), .val (.ref b1), .val (.int (nI (1073741824 : Int32) (stepL (seedL q2)))), .val (.int (nI (1073741824 : Int32) (stepL (stepL (seedL q2))))), .unset, .unset, .unset, .unset, .unset, .unset, .unset, .unset] [(.long q2)])) rfl (hb hby at_48)) ?_
  show Go FrameEnd p e below s 16 128 (Q0 Z q1 q2 p4 h0 n0) (T6.setTop (mkF m 51 #[.val (.long q1), .second, .val (.long q2), .second, .val (.int p4), .val (.ref b1), .val (.int (nI (1073741824 : Int32) (stepL (seedL q2)))), .val (.int (nI (1073741824 : Int32) (stepL (stepL (seedL q2))))), .unset, .unset, .unset, .unset, .unset, .unset, .unset, .unset] [(.long (25214903917 : Int64)), (.long q2)]))
  refine Go.step (fun _ k => XS.lxor X6.here hx rfl (hb hby at_51) rfl k) ?_
  show Go FrameEnd p e below s 16 128 (Q0 Z q1 q2 p4 h0 n0) (T6.setTop (mkF m 52 #[.val (.long q1), .second, .val (.long q2), .second, .val (.int p4), .val (.ref b1), .val (.int (nI (1073741824 : Int32) (stepL (seedL q2)))), .val (.int (nI (1073741824 : Int32) (stepL (stepL (seedL q2))))), .unset, .unset, .unset, .unset, .unset, .unset, .unset, .unset] [(.long (q2 ^^^ (25214903917 : Int64)))]))
  refine Go.step (X6.ldc2Long hx hown (mvT hZ (hw _ (List.mem_of_getElem? (i := 31) rfl))) (g := (mkF m 52 #[.val (.long q1), .second, .val (.long q2), .second, .val (.int p4), .val (.ref b1), .val (.int (nI (1073741824 : Int32) (stepL (seedL q2)))), .val (.int (nI (1073741824 : Int32) (stepL (stepL (seedL q2))))), .unset, .unset, .unset, .unset, .unset, .unset, .unset, .unset] [(.long (q2 ^^^ (25214903917 : Int64)))])) rfl (hb hby at_52)) ?_
  show Go FrameEnd p e below s 16 128 (Q0 Z q1 q2 p4 h0 n0) (T6.setTop (mkF m 55 #[.val (.long q1), .second, .val (.long q2), .second, .val (.int p4), .val (.ref b1), .val (.int (nI (1073741824 : Int32) (stepL (seedL q2)))), .val (.int (nI (1073741824 : Int32) (stepL (stepL (seedL q2))))), .unset, .unset, .unset, .unset, .unset, .unset, .unset, .unset] [(.long (281474976710655 : Int64)), (.long (q2 ^^^ (25214903917 : Int64)))]))
  refine Go.step (fun _ k => XS.land X6.here hx rfl (hb hby at_55) rfl k) ?_
  show Go FrameEnd p e below s 16 128 (Q0 Z q1 q2 p4 h0 n0) (T6.setTop (mkF m 56 #[.val (.long q1), .second, .val (.long q2), .second, .val (.int p4), .val (.ref b1), .val (.int (nI (1073741824 : Int32) (stepL (seedL q2)))), .val (.int (nI (1073741824 : Int32) (stepL (stepL (seedL q2))))), .unset, .unset, .unset, .unset, .unset, .unset, .unset, .unset] [(.long ((q2 ^^^ (25214903917 : Int64)) &&& (281474976710655 : Int64)))]))
  refine Go.step (fun _ k => XS.lstore X6.here hx rfl (hb hby at_56) rfl (l' := #[.val (.long q1), .second, .val (.long q2), .second, .val (.int p4), .val (.ref b1), .val (.int (nI (1073741824 : Int32) (stepL (seedL q2)))), .val (.int (nI (1073741824 : Int32) (stepL (stepL (seedL q2))))), .val (.long ((q2 ^^^ (25214903917 : Int64)) &&& (281474976710655 : Int64))), .second, .unset, .unset, .unset, .unset, .unset, .unset]) rfl k) ?_
  show Go FrameEnd p e below s 16 128 (Q0 Z q1 q2 p4 h0 n0) (T6.setTop (mkF m 58 #[.val (.long q1), .second, .val (.long q2), .second, .val (.int p4), .val (.ref b1), .val (.int (nI (1073741824 : Int32) (stepL (seedL q2)))), .val (.int (nI (1073741824 : Int32) (stepL (stepL (seedL q2))))), .val (.long ((q2 ^^^ (25214903917 : Int64)) &&& (281474976710655 : Int64))), .second, .unset, .unset, .unset, .unset, .unset, .unset] []))
  refine Go.step (fun _ k => XS.lload X6.here hx rfl (hb hby at_58) rfl k) ?_
  show Go FrameEnd p e below s 16 128 (Q0 Z q1 q2 p4 h0 n0) (T6.setTop (mkF m 60 #[.val (.long q1), .second, .val (.long q2), .second, .val (.int p4), .val (.ref b1), .val (.int (nI (1073741824 : Int32) (stepL (seedL q2)))), .val (.int (nI (1073741824 : Int32) (stepL (stepL (seedL q2))))), .val (.long ((q2 ^^^ (25214903917 : Int64)) &&& (281474976710655 : Int64))), .second, .unset, .unset, .unset, .unset, .unset, .unset] [(.long ((q2 ^^^ (25214903917 : Int64)) &&& (281474976710655 : Int64)))]))
  obtain ⟨_, _, ⟨T7, L7, k7, n7⟩, -, X7, ⟨Lc7, hQ7, l7, y7, z7⟩, st7⟩ := Jvm.LawKit.callS X6 hx (y := (⟨"deckmill/ShufflerSeedPinLaw", "step", "(J)J"⟩ : MethodName)) hown (mvT hZ (hw _ (List.mem_of_getElem? (i := 32) rfl))) (mvT hZ (hw _ (List.mem_of_getElem? (i := 33) rfl))) (mvT hZ (hw _ (List.mem_of_getElem? (i := 34) rfl))) (mvT hZ (hw _ (List.mem_of_getElem? (i := 35) rfl))) (by decide) (backOf (W := 0) (rm5 l Z a0 hw [] ((q2 ^^^ (25214903917 : Int64)) &&& (281474976710655 : Int64))  T6.heap ) hZ (hw _ (List.mem_of_getElem? (i := 35) rfl)) (hw _ (List.mem_of_getElem? (i := 34) rfl)) (by decide) (by decide)) (g := (mkF m 60 #[.val (.long q1), .second, .val (.long q2), .second, .val (.int p4), .val (.ref b1), .val (.int (nI (1073741824 : Int32) (stepL (seedL q2)))), .val (.int (nI (1073741824 : Int32) (stepL (stepL (seedL q2))))), .val (.long ((q2 ^^^ (25214903917 : Int64)) &&& (281474976710655 : Int64))), .second, .unset, .unset, .unset, .unset, .unset, .unset] [(.long ((q2 ^^^ (25214903917 : Int64)) &&& (281474976710655 : Int64)))])) rfl (by rw [hml]; rfl) (argsL := [(.long ((q2 ^^^ (25214903917 : Int64)) &&& (281474976710655 : Int64)))]) (rest := []) (lenOf pd__J_J rfl) rfl (by show 2 * 0 + _ ≤ _; exact Nat.le_of_eq rfl) (hb hby at_60) (fun _ _ => ⟨rfl, rfl, (by decide : 1 + 0 ≤ _), (by decide : 1 + 0 ≤ _)⟩)
  dsimp only [Pt.U, Pt.locs, Pt.cells, Pt.slots] at X7 l7 y7 z7 st7 hQ7
  subst l7 y7 z7
  obtain ⟨rfl, rfl, e7⟩ := hQ7
  have N7 := Fr.app N6 (Fr.nil n0)
  refine Go.step st7 ?_
  show Go FrameEnd p e below s 16 128 (Q0 Z q1 q2 p4 h0 n0) (T7.setTop (mkF m 63 #[.val (.long q1), .second, .val (.long q2), .second, .val (.int p4), .val (.ref b1), .val (.int (nI (1073741824 : Int32) (stepL (seedL q2)))), .val (.int (nI (1073741824 : Int32) (stepL (stepL (seedL q2))))), .val (.long ((q2 ^^^ (25214903917 : Int64)) &&& (281474976710655 : Int64))), .second, .unset, .unset, .unset, .unset, .unset, .unset] [(.long (stepL ((q2 ^^^ (25214903917 : Int64)) &&& (281474976710655 : Int64))))]))
  refine Go.step (fun _ k => XS.lstore X7.here hx rfl (hb hby at_63) rfl (l' := #[.val (.long q1), .second, .val (.long q2), .second, .val (.int p4), .val (.ref b1), .val (.int (nI (1073741824 : Int32) (stepL (seedL q2)))), .val (.int (nI (1073741824 : Int32) (stepL (stepL (seedL q2))))), .val (.long ((q2 ^^^ (25214903917 : Int64)) &&& (281474976710655 : Int64))), .second, .val (.long (stepL ((q2 ^^^ (25214903917 : Int64)) &&& (281474976710655 : Int64)))), .second, .unset, .unset, .unset, .unset]) rfl k) ?_
  show Go FrameEnd p e below s 16 128 (Q0 Z q1 q2 p4 h0 n0) (T7.setTop (mkF m 65 #[.val (.long q1), .second, .val (.long q2), .second, .val (.int p4), .val (.ref b1), .val (.int (nI (1073741824 : Int32) (stepL (seedL q2)))), .val (.int (nI (1073741824 : Int32) (stepL (stepL (seedL q2))))), .val (.long ((q2 ^^^ (25214903917 : Int64)) &&& (281474976710655 : Int64))), .second, .val (.long (stepL ((q2 ^^^ (25214903917 : Int64)) &&& (281474976710655 : Int64)))), .second, .unset, .unset, .unset, .unset] []))
  refine Go.step (fun _ k => XS.lload X7.here hx rfl (hb hby at_65) rfl k) ?_
  show Go FrameEnd p e below s 16 128 (Q0 Z q1 q2 p4 h0 n0) (T7.setTop (mkF m 67 #[.val (.long q1), .second, .val (.long q2), .second, .val (.int p4), .val (.ref b1), .val (.int (nI (1073741824 : Int32) (stepL (seedL q2)))), .val (.int (nI (1073741824 : Int32) (stepL (stepL (seedL q2))))), .val (.long ((q2 ^^^ (25214903917 : Int64)) &&& (281474976710655 : Int64))), .second, .val (.long (stepL ((q2 ^^^ (25214903917 : Int64)) &&& (281474976710655 : Int64)))), .second, .unset, .unset, .unset, .unset] [(.long (stepL ((q2 ^^^ (25214903917 : Int64)) &&& (281474976710655 : Int64))))]))
  obtain ⟨_, _, ⟨T8, L8, k8, n8⟩, -, X8, ⟨Lc8, hQ8, l8, y8, z8⟩, st8⟩ := Jvm.LawKit.callS X7 hx (y := (⟨"deckmill/ShufflerSeedPinLaw", "step", "(J)J"⟩ : MethodName)) hown (mvT hZ (hw _ (List.mem_of_getElem? (i := 32) rfl))) (mvT hZ (hw _ (List.mem_of_getElem? (i := 33) rfl))) (mvT hZ (hw _ (List.mem_of_getElem? (i := 34) rfl))) (mvT hZ (hw _ (List.mem_of_getElem? (i := 35) rfl))) (by decide) (backOf (W := 0) (rm5 l Z a0 hw [] (stepL ((q2 ^^^ (25214903917 : Int64)) &&& (281474976710655 : Int64)))  T6.heap ) hZ (hw _ (List.mem_of_getElem? (i := 35) rfl)) (hw _ (List.mem_of_getElem? (i := 34) rfl)) (by decide) (by decide)) (g := (mkF m 67 #[.val (.long q1), .second, .val (.long q2), .second, .val (.int p4), .val (.ref b1), .val (.int (nI (1073741824 : Int32) (stepL (seedL q2)))), .val (.int (nI (1073741824 : Int32) (stepL (stepL (seedL q2))))), .val (.long ((q2 ^^^ (25214903917 : Int64)) &&& (281474976710655 : Int64))), .second, .val (.long (stepL ((q2 ^^^ (25214903917 : Int64)) &&& (281474976710655 : Int64)))), .second, .unset, .unset, .unset, .unset] [(.long (stepL ((q2 ^^^ (25214903917 : Int64)) &&& (281474976710655 : Int64))))])) rfl (by rw [hml]; rfl) (argsL := [(.long (stepL ((q2 ^^^ (25214903917 : Int64)) &&& (281474976710655 : Int64))))]) (rest := []) (lenOf pd__J_J rfl) rfl (by show 2 * 0 + _ ≤ _; exact Nat.le_of_eq rfl) (hb hby at_67) (fun _ _ => ⟨rfl, e7, (by decide : 1 + 0 ≤ _), (by decide : 1 + 0 ≤ _)⟩)
  dsimp only [Pt.U, Pt.locs, Pt.cells, Pt.slots] at X8 l8 y8 z8 st8 hQ8
  subst l8 y8 z8
  obtain ⟨rfl, rfl, e8⟩ := hQ8
  have N8 := Fr.app N7 (Fr.nil n0)
  refine Go.step st8 ?_
  show Go FrameEnd p e below s 16 128 (Q0 Z q1 q2 p4 h0 n0) (T8.setTop (mkF m 70 #[.val (.long q1), .second, .val (.long q2), .second, .val (.int p4), .val (.ref b1), .val (.int (nI (1073741824 : Int32) (stepL (seedL q2)))), .val (.int (nI (1073741824 : Int32) (stepL (stepL (seedL q2))))), .val (.long ((q2 ^^^ (25214903917 : Int64)) &&& (281474976710655 : Int64))), .second, .val (.long (stepL ((q2 ^^^ (25214903917 : Int64)) &&& (281474976710655 : Int64)))), .second, .unset, .unset, .unset, .unset] [(.long (stepL (stepL ((q2 ^^^ (25214903917 : Int64)) &&& (281474976710655 : Int64)))))]))
  refine Go.step (fun _ k => XS.lstore X8.here hx rfl (hb hby at_70) rfl (l' := #[.val (.long q1), .second, .val (.long q2), .second, .val (.int p4), .val (.ref b1), .val (.int (nI (1073741824 : Int32) (stepL (seedL q2)))), .val (.int (nI (1073741824 : Int32) (stepL (stepL (seedL q2))))), .val (.long ((q2 ^^^ (25214903917 : Int64)) &&& (281474976710655 : Int64))), .second, .val (.long (stepL ((q2 ^^^ (25214903917 : Int64)) &&& (281474976710655 : Int64)))), .second, .val (.long (stepL (stepL ((q2 ^^^ (25214903917 : Int64)) &&& (281474976710655 : Int64))))), .second, .unset, .unset]) rfl k) ?_
  show Go FrameEnd p e below s 16 128 (Q0 Z q1 q2 p4 h0 n0) (T8.setTop (mkF m 72 #[.val (.long q1), .second, .val (.long q2), .second, .val (.int p4), .val (.ref b1), .val (.int (nI (1073741824 : Int32) (stepL (seedL q2)))), .val (.int (nI (1073741824 : Int32) (stepL (stepL (seedL q2))))), .val (.long ((q2 ^^^ (25214903917 : Int64)) &&& (281474976710655 : Int64))), .second, .val (.long (stepL ((q2 ^^^ (25214903917 : Int64)) &&& (281474976710655 : Int64)))), .second, .val (.long (stepL (stepL ((q2 ^^^ (25214903917 : Int64)) &&& (281474976710655 : Int64))))), .second, .unset, .unset] []))
  refine Go.step (fun _ k => XS.lload X8.here hx rfl (hb hby at_72) rfl k) ?_
  show Go FrameEnd p e below s 16 128 (Q0 Z q1 q2 p4 h0 n0) (T8.setTop (mkF m 74 #[.val (.long q1), .second, .val (.long q2), .second, .val (.int p4), .val (.ref b1), .val (.int (nI (1073741824 : Int32) (stepL (seedL q2)))), .val (.int (nI (1073741824 : Int32) (stepL (stepL (seedL q2))))), .val (.long ((q2 ^^^ (25214903917 : Int64)) &&& (281474976710655 : Int64))), .second, .val (.long (stepL ((q2 ^^^ (25214903917 : Int64)) &&& (281474976710655 : Int64)))), .second, .val (.long (stepL (stepL ((q2 ^^^ (25214903917 : Int64)) &&& (281474976710655 : Int64))))), .second, .unset, .unset] [(.long (stepL ((q2 ^^^ (25214903917 : Int64)) &&& (281474976710655 : Int64))))]))
  refine Go.step (fun _ k => XS.bipush X8.here hx rfl (hb hby at_74) k) ?_
  show Go FrameEnd p e below s 16 128 (Q0 Z q1 q2 p4 h0 n0) (T8.setTop (mkF m 76 #[.val (.long q1), .second, .val (.long q2), .second, .val (.int p4), .val (.ref b1), .val (.int (nI (1073741824 : Int32) (stepL (seedL q2)))), .val (.int (nI (1073741824 : Int32) (stepL (stepL (seedL q2))))), .val (.long ((q2 ^^^ (25214903917 : Int64)) &&& (281474976710655 : Int64))), .second, .val (.long (stepL ((q2 ^^^ (25214903917 : Int64)) &&& (281474976710655 : Int64)))), .second, .val (.long (stepL (stepL ((q2 ^^^ (25214903917 : Int64)) &&& (281474976710655 : Int64))))), .second, .unset, .unset] [(.int (18 : Int32)), (.long (stepL ((q2 ^^^ (25214903917 : Int64)) &&& (281474976710655 : Int64))))]))
  refine Go.step (fun _ k => XS.lushr X8.here hx rfl (hb hby at_76) rfl k) ?_
  show Go FrameEnd p e below s 16 128 (Q0 Z q1 q2 p4 h0 n0) (T8.setTop (mkF m 77 #[.val (.long q1), .second, .val (.long q2), .second, .val (.int p4), .val (.ref b1), .val (.int (nI (1073741824 : Int32) (stepL (seedL q2)))), .val (.int (nI (1073741824 : Int32) (stepL (stepL (seedL q2))))), .val (.long ((q2 ^^^ (25214903917 : Int64)) &&& (281474976710655 : Int64))), .second, .val (.long (stepL ((q2 ^^^ (25214903917 : Int64)) &&& (281474976710655 : Int64)))), .second, .val (.long (stepL (stepL ((q2 ^^^ (25214903917 : Int64)) &&& (281474976710655 : Int64))))), .second, .unset, .unset] [(.long (ushL (stepL ((q2 ^^^ (25214903917 : Int64)) &&& (281474976710655 : Int64))) (18 : Int32)))]))
  refine Go.step (fun _ k => XS.l2i X8.here hx rfl (hb hby at_77) rfl k) ?_
  show Go FrameEnd p e below s 16 128 (Q0 Z q1 q2 p4 h0 n0) (T8.setTop (mkF m 78 #[.val (.long q1), .second, .val (.long q2), .second, .val (.int p4), .val (.ref b1), .val (.int (nI (1073741824 : Int32) (stepL (seedL q2)))), .val (.int (nI (1073741824 : Int32) (stepL (stepL (seedL q2))))), .val (.long ((q2 ^^^ (25214903917 : Int64)) &&& (281474976710655 : Int64))), .second, .val (.long (stepL ((q2 ^^^ (25214903917 : Int64)) &&& (281474976710655 : Int64)))), .second, .val (.long (stepL (stepL ((q2 ^^^ (25214903917 : Int64)) &&& (281474976710655 : Int64))))), .second, .unset, .unset] [(.int (ushL (stepL ((q2 ^^^ (25214903917 : Int64)) &&& (281474976710655 : Int64))) (18 : Int32)).toInt32)]))
  refine Go.step (fun _ k => XS.istore X8.here hx rfl (hb hby at_78) rfl (l' := #[.val (.long q1), .second, .val (.long q2), .second, .val (.int p4), .val (.ref b1), .val (.int (nI (1073741824 : Int32) (stepL (seedL q2)))), .val (.int (nI (1073741824 : Int32) (stepL (stepL (seedL q2))))), .val (.long ((q2 ^^^ (25214903917 : Int64)) &&& (281474976710655 : Int64))), .second, .val (.long (stepL ((q2 ^^^ (25214903917 : Int64)) &&& (281474976710655 : Int64)))), .second, .val (.long (stepL (stepL ((q2 ^^^ (25214903917 : Int64)) &&& (281474976710655 : Int64))))), .second, .val (.int (ushL (stepL ((q2 ^^^ (25214903917 : Int64)) &&& (281474976710655 : Int64))) (18 : Int32)).toInt32), .unset]) rfl k) ?_
  show Go FrameEnd p e below s 16 128 (Q0 Z q1 q2 p4 h0 n0) (T8.setTop (mkF m 80 #[.val (.long q1), .second, .val (.long q2), .second, .val (.int p4), .val (.ref b1), .val (.int (nI (1073741824 : Int32) (stepL (seedL q2)))), .val (.int (nI (1073741824 : Int32) (stepL (stepL (seedL q2))))), .val (.long ((q2 ^^^ (25214903917 : Int64)) &&& (281474976710655 : Int64))), .second, .val (.long (stepL ((q2 ^^^ (25214903917 : Int64)) &&& (281474976710655 : Int64)))), .second, .val (.long (stepL (stepL ((q2 ^^^ (25214903917 : Int64)) &&& (281474976710655 : Int64))))), .second, .val (.int (ushL (stepL ((q2 ^^^ (25214903917 : Int64)) &&& (281474976710655 : Int64))) (18 : Int32)).toInt32), .unset] []))
  refine Go.step (fun _ k => XS.lload X8.here hx rfl (hb hby at_80) rfl k) ?_
  show Go FrameEnd p e below s 16 128 (Q0 Z q1 q2 p4 h0 n0) (T8.setTop (mkF m 82 #[.val (.long q1), .second, .val (.long q2), .second, .val (.int p4), .val (.ref b1), .val (.int (nI (1073741824 : Int32) (stepL (seedL q2)))), .val (.int (nI (1073741824 : Int32) (stepL (stepL (seedL q2))))), .val (.long ((q2 ^^^ (25214903917 : Int64)) &&& (281474976710655 : Int64))), .second, .val (.long (stepL ((q2 ^^^ (25214903917 : Int64)) &&& (281474976710655 : Int64)))), .second, .val (.long (stepL (stepL ((q2 ^^^ (25214903917 : Int64)) &&& (281474976710655 : Int64))))), .second, .val (.int (ushL (stepL ((q2 ^^^ (25214903917 : Int64)) &&& (281474976710655 : Int64))) (18 : Int32)).toInt32), .unset] [(.long (stepL (stepL ((q2 ^^^ (25214903917 : Int64)) &&& (281474976710655 : Int64)))))]))
  refine Go.step (fun _ k => XS.bipush X8.here hx rfl (hb hby at_82) k) ?_
  show Go FrameEnd p e below s 16 128 (Q0 Z q1 q2 p4 h0 n0) (T8.setTop (mkF m 84 #[.val (.long q1), .second, .val (.long q2), .second, .val (.int p4), .val (.ref b1), .val (.int (nI (1073741824 : Int32) (stepL (seedL q2)))), .val (.int (nI (1073741824 : Int32) (stepL (stepL (seedL q2))))), .val (.long ((q2 ^^^ (25214903917 : Int64)) &&& (281474976710655 : Int64))), .second, .val (.long (stepL ((q2 ^^^ (25214903917 : Int64)) &&& (281474976710655 : Int64)))), .second, .val (.long (stepL (stepL ((q2 ^^^ (25214903917 : Int64)) &&& (281474976710655 : Int64))))), .second, .val (.int (ushL (stepL ((q2 ^^^ (25214903917 : Int64)) &&& (281474976710655 : Int64))) (18 : Int32)).toInt32), .unset] [(.int (18 : Int32)), (.long (stepL (stepL ((q2 ^^^ (25214903917 : Int64)) &&& (281474976710655 : Int64)))))]))
  refine Go.step (fun _ k => XS.lushr X8.here hx rfl (hb hby at_84) rfl k) ?_
  show Go FrameEnd p e below s 16 128 (Q0 Z q1 q2 p4 h0 n0) (T8.setTop (mkF m 85 #[.val (.long q1), .second, .val (.long q2), .second, .val (.int p4), .val (.ref b1), .val (.int (nI (1073741824 : Int32) (stepL (seedL q2)))), .val (.int (nI (1073741824 : Int32) (stepL (stepL (seedL q2))))), .val (.long ((q2 ^^^ (25214903917 : Int64)) &&& (281474976710655 : Int64))), .second, .val (.long (stepL ((q2 ^^^ (25214903917 : Int64)) &&& (281474976710655 : Int64)))), .second, .val (.long (stepL (stepL ((q2 ^^^ (25214903917 : Int64)) &&& (281474976710655 : Int64))))), .second, .val (.int (ushL (stepL ((q2 ^^^ (25214903917 : Int64)) &&& (281474976710655 : Int64))) (18 : Int32)).toInt32), .unset] [(.long (ushL (stepL (stepL ((q2 ^^^ (25214903917 : Int64)) &&& (281474976710655 : Int64)))) (18 : Int32)))]))
  refine Go.step (fun _ k => XS.l2i X8.here hx rfl (hb hby at_85) rfl k) ?_
  show Go FrameEnd p e below s 16 128 (Q0 Z q1 q2 p4 h0 n0) (T8.setTop (mkF m 86 #[.val (.long q1), .second, .val (.long q2), .second, .val (.int p4), .val (.ref b1), .val (.int (nI (1073741824 : Int32) (stepL (seedL q2)))), .val (.int (nI (1073741824 : Int32) (stepL (stepL (seedL q2))))), .val (.long ((q2 ^^^ (25214903917 : Int64)) &&& (281474976710655 : Int64))), .second, .val (.long (stepL ((q2 ^^^ (25214903917 : Int64)) &&& (281474976710655 : Int64)))), .second, .val (.long (stepL (stepL ((q2 ^^^ (25214903917 : Int64)) &&& (281474976710655 : Int64))))), .second, .val (.int (ushL (stepL ((q2 ^^^ (25214903917 : Int64)) &&& (281474976710655 : Int64))) (18 : Int32)).toInt32), .unset] [(.int (ushL (stepL (stepL ((q2 ^^^ (25214903917 : Int64)) &&& (281474976710655 : Int64)))) (18 : Int32)).toInt32)]))
  refine Go.step (fun _ k => XS.istore X8.here hx rfl (hb hby at_86) rfl (l' := #[.val (.long q1), .second, .val (.long q2), .second, .val (.int p4), .val (.ref b1), .val (.int (nI (1073741824 : Int32) (stepL (seedL q2)))), .val (.int (nI (1073741824 : Int32) (stepL (stepL (seedL q2))))), .val (.long ((q2 ^^^ (25214903917 : Int64)) &&& (281474976710655 : Int64))), .second, .val (.long (stepL ((q2 ^^^ (25214903917 : Int64)) &&& (281474976710655 : Int64)))), .second, .val (.long (stepL (stepL ((q2 ^^^ (25214903917 : Int64)) &&& (281474976710655 : Int64))))), .second, .val (.int (ushL (stepL ((q2 ^^^ (25214903917 : Int64)) &&& (281474976710655 : Int64))) (18 : Int32)).toInt32), .val (.int (ushL (stepL (stepL ((q2 ^^^ (25214903917 : Int64)) &&& (281474976710655 : Int64)))) (18 : Int32)).toInt32)]) rfl k) ?_
  show Go FrameEnd p e below s 16 128 (Q0 Z q1 q2 p4 h0 n0) (T8.setTop (mkF m 88 #[.val (.long q1), .second, .val (.long q2), .second, .val (.int p4), .val (.ref b1), .val (.int (nI (1073741824 : Int32) (stepL (seedL q2)))), .val (.int (nI (1073741824 : Int32) (stepL (stepL (seedL q2))))), .val (.long ((q2 ^^^ (25214903917 : Int64)) &&& (281474976710655 : Int64))), .second, .val (.long (stepL ((q2 ^^^ (25214903917 : Int64)) &&& (281474976710655 : Int64)))), .second, .val (.long (stepL (stepL ((q2 ^^^ (25214903917 : Int64)) &&& (281474976710655 : Int64))))), .second, .val (.int (ushL (stepL ((q2 ^^^ (25214903917 : Int64)) &&& (281474976710655 : Int64))) (18 : Int32)).toInt32), .val (.int (ushL (stepL (stepL ((q2 ^^^ (25214903917 : Int64)) &&& (281474976710655 : Int64)))) (18 : Int32)).toInt32)] []))
  refine Go.step (fun _ k => XS.iload X8.here hx rfl (hb hby at_88) rfl k) ?_
  show Go FrameEnd p e below s 16 128 (Q0 Z q1 q2 p4 h0 n0) (T8.setTop (mkF m 90 #[.val (.long q1), .second, .val (.long q2), .second, .val (.int p4), .val (.ref b1), .val (.int (nI (1073741824 : Int32) (stepL (seedL q2)))), .val (.int (nI (1073741824 : Int32) (stepL (stepL (seedL q2))))), .val (.long ((q2 ^^^ (25214903917 : Int64)) &&& (281474976710655 : Int64))), .second, .val (.long (stepL ((q2 ^^^ (25214903917 : Int64)) &&& (281474976710655 : Int64)))), .second, .val (.long (stepL (stepL ((q2 ^^^ (25214903917 : Int64)) &&& (281474976710655 : Int64))))), .second, .val (.int (ushL (stepL ((q2 ^^^ (25214903917 : Int64)) &&& (281474976710655 : Int64))) (18 : Int32)).toInt32), .val (.int (ushL (stepL (stepL ((q2 ^^^ (25214903917 : Int64)) &&& (281474976710655 : Int64)))) (18 : Int32)).toInt32)] [(.int (nI (1073741824 : Int32) (stepL (seedL q2))))]))
  refine Go.step (fun _ k => XS.iload X8.here hx rfl (hb hby at_90) rfl k) ?_
  show Go FrameEnd p e below s 16 128 (Q0 Z q1 q2 p4 h0 n0) (T8.setTop (mkF m 92 #[.val (.long q1), .second, .val (.long q2), .second, .val (.int p4), .val (.ref b1), .val (.int (nI (1073741824 : Int32) (stepL (seedL q2)))), .val (.int (nI (1073741824 : Int32) (stepL (stepL (seedL q2))))), .val (.long ((q2 ^^^ (25214903917 : Int64)) &&& (281474976710655 : Int64))), .second, .val (.long (stepL ((q2 ^^^ (25214903917 : Int64)) &&& (281474976710655 : Int64)))), .second, .val (.long (stepL (stepL ((q2 ^^^ (25214903917 : Int64)) &&& (281474976710655 : Int64))))), .second, .val (.int (ushL (stepL ((q2 ^^^ (25214903917 : Int64)) &&& (281474976710655 : Int64))) (18 : Int32)).toInt32), .val (.int (ushL (stepL (stepL ((q2 ^^^ (25214903917 : Int64)) &&& (281474976710655 : Int64)))) (18 : Int32)).toInt32)] [(.int (ushL (stepL ((q2 ^^^ (25214903917 : Int64)) &&& (281474976710655 : Int64))) (18 : Int32)).toInt32), (.int (nI (1073741824 : Int32) (stepL (seedL q2))))]))
  refine Go.step (fun _ k => XS.icmpNo X8.here hx rfl (hb hby at_92) rfl (teq (own_r _)).2 k) ?_
  show Go FrameEnd p e below s 16 128 (Q0 Z q1 q2 p4 h0 n0) (T8.setTop (mkF m 95 #[.val (.long q1), .second, .val (.long q2), .second, .val (.int p4), .val (.ref b1), .val (.int (nI (1073741824 : Int32) (stepL (seedL q2)))), .val (.int (nI (1073741824 : Int32) (stepL (stepL (seedL q2))))), .val (.long ((q2 ^^^ (25214903917 : Int64)) &&& (281474976710655 : Int64))), .second, .val (.long (stepL ((q2 ^^^ (25214903917 : Int64)) &&& (281474976710655 : Int64)))), .second, .val (.long (stepL (stepL ((q2 ^^^ (25214903917 : Int64)) &&& (281474976710655 : Int64))))), .second, .val (.int (ushL (stepL ((q2 ^^^ (25214903917 : Int64)) &&& (281474976710655 : Int64))) (18 : Int32)).toInt32), .val (.int (ushL (stepL (stepL ((q2 ^^^ (25214903917 : Int64)) &&& (281474976710655 : Int64)))) (18 : Int32)).toInt32)] []))
  refine Go.step (fun _ k => XS.iload X8.here hx rfl (hb hby at_95) rfl k) ?_
  show Go FrameEnd p e below s 16 128 (Q0 Z q1 q2 p4 h0 n0) (T8.setTop (mkF m 97 #[.val (.long q1), .second, .val (.long q2), .second, .val (.int p4), .val (.ref b1), .val (.int (nI (1073741824 : Int32) (stepL (seedL q2)))), .val (.int (nI (1073741824 : Int32) (stepL (stepL (seedL q2))))), .val (.long ((q2 ^^^ (25214903917 : Int64)) &&& (281474976710655 : Int64))), .second, .val (.long (stepL ((q2 ^^^ (25214903917 : Int64)) &&& (281474976710655 : Int64)))), .second, .val (.long (stepL (stepL ((q2 ^^^ (25214903917 : Int64)) &&& (281474976710655 : Int64))))), .second, .val (.int (ushL (stepL ((q2 ^^^ (25214903917 : Int64)) &&& (281474976710655 : Int64))) (18 : Int32)).toInt32), .val (.int (ushL (stepL (stepL ((q2 ^^^ (25214903917 : Int64)) &&& (281474976710655 : Int64)))) (18 : Int32)).toInt32)] [(.int (nI (1073741824 : Int32) (stepL (stepL (seedL q2)))))]))
  refine Go.step (fun _ k => XS.iload X8.here hx rfl (hb hby at_97) rfl k) ?_
  show Go FrameEnd p e below s 16 128 (Q0 Z q1 q2 p4 h0 n0) (T8.setTop (mkF m 99 #[.val (.long q1), .second, .val (.long q2), .second, .val (.int p4), .val (.ref b1), .val (.int (nI (1073741824 : Int32) (stepL (seedL q2)))), .val (.int (nI (1073741824 : Int32) (stepL (stepL (seedL q2))))), .val (.long ((q2 ^^^ (25214903917 : Int64)) &&& (281474976710655 : Int64))), .second, .val (.long (stepL ((q2 ^^^ (25214903917 : Int64)) &&& (281474976710655 : Int64)))), .second, .val (.long (stepL (stepL ((q2 ^^^ (25214903917 : Int64)) &&& (281474976710655 : Int64))))), .second, .val (.int (ushL (stepL ((q2 ^^^ (25214903917 : Int64)) &&& (281474976710655 : Int64))) (18 : Int32)).toInt32), .val (.int (ushL (stepL (stepL ((q2 ^^^ (25214903917 : Int64)) &&& (281474976710655 : Int64)))) (18 : Int32)).toInt32)] [(.int (ushL (stepL (stepL ((q2 ^^^ (25214903917 : Int64)) &&& (281474976710655 : Int64)))) (18 : Int32)).toInt32), (.int (nI (1073741824 : Int32) (stepL (stepL (seedL q2)))))]))
  refine Go.step (fun _ k => XS.icmpNo X8.here hx rfl (hb hby at_99) rfl (teq (own_r _)).2 k) ?_
  show Go FrameEnd p e below s 16 128 (Q0 Z q1 q2 p4 h0 n0) (T8.setTop (mkF m 102 #[.val (.long q1), .second, .val (.long q2), .second, .val (.int p4), .val (.ref b1), .val (.int (nI (1073741824 : Int32) (stepL (seedL q2)))), .val (.int (nI (1073741824 : Int32) (stepL (stepL (seedL q2))))), .val (.long ((q2 ^^^ (25214903917 : Int64)) &&& (281474976710655 : Int64))), .second, .val (.long (stepL ((q2 ^^^ (25214903917 : Int64)) &&& (281474976710655 : Int64)))), .second, .val (.long (stepL (stepL ((q2 ^^^ (25214903917 : Int64)) &&& (281474976710655 : Int64))))), .second, .val (.int (ushL (stepL ((q2 ^^^ (25214903917 : Int64)) &&& (281474976710655 : Int64))) (18 : Int32)).toInt32), .val (.int (ushL (stepL (stepL ((q2 ^^^ (25214903917 : Int64)) &&& (281474976710655 : Int64)))) (18 : Int32)).toInt32)] []))
  refine Go.step (fun _ k => XS.iconst X8.here hx rfl (hb hby at_102) k) ?_
  show Go FrameEnd p e below s 16 128 (Q0 Z q1 q2 p4 h0 n0) (T8.setTop (mkF m 103 #[.val (.long q1), .second, .val (.long q2), .second, .val (.int p4), .val (.ref b1), .val (.int (nI (1073741824 : Int32) (stepL (seedL q2)))), .val (.int (nI (1073741824 : Int32) (stepL (stepL (seedL q2))))), .val (.long ((q2 ^^^ (25214903917 : Int64)) &&& (281474976710655 : Int64))), .second, .val (.long (stepL ((q2 ^^^ (25214903917 : Int64)) &&& (281474976710655 : Int64)))), .second, .val (.long (stepL (stepL ((q2 ^^^ (25214903917 : Int64)) &&& (281474976710655 : Int64))))), .second, .val (.int (ushL (stepL ((q2 ^^^ (25214903917 : Int64)) &&& (281474976710655 : Int64))) (18 : Int32)).toInt32), .val (.int (ushL (stepL (stepL ((q2 ^^^ (25214903917 : Int64)) &&& (281474976710655 : Int64)))) (18 : Int32)).toInt32)] [(.int (1 : Int32))]))
  refine Go.step (fun _ k => XS.goto X8.here hx rfl (pc0 := 103) (pc' := 107) rfl (hb hby at_103) (by decide) (by decide) k) ?_
  show Go FrameEnd p e below s 16 128 (Q0 Z q1 q2 p4 h0 n0) (T8.setTop (mkF m 107 #[.val (.long q1), .second, .val (.long q2), .second, .val (.int p4), .val (.ref b1), .val (.int (nI (1073741824 : Int32) (stepL (seedL q2)))), .val (.int (nI (1073741824 : Int32) (stepL (stepL (seedL q2))))), .val (.long ((q2 ^^^ (25214903917 : Int64)) &&& (281474976710655 : Int64))), .second, .val (.long (stepL ((q2 ^^^ (25214903917 : Int64)) &&& (281474976710655 : Int64)))), .second, .val (.long (stepL (stepL ((q2 ^^^ (25214903917 : Int64)) &&& (281474976710655 : Int64))))), .second, .val (.int (ushL (stepL ((q2 ^^^ (25214903917 : Int64)) &&& (281474976710655 : Int64))) (18 : Int32)).toInt32), .val (.int (ushL (stepL (stepL ((q2 ^^^ (25214903917 : Int64)) &&& (281474976710655 : Int64)))) (18 : Int32)).toInt32)] [(.int (1 : Int32))]))
  refine Go.retN X8 hx (t := .boolean) Bd.returns (by simp) (by decide) (hb hby at_107) (BodyLoose.notSynchronized Bd) e8 (by decide) (by decide) ?_
  exact ⟨rfl, N8⟩
set_option maxRecDepth 65536 in
set_option maxHeartbeats 40000000 in
theorem comes_1 {Post : Tables → Env → Array Value → State → Outcome → State → Prop} (hpost : ∀ tb e args s v u, (limb_1_1.after args s (.returned v) u = true ∧ limb_1_2.after args s (.returned v) u = true ∧ True) → FrameEnd s (.returned v) u (Jvm.fieldLocs frame_1_writes args s ++ Jvm.arrayLocs frame_1_arrays args s ++ Jvm.staticLocs frame_1_statics s) 16 128 → Post tb e args s (.returned v) u) :
    ArmFor flags0 classFile x code maxLocals ret World_1 tables_1 room_1 Calls_1 rest_1 Pre_1 Post := by
  intro l hfl _ _ p e ha hc hk s m args below hf hA hF happ hP
  obtain ⟨hcalls, hrest, hpre⟩ := hP
  obtain ⟨-, -, -, hnamed, -, -, -, hat⟩ := (Spec.applies_iff hf).mp happ
  obtain ⟨hg, hn⟩ := and_e (Cond.before_iff.mp (show (Jvm.Cond.and given_1 narrow_1).before args s = true from hpre))
  obtain ⟨h1, h2⟩ := and_e hg
  obtain ⟨w0, w1, w2, rfl⟩ : ∃ w0 w1 w2 : Value, args = #[w0, w1, w2] := by
    have hs : args.size = 3 := by simpa [Cond.value, given_1] using h1
    obtain ⟨L⟩ := args
    match L, hs with
    | [w0, w1, w2], _ => exact ⟨w0, w1, w2, rfl⟩
  have hw := fun d (hd : d ∈ tables_1) => atoms_spec (ws := Jvm.Cond.code x code maxLocals ret :: tables_1) hat d (List.mem_cons_of_mem _ hd)
  have hfit : Fit s := fun {y c} hc i hi => by
    obtain ⟨ha, rfl⟩ := Array.getElem?_eq_some_iff.mp hc
    have q := List.all_eq_true.mp ((Array.all_eq_true_iff_forall_mem.mp hF) _ (Array.getElem_mem ha)) i (List.mem_range.mpr hi)
    simpa [Array.getElem?_eq_getElem hi] using q
  obtain ⟨c0, r0⟩ := and_e h2
  obtain ⟨i0, q0⟩ := isL_v c0
  obtain rfl : w0 = (.long i0) := Option.some.inj q0
  obtain ⟨c1, r1⟩ := and_e r0
  obtain ⟨i1, q1⟩ := isL_v c1
  obtain rfl : w1 = (.long i1) := Option.some.inj q1
  obtain ⟨i2, q2⟩ := is_v r1
  obtain rfl : w2 = (.int i2) := Option.some.inj q2
  obtain ⟨n, o, h1, h2, h3, _, L, rfl, ⟨rfl, N⟩, hq⟩ := rm0 l s _ hw tables_1 i0 i1 i2  s.heap s.heap.size (Nat.le_refl _)  p e ha hc hk s m _ below hf ((Spec.applies_iff_loose hf).mp happ).1 ⟨rfl, State.Warmed39.refl s, rfl⟩ trivial
  refine ⟨n, _, h1, h2, h3, hpost _ _ _ _ _ _ ⟨Cond.after_iff.mpr rfl, Cond.after_iff.mpr (eq_i res_at (Term.int_eval (1)) rfl), trivial⟩ ⟨hq.1, hq.2.1, (hq.2.2.sift fun y hy => Or.inr (N y hy)).mono (by decide) (by decide)⟩⟩
theorem main_1_1 : Claimed_1_1 := comes_1 fun _ _ _ _ _ _ h hF => ⟨h.1, hF⟩
theorem main_1_2 : Claimed_1_2 := comes_1 fun _ _ _ _ _ _ h hF => ⟨h.2.1, hF⟩
end Jvm.Pilot.@@N@@
namespace Jvm.Pilot.@@N@@
open Jvm Jvm.ClassFile Sem Op Lib Jvm.Free Jvm.Stand Jvm.Pilot.@@N@@.Jvm.D
/-! MADE BY PROGRAM (witnessworld.py) out of the Statement's table words and the real class files: 9 classes; the members and pool entries that the words name. The judged class is class 1, her method 2. -/
namespace start1
open Jvm.ClassFile
def u (s : String) : CpInfo := .utf8 (stringToUtf16 s)
/-- a pool by its gaps: so many unusable entries, then the entry; so many at the end -/
def gap : Nat → List CpInfo → List CpInfo
  | 0, r => r
  | n + 1, r => .unusable :: gap n r
def poolList (es : List (Nat × CpInfo)) (last : Nat) : List CpInfo := es.foldr (fun e r => gap e.1 (e.2 :: r)) (gap last [])
def pool (es : List (Nat × CpInfo)) (last : Nat) : Array CpInfo := ⟨poolList es last⟩
def fileOf (pool : Array CpInfo) (this : Nat) (attrs : Array Attribute := #[]) (ms : Array MethodInfo := #[]) (fl : Nat := 33) (sup : Nat := 0) (ifs : Array Nat := #[]) (fds : Array FieldInfo := #[]) : ClassFile where
  minorVersion := 0
  majorVersion := 65
  constantPool := pool
  accessFlags := fl
  thisClass := this
  superClass := sup
  interfaces := ifs
  fields := fds
  methods := ms
  attributes := attrs
def plain (name : String) (sup : Option ClassId) : Class where
  name := name
  kind := .ordinary
  loader := none
  accessFlags := 33
  super := sup
  interfaces := #[]
  cf := none
  fields := #[]
  methods := #[]
  instanceTypes := #[]
  staticTypes := #[]
  resolved := #[]
  callSites := []
  init := .initialized
  statics := none
  mirror := none

def pool0 : Array CpInfo := pool [(5, u "<init>"), (0, u "()V"), (1, .class_ 10), (1, u "java/lang/Object")] 113

def k0c0 : Code := { maxStack := 0, maxLocals := 1, code := object_method_1_code, exceptionTable := #[], attributes := #[] }
def k0m0 : Method := { name := "<init>", desc := "()V", sig := { parameters := [], returnType := none }, accessFlags := 1, code := some k0c0 }
/-- java/lang/Object -/
def k0 : Class := { plain "java/lang/Object" none with
  accessFlags := 33
  interfaces := #[]
  cf := some (fileOf pool0 8 #[] #[{ accessFlags := 1, nameIndex := 5, descriptorIndex := 6, attributes := #[] }] 33 0 #[] #[])
  fields := #[]
  methods := #[k0m0]
  instanceTypes := #[]
  staticTypes := #[]
  resolved := Array.replicate 124 none
  statics := none }

def pool1 : Array CpInfo := pool [(2, .class_ 4), (1, u "java/lang/Object"), (0, u "<init>"), (0, u "()V"), (0, .long 25214903917), (1, .long 11), (1, .long 281474976710655), (1, .class_ 14), (0, u "deckmill/Shuffler"), (0, .methodref 13 16), (0, .nameAndType 5 17), (0, u "(J)V"), (0, .methodref 13 19), (0, .nameAndType 20 21), (0, u "nextInt"), (0, u "(I)I"), (0, .methodref 13 23), (0, .nameAndType 24 17), (0, u "seed"), (0, .integer 1073741824), (0, .methodref 27 28), (0, .class_ 29), (0, .nameAndType 30 31), (0, u "deckmill/ShufflerSeedPinLaw"), (0, u "step"), (0, u "(J)J"), (2, u "law"), (0, u "(JJI)Z")] 3

def k1m0 : Method := { name := "<init>", desc := "()V", sig := { parameters := [], returnType := none }, accessFlags := 1, code := none }
def k1c1 : Code := { maxStack := 4, maxLocals := 2, code := method_2_code, exceptionTable := #[], attributes := #[] }
def k1m1 : Method := { name := "step", desc := "(J)J", sig := { parameters := [.long], returnType := some .long }, accessFlags := 10, code := some k1c1 }
def k1c2 : Code := { maxStack := 4, maxLocals := 16, code := code, exceptionTable := #[], attributes := #[] }
def k1m2 : Method := { name := "law", desc := "(JJI)Z", sig := { parameters := [.long, .long, .int], returnType := some .boolean }, accessFlags := 9, code := some k1c2 }
/-- deckmill/ShufflerSeedPinLaw -/
def k1 : Class := { plain "deckmill/ShufflerSeedPinLaw" (some 0) with
  accessFlags := 49
  interfaces := #[]
  cf := some (fileOf pool1 27 #[] #[{ accessFlags := 1, nameIndex := 5, descriptorIndex := 6, attributes := #[] }, { accessFlags := 10, nameIndex := 30, descriptorIndex := 31, attributes := #[] }, { accessFlags := 9, nameIndex := 34, descriptorIndex := 35, attributes := #[] }] 49 2 #[] #[])
  fields := #[]
  methods := #[k1m0, k1m1, k1m2]
  instanceTypes := #[]
  staticTypes := #[]
  resolved := Array.replicate 39 none
  statics := none }

def pool2 : Array CpInfo := pool [(1, .class_ 2), (0, u "deckmill/Shuffler"), (0, .methodref 4 5), (0, .class_ 6), (0, .nameAndType 7 8), (0, u "java/lang/Object"), (0, u "<init>"), (0, u "()V"), (0, .methodref 1 10), (0, .nameAndType 11 12), (0, u "seed"), (0, u "(J)V"), (0, .long 25214903917), (1, .long 281474976710655), (1, .fieldref 1 18), (0, .nameAndType 19 20), (0, u "state"), (0, u "J"), (2, u "nextInt"), (0, u "(I)I"), (0, .methodref 1 26), (0, .nameAndType 27 28), (0, u "next"), (0, u "()I"), (0, .long 11), (1, u "MULTIPLIER"), (1, u "ADDEND"), (0, u "STATE_BITS"), (0, u "I"), (1, u "MASK"), (0, u "BITS")] 8

def k2c0 : Code := { maxStack := 3, maxLocals := 3, code := prog_43_method_1_code, exceptionTable := #[], attributes := #[] }
def k2m0 : Method := { name := "<init>", desc := "(J)V", sig := { parameters := [.long], returnType := none }, accessFlags := 0, code := some k2c0 }
def k2c1 : Code := { maxStack := 5, maxLocals := 3, code := prog_43_method_2_code, exceptionTable := #[], attributes := #[] }
def k2m1 : Method := { name := "seed", desc := "(J)V", sig := { parameters := [.long], returnType := none }, accessFlags := 0, code := some k2c1 }
def k2c2 : Code := { maxStack := 4, maxLocals := 5, code := prog_43_method_4_code, exceptionTable := #[], attributes := #[] }
def k2m2 : Method := { name := "nextInt", desc := "(I)I", sig := { parameters := [.int], returnType := some .int }, accessFlags := 0, code := some k2c2 }
def k2c3 : Code := { maxStack := 5, maxLocals := 1, code := prog_43_method_5_code, exceptionTable := #[], attributes := #[] }
def k2m3 : Method := { name := "next", desc := "()I", sig := { parameters := [], returnType := some .int }, accessFlags := 2, code := some k2c3 }
/-- deckmill/Shuffler -/
def k2 : Class := { plain "deckmill/Shuffler" (some 0) with
  accessFlags := 48
  interfaces := #[]
  cf := some (fileOf pool2 1 #[] #[{ accessFlags := 0, nameIndex := 7, descriptorIndex := 12, attributes := #[] }, { accessFlags := 0, nameIndex := 11, descriptorIndex := 12, attributes := #[] }, { accessFlags := 0, nameIndex := 23, descriptorIndex := 24, attributes := #[] }, { accessFlags := 2, nameIndex := 27, descriptorIndex := 28, attributes := #[] }] 48 4 #[] #[{ accessFlags := 26, nameIndex := 31, descriptorIndex := 20, attributes := #[] }, { accessFlags := 26, nameIndex := 33, descriptorIndex := 20, attributes := #[] }, { accessFlags := 26, nameIndex := 34, descriptorIndex := 35, attributes := #[] }, { accessFlags := 26, nameIndex := 37, descriptorIndex := 20, attributes := #[] }, { accessFlags := 26, nameIndex := 38, descriptorIndex := 35, attributes := #[] }, { accessFlags := 2, nameIndex := 19, descriptorIndex := 20, attributes := #[] }])
  fields := #[{ name := "MULTIPLIER", type := .long, accessFlags := 26, slot := 0, constantValue := 0 }, { name := "ADDEND", type := .long, accessFlags := 26, slot := 1, constantValue := 0 }, { name := "STATE_BITS", type := .int, accessFlags := 26, slot := 2, constantValue := 0 }, { name := "MASK", type := .long, accessFlags := 26, slot := 3, constantValue := 0 }, { name := "BITS", type := .int, accessFlags := 26, slot := 4, constantValue := 0 }, { name := "state", type := .long, accessFlags := 2, slot := 0, constantValue := 0 }]
  methods := #[k2m0, k2m1, k2m2, k2m3]
  instanceTypes := #[.long]
  staticTypes := #[.long, .long, .int, .long, .int]
  resolved := Array.replicate 47 none
  statics := none }

def pool3 : Array CpInfo := pool [(1, u "java/lang/Cloneable"), (0, .class_ 1), (0, u "java/lang/Object"), (0, .class_ 3)] 3

/-- java/lang/Cloneable -/
def k3 : Class := { plain "java/lang/Cloneable" (some 0) with
  accessFlags := 1537
  interfaces := #[]
  cf := some (fileOf pool3 2 #[] #[] 1537 4 #[] #[])
  fields := #[]
  methods := #[]
  instanceTypes := #[]
  staticTypes := #[]
  resolved := Array.replicate 8 none
  statics := none }

def pool4 : Array CpInfo := pool [(1, u "java/io/Serializable"), (0, .class_ 1), (0, u "java/lang/Object"), (0, .class_ 3)] 3

/-- java/io/Serializable -/
def k4 : Class := { plain "java/io/Serializable" (some 0) with
  accessFlags := 1537
  interfaces := #[]
  cf := some (fileOf pool4 2 #[] #[] 1537 4 #[] #[])
  fields := #[]
  methods := #[]
  instanceTypes := #[]
  staticTypes := #[]
  resolved := Array.replicate 8 none
  statics := none }

/-- the primitive byte -/
def k5 : Class := { plain "byte" none with kind := .primitive 'B', accessFlags := 0x411 }
/-- [B -/
def k6 : Class := { plain "[B" (some 0) with kind := .array 5 .byte, interfaces := #[3, 4], accessFlags := 1041 }

/-- the primitive int -/
def k7 : Class := { plain "int" none with kind := .primitive 'I', accessFlags := 0x411 }
/-- [I -/
def k8 : Class := { plain "[I" (some 0) with kind := .array 7 .int, interfaces := #[3, 4], accessFlags := 1041 }

def heap : Heap := #[]
def classes : Array Class := #[k0, k1, k2, k3, k4, k5, k6, k7, k8]
def interned : List (Array UInt16 × Addr) := []
def slotsUsed : Nat := 0
def theMethod : MethodId := ⟨1, 2⟩
def args0 : Array Value := #[.long 5, .long 6, .int 3]
def aboutOver (below : List Frame) : State where
  vm := { classes := classes, interned := interned.toArray }
  heap := heap
  slotsUsed := slotsUsed
  threads := #[{ frames := .invoking theMethod args0 :: below }]
def below0 : List Frame := [.native { method := ⟨0, 0⟩, args := #[] }]
def about1 : State := aboutOver below0
def p0 : Program := .bare "" "" ""
def e0 : Env := launch0.env 0 0 0
theorem w_frames : about1.frames = Frame.invoking theMethod args0 :: below0 := rfl
set_option maxRecDepth 65536 in
theorem w_args : argsFit about1.vm theMethod args0 = true := by decide +kernel
set_option maxRecDepth 65536 in
theorem w_heap : heapFits about1 = true := by decide +kernel
set_option maxRecDepth 65536 in
theorem w_runnable : about1.curStatus? = some .runnable := by decide +kernel
set_option maxRecDepth 65536 in
theorem w_alone : about1.alone = true := by decide +kernel
set_option maxRecDepth 65536 in
theorem w_named : about1.methodNamed? x = some theMethod := by decide +kernel
set_option maxRecDepth 65536 in
theorem w_hears : about1.hears theMethod below0 = true := by decide +kernel
set_option maxRecDepth 65536 in
theorem w_ripe : about1.ripe theMethod args0 below0 = true := by decide +kernel
theorem w_running : about1.status = .running := rfl
set_option maxRecDepth 65536 in
theorem w_room : about1.hasRoom e0.platform room_1 = true :=
  launch0.hasRoom_least _ room_1 (by decide +kernel) (by decide +kernel) (by decide +kernel) (by decide +kernel) (by decide +kernel) (by decide +kernel)
theorem allAtoms_all (ts : List Jvm.Cond) (a : Array Jvm.Value) (st : Jvm.State) : (allAtoms ts).before a st = ts.all (fun c => c.before a st) := by
  induction ts with
  | nil => rfl
  | cons c t ih =>
    show (Jvm.Cond.and c (allAtoms t)).before a st = _
    rw [Jvm.Cond.before_and, ih, List.all_cons]
def words1 : List Jvm.Cond := Jvm.Cond.code x code maxLocals ret :: tables_1
/-- a 'code' word, met by the world's own term for the bytes: nothing is compared byte by byte -/
theorem code_word {y : MethodName} {bytes : ByteArray} {mx : Nat} {rt : Option FieldType} {a : Array Value} {s : State} {m : MethodId} {meth : Method} {c : Code} (h1 : s.methodNamed? y = some m) (h2 : s.vm.method? m = some meth) (h3 : meth.code = some c) (h4 : c.code = bytes)
    (h5 : (c.maxLocals == mx && c.exceptionTable.isEmpty && decide (c.maxStack ≤ mostOperands) && decide (meth.sig.returnType = rt) && !meth.locks && decide (parseMethodDescriptor y.desc = some meth.sig)) = true) : (Jvm.Cond.code y bytes mx rt).before a s = true := by
  simp only [Bool.and_eq_true, beq_iff_eq, Bool.not_eq_true', decide_eq_true_eq] at h5
  obtain ⟨⟨⟨⟨⟨g1, g2⟩, g3⟩, g4⟩, g5⟩, g6⟩ := h5
  simp [Cond.before, Cond.holds, Cond.value, h1, h2, h3, h4, g1, g2, g3, g4, g5, g6]
def isCode : Jvm.Cond → Bool
  | .code _ _ _ _ => true
  | _ => false
theorem all_split {L : List Jvm.Cond} {P : Jvm.Cond → Bool} (h1 : L.all (fun c => isCode c || P c) = true) (h2 : ∀ c ∈ L.filter isCode, P c = true) : L.all P = true := by
  refine List.all_eq_true.mpr fun c hc => ?_
  have h := List.all_eq_true.mp h1 c hc
  rcases Bool.eq_false_or_eq_true (isCode c) with hi | hi
  · exact h2 c (List.mem_filter.mpr ⟨hc, hi⟩)
  · simpa [hi] using h
set_option maxRecDepth 65536 in
theorem w_c0 : (Jvm.Cond.code x code maxLocals ret).before args0 about1 = true := code_word (m := ⟨1, 2⟩) (meth := k1m2) (c := k1c2) (by decide +kernel) rfl rfl rfl (by decide +kernel)
set_option maxRecDepth 65536 in
theorem w_c1 : (Jvm.Cond.code ({ cls := "deckmill/Shuffler", name := "<init>", desc := "(J)V" } : Jvm.MethodName) prog_43_method_1_code (3 : Nat) (Option.none : Option Jvm.ClassFile.FieldType)).before args0 about1 = true := code_word (m := ⟨2, 0⟩) (meth := k2m0) (c := k2c0) (by decide +kernel) rfl rfl rfl (by decide +kernel)
set_option maxRecDepth 65536 in
theorem w_c2 : (Jvm.Cond.code ({ cls := "java/lang/Object", name := "<init>", desc := "()V" } : Jvm.MethodName) object_method_1_code (1 : Nat) (Option.none : Option Jvm.ClassFile.FieldType)).before args0 about1 = true := code_word (m := ⟨0, 0⟩) (meth := k0m0) (c := k0c0) (by decide +kernel) rfl rfl rfl (by decide +kernel)
set_option maxRecDepth 65536 in
theorem w_c3 : (Jvm.Cond.code ({ cls := "deckmill/Shuffler", name := "seed", desc := "(J)V" } : Jvm.MethodName) prog_43_method_2_code (3 : Nat) (Option.none : Option Jvm.ClassFile.FieldType)).before args0 about1 = true := code_word (m := ⟨2, 1⟩) (meth := k2m1) (c := k2c1) (by decide +kernel) rfl rfl rfl (by decide +kernel)
set_option maxRecDepth 65536 in
theorem w_c4 : (Jvm.Cond.code ({ cls := "deckmill/Shuffler", name := "nextInt", desc := "(I)I" } : Jvm.MethodName) prog_43_method_4_code (5 : Nat) (Option.some Jvm.ClassFile.FieldType.int)).before args0 about1 = true := code_word (m := ⟨2, 2⟩) (meth := k2m2) (c := k2c2) (by decide +kernel) rfl rfl rfl (by decide +kernel)
set_option maxRecDepth 65536 in
theorem w_c5 : (Jvm.Cond.code ({ cls := "deckmill/Shuffler", name := "next", desc := "()I" } : Jvm.MethodName) prog_43_method_5_code (1 : Nat) (Option.some Jvm.ClassFile.FieldType.int)).before args0 about1 = true := code_word (m := ⟨2, 3⟩) (meth := k2m3) (c := k2c3) (by decide +kernel) rfl rfl rfl (by decide +kernel)
set_option maxRecDepth 65536 in
theorem w_c6 : (Jvm.Cond.code ({ cls := "deckmill/ShufflerSeedPinLaw", name := "step", desc := "(J)J" } : Jvm.MethodName) method_2_code (2 : Nat) (Option.some Jvm.ClassFile.FieldType.long)).before args0 about1 = true := code_word (m := ⟨1, 1⟩) (meth := k1m1) (c := k1c1) (by decide +kernel) rfl rfl rfl (by decide +kernel)
def codes1 : List Jvm.Cond := [Jvm.Cond.code x code maxLocals ret, Jvm.Cond.code ({ cls := "deckmill/Shuffler", name := "<init>", desc := "(J)V" } : Jvm.MethodName) prog_43_method_1_code (3 : Nat) (Option.none : Option Jvm.ClassFile.FieldType), Jvm.Cond.code ({ cls := "java/lang/Object", name := "<init>", desc := "()V" } : Jvm.MethodName) object_method_1_code (1 : Nat) (Option.none : Option Jvm.ClassFile.FieldType), Jvm.Cond.code ({ cls := "deckmill/Shuffler", name := "seed", desc := "(J)V" } : Jvm.MethodName) prog_43_method_2_code (3 : Nat) (Option.none : Option Jvm.ClassFile.FieldType), Jvm.Cond.code ({ cls := "deckmill/Shuffler", name := "nextInt", desc := "(I)I" } : Jvm.MethodName) prog_43_method_4_code (5 : Nat) (Option.some Jvm.ClassFile.FieldType.int), Jvm.Cond.code ({ cls := "deckmill/Shuffler", name := "next", desc := "()I" } : Jvm.MethodName) prog_43_method_5_code (1 : Nat) (Option.some Jvm.ClassFile.FieldType.int), Jvm.Cond.code ({ cls := "deckmill/ShufflerSeedPinLaw", name := "step", desc := "(J)J" } : Jvm.MethodName) method_2_code (2 : Nat) (Option.some Jvm.ClassFile.FieldType.long)]
set_option maxRecDepth 65536 in
theorem codes_eq : words1.filter isCode = codes1 := rfl
theorem w_codes : ∀ c ∈ words1.filter isCode, c.before args0 about1 = true := by
  rw [codes_eq]
  intro c hc
  simp only [codes1, List.mem_cons, List.not_mem_nil, or_false] at hc
  rcases hc with rfl | rfl | rfl | rfl | rfl | rfl | rfl
  · exact w_c0
  · exact w_c1
  · exact w_c2
  · exact w_c3
  · exact w_c4
  · exact w_c5
  · exact w_c6
set_option maxRecDepth 65536 in
theorem w_t1 : (words1.take 24).all (fun c => isCode c || c.before args0 about1) = true := by decide +kernel
set_option maxRecDepth 65536 in
theorem w_t2 : (words1.drop 24).all (fun c => isCode c || c.before args0 about1) = true := by decide +kernel
theorem w_tables : (allAtoms (Jvm.Cond.code x code maxLocals ret :: tables_1)).before args0 about1 = true := by
  rw [allAtoms_all]
  show words1.all (fun c => c.before args0 about1) = true
  refine all_split ?_ w_codes
  rw [← List.take_append_drop 24 words1, List.all_append, w_t1, w_t2]
  rfl
set_option maxRecDepth 65536 in
theorem w_case : (Jvm.Cond.and given_1 narrow_1).before args0 about1 = true := by decide +kernel
theorem w_applies : (headSpec (Jvm.Cond.code x code maxLocals ret :: tables_1) room_1).applies x e0.platform about1 = true :=
  (Spec.applies_iff w_frames).mpr ⟨w_running, w_runnable, w_alone, w_named, w_hears, w_ripe, w_room, w_tables⟩
theorem atStart : AtStart classFile x code maxLocals ret World_1 tables_1 room_1 Calls_1 rest_1 Pre_1 launch0 p0 e0 about1 theMethod args0 below0 :=
  ⟨lists_1, trivial, launch0.admits_env _ _ _, launch0.least_env, fairChoices_fair.cas, fairChoices_fair.clock, w_frames, w_args, w_heap, w_applies, trivial, trivial, w_case⟩
end start1
theorem witness_1 : WitnessClaimed_1 := ⟨start1.p0, start1.e0, start1.about1, start1.theMethod, start1.args0, start1.below0, start1.atStart⟩
end Jvm.Pilot.@@N@@
