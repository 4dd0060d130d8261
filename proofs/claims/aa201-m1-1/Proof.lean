import JvmDerived
import JvmDerived.Pilot.@@N@@Statement
import JvmDerived.Pilot.@@N@@Code
set_option linter.unusedVariables false
set_option linter.unusedSimpArgs false
namespace Jvm.Pilot.@@N@@
open Jvm Jvm.ClassFile Sem Op Lib Jvm.Free Jvm.Stand Jvm.LawKit Jvm.RoadKit Bundle Jvm.Pilot.@@N@@.Jvm.D
section Own
variable {p : Program} {l : Launch} {e : Env} {R : Room} {s : State} {m : MethodId} {args : Array Value} {below : List Frame} {meth : Method} {c : Code} {T : State} {locs : List Loc} {cells slots : Nat}
/-- from the state A on the run comes to a return of the body that s was about to invoke, with Q of the value, the heap and the places written -/
def Go (En : State → Outcome → State → List Loc → Nat → Nat → Prop) (p : Program) (e : Env) (below : List Frame) (s : State) (C S : Nat) (Q : Option Value → Heap → List Loc → Prop) (A : State) : Prop :=
  ∃ s₂ o, Steps p.tables e below A s₂ ∧ s₂.status = .running ∧ Ended s₂ below o ∧ ∃ v L, o = .returned v ∧ Q v s₂.heap L ∧ En s o s₂ L C S
variable {En : State → Outcome → State → List Loc → Nat → Nat → Prop} {C S : Nat} {Q : Option Value → Heap → List Loc → Prop} {A B : State} {h : Heap}
theorem Go.step (h : ∀ t, Steps p.tables e below B t → Steps p.tables e below A t) (g : Go En p e below s C S Q B) : Go En p e below s C S Q A := by
  obtain ⟨s₂, o, h1, r⟩ := g
  exact ⟨s₂, o, h _ h1, r⟩
theorem Go.hop (h : Steps p.tables e below A B) (g : Go En p e below s C S Q B) : Go En p e below s C S Q A := Go.step (fun _ k => h.trans k) g
theorem Go.out (X : Stand p l e R s m args below meth c T locs cells slots) {v : Option Value} (hv : meth.sig.returnType = none → v = none) (hl : meth.locks = false) (eT : T.heap = h) (hc : cells ≤ C) (hs : slots ≤ S) (q : Q v h locs)
    (st : ∀ fs, (∀ (f : JFrame) (acts : List Action), f.method = m → f.locked = none → f.entered = [] → (doReturn e (T.setTop f) acts v).1 = T.setFrames fs) → Steps p.tables e below A (T.setFrames fs)) : Go FrameEnd p e below s C S Q A := by
  obtain ⟨fs, hr, hrun, hended, hW, hsame⟩ := X.leave (v := v) hv hl
  refine ⟨_, _, st fs hr, hrun, hended, _, _, rfl, ?_, ⟨_, rfl⟩, hW, hsame.mono hc hs⟩
  show Q v T.heap locs
  rw [eT]
  exact q
theorem Go.retN (X : Stand p l e R s m args below meth c T locs cells slots) (hx : p.tables.exec = Jvm.exec) {pc : Nat} {Ls : Array Slot} {z : Int32} {t : FieldType} {rest : List Value} (hret : meth.sig.returnType = some t) (ht : t = .boolean ∨ t = .byte ∨ t = .char ∨ t = .short)
    (hz : nar t z = z) (hd : decode c.code pc = .ok (.ireturn, 1)) (hl : meth.locks = false) (eT : T.heap = h) (hc : cells ≤ C) (hs : slots ≤ S) (q : Q (some (.int z)) h locs) : Go FrameEnd p e below s C S Q (T.setTop (mkF m pc Ls (.int z :: rest))) :=
  Go.out X (v := some (.int z)) (fun k => by rw [hret] at k; cases k) hl eT hc hs q fun fs hr => Jvm.RoadKit.retN X hx (t := t) hret ht hd (by rw [hz]; exact hr)
theorem Go.retI (X : Stand p l e R s m args below meth c T locs cells slots) (hx : p.tables.exec = Jvm.exec) {pc : Nat} {Ls : Array Slot} {z : Int32} {rest : List Value} (hret : meth.sig.returnType = some .int)
    (hd : decode c.code pc = .ok (.ireturn, 1)) (hl : meth.locks = false) (eT : T.heap = h) (hc : cells ≤ C) (hs : slots ≤ S) (q : Q (some (.int z)) h locs) : Go FrameEnd p e below s C S Q (T.setTop (mkF m pc Ls (.int z :: rest))) :=
  Go.out X (v := some (.int z)) (fun k => by rw [hret] at k; cases k) hl eT hc hs q fun fs hr => retOut X hx hret rfl (Or.inl ⟨rfl, Or.inl rfl, z, rfl⟩) hd hr
theorem Go.retJ (X : Stand p l e R s m args below meth c T locs cells slots) (hx : p.tables.exec = Jvm.exec) {pc : Nat} {Ls : Array Slot} {z : Int64} {rest : List Value} (hret : meth.sig.returnType = some .long)
    (hd : decode c.code pc = .ok (.lreturn, 1)) (hl : meth.locks = false) (eT : T.heap = h) (hc : cells ≤ C) (hs : slots ≤ S) (q : Q (some (.long z)) h locs) : Go FrameEnd p e below s C S Q (T.setTop (mkF m pc Ls (.long z :: rest))) :=
  Go.out X (v := some (.long z)) (fun k => by rw [hret] at k; cases k) hl eT hc hs q fun fs hr => retOut X hx hret rfl (Or.inr (Or.inl ⟨rfl, rfl, z, rfl⟩)) hd hr
theorem own_narR {t : FieldType} {v : Value} (hv : v.isRef = true) : narrow t v = v := by cases v <;> first | (cases hv; done) | (cases t <;> rfl)
theorem Go.retR (X : Stand p l e R s m args below meth c T locs cells slots) (hx : p.tables.exec = Jvm.exec) {pc : Nat} {Ls : Array Slot} {v : Value} {t : FieldType} {rest : List Value} (hret : meth.sig.returnType = some t) (ht : t.isReference = true) (hv : v.isRef = true)
    (hd : decode c.code pc = .ok (.areturn, 1)) (hl : meth.locks = false) (eT : T.heap = h) (hc : cells ≤ C) (hs : slots ≤ S) (q : Q (some v) h locs) : Go FrameEnd p e below s C S Q (T.setTop (mkF m pc Ls (v :: rest))) :=
  Go.out X (v := some v) (fun k => by rw [hret] at k; cases k) hl eT hc hs q fun fs hr => retOut X hx hret (own_narR hv) (Or.inr (Or.inr (Or.inr (Or.inr ⟨rfl, ht, hv⟩)))) hd hr
theorem Go.ret0 (X : Stand p l e R s m args below meth c T locs cells slots) (hx : p.tables.exec = Jvm.exec) {pc : Nat} {Ls : Array Slot} (hret : meth.sig.returnType = none)
    (hd : decode c.code pc = .ok (.return_, 1)) (hl : meth.locks = false) (eT : T.heap = h) (hc : cells ≤ C) (hs : slots ≤ S) (q : Q none h locs) : Go FrameEnd p e below s C S Q (T.setTop (mkF m pc Ls [])) :=
  Go.out X (v := none) (fun _ => rfl) hl eT hc hs q fun fs hr => X.returnOut hx hret hd hr
theorem Go.outW {vm0 : Vm} {k0 : Nat} (X : Stand p l e R (s.setVm vm0) m args below meth c T locs cells slots) (hS : s.Since vm0 k0) (hk : k0 ≤ h.size) {v : Option Value} (hv : meth.sig.returnType = none → v = none) (hl : meth.locks = false) (eT : T.heap = h) (hc : cells ≤ C) (hs : slots ≤ S) (q : Q v h locs)
    (st : ∀ fs, (∀ (f : JFrame) (acts : List Action), f.method = m → f.locked = none → f.entered = [] → (doReturn e (T.setTop f) acts v).1 = T.setFrames fs) → Steps p.tables e below A (T.setFrames fs)) : Go ReturnedEndW p e below s C S Q A := by
  obtain ⟨fs, hr, hrun, hended, hq1, hq2, hq3, hq4⟩ := X.leaveW hS (by rw [eT]; exact hk) (v := v) hv hl
  refine ⟨_, _, st fs hr, hrun, hended, _, _, rfl, ?_, hq1, hq2, hq3, hq4.mono hc hs⟩
  show Q v T.heap locs
  rw [eT]
  exact q
theorem Go.retNW {vm0 : Vm} {k0 : Nat} (X : Stand p l e R (s.setVm vm0) m args below meth c T locs cells slots) (hS : s.Since vm0 k0) (hk : k0 ≤ h.size) (hx : p.tables.exec = Jvm.exec) {pc : Nat} {Ls : Array Slot} {z : Int32} {t : FieldType} {rest : List Value} (hret : meth.sig.returnType = some t) (ht : t = .boolean ∨ t = .byte ∨ t = .char ∨ t = .short)
    (hz : nar t z = z) (hd : decode c.code pc = .ok (.ireturn, 1)) (hl : meth.locks = false) (eT : T.heap = h) (hc : cells ≤ C) (hs : slots ≤ S) (q : Q (some (.int z)) h locs) : Go ReturnedEndW p e below s C S Q (T.setTop (mkF m pc Ls (.int z :: rest))) :=
  Go.outW X hS hk (v := some (.int z)) (fun k => by rw [hret] at k; cases k) hl eT hc hs q fun fs hr => Jvm.RoadKit.retN X hx (t := t) hret ht hd (by rw [hz]; exact hr)
theorem Go.retIW {vm0 : Vm} {k0 : Nat} (X : Stand p l e R (s.setVm vm0) m args below meth c T locs cells slots) (hS : s.Since vm0 k0) (hk : k0 ≤ h.size) (hx : p.tables.exec = Jvm.exec) {pc : Nat} {Ls : Array Slot} {z : Int32} {rest : List Value} (hret : meth.sig.returnType = some .int)
    (hd : decode c.code pc = .ok (.ireturn, 1)) (hl : meth.locks = false) (eT : T.heap = h) (hc : cells ≤ C) (hs : slots ≤ S) (q : Q (some (.int z)) h locs) : Go ReturnedEndW p e below s C S Q (T.setTop (mkF m pc Ls (.int z :: rest))) :=
  Go.outW X hS hk (v := some (.int z)) (fun k => by rw [hret] at k; cases k) hl eT hc hs q fun fs hr => retOut X hx hret rfl (Or.inl ⟨rfl, Or.inl rfl, z, rfl⟩) hd hr
theorem Go.retJW {vm0 : Vm} {k0 : Nat} (X : Stand p l e R (s.setVm vm0) m args below meth c T locs cells slots) (hS : s.Since vm0 k0) (hk : k0 ≤ h.size) (hx : p.tables.exec = Jvm.exec) {pc : Nat} {Ls : Array Slot} {z : Int64} {rest : List Value} (hret : meth.sig.returnType = some .long)
    (hd : decode c.code pc = .ok (.lreturn, 1)) (hl : meth.locks = false) (eT : T.heap = h) (hc : cells ≤ C) (hs : slots ≤ S) (q : Q (some (.long z)) h locs) : Go ReturnedEndW p e below s C S Q (T.setTop (mkF m pc Ls (.long z :: rest))) :=
  Go.outW X hS hk (v := some (.long z)) (fun k => by rw [hret] at k; cases k) hl eT hc hs q fun fs hr => retOut X hx hret rfl (Or.inr (Or.inl ⟨rfl, rfl, z, rfl⟩)) hd hr
theorem Go.retRW {vm0 : Vm} {k0 : Nat} (X : Stand p l e R (s.setVm vm0) m args below meth c T locs cells slots) (hS : s.Since vm0 k0) (hk : k0 ≤ h.size) (hx : p.tables.exec = Jvm.exec) {pc : Nat} {Ls : Array Slot} {v : Value} {t : FieldType} {rest : List Value} (hret : meth.sig.returnType = some t) (ht : t.isReference = true) (hv : v.isRef = true)
    (hd : decode c.code pc = .ok (.areturn, 1)) (hl : meth.locks = false) (eT : T.heap = h) (hc : cells ≤ C) (hs : slots ≤ S) (q : Q (some v) h locs) : Go ReturnedEndW p e below s C S Q (T.setTop (mkF m pc Ls (v :: rest))) :=
  Go.outW X hS hk (v := some v) (fun k => by rw [hret] at k; cases k) hl eT hc hs q fun fs hr => retOut X hx hret (own_narR hv) (Or.inr (Or.inr (Or.inr (Or.inr ⟨rfl, ht, hv⟩)))) hd hr
theorem Go.ret0W {vm0 : Vm} {k0 : Nat} (X : Stand p l e R (s.setVm vm0) m args below meth c T locs cells slots) (hS : s.Since vm0 k0) (hk : k0 ≤ h.size) (hx : p.tables.exec = Jvm.exec) {pc : Nat} {Ls : Array Slot} (hret : meth.sig.returnType = none)
    (hd : decode c.code pc = .ok (.return_, 1)) (hl : meth.locks = false) (eT : T.heap = h) (hc : cells ≤ C) (hs : slots ≤ S) (q : Q none h locs) : Go ReturnedEndW p e below s C S Q (T.setTop (mkF m pc Ls [])) :=
  Go.outW X hS hk (v := none) (fun _ => rfl) hl eT hc hs q fun fs hr => X.returnOut hx hret hd hr
theorem own_lrem {g : JFrame} {target : State} (X : Stand p l e R s m args below meth c T locs cells slots) (hx : p.tables.exec = Jvm.exec) (hg : g.method = m) {x y : Int64} {rest : List Value} (hd : decode c.code g.pc = .ok (.lrem, 1)) (hs : g.stack = .long y :: .long x :: rest) (hy : y ≠ 0)
    (hr : Steps p.tables e below (T.setTop { g with pc := g.pc + 1, stack := .long (x % y) :: rest }) target) : Steps p.tables e below (T.setTop g) target := by
  have q : x - x / y * y = x % y := lrem_mod x y
  exact XS.lrem X.here hx hg hd hs hy (by rw [q]; exact hr)
theorem own_fitR {t : FieldType} {v : Value} (ht : t.isReference = true) (hv : v.isRef = true) : fits t v = true := by cases v <;> first | (cases hv; done) | (cases t <;> first | rfl | cases ht)
variable {Z : State} {h' : Heap} {a b : Addr} {ty : FieldType} {n i sl : Nat} {f : Nat → Value} {v w : Value} {cl : Cell} {j z : Int32} {k : ClassId} {ws : List Addr}
/-- the array at a has n places; place j holds f j -/
def Av (Z : State) (h : Heap) (a : Addr) (ty : FieldType) (n : Nat) (f : Nat → Value) : Prop := ∃ c : Cell, Arr Z h a c ty ∧ c.slots.size = n ∧ n < 2147483648 ∧ ∀ j, j < n → c.slots[j]? = some (f j)
def aset (f : Nat → Value) (i : Nat) (v : Value) : Nat → Value := fun j => if j = i then v else f j
theorem Av.lt (F : Av Z h a ty n f) : a < h.size := by obtain ⟨c, A, -⟩ := F; exact A.lt
theorem Av.ext (F : Av Z h a ty n f) (E : Ext h h') : Av Z h' a ty n f := by obtain ⟨c, A, r⟩ := F; exact ⟨c, A.ext E, r⟩
theorem Av.other (F : Av Z h b ty n f) (W : Wr h h' a sl v) (q : b ≠ a) : Av Z h' b ty n f := by obtain ⟨c, A, r⟩ := F; exact ⟨c, A.other W q, r⟩
theorem Av.keep (F : Av Z h a ty n f) (K : Keep h h' ws) (q : a ∉ ws) : Av Z h' a ty n f := by obtain ⟨c, A, r⟩ := F; exact ⟨c, ⟨K.2.1 a c A.1 q, A.2⟩, r⟩
theorem Av.eq (F : Av Z h a ty n f) {g : Nat → Value} (q : ∀ j, j < n → f j = g j) : Av Z h a ty n g := by obtain ⟨c, A, r1, r2, r3⟩ := F; exact ⟨c, A, r1, r2, fun j hj => by rw [← q j hj]; exact r3 j hj⟩
theorem own_clamp (q : ¬ z < 0) : z.toNatClampNeg < 2147483648 := (back32 q).2
theorem Av.new (A : Arr Z h a (newA k ty z) ty) (q : ¬ z < 0) (e : z.toNatClampNeg = n) : Av Z h a ty n (fun _ => defaultValue ty) := by
  refine ⟨_, A, by rw [sz_new, e], by rw [← e]; exact own_clamp q, fun j hj => ?_⟩
  have q2 : (newA k ty z).slots = Array.replicate z.toNatClampNeg (defaultValue ty) := rfl
  rw [q2, Array.getElem?_replicate, e, if_pos hj]
theorem own_in {c : Cell} (S : c.slots.size = n) (h0 : ¬ j < 0) (h : j.toNatClampNeg < n) : ¬ (j < 0 ∨ c.slots.size ≤ j.toNatClampNeg) := by
  rw [S]; exact fun q => q.elim h0 (Nat.not_le.mpr h)
theorem Av.at {c : Cell} (G : ∀ j, j < n → c.slots[j]? = some (f j)) (e : j.toNatClampNeg = i) (hi : i < n) (w : f i = v) : c.slots[j.toNatClampNeg]? = some v := by rw [e, G i hi, w]
theorem own_slots (c : Cell) (i : Nat) (v : Value) : (c.setSlot i v).slots = c.slots.setIfInBounds i v := rfl
theorem Av.set {c : Cell} (A : Arr Z h a c ty) (S : c.slots.size = n) (M : n < 2147483648) (G : ∀ j, j < n → c.slots[j]? = some (f j)) (W : Wr h h' a j.toNatClampNeg v) (e : j.toNatClampNeg = i) (hin : ¬ (j < 0 ∨ c.slots.size ≤ j.toNatClampNeg)) : Av Z h' a ty n (aset f i v) := by
  have hi : i < c.slots.size := by rw [← e]; exact Nat.lt_of_not_le fun q => hin (Or.inr q)
  refine ⟨_, A.same W, by rw [sz_set]; exact S, M, fun q hq => ?_⟩
  rw [own_slots, e, Array.getElem?_setIfInBounds]
  by_cases r : i = q
  · subst r
    rw [if_pos rfl, if_pos hi]; simp [aset]
  · rw [if_neg r, G q hq]
    show some (f q) = some (if q = i then v else f q)
    rw [if_neg (Ne.symm r)]
theorem own_int_v {aa : Array Value} {t : Term} {k : Int32} (he : (Cond.eq t (.int k)).value aa Z none Z [] = some true) : t.eval aa Z none [] Z = some (.int k) := by
  have hk : (Term.int k).eval aa Z none [] Z = some (.int k) := Term.int_eval k
  cases ht : t.eval aa Z none [] Z with
  | none => simp [Cond.value, ht] at he
  | some x => cases x <;> simp_all [Cond.value]
theorem own_enum {aa : Array Value} {t : Term} {C D n d : String} {k : Int32} (hx : (Cond.exactly t C).value aa Z none Z [] = some true) (he : (Cond.eq (.field t D n d) (.int k)).value aa Z none Z [] = some true) :
    ∃ x : Addr, t.eval aa Z none [] Z = some (.ref x) ∧ Exa Z Z.heap x C ∧ Fld Z Z.heap x D n d (.int k) := by
  obtain ⟨x, hv⟩ := exa_v hx
  exact ⟨x, hv, Exa.start hv hx, Fld.start (by rw [← fld_at hv]; exact own_int_v he)⟩
theorem own_self {y z : MethodName} (hz : (Cond.selects z.cls z z).before args s = true) (e : z.cls = y.cls) (hp : s.PrivateAt y) (hi : (Cond.instanceMethod y).before args s = true) (hy : y.cls ≠ "java/lang/invoke/MethodHandle" ∧ y.cls ≠ "java/lang/invoke/VarHandle") : (Cond.selects y.cls y y).before args s = true := by
  obtain ⟨c2, r2, m2, q1, -, q3, -, kP, hkP, hkPi⟩ := Cond.selects_spec hz
  have q := findClass_of_methodNamed q3
  rw [e] at q
  exact selects_self_of_private q hkP hkPi hp hi hy
def ushI (x y : Int32) : Int32 := (x.toUInt32 >>> (y &&& 31).toUInt32).toInt32
def ushL (x : Int64) (y : Int32) : Int64 := (x.toUInt64 >>> (y &&& 0x3f).toInt64.toUInt64).toInt64
theorem own_nar8 (a : Int32) : nar .byte a.toInt8.toInt32 = a.toInt8.toInt32 := by show a.toInt8.toInt32.toInt8.toInt32 = _; simp
theorem own_nar16 (a : Int32) : nar .char a.toUInt32.toUInt16.toUInt32.toInt32 = a.toUInt32.toUInt16.toUInt32.toInt32 := by
  show a.toUInt32.toUInt16.toUInt32.toInt32.toUInt32.toUInt16.toUInt32.toInt32 = _
  rw [show a.toUInt32.toUInt16.toUInt32.toInt32.toUInt32 = a.toUInt32.toUInt16.toUInt32 from rfl, UInt16.toUInt16_toUInt32]
theorem own_sta_keep {C d nm : String} (F : Sta Z h C nm d w) (K : Keep h h' []) : Sta Z h' C nm d w := by
  obtain ⟨cf, i, k, f, st, cell, h1, h2, h3, h4, h5, r⟩ := F
  exact ⟨cf, i, k, f, st, cell, h1, h2, h3, h4, K.2.1 _ _ h5 nin0, r⟩
theorem own_ext_keep (E : Ext h h') : Keep h h' [] := (Keep.refl h []).ext E
theorem own_keep_eq (e : h' = h) (ws : List Addr) : Keep h h' ws := by rw [e]; exact Keep.refl _ _
end Own
theorem pn_com_example_quotewire_quotewire_codec_Decimal : plainName "com/example/quotewire/quotewire/codec/Decimal" = true := by first | (simp [plainName, overriddenIn]; done) | decide +kernel
theorem d_prog_16_method_2_code_0 : decode prog_16_method_2_code 0 = .ok (.lload_n 0, 1) := by decide +kernel
theorem d_prog_16_method_2_code_1 : decode prog_16_method_2_code 1 = .ok (.lconst 0, 1) := by decide +kernel
theorem d_prog_16_method_2_code_2 : decode prog_16_method_2_code 2 = .ok (.lcmp, 1) := by decide +kernel
theorem d_prog_16_method_2_code_3 : decode prog_16_method_2_code 3 = .ok (.ifCond .lt 85, 3) := by decide +kernel
theorem d_prog_16_method_2_code_88 : decode prog_16_method_2_code 88 = .ok (.iload_n 3, 1) := by decide +kernel
theorem d_prog_16_method_2_code_89 : decode prog_16_method_2_code 89 = .ok (.istore 4, 2) := by decide +kernel
theorem d_prog_16_method_2_code_91 : decode prog_16_method_2_code 91 = .ok (.lload_n 0, 1) := by decide +kernel
theorem d_prog_16_method_2_code_92 : decode prog_16_method_2_code 92 = .ok (.lconst 0, 1) := by decide +kernel
theorem d_prog_16_method_2_code_93 : decode prog_16_method_2_code 93 = .ok (.lcmp, 1) := by decide +kernel
theorem d_prog_16_method_2_code_94 : decode prog_16_method_2_code 94 = .ok (.ifCond .ge 12, 3) := by decide +kernel
theorem d_prog_16_method_2_code_97 : decode prog_16_method_2_code 97 = .ok (.aload_n 2, 1) := by decide +kernel
theorem d_prog_16_method_2_code_98 : decode prog_16_method_2_code 98 = .ok (.iload 4, 2) := by decide +kernel
theorem d_prog_16_method_2_code_100 : decode prog_16_method_2_code 100 = .ok (.iinc 4 1, 3) := by decide +kernel
theorem d_prog_16_method_2_code_103 : decode prog_16_method_2_code 103 = .ok (.bipush 45, 2) := by decide +kernel
theorem d_prog_16_method_2_code_105 : decode prog_16_method_2_code 105 = .ok (.bastore, 1) := by decide +kernel
theorem d_prog_16_method_2_code_106 : decode prog_16_method_2_code 106 = .ok (.lload_n 0, 1) := by decide +kernel
theorem d_prog_16_method_2_code_107 : decode prog_16_method_2_code 107 = .ok (.lconst 0, 1) := by decide +kernel
theorem d_prog_16_method_2_code_108 : decode prog_16_method_2_code 108 = .ok (.lcmp, 1) := by decide +kernel
theorem d_prog_16_method_2_code_109 : decode prog_16_method_2_code 109 = .ok (.ifCond .ge 7, 3) := by decide +kernel
theorem d_prog_16_method_2_code_112 : decode prog_16_method_2_code 112 = .ok (.lload_n 0, 1) := by decide +kernel
theorem d_prog_16_method_2_code_113 : decode prog_16_method_2_code 113 = .ok (.goto 5, 3) := by decide +kernel
theorem d_prog_16_method_2_code_118 : decode prog_16_method_2_code 118 = .ok (.lstore 5, 2) := by decide +kernel
theorem d_prog_16_method_2_code_120 : decode prog_16_method_2_code 120 = .ok (.iconst 1, 1) := by decide +kernel
theorem d_prog_16_method_2_code_121 : decode prog_16_method_2_code 121 = .ok (.istore 7, 2) := by decide +kernel
theorem d_prog_16_method_2_code_123 : decode prog_16_method_2_code 123 = .ok (.ldc2_w 17, 3) := by decide +kernel
theorem d_prog_16_method_2_code_126 : decode prog_16_method_2_code 126 = .ok (.lstore 8, 2) := by decide +kernel
theorem d_prog_16_method_2_code_128 : decode prog_16_method_2_code 128 = .ok (.iload 7, 2) := by decide +kernel
theorem d_prog_16_method_2_code_157 : decode prog_16_method_2_code 157 = .ok (.iload 4, 2) := by decide +kernel
theorem d_prog_16_method_2_code_159 : decode prog_16_method_2_code 159 = .ok (.iload 7, 2) := by decide +kernel
theorem d_prog_16_method_2_code_161 : decode prog_16_method_2_code 161 = .ok (.iadd, 1) := by decide +kernel
theorem d_prog_16_method_2_code_162 : decode prog_16_method_2_code 162 = .ok (.iconst 1, 1) := by decide +kernel
theorem d_prog_16_method_2_code_163 : decode prog_16_method_2_code 163 = .ok (.isub, 1) := by decide +kernel
theorem d_prog_16_method_2_code_164 : decode prog_16_method_2_code 164 = .ok (.istore 8, 2) := by decide +kernel
theorem d_prog_16_method_2_code_166 : decode prog_16_method_2_code 166 = .ok (.iload 8, 2) := by decide +kernel
theorem d_prog_16_method_2_code_168 : decode prog_16_method_2_code 168 = .ok (.iload 4, 2) := by decide +kernel
theorem d_prog_16_method_2_code_170 : decode prog_16_method_2_code 170 = .ok (.if_icmp .lt 33, 3) := by decide +kernel
theorem d_prog_16_method_2_code_203 : decode prog_16_method_2_code 203 = .ok (.iload 4, 2) := by decide +kernel
theorem d_prog_16_method_2_code_205 : decode prog_16_method_2_code 205 = .ok (.iload 7, 2) := by decide +kernel
theorem d_prog_16_method_2_code_207 : decode prog_16_method_2_code 207 = .ok (.iadd, 1) := by decide +kernel
theorem d_prog_16_method_2_code_208 : decode prog_16_method_2_code 208 = .ok (.ireturn, 1) := by decide +kernel
theorem d_prog_16_method_2_code_173 : decode prog_16_method_2_code 173 = .ok (.aload_n 2, 1) := by decide +kernel
theorem d_prog_16_method_2_code_174 : decode prog_16_method_2_code 174 = .ok (.iload 8, 2) := by decide +kernel
theorem d_prog_16_method_2_code_176 : decode prog_16_method_2_code 176 = .ok (.ldc2_w 21, 3) := by decide +kernel
theorem d_prog_16_method_2_code_179 : decode prog_16_method_2_code 179 = .ok (.lload 5, 2) := by decide +kernel
theorem d_prog_16_method_2_code_181 : decode prog_16_method_2_code 181 = .ok (.ldc2_w 19, 3) := by decide +kernel
theorem d_prog_16_method_2_code_184 : decode prog_16_method_2_code 184 = .ok (.lrem, 1) := by decide +kernel
theorem d_prog_16_method_2_code_185 : decode prog_16_method_2_code 185 = .ok (.lsub, 1) := by decide +kernel
theorem d_prog_16_method_2_code_186 : decode prog_16_method_2_code 186 = .ok (.l2i, 1) := by decide +kernel
theorem d_prog_16_method_2_code_187 : decode prog_16_method_2_code 187 = .ok (.i2b, 1) := by decide +kernel
theorem d_prog_16_method_2_code_188 : decode prog_16_method_2_code 188 = .ok (.bastore, 1) := by decide +kernel
theorem d_prog_16_method_2_code_189 : decode prog_16_method_2_code 189 = .ok (.lload 5, 2) := by decide +kernel
theorem d_prog_16_method_2_code_191 : decode prog_16_method_2_code 191 = .ok (.ldc2_w 19, 3) := by decide +kernel
theorem d_prog_16_method_2_code_194 : decode prog_16_method_2_code 194 = .ok (.ldiv, 1) := by decide +kernel
theorem d_prog_16_method_2_code_195 : decode prog_16_method_2_code 195 = .ok (.lstore 5, 2) := by decide +kernel
theorem d_prog_16_method_2_code_197 : decode prog_16_method_2_code 197 = .ok (.iinc 8 (-1), 3) := by decide +kernel
theorem d_prog_16_method_2_code_200 : decode prog_16_method_2_code 200 = .ok (.goto (-34), 3) := by decide +kernel
theorem d_prog_16_method_2_code_130 : decode prog_16_method_2_code 130 = .ok (.bipush 19, 2) := by decide +kernel
theorem d_prog_16_method_2_code_132 : decode prog_16_method_2_code 132 = .ok (.if_icmp .ge 25, 3) := by decide +kernel
theorem d_prog_16_method_2_code_135 : decode prog_16_method_2_code 135 = .ok (.lload 5, 2) := by decide +kernel
theorem d_prog_16_method_2_code_137 : decode prog_16_method_2_code 137 = .ok (.lload 8, 2) := by decide +kernel
theorem d_prog_16_method_2_code_139 : decode prog_16_method_2_code 139 = .ok (.lcmp, 1) := by decide +kernel
theorem d_prog_16_method_2_code_140 : decode prog_16_method_2_code 140 = .ok (.ifCond .gt 17, 3) := by decide +kernel
theorem d_prog_16_method_2_code_143 : decode prog_16_method_2_code 143 = .ok (.iinc 7 1, 3) := by decide +kernel
theorem d_prog_16_method_2_code_146 : decode prog_16_method_2_code 146 = .ok (.lload 8, 2) := by decide +kernel
theorem d_prog_16_method_2_code_148 : decode prog_16_method_2_code 148 = .ok (.ldc2_w 19, 3) := by decide +kernel
theorem d_prog_16_method_2_code_151 : decode prog_16_method_2_code 151 = .ok (.lmul, 1) := by decide +kernel
theorem d_prog_16_method_2_code_152 : decode prog_16_method_2_code 152 = .ok (.lstore 8, 2) := by decide +kernel
theorem d_prog_16_method_2_code_154 : decode prog_16_method_2_code 154 = .ok (.goto (-26), 3) := by decide +kernel
theorem d_prog_16_method_2_code_6 : decode prog_16_method_2_code 6 = .ok (.lload_n 0, 1) := by decide +kernel
theorem d_prog_16_method_2_code_7 : decode prog_16_method_2_code 7 = .ok (.ldc2_w 9, 3) := by decide +kernel
theorem d_prog_16_method_2_code_10 : decode prog_16_method_2_code 10 = .ok (.lcmp, 1) := by decide +kernel
theorem d_prog_16_method_2_code_11 : decode prog_16_method_2_code 11 = .ok (.ifCond .gt 77, 3) := by decide +kernel
theorem d_prog_16_method_2_code_116 : decode prog_16_method_2_code 116 = .ok (.lload_n 0, 1) := by decide +kernel
theorem d_prog_16_method_2_code_117 : decode prog_16_method_2_code 117 = .ok (.lneg, 1) := by decide +kernel
theorem d_prog_16_method_2_code_14 : decode prog_16_method_2_code 14 = .ok (.lload_n 0, 1) := by decide +kernel
theorem d_prog_16_method_2_code_47 : decode prog_16_method_2_code 47 = .ok (.iload_n 3, 1) := by decide +kernel
theorem d_prog_16_method_2_code_48 : decode prog_16_method_2_code 48 = .ok (.iload 5, 2) := by decide +kernel
theorem d_prog_16_method_2_code_50 : decode prog_16_method_2_code 50 = .ok (.iadd, 1) := by decide +kernel
theorem d_prog_16_method_2_code_51 : decode prog_16_method_2_code 51 = .ok (.istore 6, 2) := by decide +kernel
theorem d_prog_16_method_2_code_53 : decode prog_16_method_2_code 53 = .ok (.iload 6, 2) := by decide +kernel
theorem d_prog_16_method_2_code_55 : decode prog_16_method_2_code 55 = .ok (.istore 7, 2) := by decide +kernel
theorem d_prog_16_method_2_code_57 : decode prog_16_method_2_code 57 = .ok (.aload_n 2, 1) := by decide +kernel
theorem d_prog_16_method_2_code_58 : decode prog_16_method_2_code 58 = .ok (.iinc 7 (-1), 3) := by decide +kernel
theorem d_prog_16_method_2_code_61 : decode prog_16_method_2_code 61 = .ok (.iload 7, 2) := by decide +kernel
theorem d_prog_16_method_2_code_63 : decode prog_16_method_2_code 63 = .ok (.bipush 48, 2) := by decide +kernel
theorem d_prog_16_method_2_code_65 : decode prog_16_method_2_code 65 = .ok (.iload 4, 2) := by decide +kernel
theorem d_prog_16_method_2_code_67 : decode prog_16_method_2_code 67 = .ok (.bipush 10, 2) := by decide +kernel
theorem d_prog_16_method_2_code_69 : decode prog_16_method_2_code 69 = .ok (.irem, 1) := by decide +kernel
theorem d_prog_16_method_2_code_70 : decode prog_16_method_2_code 70 = .ok (.iadd, 1) := by decide +kernel
theorem d_prog_16_method_2_code_71 : decode prog_16_method_2_code 71 = .ok (.i2b, 1) := by decide +kernel
theorem d_prog_16_method_2_code_72 : decode prog_16_method_2_code 72 = .ok (.bastore, 1) := by decide +kernel
theorem d_prog_16_method_2_code_73 : decode prog_16_method_2_code 73 = .ok (.iload 4, 2) := by decide +kernel
theorem d_prog_16_method_2_code_75 : decode prog_16_method_2_code 75 = .ok (.bipush 10, 2) := by decide +kernel
theorem d_prog_16_method_2_code_77 : decode prog_16_method_2_code 77 = .ok (.idiv, 1) := by decide +kernel
theorem d_prog_16_method_2_code_78 : decode prog_16_method_2_code 78 = .ok (.istore 4, 2) := by decide +kernel
theorem d_prog_16_method_2_code_80 : decode prog_16_method_2_code 80 = .ok (.iload 4, 2) := by decide +kernel
theorem d_prog_16_method_2_code_82 : decode prog_16_method_2_code 82 = .ok (.ifCond .ne (-25), 3) := by decide +kernel
theorem d_prog_16_method_2_code_85 : decode prog_16_method_2_code 85 = .ok (.iload 6, 2) := by decide +kernel
theorem d_prog_16_method_2_code_87 : decode prog_16_method_2_code 87 = .ok (.ireturn, 1) := by decide +kernel
theorem d_prog_16_method_2_code_15 : decode prog_16_method_2_code 15 = .ok (.l2i, 1) := by decide +kernel
theorem d_prog_16_method_2_code_16 : decode prog_16_method_2_code 16 = .ok (.istore 4, 2) := by decide +kernel
theorem d_prog_16_method_2_code_18 : decode prog_16_method_2_code 18 = .ok (.iconst 1, 1) := by decide +kernel
theorem d_prog_16_method_2_code_19 : decode prog_16_method_2_code 19 = .ok (.istore 5, 2) := by decide +kernel
theorem d_prog_16_method_2_code_21 : decode prog_16_method_2_code 21 = .ok (.iload 5, 2) := by decide +kernel
theorem d_prog_16_method_2_code_23 : decode prog_16_method_2_code 23 = .ok (.getstatic 11, 3) := by decide +kernel
theorem d_prog_16_method_2_code_26 : decode prog_16_method_2_code 26 = .ok (.arraylength, 1) := by decide +kernel
theorem d_prog_16_method_2_code_27 : decode prog_16_method_2_code 27 = .ok (.if_icmp .ge 20, 3) := by decide +kernel
theorem d_prog_16_method_2_code_30 : decode prog_16_method_2_code 30 = .ok (.iload 4, 2) := by decide +kernel
theorem d_prog_16_method_2_code_32 : decode prog_16_method_2_code 32 = .ok (.getstatic 11, 3) := by decide +kernel
theorem d_prog_16_method_2_code_35 : decode prog_16_method_2_code 35 = .ok (.iload 5, 2) := by decide +kernel
theorem d_prog_16_method_2_code_37 : decode prog_16_method_2_code 37 = .ok (.iaload, 1) := by decide +kernel
theorem d_prog_16_method_2_code_38 : decode prog_16_method_2_code 38 = .ok (.if_icmp .lt 9, 3) := by decide +kernel
theorem d_prog_16_method_2_code_41 : decode prog_16_method_2_code 41 = .ok (.iinc 5 1, 3) := by decide +kernel
theorem d_prog_16_method_2_code_44 : decode prog_16_method_2_code 44 = .ok (.goto (-23), 3) := by decide +kernel
theorem pn_com_example_quotewire_quotewire_codec_DecimalWritePinLaw : plainName "com/example/quotewire/quotewire/codec/DecimalWritePinLaw" = true := by first | (simp [plainName, overriddenIn]; done) | decide +kernel
theorem pd__J_BI_I : parseMethodDescriptor "(J[BI)I" = some ⟨[.long, (.array .byte), .int], some .int⟩ := by decide +kernel

theorem own_of1 (i : Nat) : Int32.ofNat i + (1 : Int32) = Int32.ofNat (i + 1) := by
  show Int32.ofNat i + Int32.ofNat 1 = _
  rw [← Int32.ofNat_add]
theorem own_ofa (i j : Nat) : Int32.ofNat i + Int32.ofNat j = Int32.ofNat (i + j) := by rw [← Int32.ofNat_add]
theorem own_ofI {i : Nat} (h : i < 2147483648) : (Int32.ofNat i).toInt = i := Int32.toInt_ofNat_of_lt (by omega)
theorem own_nn {i : Nat} (h : i < 2147483648) : ¬ Int32.ofNat i < 0 := by
  rw [Int32.lt_iff_toInt_lt, own_ofI h]; show ¬ (i : Int) < 0; omega
theorem own_cl {i : Nat} (h : i < 2147483648) : (Int32.ofNat i).toNatClampNeg = i := by
  show (Int32.ofNat i).toInt.toNat = i; rw [own_ofI h]; omega
theorem own_lt {i j : Nat} (hi : i < 2147483648) (hj : j < 2147483648) : Int32.ofNat i < Int32.ofNat j ↔ i < j := by
  rw [Int32.lt_iff_toInt_lt, own_ofI hi, own_ofI hj]; omega
theorem own_inj {i j : Nat} (hi : i < 2147483648) (hj : j < 2147483648) : Int32.ofNat i = Int32.ofNat j ↔ i = j := by
  rw [← Int32.toInt_inj, own_ofI hi, own_ofI hj]; omega
theorem own_eqI {a b : Int32} (h : a.toInt = b.toInt) : a = b := Int32.toInt_inj.mp h
theorem own_sub {i j : Nat} (hi : i < 2147483648) (h : j ≤ i) : Int32.ofNat i - Int32.ofNat j = Int32.ofNat (i - j) := by
  apply own_eqI
  have a := c_isub (Int32.ofNat i) (Int32.ofNat j)
  have b := rng32 (Int32.ofNat i - Int32.ofNat j)
  rw [own_ofI hi, own_ofI (by omega)] at a
  rw [own_ofI (by omega)]; omega
theorem own_sub1 {i : Nat} (hi : i < 2147483648) (h : 1 ≤ i) : Int32.ofNat i - (1 : Int32) = Int32.ofNat (i - 1) := own_sub (j := 1) hi h
theorem own_dec {i : Nat} (hi : i < 2147483648) (h : 1 ≤ i) : Int32.ofNat i + (-1 : Int32) = Int32.ofNat (i - 1) := by
  rw [← own_sub1 hi h]
  apply own_eqI
  have a := c_isub (Int32.ofNat i) 1
  have b := rng32 (Int32.ofNat i - 1)
  have c := c_iadd (Int32.ofNat i) (-1)
  have d := rng32 (Int32.ofNat i + (-1))
  have e1 : (1 : Int32).toInt = 1 := by decide
  have e2 : (-1 : Int32).toInt = -1 := by decide
  omega
/-- the negative of a natural, as a long -/
def ng (n : Nat) : Int64 := Int64.ofInt (-(n : Int))
theorem ng_toInt {n : Nat} (h : n ≤ 9223372036854775808) : (ng n).toInt = -(n : Int) := by
  unfold ng
  rw [Int64.toInt_ofInt_of_le (by show -9223372036854775808 ≤ _; omega) (by show _ < (9223372036854775808 : Int); omega)]
theorem own_eqL {a b : Int64} (h : a.toInt = b.toInt) : a = b := Int64.toInt_inj.mp h
theorem ng_lt {i j : Nat} (hi : i ≤ 9223372036854775808) (hj : j ≤ 9223372036854775808) : ng i < ng j ↔ j < i := by
  rw [Int64.lt_iff_toInt_lt, ng_toInt hi, ng_toInt hj]; omega
theorem ng_mul (n : Nat) : ng n * (10 : Int64) = ng (n * 10) := by
  unfold ng
  show Int64.ofInt _ * Int64.ofInt 10 = _
  rw [← Int64.ofInt_mul]; congr 1; push_cast; omega
def p10 : Nat → Nat
  | 0 => 1
  | k + 1 => p10 k * 10
theorem p10_pos : ∀ k, 1 ≤ p10 k
  | 0 => Nat.le_refl 1
  | k + 1 => by have := p10_pos k; show 1 ≤ p10 k * 10; omega
theorem p10_le {a b : Nat} (h : a ≤ b) : p10 a ≤ p10 b := by
  induction b with
  | zero => rw [show a = 0 from by omega]; exact Nat.le_refl _
  | succ b ih =>
    rcases Nat.lt_or_ge b a with q | q
    · rw [show a = b + 1 from by omega]; exact Nat.le_refl _
    · have := ih q; show p10 a ≤ p10 b * 10; omega
theorem p10_19 {d : Nat} (h : d ≤ 18) : p10 d ≤ 1000000000000000000 := p10_le (b := 18) h
theorem p10_9 {d : Nat} (h : d ≤ 9) : p10 d ≤ 1000000000 := p10_le (b := 9) h
/-- d is the number of M's digits -/
def Dg (M d : Nat) : Prop := 1 ≤ d ∧ d ≤ 19 ∧ M < p10 d ∧ (d = 1 ∨ p10 (d - 1) ≤ M)
theorem div_next (M c : Nat) : M / p10 c / 10 = M / p10 (c + 1) := Nat.div_div_eq_div_mul M (p10 c) 10
theorem div_zero {M d : Nat} (h : M < p10 d) : M / p10 d = 0 := Nat.div_eq_of_lt h
theorem div_pos' {M d c : Nat} (h : Dg M d) (hc : c < d) (h0 : 1 ≤ c) : 1 ≤ M / p10 c := by
  rcases h.2.2.2 with q | q
  · omega
  · exact (Nat.one_le_div_iff (p10_pos c)).mpr (Nat.le_trans (p10_le (by omega)) q)
def ndF (M : Nat) : Nat → Nat → Nat
  | 0, d => d
  | k + 1, d => if M < p10 d then d else ndF M k (d + 1)
def nd (M : Nat) : Nat := ndF M 18 1
theorem ndF_Dg {M : Nat} (h : M < p10 19) : ∀ (k d : Nat), d + k = 19 → 1 ≤ d → (d = 1 ∨ p10 (d - 1) ≤ M) → Dg M (ndF M k d)
  | 0, d, hk, h1, h2 => ⟨h1, by show d ≤ 19; omega, by show M < p10 d; rw [show d = 19 from by omega]; exact h, h2⟩
  | k + 1, d, hk, h1, h2 => by
    unfold ndF
    by_cases q : M < p10 d
    · rw [if_pos q]; exact ⟨h1, by omega, q, h2⟩
    · rw [if_neg q]; exact ndF_Dg h k (d + 1) (by omega) (by omega) (Or.inr (by show p10 d ≤ M; omega))
theorem Dg_uniq {M a b : Nat} (ha : Dg M a) (hb : Dg M b) : a = b := by
  rcases Nat.lt_trichotomy a b with q | q | q
  · exfalso
    have h1 := ha.2.2.1
    rcases hb.2.2.2 with r | r
    · have := ha.1; omega
    · have := p10_le (a := a) (b := b - 1) (by omega); omega
  · exact q
  · exfalso
    have h1 := hb.2.2.1
    rcases ha.2.2.2 with r | r
    · have := hb.1; omega
    · have := p10_le (a := b) (b := a - 1) (by omega); omega
theorem nd_Dg {M : Nat} (h : M ≤ 9223372036854775808) : Dg M (nd M) := ndF_Dg (Nat.lt_of_le_of_lt h (by decide)) 18 1 rfl (Nat.le_refl 1) (Or.inl rfl)
theorem nd_of {M d : Nat} (h : Dg M d) (hM : M ≤ 9223372036854775808) : nd M = d := Dg_uniq (nd_Dg hM) h
def mg (q : Int64) : Nat := q.toInt.natAbs
def sg (q : Int64) : Nat := if q < 0 then 1 else 0
theorem mg_le (q : Int64) : mg q ≤ 9223372036854775808 := by have := rng64 q; unfold mg; omega
theorem own_l0 : (0 : Int64).toInt = 0 := by decide
theorem mg_neg {q : Int64} (h : q < 0) : q = ng (mg q) := by
  rw [Int64.lt_iff_toInt_lt, own_l0] at h
  apply own_eqL; rw [ng_toInt (mg_le q)]; unfold mg; omega
theorem mg_pos {q : Int64} (h : ¬ q < 0) : -q = ng (mg q) := by
  rw [Int64.lt_iff_toInt_lt, own_l0] at h
  have a := c_lneg q
  have b := rng64 q
  have c := rng64 (-q)
  apply own_eqL; rw [ng_toInt (mg_le q)]; unfold mg; omega
/-- what the array holds when c of the d digits are written, from the place u on; f: what it held before -/
def Wc (f : Nat → Int32) (M u d c : Nat) : Nat → Value := fun j => .int (if u + d - c ≤ j ∧ j < u + d then Int32.ofNat (48 + M / p10 (u + d - 1 - j) % 10) else f j)
theorem Wc_next {f : Nat → Int32} {M u d c : Nat} {v : Int32} (hc : c < d) (hv : v = Int32.ofNat (48 + M / p10 c % 10)) : ∀ j, aset (Wc f M u d c) (u + d - (c + 1)) (.int v) j = Wc f M u d (c + 1) j := by
  intro j
  unfold aset Wc
  by_cases e : j = u + d - (c + 1)
  · rw [if_pos e, if_pos (by omega), hv, show u + d - 1 - j = c from by omega]
  · rw [if_neg e]
    by_cases e2 : u + d - c ≤ j ∧ j < u + d
    · rw [if_pos e2, if_pos (by omega)]
    · rw [if_neg e2, if_neg (by omega)]
theorem Wc_zero {f : Nat → Int32} {M u d : Nat} : ∀ j, (.int (f j) : Value) = Wc f M u d 0 j := by
  intro j; unfold Wc; rw [if_neg (by omega)]
def f45 (b : Bool) (t : Nat) : Nat → Int32 := fun j => if b = true ∧ j = t then 45 else 0
theorem f45_set (t : Nat) : ∀ j, aset (fun _ => .int (0 : Int32)) t (.int (45 : Int32)) j = .int (f45 true t j) := by
  intro j; unfold aset f45; by_cases e : j = t <;> simp [e]
def Wf (q : Int64) (t : Nat) : Nat → Value := Wc (f45 (decide (q < 0)) t) (mg q) (t + sg q) (nd (mg q)) (nd (mg q))
theorem own_digI {n : Nat} (h : n < 2147483648) : ((48 : Int32) + Int32.ofNat n % (10 : Int32)).toInt8.toInt32 = Int32.ofNat (48 + n % 10) := by
  apply own_eqI
  have a := (c_irem (Int32.ofNat n) 10 10 (by decide)).1
  rw [own_ofI h] at a
  have b := c_iadd 48 (Int32.ofNat n % 10)
  have c := rng32 (48 + Int32.ofNat n % 10)
  have d := c_i2b (48 + Int32.ofNat n % 10)
  have e : (48 : Int32).toInt = 48 := by decide
  have a' := a (by omega)
  rw [own_ofI (by omega)]; omega
theorem own_divI {n : Nat} (h : n < 2147483648) : Int32.ofNat n / (10 : Int32) = Int32.ofNat (n / 10) := by
  apply own_eqI
  have a := (c_idiv (Int32.ofNat n) 10 10 (by decide) (by decide)).1
  rw [own_ofI h] at a
  rw [a (by omega), own_ofI (by omega)]; omega
theorem own_remL {n : Nat} (h : n ≤ 9223372036854775808) : (ng n % (10 : Int64)).toInt = -((n % 10 : Nat) : Int) := by
  rw [Int64.toInt_mod, ng_toInt h, show (10 : Int64).toInt = 10 from by decide, Int.neg_tmod]
  rw [Int.tmod_eq_emod_of_nonneg (by omega)]; omega
theorem own_digL {n : Nat} (h : n ≤ 9223372036854775808) : ((48 : Int64) - ng n % (10 : Int64)).toInt32.toInt8.toInt32 = Int32.ofNat (48 + n % 10) := by
  apply own_eqI
  have a := own_remL h
  have b := c_lsub 48 (ng n % 10)
  have c := rng64 (48 - ng n % 10)
  have d := c_l2i (48 - ng n % 10)
  have d' := rng32 (48 - ng n % 10).toInt32
  have e := c_i2b (48 - ng n % 10).toInt32
  have f : (48 : Int64).toInt = 48 := by decide
  rw [own_ofI (by omega)]; omega
theorem own_divL {n k : Nat} (h : n ≤ 9223372036854775808) (hk : 1 ≤ k) (hk2 : k ≤ 1000000000000000000) : ng n / Int64.ofNat k = ng (n / k) := by
  have hkk : (Int64.ofNat k).toInt = k := Int64.toInt_ofNat_of_lt (by omega)
  apply own_eqL
  rw [Int64.toInt_div_of_ne_right _ _ (fun q => by rw [q] at hkk; have e : (-1 : Int64).toInt = -1 := (by decide); omega), ng_toInt h, hkk, ng_toInt (Nat.le_trans (Nat.div_le_self _ _) h), Int.neg_tdiv]
  rw [Int.tdiv_eq_ediv_of_nonneg (by omega)]; rfl
theorem own_expL {n : Nat} (h : n ≤ 9223372036854775808) : (48 : Int32) - (ng n % (10 : Int64)).toInt32 = Int32.ofNat (48 + n % 10) := by
  apply own_eqI
  have a := own_remL h
  have d := c_l2i (ng n % 10)
  have d' := rng32 (ng n % 10).toInt32
  have b := c_isub 48 (ng n % 10).toInt32
  have c := rng32 (48 - (ng n % 10).toInt32)
  have f : (48 : Int32).toInt = 48 := by decide
  rw [own_ofI (by omega)]; omega
theorem own_negL {k : Nat} (hk : k ≤ 1000000000000000000) : -(Int64.ofNat k) = ng k := by
  apply own_eqL
  have hkk : (Int64.ofNat k).toInt = k := Int64.toInt_ofNat_of_lt (by omega)
  have a := c_lneg (Int64.ofNat k)
  have b := rng64 (-(Int64.ofNat k))
  rw [ng_toInt (by omega)]; omega
theorem own_toI {q : Int64} (h1 : ¬ q < 0) (h2 : ¬ (2147483647 : Int64) < q) : q.toInt32 = Int32.ofNat (mg q) ∧ mg q < 2147483648 := by
  rw [Int64.lt_iff_toInt_lt, own_l0] at h1
  rw [Int64.lt_iff_toInt_lt, show (2147483647 : Int64).toInt = 2147483647 from by decide] at h2
  have a := c_l2i q
  have b := rng32 q.toInt32
  have c : mg q < 2147483648 := by unfold mg; omega
  refine ⟨?_, c⟩
  apply own_eqI; rw [own_ofI c]; unfold mg; omega
theorem own_3 (n : Int32) : ∃ t : Nat, t ≤ 3 ∧ n &&& (3 : Int32) = Int32.ofNat t := by
  have h := c_mask n 3 2 (by decide) (by decide)
  refine ⟨(n &&& 3).toInt.toNat, by omega, ?_⟩
  apply own_eqI; rw [own_ofI (by omega)]; omega
theorem own_24 (n : Int32) : ∃ t : Nat, t < 24 ∧ (n &&& (2147483647 : Int32)) % (24 : Int32) = Int32.ofNat t := by
  have h := c_mask n 2147483647 31 (by decide) (by decide)
  have h2 := (c_irem (n &&& 2147483647) 24 24 (by decide)).1
  refine ⟨((n &&& (2147483647 : Int32)) % (24 : Int32)).toInt.toNat, by omega, ?_⟩
  apply own_eqI; rw [own_ofI (by omega)]; omega
theorem own_dec2 {i : Nat} (hi : i < 2147483648) (h : 1 ≤ i) : (Int32.ofNat i - (1 : Int32)) + (-1 : Int32) = Int32.ofNat (i - 1) - (1 : Int32) := by
  apply own_eqI
  have e1 : (1 : Int32).toInt = 1 := by decide
  have e2 : (-1 : Int32).toInt = -1 := by decide
  have a := own_sub1 hi h
  have b := c_isub (Int32.ofNat (i - 1)) 1
  have b' := rng32 (Int32.ofNat (i - 1) - 1)
  have c := c_iadd (Int32.ofNat i - 1) (-1)
  have c' := rng32 ((Int32.ofNat i - 1) + (-1))
  rw [a] at c c' ⊢
  rw [own_ofI (by omega)] at b c
  omega
theorem own_end {u : Nat} (hu : u < 2147483648) : Int32.ofNat u - (1 : Int32) < Int32.ofNat u := by
  have e1 : (1 : Int32).toInt = 1 := by decide
  have b := c_isub (Int32.ofNat u) 1
  have b' := rng32 (Int32.ofNat u - 1)
  rw [Int32.lt_iff_toInt_lt]
  rw [own_ofI hu] at b ⊢
  omega
theorem own_div10 {n : Nat} (h : n ≤ 9223372036854775808) : ng n / (10 : Int64) = ng (n / 10) := own_divL (k := 10) h (by decide) (by decide)
theorem own_narb {n : Nat} (h : n < 128) : nar .byte (Int32.ofNat n) = Int32.ofNat n := by
  show (Int32.ofNat n).toInt8.toInt32 = _
  apply own_eqI
  have a := c_i2b (Int32.ofNat n)
  rw [own_ofI (by omega)] at a ⊢
  omega
theorem own_pnz {k : Nat} (h : k ≤ 18) : Int64.ofNat (p10 k) ≠ 0 := by
  intro q
  have a := p10_pos k
  have b := p10_19 h
  have c : (Int64.ofNat (p10 k)).toInt = p10 k := Int64.toInt_ofNat_of_lt (by omega)
  rw [q, own_l0] at c
  omega
theorem own_len {t s d : Nat} (h : t + s + d < 2147483648) : (Int32.ofNat (t + s + d) - Int32.ofNat t) - Int32.ofNat s = Int32.ofNat d := by
  rw [own_sub h (by omega), own_sub (by omega) (by omega), show t + s + d - t - s = d from by omega]
theorem own_kk {u j : Nat} (h : u < 2147483648) (hj : j < u) : (Int32.ofNat u - (1 : Int32)) - Int32.ofNat j = Int32.ofNat (u - 1 - j) := by
  rw [own_sub1 h (by omega), own_sub (by omega) (by omega)]
theorem Wf_dig {q : Int64} {t j : Nat} (h1 : t + sg q ≤ j) (h2 : j < t + sg q + nd (mg q)) : Wf q t j = .int (Int32.ofNat (48 + mg q / p10 (t + sg q + nd (mg q) - 1 - j) % 10)) := by
  unfold Wf Wc; rw [if_pos ⟨by omega, h2⟩]
theorem Wf_sign {q : Int64} {t : Nat} (h : q < 0) : Wf q t t = .int (45 : Int32) := by
  unfold Wf Wc; rw [if_neg (by unfold sg; rw [if_pos h]; omega)]; unfold f45; rw [if_pos ⟨decide_eq_true h, rfl⟩]
theorem Wf_out {q : Int64} {t j : Nat} (h : j < t ∨ t + sg q + nd (mg q) ≤ j) (hn : 1 ≤ nd (mg q)) : Wf q t j = .int (0 : Int32) := by
  unfold Wf Wc; rw [if_neg (by omega)]; unfold f45; rw [if_neg (fun z => by have := z.2; omega)]
theorem own_lenv {s : State} {aa : Array Value} {t : Term} {pw : Addr} {cp : Cell} {k : Int32} (tp : t.eval aa s none [] s = some (.ref pw)) (Ap : Arr s s.heap pw cp .int) (h : (Term.length t).eval aa s none [] s = some (.int k)) : cp.slots.size < 2147483648 ∧ cp.slots.size.toInt32 = k := by
  have ha : s.arrayAt? pw = some cp := Arr.fin (Vm.Alike.refl _) Ap
  by_cases hl : cp.slots.size < 2 ^ 31
  · have e := len_f (first := s) (o := none) (idx := []) tp ha hl
    exact ⟨hl, Value.int.inj (Option.some.inj (e.symm.trans h))⟩
  · simp [Term.eval, tp, ha, hl] at h
theorem own_pwe {s : State} {aa : Array Value} {t : Term} {pw : Addr} {cp : Cell} {j : Nat} {i v : Int32} (tp : t.eval aa s none [] s = some (.ref pw)) (Ap : Arr s s.heap pw cp .int) (hj : j < 10) {h : (Cond.eq (.elem t (.int i)) (.int v)).value aa s none s [] = some true} (e1 : i.toNatClampNeg = j) (e2 : v = Int32.ofNat (p10 j)) : cp.slots[j]? = some (.int (Int32.ofNat (p10 j))) := by
  have q := (elem_in (own_int_v h) tp (Term.int_eval i) Ap.1).2
  rw [e1, e2] at q
  exact q
theorem own_pw {s : State} {aa : Array Value} {t : Term} {pw : Addr} {cp : Cell} (tp : t.eval aa s none [] s = some (.ref pw)) (Ap : Arr s s.heap pw cp .int) (hl : (Cond.eq (.length t) (.int (10 : Int32))).value aa s none s [] = some true) (h0 : (Cond.eq (.elem t (.int (0 : Int32))) (.int (1 : Int32))).value aa s none s [] = some true) (h1 : (Cond.eq (.elem t (.int (1 : Int32))) (.int (10 : Int32))).value aa s none s [] = some true) (h2 : (Cond.eq (.elem t (.int (2 : Int32))) (.int (100 : Int32))).value aa s none s [] = some true) (h3 : (Cond.eq (.elem t (.int (3 : Int32))) (.int (1000 : Int32))).value aa s none s [] = some true) (h4 : (Cond.eq (.elem t (.int (4 : Int32))) (.int (10000 : Int32))).value aa s none s [] = some true) (h5 : (Cond.eq (.elem t (.int (5 : Int32))) (.int (100000 : Int32))).value aa s none s [] = some true) (h6 : (Cond.eq (.elem t (.int (6 : Int32))) (.int (1000000 : Int32))).value aa s none s [] = some true) (h7 : (Cond.eq (.elem t (.int (7 : Int32))) (.int (10000000 : Int32))).value aa s none s [] = some true) (h8 : (Cond.eq (.elem t (.int (8 : Int32))) (.int (100000000 : Int32))).value aa s none s [] = some true) (h9 : (Cond.eq (.elem t (.int (9 : Int32))) (.int (1000000000 : Int32))).value aa s none s [] = some true) : Av s s.heap pw .int 10 (fun j => .int (Int32.ofNat (p10 j))) := by
  obtain ⟨q1, q2⟩ := own_lenv tp Ap (own_int_v hl)
  have q3 : cp.slots.size = 10 := by
    have a := len_toInt q1
    rw [q2, show (10 : Int32).toInt = 10 from by decide] at a
    omega
  refine ⟨cp, Ap, q3, by decide, fun j hj => ?_⟩
  rcases (by omega : j = 0 ∨ j = 1 ∨ j = 2 ∨ j = 3 ∨ j = 4 ∨ j = 5 ∨ j = 6 ∨ j = 7 ∨ j = 8 ∨ j = 9) with rfl | rfl | rfl | rfl | rfl | rfl | rfl | rfl | rfl | rfl
  · exact own_pwe tp Ap hj (h := h0) rfl rfl
  · exact own_pwe tp Ap hj (h := h1) rfl rfl
  · exact own_pwe tp Ap hj (h := h2) rfl rfl
  · exact own_pwe tp Ap hj (h := h3) rfl rfl
  · exact own_pwe tp Ap hj (h := h4) rfl rfl
  · exact own_pwe tp Ap hj (h := h5) rfl rfl
  · exact own_pwe tp Ap hj (h := h6) rfl rfl
  · exact own_pwe tp Ap hj (h := h7) rfl rfl
  · exact own_pwe tp Ap hj (h := h8) rfl rfl
  · exact own_pwe tp Ap hj (h := h9) rfl rfl

def Q1 (Z : State) (q1 : Int64) (a2 : Addr) (t : Nat) (pw : Addr) (h0 : Heap) (n0 : Nat) (v : Option Value) (h : Heap) (L : List Loc) : Prop := v = some (.int (Int32.ofNat (t + sg q1 + nd (mg q1)))) ∧ Fr n0 L ∧ (Keep h0 h [a2]) ∧ (Av Z h a2 .byte 24 (Wf q1 t))
theorem ef_1 (m : MethodId) (q1 : Int64) (a2 : Addr) (t : Nat) : entryFrame m #[(.long q1), (.ref a2), (.int (Int32.ofNat t))] 10 = mkF m 0 #[.val (.long q1), .second, .val (.ref a2), .val (.int (Int32.ofNat t)), .unset, .unset, .unset, .unset, .unset, .unset] [] := by first | (simp [entryFrame, mkF, argsToLocals, Value.category]; done) | rfl
set_option maxRecDepth 65536 in
set_option maxHeartbeats 40000000 in
theorem rm1 (l : Launch) (Z : State) (a0 : Array Value) (hw : ∀ d ∈ tables_1, d.before a0 Z = true) (ws : List Jvm.Cond) (q1 : Int64) (a2 : Addr) (t : Nat) (pw : Addr) (h0 : Heap) (n0 : Nat) (Z0 : n0 ≤ h0.size) (S_POWERS_OF_TEN : Sta Z h0 "com/example/quotewire/quotewire/codec/Decimal" "POWERS_OF_TEN" "[I" (.ref pw)) (V_pw : Av Z h0 pw .int 10 (fun j => .int (Int32.ofNat (p10 j)))) (V_a2 : Av Z h0 a2 .byte 24 (fun _ => (.int (0 : Int32)))) (g_a2 : n0 ≤ a2) (ht : t ≤ 3) (hne : pw ≠ a2) :
    MetFree l (⟨"com/example/quotewire/quotewire/codec/Decimal", "write", "(J[BI)I"⟩ : MethodName) (head1 (Jvm.Cond.code (⟨"com/example/quotewire/quotewire/codec/Decimal", "write", "(J[BI)I"⟩ : MethodName) prog_16_method_2_code 10 (some .int) :: ws) ({ frames := 0, cells := 0, slots := 0, locals := 0 } : Room)) (fun a U => a = #[(.long q1), (.ref a2), (.int (Int32.ofNat t))] ∧ Z.Warmed39 U.vm ∧ U.heap = h0) (fun _ _ _ _ _ => True) (fun _ U o U' => ∃ v L, o = .returned v ∧ (Q1 Z q1 a2 t pw h0 n0) v U'.heap L ∧ FrameEnd U o U' L 0 0) := by
  refine MetFree.of_bodySF (plainFor_of_name pn_com_example_quotewire_quotewire_codec_Decimal) hisR ?_
  intro p e s m args below meth c s₁ Bd hml0 hP hK
  obtain ⟨rfl, hZ, hh⟩ := hP
  have hx := Bd.exec
  have hby := Bd.bytes
  have hml : c.maxLocals = 10 := hml0
  have hown : s.vm.findClass "com/example/quotewire/quotewire/codec/Decimal" = some m.cls := findClass_of_methodNamed Bd.named
  have hnm := (name_of_methodNamed Bd.named Bd.method).1
  have X0 : Stand p l e ({ frames := 0, cells := 0, slots := 0, locals := 0 } : Room) s m #[(.long q1), (.ref a2), (.int (Int32.ofNat t))] below meth c s₁ [] 0 0 := Stand.of_body Bd
  have e0 : s₁.heap = h0 := by rw [← hh, Bd.state]; rfl
  have N0 := Fr.nil n0
  show Go FrameEnd p e below s 0 0 (Q1 Z q1 a2 t pw h0 n0) _
  refine Go.step (fun _ k => castTop (ef_1 m q1 a2 t) k) ?_
  show Go FrameEnd p e below s 0 0 (Q1 Z q1 a2 t pw h0 n0) (s₁.setTop (mkF m 0 #[.val (.long q1), .second, .val (.ref a2), .val (.int (Int32.ofNat t)), .unset, .unset, .unset, .unset, .unset, .unset] []))
  refine Go.step (fun _ k => XS.lloadN X0.here hx rfl (hb hby d_prog_16_method_2_code_0) rfl k) ?_
  show Go FrameEnd p e below s 0 0 (Q1 Z q1 a2 t pw h0 n0) (s₁.setTop (mkF m 1 #[.val (.long q1), .second, .val (.ref a2), .val (.int (Int32.ofNat t)), .unset, .unset, .unset, .unset, .unset, .unset] [(.long q1)]))
  refine Go.step (fun _ k => XS.lconst X0.here hx rfl (hb hby d_prog_16_method_2_code_1) k) ?_
  show Go FrameEnd p e below s 0 0 (Q1 Z q1 a2 t pw h0 n0) (s₁.setTop (mkF m 2 #[.val (.long q1), .second, .val (.ref a2), .val (.int (Int32.ofNat t)), .unset, .unset, .unset, .unset, .unset, .unset] [(.long (0 : Int64)), (.long q1)]))
  refine Go.step (fun _ k => XS.lcmp X0.here hx rfl (hb hby d_prog_16_method_2_code_2) rfl k) ?_
  show Go FrameEnd p e below s 0 0 (Q1 Z q1 a2 t pw h0 n0) (s₁.setTop (mkF m 3 #[.val (.long q1), .second, .val (.ref a2), .val (.int (Int32.ofNat t)), .unset, .unset, .unset, .unset, .unset, .unset] [(.int (lcmpW q1 (0 : Int64)))]))
  by_cases hc3 : q1 < (0 : Int64)
  · skip
    refine Go.step (fun _ k => XS.ifYes X0.here hx rfl (pc0 := 3) (pc' := 88) rfl (hb hby d_prog_16_method_2_code_3) rfl ((if0 _ _).trans (tlt ((lw_lt _ _).mpr hc3)).1) (by decide) (by decide) k) ?_
    show Go FrameEnd p e below s 0 0 (Q1 Z q1 a2 t pw h0 n0) (s₁.setTop (mkF m 88 #[.val (.long q1), .second, .val (.ref a2), .val (.int (Int32.ofNat t)), .unset, .unset, .unset, .unset, .unset, .unset] []))
    obtain ⟨M, eM⟩ : ∃ M, M = mg q1 := ⟨_, rfl⟩
    have hM9 : M ≤ 9223372036854775808 := by rw [eM]; exact mg_le q1
    have hMp : M < p10 19 := Nat.lt_of_le_of_lt hM9 (by decide)
    have hsg : sg q1 = 1 := by unfold sg; rw [if_pos hc3]
    have hq : q1 = ng M := by rw [eM]; exact mg_neg hc3
    have hdec : decide (q1 < 0) = true := decide_eq_true hc3
    refine Go.step (fun _ k => XS.iloadN X0.here hx rfl (hb hby d_prog_16_method_2_code_88) rfl k) ?_
    show Go FrameEnd p e below s 0 0 (Q1 Z q1 a2 t pw h0 n0) (s₁.setTop (mkF m 89 #[.val (.long q1), .second, .val (.ref a2), .val (.int (Int32.ofNat t)), .unset, .unset, .unset, .unset, .unset, .unset] [(.int (Int32.ofNat t))]))
    refine Go.step (fun _ k => XS.istore X0.here hx rfl (hb hby d_prog_16_method_2_code_89) rfl (l' := #[.val (.long q1), .second, .val (.ref a2), .val (.int (Int32.ofNat t)), .val (.int (Int32.ofNat t)), .unset, .unset, .unset, .unset, .unset]) rfl k) ?_
    show Go FrameEnd p e below s 0 0 (Q1 Z q1 a2 t pw h0 n0) (s₁.setTop (mkF m 91 #[.val (.long q1), .second, .val (.ref a2), .val (.int (Int32.ofNat t)), .val (.int (Int32.ofNat t)), .unset, .unset, .unset, .unset, .unset] []))
    refine Go.step (fun _ k => XS.lloadN X0.here hx rfl (hb hby d_prog_16_method_2_code_91) rfl k) ?_
    show Go FrameEnd p e below s 0 0 (Q1 Z q1 a2 t pw h0 n0) (s₁.setTop (mkF m 92 #[.val (.long q1), .second, .val (.ref a2), .val (.int (Int32.ofNat t)), .val (.int (Int32.ofNat t)), .unset, .unset, .unset, .unset, .unset] [(.long q1)]))
    refine Go.step (fun _ k => XS.lconst X0.here hx rfl (hb hby d_prog_16_method_2_code_92) k) ?_
    show Go FrameEnd p e below s 0 0 (Q1 Z q1 a2 t pw h0 n0) (s₁.setTop (mkF m 93 #[.val (.long q1), .second, .val (.ref a2), .val (.int (Int32.ofNat t)), .val (.int (Int32.ofNat t)), .unset, .unset, .unset, .unset, .unset] [(.long (0 : Int64)), (.long q1)]))
    refine Go.step (fun _ k => XS.lcmp X0.here hx rfl (hb hby d_prog_16_method_2_code_93) rfl k) ?_
    show Go FrameEnd p e below s 0 0 (Q1 Z q1 a2 t pw h0 n0) (s₁.setTop (mkF m 94 #[.val (.long q1), .second, .val (.ref a2), .val (.int (Int32.ofNat t)), .val (.int (Int32.ofNat t)), .unset, .unset, .unset, .unset, .unset] [(.int (lcmpW q1 (0 : Int64)))]))
    refine Go.step (fun _ k => XS.ifNo X0.here hx rfl (hb hby d_prog_16_method_2_code_94) rfl ((if0 _ _).trans (tlt ((lw_lt _ _).mpr hc3)).2.1) k) ?_
    show Go FrameEnd p e below s 0 0 (Q1 Z q1 a2 t pw h0 n0) (s₁.setTop (mkF m 97 #[.val (.long q1), .second, .val (.ref a2), .val (.int (Int32.ofNat t)), .val (.int (Int32.ofNat t)), .unset, .unset, .unset, .unset, .unset] []))
    refine Go.step (fun _ k => XS.aloadN X0.here hx rfl (hb hby d_prog_16_method_2_code_97) rfl rfl k) ?_
    show Go FrameEnd p e below s 0 0 (Q1 Z q1 a2 t pw h0 n0) (s₁.setTop (mkF m 98 #[.val (.long q1), .second, .val (.ref a2), .val (.int (Int32.ofNat t)), .val (.int (Int32.ofNat t)), .unset, .unset, .unset, .unset, .unset] [(.ref a2)]))
    refine Go.step (fun _ k => XS.iload X0.here hx rfl (hb hby d_prog_16_method_2_code_98) rfl k) ?_
    show Go FrameEnd p e below s 0 0 (Q1 Z q1 a2 t pw h0 n0) (s₁.setTop (mkF m 100 #[.val (.long q1), .second, .val (.ref a2), .val (.int (Int32.ofNat t)), .val (.int (Int32.ofNat t)), .unset, .unset, .unset, .unset, .unset] [(.int (Int32.ofNat t)), (.ref a2)]))
    refine Go.step (fun _ k => XS.iinc X0.here hx rfl (hb hby d_prog_16_method_2_code_100) rfl (l' := #[.val (.long q1), .second, .val (.ref a2), .val (.int (Int32.ofNat t)), .val (.int ((Int32.ofNat t) + (1 : Int32))), .unset, .unset, .unset, .unset, .unset]) rfl k) ?_
    show Go FrameEnd p e below s 0 0 (Q1 Z q1 a2 t pw h0 n0) (s₁.setTop (mkF m 103 #[.val (.long q1), .second, .val (.ref a2), .val (.int (Int32.ofNat t)), .val (.int ((Int32.ofNat t) + (1 : Int32))), .unset, .unset, .unset, .unset, .unset] [(.int (Int32.ofNat t)), (.ref a2)]))
    rw [own_of1]
    show Go FrameEnd p e below s 0 0 (Q1 Z q1 a2 t pw h0 n0) (s₁.setTop (mkF m 103 #[.val (.long q1), .second, .val (.ref a2), .val (.int (Int32.ofNat t)), .val (.int (Int32.ofNat (t + 1))), .unset, .unset, .unset, .unset, .unset] [(.int (Int32.ofNat t)), (.ref a2)]))
    refine Go.step (fun _ k => XS.bipush X0.here hx rfl (hb hby d_prog_16_method_2_code_103) k) ?_
    show Go FrameEnd p e below s 0 0 (Q1 Z q1 a2 t pw h0 n0) (s₁.setTop (mkF m 105 #[.val (.long q1), .second, .val (.ref a2), .val (.int (Int32.ofNat t)), .val (.int (Int32.ofNat (t + 1))), .unset, .unset, .unset, .unset, .unset] [(.int (45 : Int32)), (.int (Int32.ofNat t)), (.ref a2)]))
    obtain ⟨c1, Ac1, Sc1, Mc1, Gc1⟩ := id V_a2
    obtain ⟨T2, h2, X2, e2, W2, st2⟩ := stB X0 hx hZ e0 Ac1 (j := (Int32.ofNat t)) (own_in Sc1 (own_nn (by omega)) (by rw [own_cl (by omega)]; omega)) (g := (mkF m 105 #[.val (.long q1), .second, .val (.ref a2), .val (.int (Int32.ofNat t)), .val (.int (Int32.ofNat (t + 1))), .unset, .unset, .unset, .unset, .unset] [(.int (45 : Int32)), (.int (Int32.ofNat t)), (.ref a2)])) rfl rfl (hb hby d_prog_16_method_2_code_105)
    refine Go.step st2 ?_
    have N2 := Fr.snoc X2 N0 g_a2
    have Z2 : n0 ≤ h2.size := Nat.le_trans Z0 (Keep.of_wr W2).1
    have K02 : Keep h0 h2 [a2] := (Keep.refl h0 [a2]).wr W2 (Or.inl (List.mem_of_getElem? (i := 0) rfl))
    have V2 : Av Z h2 a2 .byte 24 (aset (fun _ => (.int (0 : Int32))) t (.int (45 : Int32))) := Av.set Ac1 Sc1 Mc1 Gc1 W2 (own_cl (by omega)) (own_in Sc1 (own_nn (by omega)) (by rw [own_cl (by omega)]; omega))
    have V2 : Av Z h2 a2 .byte 24 (fun j => .int (f45 true t j)) := V2.eq (fun j hj => f45_set t j)
    show Go FrameEnd p e below s 0 0 (Q1 Z q1 a2 t pw h0 n0) (T2.setTop (mkF m 106 #[.val (.long q1), .second, .val (.ref a2), .val (.int (Int32.ofNat t)), .val (.int (Int32.ofNat (t + 1))), .unset, .unset, .unset, .unset, .unset] []))
    refine Go.step (fun _ k => XS.lloadN X2.here hx rfl (hb hby d_prog_16_method_2_code_106) rfl k) ?_
    show Go FrameEnd p e below s 0 0 (Q1 Z q1 a2 t pw h0 n0) (T2.setTop (mkF m 107 #[.val (.long q1), .second, .val (.ref a2), .val (.int (Int32.ofNat t)), .val (.int (Int32.ofNat (t + 1))), .unset, .unset, .unset, .unset, .unset] [(.long q1)]))
    refine Go.step (fun _ k => XS.lconst X2.here hx rfl (hb hby d_prog_16_method_2_code_107) k) ?_
    show Go FrameEnd p e below s 0 0 (Q1 Z q1 a2 t pw h0 n0) (T2.setTop (mkF m 108 #[.val (.long q1), .second, .val (.ref a2), .val (.int (Int32.ofNat t)), .val (.int (Int32.ofNat (t + 1))), .unset, .unset, .unset, .unset, .unset] [(.long (0 : Int64)), (.long q1)]))
    refine Go.step (fun _ k => XS.lcmp X2.here hx rfl (hb hby d_prog_16_method_2_code_108) rfl k) ?_
    show Go FrameEnd p e below s 0 0 (Q1 Z q1 a2 t pw h0 n0) (T2.setTop (mkF m 109 #[.val (.long q1), .second, .val (.ref a2), .val (.int (Int32.ofNat t)), .val (.int (Int32.ofNat (t + 1))), .unset, .unset, .unset, .unset, .unset] [(.int (lcmpW q1 (0 : Int64)))]))
    refine Go.step (fun _ k => XS.ifNo X2.here hx rfl (hb hby d_prog_16_method_2_code_109) rfl ((if0 _ _).trans (tlt ((lw_lt _ _).mpr hc3)).2.1) k) ?_
    show Go FrameEnd p e below s 0 0 (Q1 Z q1 a2 t pw h0 n0) (T2.setTop (mkF m 112 #[.val (.long q1), .second, .val (.ref a2), .val (.int (Int32.ofNat t)), .val (.int (Int32.ofNat (t + 1))), .unset, .unset, .unset, .unset, .unset] []))
    refine Go.step (fun _ k => XS.lloadN X2.here hx rfl (hb hby d_prog_16_method_2_code_112) rfl k) ?_
    show Go FrameEnd p e below s 0 0 (Q1 Z q1 a2 t pw h0 n0) (T2.setTop (mkF m 113 #[.val (.long q1), .second, .val (.ref a2), .val (.int (Int32.ofNat t)), .val (.int (Int32.ofNat (t + 1))), .unset, .unset, .unset, .unset, .unset] [(.long q1)]))
    refine Go.step (fun _ k => XS.goto X2.here hx rfl (pc0 := 113) (pc' := 118) rfl (hb hby d_prog_16_method_2_code_113) (by decide) (by decide) k) ?_
    show Go FrameEnd p e below s 0 0 (Q1 Z q1 a2 t pw h0 n0) (T2.setTop (mkF m 118 #[.val (.long q1), .second, .val (.ref a2), .val (.int (Int32.ofNat t)), .val (.int (Int32.ofNat (t + 1))), .unset, .unset, .unset, .unset, .unset] [(.long q1)]))
    refine Go.step (fun _ k => XS.lstore X2.here hx rfl (hb hby d_prog_16_method_2_code_118) rfl (l' := #[.val (.long q1), .second, .val (.ref a2), .val (.int (Int32.ofNat t)), .val (.int (Int32.ofNat (t + 1))), .val (.long (ng M)), .second, .unset, .unset, .unset]) (by rw [← hq]; rfl) k) ?_
    show Go FrameEnd p e below s 0 0 (Q1 Z q1 a2 t pw h0 n0) (T2.setTop (mkF m 120 #[.val (.long q1), .second, .val (.ref a2), .val (.int (Int32.ofNat t)), .val (.int (Int32.ofNat (t + 1))), .val (.long (ng M)), .second, .unset, .unset, .unset] []))
    refine Go.step (fun _ k => XS.iconst X2.here hx rfl (hb hby d_prog_16_method_2_code_120) k) ?_
    show Go FrameEnd p e below s 0 0 (Q1 Z q1 a2 t pw h0 n0) (T2.setTop (mkF m 121 #[.val (.long q1), .second, .val (.ref a2), .val (.int (Int32.ofNat t)), .val (.int (Int32.ofNat (t + 1))), .val (.long (ng M)), .second, .unset, .unset, .unset] [(.int (1 : Int32))]))
    refine Go.step (fun _ k => XS.istore X2.here hx rfl (hb hby d_prog_16_method_2_code_121) rfl (l' := #[.val (.long q1), .second, .val (.ref a2), .val (.int (Int32.ofNat t)), .val (.int (Int32.ofNat (t + 1))), .val (.long (ng M)), .second, .val (.int (1 : Int32)), .unset, .unset]) rfl k) ?_
    show Go FrameEnd p e below s 0 0 (Q1 Z q1 a2 t pw h0 n0) (T2.setTop (mkF m 123 #[.val (.long q1), .second, .val (.ref a2), .val (.int (Int32.ofNat t)), .val (.int (Int32.ofNat (t + 1))), .val (.long (ng M)), .second, .val (.int (1 : Int32)), .unset, .unset] []))
    refine Go.step (X2.ldc2Long hx hown (mvT hZ (hw _ (List.mem_of_getElem? (i := 28) rfl))) (g := (mkF m 123 #[.val (.long q1), .second, .val (.ref a2), .val (.int (Int32.ofNat t)), .val (.int (Int32.ofNat (t + 1))), .val (.long (ng M)), .second, .val (.int (1 : Int32)), .unset, .unset] [])) rfl (hb hby d_prog_16_method_2_code_123)) ?_
    show Go FrameEnd p e below s 0 0 (Q1 Z q1 a2 t pw h0 n0) (T2.setTop (mkF m 126 #[.val (.long q1), .second, .val (.ref a2), .val (.int (Int32.ofNat t)), .val (.int (Int32.ofNat (t + 1))), .val (.long (ng M)), .second, .val (.int (1 : Int32)), .unset, .unset] [(.long (-10 : Int64))]))
    refine Go.step (fun _ k => XS.lstore X2.here hx rfl (hb hby d_prog_16_method_2_code_126) rfl (l' := #[.val (.long q1), .second, .val (.ref a2), .val (.int (Int32.ofNat t)), .val (.int (Int32.ofNat (t + 1))), .val (.long (ng M)), .second, .val (.int (1 : Int32)), .val (.long (-10 : Int64)), .second]) rfl k) ?_
    show Go FrameEnd p e below s 0 0 (Q1 Z q1 a2 t pw h0 n0) (T2.setTop (mkF m 128 #[.val (.long q1), .second, .val (.ref a2), .val (.int (Int32.ofNat t)), .val (.int (Int32.ofNat (t + 1))), .val (.long (ng M)), .second, .val (.int (1 : Int32)), .val (.long (-10 : Int64)), .second] []))
    rw [show (-10 : Int64) = ng (p10 1) from by decide]
    have J157_3 : ∀ (d : Nat), (Dg M d) → Go FrameEnd p e below s 0 0 (Q1 Z q1 a2 t pw h0 n0) (T2.setTop (mkF m 157 #[.val (.long q1), .second, .val (.ref a2), .val (.int (Int32.ofNat t)), .val (.int (Int32.ofNat (t + 1))), .val (.long (ng M)), .second, .val (.int (Int32.ofNat d)), .val (.long (ng (p10 d))), .second] [])) := by
      intro d hD
      show Go FrameEnd p e below s 0 0 (Q1 Z q1 a2 t pw h0 n0) (T2.setTop (mkF m 157 #[.val (.long q1), .second, .val (.ref a2), .val (.int (Int32.ofNat t)), .val (.int (Int32.ofNat (t + 1))), .val (.long (ng M)), .second, .val (.int (Int32.ofNat d)), .val (.long (ng (p10 d))), .second] []))
      refine Go.step (fun _ k => XS.iload X2.here hx rfl (hb hby d_prog_16_method_2_code_157) rfl k) ?_
      show Go FrameEnd p e below s 0 0 (Q1 Z q1 a2 t pw h0 n0) (T2.setTop (mkF m 159 #[.val (.long q1), .second, .val (.ref a2), .val (.int (Int32.ofNat t)), .val (.int (Int32.ofNat (t + 1))), .val (.long (ng M)), .second, .val (.int (Int32.ofNat d)), .val (.long (ng (p10 d))), .second] [(.int (Int32.ofNat (t + 1)))]))
      refine Go.step (fun _ k => XS.iload X2.here hx rfl (hb hby d_prog_16_method_2_code_159) rfl k) ?_
      show Go FrameEnd p e below s 0 0 (Q1 Z q1 a2 t pw h0 n0) (T2.setTop (mkF m 161 #[.val (.long q1), .second, .val (.ref a2), .val (.int (Int32.ofNat t)), .val (.int (Int32.ofNat (t + 1))), .val (.long (ng M)), .second, .val (.int (Int32.ofNat d)), .val (.long (ng (p10 d))), .second] [(.int (Int32.ofNat d)), (.int (Int32.ofNat (t + 1)))]))
      refine Go.step (fun _ k => XS.iadd X2.here hx rfl (hb hby d_prog_16_method_2_code_161) rfl k) ?_
      show Go FrameEnd p e below s 0 0 (Q1 Z q1 a2 t pw h0 n0) (T2.setTop (mkF m 162 #[.val (.long q1), .second, .val (.ref a2), .val (.int (Int32.ofNat t)), .val (.int (Int32.ofNat (t + 1))), .val (.long (ng M)), .second, .val (.int (Int32.ofNat d)), .val (.long (ng (p10 d))), .second] [(.int ((Int32.ofNat (t + 1)) + (Int32.ofNat d)))]))
      rw [own_ofa]
      show Go FrameEnd p e below s 0 0 (Q1 Z q1 a2 t pw h0 n0) (T2.setTop (mkF m 162 #[.val (.long q1), .second, .val (.ref a2), .val (.int (Int32.ofNat t)), .val (.int (Int32.ofNat (t + 1))), .val (.long (ng M)), .second, .val (.int (Int32.ofNat d)), .val (.long (ng (p10 d))), .second] [(.int (Int32.ofNat ((t + 1) + d)))]))
      refine Go.step (fun _ k => XS.iconst X2.here hx rfl (hb hby d_prog_16_method_2_code_162) k) ?_
      show Go FrameEnd p e below s 0 0 (Q1 Z q1 a2 t pw h0 n0) (T2.setTop (mkF m 163 #[.val (.long q1), .second, .val (.ref a2), .val (.int (Int32.ofNat t)), .val (.int (Int32.ofNat (t + 1))), .val (.long (ng M)), .second, .val (.int (Int32.ofNat d)), .val (.long (ng (p10 d))), .second] [(.int (1 : Int32)), (.int (Int32.ofNat ((t + 1) + d)))]))
      refine Go.step (fun _ k => XS.isub X2.here hx rfl (hb hby d_prog_16_method_2_code_163) rfl k) ?_
      show Go FrameEnd p e below s 0 0 (Q1 Z q1 a2 t pw h0 n0) (T2.setTop (mkF m 164 #[.val (.long q1), .second, .val (.ref a2), .val (.int (Int32.ofNat t)), .val (.int (Int32.ofNat (t + 1))), .val (.long (ng M)), .second, .val (.int (Int32.ofNat d)), .val (.long (ng (p10 d))), .second] [(.int ((Int32.ofNat ((t + 1) + d)) - (1 : Int32)))]))
      refine Go.step (fun _ k => XS.istore X2.here hx rfl (hb hby d_prog_16_method_2_code_164) rfl (l' := #[.val (.long q1), .second, .val (.ref a2), .val (.int (Int32.ofNat t)), .val (.int (Int32.ofNat (t + 1))), .val (.long (ng M)), .second, .val (.int (Int32.ofNat d)), .val (.int ((Int32.ofNat ((t + 1) + d)) - (1 : Int32))), .unset]) rfl k) ?_
      show Go FrameEnd p e below s 0 0 (Q1 Z q1 a2 t pw h0 n0) (T2.setTop (mkF m 166 #[.val (.long q1), .second, .val (.ref a2), .val (.int (Int32.ofNat t)), .val (.int (Int32.ofNat (t + 1))), .val (.long (ng M)), .second, .val (.int (Int32.ofNat d)), .val (.int ((Int32.ofNat ((t + 1) + d)) - (1 : Int32))), .unset] []))
      have hd1 := hD.1
      have hd2 := hD.2.1
      have hnd : nd M = d := nd_of hD hM9
      have Wy : Av Z h2 a2 .byte 24 (Wc (f45 true t) M (t + 1) d 0) := (V2).eq (fun j hj => Wc_zero j)
      have hdiv : ∀ c_, M / p10 c_ ≤ 9223372036854775808 := fun c_ => Nat.le_trans (Nat.div_le_self _ _) hM9
      have W166_4 : ∀ kc : Nat, ∀ (c_ : Nat), ∀ (Tg5 : State) (Lg5 : List Loc) (hg5 : Heap), Stand p l e ({ frames := 0, cells := 0, slots := 0, locals := 0 } : Room) s m #[(.long q1), (.ref a2), (.int (Int32.ofNat t))] below meth c Tg5 Lg5 (0) (0) → Fr n0 Lg5 → Tg5.heap = hg5 → n0 ≤ hg5.size → Keep h0 hg5 [a2] → Av Z hg5 a2 .byte 24 (Wc (f45 true t) M (t + 1) d c_) → (c_ + kc = d) → Go FrameEnd p e below s 0 0 (Q1 Z q1 a2 t pw h0 n0) (Tg5.setTop (mkF m 166 #[.val (.long q1), .second, .val (.ref a2), .val (.int (Int32.ofNat t)), .val (.int (Int32.ofNat (t + 1))), .val (.long (ng (M / p10 c_))), .second, .val (.int (Int32.ofNat d)), .val (.int (Int32.ofNat ((t + 1) + d - c_) - (1 : Int32))), .unset] [])) := by
        intro kc
        induction kc with
        | zero =>
          intro c_ Tg5 Lg5 hg5 Xg5 Ng5 eg5 Zg5 Kg5 gf5_0 hk
          show Go FrameEnd p e below s 0 0 (Q1 Z q1 a2 t pw h0 n0) (Tg5.setTop (mkF m 166 #[.val (.long q1), .second, .val (.ref a2), .val (.int (Int32.ofNat t)), .val (.int (Int32.ofNat (t + 1))), .val (.long (ng (M / p10 c_))), .second, .val (.int (Int32.ofNat d)), .val (.int (Int32.ofNat ((t + 1) + d - c_) - (1 : Int32))), .unset] []))
          refine Go.step (fun _ k => XS.iload Xg5.here hx rfl (hb hby d_prog_16_method_2_code_166) rfl k) ?_
          show Go FrameEnd p e below s 0 0 (Q1 Z q1 a2 t pw h0 n0) (Tg5.setTop (mkF m 168 #[.val (.long q1), .second, .val (.ref a2), .val (.int (Int32.ofNat t)), .val (.int (Int32.ofNat (t + 1))), .val (.long (ng (M / p10 c_))), .second, .val (.int (Int32.ofNat d)), .val (.int (Int32.ofNat ((t + 1) + d - c_) - (1 : Int32))), .unset] [(.int (Int32.ofNat ((t + 1) + d - c_) - (1 : Int32)))]))
          refine Go.step (fun _ k => XS.iload Xg5.here hx rfl (hb hby d_prog_16_method_2_code_168) rfl k) ?_
          show Go FrameEnd p e below s 0 0 (Q1 Z q1 a2 t pw h0 n0) (Tg5.setTop (mkF m 170 #[.val (.long q1), .second, .val (.ref a2), .val (.int (Int32.ofNat t)), .val (.int (Int32.ofNat (t + 1))), .val (.long (ng (M / p10 c_))), .second, .val (.int (Int32.ofNat d)), .val (.int (Int32.ofNat ((t + 1) + d - c_) - (1 : Int32))), .unset] [(.int (Int32.ofNat (t + 1))), (.int (Int32.ofNat ((t + 1) + d - c_) - (1 : Int32)))]))
          refine Go.step (fun _ k => XS.icmpYes Xg5.here hx rfl (pc0 := 170) (pc' := 203) rfl (hb hby d_prog_16_method_2_code_170) rfl (tlt (by rw [show (t + 1) + d - c_ = (t + 1) from by omega]; exact own_end (by omega))).1 (by decide) (by decide) k) ?_
          show Go FrameEnd p e below s 0 0 (Q1 Z q1 a2 t pw h0 n0) (Tg5.setTop (mkF m 203 #[.val (.long q1), .second, .val (.ref a2), .val (.int (Int32.ofNat t)), .val (.int (Int32.ofNat (t + 1))), .val (.long (ng (M / p10 c_))), .second, .val (.int (Int32.ofNat d)), .val (.int (Int32.ofNat ((t + 1) + d - c_) - (1 : Int32))), .unset] []))
          refine Go.step (fun _ k => XS.iload Xg5.here hx rfl (hb hby d_prog_16_method_2_code_203) rfl k) ?_
          show Go FrameEnd p e below s 0 0 (Q1 Z q1 a2 t pw h0 n0) (Tg5.setTop (mkF m 205 #[.val (.long q1), .second, .val (.ref a2), .val (.int (Int32.ofNat t)), .val (.int (Int32.ofNat (t + 1))), .val (.long (ng (M / p10 c_))), .second, .val (.int (Int32.ofNat d)), .val (.int (Int32.ofNat ((t + 1) + d - c_) - (1 : Int32))), .unset] [(.int (Int32.ofNat (t + 1)))]))
          refine Go.step (fun _ k => XS.iload Xg5.here hx rfl (hb hby d_prog_16_method_2_code_205) rfl k) ?_
          show Go FrameEnd p e below s 0 0 (Q1 Z q1 a2 t pw h0 n0) (Tg5.setTop (mkF m 207 #[.val (.long q1), .second, .val (.ref a2), .val (.int (Int32.ofNat t)), .val (.int (Int32.ofNat (t + 1))), .val (.long (ng (M / p10 c_))), .second, .val (.int (Int32.ofNat d)), .val (.int (Int32.ofNat ((t + 1) + d - c_) - (1 : Int32))), .unset] [(.int (Int32.ofNat d)), (.int (Int32.ofNat (t + 1)))]))
          refine Go.step (fun _ k => XS.iadd Xg5.here hx rfl (hb hby d_prog_16_method_2_code_207) rfl k) ?_
          show Go FrameEnd p e below s 0 0 (Q1 Z q1 a2 t pw h0 n0) (Tg5.setTop (mkF m 208 #[.val (.long q1), .second, .val (.ref a2), .val (.int (Int32.ofNat t)), .val (.int (Int32.ofNat (t + 1))), .val (.long (ng (M / p10 c_))), .second, .val (.int (Int32.ofNat d)), .val (.int (Int32.ofNat ((t + 1) + d - c_) - (1 : Int32))), .unset] [(.int ((Int32.ofNat (t + 1)) + (Int32.ofNat d)))]))
          refine Go.retI Xg5 hx Bd.returns (hb hby d_prog_16_method_2_code_208) (BodyLoose.notSynchronized Bd) eg5 (by decide) (by decide) ?_
          have hcd : c_ = d := by omega
          have eW : Wf q1 t = Wc (f45 true t) M (t + 1) d d := by unfold Wf; rw [hdec, ← eM, hsg, hnd]
          exact ⟨by rw [own_ofa, ← eM, hsg, hnd], Ng5, Kg5, by rw [eW]; rw [hcd] at gf5_0; exact gf5_0⟩
        | succ kc ihkc =>
          intro c_ Tg5 Lg5 hg5 Xg5 Ng5 eg5 Zg5 Kg5 gf5_0 hk
          show Go FrameEnd p e below s 0 0 (Q1 Z q1 a2 t pw h0 n0) (Tg5.setTop (mkF m 166 #[.val (.long q1), .second, .val (.ref a2), .val (.int (Int32.ofNat t)), .val (.int (Int32.ofNat (t + 1))), .val (.long (ng (M / p10 c_))), .second, .val (.int (Int32.ofNat d)), .val (.int (Int32.ofNat ((t + 1) + d - c_) - (1 : Int32))), .unset] []))
          refine Go.step (fun _ k => XS.iload Xg5.here hx rfl (hb hby d_prog_16_method_2_code_166) rfl k) ?_
          show Go FrameEnd p e below s 0 0 (Q1 Z q1 a2 t pw h0 n0) (Tg5.setTop (mkF m 168 #[.val (.long q1), .second, .val (.ref a2), .val (.int (Int32.ofNat t)), .val (.int (Int32.ofNat (t + 1))), .val (.long (ng (M / p10 c_))), .second, .val (.int (Int32.ofNat d)), .val (.int (Int32.ofNat ((t + 1) + d - c_) - (1 : Int32))), .unset] [(.int (Int32.ofNat ((t + 1) + d - c_) - (1 : Int32)))]))
          refine Go.step (fun _ k => XS.iload Xg5.here hx rfl (hb hby d_prog_16_method_2_code_168) rfl k) ?_
          show Go FrameEnd p e below s 0 0 (Q1 Z q1 a2 t pw h0 n0) (Tg5.setTop (mkF m 170 #[.val (.long q1), .second, .val (.ref a2), .val (.int (Int32.ofNat t)), .val (.int (Int32.ofNat (t + 1))), .val (.long (ng (M / p10 c_))), .second, .val (.int (Int32.ofNat d)), .val (.int (Int32.ofNat ((t + 1) + d - c_) - (1 : Int32))), .unset] [(.int (Int32.ofNat (t + 1))), (.int (Int32.ofNat ((t + 1) + d - c_) - (1 : Int32)))]))
          refine Go.step (fun _ k => XS.icmpNo Xg5.here hx rfl (hb hby d_prog_16_method_2_code_170) rfl (flt (by rw [own_sub1 (by omega) (by omega), own_lt (by omega) (by omega)]; omega)).1 k) ?_
          show Go FrameEnd p e below s 0 0 (Q1 Z q1 a2 t pw h0 n0) (Tg5.setTop (mkF m 173 #[.val (.long q1), .second, .val (.ref a2), .val (.int (Int32.ofNat t)), .val (.int (Int32.ofNat (t + 1))), .val (.long (ng (M / p10 c_))), .second, .val (.int (Int32.ofNat d)), .val (.int (Int32.ofNat ((t + 1) + d - c_) - (1 : Int32))), .unset] []))
          refine Go.step (fun _ k => XS.aloadN Xg5.here hx rfl (hb hby d_prog_16_method_2_code_173) rfl rfl k) ?_
          show Go FrameEnd p e below s 0 0 (Q1 Z q1 a2 t pw h0 n0) (Tg5.setTop (mkF m 174 #[.val (.long q1), .second, .val (.ref a2), .val (.int (Int32.ofNat t)), .val (.int (Int32.ofNat (t + 1))), .val (.long (ng (M / p10 c_))), .second, .val (.int (Int32.ofNat d)), .val (.int (Int32.ofNat ((t + 1) + d - c_) - (1 : Int32))), .unset] [(.ref a2)]))
          refine Go.step (fun _ k => XS.iload Xg5.here hx rfl (hb hby d_prog_16_method_2_code_174) rfl k) ?_
          show Go FrameEnd p e below s 0 0 (Q1 Z q1 a2 t pw h0 n0) (Tg5.setTop (mkF m 176 #[.val (.long q1), .second, .val (.ref a2), .val (.int (Int32.ofNat t)), .val (.int (Int32.ofNat (t + 1))), .val (.long (ng (M / p10 c_))), .second, .val (.int (Int32.ofNat d)), .val (.int (Int32.ofNat ((t + 1) + d - c_) - (1 : Int32))), .unset] [(.int (Int32.ofNat ((t + 1) + d - c_) - (1 : Int32))), (.ref a2)]))
          refine Go.step (Xg5.ldc2Long hx hown (mvT hZ (hw _ (List.mem_of_getElem? (i := 30) rfl))) (g := (mkF m 176 #[.val (.long q1), .second, .val (.ref a2), .val (.int (Int32.ofNat t)), .val (.int (Int32.ofNat (t + 1))), .val (.long (ng (M / p10 c_))), .second, .val (.int (Int32.ofNat d)), .val (.int (Int32.ofNat ((t + 1) + d - c_) - (1 : Int32))), .unset] [(.int (Int32.ofNat ((t + 1) + d - c_) - (1 : Int32))), (.ref a2)])) rfl (hb hby d_prog_16_method_2_code_176)) ?_
          show Go FrameEnd p e below s 0 0 (Q1 Z q1 a2 t pw h0 n0) (Tg5.setTop (mkF m 179 #[.val (.long q1), .second, .val (.ref a2), .val (.int (Int32.ofNat t)), .val (.int (Int32.ofNat (t + 1))), .val (.long (ng (M / p10 c_))), .second, .val (.int (Int32.ofNat d)), .val (.int (Int32.ofNat ((t + 1) + d - c_) - (1 : Int32))), .unset] [(.long (48 : Int64)), (.int (Int32.ofNat ((t + 1) + d - c_) - (1 : Int32))), (.ref a2)]))
          refine Go.step (fun _ k => XS.lload Xg5.here hx rfl (hb hby d_prog_16_method_2_code_179) rfl k) ?_
          show Go FrameEnd p e below s 0 0 (Q1 Z q1 a2 t pw h0 n0) (Tg5.setTop (mkF m 181 #[.val (.long q1), .second, .val (.ref a2), .val (.int (Int32.ofNat t)), .val (.int (Int32.ofNat (t + 1))), .val (.long (ng (M / p10 c_))), .second, .val (.int (Int32.ofNat d)), .val (.int (Int32.ofNat ((t + 1) + d - c_) - (1 : Int32))), .unset] [(.long (ng (M / p10 c_))), (.long (48 : Int64)), (.int (Int32.ofNat ((t + 1) + d - c_) - (1 : Int32))), (.ref a2)]))
          refine Go.step (Xg5.ldc2Long hx hown (mvT hZ (hw _ (List.mem_of_getElem? (i := 29) rfl))) (g := (mkF m 181 #[.val (.long q1), .second, .val (.ref a2), .val (.int (Int32.ofNat t)), .val (.int (Int32.ofNat (t + 1))), .val (.long (ng (M / p10 c_))), .second, .val (.int (Int32.ofNat d)), .val (.int (Int32.ofNat ((t + 1) + d - c_) - (1 : Int32))), .unset] [(.long (ng (M / p10 c_))), (.long (48 : Int64)), (.int (Int32.ofNat ((t + 1) + d - c_) - (1 : Int32))), (.ref a2)])) rfl (hb hby d_prog_16_method_2_code_181)) ?_
          show Go FrameEnd p e below s 0 0 (Q1 Z q1 a2 t pw h0 n0) (Tg5.setTop (mkF m 184 #[.val (.long q1), .second, .val (.ref a2), .val (.int (Int32.ofNat t)), .val (.int (Int32.ofNat (t + 1))), .val (.long (ng (M / p10 c_))), .second, .val (.int (Int32.ofNat d)), .val (.int (Int32.ofNat ((t + 1) + d - c_) - (1 : Int32))), .unset] [(.long (10 : Int64)), (.long (ng (M / p10 c_))), (.long (48 : Int64)), (.int (Int32.ofNat ((t + 1) + d - c_) - (1 : Int32))), (.ref a2)]))
          refine Go.step (fun _ k => own_lrem Xg5 hx rfl (hb hby d_prog_16_method_2_code_184) rfl (by decide) k) ?_
          show Go FrameEnd p e below s 0 0 (Q1 Z q1 a2 t pw h0 n0) (Tg5.setTop (mkF m 185 #[.val (.long q1), .second, .val (.ref a2), .val (.int (Int32.ofNat t)), .val (.int (Int32.ofNat (t + 1))), .val (.long (ng (M / p10 c_))), .second, .val (.int (Int32.ofNat d)), .val (.int (Int32.ofNat ((t + 1) + d - c_) - (1 : Int32))), .unset] [(.long ((ng (M / p10 c_)) % (10 : Int64))), (.long (48 : Int64)), (.int (Int32.ofNat ((t + 1) + d - c_) - (1 : Int32))), (.ref a2)]))
          refine Go.step (fun _ k => XS.lsub Xg5.here hx rfl (hb hby d_prog_16_method_2_code_185) rfl k) ?_
          show Go FrameEnd p e below s 0 0 (Q1 Z q1 a2 t pw h0 n0) (Tg5.setTop (mkF m 186 #[.val (.long q1), .second, .val (.ref a2), .val (.int (Int32.ofNat t)), .val (.int (Int32.ofNat (t + 1))), .val (.long (ng (M / p10 c_))), .second, .val (.int (Int32.ofNat d)), .val (.int (Int32.ofNat ((t + 1) + d - c_) - (1 : Int32))), .unset] [(.long ((48 : Int64) - ((ng (M / p10 c_)) % (10 : Int64)))), (.int (Int32.ofNat ((t + 1) + d - c_) - (1 : Int32))), (.ref a2)]))
          refine Go.step (fun _ k => XS.l2i Xg5.here hx rfl (hb hby d_prog_16_method_2_code_186) rfl k) ?_
          show Go FrameEnd p e below s 0 0 (Q1 Z q1 a2 t pw h0 n0) (Tg5.setTop (mkF m 187 #[.val (.long q1), .second, .val (.ref a2), .val (.int (Int32.ofNat t)), .val (.int (Int32.ofNat (t + 1))), .val (.long (ng (M / p10 c_))), .second, .val (.int (Int32.ofNat d)), .val (.int (Int32.ofNat ((t + 1) + d - c_) - (1 : Int32))), .unset] [(.int ((48 : Int64) - ((ng (M / p10 c_)) % (10 : Int64))).toInt32), (.int (Int32.ofNat ((t + 1) + d - c_) - (1 : Int32))), (.ref a2)]))
          refine Go.step (fun _ k => XS.i2b Xg5.here hx rfl (hb hby d_prog_16_method_2_code_187) rfl k) ?_
          show Go FrameEnd p e below s 0 0 (Q1 Z q1 a2 t pw h0 n0) (Tg5.setTop (mkF m 188 #[.val (.long q1), .second, .val (.ref a2), .val (.int (Int32.ofNat t)), .val (.int (Int32.ofNat (t + 1))), .val (.long (ng (M / p10 c_))), .second, .val (.int (Int32.ofNat d)), .val (.int (Int32.ofNat ((t + 1) + d - c_) - (1 : Int32))), .unset] [(.int ((48 : Int64) - ((ng (M / p10 c_)) % (10 : Int64))).toInt32.toInt8.toInt32), (.int (Int32.ofNat ((t + 1) + d - c_) - (1 : Int32))), (.ref a2)]))
          rw [own_digL (hdiv c_)]
          show Go FrameEnd p e below s 0 0 (Q1 Z q1 a2 t pw h0 n0) (Tg5.setTop (mkF m 188 #[.val (.long q1), .second, .val (.ref a2), .val (.int (Int32.ofNat t)), .val (.int (Int32.ofNat (t + 1))), .val (.long (ng (M / p10 c_))), .second, .val (.int (Int32.ofNat d)), .val (.int (Int32.ofNat ((t + 1) + d - c_) - (1 : Int32))), .unset] [(.int (Int32.ofNat (48 + M / p10 c_ % 10))), (.int (Int32.ofNat ((t + 1) + d - c_) - (1 : Int32))), (.ref a2)]))
          obtain ⟨c6, Ac6, Sc6, Mc6, Gc6⟩ := id gf5_0
          obtain ⟨T7, h7, X7, e7, W7, st7⟩ := stB Xg5 hx hZ eg5 Ac6 (j := (Int32.ofNat ((t + 1) + d - c_) - (1 : Int32))) (own_in Sc6 (by rw [own_sub1 (i := (t + 1) + d - c_) (by omega) (by omega)]; exact own_nn (by omega)) (by rw [own_sub1 (i := (t + 1) + d - c_) (by omega) (by omega), own_cl (by omega)]; omega)) (g := (mkF m 188 #[.val (.long q1), .second, .val (.ref a2), .val (.int (Int32.ofNat t)), .val (.int (Int32.ofNat (t + 1))), .val (.long (ng (M / p10 c_))), .second, .val (.int (Int32.ofNat d)), .val (.int (Int32.ofNat ((t + 1) + d - c_) - (1 : Int32))), .unset] [(.int (Int32.ofNat (48 + M / p10 c_ % 10))), (.int (Int32.ofNat ((t + 1) + d - c_) - (1 : Int32))), (.ref a2)])) rfl rfl (hb hby d_prog_16_method_2_code_188)
          refine Go.step st7 ?_
          rw [own_narb (by omega)] at W7
          have N7 := Fr.snoc X7 Ng5 g_a2
          have Z7 : n0 ≤ h7.size := Nat.le_trans Zg5 (Keep.of_wr W7).1
          have K07 : Keep h0 h7 [a2] := Kg5.wr W7 (Or.inl (List.mem_of_getElem? (i := 0) rfl))
          have V7 : Av Z h7 a2 .byte 24 (aset (Wc (f45 true t) M (t + 1) d c_) ((t + 1) + d - (c_ + 1)) (.int (Int32.ofNat (48 + M / p10 c_ % 10)))) := Av.set Ac6 Sc6 Mc6 Gc6 W7 (by rw [own_sub1 (i := (t + 1) + d - c_) (by omega) (by omega), own_cl (by omega)]; omega) (own_in Sc6 (by rw [own_sub1 (i := (t + 1) + d - c_) (by omega) (by omega)]; exact own_nn (by omega)) (by rw [own_sub1 (i := (t + 1) + d - c_) (by omega) (by omega), own_cl (by omega)]; omega))
          have V7 : Av Z h7 a2 .byte 24 (Wc (f45 true t) M (t + 1) d (c_ + 1)) := V7.eq (fun j hj => Wc_next (by omega) rfl j)
          show Go FrameEnd p e below s 0 0 (Q1 Z q1 a2 t pw h0 n0) (T7.setTop (mkF m 189 #[.val (.long q1), .second, .val (.ref a2), .val (.int (Int32.ofNat t)), .val (.int (Int32.ofNat (t + 1))), .val (.long (ng (M / p10 c_))), .second, .val (.int (Int32.ofNat d)), .val (.int (Int32.ofNat ((t + 1) + d - c_) - (1 : Int32))), .unset] []))
          refine Go.step (fun _ k => XS.lload X7.here hx rfl (hb hby d_prog_16_method_2_code_189) rfl k) ?_
          show Go FrameEnd p e below s 0 0 (Q1 Z q1 a2 t pw h0 n0) (T7.setTop (mkF m 191 #[.val (.long q1), .second, .val (.ref a2), .val (.int (Int32.ofNat t)), .val (.int (Int32.ofNat (t + 1))), .val (.long (ng (M / p10 c_))), .second, .val (.int (Int32.ofNat d)), .val (.int (Int32.ofNat ((t + 1) + d - c_) - (1 : Int32))), .unset] [(.long (ng (M / p10 c_)))]))
          refine Go.step (X7.ldc2Long hx hown (mvT hZ (hw _ (List.mem_of_getElem? (i := 29) rfl))) (g := (mkF m 191 #[.val (.long q1), .second, .val (.ref a2), .val (.int (Int32.ofNat t)), .val (.int (Int32.ofNat (t + 1))), .val (.long (ng (M / p10 c_))), .second, .val (.int (Int32.ofNat d)), .val (.int (Int32.ofNat ((t + 1) + d - c_) - (1 : Int32))), .unset] [(.long (ng (M / p10 c_)))])) rfl (hb hby d_prog_16_method_2_code_191)) ?_
          show Go FrameEnd p e below s 0 0 (Q1 Z q1 a2 t pw h0 n0) (T7.setTop (mkF m 194 #[.val (.long q1), .second, .val (.ref a2), .val (.int (Int32.ofNat t)), .val (.int (Int32.ofNat (t + 1))), .val (.long (ng (M / p10 c_))), .second, .val (.int (Int32.ofNat d)), .val (.int (Int32.ofNat ((t + 1) + d - c_) - (1 : Int32))), .unset] [(.long (10 : Int64)), (.long (ng (M / p10 c_)))]))
          refine Go.step (fun _ k => XS.ldiv X7.here hx rfl (hb hby d_prog_16_method_2_code_194) rfl (by decide) k) ?_
          show Go FrameEnd p e below s 0 0 (Q1 Z q1 a2 t pw h0 n0) (T7.setTop (mkF m 195 #[.val (.long q1), .second, .val (.ref a2), .val (.int (Int32.ofNat t)), .val (.int (Int32.ofNat (t + 1))), .val (.long (ng (M / p10 c_))), .second, .val (.int (Int32.ofNat d)), .val (.int (Int32.ofNat ((t + 1) + d - c_) - (1 : Int32))), .unset] [(.long ((ng (M / p10 c_)) / (10 : Int64)))]))
          rw [own_div10 (hdiv c_), div_next]
          show Go FrameEnd p e below s 0 0 (Q1 Z q1 a2 t pw h0 n0) (T7.setTop (mkF m 195 #[.val (.long q1), .second, .val (.ref a2), .val (.int (Int32.ofNat t)), .val (.int (Int32.ofNat (t + 1))), .val (.long (ng (M / p10 c_))), .second, .val (.int (Int32.ofNat d)), .val (.int (Int32.ofNat ((t + 1) + d - c_) - (1 : Int32))), .unset] [(.long (ng (M / p10 (c_ + 1))))]))
          refine Go.step (fun _ k => XS.lstore X7.here hx rfl (hb hby d_prog_16_method_2_code_195) rfl (l' := #[.val (.long q1), .second, .val (.ref a2), .val (.int (Int32.ofNat t)), .val (.int (Int32.ofNat (t + 1))), .val (.long (ng (M / p10 (c_ + 1)))), .second, .val (.int (Int32.ofNat d)), .val (.int (Int32.ofNat ((t + 1) + d - c_) - (1 : Int32))), .unset]) rfl k) ?_
          show Go FrameEnd p e below s 0 0 (Q1 Z q1 a2 t pw h0 n0) (T7.setTop (mkF m 197 #[.val (.long q1), .second, .val (.ref a2), .val (.int (Int32.ofNat t)), .val (.int (Int32.ofNat (t + 1))), .val (.long (ng (M / p10 (c_ + 1)))), .second, .val (.int (Int32.ofNat d)), .val (.int (Int32.ofNat ((t + 1) + d - c_) - (1 : Int32))), .unset] []))
          refine Go.step (fun _ k => XS.iinc X7.here hx rfl (hb hby d_prog_16_method_2_code_197) rfl (l' := #[.val (.long q1), .second, .val (.ref a2), .val (.int (Int32.ofNat t)), .val (.int (Int32.ofNat (t + 1))), .val (.long (ng (M / p10 (c_ + 1)))), .second, .val (.int (Int32.ofNat d)), .val (.int ((Int32.ofNat ((t + 1) + d - c_) - (1 : Int32)) + (-1 : Int32))), .unset]) rfl k) ?_
          show Go FrameEnd p e below s 0 0 (Q1 Z q1 a2 t pw h0 n0) (T7.setTop (mkF m 200 #[.val (.long q1), .second, .val (.ref a2), .val (.int (Int32.ofNat t)), .val (.int (Int32.ofNat (t + 1))), .val (.long (ng (M / p10 (c_ + 1)))), .second, .val (.int (Int32.ofNat d)), .val (.int ((Int32.ofNat ((t + 1) + d - c_) - (1 : Int32)) + (-1 : Int32))), .unset] []))
          refine Go.step (fun _ k => XS.goto X7.here hx rfl (pc0 := 200) (pc' := 166) rfl (hb hby d_prog_16_method_2_code_200) (by decide) (by decide) k) ?_
          show Go FrameEnd p e below s 0 0 (Q1 Z q1 a2 t pw h0 n0) (T7.setTop (mkF m 166 #[.val (.long q1), .second, .val (.ref a2), .val (.int (Int32.ofNat t)), .val (.int (Int32.ofNat (t + 1))), .val (.long (ng (M / p10 (c_ + 1)))), .second, .val (.int (Int32.ofNat d)), .val (.int ((Int32.ofNat ((t + 1) + d - c_) - (1 : Int32)) + (-1 : Int32))), .unset] []))
          rw [own_dec2 (by omega) (by omega), show (t + 1) + d - c_ - 1 = (t + 1) + d - (c_ + 1) from by omega]
          exact ihkc (c_ + 1) _ _ _ X7 N7 e7 Z7 K07 V7 (by omega)
      show Go FrameEnd p e below s 0 0 (Q1 Z q1 a2 t pw h0 n0) (T2.setTop (mkF m 166 #[.val (.long q1), .second, .val (.ref a2), .val (.int (Int32.ofNat t)), .val (.int (Int32.ofNat (t + 1))), .val (.long (ng M)), .second, .val (.int (Int32.ofNat d)), .val (.int ((Int32.ofNat ((t + 1) + d)) - (1 : Int32))), .unset] []))
      have eM0 : M / p10 0 = M := Nat.div_one M
      have W0 := W166_4 d 0 _ _ _ X2 N2 e2 Z2 K02 Wy (by omega)
      rw [eM0] at W0
      exact W0
    have W128_8 : ∀ k : Nat, ∀ (d : Nat), (d + k = 19) → (1 ≤ d) → (d = 1 ∨ p10 (d - 1) ≤ M) → Go FrameEnd p e below s 0 0 (Q1 Z q1 a2 t pw h0 n0) (T2.setTop (mkF m 128 #[.val (.long q1), .second, .val (.ref a2), .val (.int (Int32.ofNat t)), .val (.int (Int32.ofNat (t + 1))), .val (.long (ng M)), .second, .val (.int (Int32.ofNat d)), .val (.long (ng (p10 d))), .second] [])) := by
      intro k
      induction k with
      | zero =>
        intro d hk h1 hlo
        show Go FrameEnd p e below s 0 0 (Q1 Z q1 a2 t pw h0 n0) (T2.setTop (mkF m 128 #[.val (.long q1), .second, .val (.ref a2), .val (.int (Int32.ofNat t)), .val (.int (Int32.ofNat (t + 1))), .val (.long (ng M)), .second, .val (.int (Int32.ofNat d)), .val (.long (ng (p10 d))), .second] []))
        refine Go.step (fun _ k => XS.iload X2.here hx rfl (hb hby d_prog_16_method_2_code_128) rfl k) ?_
        show Go FrameEnd p e below s 0 0 (Q1 Z q1 a2 t pw h0 n0) (T2.setTop (mkF m 130 #[.val (.long q1), .second, .val (.ref a2), .val (.int (Int32.ofNat t)), .val (.int (Int32.ofNat (t + 1))), .val (.long (ng M)), .second, .val (.int (Int32.ofNat d)), .val (.long (ng (p10 d))), .second] [(.int (Int32.ofNat d))]))
        refine Go.step (fun _ k => XS.bipush X2.here hx rfl (hb hby d_prog_16_method_2_code_130) k) ?_
        show Go FrameEnd p e below s 0 0 (Q1 Z q1 a2 t pw h0 n0) (T2.setTop (mkF m 132 #[.val (.long q1), .second, .val (.ref a2), .val (.int (Int32.ofNat t)), .val (.int (Int32.ofNat (t + 1))), .val (.long (ng M)), .second, .val (.int (Int32.ofNat d)), .val (.long (ng (p10 d))), .second] [(.int (19 : Int32)), (.int (Int32.ofNat d))]))
        refine Go.step (fun _ k => XS.icmpYes X2.here hx rfl (pc0 := 132) (pc' := 157) rfl (hb hby d_prog_16_method_2_code_132) rfl (flt (mt (own_lt (j := 19) (by omega) (by omega)).mp (by omega))).2.1 (by decide) (by decide) k) ?_
        show Go FrameEnd p e below s 0 0 (Q1 Z q1 a2 t pw h0 n0) (T2.setTop (mkF m 157 #[.val (.long q1), .second, .val (.ref a2), .val (.int (Int32.ofNat t)), .val (.int (Int32.ofNat (t + 1))), .val (.long (ng M)), .second, .val (.int (Int32.ofNat d)), .val (.long (ng (p10 d))), .second] []))
        exact J157_3  d ⟨by omega, by omega, by rw [show d = 19 from by omega]; exact hMp, hlo⟩
      | succ k ih =>
        intro d hk h1 hlo
        show Go FrameEnd p e below s 0 0 (Q1 Z q1 a2 t pw h0 n0) (T2.setTop (mkF m 128 #[.val (.long q1), .second, .val (.ref a2), .val (.int (Int32.ofNat t)), .val (.int (Int32.ofNat (t + 1))), .val (.long (ng M)), .second, .val (.int (Int32.ofNat d)), .val (.long (ng (p10 d))), .second] []))
        refine Go.step (fun _ k => XS.iload X2.here hx rfl (hb hby d_prog_16_method_2_code_128) rfl k) ?_
        show Go FrameEnd p e below s 0 0 (Q1 Z q1 a2 t pw h0 n0) (T2.setTop (mkF m 130 #[.val (.long q1), .second, .val (.ref a2), .val (.int (Int32.ofNat t)), .val (.int (Int32.ofNat (t + 1))), .val (.long (ng M)), .second, .val (.int (Int32.ofNat d)), .val (.long (ng (p10 d))), .second] [(.int (Int32.ofNat d))]))
        refine Go.step (fun _ k => XS.bipush X2.here hx rfl (hb hby d_prog_16_method_2_code_130) k) ?_
        show Go FrameEnd p e below s 0 0 (Q1 Z q1 a2 t pw h0 n0) (T2.setTop (mkF m 132 #[.val (.long q1), .second, .val (.ref a2), .val (.int (Int32.ofNat t)), .val (.int (Int32.ofNat (t + 1))), .val (.long (ng M)), .second, .val (.int (Int32.ofNat d)), .val (.long (ng (p10 d))), .second] [(.int (19 : Int32)), (.int (Int32.ofNat d))]))
        refine Go.step (fun _ k => XS.icmpNo X2.here hx rfl (hb hby d_prog_16_method_2_code_132) rfl (tlt ((own_lt (j := 19) (by omega) (by omega)).mpr (by omega))).2.1 k) ?_
        show Go FrameEnd p e below s 0 0 (Q1 Z q1 a2 t pw h0 n0) (T2.setTop (mkF m 135 #[.val (.long q1), .second, .val (.ref a2), .val (.int (Int32.ofNat t)), .val (.int (Int32.ofNat (t + 1))), .val (.long (ng M)), .second, .val (.int (Int32.ofNat d)), .val (.long (ng (p10 d))), .second] []))
        refine Go.step (fun _ k => XS.lload X2.here hx rfl (hb hby d_prog_16_method_2_code_135) rfl k) ?_
        show Go FrameEnd p e below s 0 0 (Q1 Z q1 a2 t pw h0 n0) (T2.setTop (mkF m 137 #[.val (.long q1), .second, .val (.ref a2), .val (.int (Int32.ofNat t)), .val (.int (Int32.ofNat (t + 1))), .val (.long (ng M)), .second, .val (.int (Int32.ofNat d)), .val (.long (ng (p10 d))), .second] [(.long (ng M))]))
        refine Go.step (fun _ k => XS.lload X2.here hx rfl (hb hby d_prog_16_method_2_code_137) rfl k) ?_
        show Go FrameEnd p e below s 0 0 (Q1 Z q1 a2 t pw h0 n0) (T2.setTop (mkF m 139 #[.val (.long q1), .second, .val (.ref a2), .val (.int (Int32.ofNat t)), .val (.int (Int32.ofNat (t + 1))), .val (.long (ng M)), .second, .val (.int (Int32.ofNat d)), .val (.long (ng (p10 d))), .second] [(.long (ng (p10 d))), (.long (ng M))]))
        refine Go.step (fun _ k => XS.lcmp X2.here hx rfl (hb hby d_prog_16_method_2_code_139) rfl k) ?_
        show Go FrameEnd p e below s 0 0 (Q1 Z q1 a2 t pw h0 n0) (T2.setTop (mkF m 140 #[.val (.long q1), .second, .val (.ref a2), .val (.int (Int32.ofNat t)), .val (.int (Int32.ofNat (t + 1))), .val (.long (ng M)), .second, .val (.int (Int32.ofNat d)), .val (.long (ng (p10 d))), .second] [(.int (lcmpW (ng M) (ng (p10 d))))]))
        have hp := p10_19 (d := d) (by omega)
        by_cases hlt : M < p10 d
        · skip
          refine Go.step (fun _ k => XS.ifYes X2.here hx rfl (pc0 := 140) (pc' := 157) rfl (hb hby d_prog_16_method_2_code_140) rfl ((if0 _ _).trans (tlt ((lw_gt _ _).mpr ((ng_lt (by omega) (by omega)).mpr hlt))).2.2.1) (by decide) (by decide) k) ?_
          show Go FrameEnd p e below s 0 0 (Q1 Z q1 a2 t pw h0 n0) (T2.setTop (mkF m 157 #[.val (.long q1), .second, .val (.ref a2), .val (.int (Int32.ofNat t)), .val (.int (Int32.ofNat (t + 1))), .val (.long (ng M)), .second, .val (.int (Int32.ofNat d)), .val (.long (ng (p10 d))), .second] []))
          exact J157_3  d ⟨by omega, by omega, hlt, hlo⟩
        · skip
          refine Go.step (fun _ k => XS.ifNo X2.here hx rfl (hb hby d_prog_16_method_2_code_140) rfl ((if0 _ _).trans (flt (mt (lw_gt _ _).mp (mt (ng_lt (by omega) (by omega)).mp hlt))).2.2.1) k) ?_
          show Go FrameEnd p e below s 0 0 (Q1 Z q1 a2 t pw h0 n0) (T2.setTop (mkF m 143 #[.val (.long q1), .second, .val (.ref a2), .val (.int (Int32.ofNat t)), .val (.int (Int32.ofNat (t + 1))), .val (.long (ng M)), .second, .val (.int (Int32.ofNat d)), .val (.long (ng (p10 d))), .second] []))
          refine Go.step (fun _ k => XS.iinc X2.here hx rfl (hb hby d_prog_16_method_2_code_143) rfl (l' := #[.val (.long q1), .second, .val (.ref a2), .val (.int (Int32.ofNat t)), .val (.int (Int32.ofNat (t + 1))), .val (.long (ng M)), .second, .val (.int ((Int32.ofNat d) + (1 : Int32))), .val (.long (ng (p10 d))), .second]) rfl k) ?_
          show Go FrameEnd p e below s 0 0 (Q1 Z q1 a2 t pw h0 n0) (T2.setTop (mkF m 146 #[.val (.long q1), .second, .val (.ref a2), .val (.int (Int32.ofNat t)), .val (.int (Int32.ofNat (t + 1))), .val (.long (ng M)), .second, .val (.int ((Int32.ofNat d) + (1 : Int32))), .val (.long (ng (p10 d))), .second] []))
          refine Go.step (fun _ k => XS.lload X2.here hx rfl (hb hby d_prog_16_method_2_code_146) rfl k) ?_
          show Go FrameEnd p e below s 0 0 (Q1 Z q1 a2 t pw h0 n0) (T2.setTop (mkF m 148 #[.val (.long q1), .second, .val (.ref a2), .val (.int (Int32.ofNat t)), .val (.int (Int32.ofNat (t + 1))), .val (.long (ng M)), .second, .val (.int ((Int32.ofNat d) + (1 : Int32))), .val (.long (ng (p10 d))), .second] [(.long (ng (p10 d)))]))
          refine Go.step (X2.ldc2Long hx hown (mvT hZ (hw _ (List.mem_of_getElem? (i := 29) rfl))) (g := (mkF m 148 #[.val (.long q1), .second, .val (.ref a2), .val (.int (Int32.ofNat t)), .val (.int (Int32.ofNat (t + 1))), .val (.long (ng M)), .second, .val (.int ((Int32.ofNat d) + (1 : Int32))), .val (.long (ng (p10 d))), .second] [(.long (ng (p10 d)))])) rfl (hb hby d_prog_16_method_2_code_148)) ?_
          show Go FrameEnd p e below s 0 0 (Q1 Z q1 a2 t pw h0 n0) (T2.setTop (mkF m 151 #[.val (.long q1), .second, .val (.ref a2), .val (.int (Int32.ofNat t)), .val (.int (Int32.ofNat (t + 1))), .val (.long (ng M)), .second, .val (.int ((Int32.ofNat d) + (1 : Int32))), .val (.long (ng (p10 d))), .second] [(.long (10 : Int64)), (.long (ng (p10 d)))]))
          refine Go.step (fun _ k => XS.lmul X2.here hx rfl (hb hby d_prog_16_method_2_code_151) rfl k) ?_
          show Go FrameEnd p e below s 0 0 (Q1 Z q1 a2 t pw h0 n0) (T2.setTop (mkF m 152 #[.val (.long q1), .second, .val (.ref a2), .val (.int (Int32.ofNat t)), .val (.int (Int32.ofNat (t + 1))), .val (.long (ng M)), .second, .val (.int ((Int32.ofNat d) + (1 : Int32))), .val (.long (ng (p10 d))), .second] [(.long ((ng (p10 d)) * (10 : Int64)))]))
          refine Go.step (fun _ k => XS.lstore X2.here hx rfl (hb hby d_prog_16_method_2_code_152) rfl (l' := #[.val (.long q1), .second, .val (.ref a2), .val (.int (Int32.ofNat t)), .val (.int (Int32.ofNat (t + 1))), .val (.long (ng M)), .second, .val (.int ((Int32.ofNat d) + (1 : Int32))), .val (.long ((ng (p10 d)) * (10 : Int64))), .second]) rfl k) ?_
          show Go FrameEnd p e below s 0 0 (Q1 Z q1 a2 t pw h0 n0) (T2.setTop (mkF m 154 #[.val (.long q1), .second, .val (.ref a2), .val (.int (Int32.ofNat t)), .val (.int (Int32.ofNat (t + 1))), .val (.long (ng M)), .second, .val (.int ((Int32.ofNat d) + (1 : Int32))), .val (.long ((ng (p10 d)) * (10 : Int64))), .second] []))
          refine Go.step (fun _ k => XS.goto X2.here hx rfl (pc0 := 154) (pc' := 128) rfl (hb hby d_prog_16_method_2_code_154) (by decide) (by decide) k) ?_
          show Go FrameEnd p e below s 0 0 (Q1 Z q1 a2 t pw h0 n0) (T2.setTop (mkF m 128 #[.val (.long q1), .second, .val (.ref a2), .val (.int (Int32.ofNat t)), .val (.int (Int32.ofNat (t + 1))), .val (.long (ng M)), .second, .val (.int ((Int32.ofNat d) + (1 : Int32))), .val (.long ((ng (p10 d)) * (10 : Int64))), .second] []))
          rw [own_of1, ng_mul]
          exact ih (d + 1) (by omega) (by omega) (Or.inr (by show p10 d ≤ M; omega))
    show Go FrameEnd p e below s 0 0 (Q1 Z q1 a2 t pw h0 n0) (T2.setTop (mkF m 128 #[.val (.long q1), .second, .val (.ref a2), .val (.int (Int32.ofNat t)), .val (.int (Int32.ofNat (t + 1))), .val (.long (ng M)), .second, .val (.int (1 : Int32)), .val (.long (-10 : Int64)), .second] []))
    exact W128_8 18 1 (by omega) (by omega) (Or.inl rfl)
  · skip
    refine Go.step (fun _ k => XS.ifNo X0.here hx rfl (hb hby d_prog_16_method_2_code_3) rfl ((if0 _ _).trans (flt (mt (lw_lt _ _).mp hc3)).1) k) ?_
    show Go FrameEnd p e below s 0 0 (Q1 Z q1 a2 t pw h0 n0) (s₁.setTop (mkF m 6 #[.val (.long q1), .second, .val (.ref a2), .val (.int (Int32.ofNat t)), .unset, .unset, .unset, .unset, .unset, .unset] []))
    refine Go.step (fun _ k => XS.lloadN X0.here hx rfl (hb hby d_prog_16_method_2_code_6) rfl k) ?_
    show Go FrameEnd p e below s 0 0 (Q1 Z q1 a2 t pw h0 n0) (s₁.setTop (mkF m 7 #[.val (.long q1), .second, .val (.ref a2), .val (.int (Int32.ofNat t)), .unset, .unset, .unset, .unset, .unset, .unset] [(.long q1)]))
    refine Go.step (X0.ldc2Long hx hown (mvT hZ (hw _ (List.mem_of_getElem? (i := 24) rfl))) (g := (mkF m 7 #[.val (.long q1), .second, .val (.ref a2), .val (.int (Int32.ofNat t)), .unset, .unset, .unset, .unset, .unset, .unset] [(.long q1)])) rfl (hb hby d_prog_16_method_2_code_7)) ?_
    show Go FrameEnd p e below s 0 0 (Q1 Z q1 a2 t pw h0 n0) (s₁.setTop (mkF m 10 #[.val (.long q1), .second, .val (.ref a2), .val (.int (Int32.ofNat t)), .unset, .unset, .unset, .unset, .unset, .unset] [(.long (2147483647 : Int64)), (.long q1)]))
    refine Go.step (fun _ k => XS.lcmp X0.here hx rfl (hb hby d_prog_16_method_2_code_10) rfl k) ?_
    show Go FrameEnd p e below s 0 0 (Q1 Z q1 a2 t pw h0 n0) (s₁.setTop (mkF m 11 #[.val (.long q1), .second, .val (.ref a2), .val (.int (Int32.ofNat t)), .unset, .unset, .unset, .unset, .unset, .unset] [(.int (lcmpW q1 (2147483647 : Int64)))]))
    by_cases hc11 : (2147483647 : Int64) < q1
    · skip
      refine Go.step (fun _ k => XS.ifYes X0.here hx rfl (pc0 := 11) (pc' := 88) rfl (hb hby d_prog_16_method_2_code_11) rfl ((if0 _ _).trans (tlt ((lw_gt _ _).mpr hc11)).2.2.1) (by decide) (by decide) k) ?_
      show Go FrameEnd p e below s 0 0 (Q1 Z q1 a2 t pw h0 n0) (s₁.setTop (mkF m 88 #[.val (.long q1), .second, .val (.ref a2), .val (.int (Int32.ofNat t)), .unset, .unset, .unset, .unset, .unset, .unset] []))
      obtain ⟨M, eM⟩ : ∃ M, M = mg q1 := ⟨_, rfl⟩
      have hM9 : M ≤ 9223372036854775808 := by rw [eM]; exact mg_le q1
      have hMp : M < p10 19 := Nat.lt_of_le_of_lt hM9 (by decide)
      have hsg : sg q1 = 0 := by unfold sg; rw [if_neg hc3]
      have hq : -q1 = ng M := by rw [eM]; exact mg_pos hc3
      have hdec : decide (q1 < 0) = false := decide_eq_false hc3
      refine Go.step (fun _ k => XS.iloadN X0.here hx rfl (hb hby d_prog_16_method_2_code_88) rfl k) ?_
      show Go FrameEnd p e below s 0 0 (Q1 Z q1 a2 t pw h0 n0) (s₁.setTop (mkF m 89 #[.val (.long q1), .second, .val (.ref a2), .val (.int (Int32.ofNat t)), .unset, .unset, .unset, .unset, .unset, .unset] [(.int (Int32.ofNat t))]))
      refine Go.step (fun _ k => XS.istore X0.here hx rfl (hb hby d_prog_16_method_2_code_89) rfl (l' := #[.val (.long q1), .second, .val (.ref a2), .val (.int (Int32.ofNat t)), .val (.int (Int32.ofNat t)), .unset, .unset, .unset, .unset, .unset]) rfl k) ?_
      show Go FrameEnd p e below s 0 0 (Q1 Z q1 a2 t pw h0 n0) (s₁.setTop (mkF m 91 #[.val (.long q1), .second, .val (.ref a2), .val (.int (Int32.ofNat t)), .val (.int (Int32.ofNat t)), .unset, .unset, .unset, .unset, .unset] []))
      refine Go.step (fun _ k => XS.lloadN X0.here hx rfl (hb hby d_prog_16_method_2_code_91) rfl k) ?_
      show Go FrameEnd p e below s 0 0 (Q1 Z q1 a2 t pw h0 n0) (s₁.setTop (mkF m 92 #[.val (.long q1), .second, .val (.ref a2), .val (.int (Int32.ofNat t)), .val (.int (Int32.ofNat t)), .unset, .unset, .unset, .unset, .unset] [(.long q1)]))
      refine Go.step (fun _ k => XS.lconst X0.here hx rfl (hb hby d_prog_16_method_2_code_92) k) ?_
      show Go FrameEnd p e below s 0 0 (Q1 Z q1 a2 t pw h0 n0) (s₁.setTop (mkF m 93 #[.val (.long q1), .second, .val (.ref a2), .val (.int (Int32.ofNat t)), .val (.int (Int32.ofNat t)), .unset, .unset, .unset, .unset, .unset] [(.long (0 : Int64)), (.long q1)]))
      refine Go.step (fun _ k => XS.lcmp X0.here hx rfl (hb hby d_prog_16_method_2_code_93) rfl k) ?_
      show Go FrameEnd p e below s 0 0 (Q1 Z q1 a2 t pw h0 n0) (s₁.setTop (mkF m 94 #[.val (.long q1), .second, .val (.ref a2), .val (.int (Int32.ofNat t)), .val (.int (Int32.ofNat t)), .unset, .unset, .unset, .unset, .unset] [(.int (lcmpW q1 (0 : Int64)))]))
      refine Go.step (fun _ k => XS.ifYes X0.here hx rfl (pc0 := 94) (pc' := 106) rfl (hb hby d_prog_16_method_2_code_94) rfl ((if0 _ _).trans (flt (mt (lw_lt _ _).mp hc3)).2.1) (by decide) (by decide) k) ?_
      show Go FrameEnd p e below s 0 0 (Q1 Z q1 a2 t pw h0 n0) (s₁.setTop (mkF m 106 #[.val (.long q1), .second, .val (.ref a2), .val (.int (Int32.ofNat t)), .val (.int (Int32.ofNat t)), .unset, .unset, .unset, .unset, .unset] []))
      refine Go.step (fun _ k => XS.lloadN X0.here hx rfl (hb hby d_prog_16_method_2_code_106) rfl k) ?_
      show Go FrameEnd p e below s 0 0 (Q1 Z q1 a2 t pw h0 n0) (s₁.setTop (mkF m 107 #[.val (.long q1), .second, .val (.ref a2), .val (.int (Int32.ofNat t)), .val (.int (Int32.ofNat t)), .unset, .unset, .unset, .unset, .unset] [(.long q1)]))
      refine Go.step (fun _ k => XS.lconst X0.here hx rfl (hb hby d_prog_16_method_2_code_107) k) ?_
      show Go FrameEnd p e below s 0 0 (Q1 Z q1 a2 t pw h0 n0) (s₁.setTop (mkF m 108 #[.val (.long q1), .second, .val (.ref a2), .val (.int (Int32.ofNat t)), .val (.int (Int32.ofNat t)), .unset, .unset, .unset, .unset, .unset] [(.long (0 : Int64)), (.long q1)]))
      refine Go.step (fun _ k => XS.lcmp X0.here hx rfl (hb hby d_prog_16_method_2_code_108) rfl k) ?_
      show Go FrameEnd p e below s 0 0 (Q1 Z q1 a2 t pw h0 n0) (s₁.setTop (mkF m 109 #[.val (.long q1), .second, .val (.ref a2), .val (.int (Int32.ofNat t)), .val (.int (Int32.ofNat t)), .unset, .unset, .unset, .unset, .unset] [(.int (lcmpW q1 (0 : Int64)))]))
      refine Go.step (fun _ k => XS.ifYes X0.here hx rfl (pc0 := 109) (pc' := 116) rfl (hb hby d_prog_16_method_2_code_109) rfl ((if0 _ _).trans (flt (mt (lw_lt _ _).mp hc3)).2.1) (by decide) (by decide) k) ?_
      show Go FrameEnd p e below s 0 0 (Q1 Z q1 a2 t pw h0 n0) (s₁.setTop (mkF m 116 #[.val (.long q1), .second, .val (.ref a2), .val (.int (Int32.ofNat t)), .val (.int (Int32.ofNat t)), .unset, .unset, .unset, .unset, .unset] []))
      refine Go.step (fun _ k => XS.lloadN X0.here hx rfl (hb hby d_prog_16_method_2_code_116) rfl k) ?_
      show Go FrameEnd p e below s 0 0 (Q1 Z q1 a2 t pw h0 n0) (s₁.setTop (mkF m 117 #[.val (.long q1), .second, .val (.ref a2), .val (.int (Int32.ofNat t)), .val (.int (Int32.ofNat t)), .unset, .unset, .unset, .unset, .unset] [(.long q1)]))
      refine Go.step (fun _ k => XS.lneg X0.here hx rfl (hb hby d_prog_16_method_2_code_117) rfl k) ?_
      show Go FrameEnd p e below s 0 0 (Q1 Z q1 a2 t pw h0 n0) (s₁.setTop (mkF m 118 #[.val (.long q1), .second, .val (.ref a2), .val (.int (Int32.ofNat t)), .val (.int (Int32.ofNat t)), .unset, .unset, .unset, .unset, .unset] [(.long (-q1))]))
      have Wz : Av Z h0 a2 .byte 24 (fun j => .int ((f45 false t) j)) := (V_a2).eq (fun j hj => (show (.int (0 : Int32) : Value) = .int (f45 false t j) from by unfold f45; rw [if_neg (by simp)]))
      refine Go.step (fun _ k => XS.lstore X0.here hx rfl (hb hby d_prog_16_method_2_code_118) rfl (l' := #[.val (.long q1), .second, .val (.ref a2), .val (.int (Int32.ofNat t)), .val (.int (Int32.ofNat t)), .val (.long (ng M)), .second, .unset, .unset, .unset]) (by rw [← hq]; rfl) k) ?_
      show Go FrameEnd p e below s 0 0 (Q1 Z q1 a2 t pw h0 n0) (s₁.setTop (mkF m 120 #[.val (.long q1), .second, .val (.ref a2), .val (.int (Int32.ofNat t)), .val (.int (Int32.ofNat t)), .val (.long (ng M)), .second, .unset, .unset, .unset] []))
      refine Go.step (fun _ k => XS.iconst X0.here hx rfl (hb hby d_prog_16_method_2_code_120) k) ?_
      show Go FrameEnd p e below s 0 0 (Q1 Z q1 a2 t pw h0 n0) (s₁.setTop (mkF m 121 #[.val (.long q1), .second, .val (.ref a2), .val (.int (Int32.ofNat t)), .val (.int (Int32.ofNat t)), .val (.long (ng M)), .second, .unset, .unset, .unset] [(.int (1 : Int32))]))
      refine Go.step (fun _ k => XS.istore X0.here hx rfl (hb hby d_prog_16_method_2_code_121) rfl (l' := #[.val (.long q1), .second, .val (.ref a2), .val (.int (Int32.ofNat t)), .val (.int (Int32.ofNat t)), .val (.long (ng M)), .second, .val (.int (1 : Int32)), .unset, .unset]) rfl k) ?_
      show Go FrameEnd p e below s 0 0 (Q1 Z q1 a2 t pw h0 n0) (s₁.setTop (mkF m 123 #[.val (.long q1), .second, .val (.ref a2), .val (.int (Int32.ofNat t)), .val (.int (Int32.ofNat t)), .val (.long (ng M)), .second, .val (.int (1 : Int32)), .unset, .unset] []))
      refine Go.step (X0.ldc2Long hx hown (mvT hZ (hw _ (List.mem_of_getElem? (i := 28) rfl))) (g := (mkF m 123 #[.val (.long q1), .second, .val (.ref a2), .val (.int (Int32.ofNat t)), .val (.int (Int32.ofNat t)), .val (.long (ng M)), .second, .val (.int (1 : Int32)), .unset, .unset] [])) rfl (hb hby d_prog_16_method_2_code_123)) ?_
      show Go FrameEnd p e below s 0 0 (Q1 Z q1 a2 t pw h0 n0) (s₁.setTop (mkF m 126 #[.val (.long q1), .second, .val (.ref a2), .val (.int (Int32.ofNat t)), .val (.int (Int32.ofNat t)), .val (.long (ng M)), .second, .val (.int (1 : Int32)), .unset, .unset] [(.long (-10 : Int64))]))
      refine Go.step (fun _ k => XS.lstore X0.here hx rfl (hb hby d_prog_16_method_2_code_126) rfl (l' := #[.val (.long q1), .second, .val (.ref a2), .val (.int (Int32.ofNat t)), .val (.int (Int32.ofNat t)), .val (.long (ng M)), .second, .val (.int (1 : Int32)), .val (.long (-10 : Int64)), .second]) rfl k) ?_
      show Go FrameEnd p e below s 0 0 (Q1 Z q1 a2 t pw h0 n0) (s₁.setTop (mkF m 128 #[.val (.long q1), .second, .val (.ref a2), .val (.int (Int32.ofNat t)), .val (.int (Int32.ofNat t)), .val (.long (ng M)), .second, .val (.int (1 : Int32)), .val (.long (-10 : Int64)), .second] []))
      rw [show (-10 : Int64) = ng (p10 1) from by decide]
      have J157_9 : ∀ (d : Nat), (Dg M d) → Go FrameEnd p e below s 0 0 (Q1 Z q1 a2 t pw h0 n0) (s₁.setTop (mkF m 157 #[.val (.long q1), .second, .val (.ref a2), .val (.int (Int32.ofNat t)), .val (.int (Int32.ofNat t)), .val (.long (ng M)), .second, .val (.int (Int32.ofNat d)), .val (.long (ng (p10 d))), .second] [])) := by
        intro d hD
        show Go FrameEnd p e below s 0 0 (Q1 Z q1 a2 t pw h0 n0) (s₁.setTop (mkF m 157 #[.val (.long q1), .second, .val (.ref a2), .val (.int (Int32.ofNat t)), .val (.int (Int32.ofNat t)), .val (.long (ng M)), .second, .val (.int (Int32.ofNat d)), .val (.long (ng (p10 d))), .second] []))
        refine Go.step (fun _ k => XS.iload X0.here hx rfl (hb hby d_prog_16_method_2_code_157) rfl k) ?_
        show Go FrameEnd p e below s 0 0 (Q1 Z q1 a2 t pw h0 n0) (s₁.setTop (mkF m 159 #[.val (.long q1), .second, .val (.ref a2), .val (.int (Int32.ofNat t)), .val (.int (Int32.ofNat t)), .val (.long (ng M)), .second, .val (.int (Int32.ofNat d)), .val (.long (ng (p10 d))), .second] [(.int (Int32.ofNat t))]))
        refine Go.step (fun _ k => XS.iload X0.here hx rfl (hb hby d_prog_16_method_2_code_159) rfl k) ?_
        show Go FrameEnd p e below s 0 0 (Q1 Z q1 a2 t pw h0 n0) (s₁.setTop (mkF m 161 #[.val (.long q1), .second, .val (.ref a2), .val (.int (Int32.ofNat t)), .val (.int (Int32.ofNat t)), .val (.long (ng M)), .second, .val (.int (Int32.ofNat d)), .val (.long (ng (p10 d))), .second] [(.int (Int32.ofNat d)), (.int (Int32.ofNat t))]))
        refine Go.step (fun _ k => XS.iadd X0.here hx rfl (hb hby d_prog_16_method_2_code_161) rfl k) ?_
        show Go FrameEnd p e below s 0 0 (Q1 Z q1 a2 t pw h0 n0) (s₁.setTop (mkF m 162 #[.val (.long q1), .second, .val (.ref a2), .val (.int (Int32.ofNat t)), .val (.int (Int32.ofNat t)), .val (.long (ng M)), .second, .val (.int (Int32.ofNat d)), .val (.long (ng (p10 d))), .second] [(.int ((Int32.ofNat t) + (Int32.ofNat d)))]))
        rw [own_ofa]
        show Go FrameEnd p e below s 0 0 (Q1 Z q1 a2 t pw h0 n0) (s₁.setTop (mkF m 162 #[.val (.long q1), .second, .val (.ref a2), .val (.int (Int32.ofNat t)), .val (.int (Int32.ofNat t)), .val (.long (ng M)), .second, .val (.int (Int32.ofNat d)), .val (.long (ng (p10 d))), .second] [(.int (Int32.ofNat (t + d)))]))
        refine Go.step (fun _ k => XS.iconst X0.here hx rfl (hb hby d_prog_16_method_2_code_162) k) ?_
        show Go FrameEnd p e below s 0 0 (Q1 Z q1 a2 t pw h0 n0) (s₁.setTop (mkF m 163 #[.val (.long q1), .second, .val (.ref a2), .val (.int (Int32.ofNat t)), .val (.int (Int32.ofNat t)), .val (.long (ng M)), .second, .val (.int (Int32.ofNat d)), .val (.long (ng (p10 d))), .second] [(.int (1 : Int32)), (.int (Int32.ofNat (t + d)))]))
        refine Go.step (fun _ k => XS.isub X0.here hx rfl (hb hby d_prog_16_method_2_code_163) rfl k) ?_
        show Go FrameEnd p e below s 0 0 (Q1 Z q1 a2 t pw h0 n0) (s₁.setTop (mkF m 164 #[.val (.long q1), .second, .val (.ref a2), .val (.int (Int32.ofNat t)), .val (.int (Int32.ofNat t)), .val (.long (ng M)), .second, .val (.int (Int32.ofNat d)), .val (.long (ng (p10 d))), .second] [(.int ((Int32.ofNat (t + d)) - (1 : Int32)))]))
        refine Go.step (fun _ k => XS.istore X0.here hx rfl (hb hby d_prog_16_method_2_code_164) rfl (l' := #[.val (.long q1), .second, .val (.ref a2), .val (.int (Int32.ofNat t)), .val (.int (Int32.ofNat t)), .val (.long (ng M)), .second, .val (.int (Int32.ofNat d)), .val (.int ((Int32.ofNat (t + d)) - (1 : Int32))), .unset]) rfl k) ?_
        show Go FrameEnd p e below s 0 0 (Q1 Z q1 a2 t pw h0 n0) (s₁.setTop (mkF m 166 #[.val (.long q1), .second, .val (.ref a2), .val (.int (Int32.ofNat t)), .val (.int (Int32.ofNat t)), .val (.long (ng M)), .second, .val (.int (Int32.ofNat d)), .val (.int ((Int32.ofNat (t + d)) - (1 : Int32))), .unset] []))
        have hd1 := hD.1
        have hd2 := hD.2.1
        have hnd : nd M = d := nd_of hD hM9
        have Wy : Av Z h0 a2 .byte 24 (Wc (f45 false t) M t d 0) := (Wz).eq (fun j hj => Wc_zero j)
        have hdiv : ∀ c_, M / p10 c_ ≤ 9223372036854775808 := fun c_ => Nat.le_trans (Nat.div_le_self _ _) hM9
        have W166_10 : ∀ kc : Nat, ∀ (c_ : Nat), ∀ (Tg11 : State) (Lg11 : List Loc) (hg11 : Heap), Stand p l e ({ frames := 0, cells := 0, slots := 0, locals := 0 } : Room) s m #[(.long q1), (.ref a2), (.int (Int32.ofNat t))] below meth c Tg11 Lg11 (0) (0) → Fr n0 Lg11 → Tg11.heap = hg11 → n0 ≤ hg11.size → Keep h0 hg11 [a2] → Av Z hg11 a2 .byte 24 (Wc (f45 false t) M t d c_) → (c_ + kc = d) → Go FrameEnd p e below s 0 0 (Q1 Z q1 a2 t pw h0 n0) (Tg11.setTop (mkF m 166 #[.val (.long q1), .second, .val (.ref a2), .val (.int (Int32.ofNat t)), .val (.int (Int32.ofNat t)), .val (.long (ng (M / p10 c_))), .second, .val (.int (Int32.ofNat d)), .val (.int (Int32.ofNat (t + d - c_) - (1 : Int32))), .unset] [])) := by
          intro kc
          induction kc with
          | zero =>
            intro c_ Tg11 Lg11 hg11 Xg11 Ng11 eg11 Zg11 Kg11 gf11_0 hk
            show Go FrameEnd p e below s 0 0 (Q1 Z q1 a2 t pw h0 n0) (Tg11.setTop (mkF m 166 #[.val (.long q1), .second, .val (.ref a2), .val (.int (Int32.ofNat t)), .val (.int (Int32.ofNat t)), .val (.long (ng (M / p10 c_))), .second, .val (.int (Int32.ofNat d)), .val (.int (Int32.ofNat (t + d - c_) - (1 : Int32))), .unset] []))
            refine Go.step (fun _ k => XS.iload Xg11.here hx rfl (hb hby d_prog_16_method_2_code_166) rfl k) ?_
            show Go FrameEnd p e below s 0 0 (Q1 Z q1 a2 t pw h0 n0) (Tg11.setTop (mkF m 168 #[.val (.long q1), .second, .val (.ref a2), .val (.int (Int32.ofNat t)), .val (.int (Int32.ofNat t)), .val (.long (ng (M / p10 c_))), .second, .val (.int (Int32.ofNat d)), .val (.int (Int32.ofNat (t + d - c_) - (1 : Int32))), .unset] [(.int (Int32.ofNat (t + d - c_) - (1 : Int32)))]))
            refine Go.step (fun _ k => XS.iload Xg11.here hx rfl (hb hby d_prog_16_method_2_code_168) rfl k) ?_
            show Go FrameEnd p e below s 0 0 (Q1 Z q1 a2 t pw h0 n0) (Tg11.setTop (mkF m 170 #[.val (.long q1), .second, .val (.ref a2), .val (.int (Int32.ofNat t)), .val (.int (Int32.ofNat t)), .val (.long (ng (M / p10 c_))), .second, .val (.int (Int32.ofNat d)), .val (.int (Int32.ofNat (t + d - c_) - (1 : Int32))), .unset] [(.int (Int32.ofNat t)), (.int (Int32.ofNat (t + d - c_) - (1 : Int32)))]))
            refine Go.step (fun _ k => XS.icmpYes Xg11.here hx rfl (pc0 := 170) (pc' := 203) rfl (hb hby d_prog_16_method_2_code_170) rfl (tlt (by rw [show t + d - c_ = t from by omega]; exact own_end (by omega))).1 (by decide) (by decide) k) ?_
            show Go FrameEnd p e below s 0 0 (Q1 Z q1 a2 t pw h0 n0) (Tg11.setTop (mkF m 203 #[.val (.long q1), .second, .val (.ref a2), .val (.int (Int32.ofNat t)), .val (.int (Int32.ofNat t)), .val (.long (ng (M / p10 c_))), .second, .val (.int (Int32.ofNat d)), .val (.int (Int32.ofNat (t + d - c_) - (1 : Int32))), .unset] []))
            refine Go.step (fun _ k => XS.iload Xg11.here hx rfl (hb hby d_prog_16_method_2_code_203) rfl k) ?_
            show Go FrameEnd p e below s 0 0 (Q1 Z q1 a2 t pw h0 n0) (Tg11.setTop (mkF m 205 #[.val (.long q1), .second, .val (.ref a2), .val (.int (Int32.ofNat t)), .val (.int (Int32.ofNat t)), .val (.long (ng (M / p10 c_))), .second, .val (.int (Int32.ofNat d)), .val (.int (Int32.ofNat (t + d - c_) - (1 : Int32))), .unset] [(.int (Int32.ofNat t))]))
            refine Go.step (fun _ k => XS.iload Xg11.here hx rfl (hb hby d_prog_16_method_2_code_205) rfl k) ?_
            show Go FrameEnd p e below s 0 0 (Q1 Z q1 a2 t pw h0 n0) (Tg11.setTop (mkF m 207 #[.val (.long q1), .second, .val (.ref a2), .val (.int (Int32.ofNat t)), .val (.int (Int32.ofNat t)), .val (.long (ng (M / p10 c_))), .second, .val (.int (Int32.ofNat d)), .val (.int (Int32.ofNat (t + d - c_) - (1 : Int32))), .unset] [(.int (Int32.ofNat d)), (.int (Int32.ofNat t))]))
            refine Go.step (fun _ k => XS.iadd Xg11.here hx rfl (hb hby d_prog_16_method_2_code_207) rfl k) ?_
            show Go FrameEnd p e below s 0 0 (Q1 Z q1 a2 t pw h0 n0) (Tg11.setTop (mkF m 208 #[.val (.long q1), .second, .val (.ref a2), .val (.int (Int32.ofNat t)), .val (.int (Int32.ofNat t)), .val (.long (ng (M / p10 c_))), .second, .val (.int (Int32.ofNat d)), .val (.int (Int32.ofNat (t + d - c_) - (1 : Int32))), .unset] [(.int ((Int32.ofNat t) + (Int32.ofNat d)))]))
            refine Go.retI Xg11 hx Bd.returns (hb hby d_prog_16_method_2_code_208) (BodyLoose.notSynchronized Bd) eg11 (by decide) (by decide) ?_
            have hcd : c_ = d := by omega
            have eW : Wf q1 t = Wc (f45 false t) M t d d := by unfold Wf; rw [hdec, ← eM, hsg, hnd]; rfl
            exact ⟨by rw [own_ofa, ← eM, hsg, hnd]; rfl, Ng11, Kg11, by rw [eW]; rw [hcd] at gf11_0; exact gf11_0⟩
          | succ kc ihkc =>
            intro c_ Tg11 Lg11 hg11 Xg11 Ng11 eg11 Zg11 Kg11 gf11_0 hk
            show Go FrameEnd p e below s 0 0 (Q1 Z q1 a2 t pw h0 n0) (Tg11.setTop (mkF m 166 #[.val (.long q1), .second, .val (.ref a2), .val (.int (Int32.ofNat t)), .val (.int (Int32.ofNat t)), .val (.long (ng (M / p10 c_))), .second, .val (.int (Int32.ofNat d)), .val (.int (Int32.ofNat (t + d - c_) - (1 : Int32))), .unset] []))
            refine Go.step (fun _ k => XS.iload Xg11.here hx rfl (hb hby d_prog_16_method_2_code_166) rfl k) ?_
            show Go FrameEnd p e below s 0 0 (Q1 Z q1 a2 t pw h0 n0) (Tg11.setTop (mkF m 168 #[.val (.long q1), .second, .val (.ref a2), .val (.int (Int32.ofNat t)), .val (.int (Int32.ofNat t)), .val (.long (ng (M / p10 c_))), .second, .val (.int (Int32.ofNat d)), .val (.int (Int32.ofNat (t + d - c_) - (1 : Int32))), .unset] [(.int (Int32.ofNat (t + d - c_) - (1 : Int32)))]))
            refine Go.step (fun _ k => XS.iload Xg11.here hx rfl (hb hby d_prog_16_method_2_code_168) rfl k) ?_
            show Go FrameEnd p e below s 0 0 (Q1 Z q1 a2 t pw h0 n0) (Tg11.setTop (mkF m 170 #[.val (.long q1), .second, .val (.ref a2), .val (.int (Int32.ofNat t)), .val (.int (Int32.ofNat t)), .val (.long (ng (M / p10 c_))), .second, .val (.int (Int32.ofNat d)), .val (.int (Int32.ofNat (t + d - c_) - (1 : Int32))), .unset] [(.int (Int32.ofNat t)), (.int (Int32.ofNat (t + d - c_) - (1 : Int32)))]))
            refine Go.step (fun _ k => XS.icmpNo Xg11.here hx rfl (hb hby d_prog_16_method_2_code_170) rfl (flt (by rw [own_sub1 (by omega) (by omega), own_lt (by omega) (by omega)]; omega)).1 k) ?_
            show Go FrameEnd p e below s 0 0 (Q1 Z q1 a2 t pw h0 n0) (Tg11.setTop (mkF m 173 #[.val (.long q1), .second, .val (.ref a2), .val (.int (Int32.ofNat t)), .val (.int (Int32.ofNat t)), .val (.long (ng (M / p10 c_))), .second, .val (.int (Int32.ofNat d)), .val (.int (Int32.ofNat (t + d - c_) - (1 : Int32))), .unset] []))
            refine Go.step (fun _ k => XS.aloadN Xg11.here hx rfl (hb hby d_prog_16_method_2_code_173) rfl rfl k) ?_
            show Go FrameEnd p e below s 0 0 (Q1 Z q1 a2 t pw h0 n0) (Tg11.setTop (mkF m 174 #[.val (.long q1), .second, .val (.ref a2), .val (.int (Int32.ofNat t)), .val (.int (Int32.ofNat t)), .val (.long (ng (M / p10 c_))), .second, .val (.int (Int32.ofNat d)), .val (.int (Int32.ofNat (t + d - c_) - (1 : Int32))), .unset] [(.ref a2)]))
            refine Go.step (fun _ k => XS.iload Xg11.here hx rfl (hb hby d_prog_16_method_2_code_174) rfl k) ?_
            show Go FrameEnd p e below s 0 0 (Q1 Z q1 a2 t pw h0 n0) (Tg11.setTop (mkF m 176 #[.val (.long q1), .second, .val (.ref a2), .val (.int (Int32.ofNat t)), .val (.int (Int32.ofNat t)), .val (.long (ng (M / p10 c_))), .second, .val (.int (Int32.ofNat d)), .val (.int (Int32.ofNat (t + d - c_) - (1 : Int32))), .unset] [(.int (Int32.ofNat (t + d - c_) - (1 : Int32))), (.ref a2)]))
            refine Go.step (Xg11.ldc2Long hx hown (mvT hZ (hw _ (List.mem_of_getElem? (i := 30) rfl))) (g := (mkF m 176 #[.val (.long q1), .second, .val (.ref a2), .val (.int (Int32.ofNat t)), .val (.int (Int32.ofNat t)), .val (.long (ng (M / p10 c_))), .second, .val (.int (Int32.ofNat d)), .val (.int (Int32.ofNat (t + d - c_) - (1 : Int32))), .unset] [(.int (Int32.ofNat (t + d - c_) - (1 : Int32))), (.ref a2)])) rfl (hb hby d_prog_16_method_2_code_176)) ?_
            show Go FrameEnd p e below s 0 0 (Q1 Z q1 a2 t pw h0 n0) (Tg11.setTop (mkF m 179 #[.val (.long q1), .second, .val (.ref a2), .val (.int (Int32.ofNat t)), .val (.int (Int32.ofNat t)), .val (.long (ng (M / p10 c_))), .second, .val (.int (Int32.ofNat d)), .val (.int (Int32.ofNat (t + d - c_) - (1 : Int32))), .unset] [(.long (48 : Int64)), (.int (Int32.ofNat (t + d - c_) - (1 : Int32))), (.ref a2)]))
            refine Go.step (fun _ k => XS.lload Xg11.here hx rfl (hb hby d_prog_16_method_2_code_179) rfl k) ?_
            show Go FrameEnd p e below s 0 0 (Q1 Z q1 a2 t pw h0 n0) (Tg11.setTop (mkF m 181 #[.val (.long q1), .second, .val (.ref a2), .val (.int (Int32.ofNat t)), .val (.int (Int32.ofNat t)), .val (.long (ng (M / p10 c_))), .second, .val (.int (Int32.ofNat d)), .val (.int (Int32.ofNat (t + d - c_) - (1 : Int32))), .unset] [(.long (ng (M / p10 c_))), (.long (48 : Int64)), (.int (Int32.ofNat (t + d - c_) - (1 : Int32))), (.ref a2)]))
            refine Go.step (Xg11.ldc2Long hx hown (mvT hZ (hw _ (List.mem_of_getElem? (i := 29) rfl))) (g := (mkF m 181 #[.val (.long q1), .second, .val (.ref a2), .val (.int (Int32.ofNat t)), .val (.int (Int32.ofNat t)), .val (.long (ng (M / p10 c_))), .second, .val (.int (Int32.ofNat d)), .val (.int (Int32.ofNat (t + d - c_) - (1 : Int32))), .unset] [(.long (ng (M / p10 c_))), (.long (48 : Int64)), (.int (Int32.ofNat (t + d - c_) - (1 : Int32))), (.ref a2)])) rfl (hb hby d_prog_16_method_2_code_181)) ?_
            show Go FrameEnd p e below s 0 0 (Q1 Z q1 a2 t pw h0 n0) (Tg11.setTop (mkF m 184 #[.val (.long q1), .second, .val (.ref a2), .val (.int (Int32.ofNat t)), .val (.int (Int32.ofNat t)), .val (.long (ng (M / p10 c_))), .second, .val (.int (Int32.ofNat d)), .val (.int (Int32.ofNat (t + d - c_) - (1 : Int32))), .unset] [(.long (10 : Int64)), (.long (ng (M / p10 c_))), (.long (48 : Int64)), (.int (Int32.ofNat (t + d - c_) - (1 : Int32))), (.ref a2)]))
            refine Go.step (fun _ k => own_lrem Xg11 hx rfl (hb hby d_prog_16_method_2_code_184) rfl (by decide) k) ?_
            show Go FrameEnd p e below s 0 0 (Q1 Z q1 a2 t pw h0 n0) (Tg11.setTop (mkF m 185 #[.val (.long q1), .second, .val (.ref a2), .val (.int (Int32.ofNat t)), .val (.int (Int32.ofNat t)), .val (.long (ng (M / p10 c_))), .second, .val (.int (Int32.ofNat d)), .val (.int (Int32.ofNat (t + d - c_) - (1 : Int32))), .unset] [(.long ((ng (M / p10 c_)) % (10 : Int64))), (.long (48 : Int64)), (.int (Int32.ofNat (t + d - c_) - (1 : Int32))), (.ref a2)]))
            refine Go.step (fun _ k => XS.lsub Xg11.here hx rfl (hb hby d_prog_16_method_2_code_185) rfl k) ?_
            show Go FrameEnd p e below s 0 0 (Q1 Z q1 a2 t pw h0 n0) (Tg11.setTop (mkF m 186 #[.val (.long q1), .second, .val (.ref a2), .val (.int (Int32.ofNat t)), .val (.int (Int32.ofNat t)), .val (.long (ng (M / p10 c_))), .second, .val (.int (Int32.ofNat d)), .val (.int (Int32.ofNat (t + d - c_) - (1 : Int32))), .unset] [(.long ((48 : Int64) - ((ng (M / p10 c_)) % (10 : Int64)))), (.int (Int32.ofNat (t + d - c_) - (1 : Int32))), (.ref a2)]))
            refine Go.step (fun _ k => XS.l2i Xg11.here hx rfl (hb hby d_prog_16_method_2_code_186) rfl k) ?_
            show Go FrameEnd p e below s 0 0 (Q1 Z q1 a2 t pw h0 n0) (Tg11.setTop (mkF m 187 #[.val (.long q1), .second, .val (.ref a2), .val (.int (Int32.ofNat t)), .val (.int (Int32.ofNat t)), .val (.long (ng (M / p10 c_))), .second, .val (.int (Int32.ofNat d)), .val (.int (Int32.ofNat (t + d - c_) - (1 : Int32))), .unset] [(.int ((48 : Int64) - ((ng (M / p10 c_)) % (10 : Int64))).toInt32), (.int (Int32.ofNat (t + d - c_) - (1 : Int32))), (.ref a2)]))
            refine Go.step (fun _ k => XS.i2b Xg11.here hx rfl (hb hby d_prog_16_method_2_code_187) rfl k) ?_
            show Go FrameEnd p e below s 0 0 (Q1 Z q1 a2 t pw h0 n0) (Tg11.setTop (mkF m 188 #[.val (.long q1), .second, .val (.ref a2), .val (.int (Int32.ofNat t)), .val (.int (Int32.ofNat t)), .val (.long (ng (M / p10 c_))), .second, .val (.int (Int32.ofNat d)), .val (.int (Int32.ofNat (t + d - c_) - (1 : Int32))), .unset] [(.int ((48 : Int64) - ((ng (M / p10 c_)) % (10 : Int64))).toInt32.toInt8.toInt32), (.int (Int32.ofNat (t + d - c_) - (1 : Int32))), (.ref a2)]))
            rw [own_digL (hdiv c_)]
            show Go FrameEnd p e below s 0 0 (Q1 Z q1 a2 t pw h0 n0) (Tg11.setTop (mkF m 188 #[.val (.long q1), .second, .val (.ref a2), .val (.int (Int32.ofNat t)), .val (.int (Int32.ofNat t)), .val (.long (ng (M / p10 c_))), .second, .val (.int (Int32.ofNat d)), .val (.int (Int32.ofNat (t + d - c_) - (1 : Int32))), .unset] [(.int (Int32.ofNat (48 + M / p10 c_ % 10))), (.int (Int32.ofNat (t + d - c_) - (1 : Int32))), (.ref a2)]))
            obtain ⟨c12, Ac12, Sc12, Mc12, Gc12⟩ := id gf11_0
            obtain ⟨T13, h13, X13, e13, W13, st13⟩ := stB Xg11 hx hZ eg11 Ac12 (j := (Int32.ofNat (t + d - c_) - (1 : Int32))) (own_in Sc12 (by rw [own_sub1 (i := t + d - c_) (by omega) (by omega)]; exact own_nn (by omega)) (by rw [own_sub1 (i := t + d - c_) (by omega) (by omega), own_cl (by omega)]; omega)) (g := (mkF m 188 #[.val (.long q1), .second, .val (.ref a2), .val (.int (Int32.ofNat t)), .val (.int (Int32.ofNat t)), .val (.long (ng (M / p10 c_))), .second, .val (.int (Int32.ofNat d)), .val (.int (Int32.ofNat (t + d - c_) - (1 : Int32))), .unset] [(.int (Int32.ofNat (48 + M / p10 c_ % 10))), (.int (Int32.ofNat (t + d - c_) - (1 : Int32))), (.ref a2)])) rfl rfl (hb hby d_prog_16_method_2_code_188)
            refine Go.step st13 ?_
            rw [own_narb (by omega)] at W13
            have N13 := Fr.snoc X13 Ng11 g_a2
            have Z13 : n0 ≤ h13.size := Nat.le_trans Zg11 (Keep.of_wr W13).1
            have K013 : Keep h0 h13 [a2] := Kg11.wr W13 (Or.inl (List.mem_of_getElem? (i := 0) rfl))
            have V13 : Av Z h13 a2 .byte 24 (aset (Wc (f45 false t) M t d c_) (t + d - (c_ + 1)) (.int (Int32.ofNat (48 + M / p10 c_ % 10)))) := Av.set Ac12 Sc12 Mc12 Gc12 W13 (by rw [own_sub1 (i := t + d - c_) (by omega) (by omega), own_cl (by omega)]; omega) (own_in Sc12 (by rw [own_sub1 (i := t + d - c_) (by omega) (by omega)]; exact own_nn (by omega)) (by rw [own_sub1 (i := t + d - c_) (by omega) (by omega), own_cl (by omega)]; omega))
            have V13 : Av Z h13 a2 .byte 24 (Wc (f45 false t) M t d (c_ + 1)) := V13.eq (fun j hj => Wc_next (by omega) rfl j)
            show Go FrameEnd p e below s 0 0 (Q1 Z q1 a2 t pw h0 n0) (T13.setTop (mkF m 189 #[.val (.long q1), .second, .val (.ref a2), .val (.int (Int32.ofNat t)), .val (.int (Int32.ofNat t)), .val (.long (ng (M / p10 c_))), .second, .val (.int (Int32.ofNat d)), .val (.int (Int32.ofNat (t + d - c_) - (1 : Int32))), .unset] []))
            refine Go.step (fun _ k => XS.lload X13.here hx rfl (hb hby d_prog_16_method_2_code_189) rfl k) ?_
            show Go FrameEnd p e below s 0 0 (Q1 Z q1 a2 t pw h0 n0) (T13.setTop (mkF m 191 #[.val (.long q1), .second, .val (.ref a2), .val (.int (Int32.ofNat t)), .val (.int (Int32.ofNat t)), .val (.long (ng (M / p10 c_))), .second, .val (.int (Int32.ofNat d)), .val (.int (Int32.ofNat (t + d - c_) - (1 : Int32))), .unset] [(.long (ng (M / p10 c_)))]))
            refine Go.step (X13.ldc2Long hx hown (mvT hZ (hw _ (List.mem_of_getElem? (i := 29) rfl))) (g := (mkF m 191 #[.val (.long q1), .second, .val (.ref a2), .val (.int (Int32.ofNat t)), .val (.int (Int32.ofNat t)), .val (.long (ng (M / p10 c_))), .second, .val (.int (Int32.ofNat d)), .val (.int (Int32.ofNat (t + d - c_) - (1 : Int32))), .unset] [(.long (ng (M / p10 c_)))])) rfl (hb hby d_prog_16_method_2_code_191)) ?_
            show Go FrameEnd p e below s 0 0 (Q1 Z q1 a2 t pw h0 n0) (T13.setTop (mkF m 194 #[.val (.long q1), .second, .val (.ref a2), .val (.int (Int32.ofNat t)), .val (.int (Int32.ofNat t)), .val (.long (ng (M / p10 c_))), .second, .val (.int (Int32.ofNat d)), .val (.int (Int32.ofNat (t + d - c_) - (1 : Int32))), .unset] [(.long (10 : Int64)), (.long (ng (M / p10 c_)))]))
            refine Go.step (fun _ k => XS.ldiv X13.here hx rfl (hb hby d_prog_16_method_2_code_194) rfl (by decide) k) ?_
            show Go FrameEnd p e below s 0 0 (Q1 Z q1 a2 t pw h0 n0) (T13.setTop (mkF m 195 #[.val (.long q1), .second, .val (.ref a2), .val (.int (Int32.ofNat t)), .val (.int (Int32.ofNat t)), .val (.long (ng (M / p10 c_))), .second, .val (.int (Int32.ofNat d)), .val (.int (Int32.ofNat (t + d - c_) - (1 : Int32))), .unset] [(.long ((ng (M / p10 c_)) / (10 : Int64)))]))
            rw [own_div10 (hdiv c_), div_next]
            show Go FrameEnd p e below s 0 0 (Q1 Z q1 a2 t pw h0 n0) (T13.setTop (mkF m 195 #[.val (.long q1), .second, .val (.ref a2), .val (.int (Int32.ofNat t)), .val (.int (Int32.ofNat t)), .val (.long (ng (M / p10 c_))), .second, .val (.int (Int32.ofNat d)), .val (.int (Int32.ofNat (t + d - c_) - (1 : Int32))), .unset] [(.long (ng (M / p10 (c_ + 1))))]))
            refine Go.step (fun _ k => XS.lstore X13.here hx rfl (hb hby d_prog_16_method_2_code_195) rfl (l' := #[.val (.long q1), .second, .val (.ref a2), .val (.int (Int32.ofNat t)), .val (.int (Int32.ofNat t)), .val (.long (ng (M / p10 (c_ + 1)))), .second, .val (.int (Int32.ofNat d)), .val (.int (Int32.ofNat (t + d - c_) - (1 : Int32))), .unset]) rfl k) ?_
            show Go FrameEnd p e below s 0 0 (Q1 Z q1 a2 t pw h0 n0) (T13.setTop (mkF m 197 #[.val (.long q1), .second, .val (.ref a2), .val (.int (Int32.ofNat t)), .val (.int (Int32.ofNat t)), .val (.long (ng (M / p10 (c_ + 1)))), .second, .val (.int (Int32.ofNat d)), .val (.int (Int32.ofNat (t + d - c_) - (1 : Int32))), .unset] []))
            refine Go.step (fun _ k => XS.iinc X13.here hx rfl (hb hby d_prog_16_method_2_code_197) rfl (l' := #[.val (.long q1), .second, .val (.ref a2), .val (.int (Int32.ofNat t)), .val (.int (Int32.ofNat t)), .val (.long (ng (M / p10 (c_ + 1)))), .second, .val (.int (Int32.ofNat d)), .val (.int ((Int32.ofNat (t + d - c_) - (1 : Int32)) + (-1 : Int32))), .unset]) rfl k) ?_
            show Go FrameEnd p e below s 0 0 (Q1 Z q1 a2 t pw h0 n0) (T13.setTop (mkF m 200 #[.val (.long q1), .second, .val (.ref a2), .val (.int (Int32.ofNat t)), .val (.int (Int32.ofNat t)), .val (.long (ng (M / p10 (c_ + 1)))), .second, .val (.int (Int32.ofNat d)), .val (.int ((Int32.ofNat (t + d - c_) - (1 : Int32)) + (-1 : Int32))), .unset] []))
            refine Go.step (fun _ k => XS.goto X13.here hx rfl (pc0 := 200) (pc' := 166) rfl (hb hby d_prog_16_method_2_code_200) (by decide) (by decide) k) ?_
            show Go FrameEnd p e below s 0 0 (Q1 Z q1 a2 t pw h0 n0) (T13.setTop (mkF m 166 #[.val (.long q1), .second, .val (.ref a2), .val (.int (Int32.ofNat t)), .val (.int (Int32.ofNat t)), .val (.long (ng (M / p10 (c_ + 1)))), .second, .val (.int (Int32.ofNat d)), .val (.int ((Int32.ofNat (t + d - c_) - (1 : Int32)) + (-1 : Int32))), .unset] []))
            rw [own_dec2 (by omega) (by omega), show t + d - c_ - 1 = t + d - (c_ + 1) from by omega]
            exact ihkc (c_ + 1) _ _ _ X13 N13 e13 Z13 K013 V13 (by omega)
        show Go FrameEnd p e below s 0 0 (Q1 Z q1 a2 t pw h0 n0) (s₁.setTop (mkF m 166 #[.val (.long q1), .second, .val (.ref a2), .val (.int (Int32.ofNat t)), .val (.int (Int32.ofNat t)), .val (.long (ng M)), .second, .val (.int (Int32.ofNat d)), .val (.int ((Int32.ofNat (t + d)) - (1 : Int32))), .unset] []))
        have eM0 : M / p10 0 = M := Nat.div_one M
        have W0 := W166_10 d 0 _ _ _ X0 N0 e0 Z0 (Keep.refl h0 [a2]) Wy (by omega)
        rw [eM0] at W0
        exact W0
      have W128_14 : ∀ k : Nat, ∀ (d : Nat), (d + k = 19) → (1 ≤ d) → (d = 1 ∨ p10 (d - 1) ≤ M) → Go FrameEnd p e below s 0 0 (Q1 Z q1 a2 t pw h0 n0) (s₁.setTop (mkF m 128 #[.val (.long q1), .second, .val (.ref a2), .val (.int (Int32.ofNat t)), .val (.int (Int32.ofNat t)), .val (.long (ng M)), .second, .val (.int (Int32.ofNat d)), .val (.long (ng (p10 d))), .second] [])) := by
        intro k
        induction k with
        | zero =>
          intro d hk h1 hlo
          show Go FrameEnd p e below s 0 0 (Q1 Z q1 a2 t pw h0 n0) (s₁.setTop (mkF m 128 #[.val (.long q1), .second, .val (.ref a2), .val (.int (Int32.ofNat t)), .val (.int (Int32.ofNat t)), .val (.long (ng M)), .second, .val (.int (Int32.ofNat d)), .val (.long (ng (p10 d))), .second] []))
          refine Go.step (fun _ k => XS.iload X0.here hx rfl (hb hby d_prog_16_method_2_code_128) rfl k) ?_
          show Go FrameEnd p e below s 0 0 (Q1 Z q1 a2 t pw h0 n0) (s₁.setTop (mkF m 130 #[.val (.long q1), .second, .val (.ref a2), .val (.int (Int32.ofNat t)), .val (.int (Int32.ofNat t)), .val (.long (ng M)), .second, .val (.int (Int32.ofNat d)), .val (.long (ng (p10 d))), .second] [(.int (Int32.ofNat d))]))
          refine Go.step (fun _ k => XS.bipush X0.here hx rfl (hb hby d_prog_16_method_2_code_130) k) ?_
          show Go FrameEnd p e below s 0 0 (Q1 Z q1 a2 t pw h0 n0) (s₁.setTop (mkF m 132 #[.val (.long q1), .second, .val (.ref a2), .val (.int (Int32.ofNat t)), .val (.int (Int32.ofNat t)), .val (.long (ng M)), .second, .val (.int (Int32.ofNat d)), .val (.long (ng (p10 d))), .second] [(.int (19 : Int32)), (.int (Int32.ofNat d))]))
          refine Go.step (fun _ k => XS.icmpYes X0.here hx rfl (pc0 := 132) (pc' := 157) rfl (hb hby d_prog_16_method_2_code_132) rfl (flt (mt (own_lt (j := 19) (by omega) (by omega)).mp (by omega))).2.1 (by decide) (by decide) k) ?_
          show Go FrameEnd p e below s 0 0 (Q1 Z q1 a2 t pw h0 n0) (s₁.setTop (mkF m 157 #[.val (.long q1), .second, .val (.ref a2), .val (.int (Int32.ofNat t)), .val (.int (Int32.ofNat t)), .val (.long (ng M)), .second, .val (.int (Int32.ofNat d)), .val (.long (ng (p10 d))), .second] []))
          exact J157_9  d ⟨by omega, by omega, by rw [show d = 19 from by omega]; exact hMp, hlo⟩
        | succ k ih =>
          intro d hk h1 hlo
          show Go FrameEnd p e below s 0 0 (Q1 Z q1 a2 t pw h0 n0) (s₁.setTop (mkF m 128 #[.val (.long q1), .second, .val (.ref a2), .val (.int (Int32.ofNat t)), .val (.int (Int32.ofNat t)), .val (.long (ng M)), .second, .val (.int (Int32.ofNat d)), .val (.long (ng (p10 d))), .second] []))
          refine Go.step (fun _ k => XS.iload X0.here hx rfl (hb hby d_prog_16_method_2_code_128) rfl k) ?_
          show Go FrameEnd p e below s 0 0 (Q1 Z q1 a2 t pw h0 n0) (s₁.setTop (mkF m 130 #[.val (.long q1), .second, .val (.ref a2), .val (.int (Int32.ofNat t)), .val (.int (Int32.ofNat t)), .val (.long (ng M)), .second, .val (.int (Int32.ofNat d)), .val (.long (ng (p10 d))), .second] [(.int (Int32.ofNat d))]))
          refine Go.step (fun _ k => XS.bipush X0.here hx rfl (hb hby d_prog_16_method_2_code_130) k) ?_
          show Go FrameEnd p e below s 0 0 (Q1 Z q1 a2 t pw h0 n0) (s₁.setTop (mkF m 132 #[.val (.long q1), .second, .val (.ref a2), .val (.int (Int32.ofNat t)), .val (.int (Int32.ofNat t)), .val (.long (ng M)), .second, .val (.int (Int32.ofNat d)), .val (.long (ng (p10 d))), .second] [(.int (19 : Int32)), (.int (Int32.ofNat d))]))
          refine Go.step (fun _ k => XS.icmpNo X0.here hx rfl (hb hby d_prog_16_method_2_code_132) rfl (tlt ((own_lt (j := 19) (by omega) (by omega)).mpr (by omega))).2.1 k) ?_
          show Go FrameEnd p e below s 0 0 (Q1 Z q1 a2 t pw h0 n0) (s₁.setTop (mkF m 135 #[.val (.long q1), .second, .val (.ref a2), .val (.int (Int32.ofNat t)), .val (.int (Int32.ofNat t)), .val (.long (ng M)), .second, .val (.int (Int32.ofNat d)), .val (.long (ng (p10 d))), .second] []))
          refine Go.step (fun _ k => XS.lload X0.here hx rfl (hb hby d_prog_16_method_2_code_135) rfl k) ?_
          show Go FrameEnd p e below s 0 0 (Q1 Z q1 a2 t pw h0 n0) (s₁.setTop (mkF m 137 #[.val (.long q1), .second, .val (.ref a2), .val (.int (Int32.ofNat t)), .val (.int (Int32.ofNat t)), .val (.long (ng M)), .second, .val (.int (Int32.ofNat d)), .val (.long (ng (p10 d))), .second] [(.long (ng M))]))
          refine Go.step (fun _ k => XS.lload X0.here hx rfl (hb hby d_prog_16_method_2_code_137) rfl k) ?_
          show Go FrameEnd p e below s 0 0 (Q1 Z q1 a2 t pw h0 n0) (s₁.setTop (mkF m 139 #[.val (.long q1), .second, .val (.ref a2), .val (.int (Int32.ofNat t)), .val (.int (Int32.ofNat t)), .val (.long (ng M)), .second, .val (.int (Int32.ofNat d)), .val (.long (ng (p10 d))), .second] [(.long (ng (p10 d))), (.long (ng M))]))
          refine Go.step (fun _ k => XS.lcmp X0.here hx rfl (hb hby d_prog_16_method_2_code_139) rfl k) ?_
          show Go FrameEnd p e below s 0 0 (Q1 Z q1 a2 t pw h0 n0) (s₁.setTop (mkF m 140 #[.val (.long q1), .second, .val (.ref a2), .val (.int (Int32.ofNat t)), .val (.int (Int32.ofNat t)), .val (.long (ng M)), .second, .val (.int (Int32.ofNat d)), .val (.long (ng (p10 d))), .second] [(.int (lcmpW (ng M) (ng (p10 d))))]))
          have hp := p10_19 (d := d) (by omega)
          by_cases hlt : M < p10 d
          · skip
            refine Go.step (fun _ k => XS.ifYes X0.here hx rfl (pc0 := 140) (pc' := 157) rfl (hb hby d_prog_16_method_2_code_140) rfl ((if0 _ _).trans (tlt ((lw_gt _ _).mpr ((ng_lt (by omega) (by omega)).mpr hlt))).2.2.1) (by decide) (by decide) k) ?_
            show Go FrameEnd p e below s 0 0 (Q1 Z q1 a2 t pw h0 n0) (s₁.setTop (mkF m 157 #[.val (.long q1), .second, .val (.ref a2), .val (.int (Int32.ofNat t)), .val (.int (Int32.ofNat t)), .val (.long (ng M)), .second, .val (.int (Int32.ofNat d)), .val (.long (ng (p10 d))), .second] []))
            exact J157_9  d ⟨by omega, by omega, hlt, hlo⟩
          · skip
            refine Go.step (fun _ k => XS.ifNo X0.here hx rfl (hb hby d_prog_16_method_2_code_140) rfl ((if0 _ _).trans (flt (mt (lw_gt _ _).mp (mt (ng_lt (by omega) (by omega)).mp hlt))).2.2.1) k) ?_
            show Go FrameEnd p e below s 0 0 (Q1 Z q1 a2 t pw h0 n0) (s₁.setTop (mkF m 143 #[.val (.long q1), .second, .val (.ref a2), .val (.int (Int32.ofNat t)), .val (.int (Int32.ofNat t)), .val (.long (ng M)), .second, .val (.int (Int32.ofNat d)), .val (.long (ng (p10 d))), .second] []))
            refine Go.step (fun _ k => XS.iinc X0.here hx rfl (hb hby d_prog_16_method_2_code_143) rfl (l' := #[.val (.long q1), .second, .val (.ref a2), .val (.int (Int32.ofNat t)), .val (.int (Int32.ofNat t)), .val (.long (ng M)), .second, .val (.int ((Int32.ofNat d) + (1 : Int32))), .val (.long (ng (p10 d))), .second]) rfl k) ?_
            show Go FrameEnd p e below s 0 0 (Q1 Z q1 a2 t pw h0 n0) (s₁.setTop (mkF m 146 #[.val (.long q1), .second, .val (.ref a2), .val (.int (Int32.ofNat t)), .val (.int (Int32.ofNat t)), .val (.long (ng M)), .second, .val (.int ((Int32.ofNat d) + (1 : Int32))), .val (.long (ng (p10 d))), .second] []))
            refine Go.step (fun _ k => XS.lload X0.here hx rfl (hb hby d_prog_16_method_2_code_146) rfl k) ?_
            show Go FrameEnd p e below s 0 0 (Q1 Z q1 a2 t pw h0 n0) (s₁.setTop (mkF m 148 #[.val (.long q1), .second, .val (.ref a2), .val (.int (Int32.ofNat t)), .val (.int (Int32.ofNat t)), .val (.long (ng M)), .second, .val (.int ((Int32.ofNat d) + (1 : Int32))), .val (.long (ng (p10 d))), .second] [(.long (ng (p10 d)))]))
            refine Go.step (X0.ldc2Long hx hown (mvT hZ (hw _ (List.mem_of_getElem? (i := 29) rfl))) (g := (mkF m 148 #[.val (.long q1), .second, .val (.ref a2), .val (.int (Int32.ofNat t)), .val (.int (Int32.ofNat t)), .val (.long (ng M)), .second, .val (.int ((Int32.ofNat d) + (1 : Int32))), .val (.long (ng (p10 d))), .second] [(.long (ng (p10 d)))])) rfl (hb hby d_prog_16_method_2_code_148)) ?_
            show Go FrameEnd p e below s 0 0 (Q1 Z q1 a2 t pw h0 n0) (s₁.setTop (mkF m 151 #[.val (.long q1), .second, .val (.ref a2), .val (.int (Int32.ofNat t)), .val (.int (Int32.ofNat t)), .val (.long (ng M)), .second, .val (.int ((Int32.ofNat d) + (1 : Int32))), .val (.long (ng (p10 d))), .second] [(.long (10 : Int64)), (.long (ng (p10 d)))]))
            refine Go.step (fun _ k => XS.lmul X0.here hx rfl (hb hby d_prog_16_method_2_code_151) rfl k) ?_
            show Go FrameEnd p e below s 0 0 (Q1 Z q1 a2 t pw h0 n0) (s₁.setTop (mkF m 152 #[.val (.long q1), .second, .val (.ref a2), .val (.int (Int32.ofNat t)), .val (.int (Int32.ofNat t)), .val (.long (ng M)), .second, .val (.int ((Int32.ofNat d) + (1 : Int32))), .val (.long (ng (p10 d))), .second] [(.long ((ng (p10 d)) * (10 : Int64)))]))
            refine Go.step (fun _ k => XS.lstore X0.here hx rfl (hb hby d_prog_16_method_2_code_152) rfl (l' := #[.val (.long q1), .second, .val (.ref a2), .val (.int (Int32.ofNat t)), .val (.int (Int32.ofNat t)), .val (.long (ng M)), .second, .val (.int ((Int32.ofNat d) + (1 : Int32))), .val (.long ((ng (p10 d)) * (10 : Int64))), .second]) rfl k) ?_
            show Go FrameEnd p e below s 0 0 (Q1 Z q1 a2 t pw h0 n0) (s₁.setTop (mkF m 154 #[.val (.long q1), .second, .val (.ref a2), .val (.int (Int32.ofNat t)), .val (.int (Int32.ofNat t)), .val (.long (ng M)), .second, .val (.int ((Int32.ofNat d) + (1 : Int32))), .val (.long ((ng (p10 d)) * (10 : Int64))), .second] []))
            refine Go.step (fun _ k => XS.goto X0.here hx rfl (pc0 := 154) (pc' := 128) rfl (hb hby d_prog_16_method_2_code_154) (by decide) (by decide) k) ?_
            show Go FrameEnd p e below s 0 0 (Q1 Z q1 a2 t pw h0 n0) (s₁.setTop (mkF m 128 #[.val (.long q1), .second, .val (.ref a2), .val (.int (Int32.ofNat t)), .val (.int (Int32.ofNat t)), .val (.long (ng M)), .second, .val (.int ((Int32.ofNat d) + (1 : Int32))), .val (.long ((ng (p10 d)) * (10 : Int64))), .second] []))
            rw [own_of1, ng_mul]
            exact ih (d + 1) (by omega) (by omega) (Or.inr (by show p10 d ≤ M; omega))
      show Go FrameEnd p e below s 0 0 (Q1 Z q1 a2 t pw h0 n0) (s₁.setTop (mkF m 128 #[.val (.long q1), .second, .val (.ref a2), .val (.int (Int32.ofNat t)), .val (.int (Int32.ofNat t)), .val (.long (ng M)), .second, .val (.int (1 : Int32)), .val (.long (-10 : Int64)), .second] []))
      exact W128_14 18 1 (by omega) (by omega) (Or.inl rfl)
    · skip
      refine Go.step (fun _ k => XS.ifNo X0.here hx rfl (hb hby d_prog_16_method_2_code_11) rfl ((if0 _ _).trans (flt (mt (lw_gt _ _).mp hc11)).2.2.1) k) ?_
      show Go FrameEnd p e below s 0 0 (Q1 Z q1 a2 t pw h0 n0) (s₁.setTop (mkF m 14 #[.val (.long q1), .second, .val (.ref a2), .val (.int (Int32.ofNat t)), .unset, .unset, .unset, .unset, .unset, .unset] []))
      obtain ⟨hi, hm⟩ := own_toI hc3 hc11
      obtain ⟨M, eM⟩ : ∃ M, M = mg q1 := ⟨_, rfl⟩
      rw [← eM] at hi hm
      have hM9 : M ≤ 9223372036854775808 := by omega
      have hsg : sg q1 = 0 := by unfold sg; rw [if_neg hc3]
      have J47_15 : ∀ (Tg16 : State) (Lg16 : List Loc), Stand p l e ({ frames := 0, cells := 0, slots := 0, locals := 0 } : Room) s m #[(.long q1), (.ref a2), (.int (Int32.ofNat t))] below meth c Tg16 Lg16 (0) (0) → Fr n0 Lg16 → Tg16.heap = h0 → ∀ (d : Nat), (Dg M d) → (d ≤ 10) → Go FrameEnd p e below s 0 0 (Q1 Z q1 a2 t pw h0 n0) (Tg16.setTop (mkF m 47 #[.val (.long q1), .second, .val (.ref a2), .val (.int (Int32.ofNat t)), .val (.int (Int32.ofNat M)), .val (.int (Int32.ofNat d)), .unset, .unset, .unset, .unset] [])) := by
        intro Tg16 Lg16 Xg16 Ng16 eg16 d hD hd10
        show Go FrameEnd p e below s 0 0 (Q1 Z q1 a2 t pw h0 n0) (Tg16.setTop (mkF m 47 #[.val (.long q1), .second, .val (.ref a2), .val (.int (Int32.ofNat t)), .val (.int (Int32.ofNat M)), .val (.int (Int32.ofNat d)), .unset, .unset, .unset, .unset] []))
        refine Go.step (fun _ k => XS.iloadN Xg16.here hx rfl (hb hby d_prog_16_method_2_code_47) rfl k) ?_
        show Go FrameEnd p e below s 0 0 (Q1 Z q1 a2 t pw h0 n0) (Tg16.setTop (mkF m 48 #[.val (.long q1), .second, .val (.ref a2), .val (.int (Int32.ofNat t)), .val (.int (Int32.ofNat M)), .val (.int (Int32.ofNat d)), .unset, .unset, .unset, .unset] [(.int (Int32.ofNat t))]))
        refine Go.step (fun _ k => XS.iload Xg16.here hx rfl (hb hby d_prog_16_method_2_code_48) rfl k) ?_
        show Go FrameEnd p e below s 0 0 (Q1 Z q1 a2 t pw h0 n0) (Tg16.setTop (mkF m 50 #[.val (.long q1), .second, .val (.ref a2), .val (.int (Int32.ofNat t)), .val (.int (Int32.ofNat M)), .val (.int (Int32.ofNat d)), .unset, .unset, .unset, .unset] [(.int (Int32.ofNat d)), (.int (Int32.ofNat t))]))
        refine Go.step (fun _ k => XS.iadd Xg16.here hx rfl (hb hby d_prog_16_method_2_code_50) rfl k) ?_
        show Go FrameEnd p e below s 0 0 (Q1 Z q1 a2 t pw h0 n0) (Tg16.setTop (mkF m 51 #[.val (.long q1), .second, .val (.ref a2), .val (.int (Int32.ofNat t)), .val (.int (Int32.ofNat M)), .val (.int (Int32.ofNat d)), .unset, .unset, .unset, .unset] [(.int ((Int32.ofNat t) + (Int32.ofNat d)))]))
        rw [own_ofa]
        show Go FrameEnd p e below s 0 0 (Q1 Z q1 a2 t pw h0 n0) (Tg16.setTop (mkF m 51 #[.val (.long q1), .second, .val (.ref a2), .val (.int (Int32.ofNat t)), .val (.int (Int32.ofNat M)), .val (.int (Int32.ofNat d)), .unset, .unset, .unset, .unset] [(.int (Int32.ofNat (t + d)))]))
        refine Go.step (fun _ k => XS.istore Xg16.here hx rfl (hb hby d_prog_16_method_2_code_51) rfl (l' := #[.val (.long q1), .second, .val (.ref a2), .val (.int (Int32.ofNat t)), .val (.int (Int32.ofNat M)), .val (.int (Int32.ofNat d)), .val (.int (Int32.ofNat (t + d))), .unset, .unset, .unset]) rfl k) ?_
        show Go FrameEnd p e below s 0 0 (Q1 Z q1 a2 t pw h0 n0) (Tg16.setTop (mkF m 53 #[.val (.long q1), .second, .val (.ref a2), .val (.int (Int32.ofNat t)), .val (.int (Int32.ofNat M)), .val (.int (Int32.ofNat d)), .val (.int (Int32.ofNat (t + d))), .unset, .unset, .unset] []))
        refine Go.step (fun _ k => XS.iload Xg16.here hx rfl (hb hby d_prog_16_method_2_code_53) rfl k) ?_
        show Go FrameEnd p e below s 0 0 (Q1 Z q1 a2 t pw h0 n0) (Tg16.setTop (mkF m 55 #[.val (.long q1), .second, .val (.ref a2), .val (.int (Int32.ofNat t)), .val (.int (Int32.ofNat M)), .val (.int (Int32.ofNat d)), .val (.int (Int32.ofNat (t + d))), .unset, .unset, .unset] [(.int (Int32.ofNat (t + d)))]))
        refine Go.step (fun _ k => XS.istore Xg16.here hx rfl (hb hby d_prog_16_method_2_code_55) rfl (l' := #[.val (.long q1), .second, .val (.ref a2), .val (.int (Int32.ofNat t)), .val (.int (Int32.ofNat M)), .val (.int (Int32.ofNat d)), .val (.int (Int32.ofNat (t + d))), .val (.int (Int32.ofNat (t + d))), .unset, .unset]) rfl k) ?_
        show Go FrameEnd p e below s 0 0 (Q1 Z q1 a2 t pw h0 n0) (Tg16.setTop (mkF m 57 #[.val (.long q1), .second, .val (.ref a2), .val (.int (Int32.ofNat t)), .val (.int (Int32.ofNat M)), .val (.int (Int32.ofNat d)), .val (.int (Int32.ofNat (t + d))), .val (.int (Int32.ofNat (t + d))), .unset, .unset] []))
        have hnd : nd M = d := nd_of hD hM9
        have Wz : Av Z h0 a2 .byte 24 (Wc (f45 false t) M t d 0) := (V_a2).eq (fun j hj => (show (.int (0 : Int32) : Value) = .int (f45 false t j) from by unfold f45; rw [if_neg (by simp)]).trans (Wc_zero j))
        have W57_17 : ∀ kc : Nat, ∀ (c_ : Nat), ∀ (Tg18 : State) (Lg18 : List Loc) (hg18 : Heap), Stand p l e ({ frames := 0, cells := 0, slots := 0, locals := 0 } : Room) s m #[(.long q1), (.ref a2), (.int (Int32.ofNat t))] below meth c Tg18 Lg18 (0) (0) → Fr n0 Lg18 → Tg18.heap = hg18 → n0 ≤ hg18.size → Keep h0 hg18 [a2] → Av Z hg18 a2 .byte 24 (Wc (f45 false t) M t d c_) → (c_ + 1 + kc = d) → Go FrameEnd p e below s 0 0 (Q1 Z q1 a2 t pw h0 n0) (Tg18.setTop (mkF m 57 #[.val (.long q1), .second, .val (.ref a2), .val (.int (Int32.ofNat t)), .val (.int (Int32.ofNat (M / p10 c_))), .val (.int (Int32.ofNat d)), .val (.int (Int32.ofNat (t + d))), .val (.int (Int32.ofNat (t + d - c_))), .unset, .unset] [])) := by
          intro kc
          induction kc with
          | zero =>
            intro c_ Tg18 Lg18 hg18 Xg18 Ng18 eg18 Zg18 Kg18 gf18_0 hk
            show Go FrameEnd p e below s 0 0 (Q1 Z q1 a2 t pw h0 n0) (Tg18.setTop (mkF m 57 #[.val (.long q1), .second, .val (.ref a2), .val (.int (Int32.ofNat t)), .val (.int (Int32.ofNat (M / p10 c_))), .val (.int (Int32.ofNat d)), .val (.int (Int32.ofNat (t + d))), .val (.int (Int32.ofNat (t + d - c_))), .unset, .unset] []))
            refine Go.step (fun _ k => XS.aloadN Xg18.here hx rfl (hb hby d_prog_16_method_2_code_57) rfl rfl k) ?_
            show Go FrameEnd p e below s 0 0 (Q1 Z q1 a2 t pw h0 n0) (Tg18.setTop (mkF m 58 #[.val (.long q1), .second, .val (.ref a2), .val (.int (Int32.ofNat t)), .val (.int (Int32.ofNat (M / p10 c_))), .val (.int (Int32.ofNat d)), .val (.int (Int32.ofNat (t + d))), .val (.int (Int32.ofNat (t + d - c_))), .unset, .unset] [(.ref a2)]))
            refine Go.step (fun _ k => XS.iinc Xg18.here hx rfl (hb hby d_prog_16_method_2_code_58) rfl (l' := #[.val (.long q1), .second, .val (.ref a2), .val (.int (Int32.ofNat t)), .val (.int (Int32.ofNat (M / p10 c_))), .val (.int (Int32.ofNat d)), .val (.int (Int32.ofNat (t + d))), .val (.int ((Int32.ofNat (t + d - c_)) + (-1 : Int32))), .unset, .unset]) rfl k) ?_
            show Go FrameEnd p e below s 0 0 (Q1 Z q1 a2 t pw h0 n0) (Tg18.setTop (mkF m 61 #[.val (.long q1), .second, .val (.ref a2), .val (.int (Int32.ofNat t)), .val (.int (Int32.ofNat (M / p10 c_))), .val (.int (Int32.ofNat d)), .val (.int (Int32.ofNat (t + d))), .val (.int ((Int32.ofNat (t + d - c_)) + (-1 : Int32))), .unset, .unset] [(.ref a2)]))
            rw [own_dec (by omega) (by omega), show t + d - c_ - 1 = t + d - (c_ + 1) from by omega]
            show Go FrameEnd p e below s 0 0 (Q1 Z q1 a2 t pw h0 n0) (Tg18.setTop (mkF m 61 #[.val (.long q1), .second, .val (.ref a2), .val (.int (Int32.ofNat t)), .val (.int (Int32.ofNat (M / p10 c_))), .val (.int (Int32.ofNat d)), .val (.int (Int32.ofNat (t + d))), .val (.int (Int32.ofNat (t + d - (c_ + 1)))), .unset, .unset] [(.ref a2)]))
            refine Go.step (fun _ k => XS.iload Xg18.here hx rfl (hb hby d_prog_16_method_2_code_61) rfl k) ?_
            show Go FrameEnd p e below s 0 0 (Q1 Z q1 a2 t pw h0 n0) (Tg18.setTop (mkF m 63 #[.val (.long q1), .second, .val (.ref a2), .val (.int (Int32.ofNat t)), .val (.int (Int32.ofNat (M / p10 c_))), .val (.int (Int32.ofNat d)), .val (.int (Int32.ofNat (t + d))), .val (.int (Int32.ofNat (t + d - (c_ + 1)))), .unset, .unset] [(.int (Int32.ofNat (t + d - (c_ + 1)))), (.ref a2)]))
            refine Go.step (fun _ k => XS.bipush Xg18.here hx rfl (hb hby d_prog_16_method_2_code_63) k) ?_
            show Go FrameEnd p e below s 0 0 (Q1 Z q1 a2 t pw h0 n0) (Tg18.setTop (mkF m 65 #[.val (.long q1), .second, .val (.ref a2), .val (.int (Int32.ofNat t)), .val (.int (Int32.ofNat (M / p10 c_))), .val (.int (Int32.ofNat d)), .val (.int (Int32.ofNat (t + d))), .val (.int (Int32.ofNat (t + d - (c_ + 1)))), .unset, .unset] [(.int (48 : Int32)), (.int (Int32.ofNat (t + d - (c_ + 1)))), (.ref a2)]))
            refine Go.step (fun _ k => XS.iload Xg18.here hx rfl (hb hby d_prog_16_method_2_code_65) rfl k) ?_
            show Go FrameEnd p e below s 0 0 (Q1 Z q1 a2 t pw h0 n0) (Tg18.setTop (mkF m 67 #[.val (.long q1), .second, .val (.ref a2), .val (.int (Int32.ofNat t)), .val (.int (Int32.ofNat (M / p10 c_))), .val (.int (Int32.ofNat d)), .val (.int (Int32.ofNat (t + d))), .val (.int (Int32.ofNat (t + d - (c_ + 1)))), .unset, .unset] [(.int (Int32.ofNat (M / p10 c_))), (.int (48 : Int32)), (.int (Int32.ofNat (t + d - (c_ + 1)))), (.ref a2)]))
            refine Go.step (fun _ k => XS.bipush Xg18.here hx rfl (hb hby d_prog_16_method_2_code_67) k) ?_
            show Go FrameEnd p e below s 0 0 (Q1 Z q1 a2 t pw h0 n0) (Tg18.setTop (mkF m 69 #[.val (.long q1), .second, .val (.ref a2), .val (.int (Int32.ofNat t)), .val (.int (Int32.ofNat (M / p10 c_))), .val (.int (Int32.ofNat d)), .val (.int (Int32.ofNat (t + d))), .val (.int (Int32.ofNat (t + d - (c_ + 1)))), .unset, .unset] [(.int (10 : Int32)), (.int (Int32.ofNat (M / p10 c_))), (.int (48 : Int32)), (.int (Int32.ofNat (t + d - (c_ + 1)))), (.ref a2)]))
            refine Go.step (fun _ k => iremM Xg18 hx rfl (hb hby d_prog_16_method_2_code_69) rfl (by decide) k) ?_
            show Go FrameEnd p e below s 0 0 (Q1 Z q1 a2 t pw h0 n0) (Tg18.setTop (mkF m 70 #[.val (.long q1), .second, .val (.ref a2), .val (.int (Int32.ofNat t)), .val (.int (Int32.ofNat (M / p10 c_))), .val (.int (Int32.ofNat d)), .val (.int (Int32.ofNat (t + d))), .val (.int (Int32.ofNat (t + d - (c_ + 1)))), .unset, .unset] [(.int ((Int32.ofNat (M / p10 c_)) % (10 : Int32))), (.int (48 : Int32)), (.int (Int32.ofNat (t + d - (c_ + 1)))), (.ref a2)]))
            refine Go.step (fun _ k => XS.iadd Xg18.here hx rfl (hb hby d_prog_16_method_2_code_70) rfl k) ?_
            show Go FrameEnd p e below s 0 0 (Q1 Z q1 a2 t pw h0 n0) (Tg18.setTop (mkF m 71 #[.val (.long q1), .second, .val (.ref a2), .val (.int (Int32.ofNat t)), .val (.int (Int32.ofNat (M / p10 c_))), .val (.int (Int32.ofNat d)), .val (.int (Int32.ofNat (t + d))), .val (.int (Int32.ofNat (t + d - (c_ + 1)))), .unset, .unset] [(.int ((48 : Int32) + ((Int32.ofNat (M / p10 c_)) % (10 : Int32)))), (.int (Int32.ofNat (t + d - (c_ + 1)))), (.ref a2)]))
            refine Go.step (fun _ k => XS.i2b Xg18.here hx rfl (hb hby d_prog_16_method_2_code_71) rfl k) ?_
            show Go FrameEnd p e below s 0 0 (Q1 Z q1 a2 t pw h0 n0) (Tg18.setTop (mkF m 72 #[.val (.long q1), .second, .val (.ref a2), .val (.int (Int32.ofNat t)), .val (.int (Int32.ofNat (M / p10 c_))), .val (.int (Int32.ofNat d)), .val (.int (Int32.ofNat (t + d))), .val (.int (Int32.ofNat (t + d - (c_ + 1)))), .unset, .unset] [(.int ((48 : Int32) + ((Int32.ofNat (M / p10 c_)) % (10 : Int32))).toInt8.toInt32), (.int (Int32.ofNat (t + d - (c_ + 1)))), (.ref a2)]))
            have hMc : M / p10 c_ ≤ M := Nat.div_le_self _ _
            rw [own_digI (by omega)]
            show Go FrameEnd p e below s 0 0 (Q1 Z q1 a2 t pw h0 n0) (Tg18.setTop (mkF m 72 #[.val (.long q1), .second, .val (.ref a2), .val (.int (Int32.ofNat t)), .val (.int (Int32.ofNat (M / p10 c_))), .val (.int (Int32.ofNat d)), .val (.int (Int32.ofNat (t + d))), .val (.int (Int32.ofNat (t + d - (c_ + 1)))), .unset, .unset] [(.int (Int32.ofNat (48 + M / p10 c_ % 10))), (.int (Int32.ofNat (t + d - (c_ + 1)))), (.ref a2)]))
            obtain ⟨c19, Ac19, Sc19, Mc19, Gc19⟩ := id gf18_0
            obtain ⟨T20, h20, X20, e20, W20, st20⟩ := stB Xg18 hx hZ eg18 Ac19 (j := (Int32.ofNat (t + d - (c_ + 1)))) (own_in Sc19 (own_nn (by omega)) (by rw [own_cl (by omega)]; omega)) (g := (mkF m 72 #[.val (.long q1), .second, .val (.ref a2), .val (.int (Int32.ofNat t)), .val (.int (Int32.ofNat (M / p10 c_))), .val (.int (Int32.ofNat d)), .val (.int (Int32.ofNat (t + d))), .val (.int (Int32.ofNat (t + d - (c_ + 1)))), .unset, .unset] [(.int (Int32.ofNat (48 + M / p10 c_ % 10))), (.int (Int32.ofNat (t + d - (c_ + 1)))), (.ref a2)])) rfl rfl (hb hby d_prog_16_method_2_code_72)
            refine Go.step st20 ?_
            rw [own_narb (by omega)] at W20
            have N20 := Fr.snoc X20 Ng18 g_a2
            have Z20 : n0 ≤ h20.size := Nat.le_trans Zg18 (Keep.of_wr W20).1
            have K020 : Keep h0 h20 [a2] := Kg18.wr W20 (Or.inl (List.mem_of_getElem? (i := 0) rfl))
            have V20 : Av Z h20 a2 .byte 24 (aset (Wc (f45 false t) M t d c_) (t + d - (c_ + 1)) (.int (Int32.ofNat (48 + M / p10 c_ % 10)))) := Av.set Ac19 Sc19 Mc19 Gc19 W20 (own_cl (by omega)) (own_in Sc19 (own_nn (by omega)) (by rw [own_cl (by omega)]; omega))
            have V20 : Av Z h20 a2 .byte 24 (Wc (f45 false t) M t d (c_ + 1)) := V20.eq (fun j hj => Wc_next (by omega) rfl j)
            show Go FrameEnd p e below s 0 0 (Q1 Z q1 a2 t pw h0 n0) (T20.setTop (mkF m 73 #[.val (.long q1), .second, .val (.ref a2), .val (.int (Int32.ofNat t)), .val (.int (Int32.ofNat (M / p10 c_))), .val (.int (Int32.ofNat d)), .val (.int (Int32.ofNat (t + d))), .val (.int (Int32.ofNat (t + d - (c_ + 1)))), .unset, .unset] []))
            refine Go.step (fun _ k => XS.iload X20.here hx rfl (hb hby d_prog_16_method_2_code_73) rfl k) ?_
            show Go FrameEnd p e below s 0 0 (Q1 Z q1 a2 t pw h0 n0) (T20.setTop (mkF m 75 #[.val (.long q1), .second, .val (.ref a2), .val (.int (Int32.ofNat t)), .val (.int (Int32.ofNat (M / p10 c_))), .val (.int (Int32.ofNat d)), .val (.int (Int32.ofNat (t + d))), .val (.int (Int32.ofNat (t + d - (c_ + 1)))), .unset, .unset] [(.int (Int32.ofNat (M / p10 c_)))]))
            refine Go.step (fun _ k => XS.bipush X20.here hx rfl (hb hby d_prog_16_method_2_code_75) k) ?_
            show Go FrameEnd p e below s 0 0 (Q1 Z q1 a2 t pw h0 n0) (T20.setTop (mkF m 77 #[.val (.long q1), .second, .val (.ref a2), .val (.int (Int32.ofNat t)), .val (.int (Int32.ofNat (M / p10 c_))), .val (.int (Int32.ofNat d)), .val (.int (Int32.ofNat (t + d))), .val (.int (Int32.ofNat (t + d - (c_ + 1)))), .unset, .unset] [(.int (10 : Int32)), (.int (Int32.ofNat (M / p10 c_)))]))
            refine Go.step (fun _ k => XS.idiv X20.here hx rfl (hb hby d_prog_16_method_2_code_77) rfl (by decide) k) ?_
            show Go FrameEnd p e below s 0 0 (Q1 Z q1 a2 t pw h0 n0) (T20.setTop (mkF m 78 #[.val (.long q1), .second, .val (.ref a2), .val (.int (Int32.ofNat t)), .val (.int (Int32.ofNat (M / p10 c_))), .val (.int (Int32.ofNat d)), .val (.int (Int32.ofNat (t + d))), .val (.int (Int32.ofNat (t + d - (c_ + 1)))), .unset, .unset] [(.int ((Int32.ofNat (M / p10 c_)) / (10 : Int32)))]))
            rw [own_divI (by have : M / p10 c_ ≤ M := Nat.div_le_self _ _; omega), div_next]
            show Go FrameEnd p e below s 0 0 (Q1 Z q1 a2 t pw h0 n0) (T20.setTop (mkF m 78 #[.val (.long q1), .second, .val (.ref a2), .val (.int (Int32.ofNat t)), .val (.int (Int32.ofNat (M / p10 c_))), .val (.int (Int32.ofNat d)), .val (.int (Int32.ofNat (t + d))), .val (.int (Int32.ofNat (t + d - (c_ + 1)))), .unset, .unset] [(.int (Int32.ofNat (M / p10 (c_ + 1))))]))
            refine Go.step (fun _ k => XS.istore X20.here hx rfl (hb hby d_prog_16_method_2_code_78) rfl (l' := #[.val (.long q1), .second, .val (.ref a2), .val (.int (Int32.ofNat t)), .val (.int (Int32.ofNat (M / p10 (c_ + 1)))), .val (.int (Int32.ofNat d)), .val (.int (Int32.ofNat (t + d))), .val (.int (Int32.ofNat (t + d - (c_ + 1)))), .unset, .unset]) rfl k) ?_
            show Go FrameEnd p e below s 0 0 (Q1 Z q1 a2 t pw h0 n0) (T20.setTop (mkF m 80 #[.val (.long q1), .second, .val (.ref a2), .val (.int (Int32.ofNat t)), .val (.int (Int32.ofNat (M / p10 (c_ + 1)))), .val (.int (Int32.ofNat d)), .val (.int (Int32.ofNat (t + d))), .val (.int (Int32.ofNat (t + d - (c_ + 1)))), .unset, .unset] []))
            refine Go.step (fun _ k => XS.iload X20.here hx rfl (hb hby d_prog_16_method_2_code_80) rfl k) ?_
            show Go FrameEnd p e below s 0 0 (Q1 Z q1 a2 t pw h0 n0) (T20.setTop (mkF m 82 #[.val (.long q1), .second, .val (.ref a2), .val (.int (Int32.ofNat t)), .val (.int (Int32.ofNat (M / p10 (c_ + 1)))), .val (.int (Int32.ofNat d)), .val (.int (Int32.ofNat (t + d))), .val (.int (Int32.ofNat (t + d - (c_ + 1)))), .unset, .unset] [(.int (Int32.ofNat (M / p10 (c_ + 1))))]))
            refine Go.step (fun _ k => XS.ifNo X20.here hx rfl (hb hby d_prog_16_method_2_code_82) rfl ((if0 _ _).trans (teq (by rw [div_zero (by rw [show c_ + 1 = d from by omega]; exact hD.2.2.1)]; rfl)).2) k) ?_
            show Go FrameEnd p e below s 0 0 (Q1 Z q1 a2 t pw h0 n0) (T20.setTop (mkF m 85 #[.val (.long q1), .second, .val (.ref a2), .val (.int (Int32.ofNat t)), .val (.int (Int32.ofNat (M / p10 (c_ + 1)))), .val (.int (Int32.ofNat d)), .val (.int (Int32.ofNat (t + d))), .val (.int (Int32.ofNat (t + d - (c_ + 1)))), .unset, .unset] []))
            refine Go.step (fun _ k => XS.iload X20.here hx rfl (hb hby d_prog_16_method_2_code_85) rfl k) ?_
            show Go FrameEnd p e below s 0 0 (Q1 Z q1 a2 t pw h0 n0) (T20.setTop (mkF m 87 #[.val (.long q1), .second, .val (.ref a2), .val (.int (Int32.ofNat t)), .val (.int (Int32.ofNat (M / p10 (c_ + 1)))), .val (.int (Int32.ofNat d)), .val (.int (Int32.ofNat (t + d))), .val (.int (Int32.ofNat (t + d - (c_ + 1)))), .unset, .unset] [(.int (Int32.ofNat (t + d)))]))
            refine Go.retI X20 hx Bd.returns (hb hby d_prog_16_method_2_code_87) (BodyLoose.notSynchronized Bd) e20 (by decide) (by decide) ?_
            have hcd : c_ + 1 = d := by omega
            rw [hcd] at V20
            have eW : Wf q1 t = Wc (f45 false t) M t d d := by unfold Wf; rw [show decide (q1 < 0) = false from decide_eq_false hc3, ← eM, hsg, hnd]; rfl
            exact ⟨by rw [← eM, hsg, hnd]; rfl, N20, K020, by rw [eW]; exact V20⟩
          | succ kc ihkc =>
            intro c_ Tg18 Lg18 hg18 Xg18 Ng18 eg18 Zg18 Kg18 gf18_0 hk
            show Go FrameEnd p e below s 0 0 (Q1 Z q1 a2 t pw h0 n0) (Tg18.setTop (mkF m 57 #[.val (.long q1), .second, .val (.ref a2), .val (.int (Int32.ofNat t)), .val (.int (Int32.ofNat (M / p10 c_))), .val (.int (Int32.ofNat d)), .val (.int (Int32.ofNat (t + d))), .val (.int (Int32.ofNat (t + d - c_))), .unset, .unset] []))
            refine Go.step (fun _ k => XS.aloadN Xg18.here hx rfl (hb hby d_prog_16_method_2_code_57) rfl rfl k) ?_
            show Go FrameEnd p e below s 0 0 (Q1 Z q1 a2 t pw h0 n0) (Tg18.setTop (mkF m 58 #[.val (.long q1), .second, .val (.ref a2), .val (.int (Int32.ofNat t)), .val (.int (Int32.ofNat (M / p10 c_))), .val (.int (Int32.ofNat d)), .val (.int (Int32.ofNat (t + d))), .val (.int (Int32.ofNat (t + d - c_))), .unset, .unset] [(.ref a2)]))
            refine Go.step (fun _ k => XS.iinc Xg18.here hx rfl (hb hby d_prog_16_method_2_code_58) rfl (l' := #[.val (.long q1), .second, .val (.ref a2), .val (.int (Int32.ofNat t)), .val (.int (Int32.ofNat (M / p10 c_))), .val (.int (Int32.ofNat d)), .val (.int (Int32.ofNat (t + d))), .val (.int ((Int32.ofNat (t + d - c_)) + (-1 : Int32))), .unset, .unset]) rfl k) ?_
            show Go FrameEnd p e below s 0 0 (Q1 Z q1 a2 t pw h0 n0) (Tg18.setTop (mkF m 61 #[.val (.long q1), .second, .val (.ref a2), .val (.int (Int32.ofNat t)), .val (.int (Int32.ofNat (M / p10 c_))), .val (.int (Int32.ofNat d)), .val (.int (Int32.ofNat (t + d))), .val (.int ((Int32.ofNat (t + d - c_)) + (-1 : Int32))), .unset, .unset] [(.ref a2)]))
            rw [own_dec (by omega) (by omega), show t + d - c_ - 1 = t + d - (c_ + 1) from by omega]
            show Go FrameEnd p e below s 0 0 (Q1 Z q1 a2 t pw h0 n0) (Tg18.setTop (mkF m 61 #[.val (.long q1), .second, .val (.ref a2), .val (.int (Int32.ofNat t)), .val (.int (Int32.ofNat (M / p10 c_))), .val (.int (Int32.ofNat d)), .val (.int (Int32.ofNat (t + d))), .val (.int (Int32.ofNat (t + d - (c_ + 1)))), .unset, .unset] [(.ref a2)]))
            refine Go.step (fun _ k => XS.iload Xg18.here hx rfl (hb hby d_prog_16_method_2_code_61) rfl k) ?_
            show Go FrameEnd p e below s 0 0 (Q1 Z q1 a2 t pw h0 n0) (Tg18.setTop (mkF m 63 #[.val (.long q1), .second, .val (.ref a2), .val (.int (Int32.ofNat t)), .val (.int (Int32.ofNat (M / p10 c_))), .val (.int (Int32.ofNat d)), .val (.int (Int32.ofNat (t + d))), .val (.int (Int32.ofNat (t + d - (c_ + 1)))), .unset, .unset] [(.int (Int32.ofNat (t + d - (c_ + 1)))), (.ref a2)]))
            refine Go.step (fun _ k => XS.bipush Xg18.here hx rfl (hb hby d_prog_16_method_2_code_63) k) ?_
            show Go FrameEnd p e below s 0 0 (Q1 Z q1 a2 t pw h0 n0) (Tg18.setTop (mkF m 65 #[.val (.long q1), .second, .val (.ref a2), .val (.int (Int32.ofNat t)), .val (.int (Int32.ofNat (M / p10 c_))), .val (.int (Int32.ofNat d)), .val (.int (Int32.ofNat (t + d))), .val (.int (Int32.ofNat (t + d - (c_ + 1)))), .unset, .unset] [(.int (48 : Int32)), (.int (Int32.ofNat (t + d - (c_ + 1)))), (.ref a2)]))
            refine Go.step (fun _ k => XS.iload Xg18.here hx rfl (hb hby d_prog_16_method_2_code_65) rfl k) ?_
            show Go FrameEnd p e below s 0 0 (Q1 Z q1 a2 t pw h0 n0) (Tg18.setTop (mkF m 67 #[.val (.long q1), .second, .val (.ref a2), .val (.int (Int32.ofNat t)), .val (.int (Int32.ofNat (M / p10 c_))), .val (.int (Int32.ofNat d)), .val (.int (Int32.ofNat (t + d))), .val (.int (Int32.ofNat (t + d - (c_ + 1)))), .unset, .unset] [(.int (Int32.ofNat (M / p10 c_))), (.int (48 : Int32)), (.int (Int32.ofNat (t + d - (c_ + 1)))), (.ref a2)]))
            refine Go.step (fun _ k => XS.bipush Xg18.here hx rfl (hb hby d_prog_16_method_2_code_67) k) ?_
            show Go FrameEnd p e below s 0 0 (Q1 Z q1 a2 t pw h0 n0) (Tg18.setTop (mkF m 69 #[.val (.long q1), .second, .val (.ref a2), .val (.int (Int32.ofNat t)), .val (.int (Int32.ofNat (M / p10 c_))), .val (.int (Int32.ofNat d)), .val (.int (Int32.ofNat (t + d))), .val (.int (Int32.ofNat (t + d - (c_ + 1)))), .unset, .unset] [(.int (10 : Int32)), (.int (Int32.ofNat (M / p10 c_))), (.int (48 : Int32)), (.int (Int32.ofNat (t + d - (c_ + 1)))), (.ref a2)]))
            refine Go.step (fun _ k => iremM Xg18 hx rfl (hb hby d_prog_16_method_2_code_69) rfl (by decide) k) ?_
            show Go FrameEnd p e below s 0 0 (Q1 Z q1 a2 t pw h0 n0) (Tg18.setTop (mkF m 70 #[.val (.long q1), .second, .val (.ref a2), .val (.int (Int32.ofNat t)), .val (.int (Int32.ofNat (M / p10 c_))), .val (.int (Int32.ofNat d)), .val (.int (Int32.ofNat (t + d))), .val (.int (Int32.ofNat (t + d - (c_ + 1)))), .unset, .unset] [(.int ((Int32.ofNat (M / p10 c_)) % (10 : Int32))), (.int (48 : Int32)), (.int (Int32.ofNat (t + d - (c_ + 1)))), (.ref a2)]))
            refine Go.step (fun _ k => XS.iadd Xg18.here hx rfl (hb hby d_prog_16_method_2_code_70) rfl k) ?_
            show Go FrameEnd p e below s 0 0 (Q1 Z q1 a2 t pw h0 n0) (Tg18.setTop (mkF m 71 #[.val (.long q1), .second, .val (.ref a2), .val (.int (Int32.ofNat t)), .val (.int (Int32.ofNat (M / p10 c_))), .val (.int (Int32.ofNat d)), .val (.int (Int32.ofNat (t + d))), .val (.int (Int32.ofNat (t + d - (c_ + 1)))), .unset, .unset] [(.int ((48 : Int32) + ((Int32.ofNat (M / p10 c_)) % (10 : Int32)))), (.int (Int32.ofNat (t + d - (c_ + 1)))), (.ref a2)]))
            refine Go.step (fun _ k => XS.i2b Xg18.here hx rfl (hb hby d_prog_16_method_2_code_71) rfl k) ?_
            show Go FrameEnd p e below s 0 0 (Q1 Z q1 a2 t pw h0 n0) (Tg18.setTop (mkF m 72 #[.val (.long q1), .second, .val (.ref a2), .val (.int (Int32.ofNat t)), .val (.int (Int32.ofNat (M / p10 c_))), .val (.int (Int32.ofNat d)), .val (.int (Int32.ofNat (t + d))), .val (.int (Int32.ofNat (t + d - (c_ + 1)))), .unset, .unset] [(.int ((48 : Int32) + ((Int32.ofNat (M / p10 c_)) % (10 : Int32))).toInt8.toInt32), (.int (Int32.ofNat (t + d - (c_ + 1)))), (.ref a2)]))
            have hMc : M / p10 c_ ≤ M := Nat.div_le_self _ _
            rw [own_digI (by omega)]
            show Go FrameEnd p e below s 0 0 (Q1 Z q1 a2 t pw h0 n0) (Tg18.setTop (mkF m 72 #[.val (.long q1), .second, .val (.ref a2), .val (.int (Int32.ofNat t)), .val (.int (Int32.ofNat (M / p10 c_))), .val (.int (Int32.ofNat d)), .val (.int (Int32.ofNat (t + d))), .val (.int (Int32.ofNat (t + d - (c_ + 1)))), .unset, .unset] [(.int (Int32.ofNat (48 + M / p10 c_ % 10))), (.int (Int32.ofNat (t + d - (c_ + 1)))), (.ref a2)]))
            obtain ⟨c21, Ac21, Sc21, Mc21, Gc21⟩ := id gf18_0
            obtain ⟨T22, h22, X22, e22, W22, st22⟩ := stB Xg18 hx hZ eg18 Ac21 (j := (Int32.ofNat (t + d - (c_ + 1)))) (own_in Sc21 (own_nn (by omega)) (by rw [own_cl (by omega)]; omega)) (g := (mkF m 72 #[.val (.long q1), .second, .val (.ref a2), .val (.int (Int32.ofNat t)), .val (.int (Int32.ofNat (M / p10 c_))), .val (.int (Int32.ofNat d)), .val (.int (Int32.ofNat (t + d))), .val (.int (Int32.ofNat (t + d - (c_ + 1)))), .unset, .unset] [(.int (Int32.ofNat (48 + M / p10 c_ % 10))), (.int (Int32.ofNat (t + d - (c_ + 1)))), (.ref a2)])) rfl rfl (hb hby d_prog_16_method_2_code_72)
            refine Go.step st22 ?_
            rw [own_narb (by omega)] at W22
            have N22 := Fr.snoc X22 Ng18 g_a2
            have Z22 : n0 ≤ h22.size := Nat.le_trans Zg18 (Keep.of_wr W22).1
            have K022 : Keep h0 h22 [a2] := Kg18.wr W22 (Or.inl (List.mem_of_getElem? (i := 0) rfl))
            have V22 : Av Z h22 a2 .byte 24 (aset (Wc (f45 false t) M t d c_) (t + d - (c_ + 1)) (.int (Int32.ofNat (48 + M / p10 c_ % 10)))) := Av.set Ac21 Sc21 Mc21 Gc21 W22 (own_cl (by omega)) (own_in Sc21 (own_nn (by omega)) (by rw [own_cl (by omega)]; omega))
            have V22 : Av Z h22 a2 .byte 24 (Wc (f45 false t) M t d (c_ + 1)) := V22.eq (fun j hj => Wc_next (by omega) rfl j)
            show Go FrameEnd p e below s 0 0 (Q1 Z q1 a2 t pw h0 n0) (T22.setTop (mkF m 73 #[.val (.long q1), .second, .val (.ref a2), .val (.int (Int32.ofNat t)), .val (.int (Int32.ofNat (M / p10 c_))), .val (.int (Int32.ofNat d)), .val (.int (Int32.ofNat (t + d))), .val (.int (Int32.ofNat (t + d - (c_ + 1)))), .unset, .unset] []))
            refine Go.step (fun _ k => XS.iload X22.here hx rfl (hb hby d_prog_16_method_2_code_73) rfl k) ?_
            show Go FrameEnd p e below s 0 0 (Q1 Z q1 a2 t pw h0 n0) (T22.setTop (mkF m 75 #[.val (.long q1), .second, .val (.ref a2), .val (.int (Int32.ofNat t)), .val (.int (Int32.ofNat (M / p10 c_))), .val (.int (Int32.ofNat d)), .val (.int (Int32.ofNat (t + d))), .val (.int (Int32.ofNat (t + d - (c_ + 1)))), .unset, .unset] [(.int (Int32.ofNat (M / p10 c_)))]))
            refine Go.step (fun _ k => XS.bipush X22.here hx rfl (hb hby d_prog_16_method_2_code_75) k) ?_
            show Go FrameEnd p e below s 0 0 (Q1 Z q1 a2 t pw h0 n0) (T22.setTop (mkF m 77 #[.val (.long q1), .second, .val (.ref a2), .val (.int (Int32.ofNat t)), .val (.int (Int32.ofNat (M / p10 c_))), .val (.int (Int32.ofNat d)), .val (.int (Int32.ofNat (t + d))), .val (.int (Int32.ofNat (t + d - (c_ + 1)))), .unset, .unset] [(.int (10 : Int32)), (.int (Int32.ofNat (M / p10 c_)))]))
            refine Go.step (fun _ k => XS.idiv X22.here hx rfl (hb hby d_prog_16_method_2_code_77) rfl (by decide) k) ?_
            show Go FrameEnd p e below s 0 0 (Q1 Z q1 a2 t pw h0 n0) (T22.setTop (mkF m 78 #[.val (.long q1), .second, .val (.ref a2), .val (.int (Int32.ofNat t)), .val (.int (Int32.ofNat (M / p10 c_))), .val (.int (Int32.ofNat d)), .val (.int (Int32.ofNat (t + d))), .val (.int (Int32.ofNat (t + d - (c_ + 1)))), .unset, .unset] [(.int ((Int32.ofNat (M / p10 c_)) / (10 : Int32)))]))
            rw [own_divI (by have : M / p10 c_ ≤ M := Nat.div_le_self _ _; omega), div_next]
            show Go FrameEnd p e below s 0 0 (Q1 Z q1 a2 t pw h0 n0) (T22.setTop (mkF m 78 #[.val (.long q1), .second, .val (.ref a2), .val (.int (Int32.ofNat t)), .val (.int (Int32.ofNat (M / p10 c_))), .val (.int (Int32.ofNat d)), .val (.int (Int32.ofNat (t + d))), .val (.int (Int32.ofNat (t + d - (c_ + 1)))), .unset, .unset] [(.int (Int32.ofNat (M / p10 (c_ + 1))))]))
            refine Go.step (fun _ k => XS.istore X22.here hx rfl (hb hby d_prog_16_method_2_code_78) rfl (l' := #[.val (.long q1), .second, .val (.ref a2), .val (.int (Int32.ofNat t)), .val (.int (Int32.ofNat (M / p10 (c_ + 1)))), .val (.int (Int32.ofNat d)), .val (.int (Int32.ofNat (t + d))), .val (.int (Int32.ofNat (t + d - (c_ + 1)))), .unset, .unset]) rfl k) ?_
            show Go FrameEnd p e below s 0 0 (Q1 Z q1 a2 t pw h0 n0) (T22.setTop (mkF m 80 #[.val (.long q1), .second, .val (.ref a2), .val (.int (Int32.ofNat t)), .val (.int (Int32.ofNat (M / p10 (c_ + 1)))), .val (.int (Int32.ofNat d)), .val (.int (Int32.ofNat (t + d))), .val (.int (Int32.ofNat (t + d - (c_ + 1)))), .unset, .unset] []))
            refine Go.step (fun _ k => XS.iload X22.here hx rfl (hb hby d_prog_16_method_2_code_80) rfl k) ?_
            show Go FrameEnd p e below s 0 0 (Q1 Z q1 a2 t pw h0 n0) (T22.setTop (mkF m 82 #[.val (.long q1), .second, .val (.ref a2), .val (.int (Int32.ofNat t)), .val (.int (Int32.ofNat (M / p10 (c_ + 1)))), .val (.int (Int32.ofNat d)), .val (.int (Int32.ofNat (t + d))), .val (.int (Int32.ofNat (t + d - (c_ + 1)))), .unset, .unset] [(.int (Int32.ofNat (M / p10 (c_ + 1))))]))
            refine Go.step (fun _ k => XS.ifYes X22.here hx rfl (pc0 := 82) (pc' := 57) rfl (hb hby d_prog_16_method_2_code_82) rfl ((if0 _ _).trans (feq (by have h1 := div_pos' hD (c := c_ + 1) (by omega) (by omega); have h2 : M / p10 (c_ + 1) ≤ M := Nat.div_le_self _ _; rw [show (0 : Int32) = Int32.ofNat 0 from rfl, own_inj (by omega) (by omega)]; omega)).2) (by decide) (by decide) k) ?_
            show Go FrameEnd p e below s 0 0 (Q1 Z q1 a2 t pw h0 n0) (T22.setTop (mkF m 57 #[.val (.long q1), .second, .val (.ref a2), .val (.int (Int32.ofNat t)), .val (.int (Int32.ofNat (M / p10 (c_ + 1)))), .val (.int (Int32.ofNat d)), .val (.int (Int32.ofNat (t + d))), .val (.int (Int32.ofNat (t + d - (c_ + 1)))), .unset, .unset] []))
            exact ihkc (c_ + 1) _ _ _ X22 N22 e22 Z22 K022 V22 (by omega)
        show Go FrameEnd p e below s 0 0 (Q1 Z q1 a2 t pw h0 n0) (Tg16.setTop (mkF m 57 #[.val (.long q1), .second, .val (.ref a2), .val (.int (Int32.ofNat t)), .val (.int (Int32.ofNat M)), .val (.int (Int32.ofNat d)), .val (.int (Int32.ofNat (t + d))), .val (.int (Int32.ofNat (t + d))), .unset, .unset] []))
        have eM0 : M / p10 0 = M := Nat.div_one M
        have W0 := W57_17 (d - 1) 0 _ _ _ Xg16 Ng16 eg16 Z0 (Keep.refl h0 [a2]) Wz (by have := hD.1; omega)
        rw [eM0] at W0
        exact W0
      refine Go.step (fun _ k => XS.lloadN X0.here hx rfl (hb hby d_prog_16_method_2_code_14) rfl k) ?_
      show Go FrameEnd p e below s 0 0 (Q1 Z q1 a2 t pw h0 n0) (s₁.setTop (mkF m 15 #[.val (.long q1), .second, .val (.ref a2), .val (.int (Int32.ofNat t)), .unset, .unset, .unset, .unset, .unset, .unset] [(.long q1)]))
      refine Go.step (fun _ k => XS.l2i X0.here hx rfl (hb hby d_prog_16_method_2_code_15) rfl k) ?_
      show Go FrameEnd p e below s 0 0 (Q1 Z q1 a2 t pw h0 n0) (s₁.setTop (mkF m 16 #[.val (.long q1), .second, .val (.ref a2), .val (.int (Int32.ofNat t)), .unset, .unset, .unset, .unset, .unset, .unset] [(.int q1.toInt32)]))
      rw [hi]
      show Go FrameEnd p e below s 0 0 (Q1 Z q1 a2 t pw h0 n0) (s₁.setTop (mkF m 16 #[.val (.long q1), .second, .val (.ref a2), .val (.int (Int32.ofNat t)), .unset, .unset, .unset, .unset, .unset, .unset] [(.int (Int32.ofNat M))]))
      refine Go.step (fun _ k => XS.istore X0.here hx rfl (hb hby d_prog_16_method_2_code_16) rfl (l' := #[.val (.long q1), .second, .val (.ref a2), .val (.int (Int32.ofNat t)), .val (.int (Int32.ofNat M)), .unset, .unset, .unset, .unset, .unset]) rfl k) ?_
      show Go FrameEnd p e below s 0 0 (Q1 Z q1 a2 t pw h0 n0) (s₁.setTop (mkF m 18 #[.val (.long q1), .second, .val (.ref a2), .val (.int (Int32.ofNat t)), .val (.int (Int32.ofNat M)), .unset, .unset, .unset, .unset, .unset] []))
      refine Go.step (fun _ k => XS.iconst X0.here hx rfl (hb hby d_prog_16_method_2_code_18) k) ?_
      show Go FrameEnd p e below s 0 0 (Q1 Z q1 a2 t pw h0 n0) (s₁.setTop (mkF m 19 #[.val (.long q1), .second, .val (.ref a2), .val (.int (Int32.ofNat t)), .val (.int (Int32.ofNat M)), .unset, .unset, .unset, .unset, .unset] [(.int (1 : Int32))]))
      refine Go.step (fun _ k => XS.istore X0.here hx rfl (hb hby d_prog_16_method_2_code_19) rfl (l' := #[.val (.long q1), .second, .val (.ref a2), .val (.int (Int32.ofNat t)), .val (.int (Int32.ofNat M)), .val (.int (1 : Int32)), .unset, .unset, .unset, .unset]) rfl k) ?_
      show Go FrameEnd p e below s 0 0 (Q1 Z q1 a2 t pw h0 n0) (s₁.setTop (mkF m 21 #[.val (.long q1), .second, .val (.ref a2), .val (.int (Int32.ofNat t)), .val (.int (Int32.ofNat M)), .val (.int (1 : Int32)), .unset, .unset, .unset, .unset] []))
      have W21_23 : ∀ k : Nat, ∀ (d : Nat), ∀ (Tg24 : State) (Lg24 : List Loc), Stand p l e ({ frames := 0, cells := 0, slots := 0, locals := 0 } : Room) s m #[(.long q1), (.ref a2), (.int (Int32.ofNat t))] below meth c Tg24 Lg24 (0) (0) → Fr n0 Lg24 → Tg24.heap = h0 → (d + k = 10) → (1 ≤ d) → (d = 1 ∨ p10 (d - 1) ≤ M) → Go FrameEnd p e below s 0 0 (Q1 Z q1 a2 t pw h0 n0) (Tg24.setTop (mkF m 21 #[.val (.long q1), .second, .val (.ref a2), .val (.int (Int32.ofNat t)), .val (.int (Int32.ofNat M)), .val (.int (Int32.ofNat d)), .unset, .unset, .unset, .unset] [])) := by
        intro k
        induction k with
        | zero =>
          intro d Tg24 Lg24 Xg24 Ng24 eg24 hk h1 hlo
          show Go FrameEnd p e below s 0 0 (Q1 Z q1 a2 t pw h0 n0) (Tg24.setTop (mkF m 21 #[.val (.long q1), .second, .val (.ref a2), .val (.int (Int32.ofNat t)), .val (.int (Int32.ofNat M)), .val (.int (Int32.ofNat d)), .unset, .unset, .unset, .unset] []))
          refine Go.step (fun _ k => XS.iload Xg24.here hx rfl (hb hby d_prog_16_method_2_code_21) rfl k) ?_
          show Go FrameEnd p e below s 0 0 (Q1 Z q1 a2 t pw h0 n0) (Tg24.setTop (mkF m 23 #[.val (.long q1), .second, .val (.ref a2), .val (.int (Int32.ofNat t)), .val (.int (Int32.ofNat M)), .val (.int (Int32.ofNat d)), .unset, .unset, .unset, .unset] [(.int (Int32.ofNat d))]))
          obtain ⟨T25, X25, e25, st25⟩ := getS2 Xg24 hx hZ hown (host := "") (Or.inl (hw _ (List.mem_of_getElem? (i := 25) rfl))) Via.refl eg24 S_POWERS_OF_TEN (g := (mkF m 23 #[.val (.long q1), .second, .val (.ref a2), .val (.int (Int32.ofNat t)), .val (.int (Int32.ofNat M)), .val (.int (Int32.ofNat d)), .unset, .unset, .unset, .unset] [(.int (Int32.ofNat d))])) rfl (hb hby d_prog_16_method_2_code_23)
          refine Go.step st25 ?_
          show Go FrameEnd p e below s 0 0 (Q1 Z q1 a2 t pw h0 n0) (T25.setTop (mkF m 26 #[.val (.long q1), .second, .val (.ref a2), .val (.int (Int32.ofNat t)), .val (.int (Int32.ofNat M)), .val (.int (Int32.ofNat d)), .unset, .unset, .unset, .unset] [(.ref pw), (.int (Int32.ofNat d))]))
          obtain ⟨c26, Ac26, Sc26, Mc26, Gc26⟩ := id V_pw
          refine Go.step (X25.arraylength hx (by rw [e25]; exact Ac26.1) (State.isArrayOf_alike hZ.alike Ac26.2.1) (g := (mkF m 26 #[.val (.long q1), .second, .val (.ref a2), .val (.int (Int32.ofNat t)), .val (.int (Int32.ofNat M)), .val (.int (Int32.ofNat d)), .unset, .unset, .unset, .unset] [(.ref pw), (.int (Int32.ofNat d))])) rfl rfl (hb hby d_prog_16_method_2_code_26)) ?_
          rw [show c26.slots.size.toInt32 = (10 : Int32) from by rw [Sc26]; rfl]
          show Go FrameEnd p e below s 0 0 (Q1 Z q1 a2 t pw h0 n0) (T25.setTop (mkF m 27 #[.val (.long q1), .second, .val (.ref a2), .val (.int (Int32.ofNat t)), .val (.int (Int32.ofNat M)), .val (.int (Int32.ofNat d)), .unset, .unset, .unset, .unset] [(.int (10 : Int32)), (.int (Int32.ofNat d))]))
          refine Go.step (fun _ k => XS.icmpYes X25.here hx rfl (pc0 := 27) (pc' := 47) rfl (hb hby d_prog_16_method_2_code_27) rfl (flt (mt (own_lt (j := 10) (by omega) (by omega)).mp (by omega))).2.1 (by decide) (by decide) k) ?_
          show Go FrameEnd p e below s 0 0 (Q1 Z q1 a2 t pw h0 n0) (T25.setTop (mkF m 47 #[.val (.long q1), .second, .val (.ref a2), .val (.int (Int32.ofNat t)), .val (.int (Int32.ofNat M)), .val (.int (Int32.ofNat d)), .unset, .unset, .unset, .unset] []))
          exact J47_15 _ _ X25 Ng24 e25 d ⟨by omega, by omega, by rw [show d = 10 from by omega]; exact Nat.lt_trans hm (by decide), hlo⟩ (by omega)
        | succ k ih =>
          intro d Tg24 Lg24 Xg24 Ng24 eg24 hk h1 hlo
          show Go FrameEnd p e below s 0 0 (Q1 Z q1 a2 t pw h0 n0) (Tg24.setTop (mkF m 21 #[.val (.long q1), .second, .val (.ref a2), .val (.int (Int32.ofNat t)), .val (.int (Int32.ofNat M)), .val (.int (Int32.ofNat d)), .unset, .unset, .unset, .unset] []))
          refine Go.step (fun _ k => XS.iload Xg24.here hx rfl (hb hby d_prog_16_method_2_code_21) rfl k) ?_
          show Go FrameEnd p e below s 0 0 (Q1 Z q1 a2 t pw h0 n0) (Tg24.setTop (mkF m 23 #[.val (.long q1), .second, .val (.ref a2), .val (.int (Int32.ofNat t)), .val (.int (Int32.ofNat M)), .val (.int (Int32.ofNat d)), .unset, .unset, .unset, .unset] [(.int (Int32.ofNat d))]))
          obtain ⟨T27, X27, e27, st27⟩ := getS2 Xg24 hx hZ hown (host := "") (Or.inl (hw _ (List.mem_of_getElem? (i := 25) rfl))) Via.refl eg24 S_POWERS_OF_TEN (g := (mkF m 23 #[.val (.long q1), .second, .val (.ref a2), .val (.int (Int32.ofNat t)), .val (.int (Int32.ofNat M)), .val (.int (Int32.ofNat d)), .unset, .unset, .unset, .unset] [(.int (Int32.ofNat d))])) rfl (hb hby d_prog_16_method_2_code_23)
          refine Go.step st27 ?_
          show Go FrameEnd p e below s 0 0 (Q1 Z q1 a2 t pw h0 n0) (T27.setTop (mkF m 26 #[.val (.long q1), .second, .val (.ref a2), .val (.int (Int32.ofNat t)), .val (.int (Int32.ofNat M)), .val (.int (Int32.ofNat d)), .unset, .unset, .unset, .unset] [(.ref pw), (.int (Int32.ofNat d))]))
          obtain ⟨c28, Ac28, Sc28, Mc28, Gc28⟩ := id V_pw
          refine Go.step (X27.arraylength hx (by rw [e27]; exact Ac28.1) (State.isArrayOf_alike hZ.alike Ac28.2.1) (g := (mkF m 26 #[.val (.long q1), .second, .val (.ref a2), .val (.int (Int32.ofNat t)), .val (.int (Int32.ofNat M)), .val (.int (Int32.ofNat d)), .unset, .unset, .unset, .unset] [(.ref pw), (.int (Int32.ofNat d))])) rfl rfl (hb hby d_prog_16_method_2_code_26)) ?_
          rw [show c28.slots.size.toInt32 = (10 : Int32) from by rw [Sc28]; rfl]
          show Go FrameEnd p e below s 0 0 (Q1 Z q1 a2 t pw h0 n0) (T27.setTop (mkF m 27 #[.val (.long q1), .second, .val (.ref a2), .val (.int (Int32.ofNat t)), .val (.int (Int32.ofNat M)), .val (.int (Int32.ofNat d)), .unset, .unset, .unset, .unset] [(.int (10 : Int32)), (.int (Int32.ofNat d))]))
          refine Go.step (fun _ k => XS.icmpNo X27.here hx rfl (hb hby d_prog_16_method_2_code_27) rfl (tlt ((own_lt (j := 10) (by omega) (by omega)).mpr (by omega))).2.1 k) ?_
          show Go FrameEnd p e below s 0 0 (Q1 Z q1 a2 t pw h0 n0) (T27.setTop (mkF m 30 #[.val (.long q1), .second, .val (.ref a2), .val (.int (Int32.ofNat t)), .val (.int (Int32.ofNat M)), .val (.int (Int32.ofNat d)), .unset, .unset, .unset, .unset] []))
          refine Go.step (fun _ k => XS.iload X27.here hx rfl (hb hby d_prog_16_method_2_code_30) rfl k) ?_
          show Go FrameEnd p e below s 0 0 (Q1 Z q1 a2 t pw h0 n0) (T27.setTop (mkF m 32 #[.val (.long q1), .second, .val (.ref a2), .val (.int (Int32.ofNat t)), .val (.int (Int32.ofNat M)), .val (.int (Int32.ofNat d)), .unset, .unset, .unset, .unset] [(.int (Int32.ofNat M))]))
          obtain ⟨T29, X29, e29, st29⟩ := getS2 X27 hx hZ hown (host := "") (Or.inl (hw _ (List.mem_of_getElem? (i := 25) rfl))) Via.refl e27 S_POWERS_OF_TEN (g := (mkF m 32 #[.val (.long q1), .second, .val (.ref a2), .val (.int (Int32.ofNat t)), .val (.int (Int32.ofNat M)), .val (.int (Int32.ofNat d)), .unset, .unset, .unset, .unset] [(.int (Int32.ofNat M))])) rfl (hb hby d_prog_16_method_2_code_32)
          refine Go.step st29 ?_
          show Go FrameEnd p e below s 0 0 (Q1 Z q1 a2 t pw h0 n0) (T29.setTop (mkF m 35 #[.val (.long q1), .second, .val (.ref a2), .val (.int (Int32.ofNat t)), .val (.int (Int32.ofNat M)), .val (.int (Int32.ofNat d)), .unset, .unset, .unset, .unset] [(.ref pw), (.int (Int32.ofNat M))]))
          refine Go.step (fun _ k => XS.iload X29.here hx rfl (hb hby d_prog_16_method_2_code_35) rfl k) ?_
          show Go FrameEnd p e below s 0 0 (Q1 Z q1 a2 t pw h0 n0) (T29.setTop (mkF m 37 #[.val (.long q1), .second, .val (.ref a2), .val (.int (Int32.ofNat t)), .val (.int (Int32.ofNat M)), .val (.int (Int32.ofNat d)), .unset, .unset, .unset, .unset] [(.int (Int32.ofNat d)), (.ref pw), (.int (Int32.ofNat M))]))
          obtain ⟨c30, Ac30, Sc30, Mc30, Gc30⟩ := id V_pw
          refine Go.step (X29.iaload hx (j := (Int32.ofNat d)) (v := (.int (Int32.ofNat (p10 d)))) (by rw [e29]; exact Ac30.1) (State.isArrayOf_alike hZ.alike Ac30.2.1) Ac30.2.2 (own_in Sc30 (own_nn (by omega)) (by rw [own_cl (by omega)]; omega)) (Av.at (i := d) Gc30 (own_cl (by omega)) (by omega) rfl) (g := (mkF m 37 #[.val (.long q1), .second, .val (.ref a2), .val (.int (Int32.ofNat t)), .val (.int (Int32.ofNat M)), .val (.int (Int32.ofNat d)), .unset, .unset, .unset, .unset] [(.int (Int32.ofNat d)), (.ref pw), (.int (Int32.ofNat M))])) rfl rfl (hb hby d_prog_16_method_2_code_37)) ?_
          show Go FrameEnd p e below s 0 0 (Q1 Z q1 a2 t pw h0 n0) (T29.setTop (mkF m 38 #[.val (.long q1), .second, .val (.ref a2), .val (.int (Int32.ofNat t)), .val (.int (Int32.ofNat M)), .val (.int (Int32.ofNat d)), .unset, .unset, .unset, .unset] [(.int (Int32.ofNat (p10 d))), (.int (Int32.ofNat M))]))
          have hp9 := p10_9 (d := d) (by omega)
          by_cases hlt : M < p10 d
          · skip
            refine Go.step (fun _ k => XS.icmpYes X29.here hx rfl (pc0 := 38) (pc' := 47) rfl (hb hby d_prog_16_method_2_code_38) rfl (tlt ((own_lt (by omega) (by omega)).mpr hlt)).1 (by decide) (by decide) k) ?_
            show Go FrameEnd p e below s 0 0 (Q1 Z q1 a2 t pw h0 n0) (T29.setTop (mkF m 47 #[.val (.long q1), .second, .val (.ref a2), .val (.int (Int32.ofNat t)), .val (.int (Int32.ofNat M)), .val (.int (Int32.ofNat d)), .unset, .unset, .unset, .unset] []))
            exact J47_15 _ _ X29 Ng24 e29 d ⟨by omega, by omega, hlt, hlo⟩ (by omega)
          · skip
            refine Go.step (fun _ k => XS.icmpNo X29.here hx rfl (hb hby d_prog_16_method_2_code_38) rfl (flt (mt (own_lt (by omega) (by omega)).mp hlt)).1 k) ?_
            show Go FrameEnd p e below s 0 0 (Q1 Z q1 a2 t pw h0 n0) (T29.setTop (mkF m 41 #[.val (.long q1), .second, .val (.ref a2), .val (.int (Int32.ofNat t)), .val (.int (Int32.ofNat M)), .val (.int (Int32.ofNat d)), .unset, .unset, .unset, .unset] []))
            refine Go.step (fun _ k => XS.iinc X29.here hx rfl (hb hby d_prog_16_method_2_code_41) rfl (l' := #[.val (.long q1), .second, .val (.ref a2), .val (.int (Int32.ofNat t)), .val (.int (Int32.ofNat M)), .val (.int ((Int32.ofNat d) + (1 : Int32))), .unset, .unset, .unset, .unset]) rfl k) ?_
            show Go FrameEnd p e below s 0 0 (Q1 Z q1 a2 t pw h0 n0) (T29.setTop (mkF m 44 #[.val (.long q1), .second, .val (.ref a2), .val (.int (Int32.ofNat t)), .val (.int (Int32.ofNat M)), .val (.int ((Int32.ofNat d) + (1 : Int32))), .unset, .unset, .unset, .unset] []))
            refine Go.step (fun _ k => XS.goto X29.here hx rfl (pc0 := 44) (pc' := 21) rfl (hb hby d_prog_16_method_2_code_44) (by decide) (by decide) k) ?_
            show Go FrameEnd p e below s 0 0 (Q1 Z q1 a2 t pw h0 n0) (T29.setTop (mkF m 21 #[.val (.long q1), .second, .val (.ref a2), .val (.int (Int32.ofNat t)), .val (.int (Int32.ofNat M)), .val (.int ((Int32.ofNat d) + (1 : Int32))), .unset, .unset, .unset, .unset] []))
            rw [own_of1]
            exact ih (d + 1) _ _ X29 Ng24 e29 (by omega) (by omega) (Or.inr (by show p10 d ≤ M; omega))
      show Go FrameEnd p e below s 0 0 (Q1 Z q1 a2 t pw h0 n0) (s₁.setTop (mkF m 21 #[.val (.long q1), .second, .val (.ref a2), .val (.int (Int32.ofNat t)), .val (.int (Int32.ofNat M)), .val (.int (1 : Int32)), .unset, .unset, .unset, .unset] []))
      exact W21_23 9 1 _ _ X0 N0 e0 (by omega) (by omega) (Or.inl rfl)
theorem own_pl : ∀ j, j < 19 → (aset (aset (aset (aset (aset (aset (aset (aset (aset (aset (aset (aset (aset (aset (aset (aset (aset (aset (aset (fun _ => (.long (0 : Int64))) 0 (.long (1 : Int64))) 1 (.long (10 : Int64))) 2 (.long (100 : Int64))) 3 (.long (1000 : Int64))) 4 (.long (10000 : Int64))) 5 (.long (100000 : Int64))) 6 (.long (1000000 : Int64))) 7 (.long (10000000 : Int64))) 8 (.long (100000000 : Int64))) 9 (.long (1000000000 : Int64))) 10 (.long (10000000000 : Int64))) 11 (.long (100000000000 : Int64))) 12 (.long (1000000000000 : Int64))) 13 (.long (10000000000000 : Int64))) 14 (.long (100000000000000 : Int64))) 15 (.long (1000000000000000 : Int64))) 16 (.long (10000000000000000 : Int64))) 17 (.long (100000000000000000 : Int64))) 18 (.long (1000000000000000000 : Int64))) j = .long (Int64.ofNat (p10 j)) := by
  intro j hj
  rcases (by omega : j = 0 ∨ j = 1 ∨ j = 2 ∨ j = 3 ∨ j = 4 ∨ j = 5 ∨ j = 6 ∨ j = 7 ∨ j = 8 ∨ j = 9 ∨ j = 10 ∨ j = 11 ∨ j = 12 ∨ j = 13 ∨ j = 14 ∨ j = 15 ∨ j = 16 ∨ j = 17 ∨ j = 18) with rfl | rfl | rfl | rfl | rfl | rfl | rfl | rfl | rfl | rfl | rfl | rfl | rfl | rfl | rfl | rfl | rfl | rfl | rfl
  · show Value.long (1 : Int64) = Value.long (Int64.ofNat (p10 0)); exact congrArg Value.long (by decide)
  · show Value.long (10 : Int64) = Value.long (Int64.ofNat (p10 1)); exact congrArg Value.long (by decide)
  · show Value.long (100 : Int64) = Value.long (Int64.ofNat (p10 2)); exact congrArg Value.long (by decide)
  · show Value.long (1000 : Int64) = Value.long (Int64.ofNat (p10 3)); exact congrArg Value.long (by decide)
  · show Value.long (10000 : Int64) = Value.long (Int64.ofNat (p10 4)); exact congrArg Value.long (by decide)
  · show Value.long (100000 : Int64) = Value.long (Int64.ofNat (p10 5)); exact congrArg Value.long (by decide)
  · show Value.long (1000000 : Int64) = Value.long (Int64.ofNat (p10 6)); exact congrArg Value.long (by decide)
  · show Value.long (10000000 : Int64) = Value.long (Int64.ofNat (p10 7)); exact congrArg Value.long (by decide)
  · show Value.long (100000000 : Int64) = Value.long (Int64.ofNat (p10 8)); exact congrArg Value.long (by decide)
  · show Value.long (1000000000 : Int64) = Value.long (Int64.ofNat (p10 9)); exact congrArg Value.long (by decide)
  · show Value.long (10000000000 : Int64) = Value.long (Int64.ofNat (p10 10)); exact congrArg Value.long (by decide)
  · show Value.long (100000000000 : Int64) = Value.long (Int64.ofNat (p10 11)); exact congrArg Value.long (by decide)
  · show Value.long (1000000000000 : Int64) = Value.long (Int64.ofNat (p10 12)); exact congrArg Value.long (by decide)
  · show Value.long (10000000000000 : Int64) = Value.long (Int64.ofNat (p10 13)); exact congrArg Value.long (by decide)
  · show Value.long (100000000000000 : Int64) = Value.long (Int64.ofNat (p10 14)); exact congrArg Value.long (by decide)
  · show Value.long (1000000000000000 : Int64) = Value.long (Int64.ofNat (p10 15)); exact congrArg Value.long (by decide)
  · show Value.long (10000000000000000 : Int64) = Value.long (Int64.ofNat (p10 16)); exact congrArg Value.long (by decide)
  · show Value.long (100000000000000000 : Int64) = Value.long (Int64.ofNat (p10 17)); exact congrArg Value.long (by decide)
  · show Value.long (1000000000000000000 : Int64) = Value.long (Int64.ofNat (p10 18)); exact congrArg Value.long (by decide)
def Q0 (Z : State) (q1 : Int64) (p2 : Int32) (p3 : Int32) (pw : Addr) (h0 : Heap) (n0 : Nat) (v : Option Value) (h : Heap) (L : List Loc) : Prop := v = some (.int 1) ∧ Fr n0 L
theorem ef_0 (m : MethodId) (q1 : Int64) (p2 : Int32) (p3 : Int32) : entryFrame m #[(.long q1), (.int p2), (.int p3)] maxLocals = mkF m 0 #[.val (.long q1), .second, .val (.int p2), .val (.int p3), .unset, .unset, .unset, .unset, .unset, .unset, .unset, .unset, .unset, .unset, .unset] [] := by first | (simp [entryFrame, mkF, argsToLocals, Value.category, maxLocals]; done) | rfl
set_option maxRecDepth 65536 in
set_option maxHeartbeats 40000000 in
theorem rm0 (l : Launch) (Z : State) (a0 : Array Value) (hw : ∀ d ∈ tables_1, d.before a0 Z = true) (ws : List Jvm.Cond) (q1 : Int64) (p2 : Int32) (p3 : Int32) (pw : Addr) (h0 : Heap) (n0 : Nat) (Z0 : n0 ≤ h0.size) (S_POWERS_OF_TEN : Sta Z h0 "com/example/quotewire/quotewire/codec/Decimal" "POWERS_OF_TEN" "[I" (.ref pw)) (V_pw : Av Z h0 pw .int 10 (fun j => .int (Int32.ofNat (p10 j)))) :
    MetFree l x (head1 (Jvm.Cond.code x code maxLocals ret :: ws) room_1) (fun a U => a = #[(.long q1), (.int p2), (.int p3)] ∧ Z.Warmed39 U.vm ∧ U.heap = h0) (fun _ _ _ _ _ => True) (fun _ U o U' => ∃ v L, o = .returned v ∧ (Q0 Z q1 p2 p3 pw h0 n0) v U'.heap L ∧ FrameEnd U o U' L 16 192) := by
  refine MetFree.of_bodySF (plainFor_of_name pn_com_example_quotewire_quotewire_codec_DecimalWritePinLaw) hisR ?_
  intro p e s m args below meth c s₁ Bd hml0 hP hK
  obtain ⟨rfl, hZ, hh⟩ := hP
  have hx := Bd.exec
  have hby := Bd.bytes
  have hml : c.maxLocals = 15 := hml0
  have hown : s.vm.findClass "com/example/quotewire/quotewire/codec/DecimalWritePinLaw" = some m.cls := findClass_of_methodNamed Bd.named
  have hnm := (name_of_methodNamed Bd.named Bd.method).1
  have X0 : Stand p l e room_1 s m #[(.long q1), (.int p2), (.int p3)] below meth c s₁ [] 0 0 := Stand.of_body Bd
  have e0 : s₁.heap = h0 := by rw [← hh, Bd.state]; rfl
  have N0 := Fr.nil n0
  show Go FrameEnd p e below s 16 192 (Q0 Z q1 p2 p3 pw h0 n0) _
  refine Go.step (fun _ k => castTop (ef_0 m q1 p2 p3) k) ?_
  show Go FrameEnd p e below s 16 192 (Q0 Z q1 p2 p3 pw h0 n0) (s₁.setTop (mkF m 0 #[.val (.long q1), .second, .val (.int p2), .val (.int p3), .unset, .unset, .unset, .unset, .unset, .unset, .unset, .unset, .unset, .unset, .unset] []))
  refine Go.step (fun _ k => XS.iloadN X0.here hx rfl (hb hby at_0) rfl k) ?_
  show Go FrameEnd p e below s 16 192 (Q0 Z q1 p2 p3 pw h0 n0) (s₁.setTop (mkF m 1 #[.val (.long q1), .second, .val (.int p2), .val (.int p3), .unset, .unset, .unset, .unset, .unset, .unset, .unset, .unset, .unset, .unset, .unset] [(.int p2)]))
  refine Go.step (fun _ k => XS.iconst X0.here hx rfl (hb hby at_1) k) ?_
  show Go FrameEnd p e below s 16 192 (Q0 Z q1 p2 p3 pw h0 n0) (s₁.setTop (mkF m 2 #[.val (.long q1), .second, .val (.int p2), .val (.int p3), .unset, .unset, .unset, .unset, .unset, .unset, .unset, .unset, .unset, .unset, .unset] [(.int (3 : Int32)), (.int p2)]))
  refine Go.step (fun _ k => XS.iand X0.here hx rfl (hb hby at_2) rfl k) ?_
  show Go FrameEnd p e below s 16 192 (Q0 Z q1 p2 p3 pw h0 n0) (s₁.setTop (mkF m 3 #[.val (.long q1), .second, .val (.int p2), .val (.int p3), .unset, .unset, .unset, .unset, .unset, .unset, .unset, .unset, .unset, .unset, .unset] [(.int (p2 &&& (3 : Int32)))]))
  obtain ⟨t, ht, et⟩ := own_3 p2
  rw [et]
  show Go FrameEnd p e below s 16 192 (Q0 Z q1 p2 p3 pw h0 n0) (s₁.setTop (mkF m 3 #[.val (.long q1), .second, .val (.int p2), .val (.int p3), .unset, .unset, .unset, .unset, .unset, .unset, .unset, .unset, .unset, .unset, .unset] [(.int (Int32.ofNat t))]))
  refine Go.step (fun _ k => XS.istore X0.here hx rfl (hb hby at_3) rfl (l' := #[.val (.long q1), .second, .val (.int p2), .val (.int p3), .val (.int (Int32.ofNat t)), .unset, .unset, .unset, .unset, .unset, .unset, .unset, .unset, .unset, .unset]) rfl k) ?_
  show Go FrameEnd p e below s 16 192 (Q0 Z q1 p2 p3 pw h0 n0) (s₁.setTop (mkF m 5 #[.val (.long q1), .second, .val (.int p2), .val (.int p3), .val (.int (Int32.ofNat t)), .unset, .unset, .unset, .unset, .unset, .unset, .unset, .unset, .unset, .unset] []))
  refine Go.step (fun _ k => XS.bipush X0.here hx rfl (hb hby at_5) k) ?_
  show Go FrameEnd p e below s 16 192 (Q0 Z q1 p2 p3 pw h0 n0) (s₁.setTop (mkF m 7 #[.val (.long q1), .second, .val (.int p2), .val (.int p3), .val (.int (Int32.ofNat t)), .unset, .unset, .unset, .unset, .unset, .unset, .unset, .unset, .unset, .unset] [(.int (24 : Int32))]))
  obtain ⟨T1, h1, k1, X1, e1, E1, A1, st1⟩ := newP X0 hx hZ (hw _ (List.mem_of_getElem? (i := 0) rfl)) e0 (g := (mkF m 7 #[.val (.long q1), .second, .val (.int p2), .val (.int p3), .val (.int (Int32.ofNat t)), .unset, .unset, .unset, .unset, .unset, .unset, .unset, .unset, .unset, .unset] [(.int (24 : Int32))])) rfl (hb hby at_7) rfl (by decide) (cap := 24) (by decide) (by decide) (by decide) (by decide)
  refine Go.step st1 ?_
  obtain ⟨b1, g1⟩ : ∃ z, z = h0.size := ⟨_, rfl⟩
  rw [← g1] at A1 ⊢
  have ne_pw_b1 : pw ≠ b1 := Nat.ne_of_lt (Nat.lt_of_lt_of_le V_pw.lt (Nat.le_of_eq g1.symm))
  have g_b1 : n0 ≤ b1 := Nat.le_trans Z0 (Nat.le_of_eq g1.symm)
  have Z1 : n0 ≤ h1.size := Nat.le_trans Z0 E1.1
  have V1 : Av Z h1 b1 .byte 24 (fun _ => (.int (0 : Int32))) := Av.new A1 (by decide) rfl
  show Go FrameEnd p e below s 16 192 (Q0 Z q1 p2 p3 pw h0 n0) (T1.setTop (mkF m 9 #[.val (.long q1), .second, .val (.int p2), .val (.int p3), .val (.int (Int32.ofNat t)), .unset, .unset, .unset, .unset, .unset, .unset, .unset, .unset, .unset, .unset] [(.ref b1)]))
  refine Go.step (fun _ k => XS.astore X1.here hx rfl (hb hby at_9) rfl rfl (l' := #[.val (.long q1), .second, .val (.int p2), .val (.int p3), .val (.int (Int32.ofNat t)), .val (.ref b1), .unset, .unset, .unset, .unset, .unset, .unset, .unset, .unset, .unset]) rfl k) ?_
  show Go FrameEnd p e below s 16 192 (Q0 Z q1 p2 p3 pw h0 n0) (T1.setTop (mkF m 11 #[.val (.long q1), .second, .val (.int p2), .val (.int p3), .val (.int (Int32.ofNat t)), .val (.ref b1), .unset, .unset, .unset, .unset, .unset, .unset, .unset, .unset, .unset] []))
  refine Go.step (fun _ k => XS.bipush X1.here hx rfl (hb hby at_11) k) ?_
  show Go FrameEnd p e below s 16 192 (Q0 Z q1 p2 p3 pw h0 n0) (T1.setTop (mkF m 13 #[.val (.long q1), .second, .val (.int p2), .val (.int p3), .val (.int (Int32.ofNat t)), .val (.ref b1), .unset, .unset, .unset, .unset, .unset, .unset, .unset, .unset, .unset] [(.int (19 : Int32))]))
  obtain ⟨T2, h2, k2, X2, e2, E2, A2, st2⟩ := newP X1 hx hZ (hw _ (List.mem_of_getElem? (i := 1) rfl)) e1 (g := (mkF m 13 #[.val (.long q1), .second, .val (.int p2), .val (.int p3), .val (.int (Int32.ofNat t)), .val (.ref b1), .unset, .unset, .unset, .unset, .unset, .unset, .unset, .unset, .unset] [(.int (19 : Int32))])) rfl (hb hby at_13) rfl (by decide) (cap := 19) (by decide) (by decide) (by decide) (by decide)
  refine Go.step st2 ?_
  have f_3 := (V_pw.ext E1)
  obtain ⟨b2, g2⟩ : ∃ z, z = h1.size := ⟨_, rfl⟩
  rw [← g2] at A2 ⊢
  have ne_pw_b2 : pw ≠ b2 := Nat.ne_of_lt (Nat.lt_of_lt_of_le f_3.lt (Nat.le_of_eq g2.symm))
  have ne_b1_b2 : b1 ≠ b2 := Nat.ne_of_lt (Nat.lt_of_lt_of_le V1.lt (Nat.le_of_eq g2.symm))
  have g_b2 : n0 ≤ b2 := Nat.le_trans Z1 (Nat.le_of_eq g2.symm)
  have Z2 : n0 ≤ h2.size := Nat.le_trans Z1 E2.1
  have V2 : Av Z h2 b2 .long 19 (fun _ => (.long (0 : Int64))) := Av.new A2 (by decide) rfl
  show Go FrameEnd p e below s 16 192 (Q0 Z q1 p2 p3 pw h0 n0) (T2.setTop (mkF m 15 #[.val (.long q1), .second, .val (.int p2), .val (.int p3), .val (.int (Int32.ofNat t)), .val (.ref b1), .unset, .unset, .unset, .unset, .unset, .unset, .unset, .unset, .unset] [(.ref b2)]))
  refine Go.step (fun _ k => XS.dup X2.here hx rfl (hb hby at_15) rfl rfl k) ?_
  show Go FrameEnd p e below s 16 192 (Q0 Z q1 p2 p3 pw h0 n0) (T2.setTop (mkF m 16 #[.val (.long q1), .second, .val (.int p2), .val (.int p3), .val (.int (Int32.ofNat t)), .val (.ref b1), .unset, .unset, .unset, .unset, .unset, .unset, .unset, .unset, .unset] [(.ref b2), (.ref b2)]))
  refine Go.step (fun _ k => XS.iconst X2.here hx rfl (hb hby at_16) k) ?_
  show Go FrameEnd p e below s 16 192 (Q0 Z q1 p2 p3 pw h0 n0) (T2.setTop (mkF m 17 #[.val (.long q1), .second, .val (.int p2), .val (.int p3), .val (.int (Int32.ofNat t)), .val (.ref b1), .unset, .unset, .unset, .unset, .unset, .unset, .unset, .unset, .unset] [(.int (0 : Int32)), (.ref b2), (.ref b2)]))
  refine Go.step (fun _ k => XS.lconst X2.here hx rfl (hb hby at_17) k) ?_
  show Go FrameEnd p e below s 16 192 (Q0 Z q1 p2 p3 pw h0 n0) (T2.setTop (mkF m 18 #[.val (.long q1), .second, .val (.int p2), .val (.int p3), .val (.int (Int32.ofNat t)), .val (.ref b1), .unset, .unset, .unset, .unset, .unset, .unset, .unset, .unset, .unset] [(.long (1 : Int64)), (.int (0 : Int32)), (.ref b2), (.ref b2)]))
  obtain ⟨c4, Ac4, Sc4, Mc4, Gc4⟩ := id V2
  obtain ⟨T5, h5, X5, e5, W5, st5⟩ := stJ X2 hx hZ e2 Ac4 (j := (0 : Int32)) (own_in Sc4 (by decide) (by decide)) (g := (mkF m 18 #[.val (.long q1), .second, .val (.int p2), .val (.int p3), .val (.int (Int32.ofNat t)), .val (.ref b1), .unset, .unset, .unset, .unset, .unset, .unset, .unset, .unset, .unset] [(.long (1 : Int64)), (.int (0 : Int32)), (.ref b2), (.ref b2)])) rfl rfl (hb hby at_18)
  refine Go.step st5 ?_
  have N5 := Fr.snoc X5 N0 g_b2
  have Z5 : n0 ≤ h5.size := Nat.le_trans Z2 (Keep.of_wr W5).1
  have V5 : Av Z h5 b2 .long 19 (aset (fun _ => (.long (0 : Int64))) 0 (.long (1 : Int64))) := Av.set Ac4 Sc4 Mc4 Gc4 W5 (by rfl) (own_in Sc4 (by decide) (by decide))
  show Go FrameEnd p e below s 16 192 (Q0 Z q1 p2 p3 pw h0 n0) (T5.setTop (mkF m 19 #[.val (.long q1), .second, .val (.int p2), .val (.int p3), .val (.int (Int32.ofNat t)), .val (.ref b1), .unset, .unset, .unset, .unset, .unset, .unset, .unset, .unset, .unset] [(.ref b2)]))
  refine Go.step (fun _ k => XS.dup X5.here hx rfl (hb hby at_19) rfl rfl k) ?_
  show Go FrameEnd p e below s 16 192 (Q0 Z q1 p2 p3 pw h0 n0) (T5.setTop (mkF m 20 #[.val (.long q1), .second, .val (.int p2), .val (.int p3), .val (.int (Int32.ofNat t)), .val (.ref b1), .unset, .unset, .unset, .unset, .unset, .unset, .unset, .unset, .unset] [(.ref b2), (.ref b2)]))
  refine Go.step (fun _ k => XS.iconst X5.here hx rfl (hb hby at_20) k) ?_
  show Go FrameEnd p e below s 16 192 (Q0 Z q1 p2 p3 pw h0 n0) (T5.setTop (mkF m 21 #[.val (.long q1), .second, .val (.int p2), .val (.int p3), .val (.int (Int32.ofNat t)), .val (.ref b1), .unset, .unset, .unset, .unset, .unset, .unset, .unset, .unset, .unset] [(.int (1 : Int32)), (.ref b2), (.ref b2)]))
  refine Go.step (X5.ldc2Long hx hown (mvT hZ (hw _ (List.mem_of_getElem? (i := 2) rfl))) (g := (mkF m 21 #[.val (.long q1), .second, .val (.int p2), .val (.int p3), .val (.int (Int32.ofNat t)), .val (.ref b1), .unset, .unset, .unset, .unset, .unset, .unset, .unset, .unset, .unset] [(.int (1 : Int32)), (.ref b2), (.ref b2)])) rfl (hb hby at_21)) ?_
  show Go FrameEnd p e below s 16 192 (Q0 Z q1 p2 p3 pw h0 n0) (T5.setTop (mkF m 24 #[.val (.long q1), .second, .val (.int p2), .val (.int p3), .val (.int (Int32.ofNat t)), .val (.ref b1), .unset, .unset, .unset, .unset, .unset, .unset, .unset, .unset, .unset] [(.long (10 : Int64)), (.int (1 : Int32)), (.ref b2), (.ref b2)]))
  obtain ⟨c6, Ac6, Sc6, Mc6, Gc6⟩ := id V5
  obtain ⟨T7, h7, X7, e7, W7, st7⟩ := stJ X5 hx hZ e5 Ac6 (j := (1 : Int32)) (own_in Sc6 (by decide) (by decide)) (g := (mkF m 24 #[.val (.long q1), .second, .val (.int p2), .val (.int p3), .val (.int (Int32.ofNat t)), .val (.ref b1), .unset, .unset, .unset, .unset, .unset, .unset, .unset, .unset, .unset] [(.long (10 : Int64)), (.int (1 : Int32)), (.ref b2), (.ref b2)])) rfl rfl (hb hby at_24)
  refine Go.step st7 ?_
  have N7 := Fr.snoc X7 N5 g_b2
  have Z7 : n0 ≤ h7.size := Nat.le_trans Z5 (Keep.of_wr W7).1
  have V7 : Av Z h7 b2 .long 19 (aset (aset (fun _ => (.long (0 : Int64))) 0 (.long (1 : Int64))) 1 (.long (10 : Int64))) := Av.set Ac6 Sc6 Mc6 Gc6 W7 (by rfl) (own_in Sc6 (by decide) (by decide))
  show Go FrameEnd p e below s 16 192 (Q0 Z q1 p2 p3 pw h0 n0) (T7.setTop (mkF m 25 #[.val (.long q1), .second, .val (.int p2), .val (.int p3), .val (.int (Int32.ofNat t)), .val (.ref b1), .unset, .unset, .unset, .unset, .unset, .unset, .unset, .unset, .unset] [(.ref b2)]))
  refine Go.step (fun _ k => XS.dup X7.here hx rfl (hb hby at_25) rfl rfl k) ?_
  show Go FrameEnd p e below s 16 192 (Q0 Z q1 p2 p3 pw h0 n0) (T7.setTop (mkF m 26 #[.val (.long q1), .second, .val (.int p2), .val (.int p3), .val (.int (Int32.ofNat t)), .val (.ref b1), .unset, .unset, .unset, .unset, .unset, .unset, .unset, .unset, .unset] [(.ref b2), (.ref b2)]))
  refine Go.step (fun _ k => XS.iconst X7.here hx rfl (hb hby at_26) k) ?_
  show Go FrameEnd p e below s 16 192 (Q0 Z q1 p2 p3 pw h0 n0) (T7.setTop (mkF m 27 #[.val (.long q1), .second, .val (.int p2), .val (.int p3), .val (.int (Int32.ofNat t)), .val (.ref b1), .unset, .unset, .unset, .unset, .unset, .unset, .unset, .unset, .unset] [(.int (2 : Int32)), (.ref b2), (.ref b2)]))
  refine Go.step (X7.ldc2Long hx hown (mvT hZ (hw _ (List.mem_of_getElem? (i := 3) rfl))) (g := (mkF m 27 #[.val (.long q1), .second, .val (.int p2), .val (.int p3), .val (.int (Int32.ofNat t)), .val (.ref b1), .unset, .unset, .unset, .unset, .unset, .unset, .unset, .unset, .unset] [(.int (2 : Int32)), (.ref b2), (.ref b2)])) rfl (hb hby at_27)) ?_
  show Go FrameEnd p e below s 16 192 (Q0 Z q1 p2 p3 pw h0 n0) (T7.setTop (mkF m 30 #[.val (.long q1), .second, .val (.int p2), .val (.int p3), .val (.int (Int32.ofNat t)), .val (.ref b1), .unset, .unset, .unset, .unset, .unset, .unset, .unset, .unset, .unset] [(.long (100 : Int64)), (.int (2 : Int32)), (.ref b2), (.ref b2)]))
  obtain ⟨c8, Ac8, Sc8, Mc8, Gc8⟩ := id V7
  obtain ⟨T9, h9, X9, e9, W9, st9⟩ := stJ X7 hx hZ e7 Ac8 (j := (2 : Int32)) (own_in Sc8 (by decide) (by decide)) (g := (mkF m 30 #[.val (.long q1), .second, .val (.int p2), .val (.int p3), .val (.int (Int32.ofNat t)), .val (.ref b1), .unset, .unset, .unset, .unset, .unset, .unset, .unset, .unset, .unset] [(.long (100 : Int64)), (.int (2 : Int32)), (.ref b2), (.ref b2)])) rfl rfl (hb hby at_30)
  refine Go.step st9 ?_
  have N9 := Fr.snoc X9 N7 g_b2
  have Z9 : n0 ≤ h9.size := Nat.le_trans Z7 (Keep.of_wr W9).1
  have V9 : Av Z h9 b2 .long 19 (aset (aset (aset (fun _ => (.long (0 : Int64))) 0 (.long (1 : Int64))) 1 (.long (10 : Int64))) 2 (.long (100 : Int64))) := Av.set Ac8 Sc8 Mc8 Gc8 W9 (by rfl) (own_in Sc8 (by decide) (by decide))
  show Go FrameEnd p e below s 16 192 (Q0 Z q1 p2 p3 pw h0 n0) (T9.setTop (mkF m 31 #[.val (.long q1), .second, .val (.int p2), .val (.int p3), .val (.int (Int32.ofNat t)), .val (.ref b1), .unset, .unset, .unset, .unset, .unset, .unset, .unset, .unset, .unset] [(.ref b2)]))
  refine Go.step (fun _ k => XS.dup X9.here hx rfl (hb hby at_31) rfl rfl k) ?_
  show Go FrameEnd p e below s 16 192 (Q0 Z q1 p2 p3 pw h0 n0) (T9.setTop (mkF m 32 #[.val (.long q1), .second, .val (.int p2), .val (.int p3), .val (.int (Int32.ofNat t)), .val (.ref b1), .unset, .unset, .unset, .unset, .unset, .unset, .unset, .unset, .unset] [(.ref b2), (.ref b2)]))
  refine Go.step (fun _ k => XS.iconst X9.here hx rfl (hb hby at_32) k) ?_
  show Go FrameEnd p e below s 16 192 (Q0 Z q1 p2 p3 pw h0 n0) (T9.setTop (mkF m 33 #[.val (.long q1), .second, .val (.int p2), .val (.int p3), .val (.int (Int32.ofNat t)), .val (.ref b1), .unset, .unset, .unset, .unset, .unset, .unset, .unset, .unset, .unset] [(.int (3 : Int32)), (.ref b2), (.ref b2)]))
  refine Go.step (X9.ldc2Long hx hown (mvT hZ (hw _ (List.mem_of_getElem? (i := 4) rfl))) (g := (mkF m 33 #[.val (.long q1), .second, .val (.int p2), .val (.int p3), .val (.int (Int32.ofNat t)), .val (.ref b1), .unset, .unset, .unset, .unset, .unset, .unset, .unset, .unset, .unset] [(.int (3 : Int32)), (.ref b2), (.ref b2)])) rfl (hb hby at_33)) ?_
  show Go FrameEnd p e below s 16 192 (Q0 Z q1 p2 p3 pw h0 n0) (T9.setTop (mkF m 36 #[.val (.long q1), .second, .val (.int p2), .val (.int p3), .val (.int (Int32.ofNat t)), .val (.ref b1), .unset, .unset, .unset, .unset, .unset, .unset, .unset, .unset, .unset] [(.long (1000 : Int64)), (.int (3 : Int32)), (.ref b2), (.ref b2)]))
  obtain ⟨c10, Ac10, Sc10, Mc10, Gc10⟩ := id V9
  obtain ⟨T11, h11, X11, e11, W11, st11⟩ := stJ X9 hx hZ e9 Ac10 (j := (3 : Int32)) (own_in Sc10 (by decide) (by decide)) (g := (mkF m 36 #[.val (.long q1), .second, .val (.int p2), .val (.int p3), .val (.int (Int32.ofNat t)), .val (.ref b1), .unset, .unset, .unset, .unset, .unset, .unset, .unset, .unset, .unset] [(.long (1000 : Int64)), (.int (3 : Int32)), (.ref b2), (.ref b2)])) rfl rfl (hb hby at_36)
  refine Go.step st11 ?_
  have N11 := Fr.snoc X11 N9 g_b2
  have Z11 : n0 ≤ h11.size := Nat.le_trans Z9 (Keep.of_wr W11).1
  have V11 : Av Z h11 b2 .long 19 (aset (aset (aset (aset (fun _ => (.long (0 : Int64))) 0 (.long (1 : Int64))) 1 (.long (10 : Int64))) 2 (.long (100 : Int64))) 3 (.long (1000 : Int64))) := Av.set Ac10 Sc10 Mc10 Gc10 W11 (by rfl) (own_in Sc10 (by decide) (by decide))
  show Go FrameEnd p e below s 16 192 (Q0 Z q1 p2 p3 pw h0 n0) (T11.setTop (mkF m 37 #[.val (.long q1), .second, .val (.int p2), .val (.int p3), .val (.int (Int32.ofNat t)), .val (.ref b1), .unset, .unset, .unset, .unset, .unset, .unset, .unset, .unset, .unset] [(.ref b2)]))
  refine Go.step (fun _ k => XS.dup X11.here hx rfl (hb hby at_37) rfl rfl k) ?_
  show Go FrameEnd p e below s 16 192 (Q0 Z q1 p2 p3 pw h0 n0) (T11.setTop (mkF m 38 #[.val (.long q1), .second, .val (.int p2), .val (.int p3), .val (.int (Int32.ofNat t)), .val (.ref b1), .unset, .unset, .unset, .unset, .unset, .unset, .unset, .unset, .unset] [(.ref b2), (.ref b2)]))
  refine Go.step (fun _ k => XS.iconst X11.here hx rfl (hb hby at_38) k) ?_
  show Go FrameEnd p e below s 16 192 (Q0 Z q1 p2 p3 pw h0 n0) (T11.setTop (mkF m 39 #[.val (.long q1), .second, .val (.int p2), .val (.int p3), .val (.int (Int32.ofNat t)), .val (.ref b1), .unset, .unset, .unset, .unset, .unset, .unset, .unset, .unset, .unset] [(.int (4 : Int32)), (.ref b2), (.ref b2)]))
  refine Go.step (X11.ldc2Long hx hown (mvT hZ (hw _ (List.mem_of_getElem? (i := 5) rfl))) (g := (mkF m 39 #[.val (.long q1), .second, .val (.int p2), .val (.int p3), .val (.int (Int32.ofNat t)), .val (.ref b1), .unset, .unset, .unset, .unset, .unset, .unset, .unset, .unset, .unset] [(.int (4 : Int32)), (.ref b2), (.ref b2)])) rfl (hb hby at_39)) ?_
  show Go FrameEnd p e below s 16 192 (Q0 Z q1 p2 p3 pw h0 n0) (T11.setTop (mkF m 42 #[.val (.long q1), .second, .val (.int p2), .val (.int p3), .val (.int (Int32.ofNat t)), .val (.ref b1), .unset, .unset, .unset, .unset, .unset, .unset, .unset, .unset, .unset] [(.long (10000 : Int64)), (.int (4 : Int32)), (.ref b2), (.ref b2)]))
  obtain ⟨c12, Ac12, Sc12, Mc12, Gc12⟩ := id V11
  obtain ⟨T13, h13, X13, e13, W13, st13⟩ := stJ X11 hx hZ e11 Ac12 (j := (4 : Int32)) (own_in Sc12 (by decide) (by decide)) (g := (mkF m 42 #[.val (.long q1), .second, .val (.int p2), .val (.int p3), .val (.int (Int32.ofNat t)), .val (.ref b1), .unset, .unset, .unset, .unset, .unset, .unset, .unset, .unset, .unset] [(.long (10000 : Int64)), (.int (4 : Int32)), (.ref b2), (.ref b2)])) rfl rfl (hb hby at_42)
  refine Go.step st13 ?_
  have N13 := Fr.snoc X13 N11 g_b2
  have Z13 : n0 ≤ h13.size := Nat.le_trans Z11 (Keep.of_wr W13).1
  have V13 : Av Z h13 b2 .long 19 (aset (aset (aset (aset (aset (fun _ => (.long (0 : Int64))) 0 (.long (1 : Int64))) 1 (.long (10 : Int64))) 2 (.long (100 : Int64))) 3 (.long (1000 : Int64))) 4 (.long (10000 : Int64))) := Av.set Ac12 Sc12 Mc12 Gc12 W13 (by rfl) (own_in Sc12 (by decide) (by decide))
  show Go FrameEnd p e below s 16 192 (Q0 Z q1 p2 p3 pw h0 n0) (T13.setTop (mkF m 43 #[.val (.long q1), .second, .val (.int p2), .val (.int p3), .val (.int (Int32.ofNat t)), .val (.ref b1), .unset, .unset, .unset, .unset, .unset, .unset, .unset, .unset, .unset] [(.ref b2)]))
  refine Go.step (fun _ k => XS.dup X13.here hx rfl (hb hby at_43) rfl rfl k) ?_
  show Go FrameEnd p e below s 16 192 (Q0 Z q1 p2 p3 pw h0 n0) (T13.setTop (mkF m 44 #[.val (.long q1), .second, .val (.int p2), .val (.int p3), .val (.int (Int32.ofNat t)), .val (.ref b1), .unset, .unset, .unset, .unset, .unset, .unset, .unset, .unset, .unset] [(.ref b2), (.ref b2)]))
  refine Go.step (fun _ k => XS.iconst X13.here hx rfl (hb hby at_44) k) ?_
  show Go FrameEnd p e below s 16 192 (Q0 Z q1 p2 p3 pw h0 n0) (T13.setTop (mkF m 45 #[.val (.long q1), .second, .val (.int p2), .val (.int p3), .val (.int (Int32.ofNat t)), .val (.ref b1), .unset, .unset, .unset, .unset, .unset, .unset, .unset, .unset, .unset] [(.int (5 : Int32)), (.ref b2), (.ref b2)]))
  refine Go.step (X13.ldc2Long hx hown (mvT hZ (hw _ (List.mem_of_getElem? (i := 6) rfl))) (g := (mkF m 45 #[.val (.long q1), .second, .val (.int p2), .val (.int p3), .val (.int (Int32.ofNat t)), .val (.ref b1), .unset, .unset, .unset, .unset, .unset, .unset, .unset, .unset, .unset] [(.int (5 : Int32)), (.ref b2), (.ref b2)])) rfl (hb hby at_45)) ?_
  show Go FrameEnd p e below s 16 192 (Q0 Z q1 p2 p3 pw h0 n0) (T13.setTop (mkF m 48 #[.val (.long q1), .second, .val (.int p2), .val (.int p3), .val (.int (Int32.ofNat t)), .val (.ref b1), .unset, .unset, .unset, .unset, .unset, .unset, .unset, .unset, .unset] [(.long (100000 : Int64)), (.int (5 : Int32)), (.ref b2), (.ref b2)]))
  obtain ⟨c14, Ac14, Sc14, Mc14, Gc14⟩ := id V13
  obtain ⟨T15, h15, X15, e15, W15, st15⟩ := stJ X13 hx hZ e13 Ac14 (j := (5 : Int32)) (own_in Sc14 (by decide) (by decide)) (g := (mkF m 48 #[.val (.long q1), .second, .val (.int p2), .val (.int p3), .val (.int (Int32.ofNat t)), .val (.ref b1), .unset, .unset, .unset, .unset, .unset, .unset, .unset, .unset, .unset] [(.long (100000 : Int64)), (.int (5 : Int32)), (.ref b2), (.ref b2)])) rfl rfl (hb hby at_48)
  refine Go.step st15 ?_
  have N15 := Fr.snoc X15 N13 g_b2
  have Z15 : n0 ≤ h15.size := Nat.le_trans Z13 (Keep.of_wr W15).1
  have V15 : Av Z h15 b2 .long 19 (aset (aset (aset (aset (aset (aset (fun _ => (.long (0 : Int64))) 0 (.long (1 : Int64))) 1 (.long (10 : Int64))) 2 (.long (100 : Int64))) 3 (.long (1000 : Int64))) 4 (.long (10000 : Int64))) 5 (.long (100000 : Int64))) := Av.set Ac14 Sc14 Mc14 Gc14 W15 (by rfl) (own_in Sc14 (by decide) (by decide))
  show Go FrameEnd p e below s 16 192 (Q0 Z q1 p2 p3 pw h0 n0) (T15.setTop (mkF m 49 #[.val (.long q1), .second, .val (.int p2), .val (.int p3), .val (.int (Int32.ofNat t)), .val (.ref b1), .unset, .unset, .unset, .unset, .unset, .unset, .unset, .unset, .unset] [(.ref b2)]))
  refine Go.step (fun _ k => XS.dup X15.here hx rfl (hb hby at_49) rfl rfl k) ?_
  show Go FrameEnd p e below s 16 192 (Q0 Z q1 p2 p3 pw h0 n0) (T15.setTop (mkF m 50 #[.val (.long q1), .second, .val (.int p2), .val (.int p3), .val (.int (Int32.ofNat t)), .val (.ref b1), .unset, .unset, .unset, .unset, .unset, .unset, .unset, .unset, .unset] [(.ref b2), (.ref b2)]))
  refine Go.step (fun _ k => XS.bipush X15.here hx rfl (hb hby at_50) k) ?_
  show Go FrameEnd p e below s 16 192 (Q0 Z q1 p2 p3 pw h0 n0) (T15.setTop (mkF m 52 #[.val (.long q1), .second, .val (.int p2), .val (.int p3), .val (.int (Int32.ofNat t)), .val (.ref b1), .unset, .unset, .unset, .unset, .unset, .unset, .unset, .unset, .unset] [(.int (6 : Int32)), (.ref b2), (.ref b2)]))
  refine Go.step (X15.ldc2Long hx hown (mvT hZ (hw _ (List.mem_of_getElem? (i := 7) rfl))) (g := (mkF m 52 #[.val (.long q1), .second, .val (.int p2), .val (.int p3), .val (.int (Int32.ofNat t)), .val (.ref b1), .unset, .unset, .unset, .unset, .unset, .unset, .unset, .unset, .unset] [(.int (6 : Int32)), (.ref b2), (.ref b2)])) rfl (hb hby at_52)) ?_
  show Go FrameEnd p e below s 16 192 (Q0 Z q1 p2 p3 pw h0 n0) (T15.setTop (mkF m 55 #[.val (.long q1), .second, .val (.int p2), .val (.int p3), .val (.int (Int32.ofNat t)), .val (.ref b1), .unset, .unset, .unset, .unset, .unset, .unset, .unset, .unset, .unset] [(.long (1000000 : Int64)), (.int (6 : Int32)), (.ref b2), (.ref b2)]))
  obtain ⟨c16, Ac16, Sc16, Mc16, Gc16⟩ := id V15
  obtain ⟨T17, h17, X17, e17, W17, st17⟩ := stJ X15 hx hZ e15 Ac16 (j := (6 : Int32)) (own_in Sc16 (by decide) (by decide)) (g := (mkF m 55 #[.val (.long q1), .second, .val (.int p2), .val (.int p3), .val (.int (Int32.ofNat t)), .val (.ref b1), .unset, .unset, .unset, .unset, .unset, .unset, .unset, .unset, .unset] [(.long (1000000 : Int64)), (.int (6 : Int32)), (.ref b2), (.ref b2)])) rfl rfl (hb hby at_55)
  refine Go.step st17 ?_
  have N17 := Fr.snoc X17 N15 g_b2
  have Z17 : n0 ≤ h17.size := Nat.le_trans Z15 (Keep.of_wr W17).1
  have V17 : Av Z h17 b2 .long 19 (aset (aset (aset (aset (aset (aset (aset (fun _ => (.long (0 : Int64))) 0 (.long (1 : Int64))) 1 (.long (10 : Int64))) 2 (.long (100 : Int64))) 3 (.long (1000 : Int64))) 4 (.long (10000 : Int64))) 5 (.long (100000 : Int64))) 6 (.long (1000000 : Int64))) := Av.set Ac16 Sc16 Mc16 Gc16 W17 (by rfl) (own_in Sc16 (by decide) (by decide))
  show Go FrameEnd p e below s 16 192 (Q0 Z q1 p2 p3 pw h0 n0) (T17.setTop (mkF m 56 #[.val (.long q1), .second, .val (.int p2), .val (.int p3), .val (.int (Int32.ofNat t)), .val (.ref b1), .unset, .unset, .unset, .unset, .unset, .unset, .unset, .unset, .unset] [(.ref b2)]))
  refine Go.step (fun _ k => XS.dup X17.here hx rfl (hb hby at_56) rfl rfl k) ?_
  show Go FrameEnd p e below s 16 192 (Q0 Z q1 p2 p3 pw h0 n0) (T17.setTop (mkF m 57 #[.val (.long q1), .second, .val (.int p2), .val (.int p3), .val (.int (Int32.ofNat t)), .val (.ref b1), .unset, .unset, .unset, .unset, .unset, .unset, .unset, .unset, .unset] [(.ref b2), (.ref b2)]))
  refine Go.step (fun _ k => XS.bipush X17.here hx rfl (hb hby at_57) k) ?_
  show Go FrameEnd p e below s 16 192 (Q0 Z q1 p2 p3 pw h0 n0) (T17.setTop (mkF m 59 #[.val (.long q1), .second, .val (.int p2), .val (.int p3), .val (.int (Int32.ofNat t)), .val (.ref b1), .unset, .unset, .unset, .unset, .unset, .unset, .unset, .unset, .unset] [(.int (7 : Int32)), (.ref b2), (.ref b2)]))
  refine Go.step (X17.ldc2Long hx hown (mvT hZ (hw _ (List.mem_of_getElem? (i := 8) rfl))) (g := (mkF m 59 #[.val (.long q1), .second, .val (.int p2), .val (.int p3), .val (.int (Int32.ofNat t)), .val (.ref b1), .unset, .unset, .unset, .unset, .unset, .unset, .unset, .unset, .unset] [(.int (7 : Int32)), (.ref b2), (.ref b2)])) rfl (hb hby at_59)) ?_
  show Go FrameEnd p e below s 16 192 (Q0 Z q1 p2 p3 pw h0 n0) (T17.setTop (mkF m 62 #[.val (.long q1), .second, .val (.int p2), .val (.int p3), .val (.int (Int32.ofNat t)), .val (.ref b1), .unset, .unset, .unset, .unset, .unset, .unset, .unset, .unset, .unset] [(.long (10000000 : Int64)), (.int (7 : Int32)), (.ref b2), (.ref b2)]))
  obtain ⟨c18, Ac18, Sc18, Mc18, Gc18⟩ := id V17
  obtain ⟨T19, h19, X19, e19, W19, st19⟩ := stJ X17 hx hZ e17 Ac18 (j := (7 : Int32)) (own_in Sc18 (by decide) (by decide)) (g := (mkF m 62 #[.val (.long q1), .second, .val (.int p2), .val (.int p3), .val (.int (Int32.ofNat t)), .val (.ref b1), .unset, .unset, .unset, .unset, .unset, .unset, .unset, .unset, .unset] [(.long (10000000 : Int64)), (.int (7 : Int32)), (.ref b2), (.ref b2)])) rfl rfl (hb hby at_62)
  refine Go.step st19 ?_
  have N19 := Fr.snoc X19 N17 g_b2
  have Z19 : n0 ≤ h19.size := Nat.le_trans Z17 (Keep.of_wr W19).1
  have V19 : Av Z h19 b2 .long 19 (aset (aset (aset (aset (aset (aset (aset (aset (fun _ => (.long (0 : Int64))) 0 (.long (1 : Int64))) 1 (.long (10 : Int64))) 2 (.long (100 : Int64))) 3 (.long (1000 : Int64))) 4 (.long (10000 : Int64))) 5 (.long (100000 : Int64))) 6 (.long (1000000 : Int64))) 7 (.long (10000000 : Int64))) := Av.set Ac18 Sc18 Mc18 Gc18 W19 (by rfl) (own_in Sc18 (by decide) (by decide))
  show Go FrameEnd p e below s 16 192 (Q0 Z q1 p2 p3 pw h0 n0) (T19.setTop (mkF m 63 #[.val (.long q1), .second, .val (.int p2), .val (.int p3), .val (.int (Int32.ofNat t)), .val (.ref b1), .unset, .unset, .unset, .unset, .unset, .unset, .unset, .unset, .unset] [(.ref b2)]))
  refine Go.step (fun _ k => XS.dup X19.here hx rfl (hb hby at_63) rfl rfl k) ?_
  show Go FrameEnd p e below s 16 192 (Q0 Z q1 p2 p3 pw h0 n0) (T19.setTop (mkF m 64 #[.val (.long q1), .second, .val (.int p2), .val (.int p3), .val (.int (Int32.ofNat t)), .val (.ref b1), .unset, .unset, .unset, .unset, .unset, .unset, .unset, .unset, .unset] [(.ref b2), (.ref b2)]))
  refine Go.step (fun _ k => XS.bipush X19.here hx rfl (hb hby at_64) k) ?_
  show Go FrameEnd p e below s 16 192 (Q0 Z q1 p2 p3 pw h0 n0) (T19.setTop (mkF m 66 #[.val (.long q1), .second, .val (.int p2), .val (.int p3), .val (.int (Int32.ofNat t)), .val (.ref b1), .unset, .unset, .unset, .unset, .unset, .unset, .unset, .unset, .unset] [(.int (8 : Int32)), (.ref b2), (.ref b2)]))
  refine Go.step (X19.ldc2Long hx hown (mvT hZ (hw _ (List.mem_of_getElem? (i := 9) rfl))) (g := (mkF m 66 #[.val (.long q1), .second, .val (.int p2), .val (.int p3), .val (.int (Int32.ofNat t)), .val (.ref b1), .unset, .unset, .unset, .unset, .unset, .unset, .unset, .unset, .unset] [(.int (8 : Int32)), (.ref b2), (.ref b2)])) rfl (hb hby at_66)) ?_
  show Go FrameEnd p e below s 16 192 (Q0 Z q1 p2 p3 pw h0 n0) (T19.setTop (mkF m 69 #[.val (.long q1), .second, .val (.int p2), .val (.int p3), .val (.int (Int32.ofNat t)), .val (.ref b1), .unset, .unset, .unset, .unset, .unset, .unset, .unset, .unset, .unset] [(.long (100000000 : Int64)), (.int (8 : Int32)), (.ref b2), (.ref b2)]))
  obtain ⟨c20, Ac20, Sc20, Mc20, Gc20⟩ := id V19
  obtain ⟨T21, h21, X21, e21, W21, st21⟩ := stJ X19 hx hZ e19 Ac20 (j := (8 : Int32)) (own_in Sc20 (by decide) (by decide)) (g := (mkF m 69 #[.val (.long q1), .second, .val (.int p2), .val (.int p3), .val (.int (Int32.ofNat t)), .val (.ref b1), .unset, .unset, .unset, .unset, .unset, .unset, .unset, .unset, .unset] [(.long (100000000 : Int64)), (.int (8 : Int32)), (.ref b2), (.ref b2)])) rfl rfl (hb hby at_69)
  refine Go.step st21 ?_
  have N21 := Fr.snoc X21 N19 g_b2
  have Z21 : n0 ≤ h21.size := Nat.le_trans Z19 (Keep.of_wr W21).1
  have V21 : Av Z h21 b2 .long 19 (aset (aset (aset (aset (aset (aset (aset (aset (aset (fun _ => (.long (0 : Int64))) 0 (.long (1 : Int64))) 1 (.long (10 : Int64))) 2 (.long (100 : Int64))) 3 (.long (1000 : Int64))) 4 (.long (10000 : Int64))) 5 (.long (100000 : Int64))) 6 (.long (1000000 : Int64))) 7 (.long (10000000 : Int64))) 8 (.long (100000000 : Int64))) := Av.set Ac20 Sc20 Mc20 Gc20 W21 (by rfl) (own_in Sc20 (by decide) (by decide))
  show Go FrameEnd p e below s 16 192 (Q0 Z q1 p2 p3 pw h0 n0) (T21.setTop (mkF m 70 #[.val (.long q1), .second, .val (.int p2), .val (.int p3), .val (.int (Int32.ofNat t)), .val (.ref b1), .unset, .unset, .unset, .unset, .unset, .unset, .unset, .unset, .unset] [(.ref b2)]))
  refine Go.step (fun _ k => XS.dup X21.here hx rfl (hb hby at_70) rfl rfl k) ?_
  show Go FrameEnd p e below s 16 192 (Q0 Z q1 p2 p3 pw h0 n0) (T21.setTop (mkF m 71 #[.val (.long q1), .second, .val (.int p2), .val (.int p3), .val (.int (Int32.ofNat t)), .val (.ref b1), .unset, .unset, .unset, .unset, .unset, .unset, .unset, .unset, .unset] [(.ref b2), (.ref b2)]))
  refine Go.step (fun _ k => XS.bipush X21.here hx rfl (hb hby at_71) k) ?_
  show Go FrameEnd p e below s 16 192 (Q0 Z q1 p2 p3 pw h0 n0) (T21.setTop (mkF m 73 #[.val (.long q1), .second, .val (.int p2), .val (.int p3), .val (.int (Int32.ofNat t)), .val (.ref b1), .unset, .unset, .unset, .unset, .unset, .unset, .unset, .unset, .unset] [(.int (9 : Int32)), (.ref b2), (.ref b2)]))
  refine Go.step (X21.ldc2Long hx hown (mvT hZ (hw _ (List.mem_of_getElem? (i := 10) rfl))) (g := (mkF m 73 #[.val (.long q1), .second, .val (.int p2), .val (.int p3), .val (.int (Int32.ofNat t)), .val (.ref b1), .unset, .unset, .unset, .unset, .unset, .unset, .unset, .unset, .unset] [(.int (9 : Int32)), (.ref b2), (.ref b2)])) rfl (hb hby at_73)) ?_
  show Go FrameEnd p e below s 16 192 (Q0 Z q1 p2 p3 pw h0 n0) (T21.setTop (mkF m 76 #[.val (.long q1), .second, .val (.int p2), .val (.int p3), .val (.int (Int32.ofNat t)), .val (.ref b1), .unset, .unset, .unset, .unset, .unset, .unset, .unset, .unset, .unset] [(.long (1000000000 : Int64)), (.int (9 : Int32)), (.ref b2), (.ref b2)]))
  obtain ⟨c22, Ac22, Sc22, Mc22, Gc22⟩ := id V21
  obtain ⟨T23, h23, X23, e23, W23, st23⟩ := stJ X21 hx hZ e21 Ac22 (j := (9 : Int32)) (own_in Sc22 (by decide) (by decide)) (g := (mkF m 76 #[.val (.long q1), .second, .val (.int p2), .val (.int p3), .val (.int (Int32.ofNat t)), .val (.ref b1), .unset, .unset, .unset, .unset, .unset, .unset, .unset, .unset, .unset] [(.long (1000000000 : Int64)), (.int (9 : Int32)), (.ref b2), (.ref b2)])) rfl rfl (hb hby at_76)
  refine Go.step st23 ?_
  have N23 := Fr.snoc X23 N21 g_b2
  have Z23 : n0 ≤ h23.size := Nat.le_trans Z21 (Keep.of_wr W23).1
  have V23 : Av Z h23 b2 .long 19 (aset (aset (aset (aset (aset (aset (aset (aset (aset (aset (fun _ => (.long (0 : Int64))) 0 (.long (1 : Int64))) 1 (.long (10 : Int64))) 2 (.long (100 : Int64))) 3 (.long (1000 : Int64))) 4 (.long (10000 : Int64))) 5 (.long (100000 : Int64))) 6 (.long (1000000 : Int64))) 7 (.long (10000000 : Int64))) 8 (.long (100000000 : Int64))) 9 (.long (1000000000 : Int64))) := Av.set Ac22 Sc22 Mc22 Gc22 W23 (by rfl) (own_in Sc22 (by decide) (by decide))
  show Go FrameEnd p e below s 16 192 (Q0 Z q1 p2 p3 pw h0 n0) (T23.setTop (mkF m 77 #[.val (.long q1), .second, .val (.int p2), .val (.int p3), .val (.int (Int32.ofNat t)), .val (.ref b1), .unset, .unset, .unset, .unset, .unset, .unset, .unset, .unset, .unset] [(.ref b2)]))
  refine Go.step (fun _ k => XS.dup X23.here hx rfl (hb hby at_77) rfl rfl k) ?_
  show Go FrameEnd p e below s 16 192 (Q0 Z q1 p2 p3 pw h0 n0) (T23.setTop (mkF m 78 #[.val (.long q1), .second, .val (.int p2), .val (.int p3), .val (.int (Int32.ofNat t)), .val (.ref b1), .unset, .unset, .unset, .unset, .unset, .unset, .unset, .unset, .unset] [(.ref b2), (.ref b2)]))
  refine Go.step (fun _ k => XS.bipush X23.here hx rfl (hb hby at_78) k) ?_
  show Go FrameEnd p e below s 16 192 (Q0 Z q1 p2 p3 pw h0 n0) (T23.setTop (mkF m 80 #[.val (.long q1), .second, .val (.int p2), .val (.int p3), .val (.int (Int32.ofNat t)), .val (.ref b1), .unset, .unset, .unset, .unset, .unset, .unset, .unset, .unset, .unset] [(.int (10 : Int32)), (.ref b2), (.ref b2)]))
  refine Go.step (X23.ldc2Long hx hown (mvT hZ (hw _ (List.mem_of_getElem? (i := 11) rfl))) (g := (mkF m 80 #[.val (.long q1), .second, .val (.int p2), .val (.int p3), .val (.int (Int32.ofNat t)), .val (.ref b1), .unset, .unset, .unset, .unset, .unset, .unset, .unset, .unset, .unset] [(.int (10 : Int32)), (.ref b2), (.ref b2)])) rfl (hb hby at_80)) ?_
  show Go FrameEnd p e below s 16 192 (Q0 Z q1 p2 p3 pw h0 n0) (T23.setTop (mkF m 83 #[.val (.long q1), .second, .val (.int p2), .val (.int p3), .val (.int (Int32.ofNat t)), .val (.ref b1), .unset, .unset, .unset, .unset, .unset, .unset, .unset, .unset, .unset] [(.long (10000000000 : Int64)), (.int (10 : Int32)), (.ref b2), (.ref b2)]))
  obtain ⟨c24, Ac24, Sc24, Mc24, Gc24⟩ := id V23
  obtain ⟨T25, h25, X25, e25, W25, st25⟩ := stJ X23 hx hZ e23 Ac24 (j := (10 : Int32)) (own_in Sc24 (by decide) (by decide)) (g := (mkF m 83 #[.val (.long q1), .second, .val (.int p2), .val (.int p3), .val (.int (Int32.ofNat t)), .val (.ref b1), .unset, .unset, .unset, .unset, .unset, .unset, .unset, .unset, .unset] [(.long (10000000000 : Int64)), (.int (10 : Int32)), (.ref b2), (.ref b2)])) rfl rfl (hb hby at_83)
  refine Go.step st25 ?_
  have N25 := Fr.snoc X25 N23 g_b2
  have Z25 : n0 ≤ h25.size := Nat.le_trans Z23 (Keep.of_wr W25).1
  have V25 : Av Z h25 b2 .long 19 (aset (aset (aset (aset (aset (aset (aset (aset (aset (aset (aset (fun _ => (.long (0 : Int64))) 0 (.long (1 : Int64))) 1 (.long (10 : Int64))) 2 (.long (100 : Int64))) 3 (.long (1000 : Int64))) 4 (.long (10000 : Int64))) 5 (.long (100000 : Int64))) 6 (.long (1000000 : Int64))) 7 (.long (10000000 : Int64))) 8 (.long (100000000 : Int64))) 9 (.long (1000000000 : Int64))) 10 (.long (10000000000 : Int64))) := Av.set Ac24 Sc24 Mc24 Gc24 W25 (by rfl) (own_in Sc24 (by decide) (by decide))
  show Go FrameEnd p e below s 16 192 (Q0 Z q1 p2 p3 pw h0 n0) (T25.setTop (mkF m 84 #[.val (.long q1), .second, .val (.int p2), .val (.int p3), .val (.int (Int32.ofNat t)), .val (.ref b1), .unset, .unset, .unset, .unset, .unset, .unset, .unset, .unset, .unset] [(.ref b2)]))
  refine Go.step (fun _ k => XS.dup X25.here hx rfl (hb hby at_84) rfl rfl k) ?_
  show Go FrameEnd p e below s 16 192 (Q0 Z q1 p2 p3 pw h0 n0) (T25.setTop (mkF m 85 #[.val (.long q1), .second, .val (.int p2), .val (.int p3), .val (.int (Int32.ofNat t)), .val (.ref b1), .unset, .unset, .unset, .unset, .unset, .unset, .unset, .unset, .unset] [(.ref b2), (.ref b2)]))
  refine Go.step (fun _ k => XS.bipush X25.here hx rfl (hb hby at_85) k) ?_
  show Go FrameEnd p e below s 16 192 (Q0 Z q1 p2 p3 pw h0 n0) (T25.setTop (mkF m 87 #[.val (.long q1), .second, .val (.int p2), .val (.int p3), .val (.int (Int32.ofNat t)), .val (.ref b1), .unset, .unset, .unset, .unset, .unset, .unset, .unset, .unset, .unset] [(.int (11 : Int32)), (.ref b2), (.ref b2)]))
  refine Go.step (X25.ldc2Long hx hown (mvT hZ (hw _ (List.mem_of_getElem? (i := 12) rfl))) (g := (mkF m 87 #[.val (.long q1), .second, .val (.int p2), .val (.int p3), .val (.int (Int32.ofNat t)), .val (.ref b1), .unset, .unset, .unset, .unset, .unset, .unset, .unset, .unset, .unset] [(.int (11 : Int32)), (.ref b2), (.ref b2)])) rfl (hb hby at_87)) ?_
  show Go FrameEnd p e below s 16 192 (Q0 Z q1 p2 p3 pw h0 n0) (T25.setTop (mkF m 90 #[.val (.long q1), .second, .val (.int p2), .val (.int p3), .val (.int (Int32.ofNat t)), .val (.ref b1), .unset, .unset, .unset, .unset, .unset, .unset, .unset, .unset, .unset] [(.long (100000000000 : Int64)), (.int (11 : Int32)), (.ref b2), (.ref b2)]))
  obtain ⟨c26, Ac26, Sc26, Mc26, Gc26⟩ := id V25
  obtain ⟨T27, h27, X27, e27, W27, st27⟩ := stJ X25 hx hZ e25 Ac26 (j := (11 : Int32)) (own_in Sc26 (by decide) (by decide)) (g := (mkF m 90 #[.val (.long q1), .second, .val (.int p2), .val (.int p3), .val (.int (Int32.ofNat t)), .val (.ref b1), .unset, .unset, .unset, .unset, .unset, .unset, .unset, .unset, .unset] [(.long (100000000000 : Int64)), (.int (11 : Int32)), (.ref b2), (.ref b2)])) rfl rfl (hb hby at_90)
  refine Go.step st27 ?_
  have N27 := Fr.snoc X27 N25 g_b2
  have Z27 : n0 ≤ h27.size := Nat.le_trans Z25 (Keep.of_wr W27).1
  have V27 : Av Z h27 b2 .long 19 (aset (aset (aset (aset (aset (aset (aset (aset (aset (aset (aset (aset (fun _ => (.long (0 : Int64))) 0 (.long (1 : Int64))) 1 (.long (10 : Int64))) 2 (.long (100 : Int64))) 3 (.long (1000 : Int64))) 4 (.long (10000 : Int64))) 5 (.long (100000 : Int64))) 6 (.long (1000000 : Int64))) 7 (.long (10000000 : Int64))) 8 (.long (100000000 : Int64))) 9 (.long (1000000000 : Int64))) 10 (.long (10000000000 : Int64))) 11 (.long (100000000000 : Int64))) := Av.set Ac26 Sc26 Mc26 Gc26 W27 (by rfl) (own_in Sc26 (by decide) (by decide))
  show Go FrameEnd p e below s 16 192 (Q0 Z q1 p2 p3 pw h0 n0) (T27.setTop (mkF m 91 #[.val (.long q1), .second, .val (.int p2), .val (.int p3), .val (.int (Int32.ofNat t)), .val (.ref b1), .unset, .unset, .unset, .unset, .unset, .unset, .unset, .unset, .unset] [(.ref b2)]))
  refine Go.step (fun _ k => XS.dup X27.here hx rfl (hb hby at_91) rfl rfl k) ?_
  show Go FrameEnd p e below s 16 192 (Q0 Z q1 p2 p3 pw h0 n0) (T27.setTop (mkF m 92 #[.val (.long q1), .second, .val (.int p2), .val (.int p3), .val (.int (Int32.ofNat t)), .val (.ref b1), .unset, .unset, .unset, .unset, .unset, .unset, .unset, .unset, .unset] [(.ref b2), (.ref b2)]))
  refine Go.step (fun _ k => XS.bipush X27.here hx rfl (hb hby at_92) k) ?_
  show Go FrameEnd p e below s 16 192 (Q0 Z q1 p2 p3 pw h0 n0) (T27.setTop (mkF m 94 #[.val (.long q1), .second, .val (.int p2), .val (.int p3), .val (.int (Int32.ofNat t)), .val (.ref b1), .unset, .unset, .unset, .unset, .unset, .unset, .unset, .unset, .unset] [(.int (12 : Int32)), (.ref b2), (.ref b2)]))
  refine Go.step (X27.ldc2Long hx hown (mvT hZ (hw _ (List.mem_of_getElem? (i := 13) rfl))) (g := (mkF m 94 #[.val (.long q1), .second, .val (.int p2), .val (.int p3), .val (.int (Int32.ofNat t)), .val (.ref b1), .unset, .unset, .unset, .unset, .unset, .unset, .unset, .unset, .unset] [(.int (12 : Int32)), (.ref b2), (.ref b2)])) rfl (hb hby at_94)) ?_
  show Go FrameEnd p e below s 16 192 (Q0 Z q1 p2 p3 pw h0 n0) (T27.setTop (mkF m 97 #[.val (.long q1), .second, .val (.int p2), .val (.int p3), .val (.int (Int32.ofNat t)), .val (.ref b1), .unset, .unset, .unset, .unset, .unset, .unset, .unset, .unset, .unset] [(.long (1000000000000 : Int64)), (.int (12 : Int32)), (.ref b2), (.ref b2)]))
  obtain ⟨c28, Ac28, Sc28, Mc28, Gc28⟩ := id V27
  obtain ⟨T29, h29, X29, e29, W29, st29⟩ := stJ X27 hx hZ e27 Ac28 (j := (12 : Int32)) (own_in Sc28 (by decide) (by decide)) (g := (mkF m 97 #[.val (.long q1), .second, .val (.int p2), .val (.int p3), .val (.int (Int32.ofNat t)), .val (.ref b1), .unset, .unset, .unset, .unset, .unset, .unset, .unset, .unset, .unset] [(.long (1000000000000 : Int64)), (.int (12 : Int32)), (.ref b2), (.ref b2)])) rfl rfl (hb hby at_97)
  refine Go.step st29 ?_
  have N29 := Fr.snoc X29 N27 g_b2
  have Z29 : n0 ≤ h29.size := Nat.le_trans Z27 (Keep.of_wr W29).1
  have V29 : Av Z h29 b2 .long 19 (aset (aset (aset (aset (aset (aset (aset (aset (aset (aset (aset (aset (aset (fun _ => (.long (0 : Int64))) 0 (.long (1 : Int64))) 1 (.long (10 : Int64))) 2 (.long (100 : Int64))) 3 (.long (1000 : Int64))) 4 (.long (10000 : Int64))) 5 (.long (100000 : Int64))) 6 (.long (1000000 : Int64))) 7 (.long (10000000 : Int64))) 8 (.long (100000000 : Int64))) 9 (.long (1000000000 : Int64))) 10 (.long (10000000000 : Int64))) 11 (.long (100000000000 : Int64))) 12 (.long (1000000000000 : Int64))) := Av.set Ac28 Sc28 Mc28 Gc28 W29 (by rfl) (own_in Sc28 (by decide) (by decide))
  show Go FrameEnd p e below s 16 192 (Q0 Z q1 p2 p3 pw h0 n0) (T29.setTop (mkF m 98 #[.val (.long q1), .second, .val (.int p2), .val (.int p3), .val (.int (Int32.ofNat t)), .val (.ref b1), .unset, .unset, .unset, .unset, .unset, .unset, .unset, .unset, .unset] [(.ref b2)]))
  refine Go.step (fun _ k => XS.dup X29.here hx rfl (hb hby at_98) rfl rfl k) ?_
  show Go FrameEnd p e below s 16 192 (Q0 Z q1 p2 p3 pw h0 n0) (T29.setTop (mkF m 99 #[.val (.long q1), .second, .val (.int p2), .val (.int p3), .val (.int (Int32.ofNat t)), .val (.ref b1), .unset, .unset, .unset, .unset, .unset, .unset, .unset, .unset, .unset] [(.ref b2), (.ref b2)]))
  refine Go.step (fun _ k => XS.bipush X29.here hx rfl (hb hby at_99) k) ?_
  show Go FrameEnd p e below s 16 192 (Q0 Z q1 p2 p3 pw h0 n0) (T29.setTop (mkF m 101 #[.val (.long q1), .second, .val (.int p2), .val (.int p3), .val (.int (Int32.ofNat t)), .val (.ref b1), .unset, .unset, .unset, .unset, .unset, .unset, .unset, .unset, .unset] [(.int (13 : Int32)), (.ref b2), (.ref b2)]))
  refine Go.step (X29.ldc2Long hx hown (mvT hZ (hw _ (List.mem_of_getElem? (i := 14) rfl))) (g := (mkF m 101 #[.val (.long q1), .second, .val (.int p2), .val (.int p3), .val (.int (Int32.ofNat t)), .val (.ref b1), .unset, .unset, .unset, .unset, .unset, .unset, .unset, .unset, .unset] [(.int (13 : Int32)), (.ref b2), (.ref b2)])) rfl (hb hby at_101)) ?_
  show Go FrameEnd p e below s 16 192 (Q0 Z q1 p2 p3 pw h0 n0) (T29.setTop (mkF m 104 #[.val (.long q1), .second, .val (.int p2), .val (.int p3), .val (.int (Int32.ofNat t)), .val (.ref b1), .unset, .unset, .unset, .unset, .unset, .unset, .unset, .unset, .unset] [(.long (10000000000000 : Int64)), (.int (13 : Int32)), (.ref b2), (.ref b2)]))
  obtain ⟨c30, Ac30, Sc30, Mc30, Gc30⟩ := id V29
  obtain ⟨T31, h31, X31, e31, W31, st31⟩ := stJ X29 hx hZ e29 Ac30 (j := (13 : Int32)) (own_in Sc30 (by decide) (by decide)) (g := (mkF m 104 #[.val (.long q1), .second, .val (.int p2), .val (.int p3), .val (.int (Int32.ofNat t)), .val (.ref b1), .unset, .unset, .unset, .unset, .unset, .unset, .unset, .unset, .unset] [(.long (10000000000000 : Int64)), (.int (13 : Int32)), (.ref b2), (.ref b2)])) rfl rfl (hb hby at_104)
  refine Go.step st31 ?_
  have N31 := Fr.snoc X31 N29 g_b2
  have Z31 : n0 ≤ h31.size := Nat.le_trans Z29 (Keep.of_wr W31).1
  have V31 : Av Z h31 b2 .long 19 (aset (aset (aset (aset (aset (aset (aset (aset (aset (aset (aset (aset (aset (aset (fun _ => (.long (0 : Int64))) 0 (.long (1 : Int64))) 1 (.long (10 : Int64))) 2 (.long (100 : Int64))) 3 (.long (1000 : Int64))) 4 (.long (10000 : Int64))) 5 (.long (100000 : Int64))) 6 (.long (1000000 : Int64))) 7 (.long (10000000 : Int64))) 8 (.long (100000000 : Int64))) 9 (.long (1000000000 : Int64))) 10 (.long (10000000000 : Int64))) 11 (.long (100000000000 : Int64))) 12 (.long (1000000000000 : Int64))) 13 (.long (10000000000000 : Int64))) := Av.set Ac30 Sc30 Mc30 Gc30 W31 (by rfl) (own_in Sc30 (by decide) (by decide))
  show Go FrameEnd p e below s 16 192 (Q0 Z q1 p2 p3 pw h0 n0) (T31.setTop (mkF m 105 #[.val (.long q1), .second, .val (.int p2), .val (.int p3), .val (.int (Int32.ofNat t)), .val (.ref b1), .unset, .unset, .unset, .unset, .unset, .unset, .unset, .unset, .unset] [(.ref b2)]))
  refine Go.step (fun _ k => XS.dup X31.here hx rfl (hb hby at_105) rfl rfl k) ?_
  show Go FrameEnd p e below s 16 192 (Q0 Z q1 p2 p3 pw h0 n0) (T31.setTop (mkF m 106 #[.val (.long q1), .second, .val (.int p2), .val (.int p3), .val (.int (Int32.ofNat t)), .val (.ref b1), .unset, .unset, .unset, .unset, .unset, .unset, .unset, .unset, .unset] [(.ref b2), (.ref b2)]))
  refine Go.step (fun _ k => XS.bipush X31.here hx rfl (hb hby at_106) k) ?_
  show Go FrameEnd p e below s 16 192 (Q0 Z q1 p2 p3 pw h0 n0) (T31.setTop (mkF m 108 #[.val (.long q1), .second, .val (.int p2), .val (.int p3), .val (.int (Int32.ofNat t)), .val (.ref b1), .unset, .unset, .unset, .unset, .unset, .unset, .unset, .unset, .unset] [(.int (14 : Int32)), (.ref b2), (.ref b2)]))
  refine Go.step (X31.ldc2Long hx hown (mvT hZ (hw _ (List.mem_of_getElem? (i := 15) rfl))) (g := (mkF m 108 #[.val (.long q1), .second, .val (.int p2), .val (.int p3), .val (.int (Int32.ofNat t)), .val (.ref b1), .unset, .unset, .unset, .unset, .unset, .unset, .unset, .unset, .unset] [(.int (14 : Int32)), (.ref b2), (.ref b2)])) rfl (hb hby at_108)) ?_
  show Go FrameEnd p e below s 16 192 (Q0 Z q1 p2 p3 pw h0 n0) (T31.setTop (mkF m 111 #[.val (.long q1), .second, .val (.int p2), .val (.int p3), .val (.int (Int32.ofNat t)), .val (.ref b1), .unset, .unset, .unset, .unset, .unset, .unset, .unset, .unset, .unset] [(.long (100000000000000 : Int64)), (.int (14 : Int32)), (.ref b2), (.ref b2)]))
  obtain ⟨c32, Ac32, Sc32, Mc32, Gc32⟩ := id V31
  obtain ⟨T33, h33, X33, e33, W33, st33⟩ := stJ X31 hx hZ e31 Ac32 (j := (14 : Int32)) (own_in Sc32 (by decide) (by decide)) (g := (mkF m 111 #[.val (.long q1), .second, .val (.int p2), .val (.int p3), .val (.int (Int32.ofNat t)), .val (.ref b1), .unset, .unset, .unset, .unset, .unset, .unset, .unset, .unset, .unset] [(.long (100000000000000 : Int64)), (.int (14 : Int32)), (.ref b2), (.ref b2)])) rfl rfl (hb hby at_111)
  refine Go.step st33 ?_
  have N33 := Fr.snoc X33 N31 g_b2
  have Z33 : n0 ≤ h33.size := Nat.le_trans Z31 (Keep.of_wr W33).1
  have V33 : Av Z h33 b2 .long 19 (aset (aset (aset (aset (aset (aset (aset (aset (aset (aset (aset (aset (aset (aset (aset (fun _ => (.long (0 : Int64))) 0 (.long (1 : Int64))) 1 (.long (10 : Int64))) 2 (.long (100 : Int64))) 3 (.long (1000 : Int64))) 4 (.long (10000 : Int64))) 5 (.long (100000 : Int64))) 6 (.long (1000000 : Int64))) 7 (.long (10000000 : Int64))) 8 (.long (100000000 : Int64))) 9 (.long (1000000000 : Int64))) 10 (.long (10000000000 : Int64))) 11 (.long (100000000000 : Int64))) 12 (.long (1000000000000 : Int64))) 13 (.long (10000000000000 : Int64))) 14 (.long (100000000000000 : Int64))) := Av.set Ac32 Sc32 Mc32 Gc32 W33 (by rfl) (own_in Sc32 (by decide) (by decide))
  show Go FrameEnd p e below s 16 192 (Q0 Z q1 p2 p3 pw h0 n0) (T33.setTop (mkF m 112 #[.val (.long q1), .second, .val (.int p2), .val (.int p3), .val (.int (Int32.ofNat t)), .val (.ref b1), .unset, .unset, .unset, .unset, .unset, .unset, .unset, .unset, .unset] [(.ref b2)]))
  refine Go.step (fun _ k => XS.dup X33.here hx rfl (hb hby at_112) rfl rfl k) ?_
  show Go FrameEnd p e below s 16 192 (Q0 Z q1 p2 p3 pw h0 n0) (T33.setTop (mkF m 113 #[.val (.long q1), .second, .val (.int p2), .val (.int p3), .val (.int (Int32.ofNat t)), .val (.ref b1), .unset, .unset, .unset, .unset, .unset, .unset, .unset, .unset, .unset] [(.ref b2), (.ref b2)]))
  refine Go.step (fun _ k => XS.bipush X33.here hx rfl (hb hby at_113) k) ?_
  show Go FrameEnd p e below s 16 192 (Q0 Z q1 p2 p3 pw h0 n0) (T33.setTop (mkF m 115 #[.val (.long q1), .second, .val (.int p2), .val (.int p3), .val (.int (Int32.ofNat t)), .val (.ref b1), .unset, .unset, .unset, .unset, .unset, .unset, .unset, .unset, .unset] [(.int (15 : Int32)), (.ref b2), (.ref b2)]))
  refine Go.step (X33.ldc2Long hx hown (mvT hZ (hw _ (List.mem_of_getElem? (i := 16) rfl))) (g := (mkF m 115 #[.val (.long q1), .second, .val (.int p2), .val (.int p3), .val (.int (Int32.ofNat t)), .val (.ref b1), .unset, .unset, .unset, .unset, .unset, .unset, .unset, .unset, .unset] [(.int (15 : Int32)), (.ref b2), (.ref b2)])) rfl (hb hby at_115)) ?_
  show Go FrameEnd p e below s 16 192 (Q0 Z q1 p2 p3 pw h0 n0) (T33.setTop (mkF m 118 #[.val (.long q1), .second, .val (.int p2), .val (.int p3), .val (.int (Int32.ofNat t)), .val (.ref b1), .unset, .unset, .unset, .unset, .unset, .unset, .unset, .unset, .unset] [(.long (1000000000000000 : Int64)), (.int (15 : Int32)), (.ref b2), (.ref b2)]))
  obtain ⟨c34, Ac34, Sc34, Mc34, Gc34⟩ := id V33
  obtain ⟨T35, h35, X35, e35, W35, st35⟩ := stJ X33 hx hZ e33 Ac34 (j := (15 : Int32)) (own_in Sc34 (by decide) (by decide)) (g := (mkF m 118 #[.val (.long q1), .second, .val (.int p2), .val (.int p3), .val (.int (Int32.ofNat t)), .val (.ref b1), .unset, .unset, .unset, .unset, .unset, .unset, .unset, .unset, .unset] [(.long (1000000000000000 : Int64)), (.int (15 : Int32)), (.ref b2), (.ref b2)])) rfl rfl (hb hby at_118)
  refine Go.step st35 ?_
  have N35 := Fr.snoc X35 N33 g_b2
  have Z35 : n0 ≤ h35.size := Nat.le_trans Z33 (Keep.of_wr W35).1
  have V35 : Av Z h35 b2 .long 19 (aset (aset (aset (aset (aset (aset (aset (aset (aset (aset (aset (aset (aset (aset (aset (aset (fun _ => (.long (0 : Int64))) 0 (.long (1 : Int64))) 1 (.long (10 : Int64))) 2 (.long (100 : Int64))) 3 (.long (1000 : Int64))) 4 (.long (10000 : Int64))) 5 (.long (100000 : Int64))) 6 (.long (1000000 : Int64))) 7 (.long (10000000 : Int64))) 8 (.long (100000000 : Int64))) 9 (.long (1000000000 : Int64))) 10 (.long (10000000000 : Int64))) 11 (.long (100000000000 : Int64))) 12 (.long (1000000000000 : Int64))) 13 (.long (10000000000000 : Int64))) 14 (.long (100000000000000 : Int64))) 15 (.long (1000000000000000 : Int64))) := Av.set Ac34 Sc34 Mc34 Gc34 W35 (by rfl) (own_in Sc34 (by decide) (by decide))
  show Go FrameEnd p e below s 16 192 (Q0 Z q1 p2 p3 pw h0 n0) (T35.setTop (mkF m 119 #[.val (.long q1), .second, .val (.int p2), .val (.int p3), .val (.int (Int32.ofNat t)), .val (.ref b1), .unset, .unset, .unset, .unset, .unset, .unset, .unset, .unset, .unset] [(.ref b2)]))
  refine Go.step (fun _ k => XS.dup X35.here hx rfl (hb hby at_119) rfl rfl k) ?_
  show Go FrameEnd p e below s 16 192 (Q0 Z q1 p2 p3 pw h0 n0) (T35.setTop (mkF m 120 #[.val (.long q1), .second, .val (.int p2), .val (.int p3), .val (.int (Int32.ofNat t)), .val (.ref b1), .unset, .unset, .unset, .unset, .unset, .unset, .unset, .unset, .unset] [(.ref b2), (.ref b2)]))
  refine Go.step (fun _ k => XS.bipush X35.here hx rfl (hb hby at_120) k) ?_
  show Go FrameEnd p e below s 16 192 (Q0 Z q1 p2 p3 pw h0 n0) (T35.setTop (mkF m 122 #[.val (.long q1), .second, .val (.int p2), .val (.int p3), .val (.int (Int32.ofNat t)), .val (.ref b1), .unset, .unset, .unset, .unset, .unset, .unset, .unset, .unset, .unset] [(.int (16 : Int32)), (.ref b2), (.ref b2)]))
  refine Go.step (X35.ldc2Long hx hown (mvT hZ (hw _ (List.mem_of_getElem? (i := 17) rfl))) (g := (mkF m 122 #[.val (.long q1), .second, .val (.int p2), .val (.int p3), .val (.int (Int32.ofNat t)), .val (.ref b1), .unset, .unset, .unset, .unset, .unset, .unset, .unset, .unset, .unset] [(.int (16 : Int32)), (.ref b2), (.ref b2)])) rfl (hb hby at_122)) ?_
  show Go FrameEnd p e below s 16 192 (Q0 Z q1 p2 p3 pw h0 n0) (T35.setTop (mkF m 125 #[.val (.long q1), .second, .val (.int p2), .val (.int p3), .val (.int (Int32.ofNat t)), .val (.ref b1), .unset, .unset, .unset, .unset, .unset, .unset, .unset, .unset, .unset] [(.long (10000000000000000 : Int64)), (.int (16 : Int32)), (.ref b2), (.ref b2)]))
  obtain ⟨c36, Ac36, Sc36, Mc36, Gc36⟩ := id V35
  obtain ⟨T37, h37, X37, e37, W37, st37⟩ := stJ X35 hx hZ e35 Ac36 (j := (16 : Int32)) (own_in Sc36 (by decide) (by decide)) (g := (mkF m 125 #[.val (.long q1), .second, .val (.int p2), .val (.int p3), .val (.int (Int32.ofNat t)), .val (.ref b1), .unset, .unset, .unset, .unset, .unset, .unset, .unset, .unset, .unset] [(.long (10000000000000000 : Int64)), (.int (16 : Int32)), (.ref b2), (.ref b2)])) rfl rfl (hb hby at_125)
  refine Go.step st37 ?_
  have N37 := Fr.snoc X37 N35 g_b2
  have Z37 : n0 ≤ h37.size := Nat.le_trans Z35 (Keep.of_wr W37).1
  have V37 : Av Z h37 b2 .long 19 (aset (aset (aset (aset (aset (aset (aset (aset (aset (aset (aset (aset (aset (aset (aset (aset (aset (fun _ => (.long (0 : Int64))) 0 (.long (1 : Int64))) 1 (.long (10 : Int64))) 2 (.long (100 : Int64))) 3 (.long (1000 : Int64))) 4 (.long (10000 : Int64))) 5 (.long (100000 : Int64))) 6 (.long (1000000 : Int64))) 7 (.long (10000000 : Int64))) 8 (.long (100000000 : Int64))) 9 (.long (1000000000 : Int64))) 10 (.long (10000000000 : Int64))) 11 (.long (100000000000 : Int64))) 12 (.long (1000000000000 : Int64))) 13 (.long (10000000000000 : Int64))) 14 (.long (100000000000000 : Int64))) 15 (.long (1000000000000000 : Int64))) 16 (.long (10000000000000000 : Int64))) := Av.set Ac36 Sc36 Mc36 Gc36 W37 (by rfl) (own_in Sc36 (by decide) (by decide))
  show Go FrameEnd p e below s 16 192 (Q0 Z q1 p2 p3 pw h0 n0) (T37.setTop (mkF m 126 #[.val (.long q1), .second, .val (.int p2), .val (.int p3), .val (.int (Int32.ofNat t)), .val (.ref b1), .unset, .unset, .unset, .unset, .unset, .unset, .unset, .unset, .unset] [(.ref b2)]))
  refine Go.step (fun _ k => XS.dup X37.here hx rfl (hb hby at_126) rfl rfl k) ?_
  show Go FrameEnd p e below s 16 192 (Q0 Z q1 p2 p3 pw h0 n0) (T37.setTop (mkF m 127 #[.val (.long q1), .second, .val (.int p2), .val (.int p3), .val (.int (Int32.ofNat t)), .val (.ref b1), .unset, .unset, .unset, .unset, .unset, .unset, .unset, .unset, .unset] [(.ref b2), (.ref b2)]))
  refine Go.step (fun _ k => XS.bipush X37.here hx rfl (hb hby at_127) k) ?_
  show Go FrameEnd p e below s 16 192 (Q0 Z q1 p2 p3 pw h0 n0) (T37.setTop (mkF m 129 #[.val (.long q1), .second, .val (.int p2), .val (.int p3), .val (.int (Int32.ofNat t)), .val (.ref b1), .unset, .unset, .unset, .unset, .unset, .unset, .unset, .unset, .unset] [(.int (17 : Int32)), (.ref b2), (.ref b2)]))
  refine Go.step (X37.ldc2Long hx hown (mvT hZ (hw _ (List.mem_of_getElem? (i := 18) rfl))) (g := (mkF m 129 #[.val (.long q1), .second, .val (.int p2), .val (.int p3), .val (.int (Int32.ofNat t)), .val (.ref b1), .unset, .unset, .unset, .unset, .unset, .unset, .unset, .unset, .unset] [(.int (17 : Int32)), (.ref b2), (.ref b2)])) rfl (hb hby at_129)) ?_
  show Go FrameEnd p e below s 16 192 (Q0 Z q1 p2 p3 pw h0 n0) (T37.setTop (mkF m 132 #[.val (.long q1), .second, .val (.int p2), .val (.int p3), .val (.int (Int32.ofNat t)), .val (.ref b1), .unset, .unset, .unset, .unset, .unset, .unset, .unset, .unset, .unset] [(.long (100000000000000000 : Int64)), (.int (17 : Int32)), (.ref b2), (.ref b2)]))
  obtain ⟨c38, Ac38, Sc38, Mc38, Gc38⟩ := id V37
  obtain ⟨T39, h39, X39, e39, W39, st39⟩ := stJ X37 hx hZ e37 Ac38 (j := (17 : Int32)) (own_in Sc38 (by decide) (by decide)) (g := (mkF m 132 #[.val (.long q1), .second, .val (.int p2), .val (.int p3), .val (.int (Int32.ofNat t)), .val (.ref b1), .unset, .unset, .unset, .unset, .unset, .unset, .unset, .unset, .unset] [(.long (100000000000000000 : Int64)), (.int (17 : Int32)), (.ref b2), (.ref b2)])) rfl rfl (hb hby at_132)
  refine Go.step st39 ?_
  have N39 := Fr.snoc X39 N37 g_b2
  have Z39 : n0 ≤ h39.size := Nat.le_trans Z37 (Keep.of_wr W39).1
  have V39 : Av Z h39 b2 .long 19 (aset (aset (aset (aset (aset (aset (aset (aset (aset (aset (aset (aset (aset (aset (aset (aset (aset (aset (fun _ => (.long (0 : Int64))) 0 (.long (1 : Int64))) 1 (.long (10 : Int64))) 2 (.long (100 : Int64))) 3 (.long (1000 : Int64))) 4 (.long (10000 : Int64))) 5 (.long (100000 : Int64))) 6 (.long (1000000 : Int64))) 7 (.long (10000000 : Int64))) 8 (.long (100000000 : Int64))) 9 (.long (1000000000 : Int64))) 10 (.long (10000000000 : Int64))) 11 (.long (100000000000 : Int64))) 12 (.long (1000000000000 : Int64))) 13 (.long (10000000000000 : Int64))) 14 (.long (100000000000000 : Int64))) 15 (.long (1000000000000000 : Int64))) 16 (.long (10000000000000000 : Int64))) 17 (.long (100000000000000000 : Int64))) := Av.set Ac38 Sc38 Mc38 Gc38 W39 (by rfl) (own_in Sc38 (by decide) (by decide))
  show Go FrameEnd p e below s 16 192 (Q0 Z q1 p2 p3 pw h0 n0) (T39.setTop (mkF m 133 #[.val (.long q1), .second, .val (.int p2), .val (.int p3), .val (.int (Int32.ofNat t)), .val (.ref b1), .unset, .unset, .unset, .unset, .unset, .unset, .unset, .unset, .unset] [(.ref b2)]))
  refine Go.step (fun _ k => XS.dup X39.here hx rfl (hb hby at_133) rfl rfl k) ?_
  show Go FrameEnd p e below s 16 192 (Q0 Z q1 p2 p3 pw h0 n0) (T39.setTop (mkF m 134 #[.val (.long q1), .second, .val (.int p2), .val (.int p3), .val (.int (Int32.ofNat t)), .val (.ref b1), .unset, .unset, .unset, .unset, .unset, .unset, .unset, .unset, .unset] [(.ref b2), (.ref b2)]))
  refine Go.step (fun _ k => XS.bipush X39.here hx rfl (hb hby at_134) k) ?_
  show Go FrameEnd p e below s 16 192 (Q0 Z q1 p2 p3 pw h0 n0) (T39.setTop (mkF m 136 #[.val (.long q1), .second, .val (.int p2), .val (.int p3), .val (.int (Int32.ofNat t)), .val (.ref b1), .unset, .unset, .unset, .unset, .unset, .unset, .unset, .unset, .unset] [(.int (18 : Int32)), (.ref b2), (.ref b2)]))
  refine Go.step (X39.ldc2Long hx hown (mvT hZ (hw _ (List.mem_of_getElem? (i := 19) rfl))) (g := (mkF m 136 #[.val (.long q1), .second, .val (.int p2), .val (.int p3), .val (.int (Int32.ofNat t)), .val (.ref b1), .unset, .unset, .unset, .unset, .unset, .unset, .unset, .unset, .unset] [(.int (18 : Int32)), (.ref b2), (.ref b2)])) rfl (hb hby at_136)) ?_
  show Go FrameEnd p e below s 16 192 (Q0 Z q1 p2 p3 pw h0 n0) (T39.setTop (mkF m 139 #[.val (.long q1), .second, .val (.int p2), .val (.int p3), .val (.int (Int32.ofNat t)), .val (.ref b1), .unset, .unset, .unset, .unset, .unset, .unset, .unset, .unset, .unset] [(.long (1000000000000000000 : Int64)), (.int (18 : Int32)), (.ref b2), (.ref b2)]))
  obtain ⟨c40, Ac40, Sc40, Mc40, Gc40⟩ := id V39
  obtain ⟨T41, h41, X41, e41, W41, st41⟩ := stJ X39 hx hZ e39 Ac40 (j := (18 : Int32)) (own_in Sc40 (by decide) (by decide)) (g := (mkF m 139 #[.val (.long q1), .second, .val (.int p2), .val (.int p3), .val (.int (Int32.ofNat t)), .val (.ref b1), .unset, .unset, .unset, .unset, .unset, .unset, .unset, .unset, .unset] [(.long (1000000000000000000 : Int64)), (.int (18 : Int32)), (.ref b2), (.ref b2)])) rfl rfl (hb hby at_139)
  refine Go.step st41 ?_
  have N41 := Fr.snoc X41 N39 g_b2
  have Z41 : n0 ≤ h41.size := Nat.le_trans Z39 (Keep.of_wr W41).1
  have V41 : Av Z h41 b2 .long 19 (aset (aset (aset (aset (aset (aset (aset (aset (aset (aset (aset (aset (aset (aset (aset (aset (aset (aset (aset (fun _ => (.long (0 : Int64))) 0 (.long (1 : Int64))) 1 (.long (10 : Int64))) 2 (.long (100 : Int64))) 3 (.long (1000 : Int64))) 4 (.long (10000 : Int64))) 5 (.long (100000 : Int64))) 6 (.long (1000000 : Int64))) 7 (.long (10000000 : Int64))) 8 (.long (100000000 : Int64))) 9 (.long (1000000000 : Int64))) 10 (.long (10000000000 : Int64))) 11 (.long (100000000000 : Int64))) 12 (.long (1000000000000 : Int64))) 13 (.long (10000000000000 : Int64))) 14 (.long (100000000000000 : Int64))) 15 (.long (1000000000000000 : Int64))) 16 (.long (10000000000000000 : Int64))) 17 (.long (100000000000000000 : Int64))) 18 (.long (1000000000000000000 : Int64))) := Av.set Ac40 Sc40 Mc40 Gc40 W41 (by rfl) (own_in Sc40 (by decide) (by decide))
  have V41 : Av Z h41 b2 .long 19 (fun j => .long (Int64.ofNat (p10 j))) := V41.eq own_pl
  show Go FrameEnd p e below s 16 192 (Q0 Z q1 p2 p3 pw h0 n0) (T41.setTop (mkF m 140 #[.val (.long q1), .second, .val (.int p2), .val (.int p3), .val (.int (Int32.ofNat t)), .val (.ref b1), .unset, .unset, .unset, .unset, .unset, .unset, .unset, .unset, .unset] [(.ref b2)]))
  refine Go.step (fun _ k => XS.astore X41.here hx rfl (hb hby at_140) rfl rfl (l' := #[.val (.long q1), .second, .val (.int p2), .val (.int p3), .val (.int (Int32.ofNat t)), .val (.ref b1), .val (.ref b2), .unset, .unset, .unset, .unset, .unset, .unset, .unset, .unset]) rfl k) ?_
  show Go FrameEnd p e below s 16 192 (Q0 Z q1 p2 p3 pw h0 n0) (T41.setTop (mkF m 142 #[.val (.long q1), .second, .val (.int p2), .val (.int p3), .val (.int (Int32.ofNat t)), .val (.ref b1), .val (.ref b2), .unset, .unset, .unset, .unset, .unset, .unset, .unset, .unset] []))
  refine Go.step (fun _ k => XS.lloadN X41.here hx rfl (hb hby at_142) rfl k) ?_
  show Go FrameEnd p e below s 16 192 (Q0 Z q1 p2 p3 pw h0 n0) (T41.setTop (mkF m 143 #[.val (.long q1), .second, .val (.int p2), .val (.int p3), .val (.int (Int32.ofNat t)), .val (.ref b1), .val (.ref b2), .unset, .unset, .unset, .unset, .unset, .unset, .unset, .unset] [(.long q1)]))
  refine Go.step (fun _ k => XS.aload X41.here hx rfl (hb hby at_143) rfl rfl k) ?_
  show Go FrameEnd p e below s 16 192 (Q0 Z q1 p2 p3 pw h0 n0) (T41.setTop (mkF m 145 #[.val (.long q1), .second, .val (.int p2), .val (.int p3), .val (.int (Int32.ofNat t)), .val (.ref b1), .val (.ref b2), .unset, .unset, .unset, .unset, .unset, .unset, .unset, .unset] [(.ref b1), (.long q1)]))
  refine Go.step (fun _ k => XS.iload X41.here hx rfl (hb hby at_145) rfl k) ?_
  show Go FrameEnd p e below s 16 192 (Q0 Z q1 p2 p3 pw h0 n0) (T41.setTop (mkF m 147 #[.val (.long q1), .second, .val (.int p2), .val (.int p3), .val (.int (Int32.ofNat t)), .val (.ref b1), .val (.ref b2), .unset, .unset, .unset, .unset, .unset, .unset, .unset, .unset] [(.int (Int32.ofNat t)), (.ref b1), (.long q1)]))
  have f_42 := (((((((((((((((((((((S_POWERS_OF_TEN.ext E1).ext E2).wr W5).wr W7).wr W9).wr W11).wr W13).wr W15).wr W17).wr W19).wr W21).wr W23).wr W25).wr W27).wr W29).wr W31).wr W33).wr W35).wr W37).wr W39).wr W41)
  have f_43 := ((((((((((((((((((((f_3.ext E2).other W5 ne_pw_b2).other W7 ne_pw_b2).other W9 ne_pw_b2).other W11 ne_pw_b2).other W13 ne_pw_b2).other W15 ne_pw_b2).other W17 ne_pw_b2).other W19 ne_pw_b2).other W21 ne_pw_b2).other W23 ne_pw_b2).other W25 ne_pw_b2).other W27 ne_pw_b2).other W29 ne_pw_b2).other W31 ne_pw_b2).other W33 ne_pw_b2).other W35 ne_pw_b2).other W37 ne_pw_b2).other W39 ne_pw_b2).other W41 ne_pw_b2)
  have f_44 := ((((((((((((((((((((V1.ext E2).other W5 ne_b1_b2).other W7 ne_b1_b2).other W9 ne_b1_b2).other W11 ne_b1_b2).other W13 ne_b1_b2).other W15 ne_b1_b2).other W17 ne_b1_b2).other W19 ne_b1_b2).other W21 ne_b1_b2).other W23 ne_b1_b2).other W25 ne_b1_b2).other W27 ne_b1_b2).other W29 ne_b1_b2).other W31 ne_b1_b2).other W33 ne_b1_b2).other W35 ne_b1_b2).other W37 ne_b1_b2).other W39 ne_b1_b2).other W41 ne_b1_b2)
  obtain ⟨_, _, ⟨T45, L45, k45, n45⟩, -, X45, ⟨Lc45, hQ45, l45, y45, z45⟩, st45⟩ := Jvm.LawKit.callS X41 hx (y := (⟨"com/example/quotewire/quotewire/codec/Decimal", "write", "(J[BI)I"⟩ : MethodName)) hown (mvT hZ (hw _ (List.mem_of_getElem? (i := 20) rfl))) (mvT hZ (hw _ (List.mem_of_getElem? (i := 21) rfl))) (mvT hZ (hw _ (List.mem_of_getElem? (i := 22) rfl))) (mvT hZ (hw _ (List.mem_of_getElem? (i := 23) rfl))) (by decide) (backOf (W := 0) (rm1 l Z a0 hw [] q1 b1 t pw h41 n0 Z41 f_42 f_43 f_44 g_b1 ht ne_pw_b1) hZ (hw _ (List.mem_of_getElem? (i := 23) rfl)) (hw _ (List.mem_of_getElem? (i := 22) rfl)) (by decide) (by decide)) (g := (mkF m 147 #[.val (.long q1), .second, .val (.int p2), .val (.int p3), .val (.int (Int32.ofNat t)), .val (.ref b1), .val (.ref b2), .unset, .unset, .unset, .unset, .unset, .unset, .unset, .unset] [(.int (Int32.ofNat t)), (.ref b1), (.long q1)])) rfl (by rw [hml]; rfl) (argsL := [(.long q1), (.ref b1), (.int (Int32.ofNat t))]) (rest := []) (lenOf pd__J_BI_I rfl) rfl (by show 2 * 0 + _ ≤ _; exact Nat.le_of_eq rfl) (hb hby at_147) (fun _ _ => ⟨rfl, e41, (by decide : 2 + 0 ≤ _), (by decide : 43 + 0 ≤ _)⟩)
  dsimp only [Pt.U, Pt.locs, Pt.cells, Pt.slots] at X45 l45 y45 z45 st45 hQ45
  subst l45 y45 z45
  obtain ⟨rfl, N45q, K45_0, xA45_1⟩ := hQ45
  have N45 := Fr.app N41 N45q
  have Z45 : n0 ≤ T45.heap.size := Nat.le_trans Z41 K45_0.1
  refine Go.step st45 ?_
  show Go FrameEnd p e below s 16 192 (Q0 Z q1 p2 p3 pw h0 n0) (T45.setTop (mkF m 150 #[.val (.long q1), .second, .val (.int p2), .val (.int p3), .val (.int (Int32.ofNat t)), .val (.ref b1), .val (.ref b2), .unset, .unset, .unset, .unset, .unset, .unset, .unset, .unset] [(.int (Int32.ofNat (t + sg q1 + nd (mg q1))))]))
  obtain ⟨d, ed⟩ : ∃ d, d = nd (mg q1) := ⟨_, rfl⟩
  have hD : Dg (mg q1) d := by rw [ed]; exact nd_Dg (mg_le q1)
  have hd1 := hD.1
  have hd2 := hD.2.1
  have hM9 := mg_le q1
  have hsgl : sg q1 ≤ 1 := by unfold sg; split <;> omega
  rw [← ed]
  show Go FrameEnd p e below s 16 192 (Q0 Z q1 p2 p3 pw h0 n0) (T45.setTop (mkF m 150 #[.val (.long q1), .second, .val (.int p2), .val (.int p3), .val (.int (Int32.ofNat t)), .val (.ref b1), .val (.ref b2), .unset, .unset, .unset, .unset, .unset, .unset, .unset, .unset] [(.int (Int32.ofNat (t + sg q1 + d)))]))
  refine Go.step (fun _ k => XS.istore X45.here hx rfl (hb hby at_150) rfl (l' := #[.val (.long q1), .second, .val (.int p2), .val (.int p3), .val (.int (Int32.ofNat t)), .val (.ref b1), .val (.ref b2), .val (.int (Int32.ofNat (t + sg q1 + d))), .unset, .unset, .unset, .unset, .unset, .unset, .unset]) rfl k) ?_
  show Go FrameEnd p e below s 16 192 (Q0 Z q1 p2 p3 pw h0 n0) (T45.setTop (mkF m 152 #[.val (.long q1), .second, .val (.int p2), .val (.int p3), .val (.int (Int32.ofNat t)), .val (.ref b1), .val (.ref b2), .val (.int (Int32.ofNat (t + sg q1 + d))), .unset, .unset, .unset, .unset, .unset, .unset, .unset] []))
  refine Go.step (fun _ k => XS.lloadN X45.here hx rfl (hb hby at_152) rfl k) ?_
  show Go FrameEnd p e below s 16 192 (Q0 Z q1 p2 p3 pw h0 n0) (T45.setTop (mkF m 153 #[.val (.long q1), .second, .val (.int p2), .val (.int p3), .val (.int (Int32.ofNat t)), .val (.ref b1), .val (.ref b2), .val (.int (Int32.ofNat (t + sg q1 + d))), .unset, .unset, .unset, .unset, .unset, .unset, .unset] [(.long q1)]))
  refine Go.step (fun _ k => XS.lconst X45.here hx rfl (hb hby at_153) k) ?_
  show Go FrameEnd p e below s 16 192 (Q0 Z q1 p2 p3 pw h0 n0) (T45.setTop (mkF m 154 #[.val (.long q1), .second, .val (.int p2), .val (.int p3), .val (.int (Int32.ofNat t)), .val (.ref b1), .val (.ref b2), .val (.int (Int32.ofNat (t + sg q1 + d))), .unset, .unset, .unset, .unset, .unset, .unset, .unset] [(.long (0 : Int64)), (.long q1)]))
  refine Go.step (fun _ k => XS.lcmp X45.here hx rfl (hb hby at_154) rfl k) ?_
  show Go FrameEnd p e below s 16 192 (Q0 Z q1 p2 p3 pw h0 n0) (T45.setTop (mkF m 155 #[.val (.long q1), .second, .val (.int p2), .val (.int p3), .val (.int (Int32.ofNat t)), .val (.ref b1), .val (.ref b2), .val (.int (Int32.ofNat (t + sg q1 + d))), .unset, .unset, .unset, .unset, .unset, .unset, .unset] [(.int (lcmpW q1 (0 : Int64)))]))
  by_cases hc155 : q1 < (0 : Int64)
  · skip
    refine Go.step (fun _ k => XS.ifNo X45.here hx rfl (hb hby at_155) rfl ((if0 _ _).trans (tlt ((lw_lt _ _).mpr hc155)).2.1) k) ?_
    show Go FrameEnd p e below s 16 192 (Q0 Z q1 p2 p3 pw h0 n0) (T45.setTop (mkF m 158 #[.val (.long q1), .second, .val (.int p2), .val (.int p3), .val (.int (Int32.ofNat t)), .val (.ref b1), .val (.ref b2), .val (.int (Int32.ofNat (t + sg q1 + d))), .unset, .unset, .unset, .unset, .unset, .unset, .unset] []))
    refine Go.step (fun _ k => XS.iconst X45.here hx rfl (hb hby at_158) k) ?_
    show Go FrameEnd p e below s 16 192 (Q0 Z q1 p2 p3 pw h0 n0) (T45.setTop (mkF m 159 #[.val (.long q1), .second, .val (.int p2), .val (.int p3), .val (.int (Int32.ofNat t)), .val (.ref b1), .val (.ref b2), .val (.int (Int32.ofNat (t + sg q1 + d))), .unset, .unset, .unset, .unset, .unset, .unset, .unset] [(.int (1 : Int32))]))
    refine Go.step (fun _ k => XS.goto X45.here hx rfl (pc0 := 159) (pc' := 163) rfl (hb hby at_159) (by decide) (by decide) k) ?_
    show Go FrameEnd p e below s 16 192 (Q0 Z q1 p2 p3 pw h0 n0) (T45.setTop (mkF m 163 #[.val (.long q1), .second, .val (.int p2), .val (.int p3), .val (.int (Int32.ofNat t)), .val (.ref b1), .val (.ref b2), .val (.int (Int32.ofNat (t + sg q1 + d))), .unset, .unset, .unset, .unset, .unset, .unset, .unset] [(.int (1 : Int32))]))
    have hsg : sg q1 = 1 := by unfold sg; rw [if_pos hc155]
    have hq : q1 = ng (mg q1) := mg_neg hc155
    refine Go.step (fun _ k => XS.istore X45.here hx rfl (hb hby at_163) rfl (l' := #[.val (.long q1), .second, .val (.int p2), .val (.int p3), .val (.int (Int32.ofNat t)), .val (.ref b1), .val (.ref b2), .val (.int (Int32.ofNat (t + sg q1 + d))), .val (.int (1 : Int32)), .unset, .unset, .unset, .unset, .unset, .unset]) rfl k) ?_
    show Go FrameEnd p e below s 16 192 (Q0 Z q1 p2 p3 pw h0 n0) (T45.setTop (mkF m 165 #[.val (.long q1), .second, .val (.int p2), .val (.int p3), .val (.int (Int32.ofNat t)), .val (.ref b1), .val (.ref b2), .val (.int (Int32.ofNat (t + sg q1 + d))), .val (.int (1 : Int32)), .unset, .unset, .unset, .unset, .unset, .unset] []))
    refine Go.step (fun _ k => XS.iload X45.here hx rfl (hb hby at_165) rfl k) ?_
    show Go FrameEnd p e below s 16 192 (Q0 Z q1 p2 p3 pw h0 n0) (T45.setTop (mkF m 167 #[.val (.long q1), .second, .val (.int p2), .val (.int p3), .val (.int (Int32.ofNat t)), .val (.ref b1), .val (.ref b2), .val (.int (Int32.ofNat (t + sg q1 + d))), .val (.int (1 : Int32)), .unset, .unset, .unset, .unset, .unset, .unset] [(.int (Int32.ofNat (t + sg q1 + d)))]))
    refine Go.step (fun _ k => XS.iload X45.here hx rfl (hb hby at_167) rfl k) ?_
    show Go FrameEnd p e below s 16 192 (Q0 Z q1 p2 p3 pw h0 n0) (T45.setTop (mkF m 169 #[.val (.long q1), .second, .val (.int p2), .val (.int p3), .val (.int (Int32.ofNat t)), .val (.ref b1), .val (.ref b2), .val (.int (Int32.ofNat (t + sg q1 + d))), .val (.int (1 : Int32)), .unset, .unset, .unset, .unset, .unset, .unset] [(.int (Int32.ofNat t)), (.int (Int32.ofNat (t + sg q1 + d)))]))
    refine Go.step (fun _ k => XS.isub X45.here hx rfl (hb hby at_169) rfl k) ?_
    show Go FrameEnd p e below s 16 192 (Q0 Z q1 p2 p3 pw h0 n0) (T45.setTop (mkF m 170 #[.val (.long q1), .second, .val (.int p2), .val (.int p3), .val (.int (Int32.ofNat t)), .val (.ref b1), .val (.ref b2), .val (.int (Int32.ofNat (t + sg q1 + d))), .val (.int (1 : Int32)), .unset, .unset, .unset, .unset, .unset, .unset] [(.int ((Int32.ofNat (t + sg q1 + d)) - (Int32.ofNat t)))]))
    refine Go.step (fun _ k => XS.iload X45.here hx rfl (hb hby at_170) rfl k) ?_
    show Go FrameEnd p e below s 16 192 (Q0 Z q1 p2 p3 pw h0 n0) (T45.setTop (mkF m 172 #[.val (.long q1), .second, .val (.int p2), .val (.int p3), .val (.int (Int32.ofNat t)), .val (.ref b1), .val (.ref b2), .val (.int (Int32.ofNat (t + sg q1 + d))), .val (.int (1 : Int32)), .unset, .unset, .unset, .unset, .unset, .unset] [(.int (1 : Int32)), (.int ((Int32.ofNat (t + sg q1 + d)) - (Int32.ofNat t)))]))
    refine Go.step (fun _ k => XS.isub X45.here hx rfl (hb hby at_172) rfl k) ?_
    show Go FrameEnd p e below s 16 192 (Q0 Z q1 p2 p3 pw h0 n0) (T45.setTop (mkF m 173 #[.val (.long q1), .second, .val (.int p2), .val (.int p3), .val (.int (Int32.ofNat t)), .val (.ref b1), .val (.ref b2), .val (.int (Int32.ofNat (t + sg q1 + d))), .val (.int (1 : Int32)), .unset, .unset, .unset, .unset, .unset, .unset] [(.int (((Int32.ofNat (t + sg q1 + d)) - (Int32.ofNat t)) - (1 : Int32)))]))
    rw [show (((Int32.ofNat (t + sg q1 + d)) - (Int32.ofNat t)) - (1 : Int32)) = Int32.ofNat d from by have := own_len (t := t) (s := sg q1) (d := d) (by omega); rw [hsg] at this ⊢; exact this]
    show Go FrameEnd p e below s 16 192 (Q0 Z q1 p2 p3 pw h0 n0) (T45.setTop (mkF m 173 #[.val (.long q1), .second, .val (.int p2), .val (.int p3), .val (.int (Int32.ofNat t)), .val (.ref b1), .val (.ref b2), .val (.int (Int32.ofNat (t + sg q1 + d))), .val (.int (1 : Int32)), .unset, .unset, .unset, .unset, .unset, .unset] [(.int (Int32.ofNat d))]))
    refine Go.step (fun _ k => XS.istore X45.here hx rfl (hb hby at_173) rfl (l' := #[.val (.long q1), .second, .val (.int p2), .val (.int p3), .val (.int (Int32.ofNat t)), .val (.ref b1), .val (.ref b2), .val (.int (Int32.ofNat (t + sg q1 + d))), .val (.int (1 : Int32)), .val (.int (Int32.ofNat d)), .unset, .unset, .unset, .unset, .unset]) rfl k) ?_
    show Go FrameEnd p e below s 16 192 (Q0 Z q1 p2 p3 pw h0 n0) (T45.setTop (mkF m 175 #[.val (.long q1), .second, .val (.int p2), .val (.int p3), .val (.int (Int32.ofNat t)), .val (.ref b1), .val (.ref b2), .val (.int (Int32.ofNat (t + sg q1 + d))), .val (.int (1 : Int32)), .val (.int (Int32.ofNat d)), .unset, .unset, .unset, .unset, .unset] []))
    refine Go.step (fun _ k => XS.iload X45.here hx rfl (hb hby at_175) rfl k) ?_
    show Go FrameEnd p e below s 16 192 (Q0 Z q1 p2 p3 pw h0 n0) (T45.setTop (mkF m 177 #[.val (.long q1), .second, .val (.int p2), .val (.int p3), .val (.int (Int32.ofNat t)), .val (.ref b1), .val (.ref b2), .val (.int (Int32.ofNat (t + sg q1 + d))), .val (.int (1 : Int32)), .val (.int (Int32.ofNat d)), .unset, .unset, .unset, .unset, .unset] [(.int (Int32.ofNat d))]))
    refine Go.step (fun _ k => XS.iconst X45.here hx rfl (hb hby at_177) k) ?_
    show Go FrameEnd p e below s 16 192 (Q0 Z q1 p2 p3 pw h0 n0) (T45.setTop (mkF m 178 #[.val (.long q1), .second, .val (.int p2), .val (.int p3), .val (.int (Int32.ofNat t)), .val (.ref b1), .val (.ref b2), .val (.int (Int32.ofNat (t + sg q1 + d))), .val (.int (1 : Int32)), .val (.int (Int32.ofNat d)), .unset, .unset, .unset, .unset, .unset] [(.int (1 : Int32)), (.int (Int32.ofNat d))]))
    refine Go.step (fun _ k => XS.icmpNo X45.here hx rfl (hb hby at_178) rfl (flt (mt (own_lt (j := 1) (by omega) (by omega)).mp (by omega))).1 k) ?_
    show Go FrameEnd p e below s 16 192 (Q0 Z q1 p2 p3 pw h0 n0) (T45.setTop (mkF m 181 #[.val (.long q1), .second, .val (.int p2), .val (.int p3), .val (.int (Int32.ofNat t)), .val (.ref b1), .val (.ref b2), .val (.int (Int32.ofNat (t + sg q1 + d))), .val (.int (1 : Int32)), .val (.int (Int32.ofNat d)), .unset, .unset, .unset, .unset, .unset] []))
    refine Go.step (fun _ k => XS.iload X45.here hx rfl (hb hby at_181) rfl k) ?_
    show Go FrameEnd p e below s 16 192 (Q0 Z q1 p2 p3 pw h0 n0) (T45.setTop (mkF m 183 #[.val (.long q1), .second, .val (.int p2), .val (.int p3), .val (.int (Int32.ofNat t)), .val (.ref b1), .val (.ref b2), .val (.int (Int32.ofNat (t + sg q1 + d))), .val (.int (1 : Int32)), .val (.int (Int32.ofNat d)), .unset, .unset, .unset, .unset, .unset] [(.int (Int32.ofNat d))]))
    refine Go.step (fun _ k => XS.bipush X45.here hx rfl (hb hby at_183) k) ?_
    show Go FrameEnd p e below s 16 192 (Q0 Z q1 p2 p3 pw h0 n0) (T45.setTop (mkF m 185 #[.val (.long q1), .second, .val (.int p2), .val (.int p3), .val (.int (Int32.ofNat t)), .val (.ref b1), .val (.ref b2), .val (.int (Int32.ofNat (t + sg q1 + d))), .val (.int (1 : Int32)), .val (.int (Int32.ofNat d)), .unset, .unset, .unset, .unset, .unset] [(.int (19 : Int32)), (.int (Int32.ofNat d))]))
    refine Go.step (fun _ k => XS.icmpYes X45.here hx rfl (pc0 := 185) (pc' := 190) rfl (hb hby at_185) rfl (flt (mt (own_lt (i := 19) (by omega) (by omega)).mp (by omega))).2.2.2 (by decide) (by decide) k) ?_
    show Go FrameEnd p e below s 16 192 (Q0 Z q1 p2 p3 pw h0 n0) (T45.setTop (mkF m 190 #[.val (.long q1), .second, .val (.int p2), .val (.int p3), .val (.int (Int32.ofNat t)), .val (.ref b1), .val (.ref b2), .val (.int (Int32.ofNat (t + sg q1 + d))), .val (.int (1 : Int32)), .val (.int (Int32.ofNat d)), .unset, .unset, .unset, .unset, .unset] []))
    refine Go.step (fun _ k => XS.lloadN X45.here hx rfl (hb hby at_190) rfl k) ?_
    show Go FrameEnd p e below s 16 192 (Q0 Z q1 p2 p3 pw h0 n0) (T45.setTop (mkF m 191 #[.val (.long q1), .second, .val (.int p2), .val (.int p3), .val (.int (Int32.ofNat t)), .val (.ref b1), .val (.ref b2), .val (.int (Int32.ofNat (t + sg q1 + d))), .val (.int (1 : Int32)), .val (.int (Int32.ofNat d)), .unset, .unset, .unset, .unset, .unset] [(.long q1)]))
    refine Go.step (fun _ k => XS.lconst X45.here hx rfl (hb hby at_191) k) ?_
    show Go FrameEnd p e below s 16 192 (Q0 Z q1 p2 p3 pw h0 n0) (T45.setTop (mkF m 192 #[.val (.long q1), .second, .val (.int p2), .val (.int p3), .val (.int (Int32.ofNat t)), .val (.ref b1), .val (.ref b2), .val (.int (Int32.ofNat (t + sg q1 + d))), .val (.int (1 : Int32)), .val (.int (Int32.ofNat d)), .unset, .unset, .unset, .unset, .unset] [(.long (0 : Int64)), (.long q1)]))
    refine Go.step (fun _ k => XS.lcmp X45.here hx rfl (hb hby at_192) rfl k) ?_
    show Go FrameEnd p e below s 16 192 (Q0 Z q1 p2 p3 pw h0 n0) (T45.setTop (mkF m 193 #[.val (.long q1), .second, .val (.int p2), .val (.int p3), .val (.int (Int32.ofNat t)), .val (.ref b1), .val (.ref b2), .val (.int (Int32.ofNat (t + sg q1 + d))), .val (.int (1 : Int32)), .val (.int (Int32.ofNat d)), .unset, .unset, .unset, .unset, .unset] [(.int (lcmpW q1 (0 : Int64)))]))
    refine Go.step (fun _ k => XS.ifNo X45.here hx rfl (hb hby at_193) rfl ((if0 _ _).trans (tlt ((lw_lt _ _).mpr hc155)).2.1) k) ?_
    show Go FrameEnd p e below s 16 192 (Q0 Z q1 p2 p3 pw h0 n0) (T45.setTop (mkF m 196 #[.val (.long q1), .second, .val (.int p2), .val (.int p3), .val (.int (Int32.ofNat t)), .val (.ref b1), .val (.ref b2), .val (.int (Int32.ofNat (t + sg q1 + d))), .val (.int (1 : Int32)), .val (.int (Int32.ofNat d)), .unset, .unset, .unset, .unset, .unset] []))
    refine Go.step (fun _ k => XS.lloadN X45.here hx rfl (hb hby at_196) rfl k) ?_
    show Go FrameEnd p e below s 16 192 (Q0 Z q1 p2 p3 pw h0 n0) (T45.setTop (mkF m 197 #[.val (.long q1), .second, .val (.int p2), .val (.int p3), .val (.int (Int32.ofNat t)), .val (.ref b1), .val (.ref b2), .val (.int (Int32.ofNat (t + sg q1 + d))), .val (.int (1 : Int32)), .val (.int (Int32.ofNat d)), .unset, .unset, .unset, .unset, .unset] [(.long q1)]))
    refine Go.step (fun _ k => XS.goto X45.here hx rfl (pc0 := 197) (pc' := 202) rfl (hb hby at_197) (by decide) (by decide) k) ?_
    show Go FrameEnd p e below s 16 192 (Q0 Z q1 p2 p3 pw h0 n0) (T45.setTop (mkF m 202 #[.val (.long q1), .second, .val (.int p2), .val (.int p3), .val (.int (Int32.ofNat t)), .val (.ref b1), .val (.ref b2), .val (.int (Int32.ofNat (t + sg q1 + d))), .val (.int (1 : Int32)), .val (.int (Int32.ofNat d)), .unset, .unset, .unset, .unset, .unset] [(.long q1)]))
    refine Go.step (fun _ k => XS.lstore X45.here hx rfl (hb hby at_202) rfl (l' := #[.val (.long q1), .second, .val (.int p2), .val (.int p3), .val (.int (Int32.ofNat t)), .val (.ref b1), .val (.ref b2), .val (.int (Int32.ofNat (t + sg q1 + d))), .val (.int (1 : Int32)), .val (.int (Int32.ofNat d)), .val (.long (ng (mg q1))), .second, .unset, .unset, .unset]) (by rw [← hq]; rfl) k) ?_
    show Go FrameEnd p e below s 16 192 (Q0 Z q1 p2 p3 pw h0 n0) (T45.setTop (mkF m 204 #[.val (.long q1), .second, .val (.int p2), .val (.int p3), .val (.int (Int32.ofNat t)), .val (.ref b1), .val (.ref b2), .val (.int (Int32.ofNat (t + sg q1 + d))), .val (.int (1 : Int32)), .val (.int (Int32.ofNat d)), .val (.long (ng (mg q1))), .second, .unset, .unset, .unset] []))
    have J226_46 : Go FrameEnd p e below s 16 192 (Q0 Z q1 p2 p3 pw h0 n0) (T45.setTop (mkF m 226 #[.val (.long q1), .second, .val (.int p2), .val (.int p3), .val (.int (Int32.ofNat t)), .val (.ref b1), .val (.ref b2), .val (.int (Int32.ofNat (t + sg q1 + d))), .val (.int (1 : Int32)), .val (.int (Int32.ofNat d)), .val (.long (ng (mg q1))), .second, .unset, .unset, .unset] [])) := by
      skip
      show Go FrameEnd p e below s 16 192 (Q0 Z q1 p2 p3 pw h0 n0) (T45.setTop (mkF m 226 #[.val (.long q1), .second, .val (.int p2), .val (.int p3), .val (.int (Int32.ofNat t)), .val (.ref b1), .val (.ref b2), .val (.int (Int32.ofNat (t + sg q1 + d))), .val (.int (1 : Int32)), .val (.int (Int32.ofNat d)), .val (.long (ng (mg q1))), .second, .unset, .unset, .unset] []))
      have J247_47 : Go FrameEnd p e below s 16 192 (Q0 Z q1 p2 p3 pw h0 n0) (T45.setTop (mkF m 247 #[.val (.long q1), .second, .val (.int p2), .val (.int p3), .val (.int (Int32.ofNat t)), .val (.ref b1), .val (.ref b2), .val (.int (Int32.ofNat (t + sg q1 + d))), .val (.int (1 : Int32)), .val (.int (Int32.ofNat d)), .val (.long (ng (mg q1))), .second, .unset, .unset, .unset] [])) := by
        skip
        show Go FrameEnd p e below s 16 192 (Q0 Z q1 p2 p3 pw h0 n0) (T45.setTop (mkF m 247 #[.val (.long q1), .second, .val (.int p2), .val (.int p3), .val (.int (Int32.ofNat t)), .val (.ref b1), .val (.ref b2), .val (.int (Int32.ofNat (t + sg q1 + d))), .val (.int (1 : Int32)), .val (.int (Int32.ofNat d)), .val (.long (ng (mg q1))), .second, .unset, .unset, .unset] []))
        refine Go.step (fun _ k => XS.iloadN X45.here hx rfl (hb hby at_247) rfl k) ?_
        show Go FrameEnd p e below s 16 192 (Q0 Z q1 p2 p3 pw h0 n0) (T45.setTop (mkF m 248 #[.val (.long q1), .second, .val (.int p2), .val (.int p3), .val (.int (Int32.ofNat t)), .val (.ref b1), .val (.ref b2), .val (.int (Int32.ofNat (t + sg q1 + d))), .val (.int (1 : Int32)), .val (.int (Int32.ofNat d)), .val (.long (ng (mg q1))), .second, .unset, .unset, .unset] [(.int p3)]))
        refine Go.step (X45.ldcInt hx hown (mvT hZ (hw _ (List.mem_of_getElem? (i := 27) rfl))) (g := (mkF m 248 #[.val (.long q1), .second, .val (.int p2), .val (.int p3), .val (.int (Int32.ofNat t)), .val (.ref b1), .val (.ref b2), .val (.int (Int32.ofNat (t + sg q1 + d))), .val (.int (1 : Int32)), .val (.int (Int32.ofNat d)), .val (.long (ng (mg q1))), .second, .unset, .unset, .unset] [(.int p3)])) rfl (hb hby at_248)) ?_
        show Go FrameEnd p e below s 16 192 (Q0 Z q1 p2 p3 pw h0 n0) (T45.setTop (mkF m 250 #[.val (.long q1), .second, .val (.int p2), .val (.int p3), .val (.int (Int32.ofNat t)), .val (.ref b1), .val (.ref b2), .val (.int (Int32.ofNat (t + sg q1 + d))), .val (.int (1 : Int32)), .val (.int (Int32.ofNat d)), .val (.long (ng (mg q1))), .second, .unset, .unset, .unset] [(.int (2147483647 : Int32)), (.int p3)]))
        refine Go.step (fun _ k => XS.iand X45.here hx rfl (hb hby at_250) rfl k) ?_
        show Go FrameEnd p e below s 16 192 (Q0 Z q1 p2 p3 pw h0 n0) (T45.setTop (mkF m 251 #[.val (.long q1), .second, .val (.int p2), .val (.int p3), .val (.int (Int32.ofNat t)), .val (.ref b1), .val (.ref b2), .val (.int (Int32.ofNat (t + sg q1 + d))), .val (.int (1 : Int32)), .val (.int (Int32.ofNat d)), .val (.long (ng (mg q1))), .second, .unset, .unset, .unset] [(.int (p3 &&& (2147483647 : Int32)))]))
        refine Go.step (fun _ k => XS.bipush X45.here hx rfl (hb hby at_251) k) ?_
        show Go FrameEnd p e below s 16 192 (Q0 Z q1 p2 p3 pw h0 n0) (T45.setTop (mkF m 253 #[.val (.long q1), .second, .val (.int p2), .val (.int p3), .val (.int (Int32.ofNat t)), .val (.ref b1), .val (.ref b2), .val (.int (Int32.ofNat (t + sg q1 + d))), .val (.int (1 : Int32)), .val (.int (Int32.ofNat d)), .val (.long (ng (mg q1))), .second, .unset, .unset, .unset] [(.int (24 : Int32)), (.int (p3 &&& (2147483647 : Int32)))]))
        refine Go.step (fun _ k => iremM X45 hx rfl (hb hby at_253) rfl (by decide) k) ?_
        show Go FrameEnd p e below s 16 192 (Q0 Z q1 p2 p3 pw h0 n0) (T45.setTop (mkF m 254 #[.val (.long q1), .second, .val (.int p2), .val (.int p3), .val (.int (Int32.ofNat t)), .val (.ref b1), .val (.ref b2), .val (.int (Int32.ofNat (t + sg q1 + d))), .val (.int (1 : Int32)), .val (.int (Int32.ofNat d)), .val (.long (ng (mg q1))), .second, .unset, .unset, .unset] [(.int ((p3 &&& (2147483647 : Int32)) % (24 : Int32)))]))
        obtain ⟨jj, hjj, ej⟩ := own_24 p3
        rw [ej]
        show Go FrameEnd p e below s 16 192 (Q0 Z q1 p2 p3 pw h0 n0) (T45.setTop (mkF m 254 #[.val (.long q1), .second, .val (.int p2), .val (.int p3), .val (.int (Int32.ofNat t)), .val (.ref b1), .val (.ref b2), .val (.int (Int32.ofNat (t + sg q1 + d))), .val (.int (1 : Int32)), .val (.int (Int32.ofNat d)), .val (.long (ng (mg q1))), .second, .unset, .unset, .unset] [(.int (Int32.ofNat jj))]))
        refine Go.step (fun _ k => XS.istore X45.here hx rfl (hb hby at_254) rfl (l' := #[.val (.long q1), .second, .val (.int p2), .val (.int p3), .val (.int (Int32.ofNat t)), .val (.ref b1), .val (.ref b2), .val (.int (Int32.ofNat (t + sg q1 + d))), .val (.int (1 : Int32)), .val (.int (Int32.ofNat d)), .val (.long (ng (mg q1))), .second, .val (.int (Int32.ofNat jj)), .unset, .unset]) rfl k) ?_
        show Go FrameEnd p e below s 16 192 (Q0 Z q1 p2 p3 pw h0 n0) (T45.setTop (mkF m 256 #[.val (.long q1), .second, .val (.int p2), .val (.int p3), .val (.int (Int32.ofNat t)), .val (.ref b1), .val (.ref b2), .val (.int (Int32.ofNat (t + sg q1 + d))), .val (.int (1 : Int32)), .val (.int (Int32.ofNat d)), .val (.long (ng (mg q1))), .second, .val (.int (Int32.ofNat jj)), .unset, .unset] []))
        have J323_48 : ∀ (x : Int32), ∀ (s14 : Slot), (Wf q1 t jj = .int x) → Go FrameEnd p e below s 16 192 (Q0 Z q1 p2 p3 pw h0 n0) (T45.setTop (mkF m 323 #[.val (.long q1), .second, .val (.int p2), .val (.int p3), .val (.int (Int32.ofNat t)), .val (.ref b1), .val (.ref b2), .val (.int (Int32.ofNat (t + sg q1 + d))), .val (.int (1 : Int32)), .val (.int (Int32.ofNat d)), .val (.long (ng (mg q1))), .second, .val (.int (Int32.ofNat jj)), .val (.int x), s14] [])) := by
          intro x s14 hx323
          show Go FrameEnd p e below s 16 192 (Q0 Z q1 p2 p3 pw h0 n0) (T45.setTop (mkF m 323 #[.val (.long q1), .second, .val (.int p2), .val (.int p3), .val (.int (Int32.ofNat t)), .val (.ref b1), .val (.ref b2), .val (.int (Int32.ofNat (t + sg q1 + d))), .val (.int (1 : Int32)), .val (.int (Int32.ofNat d)), .val (.long (ng (mg q1))), .second, .val (.int (Int32.ofNat jj)), .val (.int x), s14] []))
          refine Go.step (fun _ k => XS.aload X45.here hx rfl (hb hby at_323) rfl rfl k) ?_
          show Go FrameEnd p e below s 16 192 (Q0 Z q1 p2 p3 pw h0 n0) (T45.setTop (mkF m 325 #[.val (.long q1), .second, .val (.int p2), .val (.int p3), .val (.int (Int32.ofNat t)), .val (.ref b1), .val (.ref b2), .val (.int (Int32.ofNat (t + sg q1 + d))), .val (.int (1 : Int32)), .val (.int (Int32.ofNat d)), .val (.long (ng (mg q1))), .second, .val (.int (Int32.ofNat jj)), .val (.int x), s14] [(.ref b1)]))
          refine Go.step (fun _ k => XS.iload X45.here hx rfl (hb hby at_325) rfl k) ?_
          show Go FrameEnd p e below s 16 192 (Q0 Z q1 p2 p3 pw h0 n0) (T45.setTop (mkF m 327 #[.val (.long q1), .second, .val (.int p2), .val (.int p3), .val (.int (Int32.ofNat t)), .val (.ref b1), .val (.ref b2), .val (.int (Int32.ofNat (t + sg q1 + d))), .val (.int (1 : Int32)), .val (.int (Int32.ofNat d)), .val (.long (ng (mg q1))), .second, .val (.int (Int32.ofNat jj)), .val (.int x), s14] [(.int (Int32.ofNat jj)), (.ref b1)]))
          obtain ⟨c49, Ac49, Sc49, Mc49, Gc49⟩ := id xA45_1
          refine Go.step (X45.baloadBytes hx (j := (Int32.ofNat jj)) (v := (.int x)) Ac49.1 (State.isArrayOf_alike hZ.alike Ac49.2.1) Ac49.2.2 (own_in Sc49 (own_nn (by omega)) (by rw [own_cl (by omega)]; omega)) (Av.at (i := jj) Gc49 (own_cl (by omega)) (by omega) hx323) (g := (mkF m 327 #[.val (.long q1), .second, .val (.int p2), .val (.int p3), .val (.int (Int32.ofNat t)), .val (.ref b1), .val (.ref b2), .val (.int (Int32.ofNat (t + sg q1 + d))), .val (.int (1 : Int32)), .val (.int (Int32.ofNat d)), .val (.long (ng (mg q1))), .second, .val (.int (Int32.ofNat jj)), .val (.int x), s14] [(.int (Int32.ofNat jj)), (.ref b1)])) rfl rfl (hb hby at_327)) ?_
          show Go FrameEnd p e below s 16 192 (Q0 Z q1 p2 p3 pw h0 n0) (T45.setTop (mkF m 328 #[.val (.long q1), .second, .val (.int p2), .val (.int p3), .val (.int (Int32.ofNat t)), .val (.ref b1), .val (.ref b2), .val (.int (Int32.ofNat (t + sg q1 + d))), .val (.int (1 : Int32)), .val (.int (Int32.ofNat d)), .val (.long (ng (mg q1))), .second, .val (.int (Int32.ofNat jj)), .val (.int x), s14] [(.int x)]))
          refine Go.step (fun _ k => XS.iload X45.here hx rfl (hb hby at_328) rfl k) ?_
          show Go FrameEnd p e below s 16 192 (Q0 Z q1 p2 p3 pw h0 n0) (T45.setTop (mkF m 330 #[.val (.long q1), .second, .val (.int p2), .val (.int p3), .val (.int (Int32.ofNat t)), .val (.ref b1), .val (.ref b2), .val (.int (Int32.ofNat (t + sg q1 + d))), .val (.int (1 : Int32)), .val (.int (Int32.ofNat d)), .val (.long (ng (mg q1))), .second, .val (.int (Int32.ofNat jj)), .val (.int x), s14] [(.int x), (.int x)]))
          refine Go.step (fun _ k => XS.icmpNo X45.here hx rfl (hb hby at_330) rfl (teq rfl).2 k) ?_
          show Go FrameEnd p e below s 16 192 (Q0 Z q1 p2 p3 pw h0 n0) (T45.setTop (mkF m 333 #[.val (.long q1), .second, .val (.int p2), .val (.int p3), .val (.int (Int32.ofNat t)), .val (.ref b1), .val (.ref b2), .val (.int (Int32.ofNat (t + sg q1 + d))), .val (.int (1 : Int32)), .val (.int (Int32.ofNat d)), .val (.long (ng (mg q1))), .second, .val (.int (Int32.ofNat jj)), .val (.int x), s14] []))
          refine Go.step (fun _ k => XS.iconst X45.here hx rfl (hb hby at_333) k) ?_
          show Go FrameEnd p e below s 16 192 (Q0 Z q1 p2 p3 pw h0 n0) (T45.setTop (mkF m 334 #[.val (.long q1), .second, .val (.int p2), .val (.int p3), .val (.int (Int32.ofNat t)), .val (.ref b1), .val (.ref b2), .val (.int (Int32.ofNat (t + sg q1 + d))), .val (.int (1 : Int32)), .val (.int (Int32.ofNat d)), .val (.long (ng (mg q1))), .second, .val (.int (Int32.ofNat jj)), .val (.int x), s14] [(.int (1 : Int32))]))
          refine Go.step (fun _ k => XS.goto X45.here hx rfl (pc0 := 334) (pc' := 338) rfl (hb hby at_334) (by decide) (by decide) k) ?_
          show Go FrameEnd p e below s 16 192 (Q0 Z q1 p2 p3 pw h0 n0) (T45.setTop (mkF m 338 #[.val (.long q1), .second, .val (.int p2), .val (.int p3), .val (.int (Int32.ofNat t)), .val (.ref b1), .val (.ref b2), .val (.int (Int32.ofNat (t + sg q1 + d))), .val (.int (1 : Int32)), .val (.int (Int32.ofNat d)), .val (.long (ng (mg q1))), .second, .val (.int (Int32.ofNat jj)), .val (.int x), s14] [(.int (1 : Int32))]))
          refine Go.retN X45 hx (t := .boolean) Bd.returns (by simp) (by decide) (hb hby at_338) (BodyLoose.notSynchronized Bd) rfl (by decide) (by decide) ?_
          exact ⟨rfl, N45⟩
        refine Go.step (fun _ k => XS.iload X45.here hx rfl (hb hby at_256) rfl k) ?_
        show Go FrameEnd p e below s 16 192 (Q0 Z q1 p2 p3 pw h0 n0) (T45.setTop (mkF m 258 #[.val (.long q1), .second, .val (.int p2), .val (.int p3), .val (.int (Int32.ofNat t)), .val (.ref b1), .val (.ref b2), .val (.int (Int32.ofNat (t + sg q1 + d))), .val (.int (1 : Int32)), .val (.int (Int32.ofNat d)), .val (.long (ng (mg q1))), .second, .val (.int (Int32.ofNat jj)), .unset, .unset] [(.int (Int32.ofNat jj))]))
        refine Go.step (fun _ k => XS.iload X45.here hx rfl (hb hby at_258) rfl k) ?_
        show Go FrameEnd p e below s 16 192 (Q0 Z q1 p2 p3 pw h0 n0) (T45.setTop (mkF m 260 #[.val (.long q1), .second, .val (.int p2), .val (.int p3), .val (.int (Int32.ofNat t)), .val (.ref b1), .val (.ref b2), .val (.int (Int32.ofNat (t + sg q1 + d))), .val (.int (1 : Int32)), .val (.int (Int32.ofNat d)), .val (.long (ng (mg q1))), .second, .val (.int (Int32.ofNat jj)), .unset, .unset] [(.int (Int32.ofNat t)), (.int (Int32.ofNat jj))]))
        by_cases g4 : (Int32.ofNat jj) < (Int32.ofNat t)
        · skip
          refine Go.step (fun _ k => XS.icmpYes X45.here hx rfl (pc0 := 260) (pc' := 270) rfl (hb hby at_260) rfl (tlt g4).1 (by decide) (by decide) k) ?_
          show Go FrameEnd p e below s 16 192 (Q0 Z q1 p2 p3 pw h0 n0) (T45.setTop (mkF m 270 #[.val (.long q1), .second, .val (.int p2), .val (.int p3), .val (.int (Int32.ofNat t)), .val (.ref b1), .val (.ref b2), .val (.int (Int32.ofNat (t + sg q1 + d))), .val (.int (1 : Int32)), .val (.int (Int32.ofNat d)), .val (.long (ng (mg q1))), .second, .val (.int (Int32.ofNat jj)), .unset, .unset] []))
          refine Go.step (fun _ k => XS.iconst X45.here hx rfl (hb hby at_270) k) ?_
          show Go FrameEnd p e below s 16 192 (Q0 Z q1 p2 p3 pw h0 n0) (T45.setTop (mkF m 271 #[.val (.long q1), .second, .val (.int p2), .val (.int p3), .val (.int (Int32.ofNat t)), .val (.ref b1), .val (.ref b2), .val (.int (Int32.ofNat (t + sg q1 + d))), .val (.int (1 : Int32)), .val (.int (Int32.ofNat d)), .val (.long (ng (mg q1))), .second, .val (.int (Int32.ofNat jj)), .unset, .unset] [(.int (0 : Int32))]))
          refine Go.step (fun _ k => XS.istore X45.here hx rfl (hb hby at_271) rfl (l' := #[.val (.long q1), .second, .val (.int p2), .val (.int p3), .val (.int (Int32.ofNat t)), .val (.ref b1), .val (.ref b2), .val (.int (Int32.ofNat (t + sg q1 + d))), .val (.int (1 : Int32)), .val (.int (Int32.ofNat d)), .val (.long (ng (mg q1))), .second, .val (.int (Int32.ofNat jj)), .val (.int (0 : Int32)), .unset]) rfl k) ?_
          show Go FrameEnd p e below s 16 192 (Q0 Z q1 p2 p3 pw h0 n0) (T45.setTop (mkF m 273 #[.val (.long q1), .second, .val (.int p2), .val (.int p3), .val (.int (Int32.ofNat t)), .val (.ref b1), .val (.ref b2), .val (.int (Int32.ofNat (t + sg q1 + d))), .val (.int (1 : Int32)), .val (.int (Int32.ofNat d)), .val (.long (ng (mg q1))), .second, .val (.int (Int32.ofNat jj)), .val (.int (0 : Int32)), .unset] []))
          refine Go.step (fun _ k => XS.goto X45.here hx rfl (pc0 := 273) (pc' := 323) rfl (hb hby at_273) (by decide) (by decide) k) ?_
          show Go FrameEnd p e below s 16 192 (Q0 Z q1 p2 p3 pw h0 n0) (T45.setTop (mkF m 323 #[.val (.long q1), .second, .val (.int p2), .val (.int p3), .val (.int (Int32.ofNat t)), .val (.ref b1), .val (.ref b2), .val (.int (Int32.ofNat (t + sg q1 + d))), .val (.int (1 : Int32)), .val (.int (Int32.ofNat d)), .val (.long (ng (mg q1))), .second, .val (.int (Int32.ofNat jj)), .val (.int (0 : Int32)), .unset] []))
          exact J323_48  (0 : Int32) (.unset) (Wf_out (by rw [← ed]; exact Or.inl ((own_lt (by omega) (by omega)).mp g4)) (by rw [← ed]; omega))
        · skip
          refine Go.step (fun _ k => XS.icmpNo X45.here hx rfl (hb hby at_260) rfl (flt g4).1 k) ?_
          show Go FrameEnd p e below s 16 192 (Q0 Z q1 p2 p3 pw h0 n0) (T45.setTop (mkF m 263 #[.val (.long q1), .second, .val (.int p2), .val (.int p3), .val (.int (Int32.ofNat t)), .val (.ref b1), .val (.ref b2), .val (.int (Int32.ofNat (t + sg q1 + d))), .val (.int (1 : Int32)), .val (.int (Int32.ofNat d)), .val (.long (ng (mg q1))), .second, .val (.int (Int32.ofNat jj)), .unset, .unset] []))
          refine Go.step (fun _ k => XS.iload X45.here hx rfl (hb hby at_263) rfl k) ?_
          show Go FrameEnd p e below s 16 192 (Q0 Z q1 p2 p3 pw h0 n0) (T45.setTop (mkF m 265 #[.val (.long q1), .second, .val (.int p2), .val (.int p3), .val (.int (Int32.ofNat t)), .val (.ref b1), .val (.ref b2), .val (.int (Int32.ofNat (t + sg q1 + d))), .val (.int (1 : Int32)), .val (.int (Int32.ofNat d)), .val (.long (ng (mg q1))), .second, .val (.int (Int32.ofNat jj)), .unset, .unset] [(.int (Int32.ofNat jj))]))
          refine Go.step (fun _ k => XS.iload X45.here hx rfl (hb hby at_265) rfl k) ?_
          show Go FrameEnd p e below s 16 192 (Q0 Z q1 p2 p3 pw h0 n0) (T45.setTop (mkF m 267 #[.val (.long q1), .second, .val (.int p2), .val (.int p3), .val (.int (Int32.ofNat t)), .val (.ref b1), .val (.ref b2), .val (.int (Int32.ofNat (t + sg q1 + d))), .val (.int (1 : Int32)), .val (.int (Int32.ofNat d)), .val (.long (ng (mg q1))), .second, .val (.int (Int32.ofNat jj)), .unset, .unset] [(.int (Int32.ofNat (t + sg q1 + d))), (.int (Int32.ofNat jj))]))
          by_cases g5 : (Int32.ofNat jj) < (Int32.ofNat (t + sg q1 + d))
          · skip
            refine Go.step (fun _ k => XS.icmpYes X45.here hx rfl (pc0 := 267) (pc' := 276) rfl (hb hby at_267) rfl (tlt g5).1 (by decide) (by decide) k) ?_
            show Go FrameEnd p e below s 16 192 (Q0 Z q1 p2 p3 pw h0 n0) (T45.setTop (mkF m 276 #[.val (.long q1), .second, .val (.int p2), .val (.int p3), .val (.int (Int32.ofNat t)), .val (.ref b1), .val (.ref b2), .val (.int (Int32.ofNat (t + sg q1 + d))), .val (.int (1 : Int32)), .val (.int (Int32.ofNat d)), .val (.long (ng (mg q1))), .second, .val (.int (Int32.ofNat jj)), .unset, .unset] []))
            refine Go.step (fun _ k => XS.iload X45.here hx rfl (hb hby at_276) rfl k) ?_
            show Go FrameEnd p e below s 16 192 (Q0 Z q1 p2 p3 pw h0 n0) (T45.setTop (mkF m 278 #[.val (.long q1), .second, .val (.int p2), .val (.int p3), .val (.int (Int32.ofNat t)), .val (.ref b1), .val (.ref b2), .val (.int (Int32.ofNat (t + sg q1 + d))), .val (.int (1 : Int32)), .val (.int (Int32.ofNat d)), .val (.long (ng (mg q1))), .second, .val (.int (Int32.ofNat jj)), .unset, .unset] [(.int (1 : Int32))]))
            refine Go.step (fun _ k => XS.iconst X45.here hx rfl (hb hby at_278) k) ?_
            show Go FrameEnd p e below s 16 192 (Q0 Z q1 p2 p3 pw h0 n0) (T45.setTop (mkF m 279 #[.val (.long q1), .second, .val (.int p2), .val (.int p3), .val (.int (Int32.ofNat t)), .val (.ref b1), .val (.ref b2), .val (.int (Int32.ofNat (t + sg q1 + d))), .val (.int (1 : Int32)), .val (.int (Int32.ofNat d)), .val (.long (ng (mg q1))), .second, .val (.int (Int32.ofNat jj)), .unset, .unset] [(.int (1 : Int32)), (.int (1 : Int32))]))
            refine Go.step (fun _ k => XS.icmpNo X45.here hx rfl (hb hby at_279) rfl (teq rfl).2 k) ?_
            show Go FrameEnd p e below s 16 192 (Q0 Z q1 p2 p3 pw h0 n0) (T45.setTop (mkF m 282 #[.val (.long q1), .second, .val (.int p2), .val (.int p3), .val (.int (Int32.ofNat t)), .val (.ref b1), .val (.ref b2), .val (.int (Int32.ofNat (t + sg q1 + d))), .val (.int (1 : Int32)), .val (.int (Int32.ofNat d)), .val (.long (ng (mg q1))), .second, .val (.int (Int32.ofNat jj)), .unset, .unset] []))
            refine Go.step (fun _ k => XS.iload X45.here hx rfl (hb hby at_282) rfl k) ?_
            show Go FrameEnd p e below s 16 192 (Q0 Z q1 p2 p3 pw h0 n0) (T45.setTop (mkF m 284 #[.val (.long q1), .second, .val (.int p2), .val (.int p3), .val (.int (Int32.ofNat t)), .val (.ref b1), .val (.ref b2), .val (.int (Int32.ofNat (t + sg q1 + d))), .val (.int (1 : Int32)), .val (.int (Int32.ofNat d)), .val (.long (ng (mg q1))), .second, .val (.int (Int32.ofNat jj)), .unset, .unset] [(.int (Int32.ofNat jj))]))
            refine Go.step (fun _ k => XS.iload X45.here hx rfl (hb hby at_284) rfl k) ?_
            show Go FrameEnd p e below s 16 192 (Q0 Z q1 p2 p3 pw h0 n0) (T45.setTop (mkF m 286 #[.val (.long q1), .second, .val (.int p2), .val (.int p3), .val (.int (Int32.ofNat t)), .val (.ref b1), .val (.ref b2), .val (.int (Int32.ofNat (t + sg q1 + d))), .val (.int (1 : Int32)), .val (.int (Int32.ofNat d)), .val (.long (ng (mg q1))), .second, .val (.int (Int32.ofNat jj)), .unset, .unset] [(.int (Int32.ofNat t)), (.int (Int32.ofNat jj))]))
            by_cases g6 : (Int32.ofNat jj) = (Int32.ofNat t)
            · skip
              refine Go.step (fun _ k => XS.icmpNo X45.here hx rfl (hb hby at_286) rfl (teq g6).2 k) ?_
              show Go FrameEnd p e below s 16 192 (Q0 Z q1 p2 p3 pw h0 n0) (T45.setTop (mkF m 289 #[.val (.long q1), .second, .val (.int p2), .val (.int p3), .val (.int (Int32.ofNat t)), .val (.ref b1), .val (.ref b2), .val (.int (Int32.ofNat (t + sg q1 + d))), .val (.int (1 : Int32)), .val (.int (Int32.ofNat d)), .val (.long (ng (mg q1))), .second, .val (.int (Int32.ofNat jj)), .unset, .unset] []))
              refine Go.step (fun _ k => XS.bipush X45.here hx rfl (hb hby at_289) k) ?_
              show Go FrameEnd p e below s 16 192 (Q0 Z q1 p2 p3 pw h0 n0) (T45.setTop (mkF m 291 #[.val (.long q1), .second, .val (.int p2), .val (.int p3), .val (.int (Int32.ofNat t)), .val (.ref b1), .val (.ref b2), .val (.int (Int32.ofNat (t + sg q1 + d))), .val (.int (1 : Int32)), .val (.int (Int32.ofNat d)), .val (.long (ng (mg q1))), .second, .val (.int (Int32.ofNat jj)), .unset, .unset] [(.int (45 : Int32))]))
              refine Go.step (fun _ k => XS.istore X45.here hx rfl (hb hby at_291) rfl (l' := #[.val (.long q1), .second, .val (.int p2), .val (.int p3), .val (.int (Int32.ofNat t)), .val (.ref b1), .val (.ref b2), .val (.int (Int32.ofNat (t + sg q1 + d))), .val (.int (1 : Int32)), .val (.int (Int32.ofNat d)), .val (.long (ng (mg q1))), .second, .val (.int (Int32.ofNat jj)), .val (.int (45 : Int32)), .unset]) rfl k) ?_
              show Go FrameEnd p e below s 16 192 (Q0 Z q1 p2 p3 pw h0 n0) (T45.setTop (mkF m 293 #[.val (.long q1), .second, .val (.int p2), .val (.int p3), .val (.int (Int32.ofNat t)), .val (.ref b1), .val (.ref b2), .val (.int (Int32.ofNat (t + sg q1 + d))), .val (.int (1 : Int32)), .val (.int (Int32.ofNat d)), .val (.long (ng (mg q1))), .second, .val (.int (Int32.ofNat jj)), .val (.int (45 : Int32)), .unset] []))
              refine Go.step (fun _ k => XS.goto X45.here hx rfl (pc0 := 293) (pc' := 323) rfl (hb hby at_293) (by decide) (by decide) k) ?_
              show Go FrameEnd p e below s 16 192 (Q0 Z q1 p2 p3 pw h0 n0) (T45.setTop (mkF m 323 #[.val (.long q1), .second, .val (.int p2), .val (.int p3), .val (.int (Int32.ofNat t)), .val (.ref b1), .val (.ref b2), .val (.int (Int32.ofNat (t + sg q1 + d))), .val (.int (1 : Int32)), .val (.int (Int32.ofNat d)), .val (.long (ng (mg q1))), .second, .val (.int (Int32.ofNat jj)), .val (.int (45 : Int32)), .unset] []))
              exact J323_48  (45 : Int32) (.unset) (by rw [show jj = t from (own_inj (by omega) (by omega)).mp g6]; exact Wf_sign hc155)
            · skip
              refine Go.step (fun _ k => XS.icmpYes X45.here hx rfl (pc0 := 286) (pc' := 296) rfl (hb hby at_286) rfl (feq g6).2 (by decide) (by decide) k) ?_
              show Go FrameEnd p e below s 16 192 (Q0 Z q1 p2 p3 pw h0 n0) (T45.setTop (mkF m 296 #[.val (.long q1), .second, .val (.int p2), .val (.int p3), .val (.int (Int32.ofNat t)), .val (.ref b1), .val (.ref b2), .val (.int (Int32.ofNat (t + sg q1 + d))), .val (.int (1 : Int32)), .val (.int (Int32.ofNat d)), .val (.long (ng (mg q1))), .second, .val (.int (Int32.ofNat jj)), .unset, .unset] []))
              refine Go.step (fun _ k => XS.iload X45.here hx rfl (hb hby at_296) rfl k) ?_
              show Go FrameEnd p e below s 16 192 (Q0 Z q1 p2 p3 pw h0 n0) (T45.setTop (mkF m 298 #[.val (.long q1), .second, .val (.int p2), .val (.int p3), .val (.int (Int32.ofNat t)), .val (.ref b1), .val (.ref b2), .val (.int (Int32.ofNat (t + sg q1 + d))), .val (.int (1 : Int32)), .val (.int (Int32.ofNat d)), .val (.long (ng (mg q1))), .second, .val (.int (Int32.ofNat jj)), .unset, .unset] [(.int (Int32.ofNat (t + sg q1 + d)))]))
              refine Go.step (fun _ k => XS.iconst X45.here hx rfl (hb hby at_298) k) ?_
              show Go FrameEnd p e below s 16 192 (Q0 Z q1 p2 p3 pw h0 n0) (T45.setTop (mkF m 299 #[.val (.long q1), .second, .val (.int p2), .val (.int p3), .val (.int (Int32.ofNat t)), .val (.ref b1), .val (.ref b2), .val (.int (Int32.ofNat (t + sg q1 + d))), .val (.int (1 : Int32)), .val (.int (Int32.ofNat d)), .val (.long (ng (mg q1))), .second, .val (.int (Int32.ofNat jj)), .unset, .unset] [(.int (1 : Int32)), (.int (Int32.ofNat (t + sg q1 + d)))]))
              refine Go.step (fun _ k => XS.isub X45.here hx rfl (hb hby at_299) rfl k) ?_
              show Go FrameEnd p e below s 16 192 (Q0 Z q1 p2 p3 pw h0 n0) (T45.setTop (mkF m 300 #[.val (.long q1), .second, .val (.int p2), .val (.int p3), .val (.int (Int32.ofNat t)), .val (.ref b1), .val (.ref b2), .val (.int (Int32.ofNat (t + sg q1 + d))), .val (.int (1 : Int32)), .val (.int (Int32.ofNat d)), .val (.long (ng (mg q1))), .second, .val (.int (Int32.ofNat jj)), .unset, .unset] [(.int ((Int32.ofNat (t + sg q1 + d)) - (1 : Int32)))]))
              refine Go.step (fun _ k => XS.iload X45.here hx rfl (hb hby at_300) rfl k) ?_
              show Go FrameEnd p e below s 16 192 (Q0 Z q1 p2 p3 pw h0 n0) (T45.setTop (mkF m 302 #[.val (.long q1), .second, .val (.int p2), .val (.int p3), .val (.int (Int32.ofNat t)), .val (.ref b1), .val (.ref b2), .val (.int (Int32.ofNat (t + sg q1 + d))), .val (.int (1 : Int32)), .val (.int (Int32.ofNat d)), .val (.long (ng (mg q1))), .second, .val (.int (Int32.ofNat jj)), .unset, .unset] [(.int (Int32.ofNat jj)), (.int ((Int32.ofNat (t + sg q1 + d)) - (1 : Int32)))]))
              refine Go.step (fun _ k => XS.isub X45.here hx rfl (hb hby at_302) rfl k) ?_
              show Go FrameEnd p e below s 16 192 (Q0 Z q1 p2 p3 pw h0 n0) (T45.setTop (mkF m 303 #[.val (.long q1), .second, .val (.int p2), .val (.int p3), .val (.int (Int32.ofNat t)), .val (.ref b1), .val (.ref b2), .val (.int (Int32.ofNat (t + sg q1 + d))), .val (.int (1 : Int32)), .val (.int (Int32.ofNat d)), .val (.long (ng (mg q1))), .second, .val (.int (Int32.ofNat jj)), .unset, .unset] [(.int (((Int32.ofNat (t + sg q1 + d)) - (1 : Int32)) - (Int32.ofNat jj)))]))
              have hne : ¬ jj = t := fun z => g6 (by rw [z])
              have h4 := mt (own_lt (i := jj) (j := t) (by omega) (by omega)).mpr g4
              have h5 := (own_lt (i := jj) (j := t + sg q1 + d) (by omega) (by omega)).mp g5
              rw [own_kk (by omega) (by omega)]
              show Go FrameEnd p e below s 16 192 (Q0 Z q1 p2 p3 pw h0 n0) (T45.setTop (mkF m 303 #[.val (.long q1), .second, .val (.int p2), .val (.int p3), .val (.int (Int32.ofNat t)), .val (.ref b1), .val (.ref b2), .val (.int (Int32.ofNat (t + sg q1 + d))), .val (.int (1 : Int32)), .val (.int (Int32.ofNat d)), .val (.long (ng (mg q1))), .second, .val (.int (Int32.ofNat jj)), .unset, .unset] [(.int (Int32.ofNat (t + sg q1 + d - 1 - jj)))]))
              refine Go.step (fun _ k => XS.istore X45.here hx rfl (hb hby at_303) rfl (l' := #[.val (.long q1), .second, .val (.int p2), .val (.int p3), .val (.int (Int32.ofNat t)), .val (.ref b1), .val (.ref b2), .val (.int (Int32.ofNat (t + sg q1 + d))), .val (.int (1 : Int32)), .val (.int (Int32.ofNat d)), .val (.long (ng (mg q1))), .second, .val (.int (Int32.ofNat jj)), .unset, .val (.int (Int32.ofNat (t + sg q1 + d - 1 - jj)))]) rfl k) ?_
              show Go FrameEnd p e below s 16 192 (Q0 Z q1 p2 p3 pw h0 n0) (T45.setTop (mkF m 305 #[.val (.long q1), .second, .val (.int p2), .val (.int p3), .val (.int (Int32.ofNat t)), .val (.ref b1), .val (.ref b2), .val (.int (Int32.ofNat (t + sg q1 + d))), .val (.int (1 : Int32)), .val (.int (Int32.ofNat d)), .val (.long (ng (mg q1))), .second, .val (.int (Int32.ofNat jj)), .unset, .val (.int (Int32.ofNat (t + sg q1 + d - 1 - jj)))] []))
              refine Go.step (fun _ k => XS.bipush X45.here hx rfl (hb hby at_305) k) ?_
              show Go FrameEnd p e below s 16 192 (Q0 Z q1 p2 p3 pw h0 n0) (T45.setTop (mkF m 307 #[.val (.long q1), .second, .val (.int p2), .val (.int p3), .val (.int (Int32.ofNat t)), .val (.ref b1), .val (.ref b2), .val (.int (Int32.ofNat (t + sg q1 + d))), .val (.int (1 : Int32)), .val (.int (Int32.ofNat d)), .val (.long (ng (mg q1))), .second, .val (.int (Int32.ofNat jj)), .unset, .val (.int (Int32.ofNat (t + sg q1 + d - 1 - jj)))] [(.int (48 : Int32))]))
              refine Go.step (fun _ k => XS.lload X45.here hx rfl (hb hby at_307) rfl k) ?_
              show Go FrameEnd p e below s 16 192 (Q0 Z q1 p2 p3 pw h0 n0) (T45.setTop (mkF m 309 #[.val (.long q1), .second, .val (.int p2), .val (.int p3), .val (.int (Int32.ofNat t)), .val (.ref b1), .val (.ref b2), .val (.int (Int32.ofNat (t + sg q1 + d))), .val (.int (1 : Int32)), .val (.int (Int32.ofNat d)), .val (.long (ng (mg q1))), .second, .val (.int (Int32.ofNat jj)), .unset, .val (.int (Int32.ofNat (t + sg q1 + d - 1 - jj)))] [(.long (ng (mg q1))), (.int (48 : Int32))]))
              refine Go.step (fun _ k => XS.aload X45.here hx rfl (hb hby at_309) rfl rfl k) ?_
              show Go FrameEnd p e below s 16 192 (Q0 Z q1 p2 p3 pw h0 n0) (T45.setTop (mkF m 311 #[.val (.long q1), .second, .val (.int p2), .val (.int p3), .val (.int (Int32.ofNat t)), .val (.ref b1), .val (.ref b2), .val (.int (Int32.ofNat (t + sg q1 + d))), .val (.int (1 : Int32)), .val (.int (Int32.ofNat d)), .val (.long (ng (mg q1))), .second, .val (.int (Int32.ofNat jj)), .unset, .val (.int (Int32.ofNat (t + sg q1 + d - 1 - jj)))] [(.ref b2), (.long (ng (mg q1))), (.int (48 : Int32))]))
              refine Go.step (fun _ k => XS.iload X45.here hx rfl (hb hby at_311) rfl k) ?_
              show Go FrameEnd p e below s 16 192 (Q0 Z q1 p2 p3 pw h0 n0) (T45.setTop (mkF m 313 #[.val (.long q1), .second, .val (.int p2), .val (.int p3), .val (.int (Int32.ofNat t)), .val (.ref b1), .val (.ref b2), .val (.int (Int32.ofNat (t + sg q1 + d))), .val (.int (1 : Int32)), .val (.int (Int32.ofNat d)), .val (.long (ng (mg q1))), .second, .val (.int (Int32.ofNat jj)), .unset, .val (.int (Int32.ofNat (t + sg q1 + d - 1 - jj)))] [(.int (Int32.ofNat (t + sg q1 + d - 1 - jj))), (.ref b2), (.long (ng (mg q1))), (.int (48 : Int32))]))
              have f_50 := (V41.keep K45_0 (ninS (Ne.symm ne_b1_b2) nin0))
              obtain ⟨c51, Ac51, Sc51, Mc51, Gc51⟩ := id f_50
              refine Go.step (X45.laload hx (j := (Int32.ofNat (t + sg q1 + d - 1 - jj))) (v := (.long (Int64.ofNat (p10 (t + sg q1 + d - 1 - jj))))) Ac51.1 (State.isArrayOf_alike hZ.alike Ac51.2.1) Ac51.2.2 (own_in Sc51 (own_nn (by omega)) (by rw [own_cl (by omega)]; omega)) (Av.at (i := (t + sg q1 + d - 1 - jj)) Gc51 (own_cl (by omega)) (by omega) rfl) (g := (mkF m 313 #[.val (.long q1), .second, .val (.int p2), .val (.int p3), .val (.int (Int32.ofNat t)), .val (.ref b1), .val (.ref b2), .val (.int (Int32.ofNat (t + sg q1 + d))), .val (.int (1 : Int32)), .val (.int (Int32.ofNat d)), .val (.long (ng (mg q1))), .second, .val (.int (Int32.ofNat jj)), .unset, .val (.int (Int32.ofNat (t + sg q1 + d - 1 - jj)))] [(.int (Int32.ofNat (t + sg q1 + d - 1 - jj))), (.ref b2), (.long (ng (mg q1))), (.int (48 : Int32))])) rfl rfl (hb hby at_313)) ?_
              show Go FrameEnd p e below s 16 192 (Q0 Z q1 p2 p3 pw h0 n0) (T45.setTop (mkF m 314 #[.val (.long q1), .second, .val (.int p2), .val (.int p3), .val (.int (Int32.ofNat t)), .val (.ref b1), .val (.ref b2), .val (.int (Int32.ofNat (t + sg q1 + d))), .val (.int (1 : Int32)), .val (.int (Int32.ofNat d)), .val (.long (ng (mg q1))), .second, .val (.int (Int32.ofNat jj)), .unset, .val (.int (Int32.ofNat (t + sg q1 + d - 1 - jj)))] [(.long (Int64.ofNat (p10 (t + sg q1 + d - 1 - jj)))), (.long (ng (mg q1))), (.int (48 : Int32))]))
              have hk18 : t + sg q1 + d - 1 - jj ≤ 18 := by omega
              have hpk := p10_19 hk18
              have hpp := p10_pos (t + sg q1 + d - 1 - jj)
              refine Go.step (fun _ k => XS.ldiv X45.here hx rfl (hb hby at_314) rfl (own_pnz hk18) k) ?_
              show Go FrameEnd p e below s 16 192 (Q0 Z q1 p2 p3 pw h0 n0) (T45.setTop (mkF m 315 #[.val (.long q1), .second, .val (.int p2), .val (.int p3), .val (.int (Int32.ofNat t)), .val (.ref b1), .val (.ref b2), .val (.int (Int32.ofNat (t + sg q1 + d))), .val (.int (1 : Int32)), .val (.int (Int32.ofNat d)), .val (.long (ng (mg q1))), .second, .val (.int (Int32.ofNat jj)), .unset, .val (.int (Int32.ofNat (t + sg q1 + d - 1 - jj)))] [(.long ((ng (mg q1)) / (Int64.ofNat (p10 (t + sg q1 + d - 1 - jj))))), (.int (48 : Int32))]))
              rw [own_divL hM9 hpp hpk]
              show Go FrameEnd p e below s 16 192 (Q0 Z q1 p2 p3 pw h0 n0) (T45.setTop (mkF m 315 #[.val (.long q1), .second, .val (.int p2), .val (.int p3), .val (.int (Int32.ofNat t)), .val (.ref b1), .val (.ref b2), .val (.int (Int32.ofNat (t + sg q1 + d))), .val (.int (1 : Int32)), .val (.int (Int32.ofNat d)), .val (.long (ng (mg q1))), .second, .val (.int (Int32.ofNat jj)), .unset, .val (.int (Int32.ofNat (t + sg q1 + d - 1 - jj)))] [(.long (ng (mg q1 / p10 (t + sg q1 + d - 1 - jj)))), (.int (48 : Int32))]))
              refine Go.step (X45.ldc2Long hx hown (mvT hZ (hw _ (List.mem_of_getElem? (i := 2) rfl))) (g := (mkF m 315 #[.val (.long q1), .second, .val (.int p2), .val (.int p3), .val (.int (Int32.ofNat t)), .val (.ref b1), .val (.ref b2), .val (.int (Int32.ofNat (t + sg q1 + d))), .val (.int (1 : Int32)), .val (.int (Int32.ofNat d)), .val (.long (ng (mg q1))), .second, .val (.int (Int32.ofNat jj)), .unset, .val (.int (Int32.ofNat (t + sg q1 + d - 1 - jj)))] [(.long (ng (mg q1 / p10 (t + sg q1 + d - 1 - jj)))), (.int (48 : Int32))])) rfl (hb hby at_315)) ?_
              show Go FrameEnd p e below s 16 192 (Q0 Z q1 p2 p3 pw h0 n0) (T45.setTop (mkF m 318 #[.val (.long q1), .second, .val (.int p2), .val (.int p3), .val (.int (Int32.ofNat t)), .val (.ref b1), .val (.ref b2), .val (.int (Int32.ofNat (t + sg q1 + d))), .val (.int (1 : Int32)), .val (.int (Int32.ofNat d)), .val (.long (ng (mg q1))), .second, .val (.int (Int32.ofNat jj)), .unset, .val (.int (Int32.ofNat (t + sg q1 + d - 1 - jj)))] [(.long (10 : Int64)), (.long (ng (mg q1 / p10 (t + sg q1 + d - 1 - jj)))), (.int (48 : Int32))]))
              refine Go.step (fun _ k => own_lrem X45 hx rfl (hb hby at_318) rfl (by decide) k) ?_
              show Go FrameEnd p e below s 16 192 (Q0 Z q1 p2 p3 pw h0 n0) (T45.setTop (mkF m 319 #[.val (.long q1), .second, .val (.int p2), .val (.int p3), .val (.int (Int32.ofNat t)), .val (.ref b1), .val (.ref b2), .val (.int (Int32.ofNat (t + sg q1 + d))), .val (.int (1 : Int32)), .val (.int (Int32.ofNat d)), .val (.long (ng (mg q1))), .second, .val (.int (Int32.ofNat jj)), .unset, .val (.int (Int32.ofNat (t + sg q1 + d - 1 - jj)))] [(.long ((ng (mg q1 / p10 (t + sg q1 + d - 1 - jj))) % (10 : Int64))), (.int (48 : Int32))]))
              refine Go.step (fun _ k => XS.l2i X45.here hx rfl (hb hby at_319) rfl k) ?_
              show Go FrameEnd p e below s 16 192 (Q0 Z q1 p2 p3 pw h0 n0) (T45.setTop (mkF m 320 #[.val (.long q1), .second, .val (.int p2), .val (.int p3), .val (.int (Int32.ofNat t)), .val (.ref b1), .val (.ref b2), .val (.int (Int32.ofNat (t + sg q1 + d))), .val (.int (1 : Int32)), .val (.int (Int32.ofNat d)), .val (.long (ng (mg q1))), .second, .val (.int (Int32.ofNat jj)), .unset, .val (.int (Int32.ofNat (t + sg q1 + d - 1 - jj)))] [(.int ((ng (mg q1 / p10 (t + sg q1 + d - 1 - jj))) % (10 : Int64)).toInt32), (.int (48 : Int32))]))
              refine Go.step (fun _ k => XS.isub X45.here hx rfl (hb hby at_320) rfl k) ?_
              show Go FrameEnd p e below s 16 192 (Q0 Z q1 p2 p3 pw h0 n0) (T45.setTop (mkF m 321 #[.val (.long q1), .second, .val (.int p2), .val (.int p3), .val (.int (Int32.ofNat t)), .val (.ref b1), .val (.ref b2), .val (.int (Int32.ofNat (t + sg q1 + d))), .val (.int (1 : Int32)), .val (.int (Int32.ofNat d)), .val (.long (ng (mg q1))), .second, .val (.int (Int32.ofNat jj)), .unset, .val (.int (Int32.ofNat (t + sg q1 + d - 1 - jj)))] [(.int ((48 : Int32) - ((ng (mg q1 / p10 (t + sg q1 + d - 1 - jj))) % (10 : Int64)).toInt32))]))
              rw [own_expL (Nat.le_trans (Nat.div_le_self _ _) hM9)]
              show Go FrameEnd p e below s 16 192 (Q0 Z q1 p2 p3 pw h0 n0) (T45.setTop (mkF m 321 #[.val (.long q1), .second, .val (.int p2), .val (.int p3), .val (.int (Int32.ofNat t)), .val (.ref b1), .val (.ref b2), .val (.int (Int32.ofNat (t + sg q1 + d))), .val (.int (1 : Int32)), .val (.int (Int32.ofNat d)), .val (.long (ng (mg q1))), .second, .val (.int (Int32.ofNat jj)), .unset, .val (.int (Int32.ofNat (t + sg q1 + d - 1 - jj)))] [(.int (Int32.ofNat (48 + mg q1 / p10 (t + sg q1 + d - 1 - jj) % 10)))]))
              refine Go.step (fun _ k => XS.istore X45.here hx rfl (hb hby at_321) rfl (l' := #[.val (.long q1), .second, .val (.int p2), .val (.int p3), .val (.int (Int32.ofNat t)), .val (.ref b1), .val (.ref b2), .val (.int (Int32.ofNat (t + sg q1 + d))), .val (.int (1 : Int32)), .val (.int (Int32.ofNat d)), .val (.long (ng (mg q1))), .second, .val (.int (Int32.ofNat jj)), .val (.int (Int32.ofNat (48 + mg q1 / p10 (t + sg q1 + d - 1 - jj) % 10))), .val (.int (Int32.ofNat (t + sg q1 + d - 1 - jj)))]) rfl k) ?_
              show Go FrameEnd p e below s 16 192 (Q0 Z q1 p2 p3 pw h0 n0) (T45.setTop (mkF m 323 #[.val (.long q1), .second, .val (.int p2), .val (.int p3), .val (.int (Int32.ofNat t)), .val (.ref b1), .val (.ref b2), .val (.int (Int32.ofNat (t + sg q1 + d))), .val (.int (1 : Int32)), .val (.int (Int32.ofNat d)), .val (.long (ng (mg q1))), .second, .val (.int (Int32.ofNat jj)), .val (.int (Int32.ofNat (48 + mg q1 / p10 (t + sg q1 + d - 1 - jj) % 10))), .val (.int (Int32.ofNat (t + sg q1 + d - 1 - jj)))] []))
              exact J323_48  (Int32.ofNat (48 + mg q1 / p10 (t + sg q1 + d - 1 - jj) % 10)) (.val (.int (Int32.ofNat (t + sg q1 + d - 1 - jj)))) ((Wf_dig (by omega) (by rw [← ed]; omega)).trans (by rw [← ed]))
          · skip
            refine Go.step (fun _ k => XS.icmpNo X45.here hx rfl (hb hby at_267) rfl (flt g5).1 k) ?_
            show Go FrameEnd p e below s 16 192 (Q0 Z q1 p2 p3 pw h0 n0) (T45.setTop (mkF m 270 #[.val (.long q1), .second, .val (.int p2), .val (.int p3), .val (.int (Int32.ofNat t)), .val (.ref b1), .val (.ref b2), .val (.int (Int32.ofNat (t + sg q1 + d))), .val (.int (1 : Int32)), .val (.int (Int32.ofNat d)), .val (.long (ng (mg q1))), .second, .val (.int (Int32.ofNat jj)), .unset, .unset] []))
            refine Go.step (fun _ k => XS.iconst X45.here hx rfl (hb hby at_270) k) ?_
            show Go FrameEnd p e below s 16 192 (Q0 Z q1 p2 p3 pw h0 n0) (T45.setTop (mkF m 271 #[.val (.long q1), .second, .val (.int p2), .val (.int p3), .val (.int (Int32.ofNat t)), .val (.ref b1), .val (.ref b2), .val (.int (Int32.ofNat (t + sg q1 + d))), .val (.int (1 : Int32)), .val (.int (Int32.ofNat d)), .val (.long (ng (mg q1))), .second, .val (.int (Int32.ofNat jj)), .unset, .unset] [(.int (0 : Int32))]))
            refine Go.step (fun _ k => XS.istore X45.here hx rfl (hb hby at_271) rfl (l' := #[.val (.long q1), .second, .val (.int p2), .val (.int p3), .val (.int (Int32.ofNat t)), .val (.ref b1), .val (.ref b2), .val (.int (Int32.ofNat (t + sg q1 + d))), .val (.int (1 : Int32)), .val (.int (Int32.ofNat d)), .val (.long (ng (mg q1))), .second, .val (.int (Int32.ofNat jj)), .val (.int (0 : Int32)), .unset]) rfl k) ?_
            show Go FrameEnd p e below s 16 192 (Q0 Z q1 p2 p3 pw h0 n0) (T45.setTop (mkF m 273 #[.val (.long q1), .second, .val (.int p2), .val (.int p3), .val (.int (Int32.ofNat t)), .val (.ref b1), .val (.ref b2), .val (.int (Int32.ofNat (t + sg q1 + d))), .val (.int (1 : Int32)), .val (.int (Int32.ofNat d)), .val (.long (ng (mg q1))), .second, .val (.int (Int32.ofNat jj)), .val (.int (0 : Int32)), .unset] []))
            refine Go.step (fun _ k => XS.goto X45.here hx rfl (pc0 := 273) (pc' := 323) rfl (hb hby at_273) (by decide) (by decide) k) ?_
            show Go FrameEnd p e below s 16 192 (Q0 Z q1 p2 p3 pw h0 n0) (T45.setTop (mkF m 323 #[.val (.long q1), .second, .val (.int p2), .val (.int p3), .val (.int (Int32.ofNat t)), .val (.ref b1), .val (.ref b2), .val (.int (Int32.ofNat (t + sg q1 + d))), .val (.int (1 : Int32)), .val (.int (Int32.ofNat d)), .val (.long (ng (mg q1))), .second, .val (.int (Int32.ofNat jj)), .val (.int (0 : Int32)), .unset] []))
            exact J323_48  (0 : Int32) (.unset) (Wf_out (by rw [← ed]; have z := mt (own_lt (i := jj) (j := t + sg q1 + d) (by omega) (by omega)).mpr g5; omega) (by rw [← ed]; omega))
      refine Go.step (fun _ k => XS.iload X45.here hx rfl (hb hby at_226) rfl k) ?_
      show Go FrameEnd p e below s 16 192 (Q0 Z q1 p2 p3 pw h0 n0) (T45.setTop (mkF m 228 #[.val (.long q1), .second, .val (.int p2), .val (.int p3), .val (.int (Int32.ofNat t)), .val (.ref b1), .val (.ref b2), .val (.int (Int32.ofNat (t + sg q1 + d))), .val (.int (1 : Int32)), .val (.int (Int32.ofNat d)), .val (.long (ng (mg q1))), .second, .unset, .unset, .unset] [(.int (Int32.ofNat d))]))
      refine Go.step (fun _ k => XS.bipush X45.here hx rfl (hb hby at_228) k) ?_
      show Go FrameEnd p e below s 16 192 (Q0 Z q1 p2 p3 pw h0 n0) (T45.setTop (mkF m 230 #[.val (.long q1), .second, .val (.int p2), .val (.int p3), .val (.int (Int32.ofNat t)), .val (.ref b1), .val (.ref b2), .val (.int (Int32.ofNat (t + sg q1 + d))), .val (.int (1 : Int32)), .val (.int (Int32.ofNat d)), .val (.long (ng (mg q1))), .second, .unset, .unset, .unset] [(.int (18 : Int32)), (.int (Int32.ofNat d))]))
      by_cases g3 : (18 : Int32) < (Int32.ofNat d)
      · skip
        refine Go.step (fun _ k => XS.icmpYes X45.here hx rfl (pc0 := 230) (pc' := 247) rfl (hb hby at_230) rfl (tlt g3).2.2.1 (by decide) (by decide) k) ?_
        show Go FrameEnd p e below s 16 192 (Q0 Z q1 p2 p3 pw h0 n0) (T45.setTop (mkF m 247 #[.val (.long q1), .second, .val (.int p2), .val (.int p3), .val (.int (Int32.ofNat t)), .val (.ref b1), .val (.ref b2), .val (.int (Int32.ofNat (t + sg q1 + d))), .val (.int (1 : Int32)), .val (.int (Int32.ofNat d)), .val (.long (ng (mg q1))), .second, .unset, .unset, .unset] []))
        exact J247_47  
      · skip
        refine Go.step (fun _ k => XS.icmpNo X45.here hx rfl (hb hby at_230) rfl (flt g3).2.2.1 k) ?_
        show Go FrameEnd p e below s 16 192 (Q0 Z q1 p2 p3 pw h0 n0) (T45.setTop (mkF m 233 #[.val (.long q1), .second, .val (.int p2), .val (.int p3), .val (.int (Int32.ofNat t)), .val (.ref b1), .val (.ref b2), .val (.int (Int32.ofNat (t + sg q1 + d))), .val (.int (1 : Int32)), .val (.int (Int32.ofNat d)), .val (.long (ng (mg q1))), .second, .unset, .unset, .unset] []))
        refine Go.step (fun _ k => XS.lload X45.here hx rfl (hb hby at_233) rfl k) ?_
        show Go FrameEnd p e below s 16 192 (Q0 Z q1 p2 p3 pw h0 n0) (T45.setTop (mkF m 235 #[.val (.long q1), .second, .val (.int p2), .val (.int p3), .val (.int (Int32.ofNat t)), .val (.ref b1), .val (.ref b2), .val (.int (Int32.ofNat (t + sg q1 + d))), .val (.int (1 : Int32)), .val (.int (Int32.ofNat d)), .val (.long (ng (mg q1))), .second, .unset, .unset, .unset] [(.long (ng (mg q1)))]))
        refine Go.step (fun _ k => XS.aload X45.here hx rfl (hb hby at_235) rfl rfl k) ?_
        show Go FrameEnd p e below s 16 192 (Q0 Z q1 p2 p3 pw h0 n0) (T45.setTop (mkF m 237 #[.val (.long q1), .second, .val (.int p2), .val (.int p3), .val (.int (Int32.ofNat t)), .val (.ref b1), .val (.ref b2), .val (.int (Int32.ofNat (t + sg q1 + d))), .val (.int (1 : Int32)), .val (.int (Int32.ofNat d)), .val (.long (ng (mg q1))), .second, .unset, .unset, .unset] [(.ref b2), (.long (ng (mg q1)))]))
        refine Go.step (fun _ k => XS.iload X45.here hx rfl (hb hby at_237) rfl k) ?_
        show Go FrameEnd p e below s 16 192 (Q0 Z q1 p2 p3 pw h0 n0) (T45.setTop (mkF m 239 #[.val (.long q1), .second, .val (.int p2), .val (.int p3), .val (.int (Int32.ofNat t)), .val (.ref b1), .val (.ref b2), .val (.int (Int32.ofNat (t + sg q1 + d))), .val (.int (1 : Int32)), .val (.int (Int32.ofNat d)), .val (.long (ng (mg q1))), .second, .unset, .unset, .unset] [(.int (Int32.ofNat d)), (.ref b2), (.long (ng (mg q1)))]))
        have g3' : ¬ 18 < d := mt (own_lt (i := 18) (by omega) (by omega)).mpr g3
        have hpm := p10_19 (d := d) (by omega)
        have f_52 := (V41.keep K45_0 (ninS (Ne.symm ne_b1_b2) nin0))
        obtain ⟨c53, Ac53, Sc53, Mc53, Gc53⟩ := id f_52
        refine Go.step (X45.laload hx (j := (Int32.ofNat d)) (v := (.long (Int64.ofNat (p10 d)))) Ac53.1 (State.isArrayOf_alike hZ.alike Ac53.2.1) Ac53.2.2 (own_in Sc53 (own_nn (by omega)) (by rw [own_cl (by omega)]; omega)) (Av.at (i := d) Gc53 (own_cl (by omega)) (by omega) rfl) (g := (mkF m 239 #[.val (.long q1), .second, .val (.int p2), .val (.int p3), .val (.int (Int32.ofNat t)), .val (.ref b1), .val (.ref b2), .val (.int (Int32.ofNat (t + sg q1 + d))), .val (.int (1 : Int32)), .val (.int (Int32.ofNat d)), .val (.long (ng (mg q1))), .second, .unset, .unset, .unset] [(.int (Int32.ofNat d)), (.ref b2), (.long (ng (mg q1)))])) rfl rfl (hb hby at_239)) ?_
        show Go FrameEnd p e below s 16 192 (Q0 Z q1 p2 p3 pw h0 n0) (T45.setTop (mkF m 240 #[.val (.long q1), .second, .val (.int p2), .val (.int p3), .val (.int (Int32.ofNat t)), .val (.ref b1), .val (.ref b2), .val (.int (Int32.ofNat (t + sg q1 + d))), .val (.int (1 : Int32)), .val (.int (Int32.ofNat d)), .val (.long (ng (mg q1))), .second, .unset, .unset, .unset] [(.long (Int64.ofNat (p10 d))), (.long (ng (mg q1)))]))
        refine Go.step (fun _ k => XS.lneg X45.here hx rfl (hb hby at_240) rfl k) ?_
        show Go FrameEnd p e below s 16 192 (Q0 Z q1 p2 p3 pw h0 n0) (T45.setTop (mkF m 241 #[.val (.long q1), .second, .val (.int p2), .val (.int p3), .val (.int (Int32.ofNat t)), .val (.ref b1), .val (.ref b2), .val (.int (Int32.ofNat (t + sg q1 + d))), .val (.int (1 : Int32)), .val (.int (Int32.ofNat d)), .val (.long (ng (mg q1))), .second, .unset, .unset, .unset] [(.long (-(Int64.ofNat (p10 d)))), (.long (ng (mg q1)))]))
        rw [own_negL (by omega)]
        show Go FrameEnd p e below s 16 192 (Q0 Z q1 p2 p3 pw h0 n0) (T45.setTop (mkF m 241 #[.val (.long q1), .second, .val (.int p2), .val (.int p3), .val (.int (Int32.ofNat t)), .val (.ref b1), .val (.ref b2), .val (.int (Int32.ofNat (t + sg q1 + d))), .val (.int (1 : Int32)), .val (.int (Int32.ofNat d)), .val (.long (ng (mg q1))), .second, .unset, .unset, .unset] [(.long (ng (p10 d))), (.long (ng (mg q1)))]))
        refine Go.step (fun _ k => XS.lcmp X45.here hx rfl (hb hby at_241) rfl k) ?_
        show Go FrameEnd p e below s 16 192 (Q0 Z q1 p2 p3 pw h0 n0) (T45.setTop (mkF m 242 #[.val (.long q1), .second, .val (.int p2), .val (.int p3), .val (.int (Int32.ofNat t)), .val (.ref b1), .val (.ref b2), .val (.int (Int32.ofNat (t + sg q1 + d))), .val (.int (1 : Int32)), .val (.int (Int32.ofNat d)), .val (.long (ng (mg q1))), .second, .unset, .unset, .unset] [(.int (lcmpW (ng (mg q1)) (ng (p10 d))))]))
        refine Go.step (fun _ k => XS.ifYes X45.here hx rfl (pc0 := 242) (pc' := 247) rfl (hb hby at_242) rfl ((if0 _ _).trans (tlt ((lw_gt _ _).mpr ((ng_lt (by omega) (by omega)).mpr hD.2.2.1))).2.2.1) (by decide) (by decide) k) ?_
        show Go FrameEnd p e below s 16 192 (Q0 Z q1 p2 p3 pw h0 n0) (T45.setTop (mkF m 247 #[.val (.long q1), .second, .val (.int p2), .val (.int p3), .val (.int (Int32.ofNat t)), .val (.ref b1), .val (.ref b2), .val (.int (Int32.ofNat (t + sg q1 + d))), .val (.int (1 : Int32)), .val (.int (Int32.ofNat d)), .val (.long (ng (mg q1))), .second, .unset, .unset, .unset] []))
        exact J247_47  
    refine Go.step (fun _ k => XS.iload X45.here hx rfl (hb hby at_204) rfl k) ?_
    show Go FrameEnd p e below s 16 192 (Q0 Z q1 p2 p3 pw h0 n0) (T45.setTop (mkF m 206 #[.val (.long q1), .second, .val (.int p2), .val (.int p3), .val (.int (Int32.ofNat t)), .val (.ref b1), .val (.ref b2), .val (.int (Int32.ofNat (t + sg q1 + d))), .val (.int (1 : Int32)), .val (.int (Int32.ofNat d)), .val (.long (ng (mg q1))), .second, .unset, .unset, .unset] [(.int (Int32.ofNat d))]))
    refine Go.step (fun _ k => XS.iconst X45.here hx rfl (hb hby at_206) k) ?_
    show Go FrameEnd p e below s 16 192 (Q0 Z q1 p2 p3 pw h0 n0) (T45.setTop (mkF m 207 #[.val (.long q1), .second, .val (.int p2), .val (.int p3), .val (.int (Int32.ofNat t)), .val (.ref b1), .val (.ref b2), .val (.int (Int32.ofNat (t + sg q1 + d))), .val (.int (1 : Int32)), .val (.int (Int32.ofNat d)), .val (.long (ng (mg q1))), .second, .unset, .unset, .unset] [(.int (2 : Int32)), (.int (Int32.ofNat d))]))
    by_cases g2 : (Int32.ofNat d) < (2 : Int32)
    · skip
      refine Go.step (fun _ k => XS.icmpYes X45.here hx rfl (pc0 := 207) (pc' := 226) rfl (hb hby at_207) rfl (tlt g2).1 (by decide) (by decide) k) ?_
      show Go FrameEnd p e below s 16 192 (Q0 Z q1 p2 p3 pw h0 n0) (T45.setTop (mkF m 226 #[.val (.long q1), .second, .val (.int p2), .val (.int p3), .val (.int (Int32.ofNat t)), .val (.ref b1), .val (.ref b2), .val (.int (Int32.ofNat (t + sg q1 + d))), .val (.int (1 : Int32)), .val (.int (Int32.ofNat d)), .val (.long (ng (mg q1))), .second, .unset, .unset, .unset] []))
      exact J226_46  
    · skip
      refine Go.step (fun _ k => XS.icmpNo X45.here hx rfl (hb hby at_207) rfl (flt g2).1 k) ?_
      show Go FrameEnd p e below s 16 192 (Q0 Z q1 p2 p3 pw h0 n0) (T45.setTop (mkF m 210 #[.val (.long q1), .second, .val (.int p2), .val (.int p3), .val (.int (Int32.ofNat t)), .val (.ref b1), .val (.ref b2), .val (.int (Int32.ofNat (t + sg q1 + d))), .val (.int (1 : Int32)), .val (.int (Int32.ofNat d)), .val (.long (ng (mg q1))), .second, .unset, .unset, .unset] []))
      refine Go.step (fun _ k => XS.lload X45.here hx rfl (hb hby at_210) rfl k) ?_
      show Go FrameEnd p e below s 16 192 (Q0 Z q1 p2 p3 pw h0 n0) (T45.setTop (mkF m 212 #[.val (.long q1), .second, .val (.int p2), .val (.int p3), .val (.int (Int32.ofNat t)), .val (.ref b1), .val (.ref b2), .val (.int (Int32.ofNat (t + sg q1 + d))), .val (.int (1 : Int32)), .val (.int (Int32.ofNat d)), .val (.long (ng (mg q1))), .second, .unset, .unset, .unset] [(.long (ng (mg q1)))]))
      refine Go.step (fun _ k => XS.aload X45.here hx rfl (hb hby at_212) rfl rfl k) ?_
      show Go FrameEnd p e below s 16 192 (Q0 Z q1 p2 p3 pw h0 n0) (T45.setTop (mkF m 214 #[.val (.long q1), .second, .val (.int p2), .val (.int p3), .val (.int (Int32.ofNat t)), .val (.ref b1), .val (.ref b2), .val (.int (Int32.ofNat (t + sg q1 + d))), .val (.int (1 : Int32)), .val (.int (Int32.ofNat d)), .val (.long (ng (mg q1))), .second, .unset, .unset, .unset] [(.ref b2), (.long (ng (mg q1)))]))
      refine Go.step (fun _ k => XS.iload X45.here hx rfl (hb hby at_214) rfl k) ?_
      show Go FrameEnd p e below s 16 192 (Q0 Z q1 p2 p3 pw h0 n0) (T45.setTop (mkF m 216 #[.val (.long q1), .second, .val (.int p2), .val (.int p3), .val (.int (Int32.ofNat t)), .val (.ref b1), .val (.ref b2), .val (.int (Int32.ofNat (t + sg q1 + d))), .val (.int (1 : Int32)), .val (.int (Int32.ofNat d)), .val (.long (ng (mg q1))), .second, .unset, .unset, .unset] [(.int (Int32.ofNat d)), (.ref b2), (.long (ng (mg q1)))]))
      refine Go.step (fun _ k => XS.iconst X45.here hx rfl (hb hby at_216) k) ?_
      show Go FrameEnd p e below s 16 192 (Q0 Z q1 p2 p3 pw h0 n0) (T45.setTop (mkF m 217 #[.val (.long q1), .second, .val (.int p2), .val (.int p3), .val (.int (Int32.ofNat t)), .val (.ref b1), .val (.ref b2), .val (.int (Int32.ofNat (t + sg q1 + d))), .val (.int (1 : Int32)), .val (.int (Int32.ofNat d)), .val (.long (ng (mg q1))), .second, .unset, .unset, .unset] [(.int (1 : Int32)), (.int (Int32.ofNat d)), (.ref b2), (.long (ng (mg q1)))]))
      have g2' : ¬ d < 2 := mt (own_lt (j := 2) (by omega) (by omega)).mpr g2
      have hpm := p10_19 (d := d - 1) (by omega)
      refine Go.step (fun _ k => XS.isub X45.here hx rfl (hb hby at_217) rfl k) ?_
      show Go FrameEnd p e below s 16 192 (Q0 Z q1 p2 p3 pw h0 n0) (T45.setTop (mkF m 218 #[.val (.long q1), .second, .val (.int p2), .val (.int p3), .val (.int (Int32.ofNat t)), .val (.ref b1), .val (.ref b2), .val (.int (Int32.ofNat (t + sg q1 + d))), .val (.int (1 : Int32)), .val (.int (Int32.ofNat d)), .val (.long (ng (mg q1))), .second, .unset, .unset, .unset] [(.int ((Int32.ofNat d) - (1 : Int32))), (.ref b2), (.long (ng (mg q1)))]))
      rw [own_sub1 (by omega) (by omega)]
      show Go FrameEnd p e below s 16 192 (Q0 Z q1 p2 p3 pw h0 n0) (T45.setTop (mkF m 218 #[.val (.long q1), .second, .val (.int p2), .val (.int p3), .val (.int (Int32.ofNat t)), .val (.ref b1), .val (.ref b2), .val (.int (Int32.ofNat (t + sg q1 + d))), .val (.int (1 : Int32)), .val (.int (Int32.ofNat d)), .val (.long (ng (mg q1))), .second, .unset, .unset, .unset] [(.int (Int32.ofNat (d - 1))), (.ref b2), (.long (ng (mg q1)))]))
      have f_54 := (V41.keep K45_0 (ninS (Ne.symm ne_b1_b2) nin0))
      obtain ⟨c55, Ac55, Sc55, Mc55, Gc55⟩ := id f_54
      refine Go.step (X45.laload hx (j := (Int32.ofNat (d - 1))) (v := (.long (Int64.ofNat (p10 (d - 1))))) Ac55.1 (State.isArrayOf_alike hZ.alike Ac55.2.1) Ac55.2.2 (own_in Sc55 (own_nn (by omega)) (by rw [own_cl (by omega)]; omega)) (Av.at (i := (d - 1)) Gc55 (own_cl (by omega)) (by omega) rfl) (g := (mkF m 218 #[.val (.long q1), .second, .val (.int p2), .val (.int p3), .val (.int (Int32.ofNat t)), .val (.ref b1), .val (.ref b2), .val (.int (Int32.ofNat (t + sg q1 + d))), .val (.int (1 : Int32)), .val (.int (Int32.ofNat d)), .val (.long (ng (mg q1))), .second, .unset, .unset, .unset] [(.int (Int32.ofNat (d - 1))), (.ref b2), (.long (ng (mg q1)))])) rfl rfl (hb hby at_218)) ?_
      show Go FrameEnd p e below s 16 192 (Q0 Z q1 p2 p3 pw h0 n0) (T45.setTop (mkF m 219 #[.val (.long q1), .second, .val (.int p2), .val (.int p3), .val (.int (Int32.ofNat t)), .val (.ref b1), .val (.ref b2), .val (.int (Int32.ofNat (t + sg q1 + d))), .val (.int (1 : Int32)), .val (.int (Int32.ofNat d)), .val (.long (ng (mg q1))), .second, .unset, .unset, .unset] [(.long (Int64.ofNat (p10 (d - 1)))), (.long (ng (mg q1)))]))
      refine Go.step (fun _ k => XS.lneg X45.here hx rfl (hb hby at_219) rfl k) ?_
      show Go FrameEnd p e below s 16 192 (Q0 Z q1 p2 p3 pw h0 n0) (T45.setTop (mkF m 220 #[.val (.long q1), .second, .val (.int p2), .val (.int p3), .val (.int (Int32.ofNat t)), .val (.ref b1), .val (.ref b2), .val (.int (Int32.ofNat (t + sg q1 + d))), .val (.int (1 : Int32)), .val (.int (Int32.ofNat d)), .val (.long (ng (mg q1))), .second, .unset, .unset, .unset] [(.long (-(Int64.ofNat (p10 (d - 1))))), (.long (ng (mg q1)))]))
      rw [own_negL (by omega)]
      show Go FrameEnd p e below s 16 192 (Q0 Z q1 p2 p3 pw h0 n0) (T45.setTop (mkF m 220 #[.val (.long q1), .second, .val (.int p2), .val (.int p3), .val (.int (Int32.ofNat t)), .val (.ref b1), .val (.ref b2), .val (.int (Int32.ofNat (t + sg q1 + d))), .val (.int (1 : Int32)), .val (.int (Int32.ofNat d)), .val (.long (ng (mg q1))), .second, .unset, .unset, .unset] [(.long (ng (p10 (d - 1)))), (.long (ng (mg q1)))]))
      refine Go.step (fun _ k => XS.lcmp X45.here hx rfl (hb hby at_220) rfl k) ?_
      show Go FrameEnd p e below s 16 192 (Q0 Z q1 p2 p3 pw h0 n0) (T45.setTop (mkF m 221 #[.val (.long q1), .second, .val (.int p2), .val (.int p3), .val (.int (Int32.ofNat t)), .val (.ref b1), .val (.ref b2), .val (.int (Int32.ofNat (t + sg q1 + d))), .val (.int (1 : Int32)), .val (.int (Int32.ofNat d)), .val (.long (ng (mg q1))), .second, .unset, .unset, .unset] [(.int (lcmpW (ng (mg q1)) (ng (p10 (d - 1)))))]))
      refine Go.step (fun _ k => XS.ifYes X45.here hx rfl (pc0 := 221) (pc' := 226) rfl (hb hby at_221) rfl ((if0 _ _).trans (flt (mt (lw_gt _ _).mp (mt (ng_lt (by omega) (by omega)).mp (by rcases hD.2.2.2 with z | z <;> omega)))).2.2.2) (by decide) (by decide) k) ?_
      show Go FrameEnd p e below s 16 192 (Q0 Z q1 p2 p3 pw h0 n0) (T45.setTop (mkF m 226 #[.val (.long q1), .second, .val (.int p2), .val (.int p3), .val (.int (Int32.ofNat t)), .val (.ref b1), .val (.ref b2), .val (.int (Int32.ofNat (t + sg q1 + d))), .val (.int (1 : Int32)), .val (.int (Int32.ofNat d)), .val (.long (ng (mg q1))), .second, .unset, .unset, .unset] []))
      exact J226_46  
  · skip
    refine Go.step (fun _ k => XS.ifYes X45.here hx rfl (pc0 := 155) (pc' := 162) rfl (hb hby at_155) rfl ((if0 _ _).trans (flt (mt (lw_lt _ _).mp hc155)).2.1) (by decide) (by decide) k) ?_
    show Go FrameEnd p e below s 16 192 (Q0 Z q1 p2 p3 pw h0 n0) (T45.setTop (mkF m 162 #[.val (.long q1), .second, .val (.int p2), .val (.int p3), .val (.int (Int32.ofNat t)), .val (.ref b1), .val (.ref b2), .val (.int (Int32.ofNat (t + sg q1 + d))), .unset, .unset, .unset, .unset, .unset, .unset, .unset] []))
    refine Go.step (fun _ k => XS.iconst X45.here hx rfl (hb hby at_162) k) ?_
    show Go FrameEnd p e below s 16 192 (Q0 Z q1 p2 p3 pw h0 n0) (T45.setTop (mkF m 163 #[.val (.long q1), .second, .val (.int p2), .val (.int p3), .val (.int (Int32.ofNat t)), .val (.ref b1), .val (.ref b2), .val (.int (Int32.ofNat (t + sg q1 + d))), .unset, .unset, .unset, .unset, .unset, .unset, .unset] [(.int (0 : Int32))]))
    have hsg : sg q1 = 0 := by unfold sg; rw [if_neg hc155]
    have hq : -q1 = ng (mg q1) := mg_pos hc155
    refine Go.step (fun _ k => XS.istore X45.here hx rfl (hb hby at_163) rfl (l' := #[.val (.long q1), .second, .val (.int p2), .val (.int p3), .val (.int (Int32.ofNat t)), .val (.ref b1), .val (.ref b2), .val (.int (Int32.ofNat (t + sg q1 + d))), .val (.int (0 : Int32)), .unset, .unset, .unset, .unset, .unset, .unset]) rfl k) ?_
    show Go FrameEnd p e below s 16 192 (Q0 Z q1 p2 p3 pw h0 n0) (T45.setTop (mkF m 165 #[.val (.long q1), .second, .val (.int p2), .val (.int p3), .val (.int (Int32.ofNat t)), .val (.ref b1), .val (.ref b2), .val (.int (Int32.ofNat (t + sg q1 + d))), .val (.int (0 : Int32)), .unset, .unset, .unset, .unset, .unset, .unset] []))
    refine Go.step (fun _ k => XS.iload X45.here hx rfl (hb hby at_165) rfl k) ?_
    show Go FrameEnd p e below s 16 192 (Q0 Z q1 p2 p3 pw h0 n0) (T45.setTop (mkF m 167 #[.val (.long q1), .second, .val (.int p2), .val (.int p3), .val (.int (Int32.ofNat t)), .val (.ref b1), .val (.ref b2), .val (.int (Int32.ofNat (t + sg q1 + d))), .val (.int (0 : Int32)), .unset, .unset, .unset, .unset, .unset, .unset] [(.int (Int32.ofNat (t + sg q1 + d)))]))
    refine Go.step (fun _ k => XS.iload X45.here hx rfl (hb hby at_167) rfl k) ?_
    show Go FrameEnd p e below s 16 192 (Q0 Z q1 p2 p3 pw h0 n0) (T45.setTop (mkF m 169 #[.val (.long q1), .second, .val (.int p2), .val (.int p3), .val (.int (Int32.ofNat t)), .val (.ref b1), .val (.ref b2), .val (.int (Int32.ofNat (t + sg q1 + d))), .val (.int (0 : Int32)), .unset, .unset, .unset, .unset, .unset, .unset] [(.int (Int32.ofNat t)), (.int (Int32.ofNat (t + sg q1 + d)))]))
    refine Go.step (fun _ k => XS.isub X45.here hx rfl (hb hby at_169) rfl k) ?_
    show Go FrameEnd p e below s 16 192 (Q0 Z q1 p2 p3 pw h0 n0) (T45.setTop (mkF m 170 #[.val (.long q1), .second, .val (.int p2), .val (.int p3), .val (.int (Int32.ofNat t)), .val (.ref b1), .val (.ref b2), .val (.int (Int32.ofNat (t + sg q1 + d))), .val (.int (0 : Int32)), .unset, .unset, .unset, .unset, .unset, .unset] [(.int ((Int32.ofNat (t + sg q1 + d)) - (Int32.ofNat t)))]))
    refine Go.step (fun _ k => XS.iload X45.here hx rfl (hb hby at_170) rfl k) ?_
    show Go FrameEnd p e below s 16 192 (Q0 Z q1 p2 p3 pw h0 n0) (T45.setTop (mkF m 172 #[.val (.long q1), .second, .val (.int p2), .val (.int p3), .val (.int (Int32.ofNat t)), .val (.ref b1), .val (.ref b2), .val (.int (Int32.ofNat (t + sg q1 + d))), .val (.int (0 : Int32)), .unset, .unset, .unset, .unset, .unset, .unset] [(.int (0 : Int32)), (.int ((Int32.ofNat (t + sg q1 + d)) - (Int32.ofNat t)))]))
    refine Go.step (fun _ k => XS.isub X45.here hx rfl (hb hby at_172) rfl k) ?_
    show Go FrameEnd p e below s 16 192 (Q0 Z q1 p2 p3 pw h0 n0) (T45.setTop (mkF m 173 #[.val (.long q1), .second, .val (.int p2), .val (.int p3), .val (.int (Int32.ofNat t)), .val (.ref b1), .val (.ref b2), .val (.int (Int32.ofNat (t + sg q1 + d))), .val (.int (0 : Int32)), .unset, .unset, .unset, .unset, .unset, .unset] [(.int (((Int32.ofNat (t + sg q1 + d)) - (Int32.ofNat t)) - (0 : Int32)))]))
    rw [show (((Int32.ofNat (t + sg q1 + d)) - (Int32.ofNat t)) - (0 : Int32)) = Int32.ofNat d from by have := own_len (t := t) (s := sg q1) (d := d) (by omega); rw [hsg] at this ⊢; exact this]
    show Go FrameEnd p e below s 16 192 (Q0 Z q1 p2 p3 pw h0 n0) (T45.setTop (mkF m 173 #[.val (.long q1), .second, .val (.int p2), .val (.int p3), .val (.int (Int32.ofNat t)), .val (.ref b1), .val (.ref b2), .val (.int (Int32.ofNat (t + sg q1 + d))), .val (.int (0 : Int32)), .unset, .unset, .unset, .unset, .unset, .unset] [(.int (Int32.ofNat d))]))
    refine Go.step (fun _ k => XS.istore X45.here hx rfl (hb hby at_173) rfl (l' := #[.val (.long q1), .second, .val (.int p2), .val (.int p3), .val (.int (Int32.ofNat t)), .val (.ref b1), .val (.ref b2), .val (.int (Int32.ofNat (t + sg q1 + d))), .val (.int (0 : Int32)), .val (.int (Int32.ofNat d)), .unset, .unset, .unset, .unset, .unset]) rfl k) ?_
    show Go FrameEnd p e below s 16 192 (Q0 Z q1 p2 p3 pw h0 n0) (T45.setTop (mkF m 175 #[.val (.long q1), .second, .val (.int p2), .val (.int p3), .val (.int (Int32.ofNat t)), .val (.ref b1), .val (.ref b2), .val (.int (Int32.ofNat (t + sg q1 + d))), .val (.int (0 : Int32)), .val (.int (Int32.ofNat d)), .unset, .unset, .unset, .unset, .unset] []))
    refine Go.step (fun _ k => XS.iload X45.here hx rfl (hb hby at_175) rfl k) ?_
    show Go FrameEnd p e below s 16 192 (Q0 Z q1 p2 p3 pw h0 n0) (T45.setTop (mkF m 177 #[.val (.long q1), .second, .val (.int p2), .val (.int p3), .val (.int (Int32.ofNat t)), .val (.ref b1), .val (.ref b2), .val (.int (Int32.ofNat (t + sg q1 + d))), .val (.int (0 : Int32)), .val (.int (Int32.ofNat d)), .unset, .unset, .unset, .unset, .unset] [(.int (Int32.ofNat d))]))
    refine Go.step (fun _ k => XS.iconst X45.here hx rfl (hb hby at_177) k) ?_
    show Go FrameEnd p e below s 16 192 (Q0 Z q1 p2 p3 pw h0 n0) (T45.setTop (mkF m 178 #[.val (.long q1), .second, .val (.int p2), .val (.int p3), .val (.int (Int32.ofNat t)), .val (.ref b1), .val (.ref b2), .val (.int (Int32.ofNat (t + sg q1 + d))), .val (.int (0 : Int32)), .val (.int (Int32.ofNat d)), .unset, .unset, .unset, .unset, .unset] [(.int (1 : Int32)), (.int (Int32.ofNat d))]))
    refine Go.step (fun _ k => XS.icmpNo X45.here hx rfl (hb hby at_178) rfl (flt (mt (own_lt (j := 1) (by omega) (by omega)).mp (by omega))).1 k) ?_
    show Go FrameEnd p e below s 16 192 (Q0 Z q1 p2 p3 pw h0 n0) (T45.setTop (mkF m 181 #[.val (.long q1), .second, .val (.int p2), .val (.int p3), .val (.int (Int32.ofNat t)), .val (.ref b1), .val (.ref b2), .val (.int (Int32.ofNat (t + sg q1 + d))), .val (.int (0 : Int32)), .val (.int (Int32.ofNat d)), .unset, .unset, .unset, .unset, .unset] []))
    refine Go.step (fun _ k => XS.iload X45.here hx rfl (hb hby at_181) rfl k) ?_
    show Go FrameEnd p e below s 16 192 (Q0 Z q1 p2 p3 pw h0 n0) (T45.setTop (mkF m 183 #[.val (.long q1), .second, .val (.int p2), .val (.int p3), .val (.int (Int32.ofNat t)), .val (.ref b1), .val (.ref b2), .val (.int (Int32.ofNat (t + sg q1 + d))), .val (.int (0 : Int32)), .val (.int (Int32.ofNat d)), .unset, .unset, .unset, .unset, .unset] [(.int (Int32.ofNat d))]))
    refine Go.step (fun _ k => XS.bipush X45.here hx rfl (hb hby at_183) k) ?_
    show Go FrameEnd p e below s 16 192 (Q0 Z q1 p2 p3 pw h0 n0) (T45.setTop (mkF m 185 #[.val (.long q1), .second, .val (.int p2), .val (.int p3), .val (.int (Int32.ofNat t)), .val (.ref b1), .val (.ref b2), .val (.int (Int32.ofNat (t + sg q1 + d))), .val (.int (0 : Int32)), .val (.int (Int32.ofNat d)), .unset, .unset, .unset, .unset, .unset] [(.int (19 : Int32)), (.int (Int32.ofNat d))]))
    refine Go.step (fun _ k => XS.icmpYes X45.here hx rfl (pc0 := 185) (pc' := 190) rfl (hb hby at_185) rfl (flt (mt (own_lt (i := 19) (by omega) (by omega)).mp (by omega))).2.2.2 (by decide) (by decide) k) ?_
    show Go FrameEnd p e below s 16 192 (Q0 Z q1 p2 p3 pw h0 n0) (T45.setTop (mkF m 190 #[.val (.long q1), .second, .val (.int p2), .val (.int p3), .val (.int (Int32.ofNat t)), .val (.ref b1), .val (.ref b2), .val (.int (Int32.ofNat (t + sg q1 + d))), .val (.int (0 : Int32)), .val (.int (Int32.ofNat d)), .unset, .unset, .unset, .unset, .unset] []))
    refine Go.step (fun _ k => XS.lloadN X45.here hx rfl (hb hby at_190) rfl k) ?_
    show Go FrameEnd p e below s 16 192 (Q0 Z q1 p2 p3 pw h0 n0) (T45.setTop (mkF m 191 #[.val (.long q1), .second, .val (.int p2), .val (.int p3), .val (.int (Int32.ofNat t)), .val (.ref b1), .val (.ref b2), .val (.int (Int32.ofNat (t + sg q1 + d))), .val (.int (0 : Int32)), .val (.int (Int32.ofNat d)), .unset, .unset, .unset, .unset, .unset] [(.long q1)]))
    refine Go.step (fun _ k => XS.lconst X45.here hx rfl (hb hby at_191) k) ?_
    show Go FrameEnd p e below s 16 192 (Q0 Z q1 p2 p3 pw h0 n0) (T45.setTop (mkF m 192 #[.val (.long q1), .second, .val (.int p2), .val (.int p3), .val (.int (Int32.ofNat t)), .val (.ref b1), .val (.ref b2), .val (.int (Int32.ofNat (t + sg q1 + d))), .val (.int (0 : Int32)), .val (.int (Int32.ofNat d)), .unset, .unset, .unset, .unset, .unset] [(.long (0 : Int64)), (.long q1)]))
    refine Go.step (fun _ k => XS.lcmp X45.here hx rfl (hb hby at_192) rfl k) ?_
    show Go FrameEnd p e below s 16 192 (Q0 Z q1 p2 p3 pw h0 n0) (T45.setTop (mkF m 193 #[.val (.long q1), .second, .val (.int p2), .val (.int p3), .val (.int (Int32.ofNat t)), .val (.ref b1), .val (.ref b2), .val (.int (Int32.ofNat (t + sg q1 + d))), .val (.int (0 : Int32)), .val (.int (Int32.ofNat d)), .unset, .unset, .unset, .unset, .unset] [(.int (lcmpW q1 (0 : Int64)))]))
    refine Go.step (fun _ k => XS.ifYes X45.here hx rfl (pc0 := 193) (pc' := 200) rfl (hb hby at_193) rfl ((if0 _ _).trans (flt (mt (lw_lt _ _).mp hc155)).2.1) (by decide) (by decide) k) ?_
    show Go FrameEnd p e below s 16 192 (Q0 Z q1 p2 p3 pw h0 n0) (T45.setTop (mkF m 200 #[.val (.long q1), .second, .val (.int p2), .val (.int p3), .val (.int (Int32.ofNat t)), .val (.ref b1), .val (.ref b2), .val (.int (Int32.ofNat (t + sg q1 + d))), .val (.int (0 : Int32)), .val (.int (Int32.ofNat d)), .unset, .unset, .unset, .unset, .unset] []))
    refine Go.step (fun _ k => XS.lloadN X45.here hx rfl (hb hby at_200) rfl k) ?_
    show Go FrameEnd p e below s 16 192 (Q0 Z q1 p2 p3 pw h0 n0) (T45.setTop (mkF m 201 #[.val (.long q1), .second, .val (.int p2), .val (.int p3), .val (.int (Int32.ofNat t)), .val (.ref b1), .val (.ref b2), .val (.int (Int32.ofNat (t + sg q1 + d))), .val (.int (0 : Int32)), .val (.int (Int32.ofNat d)), .unset, .unset, .unset, .unset, .unset] [(.long q1)]))
    refine Go.step (fun _ k => XS.lneg X45.here hx rfl (hb hby at_201) rfl k) ?_
    show Go FrameEnd p e below s 16 192 (Q0 Z q1 p2 p3 pw h0 n0) (T45.setTop (mkF m 202 #[.val (.long q1), .second, .val (.int p2), .val (.int p3), .val (.int (Int32.ofNat t)), .val (.ref b1), .val (.ref b2), .val (.int (Int32.ofNat (t + sg q1 + d))), .val (.int (0 : Int32)), .val (.int (Int32.ofNat d)), .unset, .unset, .unset, .unset, .unset] [(.long (-q1))]))
    refine Go.step (fun _ k => XS.lstore X45.here hx rfl (hb hby at_202) rfl (l' := #[.val (.long q1), .second, .val (.int p2), .val (.int p3), .val (.int (Int32.ofNat t)), .val (.ref b1), .val (.ref b2), .val (.int (Int32.ofNat (t + sg q1 + d))), .val (.int (0 : Int32)), .val (.int (Int32.ofNat d)), .val (.long (ng (mg q1))), .second, .unset, .unset, .unset]) (by rw [← hq]; rfl) k) ?_
    show Go FrameEnd p e below s 16 192 (Q0 Z q1 p2 p3 pw h0 n0) (T45.setTop (mkF m 204 #[.val (.long q1), .second, .val (.int p2), .val (.int p3), .val (.int (Int32.ofNat t)), .val (.ref b1), .val (.ref b2), .val (.int (Int32.ofNat (t + sg q1 + d))), .val (.int (0 : Int32)), .val (.int (Int32.ofNat d)), .val (.long (ng (mg q1))), .second, .unset, .unset, .unset] []))
    have J226_56 : Go FrameEnd p e below s 16 192 (Q0 Z q1 p2 p3 pw h0 n0) (T45.setTop (mkF m 226 #[.val (.long q1), .second, .val (.int p2), .val (.int p3), .val (.int (Int32.ofNat t)), .val (.ref b1), .val (.ref b2), .val (.int (Int32.ofNat (t + sg q1 + d))), .val (.int (0 : Int32)), .val (.int (Int32.ofNat d)), .val (.long (ng (mg q1))), .second, .unset, .unset, .unset] [])) := by
      skip
      show Go FrameEnd p e below s 16 192 (Q0 Z q1 p2 p3 pw h0 n0) (T45.setTop (mkF m 226 #[.val (.long q1), .second, .val (.int p2), .val (.int p3), .val (.int (Int32.ofNat t)), .val (.ref b1), .val (.ref b2), .val (.int (Int32.ofNat (t + sg q1 + d))), .val (.int (0 : Int32)), .val (.int (Int32.ofNat d)), .val (.long (ng (mg q1))), .second, .unset, .unset, .unset] []))
      have J247_57 : Go FrameEnd p e below s 16 192 (Q0 Z q1 p2 p3 pw h0 n0) (T45.setTop (mkF m 247 #[.val (.long q1), .second, .val (.int p2), .val (.int p3), .val (.int (Int32.ofNat t)), .val (.ref b1), .val (.ref b2), .val (.int (Int32.ofNat (t + sg q1 + d))), .val (.int (0 : Int32)), .val (.int (Int32.ofNat d)), .val (.long (ng (mg q1))), .second, .unset, .unset, .unset] [])) := by
        skip
        show Go FrameEnd p e below s 16 192 (Q0 Z q1 p2 p3 pw h0 n0) (T45.setTop (mkF m 247 #[.val (.long q1), .second, .val (.int p2), .val (.int p3), .val (.int (Int32.ofNat t)), .val (.ref b1), .val (.ref b2), .val (.int (Int32.ofNat (t + sg q1 + d))), .val (.int (0 : Int32)), .val (.int (Int32.ofNat d)), .val (.long (ng (mg q1))), .second, .unset, .unset, .unset] []))
        refine Go.step (fun _ k => XS.iloadN X45.here hx rfl (hb hby at_247) rfl k) ?_
        show Go FrameEnd p e below s 16 192 (Q0 Z q1 p2 p3 pw h0 n0) (T45.setTop (mkF m 248 #[.val (.long q1), .second, .val (.int p2), .val (.int p3), .val (.int (Int32.ofNat t)), .val (.ref b1), .val (.ref b2), .val (.int (Int32.ofNat (t + sg q1 + d))), .val (.int (0 : Int32)), .val (.int (Int32.ofNat d)), .val (.long (ng (mg q1))), .second, .unset, .unset, .unset] [(.int p3)]))
        refine Go.step (X45.ldcInt hx hown (mvT hZ (hw _ (List.mem_of_getElem? (i := 27) rfl))) (g := (mkF m 248 #[.val (.long q1), .second, .val (.int p2), .val (.int p3), .val (.int (Int32.ofNat t)), .val (.ref b1), .val (.ref b2), .val (.int (Int32.ofNat (t + sg q1 + d))), .val (.int (0 : Int32)), .val (.int (Int32.ofNat d)), .val (.long (ng (mg q1))), .second, .unset, .unset, .unset] [(.int p3)])) rfl (hb hby at_248)) ?_
        show Go FrameEnd p e below s 16 192 (Q0 Z q1 p2 p3 pw h0 n0) (T45.setTop (mkF m 250 #[.val (.long q1), .second, .val (.int p2), .val (.int p3), .val (.int (Int32.ofNat t)), .val (.ref b1), .val (.ref b2), .val (.int (Int32.ofNat (t + sg q1 + d))), .val (.int (0 : Int32)), .val (.int (Int32.ofNat d)), .val (.long (ng (mg q1))), .second, .unset, .unset, .unset] [(.int (2147483647 : Int32)), (.int p3)]))
        refine Go.step (fun _ k => XS.iand X45.here hx rfl (hb hby at_250) rfl k) ?_
        show Go FrameEnd p e below s 16 192 (Q0 Z q1 p2 p3 pw h0 n0) (T45.setTop (mkF m 251 #[.val (.long q1), .second, .val (.int p2), .val (.int p3), .val (.int (Int32.ofNat t)), .val (.ref b1), .val (.ref b2), .val (.int (Int32.ofNat (t + sg q1 + d))), .val (.int (0 : Int32)), .val (.int (Int32.ofNat d)), .val (.long (ng (mg q1))), .second, .unset, .unset, .unset] [(.int (p3 &&& (2147483647 : Int32)))]))
        refine Go.step (fun _ k => XS.bipush X45.here hx rfl (hb hby at_251) k) ?_
        show Go FrameEnd p e below s 16 192 (Q0 Z q1 p2 p3 pw h0 n0) (T45.setTop (mkF m 253 #[.val (.long q1), .second, .val (.int p2), .val (.int p3), .val (.int (Int32.ofNat t)), .val (.ref b1), .val (.ref b2), .val (.int (Int32.ofNat (t + sg q1 + d))), .val (.int (0 : Int32)), .val (.int (Int32.ofNat d)), .val (.long (ng (mg q1))), .second, .unset, .unset, .unset] [(.int (24 : Int32)), (.int (p3 &&& (2147483647 : Int32)))]))
        refine Go.step (fun _ k => iremM X45 hx rfl (hb hby at_253) rfl (by decide) k) ?_
        show Go FrameEnd p e below s 16 192 (Q0 Z q1 p2 p3 pw h0 n0) (T45.setTop (mkF m 254 #[.val (.long q1), .second, .val (.int p2), .val (.int p3), .val (.int (Int32.ofNat t)), .val (.ref b1), .val (.ref b2), .val (.int (Int32.ofNat (t + sg q1 + d))), .val (.int (0 : Int32)), .val (.int (Int32.ofNat d)), .val (.long (ng (mg q1))), .second, .unset, .unset, .unset] [(.int ((p3 &&& (2147483647 : Int32)) % (24 : Int32)))]))
        obtain ⟨jj, hjj, ej⟩ := own_24 p3
        rw [ej]
        show Go FrameEnd p e below s 16 192 (Q0 Z q1 p2 p3 pw h0 n0) (T45.setTop (mkF m 254 #[.val (.long q1), .second, .val (.int p2), .val (.int p3), .val (.int (Int32.ofNat t)), .val (.ref b1), .val (.ref b2), .val (.int (Int32.ofNat (t + sg q1 + d))), .val (.int (0 : Int32)), .val (.int (Int32.ofNat d)), .val (.long (ng (mg q1))), .second, .unset, .unset, .unset] [(.int (Int32.ofNat jj))]))
        refine Go.step (fun _ k => XS.istore X45.here hx rfl (hb hby at_254) rfl (l' := #[.val (.long q1), .second, .val (.int p2), .val (.int p3), .val (.int (Int32.ofNat t)), .val (.ref b1), .val (.ref b2), .val (.int (Int32.ofNat (t + sg q1 + d))), .val (.int (0 : Int32)), .val (.int (Int32.ofNat d)), .val (.long (ng (mg q1))), .second, .val (.int (Int32.ofNat jj)), .unset, .unset]) rfl k) ?_
        show Go FrameEnd p e below s 16 192 (Q0 Z q1 p2 p3 pw h0 n0) (T45.setTop (mkF m 256 #[.val (.long q1), .second, .val (.int p2), .val (.int p3), .val (.int (Int32.ofNat t)), .val (.ref b1), .val (.ref b2), .val (.int (Int32.ofNat (t + sg q1 + d))), .val (.int (0 : Int32)), .val (.int (Int32.ofNat d)), .val (.long (ng (mg q1))), .second, .val (.int (Int32.ofNat jj)), .unset, .unset] []))
        have J323_58 : ∀ (x : Int32), ∀ (s14 : Slot), (Wf q1 t jj = .int x) → Go FrameEnd p e below s 16 192 (Q0 Z q1 p2 p3 pw h0 n0) (T45.setTop (mkF m 323 #[.val (.long q1), .second, .val (.int p2), .val (.int p3), .val (.int (Int32.ofNat t)), .val (.ref b1), .val (.ref b2), .val (.int (Int32.ofNat (t + sg q1 + d))), .val (.int (0 : Int32)), .val (.int (Int32.ofNat d)), .val (.long (ng (mg q1))), .second, .val (.int (Int32.ofNat jj)), .val (.int x), s14] [])) := by
          intro x s14 hx323
          show Go FrameEnd p e below s 16 192 (Q0 Z q1 p2 p3 pw h0 n0) (T45.setTop (mkF m 323 #[.val (.long q1), .second, .val (.int p2), .val (.int p3), .val (.int (Int32.ofNat t)), .val (.ref b1), .val (.ref b2), .val (.int (Int32.ofNat (t + sg q1 + d))), .val (.int (0 : Int32)), .val (.int (Int32.ofNat d)), .val (.long (ng (mg q1))), .second, .val (.int (Int32.ofNat jj)), .val (.int x), s14] []))
          refine Go.step (fun _ k => XS.aload X45.here hx rfl (hb hby at_323) rfl rfl k) ?_
          show Go FrameEnd p e below s 16 192 (Q0 Z q1 p2 p3 pw h0 n0) (T45.setTop (mkF m 325 #[.val (.long q1), .second, .val (.int p2), .val (.int p3), .val (.int (Int32.ofNat t)), .val (.ref b1), .val (.ref b2), .val (.int (Int32.ofNat (t + sg q1 + d))), .val (.int (0 : Int32)), .val (.int (Int32.ofNat d)), .val (.long (ng (mg q1))), .second, .val (.int (Int32.ofNat jj)), .val (.int x), s14] [(.ref b1)]))
          refine Go.step (fun _ k => XS.iload X45.here hx rfl (hb hby at_325) rfl k) ?_
          show Go FrameEnd p e below s 16 192 (Q0 Z q1 p2 p3 pw h0 n0) (T45.setTop (mkF m 327 #[.val (.long q1), .second, .val (.int p2), .val (.int p3), .val (.int (Int32.ofNat t)), .val (.ref b1), .val (.ref b2), .val (.int (Int32.ofNat (t + sg q1 + d))), .val (.int (0 : Int32)), .val (.int (Int32.ofNat d)), .val (.long (ng (mg q1))), .second, .val (.int (Int32.ofNat jj)), .val (.int x), s14] [(.int (Int32.ofNat jj)), (.ref b1)]))
          obtain ⟨c59, Ac59, Sc59, Mc59, Gc59⟩ := id xA45_1
          refine Go.step (X45.baloadBytes hx (j := (Int32.ofNat jj)) (v := (.int x)) Ac59.1 (State.isArrayOf_alike hZ.alike Ac59.2.1) Ac59.2.2 (own_in Sc59 (own_nn (by omega)) (by rw [own_cl (by omega)]; omega)) (Av.at (i := jj) Gc59 (own_cl (by omega)) (by omega) hx323) (g := (mkF m 327 #[.val (.long q1), .second, .val (.int p2), .val (.int p3), .val (.int (Int32.ofNat t)), .val (.ref b1), .val (.ref b2), .val (.int (Int32.ofNat (t + sg q1 + d))), .val (.int (0 : Int32)), .val (.int (Int32.ofNat d)), .val (.long (ng (mg q1))), .second, .val (.int (Int32.ofNat jj)), .val (.int x), s14] [(.int (Int32.ofNat jj)), (.ref b1)])) rfl rfl (hb hby at_327)) ?_
          show Go FrameEnd p e below s 16 192 (Q0 Z q1 p2 p3 pw h0 n0) (T45.setTop (mkF m 328 #[.val (.long q1), .second, .val (.int p2), .val (.int p3), .val (.int (Int32.ofNat t)), .val (.ref b1), .val (.ref b2), .val (.int (Int32.ofNat (t + sg q1 + d))), .val (.int (0 : Int32)), .val (.int (Int32.ofNat d)), .val (.long (ng (mg q1))), .second, .val (.int (Int32.ofNat jj)), .val (.int x), s14] [(.int x)]))
          refine Go.step (fun _ k => XS.iload X45.here hx rfl (hb hby at_328) rfl k) ?_
          show Go FrameEnd p e below s 16 192 (Q0 Z q1 p2 p3 pw h0 n0) (T45.setTop (mkF m 330 #[.val (.long q1), .second, .val (.int p2), .val (.int p3), .val (.int (Int32.ofNat t)), .val (.ref b1), .val (.ref b2), .val (.int (Int32.ofNat (t + sg q1 + d))), .val (.int (0 : Int32)), .val (.int (Int32.ofNat d)), .val (.long (ng (mg q1))), .second, .val (.int (Int32.ofNat jj)), .val (.int x), s14] [(.int x), (.int x)]))
          refine Go.step (fun _ k => XS.icmpNo X45.here hx rfl (hb hby at_330) rfl (teq rfl).2 k) ?_
          show Go FrameEnd p e below s 16 192 (Q0 Z q1 p2 p3 pw h0 n0) (T45.setTop (mkF m 333 #[.val (.long q1), .second, .val (.int p2), .val (.int p3), .val (.int (Int32.ofNat t)), .val (.ref b1), .val (.ref b2), .val (.int (Int32.ofNat (t + sg q1 + d))), .val (.int (0 : Int32)), .val (.int (Int32.ofNat d)), .val (.long (ng (mg q1))), .second, .val (.int (Int32.ofNat jj)), .val (.int x), s14] []))
          refine Go.step (fun _ k => XS.iconst X45.here hx rfl (hb hby at_333) k) ?_
          show Go FrameEnd p e below s 16 192 (Q0 Z q1 p2 p3 pw h0 n0) (T45.setTop (mkF m 334 #[.val (.long q1), .second, .val (.int p2), .val (.int p3), .val (.int (Int32.ofNat t)), .val (.ref b1), .val (.ref b2), .val (.int (Int32.ofNat (t + sg q1 + d))), .val (.int (0 : Int32)), .val (.int (Int32.ofNat d)), .val (.long (ng (mg q1))), .second, .val (.int (Int32.ofNat jj)), .val (.int x), s14] [(.int (1 : Int32))]))
          refine Go.step (fun _ k => XS.goto X45.here hx rfl (pc0 := 334) (pc' := 338) rfl (hb hby at_334) (by decide) (by decide) k) ?_
          show Go FrameEnd p e below s 16 192 (Q0 Z q1 p2 p3 pw h0 n0) (T45.setTop (mkF m 338 #[.val (.long q1), .second, .val (.int p2), .val (.int p3), .val (.int (Int32.ofNat t)), .val (.ref b1), .val (.ref b2), .val (.int (Int32.ofNat (t + sg q1 + d))), .val (.int (0 : Int32)), .val (.int (Int32.ofNat d)), .val (.long (ng (mg q1))), .second, .val (.int (Int32.ofNat jj)), .val (.int x), s14] [(.int (1 : Int32))]))
          refine Go.retN X45 hx (t := .boolean) Bd.returns (by simp) (by decide) (hb hby at_338) (BodyLoose.notSynchronized Bd) rfl (by decide) (by decide) ?_
          exact ⟨rfl, N45⟩
        refine Go.step (fun _ k => XS.iload X45.here hx rfl (hb hby at_256) rfl k) ?_
        show Go FrameEnd p e below s 16 192 (Q0 Z q1 p2 p3 pw h0 n0) (T45.setTop (mkF m 258 #[.val (.long q1), .second, .val (.int p2), .val (.int p3), .val (.int (Int32.ofNat t)), .val (.ref b1), .val (.ref b2), .val (.int (Int32.ofNat (t + sg q1 + d))), .val (.int (0 : Int32)), .val (.int (Int32.ofNat d)), .val (.long (ng (mg q1))), .second, .val (.int (Int32.ofNat jj)), .unset, .unset] [(.int (Int32.ofNat jj))]))
        refine Go.step (fun _ k => XS.iload X45.here hx rfl (hb hby at_258) rfl k) ?_
        show Go FrameEnd p e below s 16 192 (Q0 Z q1 p2 p3 pw h0 n0) (T45.setTop (mkF m 260 #[.val (.long q1), .second, .val (.int p2), .val (.int p3), .val (.int (Int32.ofNat t)), .val (.ref b1), .val (.ref b2), .val (.int (Int32.ofNat (t + sg q1 + d))), .val (.int (0 : Int32)), .val (.int (Int32.ofNat d)), .val (.long (ng (mg q1))), .second, .val (.int (Int32.ofNat jj)), .unset, .unset] [(.int (Int32.ofNat t)), (.int (Int32.ofNat jj))]))
        by_cases g4 : (Int32.ofNat jj) < (Int32.ofNat t)
        · skip
          refine Go.step (fun _ k => XS.icmpYes X45.here hx rfl (pc0 := 260) (pc' := 270) rfl (hb hby at_260) rfl (tlt g4).1 (by decide) (by decide) k) ?_
          show Go FrameEnd p e below s 16 192 (Q0 Z q1 p2 p3 pw h0 n0) (T45.setTop (mkF m 270 #[.val (.long q1), .second, .val (.int p2), .val (.int p3), .val (.int (Int32.ofNat t)), .val (.ref b1), .val (.ref b2), .val (.int (Int32.ofNat (t + sg q1 + d))), .val (.int (0 : Int32)), .val (.int (Int32.ofNat d)), .val (.long (ng (mg q1))), .second, .val (.int (Int32.ofNat jj)), .unset, .unset] []))
          refine Go.step (fun _ k => XS.iconst X45.here hx rfl (hb hby at_270) k) ?_
          show Go FrameEnd p e below s 16 192 (Q0 Z q1 p2 p3 pw h0 n0) (T45.setTop (mkF m 271 #[.val (.long q1), .second, .val (.int p2), .val (.int p3), .val (.int (Int32.ofNat t)), .val (.ref b1), .val (.ref b2), .val (.int (Int32.ofNat (t + sg q1 + d))), .val (.int (0 : Int32)), .val (.int (Int32.ofNat d)), .val (.long (ng (mg q1))), .second, .val (.int (Int32.ofNat jj)), .unset, .unset] [(.int (0 : Int32))]))
          refine Go.step (fun _ k => XS.istore X45.here hx rfl (hb hby at_271) rfl (l' := #[.val (.long q1), .second, .val (.int p2), .val (.int p3), .val (.int (Int32.ofNat t)), .val (.ref b1), .val (.ref b2), .val (.int (Int32.ofNat (t + sg q1 + d))), .val (.int (0 : Int32)), .val (.int (Int32.ofNat d)), .val (.long (ng (mg q1))), .second, .val (.int (Int32.ofNat jj)), .val (.int (0 : Int32)), .unset]) rfl k) ?_
          show Go FrameEnd p e below s 16 192 (Q0 Z q1 p2 p3 pw h0 n0) (T45.setTop (mkF m 273 #[.val (.long q1), .second, .val (.int p2), .val (.int p3), .val (.int (Int32.ofNat t)), .val (.ref b1), .val (.ref b2), .val (.int (Int32.ofNat (t + sg q1 + d))), .val (.int (0 : Int32)), .val (.int (Int32.ofNat d)), .val (.long (ng (mg q1))), .second, .val (.int (Int32.ofNat jj)), .val (.int (0 : Int32)), .unset] []))
          refine Go.step (fun _ k => XS.goto X45.here hx rfl (pc0 := 273) (pc' := 323) rfl (hb hby at_273) (by decide) (by decide) k) ?_
          show Go FrameEnd p e below s 16 192 (Q0 Z q1 p2 p3 pw h0 n0) (T45.setTop (mkF m 323 #[.val (.long q1), .second, .val (.int p2), .val (.int p3), .val (.int (Int32.ofNat t)), .val (.ref b1), .val (.ref b2), .val (.int (Int32.ofNat (t + sg q1 + d))), .val (.int (0 : Int32)), .val (.int (Int32.ofNat d)), .val (.long (ng (mg q1))), .second, .val (.int (Int32.ofNat jj)), .val (.int (0 : Int32)), .unset] []))
          exact J323_58  (0 : Int32) (.unset) (Wf_out (by rw [← ed]; exact Or.inl ((own_lt (by omega) (by omega)).mp g4)) (by rw [← ed]; omega))
        · skip
          refine Go.step (fun _ k => XS.icmpNo X45.here hx rfl (hb hby at_260) rfl (flt g4).1 k) ?_
          show Go FrameEnd p e below s 16 192 (Q0 Z q1 p2 p3 pw h0 n0) (T45.setTop (mkF m 263 #[.val (.long q1), .second, .val (.int p2), .val (.int p3), .val (.int (Int32.ofNat t)), .val (.ref b1), .val (.ref b2), .val (.int (Int32.ofNat (t + sg q1 + d))), .val (.int (0 : Int32)), .val (.int (Int32.ofNat d)), .val (.long (ng (mg q1))), .second, .val (.int (Int32.ofNat jj)), .unset, .unset] []))
          refine Go.step (fun _ k => XS.iload X45.here hx rfl (hb hby at_263) rfl k) ?_
          show Go FrameEnd p e below s 16 192 (Q0 Z q1 p2 p3 pw h0 n0) (T45.setTop (mkF m 265 #[.val (.long q1), .second, .val (.int p2), .val (.int p3), .val (.int (Int32.ofNat t)), .val (.ref b1), .val (.ref b2), .val (.int (Int32.ofNat (t + sg q1 + d))), .val (.int (0 : Int32)), .val (.int (Int32.ofNat d)), .val (.long (ng (mg q1))), .second, .val (.int (Int32.ofNat jj)), .unset, .unset] [(.int (Int32.ofNat jj))]))
          refine Go.step (fun _ k => XS.iload X45.here hx rfl (hb hby at_265) rfl k) ?_
          show Go FrameEnd p e below s 16 192 (Q0 Z q1 p2 p3 pw h0 n0) (T45.setTop (mkF m 267 #[.val (.long q1), .second, .val (.int p2), .val (.int p3), .val (.int (Int32.ofNat t)), .val (.ref b1), .val (.ref b2), .val (.int (Int32.ofNat (t + sg q1 + d))), .val (.int (0 : Int32)), .val (.int (Int32.ofNat d)), .val (.long (ng (mg q1))), .second, .val (.int (Int32.ofNat jj)), .unset, .unset] [(.int (Int32.ofNat (t + sg q1 + d))), (.int (Int32.ofNat jj))]))
          by_cases g5 : (Int32.ofNat jj) < (Int32.ofNat (t + sg q1 + d))
          · skip
            refine Go.step (fun _ k => XS.icmpYes X45.here hx rfl (pc0 := 267) (pc' := 276) rfl (hb hby at_267) rfl (tlt g5).1 (by decide) (by decide) k) ?_
            show Go FrameEnd p e below s 16 192 (Q0 Z q1 p2 p3 pw h0 n0) (T45.setTop (mkF m 276 #[.val (.long q1), .second, .val (.int p2), .val (.int p3), .val (.int (Int32.ofNat t)), .val (.ref b1), .val (.ref b2), .val (.int (Int32.ofNat (t + sg q1 + d))), .val (.int (0 : Int32)), .val (.int (Int32.ofNat d)), .val (.long (ng (mg q1))), .second, .val (.int (Int32.ofNat jj)), .unset, .unset] []))
            refine Go.step (fun _ k => XS.iload X45.here hx rfl (hb hby at_276) rfl k) ?_
            show Go FrameEnd p e below s 16 192 (Q0 Z q1 p2 p3 pw h0 n0) (T45.setTop (mkF m 278 #[.val (.long q1), .second, .val (.int p2), .val (.int p3), .val (.int (Int32.ofNat t)), .val (.ref b1), .val (.ref b2), .val (.int (Int32.ofNat (t + sg q1 + d))), .val (.int (0 : Int32)), .val (.int (Int32.ofNat d)), .val (.long (ng (mg q1))), .second, .val (.int (Int32.ofNat jj)), .unset, .unset] [(.int (0 : Int32))]))
            refine Go.step (fun _ k => XS.iconst X45.here hx rfl (hb hby at_278) k) ?_
            show Go FrameEnd p e below s 16 192 (Q0 Z q1 p2 p3 pw h0 n0) (T45.setTop (mkF m 279 #[.val (.long q1), .second, .val (.int p2), .val (.int p3), .val (.int (Int32.ofNat t)), .val (.ref b1), .val (.ref b2), .val (.int (Int32.ofNat (t + sg q1 + d))), .val (.int (0 : Int32)), .val (.int (Int32.ofNat d)), .val (.long (ng (mg q1))), .second, .val (.int (Int32.ofNat jj)), .unset, .unset] [(.int (1 : Int32)), (.int (0 : Int32))]))
            refine Go.step (fun _ k => XS.icmpYes X45.here hx rfl (pc0 := 279) (pc' := 296) rfl (hb hby at_279) rfl (feq (by decide)).2 (by decide) (by decide) k) ?_
            show Go FrameEnd p e below s 16 192 (Q0 Z q1 p2 p3 pw h0 n0) (T45.setTop (mkF m 296 #[.val (.long q1), .second, .val (.int p2), .val (.int p3), .val (.int (Int32.ofNat t)), .val (.ref b1), .val (.ref b2), .val (.int (Int32.ofNat (t + sg q1 + d))), .val (.int (0 : Int32)), .val (.int (Int32.ofNat d)), .val (.long (ng (mg q1))), .second, .val (.int (Int32.ofNat jj)), .unset, .unset] []))
            refine Go.step (fun _ k => XS.iload X45.here hx rfl (hb hby at_296) rfl k) ?_
            show Go FrameEnd p e below s 16 192 (Q0 Z q1 p2 p3 pw h0 n0) (T45.setTop (mkF m 298 #[.val (.long q1), .second, .val (.int p2), .val (.int p3), .val (.int (Int32.ofNat t)), .val (.ref b1), .val (.ref b2), .val (.int (Int32.ofNat (t + sg q1 + d))), .val (.int (0 : Int32)), .val (.int (Int32.ofNat d)), .val (.long (ng (mg q1))), .second, .val (.int (Int32.ofNat jj)), .unset, .unset] [(.int (Int32.ofNat (t + sg q1 + d)))]))
            refine Go.step (fun _ k => XS.iconst X45.here hx rfl (hb hby at_298) k) ?_
            show Go FrameEnd p e below s 16 192 (Q0 Z q1 p2 p3 pw h0 n0) (T45.setTop (mkF m 299 #[.val (.long q1), .second, .val (.int p2), .val (.int p3), .val (.int (Int32.ofNat t)), .val (.ref b1), .val (.ref b2), .val (.int (Int32.ofNat (t + sg q1 + d))), .val (.int (0 : Int32)), .val (.int (Int32.ofNat d)), .val (.long (ng (mg q1))), .second, .val (.int (Int32.ofNat jj)), .unset, .unset] [(.int (1 : Int32)), (.int (Int32.ofNat (t + sg q1 + d)))]))
            refine Go.step (fun _ k => XS.isub X45.here hx rfl (hb hby at_299) rfl k) ?_
            show Go FrameEnd p e below s 16 192 (Q0 Z q1 p2 p3 pw h0 n0) (T45.setTop (mkF m 300 #[.val (.long q1), .second, .val (.int p2), .val (.int p3), .val (.int (Int32.ofNat t)), .val (.ref b1), .val (.ref b2), .val (.int (Int32.ofNat (t + sg q1 + d))), .val (.int (0 : Int32)), .val (.int (Int32.ofNat d)), .val (.long (ng (mg q1))), .second, .val (.int (Int32.ofNat jj)), .unset, .unset] [(.int ((Int32.ofNat (t + sg q1 + d)) - (1 : Int32)))]))
            refine Go.step (fun _ k => XS.iload X45.here hx rfl (hb hby at_300) rfl k) ?_
            show Go FrameEnd p e below s 16 192 (Q0 Z q1 p2 p3 pw h0 n0) (T45.setTop (mkF m 302 #[.val (.long q1), .second, .val (.int p2), .val (.int p3), .val (.int (Int32.ofNat t)), .val (.ref b1), .val (.ref b2), .val (.int (Int32.ofNat (t + sg q1 + d))), .val (.int (0 : Int32)), .val (.int (Int32.ofNat d)), .val (.long (ng (mg q1))), .second, .val (.int (Int32.ofNat jj)), .unset, .unset] [(.int (Int32.ofNat jj)), (.int ((Int32.ofNat (t + sg q1 + d)) - (1 : Int32)))]))
            refine Go.step (fun _ k => XS.isub X45.here hx rfl (hb hby at_302) rfl k) ?_
            show Go FrameEnd p e below s 16 192 (Q0 Z q1 p2 p3 pw h0 n0) (T45.setTop (mkF m 303 #[.val (.long q1), .second, .val (.int p2), .val (.int p3), .val (.int (Int32.ofNat t)), .val (.ref b1), .val (.ref b2), .val (.int (Int32.ofNat (t + sg q1 + d))), .val (.int (0 : Int32)), .val (.int (Int32.ofNat d)), .val (.long (ng (mg q1))), .second, .val (.int (Int32.ofNat jj)), .unset, .unset] [(.int (((Int32.ofNat (t + sg q1 + d)) - (1 : Int32)) - (Int32.ofNat jj)))]))
            have h4 := mt (own_lt (i := jj) (j := t) (by omega) (by omega)).mpr g4
            have h5 := (own_lt (i := jj) (j := t + sg q1 + d) (by omega) (by omega)).mp g5
            rw [own_kk (by omega) (by omega)]
            show Go FrameEnd p e below s 16 192 (Q0 Z q1 p2 p3 pw h0 n0) (T45.setTop (mkF m 303 #[.val (.long q1), .second, .val (.int p2), .val (.int p3), .val (.int (Int32.ofNat t)), .val (.ref b1), .val (.ref b2), .val (.int (Int32.ofNat (t + sg q1 + d))), .val (.int (0 : Int32)), .val (.int (Int32.ofNat d)), .val (.long (ng (mg q1))), .second, .val (.int (Int32.ofNat jj)), .unset, .unset] [(.int (Int32.ofNat (t + sg q1 + d - 1 - jj)))]))
            refine Go.step (fun _ k => XS.istore X45.here hx rfl (hb hby at_303) rfl (l' := #[.val (.long q1), .second, .val (.int p2), .val (.int p3), .val (.int (Int32.ofNat t)), .val (.ref b1), .val (.ref b2), .val (.int (Int32.ofNat (t + sg q1 + d))), .val (.int (0 : Int32)), .val (.int (Int32.ofNat d)), .val (.long (ng (mg q1))), .second, .val (.int (Int32.ofNat jj)), .unset, .val (.int (Int32.ofNat (t + sg q1 + d - 1 - jj)))]) rfl k) ?_
            show Go FrameEnd p e below s 16 192 (Q0 Z q1 p2 p3 pw h0 n0) (T45.setTop (mkF m 305 #[.val (.long q1), .second, .val (.int p2), .val (.int p3), .val (.int (Int32.ofNat t)), .val (.ref b1), .val (.ref b2), .val (.int (Int32.ofNat (t + sg q1 + d))), .val (.int (0 : Int32)), .val (.int (Int32.ofNat d)), .val (.long (ng (mg q1))), .second, .val (.int (Int32.ofNat jj)), .unset, .val (.int (Int32.ofNat (t + sg q1 + d - 1 - jj)))] []))
            refine Go.step (fun _ k => XS.bipush X45.here hx rfl (hb hby at_305) k) ?_
            show Go FrameEnd p e below s 16 192 (Q0 Z q1 p2 p3 pw h0 n0) (T45.setTop (mkF m 307 #[.val (.long q1), .second, .val (.int p2), .val (.int p3), .val (.int (Int32.ofNat t)), .val (.ref b1), .val (.ref b2), .val (.int (Int32.ofNat (t + sg q1 + d))), .val (.int (0 : Int32)), .val (.int (Int32.ofNat d)), .val (.long (ng (mg q1))), .second, .val (.int (Int32.ofNat jj)), .unset, .val (.int (Int32.ofNat (t + sg q1 + d - 1 - jj)))] [(.int (48 : Int32))]))
            refine Go.step (fun _ k => XS.lload X45.here hx rfl (hb hby at_307) rfl k) ?_
            show Go FrameEnd p e below s 16 192 (Q0 Z q1 p2 p3 pw h0 n0) (T45.setTop (mkF m 309 #[.val (.long q1), .second, .val (.int p2), .val (.int p3), .val (.int (Int32.ofNat t)), .val (.ref b1), .val (.ref b2), .val (.int (Int32.ofNat (t + sg q1 + d))), .val (.int (0 : Int32)), .val (.int (Int32.ofNat d)), .val (.long (ng (mg q1))), .second, .val (.int (Int32.ofNat jj)), .unset, .val (.int (Int32.ofNat (t + sg q1 + d - 1 - jj)))] [(.long (ng (mg q1))), (.int (48 : Int32))]))
            refine Go.step (fun _ k => XS.aload X45.here hx rfl (hb hby at_309) rfl rfl k) ?_
            show Go FrameEnd p e below s 16 192 (Q0 Z q1 p2 p3 pw h0 n0) (T45.setTop (mkF m 311 #[.val (.long q1), .second, .val (.int p2), .val (.int p3), .val (.int (Int32.ofNat t)), .val (.ref b1), .val (.ref b2), .val (.int (Int32.ofNat (t + sg q1 + d))), .val (.int (0 : Int32)), .val (.int (Int32.ofNat d)), .val (.long (ng (mg q1))), .second, .val (.int (Int32.ofNat jj)), .unset, .val (.int (Int32.ofNat (t + sg q1 + d - 1 - jj)))] [(.ref b2), (.long (ng (mg q1))), (.int (48 : Int32))]))
            refine Go.step (fun _ k => XS.iload X45.here hx rfl (hb hby at_311) rfl k) ?_
            show Go FrameEnd p e below s 16 192 (Q0 Z q1 p2 p3 pw h0 n0) (T45.setTop (mkF m 313 #[.val (.long q1), .second, .val (.int p2), .val (.int p3), .val (.int (Int32.ofNat t)), .val (.ref b1), .val (.ref b2), .val (.int (Int32.ofNat (t + sg q1 + d))), .val (.int (0 : Int32)), .val (.int (Int32.ofNat d)), .val (.long (ng (mg q1))), .second, .val (.int (Int32.ofNat jj)), .unset, .val (.int (Int32.ofNat (t + sg q1 + d - 1 - jj)))] [(.int (Int32.ofNat (t + sg q1 + d - 1 - jj))), (.ref b2), (.long (ng (mg q1))), (.int (48 : Int32))]))
            have f_60 := (V41.keep K45_0 (ninS (Ne.symm ne_b1_b2) nin0))
            obtain ⟨c61, Ac61, Sc61, Mc61, Gc61⟩ := id f_60
            refine Go.step (X45.laload hx (j := (Int32.ofNat (t + sg q1 + d - 1 - jj))) (v := (.long (Int64.ofNat (p10 (t + sg q1 + d - 1 - jj))))) Ac61.1 (State.isArrayOf_alike hZ.alike Ac61.2.1) Ac61.2.2 (own_in Sc61 (own_nn (by omega)) (by rw [own_cl (by omega)]; omega)) (Av.at (i := (t + sg q1 + d - 1 - jj)) Gc61 (own_cl (by omega)) (by omega) rfl) (g := (mkF m 313 #[.val (.long q1), .second, .val (.int p2), .val (.int p3), .val (.int (Int32.ofNat t)), .val (.ref b1), .val (.ref b2), .val (.int (Int32.ofNat (t + sg q1 + d))), .val (.int (0 : Int32)), .val (.int (Int32.ofNat d)), .val (.long (ng (mg q1))), .second, .val (.int (Int32.ofNat jj)), .unset, .val (.int (Int32.ofNat (t + sg q1 + d - 1 - jj)))] [(.int (Int32.ofNat (t + sg q1 + d - 1 - jj))), (.ref b2), (.long (ng (mg q1))), (.int (48 : Int32))])) rfl rfl (hb hby at_313)) ?_
            show Go FrameEnd p e below s 16 192 (Q0 Z q1 p2 p3 pw h0 n0) (T45.setTop (mkF m 314 #[.val (.long q1), .second, .val (.int p2), .val (.int p3), .val (.int (Int32.ofNat t)), .val (.ref b1), .val (.ref b2), .val (.int (Int32.ofNat (t + sg q1 + d))), .val (.int (0 : Int32)), .val (.int (Int32.ofNat d)), .val (.long (ng (mg q1))), .second, .val (.int (Int32.ofNat jj)), .unset, .val (.int (Int32.ofNat (t + sg q1 + d - 1 - jj)))] [(.long (Int64.ofNat (p10 (t + sg q1 + d - 1 - jj)))), (.long (ng (mg q1))), (.int (48 : Int32))]))
            have hk18 : t + sg q1 + d - 1 - jj ≤ 18 := by omega
            have hpk := p10_19 hk18
            have hpp := p10_pos (t + sg q1 + d - 1 - jj)
            refine Go.step (fun _ k => XS.ldiv X45.here hx rfl (hb hby at_314) rfl (own_pnz hk18) k) ?_
            show Go FrameEnd p e below s 16 192 (Q0 Z q1 p2 p3 pw h0 n0) (T45.setTop (mkF m 315 #[.val (.long q1), .second, .val (.int p2), .val (.int p3), .val (.int (Int32.ofNat t)), .val (.ref b1), .val (.ref b2), .val (.int (Int32.ofNat (t + sg q1 + d))), .val (.int (0 : Int32)), .val (.int (Int32.ofNat d)), .val (.long (ng (mg q1))), .second, .val (.int (Int32.ofNat jj)), .unset, .val (.int (Int32.ofNat (t + sg q1 + d - 1 - jj)))] [(.long ((ng (mg q1)) / (Int64.ofNat (p10 (t + sg q1 + d - 1 - jj))))), (.int (48 : Int32))]))
            rw [own_divL hM9 hpp hpk]
            show Go FrameEnd p e below s 16 192 (Q0 Z q1 p2 p3 pw h0 n0) (T45.setTop (mkF m 315 #[.val (.long q1), .second, .val (.int p2), .val (.int p3), .val (.int (Int32.ofNat t)), .val (.ref b1), .val (.ref b2), .val (.int (Int32.ofNat (t + sg q1 + d))), .val (.int (0 : Int32)), .val (.int (Int32.ofNat d)), .val (.long (ng (mg q1))), .second, .val (.int (Int32.ofNat jj)), .unset, .val (.int (Int32.ofNat (t + sg q1 + d - 1 - jj)))] [(.long (ng (mg q1 / p10 (t + sg q1 + d - 1 - jj)))), (.int (48 : Int32))]))
            refine Go.step (X45.ldc2Long hx hown (mvT hZ (hw _ (List.mem_of_getElem? (i := 2) rfl))) (g := (mkF m 315 #[.val (.long q1), .second, .val (.int p2), .val (.int p3), .val (.int (Int32.ofNat t)), .val (.ref b1), .val (.ref b2), .val (.int (Int32.ofNat (t + sg q1 + d))), .val (.int (0 : Int32)), .val (.int (Int32.ofNat d)), .val (.long (ng (mg q1))), .second, .val (.int (Int32.ofNat jj)), .unset, .val (.int (Int32.ofNat (t + sg q1 + d - 1 - jj)))] [(.long (ng (mg q1 / p10 (t + sg q1 + d - 1 - jj)))), (.int (48 : Int32))])) rfl (hb hby at_315)) ?_
            show Go FrameEnd p e below s 16 192 (Q0 Z q1 p2 p3 pw h0 n0) (T45.setTop (mkF m 318 #[.val (.long q1), .second, .val (.int p2), .val (.int p3), .val (.int (Int32.ofNat t)), .val (.ref b1), .val (.ref b2), .val (.int (Int32.ofNat (t + sg q1 + d))), .val (.int (0 : Int32)), .val (.int (Int32.ofNat d)), .val (.long (ng (mg q1))), .second, .val (.int (Int32.ofNat jj)), .unset, .val (.int (Int32.ofNat (t + sg q1 + d - 1 - jj)))] [(.long (10 : Int64)), (.long (ng (mg q1 / p10 (t + sg q1 + d - 1 - jj)))), (.int (48 : Int32))]))
            refine Go.step (fun _ k => own_lrem X45 hx rfl (hb hby at_318) rfl (by decide) k) ?_
            show Go FrameEnd p e below s 16 192 (Q0 Z q1 p2 p3 pw h0 n0) (T45.setTop (mkF m 319 #[.val (.long q1), .second, .val (.int p2), .val (.int p3), .val (.int (Int32.ofNat t)), .val (.ref b1), .val (.ref b2), .val (.int (Int32.ofNat (t + sg q1 + d))), .val (.int (0 : Int32)), .val (.int (Int32.ofNat d)), .val (.long (ng (mg q1))), .second, .val (.int (Int32.ofNat jj)), .unset, .val (.int (Int32.ofNat (t + sg q1 + d - 1 - jj)))] [(.long ((ng (mg q1 / p10 (t + sg q1 + d - 1 - jj))) % (10 : Int64))), (.int (48 : Int32))]))
            refine Go.step (fun _ k => XS.l2i X45.here hx rfl (hb hby at_319) rfl k) ?_
            show Go FrameEnd p e below s 16 192 (Q0 Z q1 p2 p3 pw h0 n0) (T45.setTop (mkF m 320 #[.val (.long q1), .second, .val (.int p2), .val (.int p3), .val (.int (Int32.ofNat t)), .val (.ref b1), .val (.ref b2), .val (.int (Int32.ofNat (t + sg q1 + d))), .val (.int (0 : Int32)), .val (.int (Int32.ofNat d)), .val (.long (ng (mg q1))), .second, .val (.int (Int32.ofNat jj)), .unset, .val (.int (Int32.ofNat (t + sg q1 + d - 1 - jj)))] [(.int ((ng (mg q1 / p10 (t + sg q1 + d - 1 - jj))) % (10 : Int64)).toInt32), (.int (48 : Int32))]))
            refine Go.step (fun _ k => XS.isub X45.here hx rfl (hb hby at_320) rfl k) ?_
            show Go FrameEnd p e below s 16 192 (Q0 Z q1 p2 p3 pw h0 n0) (T45.setTop (mkF m 321 #[.val (.long q1), .second, .val (.int p2), .val (.int p3), .val (.int (Int32.ofNat t)), .val (.ref b1), .val (.ref b2), .val (.int (Int32.ofNat (t + sg q1 + d))), .val (.int (0 : Int32)), .val (.int (Int32.ofNat d)), .val (.long (ng (mg q1))), .second, .val (.int (Int32.ofNat jj)), .unset, .val (.int (Int32.ofNat (t + sg q1 + d - 1 - jj)))] [(.int ((48 : Int32) - ((ng (mg q1 / p10 (t + sg q1 + d - 1 - jj))) % (10 : Int64)).toInt32))]))
            rw [own_expL (Nat.le_trans (Nat.div_le_self _ _) hM9)]
            show Go FrameEnd p e below s 16 192 (Q0 Z q1 p2 p3 pw h0 n0) (T45.setTop (mkF m 321 #[.val (.long q1), .second, .val (.int p2), .val (.int p3), .val (.int (Int32.ofNat t)), .val (.ref b1), .val (.ref b2), .val (.int (Int32.ofNat (t + sg q1 + d))), .val (.int (0 : Int32)), .val (.int (Int32.ofNat d)), .val (.long (ng (mg q1))), .second, .val (.int (Int32.ofNat jj)), .unset, .val (.int (Int32.ofNat (t + sg q1 + d - 1 - jj)))] [(.int (Int32.ofNat (48 + mg q1 / p10 (t + sg q1 + d - 1 - jj) % 10)))]))
            refine Go.step (fun _ k => XS.istore X45.here hx rfl (hb hby at_321) rfl (l' := #[.val (.long q1), .second, .val (.int p2), .val (.int p3), .val (.int (Int32.ofNat t)), .val (.ref b1), .val (.ref b2), .val (.int (Int32.ofNat (t + sg q1 + d))), .val (.int (0 : Int32)), .val (.int (Int32.ofNat d)), .val (.long (ng (mg q1))), .second, .val (.int (Int32.ofNat jj)), .val (.int (Int32.ofNat (48 + mg q1 / p10 (t + sg q1 + d - 1 - jj) % 10))), .val (.int (Int32.ofNat (t + sg q1 + d - 1 - jj)))]) rfl k) ?_
            show Go FrameEnd p e below s 16 192 (Q0 Z q1 p2 p3 pw h0 n0) (T45.setTop (mkF m 323 #[.val (.long q1), .second, .val (.int p2), .val (.int p3), .val (.int (Int32.ofNat t)), .val (.ref b1), .val (.ref b2), .val (.int (Int32.ofNat (t + sg q1 + d))), .val (.int (0 : Int32)), .val (.int (Int32.ofNat d)), .val (.long (ng (mg q1))), .second, .val (.int (Int32.ofNat jj)), .val (.int (Int32.ofNat (48 + mg q1 / p10 (t + sg q1 + d - 1 - jj) % 10))), .val (.int (Int32.ofNat (t + sg q1 + d - 1 - jj)))] []))
            exact J323_58  (Int32.ofNat (48 + mg q1 / p10 (t + sg q1 + d - 1 - jj) % 10)) (.val (.int (Int32.ofNat (t + sg q1 + d - 1 - jj)))) ((Wf_dig (by omega) (by rw [← ed]; omega)).trans (by rw [← ed]))
          · skip
            refine Go.step (fun _ k => XS.icmpNo X45.here hx rfl (hb hby at_267) rfl (flt g5).1 k) ?_
            show Go FrameEnd p e below s 16 192 (Q0 Z q1 p2 p3 pw h0 n0) (T45.setTop (mkF m 270 #[.val (.long q1), .second, .val (.int p2), .val (.int p3), .val (.int (Int32.ofNat t)), .val (.ref b1), .val (.ref b2), .val (.int (Int32.ofNat (t + sg q1 + d))), .val (.int (0 : Int32)), .val (.int (Int32.ofNat d)), .val (.long (ng (mg q1))), .second, .val (.int (Int32.ofNat jj)), .unset, .unset] []))
            refine Go.step (fun _ k => XS.iconst X45.here hx rfl (hb hby at_270) k) ?_
            show Go FrameEnd p e below s 16 192 (Q0 Z q1 p2 p3 pw h0 n0) (T45.setTop (mkF m 271 #[.val (.long q1), .second, .val (.int p2), .val (.int p3), .val (.int (Int32.ofNat t)), .val (.ref b1), .val (.ref b2), .val (.int (Int32.ofNat (t + sg q1 + d))), .val (.int (0 : Int32)), .val (.int (Int32.ofNat d)), .val (.long (ng (mg q1))), .second, .val (.int (Int32.ofNat jj)), .unset, .unset] [(.int (0 : Int32))]))
            refine Go.step (fun _ k => XS.istore X45.here hx rfl (hb hby at_271) rfl (l' := #[.val (.long q1), .second, .val (.int p2), .val (.int p3), .val (.int (Int32.ofNat t)), .val (.ref b1), .val (.ref b2), .val (.int (Int32.ofNat (t + sg q1 + d))), .val (.int (0 : Int32)), .val (.int (Int32.ofNat d)), .val (.long (ng (mg q1))), .second, .val (.int (Int32.ofNat jj)), .val (.int (0 : Int32)), .unset]) rfl k) ?_
            show Go FrameEnd p e below s 16 192 (Q0 Z q1 p2 p3 pw h0 n0) (T45.setTop (mkF m 273 #[.val (.long q1), .second, .val (.int p2), .val (.int p3), .val (.int (Int32.ofNat t)), .val (.ref b1), .val (.ref b2), .val (.int (Int32.ofNat (t + sg q1 + d))), .val (.int (0 : Int32)), .val (.int (Int32.ofNat d)), .val (.long (ng (mg q1))), .second, .val (.int (Int32.ofNat jj)), .val (.int (0 : Int32)), .unset] []))
            refine Go.step (fun _ k => XS.goto X45.here hx rfl (pc0 := 273) (pc' := 323) rfl (hb hby at_273) (by decide) (by decide) k) ?_
            show Go FrameEnd p e below s 16 192 (Q0 Z q1 p2 p3 pw h0 n0) (T45.setTop (mkF m 323 #[.val (.long q1), .second, .val (.int p2), .val (.int p3), .val (.int (Int32.ofNat t)), .val (.ref b1), .val (.ref b2), .val (.int (Int32.ofNat (t + sg q1 + d))), .val (.int (0 : Int32)), .val (.int (Int32.ofNat d)), .val (.long (ng (mg q1))), .second, .val (.int (Int32.ofNat jj)), .val (.int (0 : Int32)), .unset] []))
            exact J323_58  (0 : Int32) (.unset) (Wf_out (by rw [← ed]; have z := mt (own_lt (i := jj) (j := t + sg q1 + d) (by omega) (by omega)).mpr g5; omega) (by rw [← ed]; omega))
      refine Go.step (fun _ k => XS.iload X45.here hx rfl (hb hby at_226) rfl k) ?_
      show Go FrameEnd p e below s 16 192 (Q0 Z q1 p2 p3 pw h0 n0) (T45.setTop (mkF m 228 #[.val (.long q1), .second, .val (.int p2), .val (.int p3), .val (.int (Int32.ofNat t)), .val (.ref b1), .val (.ref b2), .val (.int (Int32.ofNat (t + sg q1 + d))), .val (.int (0 : Int32)), .val (.int (Int32.ofNat d)), .val (.long (ng (mg q1))), .second, .unset, .unset, .unset] [(.int (Int32.ofNat d))]))
      refine Go.step (fun _ k => XS.bipush X45.here hx rfl (hb hby at_228) k) ?_
      show Go FrameEnd p e below s 16 192 (Q0 Z q1 p2 p3 pw h0 n0) (T45.setTop (mkF m 230 #[.val (.long q1), .second, .val (.int p2), .val (.int p3), .val (.int (Int32.ofNat t)), .val (.ref b1), .val (.ref b2), .val (.int (Int32.ofNat (t + sg q1 + d))), .val (.int (0 : Int32)), .val (.int (Int32.ofNat d)), .val (.long (ng (mg q1))), .second, .unset, .unset, .unset] [(.int (18 : Int32)), (.int (Int32.ofNat d))]))
      by_cases g3 : (18 : Int32) < (Int32.ofNat d)
      · skip
        refine Go.step (fun _ k => XS.icmpYes X45.here hx rfl (pc0 := 230) (pc' := 247) rfl (hb hby at_230) rfl (tlt g3).2.2.1 (by decide) (by decide) k) ?_
        show Go FrameEnd p e below s 16 192 (Q0 Z q1 p2 p3 pw h0 n0) (T45.setTop (mkF m 247 #[.val (.long q1), .second, .val (.int p2), .val (.int p3), .val (.int (Int32.ofNat t)), .val (.ref b1), .val (.ref b2), .val (.int (Int32.ofNat (t + sg q1 + d))), .val (.int (0 : Int32)), .val (.int (Int32.ofNat d)), .val (.long (ng (mg q1))), .second, .unset, .unset, .unset] []))
        exact J247_57  
      · skip
        refine Go.step (fun _ k => XS.icmpNo X45.here hx rfl (hb hby at_230) rfl (flt g3).2.2.1 k) ?_
        show Go FrameEnd p e below s 16 192 (Q0 Z q1 p2 p3 pw h0 n0) (T45.setTop (mkF m 233 #[.val (.long q1), .second, .val (.int p2), .val (.int p3), .val (.int (Int32.ofNat t)), .val (.ref b1), .val (.ref b2), .val (.int (Int32.ofNat (t + sg q1 + d))), .val (.int (0 : Int32)), .val (.int (Int32.ofNat d)), .val (.long (ng (mg q1))), .second, .unset, .unset, .unset] []))
        refine Go.step (fun _ k => XS.lload X45.here hx rfl (hb hby at_233) rfl k) ?_
        show Go FrameEnd p e below s 16 192 (Q0 Z q1 p2 p3 pw h0 n0) (T45.setTop (mkF m 235 #[.val (.long q1), .second, .val (.int p2), .val (.int p3), .val (.int (Int32.ofNat t)), .val (.ref b1), .val (.ref b2), .val (.int (Int32.ofNat (t + sg q1 + d))), .val (.int (0 : Int32)), .val (.int (Int32.ofNat d)), .val (.long (ng (mg q1))), .second, .unset, .unset, .unset] [(.long (ng (mg q1)))]))
        refine Go.step (fun _ k => XS.aload X45.here hx rfl (hb hby at_235) rfl rfl k) ?_
        show Go FrameEnd p e below s 16 192 (Q0 Z q1 p2 p3 pw h0 n0) (T45.setTop (mkF m 237 #[.val (.long q1), .second, .val (.int p2), .val (.int p3), .val (.int (Int32.ofNat t)), .val (.ref b1), .val (.ref b2), .val (.int (Int32.ofNat (t + sg q1 + d))), .val (.int (0 : Int32)), .val (.int (Int32.ofNat d)), .val (.long (ng (mg q1))), .second, .unset, .unset, .unset] [(.ref b2), (.long (ng (mg q1)))]))
        refine Go.step (fun _ k => XS.iload X45.here hx rfl (hb hby at_237) rfl k) ?_
        show Go FrameEnd p e below s 16 192 (Q0 Z q1 p2 p3 pw h0 n0) (T45.setTop (mkF m 239 #[.val (.long q1), .second, .val (.int p2), .val (.int p3), .val (.int (Int32.ofNat t)), .val (.ref b1), .val (.ref b2), .val (.int (Int32.ofNat (t + sg q1 + d))), .val (.int (0 : Int32)), .val (.int (Int32.ofNat d)), .val (.long (ng (mg q1))), .second, .unset, .unset, .unset] [(.int (Int32.ofNat d)), (.ref b2), (.long (ng (mg q1)))]))
        have g3' : ¬ 18 < d := mt (own_lt (i := 18) (by omega) (by omega)).mpr g3
        have hpm := p10_19 (d := d) (by omega)
        have f_62 := (V41.keep K45_0 (ninS (Ne.symm ne_b1_b2) nin0))
        obtain ⟨c63, Ac63, Sc63, Mc63, Gc63⟩ := id f_62
        refine Go.step (X45.laload hx (j := (Int32.ofNat d)) (v := (.long (Int64.ofNat (p10 d)))) Ac63.1 (State.isArrayOf_alike hZ.alike Ac63.2.1) Ac63.2.2 (own_in Sc63 (own_nn (by omega)) (by rw [own_cl (by omega)]; omega)) (Av.at (i := d) Gc63 (own_cl (by omega)) (by omega) rfl) (g := (mkF m 239 #[.val (.long q1), .second, .val (.int p2), .val (.int p3), .val (.int (Int32.ofNat t)), .val (.ref b1), .val (.ref b2), .val (.int (Int32.ofNat (t + sg q1 + d))), .val (.int (0 : Int32)), .val (.int (Int32.ofNat d)), .val (.long (ng (mg q1))), .second, .unset, .unset, .unset] [(.int (Int32.ofNat d)), (.ref b2), (.long (ng (mg q1)))])) rfl rfl (hb hby at_239)) ?_
        show Go FrameEnd p e below s 16 192 (Q0 Z q1 p2 p3 pw h0 n0) (T45.setTop (mkF m 240 #[.val (.long q1), .second, .val (.int p2), .val (.int p3), .val (.int (Int32.ofNat t)), .val (.ref b1), .val (.ref b2), .val (.int (Int32.ofNat (t + sg q1 + d))), .val (.int (0 : Int32)), .val (.int (Int32.ofNat d)), .val (.long (ng (mg q1))), .second, .unset, .unset, .unset] [(.long (Int64.ofNat (p10 d))), (.long (ng (mg q1)))]))
        refine Go.step (fun _ k => XS.lneg X45.here hx rfl (hb hby at_240) rfl k) ?_
        show Go FrameEnd p e below s 16 192 (Q0 Z q1 p2 p3 pw h0 n0) (T45.setTop (mkF m 241 #[.val (.long q1), .second, .val (.int p2), .val (.int p3), .val (.int (Int32.ofNat t)), .val (.ref b1), .val (.ref b2), .val (.int (Int32.ofNat (t + sg q1 + d))), .val (.int (0 : Int32)), .val (.int (Int32.ofNat d)), .val (.long (ng (mg q1))), .second, .unset, .unset, .unset] [(.long (-(Int64.ofNat (p10 d)))), (.long (ng (mg q1)))]))
        rw [own_negL (by omega)]
        show Go FrameEnd p e below s 16 192 (Q0 Z q1 p2 p3 pw h0 n0) (T45.setTop (mkF m 241 #[.val (.long q1), .second, .val (.int p2), .val (.int p3), .val (.int (Int32.ofNat t)), .val (.ref b1), .val (.ref b2), .val (.int (Int32.ofNat (t + sg q1 + d))), .val (.int (0 : Int32)), .val (.int (Int32.ofNat d)), .val (.long (ng (mg q1))), .second, .unset, .unset, .unset] [(.long (ng (p10 d))), (.long (ng (mg q1)))]))
        refine Go.step (fun _ k => XS.lcmp X45.here hx rfl (hb hby at_241) rfl k) ?_
        show Go FrameEnd p e below s 16 192 (Q0 Z q1 p2 p3 pw h0 n0) (T45.setTop (mkF m 242 #[.val (.long q1), .second, .val (.int p2), .val (.int p3), .val (.int (Int32.ofNat t)), .val (.ref b1), .val (.ref b2), .val (.int (Int32.ofNat (t + sg q1 + d))), .val (.int (0 : Int32)), .val (.int (Int32.ofNat d)), .val (.long (ng (mg q1))), .second, .unset, .unset, .unset] [(.int (lcmpW (ng (mg q1)) (ng (p10 d))))]))
        refine Go.step (fun _ k => XS.ifYes X45.here hx rfl (pc0 := 242) (pc' := 247) rfl (hb hby at_242) rfl ((if0 _ _).trans (tlt ((lw_gt _ _).mpr ((ng_lt (by omega) (by omega)).mpr hD.2.2.1))).2.2.1) (by decide) (by decide) k) ?_
        show Go FrameEnd p e below s 16 192 (Q0 Z q1 p2 p3 pw h0 n0) (T45.setTop (mkF m 247 #[.val (.long q1), .second, .val (.int p2), .val (.int p3), .val (.int (Int32.ofNat t)), .val (.ref b1), .val (.ref b2), .val (.int (Int32.ofNat (t + sg q1 + d))), .val (.int (0 : Int32)), .val (.int (Int32.ofNat d)), .val (.long (ng (mg q1))), .second, .unset, .unset, .unset] []))
        exact J247_57  
    refine Go.step (fun _ k => XS.iload X45.here hx rfl (hb hby at_204) rfl k) ?_
    show Go FrameEnd p e below s 16 192 (Q0 Z q1 p2 p3 pw h0 n0) (T45.setTop (mkF m 206 #[.val (.long q1), .second, .val (.int p2), .val (.int p3), .val (.int (Int32.ofNat t)), .val (.ref b1), .val (.ref b2), .val (.int (Int32.ofNat (t + sg q1 + d))), .val (.int (0 : Int32)), .val (.int (Int32.ofNat d)), .val (.long (ng (mg q1))), .second, .unset, .unset, .unset] [(.int (Int32.ofNat d))]))
    refine Go.step (fun _ k => XS.iconst X45.here hx rfl (hb hby at_206) k) ?_
    show Go FrameEnd p e below s 16 192 (Q0 Z q1 p2 p3 pw h0 n0) (T45.setTop (mkF m 207 #[.val (.long q1), .second, .val (.int p2), .val (.int p3), .val (.int (Int32.ofNat t)), .val (.ref b1), .val (.ref b2), .val (.int (Int32.ofNat (t + sg q1 + d))), .val (.int (0 : Int32)), .val (.int (Int32.ofNat d)), .val (.long (ng (mg q1))), .second, .unset, .unset, .unset] [(.int (2 : Int32)), (.int (Int32.ofNat d))]))
    by_cases g2 : (Int32.ofNat d) < (2 : Int32)
    · skip
      refine Go.step (fun _ k => XS.icmpYes X45.here hx rfl (pc0 := 207) (pc' := 226) rfl (hb hby at_207) rfl (tlt g2).1 (by decide) (by decide) k) ?_
      show Go FrameEnd p e below s 16 192 (Q0 Z q1 p2 p3 pw h0 n0) (T45.setTop (mkF m 226 #[.val (.long q1), .second, .val (.int p2), .val (.int p3), .val (.int (Int32.ofNat t)), .val (.ref b1), .val (.ref b2), .val (.int (Int32.ofNat (t + sg q1 + d))), .val (.int (0 : Int32)), .val (.int (Int32.ofNat d)), .val (.long (ng (mg q1))), .second, .unset, .unset, .unset] []))
      exact J226_56  
    · skip
      refine Go.step (fun _ k => XS.icmpNo X45.here hx rfl (hb hby at_207) rfl (flt g2).1 k) ?_
      show Go FrameEnd p e below s 16 192 (Q0 Z q1 p2 p3 pw h0 n0) (T45.setTop (mkF m 210 #[.val (.long q1), .second, .val (.int p2), .val (.int p3), .val (.int (Int32.ofNat t)), .val (.ref b1), .val (.ref b2), .val (.int (Int32.ofNat (t + sg q1 + d))), .val (.int (0 : Int32)), .val (.int (Int32.ofNat d)), .val (.long (ng (mg q1))), .second, .unset, .unset, .unset] []))
      refine Go.step (fun _ k => XS.lload X45.here hx rfl (hb hby at_210) rfl k) ?_
      show Go FrameEnd p e below s 16 192 (Q0 Z q1 p2 p3 pw h0 n0) (T45.setTop (mkF m 212 #[.val (.long q1), .second, .val (.int p2), .val (.int p3), .val (.int (Int32.ofNat t)), .val (.ref b1), .val (.ref b2), .val (.int (Int32.ofNat (t + sg q1 + d))), .val (.int (0 : Int32)), .val (.int (Int32.ofNat d)), .val (.long (ng (mg q1))), .second, .unset, .unset, .unset] [(.long (ng (mg q1)))]))
      refine Go.step (fun _ k => XS.aload X45.here hx rfl (hb hby at_212) rfl rfl k) ?_
      show Go FrameEnd p e below s 16 192 (Q0 Z q1 p2 p3 pw h0 n0) (T45.setTop (mkF m 214 #[.val (.long q1), .second, .val (.int p2), .val (.int p3), .val (.int (Int32.ofNat t)), .val (.ref b1), .val (.ref b2), .val (.int (Int32.ofNat (t + sg q1 + d))), .val (.int (0 : Int32)), .val (.int (Int32.ofNat d)), .val (.long (ng (mg q1))), .second, .unset, .unset, .unset] [(.ref b2), (.long (ng (mg q1)))]))
      refine Go.step (fun _ k => XS.iload X45.here hx rfl (hb hby at_214) rfl k) ?_
      show Go FrameEnd p e below s 16 192 (Q0 Z q1 p2 p3 pw h0 n0) (T45.setTop (mkF m 216 #[.val (.long q1), .second, .val (.int p2), .val (.int p3), .val (.int (Int32.ofNat t)), .val (.ref b1), .val (.ref b2), .val (.int (Int32.ofNat (t + sg q1 + d))), .val (.int (0 : Int32)), .val (.int (Int32.ofNat d)), .val (.long (ng (mg q1))), .second, .unset, .unset, .unset] [(.int (Int32.ofNat d)), (.ref b2), (.long (ng (mg q1)))]))
      refine Go.step (fun _ k => XS.iconst X45.here hx rfl (hb hby at_216) k) ?_
      show Go FrameEnd p e below s 16 192 (Q0 Z q1 p2 p3 pw h0 n0) (T45.setTop (mkF m 217 #[.val (.long q1), .second, .val (.int p2), .val (.int p3), .val (.int (Int32.ofNat t)), .val (.ref b1), .val (.ref b2), .val (.int (Int32.ofNat (t + sg q1 + d))), .val (.int (0 : Int32)), .val (.int (Int32.ofNat d)), .val (.long (ng (mg q1))), .second, .unset, .unset, .unset] [(.int (1 : Int32)), (.int (Int32.ofNat d)), (.ref b2), (.long (ng (mg q1)))]))
      have g2' : ¬ d < 2 := mt (own_lt (j := 2) (by omega) (by omega)).mpr g2
      have hpm := p10_19 (d := d - 1) (by omega)
      refine Go.step (fun _ k => XS.isub X45.here hx rfl (hb hby at_217) rfl k) ?_
      show Go FrameEnd p e below s 16 192 (Q0 Z q1 p2 p3 pw h0 n0) (T45.setTop (mkF m 218 #[.val (.long q1), .second, .val (.int p2), .val (.int p3), .val (.int (Int32.ofNat t)), .val (.ref b1), .val (.ref b2), .val (.int (Int32.ofNat (t + sg q1 + d))), .val (.int (0 : Int32)), .val (.int (Int32.ofNat d)), .val (.long (ng (mg q1))), .second, .unset, .unset, .unset] [(.int ((Int32.ofNat d) - (1 : Int32))), (.ref b2), (.long (ng (mg q1)))]))
      rw [own_sub1 (by omega) (by omega)]
      show Go FrameEnd p e below s 16 192 (Q0 Z q1 p2 p3 pw h0 n0) (T45.setTop (mkF m 218 #[.val (.long q1), .second, .val (.int p2), .val (.int p3), .val (.int (Int32.ofNat t)), .val (.ref b1), .val (.ref b2), .val (.int (Int32.ofNat (t + sg q1 + d))), .val (.int (0 : Int32)), .val (.int (Int32.ofNat d)), .val (.long (ng (mg q1))), .second, .unset, .unset, .unset] [(.int (Int32.ofNat (d - 1))), (.ref b2), (.long (ng (mg q1)))]))
      have f_64 := (V41.keep K45_0 (ninS (Ne.symm ne_b1_b2) nin0))
      obtain ⟨c65, Ac65, Sc65, Mc65, Gc65⟩ := id f_64
      refine Go.step (X45.laload hx (j := (Int32.ofNat (d - 1))) (v := (.long (Int64.ofNat (p10 (d - 1))))) Ac65.1 (State.isArrayOf_alike hZ.alike Ac65.2.1) Ac65.2.2 (own_in Sc65 (own_nn (by omega)) (by rw [own_cl (by omega)]; omega)) (Av.at (i := (d - 1)) Gc65 (own_cl (by omega)) (by omega) rfl) (g := (mkF m 218 #[.val (.long q1), .second, .val (.int p2), .val (.int p3), .val (.int (Int32.ofNat t)), .val (.ref b1), .val (.ref b2), .val (.int (Int32.ofNat (t + sg q1 + d))), .val (.int (0 : Int32)), .val (.int (Int32.ofNat d)), .val (.long (ng (mg q1))), .second, .unset, .unset, .unset] [(.int (Int32.ofNat (d - 1))), (.ref b2), (.long (ng (mg q1)))])) rfl rfl (hb hby at_218)) ?_
      show Go FrameEnd p e below s 16 192 (Q0 Z q1 p2 p3 pw h0 n0) (T45.setTop (mkF m 219 #[.val (.long q1), .second, .val (.int p2), .val (.int p3), .val (.int (Int32.ofNat t)), .val (.ref b1), .val (.ref b2), .val (.int (Int32.ofNat (t + sg q1 + d))), .val (.int (0 : Int32)), .val (.int (Int32.ofNat d)), .val (.long (ng (mg q1))), .second, .unset, .unset, .unset] [(.long (Int64.ofNat (p10 (d - 1)))), (.long (ng (mg q1)))]))
      refine Go.step (fun _ k => XS.lneg X45.here hx rfl (hb hby at_219) rfl k) ?_
      show Go FrameEnd p e below s 16 192 (Q0 Z q1 p2 p3 pw h0 n0) (T45.setTop (mkF m 220 #[.val (.long q1), .second, .val (.int p2), .val (.int p3), .val (.int (Int32.ofNat t)), .val (.ref b1), .val (.ref b2), .val (.int (Int32.ofNat (t + sg q1 + d))), .val (.int (0 : Int32)), .val (.int (Int32.ofNat d)), .val (.long (ng (mg q1))), .second, .unset, .unset, .unset] [(.long (-(Int64.ofNat (p10 (d - 1))))), (.long (ng (mg q1)))]))
      rw [own_negL (by omega)]
      show Go FrameEnd p e below s 16 192 (Q0 Z q1 p2 p3 pw h0 n0) (T45.setTop (mkF m 220 #[.val (.long q1), .second, .val (.int p2), .val (.int p3), .val (.int (Int32.ofNat t)), .val (.ref b1), .val (.ref b2), .val (.int (Int32.ofNat (t + sg q1 + d))), .val (.int (0 : Int32)), .val (.int (Int32.ofNat d)), .val (.long (ng (mg q1))), .second, .unset, .unset, .unset] [(.long (ng (p10 (d - 1)))), (.long (ng (mg q1)))]))
      refine Go.step (fun _ k => XS.lcmp X45.here hx rfl (hb hby at_220) rfl k) ?_
      show Go FrameEnd p e below s 16 192 (Q0 Z q1 p2 p3 pw h0 n0) (T45.setTop (mkF m 221 #[.val (.long q1), .second, .val (.int p2), .val (.int p3), .val (.int (Int32.ofNat t)), .val (.ref b1), .val (.ref b2), .val (.int (Int32.ofNat (t + sg q1 + d))), .val (.int (0 : Int32)), .val (.int (Int32.ofNat d)), .val (.long (ng (mg q1))), .second, .unset, .unset, .unset] [(.int (lcmpW (ng (mg q1)) (ng (p10 (d - 1)))))]))
      refine Go.step (fun _ k => XS.ifYes X45.here hx rfl (pc0 := 221) (pc' := 226) rfl (hb hby at_221) rfl ((if0 _ _).trans (flt (mt (lw_gt _ _).mp (mt (ng_lt (by omega) (by omega)).mp (by rcases hD.2.2.2 with z | z <;> omega)))).2.2.2) (by decide) (by decide) k) ?_
      show Go FrameEnd p e below s 16 192 (Q0 Z q1 p2 p3 pw h0 n0) (T45.setTop (mkF m 226 #[.val (.long q1), .second, .val (.int p2), .val (.int p3), .val (.int (Int32.ofNat t)), .val (.ref b1), .val (.ref b2), .val (.int (Int32.ofNat (t + sg q1 + d))), .val (.int (0 : Int32)), .val (.int (Int32.ofNat d)), .val (.long (ng (mg q1))), .second, .unset, .unset, .unset] []))
      exact J226_56  
set_option maxRecDepth 65536 in
set_option maxHeartbeats 40000000 in
theorem comes_1 {Post : Tables → Env → Array Value → State → Outcome → State → Prop} (hpost : ∀ tb e args s v u, (limb_1_1.after args s (.returned v) u = true ∧ limb_1_2.after args s (.returned v) u = true ∧ True) → FrameEnd s (.returned v) u (Jvm.fieldLocs frame_1_writes args s ++ Jvm.arrayLocs frame_1_arrays args s ++ Jvm.staticLocs frame_1_statics s) 16 192 → Post tb e args s (.returned v) u) :
    ArmFor flags0 classFile x code maxLocals ret World_1 tables_1 room_1 Calls_1 rest_1 Pre_1 Post := by
  intro l hfl _ _ p e ha hc hk s m args below hf hA hF happ hP
  obtain ⟨hcalls, hrest, hpre⟩ := hP
  obtain ⟨-, -, -, hnamed, -, -, -, hat⟩ := (Spec.applies_iff hf).mp happ
  obtain ⟨hg, hn⟩ := and_e (Cond.before_iff.mp (show (Jvm.Cond.and given_1 narrow_1).before args s = true from hpre))
  obtain ⟨h1, h2⟩ := and_e hg
  obtain ⟨w0, w1, w2, rfl⟩ : ∃ w0 w1 w2 : Value, args = #[w0, w1, w2] := by
    have hs : args.size = 3 := by simpa [Cond.value, given_1] using h1
    obtain ⟨L⟩ := args
    match L, hs with
    | [w0, w1, w2], _ => exact ⟨w0, w1, w2, rfl⟩
  have hw := fun d (hd : d ∈ tables_1) => atoms_spec (ws := Jvm.Cond.code x code maxLocals ret :: tables_1) hat d (List.mem_cons_of_mem _ hd)
  have hfit : Fit s := fun {y c} hc i hi => by
    obtain ⟨ha, rfl⟩ := Array.getElem?_eq_some_iff.mp hc
    have q := List.all_eq_true.mp ((Array.all_eq_true_iff_forall_mem.mp hF) _ (Array.getElem_mem ha)) i (List.mem_range.mpr hi)
    simpa [Array.getElem?_eq_getElem hi] using q
  obtain ⟨c0, r0⟩ := and_e h2
  obtain ⟨i0, q0⟩ := isL_v c0
  obtain rfl : w0 = (.long i0) := Option.some.inj q0
  obtain ⟨c1, r1⟩ := and_e r0
  obtain ⟨i1, q1⟩ := is_v c1
  obtain rfl : w1 = (.int i1) := Option.some.inj q1
  obtain ⟨i2, q2⟩ := is_v r1
  obtain rfl : w2 = (.int i2) := Option.some.inj q2
  obtain ⟨k0, m0⟩ := and_e hn
  obtain ⟨k1, m1⟩ := and_e m0
  obtain ⟨k2, m2⟩ := and_e m1
  obtain ⟨k3, m3⟩ := and_e m2
  obtain ⟨k4, m4⟩ := and_e m3
  obtain ⟨k5, m5⟩ := and_e m4
  obtain ⟨k6, m6⟩ := and_e m5
  obtain ⟨k7, m7⟩ := and_e m6
  obtain ⟨k8, m8⟩ := and_e m7
  obtain ⟨k9, m9⟩ := and_e m8
  obtain ⟨k10, m10⟩ := and_e m9
  obtain ⟨pw, tp⟩ := arr_v k0
  obtain ⟨cp, Ap⟩ := Arr.start tp k0
  have Sp := Sta.start tp (Or.inr ⟨(hw _ (List.mem_of_getElem? (i := 22) rfl)), (hw _ (List.mem_of_getElem? (i := 26) rfl))⟩)
  have Vp : Av s s.heap pw .int 10 (fun j => .int (Int32.ofNat (p10 j))) := own_pw tp Ap k1 k2 k3 k4 k5 k6 k7 k8 k9 k10 m10
  obtain ⟨n, o, h1, h2, h3, _, L, rfl, ⟨rfl, N⟩, hq⟩ := rm0 l s _ hw tables_1 i0 i1 i2 pw s.heap s.heap.size (Nat.le_refl _) Sp Vp p e ha hc hk s m _ below hf ((Spec.applies_iff_loose hf).mp happ).1 ⟨rfl, State.Warmed39.refl s, rfl⟩ trivial
  refine ⟨n, _, h1, h2, h3, hpost _ _ _ _ _ _ ⟨Cond.after_iff.mpr rfl, Cond.after_iff.mpr (eq_i res_at (Term.int_eval (1)) rfl), trivial⟩ ⟨hq.1, hq.2.1, (hq.2.2.sift fun y hy => Or.inr (N y hy)).mono (by decide) (by decide)⟩⟩
theorem main_1_1 : Claimed_1_1 := comes_1 fun _ _ _ _ _ _ h hF => ⟨h.1, hF⟩
theorem main_1_2 : Claimed_1_2 := comes_1 fun _ _ _ _ _ _ h hF => ⟨h.2.1, hF⟩
end Jvm.Pilot.@@N@@
namespace Jvm.Pilot.@@N@@
open Jvm Jvm.ClassFile Sem Op Lib Jvm.Free Jvm.Stand Jvm.Pilot.@@N@@.Jvm.D
/-! MADE BY PROGRAM (witnessworld.py) out of the Statement's table words and the real class files: 11 classes; the members and pool entries that the words name. The judged class is class 1, her method 1. -/
namespace start1
open Jvm.ClassFile
def u (s : String) : CpInfo := .utf8 (stringToUtf16 s)
/-- a pool by its gaps: so many unusable entries, then the entry; so many at the end -/
def gap : Nat → List CpInfo → List CpInfo
  | 0, r => r
  | n + 1, r => .unusable :: gap n r
def poolList (es : List (Nat × CpInfo)) (last : Nat) : List CpInfo := es.foldr (fun e r => gap e.1 (e.2 :: r)) (gap last [])
def pool (es : List (Nat × CpInfo)) (last : Nat) : Array CpInfo := ⟨poolList es last⟩
def fileOf (pool : Array CpInfo) (this : Nat) (attrs : Array Attribute := #[]) (ms : Array MethodInfo := #[]) (fl : Nat := 33) (sup : Nat := 0) (ifs : Array Nat := #[]) (fds : Array FieldInfo := #[]) : ClassFile where
  minorVersion := 0
  majorVersion := 65
  constantPool := pool
  accessFlags := fl
  thisClass := this
  superClass := sup
  interfaces := ifs
  fields := fds
  methods := ms
  attributes := attrs
def plain (name : String) (sup : Option ClassId) : Class where
  name := name
  kind := .ordinary
  loader := none
  accessFlags := 33
  super := sup
  interfaces := #[]
  cf := none
  fields := #[]
  methods := #[]
  instanceTypes := #[]
  staticTypes := #[]
  resolved := #[]
  callSites := []
  init := .initialized
  statics := none
  mirror := none

def pool0 : Array CpInfo := pool [(5, u "<init>"), (0, u "()V"), (1, .class_ 10), (1, u "java/lang/Object")] 113

def k0m0 : Method := { name := "<init>", desc := "()V", sig := { parameters := [], returnType := none }, accessFlags := 1, code := none }
/-- java/lang/Object -/
def k0 : Class := { plain "java/lang/Object" none with
  accessFlags := 33
  interfaces := #[]
  cf := some (fileOf pool0 8 #[] #[{ accessFlags := 1, nameIndex := 5, descriptorIndex := 6, attributes := #[] }] 33 0 #[] #[])
  fields := #[]
  methods := #[k0m0]
  instanceTypes := #[]
  staticTypes := #[]
  resolved := Array.replicate 124 none
  statics := none }

def pool1 : Array CpInfo := pool [(2, .class_ 4), (1, u "java/lang/Object"), (0, u "<init>"), (0, u "()V"), (0, .long 10), (1, .long 100), (1, .long 1000), (1, .long 10000), (1, .long 100000), (1, .long 1000000), (1, .long 10000000), (1, .long 100000000), (1, .long 1000000000), (1, .long 10000000000), (1, .long 100000000000), (1, .long 1000000000000), (1, .long 10000000000000), (1, .long 100000000000000), (1, .long 1000000000000000), (1, .long 10000000000000000), (1, .long 100000000000000000), (1, .long 1000000000000000000), (1, .methodref 44 45), (0, .class_ 46), (0, .nameAndType 47 48), (0, u "com/example/quotewire/quotewire/codec/Decimal"), (0, u "write"), (0, u "(J[BI)I"), (0, .integer 2147483647), (0, .class_ 51), (0, u "com/example/quotewire/quotewire/codec/DecimalWritePinLaw"), (2, u "law"), (0, u "(JII)Z")] 7

def k1m0 : Method := { name := "<init>", desc := "()V", sig := { parameters := [], returnType := none }, accessFlags := 1, code := none }
def k1c1 : Code := { maxStack := 5, maxLocals := 15, code := code, exceptionTable := #[], attributes := #[] }
def k1m1 : Method := { name := "law", desc := "(JII)Z", sig := { parameters := [.long, .int, .int], returnType := some .boolean }, accessFlags := 9, code := some k1c1 }
/-- com/example/quotewire/quotewire/codec/DecimalWritePinLaw -/
def k1 : Class := { plain "com/example/quotewire/quotewire/codec/DecimalWritePinLaw" (some 0) with
  accessFlags := 49
  interfaces := #[]
  cf := some (fileOf pool1 50 #[] #[{ accessFlags := 1, nameIndex := 5, descriptorIndex := 6, attributes := #[] }, { accessFlags := 9, nameIndex := 54, descriptorIndex := 55, attributes := #[] }] 49 2 #[] #[])
  fields := #[]
  methods := #[k1m0, k1m1]
  instanceTypes := #[]
  staticTypes := #[]
  resolved := Array.replicate 63 none
  statics := none }

def pool2 : Array CpInfo := pool [(2, .class_ 4), (1, u "java/lang/Object"), (0, u "<init>"), (0, u "()V"), (2, .long 2147483647), (1, .fieldref 12 13), (0, .class_ 14), (0, .nameAndType 15 16), (0, u "com/example/quotewire/quotewire/codec/Decimal"), (0, u "POWERS_OF_TEN"), (0, u "[I"), (0, .long 18446744073709551606), (1, .long 10), (1, .long 48), (6, u "MAX_LENGTH"), (0, u "I"), (4, u "write"), (0, u "(J[BI)I")] 6

def k2m0 : Method := { name := "<init>", desc := "()V", sig := { parameters := [], returnType := none }, accessFlags := 2, code := none }
def k2c1 : Code := { maxStack := 8, maxLocals := 10, code := prog_16_method_2_code, exceptionTable := #[], attributes := #[] }
def k2m1 : Method := { name := "write", desc := "(J[BI)I", sig := { parameters := [.long, (.array .byte), .int], returnType := some .int }, accessFlags := 9, code := some k2c1 }
/-- com/example/quotewire/quotewire/codec/Decimal -/
def k2 : Class := { plain "com/example/quotewire/quotewire/codec/Decimal" (some 0) with
  accessFlags := 49
  interfaces := #[]
  cf := some (fileOf pool2 12 #[] #[{ accessFlags := 2, nameIndex := 5, descriptorIndex := 6, attributes := #[] }, { accessFlags := 9, nameIndex := 34, descriptorIndex := 35, attributes := #[] }] 49 2 #[] #[{ accessFlags := 25, nameIndex := 28, descriptorIndex := 29, attributes := #[] }, { accessFlags := 26, nameIndex := 15, descriptorIndex := 16, attributes := #[] }])
  fields := #[{ name := "MAX_LENGTH", type := .int, accessFlags := 25, slot := 0, constantValue := 0 }, { name := "POWERS_OF_TEN", type := (.array .int), accessFlags := 26, slot := 1, constantValue := 0 }]
  methods := #[k2m0, k2m1]
  instanceTypes := #[]
  staticTypes := #[.int, (.array .int)]
  resolved := Array.replicate 42 none
  statics := some 0 }

def pool3 : Array CpInfo := pool [(1, u "java/lang/Cloneable"), (0, .class_ 1), (0, u "java/lang/Object"), (0, .class_ 3)] 3

/-- java/lang/Cloneable -/
def k3 : Class := { plain "java/lang/Cloneable" (some 0) with
  accessFlags := 1537
  interfaces := #[]
  cf := some (fileOf pool3 2 #[] #[] 1537 4 #[] #[])
  fields := #[]
  methods := #[]
  instanceTypes := #[]
  staticTypes := #[]
  resolved := Array.replicate 8 none
  statics := none }

def pool4 : Array CpInfo := pool [(1, u "java/io/Serializable"), (0, .class_ 1), (0, u "java/lang/Object"), (0, .class_ 3)] 3

/-- java/io/Serializable -/
def k4 : Class := { plain "java/io/Serializable" (some 0) with
  accessFlags := 1537
  interfaces := #[]
  cf := some (fileOf pool4 2 #[] #[] 1537 4 #[] #[])
  fields := #[]
  methods := #[]
  instanceTypes := #[]
  staticTypes := #[]
  resolved := Array.replicate 8 none
  statics := none }

/-- the primitive byte -/
def k5 : Class := { plain "byte" none with kind := .primitive 'B', accessFlags := 0x411 }
/-- [B -/
def k6 : Class := { plain "[B" (some 0) with kind := .array 5 .byte, interfaces := #[3, 4], accessFlags := 1041 }

/-- the primitive int -/
def k7 : Class := { plain "int" none with kind := .primitive 'I', accessFlags := 0x411 }
/-- [I -/
def k8 : Class := { plain "[I" (some 0) with kind := .array 7 .int, interfaces := #[3, 4], accessFlags := 1041 }

/-- the primitive long -/
def k9 : Class := { plain "long" none with kind := .primitive 'J', accessFlags := 0x411 }
/-- [J -/
def k10 : Class := { plain "[J" (some 0) with kind := .array 9 .long, interfaces := #[3, 4], accessFlags := 1041 }

def heap : Heap := #[{ cls := 2, slots := #[.int 0, .ref 1], vm := .statics 2 },
  { cls := 8, slots := #[.int 1, .int 10, .int 100, .int 1000, .int 10000, .int 100000, .int 1000000, .int 10000000, .int 100000000, .int 1000000000], vm := .none }]
def classes : Array Class := #[k0, k1, k2, k3, k4, k5, k6, k7, k8, k9, k10]
def interned : List (Array UInt16 × Addr) := []
def slotsUsed : Nat := 12
def theMethod : MethodId := ⟨1, 1⟩
def args0 : Array Value := #[.long 5, .int 6, .int 7]
def aboutOver (below : List Frame) : State where
  vm := { classes := classes, interned := interned.toArray }
  heap := heap
  slotsUsed := slotsUsed
  threads := #[{ frames := .invoking theMethod args0 :: below }]
def below0 : List Frame := [.native { method := ⟨0, 0⟩, args := #[] }]
def about1 : State := aboutOver below0
def p0 : Program := .bare "" "" ""
def e0 : Env := launch0.env 0 0 0
theorem w_frames : about1.frames = Frame.invoking theMethod args0 :: below0 := rfl
set_option maxRecDepth 65536 in
theorem w_args : argsFit about1.vm theMethod args0 = true := by decide +kernel
set_option maxRecDepth 65536 in
theorem w_heap : heapFits about1 = true := by decide +kernel
set_option maxRecDepth 65536 in
theorem w_runnable : about1.curStatus? = some .runnable := by decide +kernel
set_option maxRecDepth 65536 in
theorem w_alone : about1.alone = true := by decide +kernel
set_option maxRecDepth 65536 in
theorem w_named : about1.methodNamed? x = some theMethod := by decide +kernel
set_option maxRecDepth 65536 in
theorem w_hears : about1.hears theMethod below0 = true := by decide +kernel
set_option maxRecDepth 65536 in
theorem w_ripe : about1.ripe theMethod args0 below0 = true := by decide +kernel
theorem w_running : about1.status = .running := rfl
set_option maxRecDepth 65536 in
theorem w_room : about1.hasRoom e0.platform room_1 = true :=
  launch0.hasRoom_least _ room_1 (by decide +kernel) (by decide +kernel) (by decide +kernel) (by decide +kernel) (by decide +kernel) (by decide +kernel)
theorem allAtoms_all (ts : List Jvm.Cond) (a : Array Jvm.Value) (st : Jvm.State) : (allAtoms ts).before a st = ts.all (fun c => c.before a st) := by
  induction ts with
  | nil => rfl
  | cons c t ih =>
    show (Jvm.Cond.and c (allAtoms t)).before a st = _
    rw [Jvm.Cond.before_and, ih, List.all_cons]
def words1 : List Jvm.Cond := Jvm.Cond.code x code maxLocals ret :: tables_1
/-- a 'code' word, met by the world's own term for the bytes: nothing is compared byte by byte -/
theorem code_word {y : MethodName} {bytes : ByteArray} {mx : Nat} {rt : Option FieldType} {a : Array Value} {s : State} {m : MethodId} {meth : Method} {c : Code} (h1 : s.methodNamed? y = some m) (h2 : s.vm.method? m = some meth) (h3 : meth.code = some c) (h4 : c.code = bytes)
    (h5 : (c.maxLocals == mx && c.exceptionTable.isEmpty && decide (c.maxStack ≤ mostOperands) && decide (meth.sig.returnType = rt) && !meth.locks && decide (parseMethodDescriptor y.desc = some meth.sig)) = true) : (Jvm.Cond.code y bytes mx rt).before a s = true := by
  simp only [Bool.and_eq_true, beq_iff_eq, Bool.not_eq_true', decide_eq_true_eq] at h5
  obtain ⟨⟨⟨⟨⟨g1, g2⟩, g3⟩, g4⟩, g5⟩, g6⟩ := h5
  simp [Cond.before, Cond.holds, Cond.value, h1, h2, h3, h4, g1, g2, g3, g4, g5, g6]
def isCode : Jvm.Cond → Bool
  | .code _ _ _ _ => true
  | _ => false
theorem all_split {L : List Jvm.Cond} {P : Jvm.Cond → Bool} (h1 : L.all (fun c => isCode c || P c) = true) (h2 : ∀ c ∈ L.filter isCode, P c = true) : L.all P = true := by
  refine List.all_eq_true.mpr fun c hc => ?_
  have h := List.all_eq_true.mp h1 c hc
  rcases Bool.eq_false_or_eq_true (isCode c) with hi | hi
  · exact h2 c (List.mem_filter.mpr ⟨hc, hi⟩)
  · simpa [hi] using h
set_option maxRecDepth 65536 in
theorem w_c0 : (Jvm.Cond.code x code maxLocals ret).before args0 about1 = true := code_word (m := ⟨1, 1⟩) (meth := k1m1) (c := k1c1) (by decide +kernel) rfl rfl rfl (by decide +kernel)
set_option maxRecDepth 65536 in
theorem w_c1 : (Jvm.Cond.code ({ cls := "com/example/quotewire/quotewire/codec/Decimal", name := "write", desc := "(J[BI)I" } : Jvm.MethodName) prog_16_method_2_code (10 : Nat) (Option.some Jvm.ClassFile.FieldType.int)).before args0 about1 = true := code_word (m := ⟨2, 1⟩) (meth := k2m1) (c := k2c1) (by decide +kernel) rfl rfl rfl (by decide +kernel)
def codes1 : List Jvm.Cond := [Jvm.Cond.code x code maxLocals ret, Jvm.Cond.code ({ cls := "com/example/quotewire/quotewire/codec/Decimal", name := "write", desc := "(J[BI)I" } : Jvm.MethodName) prog_16_method_2_code (10 : Nat) (Option.some Jvm.ClassFile.FieldType.int)]
set_option maxRecDepth 65536 in
theorem codes_eq : words1.filter isCode = codes1 := rfl
theorem w_codes : ∀ c ∈ words1.filter isCode, c.before args0 about1 = true := by
  rw [codes_eq]
  intro c hc
  simp only [codes1, List.mem_cons, List.not_mem_nil, or_false] at hc
  rcases hc with rfl | rfl
  · exact w_c0
  · exact w_c1
set_option maxRecDepth 65536 in
theorem w_t1 : (words1.take 24).all (fun c => isCode c || c.before args0 about1) = true := by decide +kernel
set_option maxRecDepth 65536 in
theorem w_t2 : (words1.drop 24).all (fun c => isCode c || c.before args0 about1) = true := by decide +kernel
theorem w_tables : (allAtoms (Jvm.Cond.code x code maxLocals ret :: tables_1)).before args0 about1 = true := by
  rw [allAtoms_all]
  show words1.all (fun c => c.before args0 about1) = true
  refine all_split ?_ w_codes
  rw [← List.take_append_drop 24 words1, List.all_append, w_t1, w_t2]
  rfl
set_option maxRecDepth 65536 in
theorem w_case : (Jvm.Cond.and given_1 narrow_1).before args0 about1 = true := by decide +kernel
theorem w_applies : (headSpec (Jvm.Cond.code x code maxLocals ret :: tables_1) room_1).applies x e0.platform about1 = true :=
  (Spec.applies_iff w_frames).mpr ⟨w_running, w_runnable, w_alone, w_named, w_hears, w_ripe, w_room, w_tables⟩
theorem atStart : AtStart classFile x code maxLocals ret World_1 tables_1 room_1 Calls_1 rest_1 Pre_1 launch0 p0 e0 about1 theMethod args0 below0 :=
  ⟨lists_1, trivial, launch0.admits_env _ _ _, launch0.least_env, fairChoices_fair.cas, fairChoices_fair.clock, w_frames, w_args, w_heap, w_applies, trivial, trivial, w_case⟩
end start1
theorem witness_1 : WitnessClaimed_1 := ⟨start1.p0, start1.e0, start1.about1, start1.theMethod, start1.args0, start1.below0, start1.atStart⟩
end Jvm.Pilot.@@N@@
