import JvmDerived
import JvmDerived.Pilot.@@N@@Statement
import JvmDerived.Pilot.@@N@@Code
set_option linter.unusedVariables false
set_option linter.unusedSimpArgs false
namespace Jvm.Pilot.@@N@@
open Jvm Jvm.ClassFile Sem Op Lib Jvm.Free Jvm.Stand Jvm.LawKit Jvm.RoadKit Bundle Jvm.Pilot.@@N@@.Jvm.D
section Own
variable {p : Program} {l : Launch} {e : Env} {R : Room} {s : State} {m : MethodId} {args : Array Value} {below : List Frame} {meth : Method} {c : Code} {T : State} {locs : List Loc} {cells slots : Nat}
/-- from the state A on the run comes to a return of the body that s was about to invoke, with Q of the value, the heap and the places written -/
def Go (En : State → Outcome → State → List Loc → Nat → Nat → Prop) (p : Program) (e : Env) (below : List Frame) (s : State) (C S : Nat) (Q : Option Value → Heap → List Loc → Prop) (A : State) : Prop :=
  ∃ s₂ o, Steps p.tables e below A s₂ ∧ s₂.status = .running ∧ Ended s₂ below o ∧ ∃ v L, o = .returned v ∧ Q v s₂.heap L ∧ En s o s₂ L C S
variable {En : State → Outcome → State → List Loc → Nat → Nat → Prop} {C S : Nat} {Q : Option Value → Heap → List Loc → Prop} {A B : State} {h : Heap}
theorem Go.step (h : ∀ t, Steps p.tables e below B t → Steps p.tables e below A t) (g : Go En p e below s C S Q B) : Go En p e below s C S Q A := by
  obtain ⟨s₂, o, h1, r⟩ := g
  exact ⟨s₂, o, h _ h1, r⟩
theorem Go.hop (h : Steps p.tables e below A B) (g : Go En p e below s C S Q B) : Go En p e below s C S Q A := Go.step (fun _ k => h.trans k) g
theorem Go.out (X : Stand p l e R s m args below meth c T locs cells slots) {v : Option Value} (hv : meth.sig.returnType = none → v = none) (hl : meth.locks = false) (eT : T.heap = h) (hc : cells ≤ C) (hs : slots ≤ S) (q : Q v h locs)
    (st : ∀ fs, (∀ (f : JFrame) (acts : List Action), f.method = m → f.locked = none → f.entered = [] → (doReturn e (T.setTop f) acts v).1 = T.setFrames fs) → Steps p.tables e below A (T.setFrames fs)) : Go FrameEnd p e below s C S Q A := by
  obtain ⟨fs, hr, hrun, hended, hW, hsame⟩ := X.leave (v := v) hv hl
  refine ⟨_, _, st fs hr, hrun, hended, _, _, rfl, ?_, ⟨_, rfl⟩, hW, hsame.mono hc hs⟩
  show Q v T.heap locs
  rw [eT]
  exact q
theorem Go.retN (X : Stand p l e R s m args below meth c T locs cells slots) (hx : p.tables.exec = Jvm.exec) {pc : Nat} {Ls : Array Slot} {z : Int32} {t : FieldType} {rest : List Value} (hret : meth.sig.returnType = some t) (ht : t = .boolean ∨ t = .byte ∨ t = .char ∨ t = .short)
    (hz : nar t z = z) (hd : decode c.code pc = .ok (.ireturn, 1)) (hl : meth.locks = false) (eT : T.heap = h) (hc : cells ≤ C) (hs : slots ≤ S) (q : Q (some (.int z)) h locs) : Go FrameEnd p e below s C S Q (T.setTop (mkF m pc Ls (.int z :: rest))) :=
  Go.out X (v := some (.int z)) (fun k => by rw [hret] at k; cases k) hl eT hc hs q fun fs hr => Jvm.RoadKit.retN X hx (t := t) hret ht hd (by rw [hz]; exact hr)
theorem Go.retI (X : Stand p l e R s m args below meth c T locs cells slots) (hx : p.tables.exec = Jvm.exec) {pc : Nat} {Ls : Array Slot} {z : Int32} {rest : List Value} (hret : meth.sig.returnType = some .int)
    (hd : decode c.code pc = .ok (.ireturn, 1)) (hl : meth.locks = false) (eT : T.heap = h) (hc : cells ≤ C) (hs : slots ≤ S) (q : Q (some (.int z)) h locs) : Go FrameEnd p e below s C S Q (T.setTop (mkF m pc Ls (.int z :: rest))) :=
  Go.out X (v := some (.int z)) (fun k => by rw [hret] at k; cases k) hl eT hc hs q fun fs hr => retOut X hx hret rfl (Or.inl ⟨rfl, Or.inl rfl, z, rfl⟩) hd hr
theorem Go.retJ (X : Stand p l e R s m args below meth c T locs cells slots) (hx : p.tables.exec = Jvm.exec) {pc : Nat} {Ls : Array Slot} {z : Int64} {rest : List Value} (hret : meth.sig.returnType = some .long)
    (hd : decode c.code pc = .ok (.lreturn, 1)) (hl : meth.locks = false) (eT : T.heap = h) (hc : cells ≤ C) (hs : slots ≤ S) (q : Q (some (.long z)) h locs) : Go FrameEnd p e below s C S Q (T.setTop (mkF m pc Ls (.long z :: rest))) :=
  Go.out X (v := some (.long z)) (fun k => by rw [hret] at k; cases k) hl eT hc hs q fun fs hr => retOut X hx hret rfl (Or.inr (Or.inl ⟨rfl, rfl, z, rfl⟩)) hd hr
theorem own_narR {t : FieldType} {v : Value} (hv : v.isRef = true) : narrow t v = v := by cases v <;> first | (cases hv; done) | (cases t <;> rfl)
theorem Go.retR (X : Stand p l e R s m args below meth c T locs cells slots) (hx : p.tables.exec = Jvm.exec) {pc : Nat} {Ls : Array Slot} {v : Value} {t : FieldType} {rest : List Value} (hret : meth.sig.returnType = some t) (ht : t.isReference = true) (hv : v.isRef = true)
    (hd : decode c.code pc = .ok (.areturn, 1)) (hl : meth.locks = false) (eT : T.heap = h) (hc : cells ≤ C) (hs : slots ≤ S) (q : Q (some v) h locs) : Go FrameEnd p e below s C S Q (T.setTop (mkF m pc Ls (v :: rest))) :=
  Go.out X (v := some v) (fun k => by rw [hret] at k; cases k) hl eT hc hs q fun fs hr => retOut X hx hret (own_narR hv) (Or.inr (Or.inr (Or.inr (Or.inr ⟨rfl, ht, hv⟩)))) hd hr
theorem Go.ret0 (X : Stand p l e R s m args below meth c T locs cells slots) (hx : p.tables.exec = Jvm.exec) {pc : Nat} {Ls : Array Slot} (hret : meth.sig.returnType = none)
    (hd : decode c.code pc = .ok (.return_, 1)) (hl : meth.locks = false) (eT : T.heap = h) (hc : cells ≤ C) (hs : slots ≤ S) (q : Q none h locs) : Go FrameEnd p e below s C S Q (T.setTop (mkF m pc Ls [])) :=
  Go.out X (v := none) (fun _ => rfl) hl eT hc hs q fun fs hr => X.returnOut hx hret hd hr
theorem Go.outW {vm0 : Vm} {k0 : Nat} (X : Stand p l e R (s.setVm vm0) m args below meth c T locs cells slots) (hS : s.Since vm0 k0) (hk : k0 ≤ h.size) {v : Option Value} (hv : meth.sig.returnType = none → v = none) (hl : meth.locks = false) (eT : T.heap = h) (hc : cells ≤ C) (hs : slots ≤ S) (q : Q v h locs)
    (st : ∀ fs, (∀ (f : JFrame) (acts : List Action), f.method = m → f.locked = none → f.entered = [] → (doReturn e (T.setTop f) acts v).1 = T.setFrames fs) → Steps p.tables e below A (T.setFrames fs)) : Go ReturnedEndW p e below s C S Q A := by
  obtain ⟨fs, hr, hrun, hended, hq1, hq2, hq3, hq4⟩ := X.leaveW hS (by rw [eT]; exact hk) (v := v) hv hl
  refine ⟨_, _, st fs hr, hrun, hended, _, _, rfl, ?_, hq1, hq2, hq3, hq4.mono hc hs⟩
  show Q v T.heap locs
  rw [eT]
  exact q
theorem Go.retNW {vm0 : Vm} {k0 : Nat} (X : Stand p l e R (s.setVm vm0) m args below meth c T locs cells slots) (hS : s.Since vm0 k0) (hk : k0 ≤ h.size) (hx : p.tables.exec = Jvm.exec) {pc : Nat} {Ls : Array Slot} {z : Int32} {t : FieldType} {rest : List Value} (hret : meth.sig.returnType = some t) (ht : t = .boolean ∨ t = .byte ∨ t = .char ∨ t = .short)
    (hz : nar t z = z) (hd : decode c.code pc = .ok (.ireturn, 1)) (hl : meth.locks = false) (eT : T.heap = h) (hc : cells ≤ C) (hs : slots ≤ S) (q : Q (some (.int z)) h locs) : Go ReturnedEndW p e below s C S Q (T.setTop (mkF m pc Ls (.int z :: rest))) :=
  Go.outW X hS hk (v := some (.int z)) (fun k => by rw [hret] at k; cases k) hl eT hc hs q fun fs hr => Jvm.RoadKit.retN X hx (t := t) hret ht hd (by rw [hz]; exact hr)
theorem Go.retIW {vm0 : Vm} {k0 : Nat} (X : Stand p l e R (s.setVm vm0) m args below meth c T locs cells slots) (hS : s.Since vm0 k0) (hk : k0 ≤ h.size) (hx : p.tables.exec = Jvm.exec) {pc : Nat} {Ls : Array Slot} {z : Int32} {rest : List Value} (hret : meth.sig.returnType = some .int)
    (hd : decode c.code pc = .ok (.ireturn, 1)) (hl : meth.locks = false) (eT : T.heap = h) (hc : cells ≤ C) (hs : slots ≤ S) (q : Q (some (.int z)) h locs) : Go ReturnedEndW p e below s C S Q (T.setTop (mkF m pc Ls (.int z :: rest))) :=
  Go.outW X hS hk (v := some (.int z)) (fun k => by rw [hret] at k; cases k) hl eT hc hs q fun fs hr => retOut X hx hret rfl (Or.inl ⟨rfl, Or.inl rfl, z, rfl⟩) hd hr
theorem Go.retJW {vm0 : Vm} {k0 : Nat} (X : Stand p l e R (s.setVm vm0) m args below meth c T locs cells slots) (hS : s.Since vm0 k0) (hk : k0 ≤ h.size) (hx : p.tables.exec = Jvm.exec) {pc : Nat} {Ls : Array Slot} {z : Int64} {rest : List Value} (hret : meth.sig.returnType = some .long)
    (hd : decode c.code pc = .ok (.lreturn, 1)) (hl : meth.locks = false) (eT : T.heap = h) (hc : cells ≤ C) (hs : slots ≤ S) (q : Q (some (.long z)) h locs) : Go ReturnedEndW p e below s C S Q (T.setTop (mkF m pc Ls (.long z :: rest))) :=
  Go.outW X hS hk (v := some (.long z)) (fun k => by rw [hret] at k; cases k) hl eT hc hs q fun fs hr => retOut X hx hret rfl (Or.inr (Or.inl ⟨rfl, rfl, z, rfl⟩)) hd hr
theorem Go.retRW {vm0 : Vm} {k0 : Nat} (X : Stand p l e R (s.setVm vm0) m args below meth c T locs cells slots) (hS : s.Since vm0 k0) (hk : k0 ≤ h.size) (hx : p.tables.exec = Jvm.exec) {pc : Nat} {Ls : Array Slot} {v : Value} {t : FieldType} {rest : List Value} (hret : meth.sig.returnType = some t) (ht : t.isReference = true) (hv : v.isRef = true)
    (hd : decode c.code pc = .ok (.areturn, 1)) (hl : meth.locks = false) (eT : T.heap = h) (hc : cells ≤ C) (hs : slots ≤ S) (q : Q (some v) h locs) : Go ReturnedEndW p e below s C S Q (T.setTop (mkF m pc Ls (v :: rest))) :=
  Go.outW X hS hk (v := some v) (fun k => by rw [hret] at k; cases k) hl eT hc hs q fun fs hr => retOut X hx hret (own_narR hv) (Or.inr (Or.inr (Or.inr (Or.inr ⟨rfl, ht, hv⟩)))) hd hr
theorem Go.ret0W {vm0 : Vm} {k0 : Nat} (X : Stand p l e R (s.setVm vm0) m args below meth c T locs cells slots) (hS : s.Since vm0 k0) (hk : k0 ≤ h.size) (hx : p.tables.exec = Jvm.exec) {pc : Nat} {Ls : Array Slot} (hret : meth.sig.returnType = none)
    (hd : decode c.code pc = .ok (.return_, 1)) (hl : meth.locks = false) (eT : T.heap = h) (hc : cells ≤ C) (hs : slots ≤ S) (q : Q none h locs) : Go ReturnedEndW p e below s C S Q (T.setTop (mkF m pc Ls [])) :=
  Go.outW X hS hk (v := none) (fun _ => rfl) hl eT hc hs q fun fs hr => X.returnOut hx hret hd hr
theorem own_lrem {g : JFrame} {target : State} (X : Stand p l e R s m args below meth c T locs cells slots) (hx : p.tables.exec = Jvm.exec) (hg : g.method = m) {x y : Int64} {rest : List Value} (hd : decode c.code g.pc = .ok (.lrem, 1)) (hs : g.stack = .long y :: .long x :: rest) (hy : y ≠ 0)
    (hr : Steps p.tables e below (T.setTop { g with pc := g.pc + 1, stack := .long (x % y) :: rest }) target) : Steps p.tables e below (T.setTop g) target := by
  have q : x - x / y * y = x % y := lrem_mod x y
  exact XS.lrem X.here hx hg hd hs hy (by rw [q]; exact hr)
theorem own_fitR {t : FieldType} {v : Value} (ht : t.isReference = true) (hv : v.isRef = true) : fits t v = true := by cases v <;> first | (cases hv; done) | (cases t <;> first | rfl | cases ht)
variable {Z : State} {h' : Heap} {a b : Addr} {ty : FieldType} {n i sl : Nat} {f : Nat → Value} {v w : Value} {cl : Cell} {j z : Int32} {k : ClassId} {ws : List Addr}
/-- the array at a has n places; place j holds f j -/
def Av (Z : State) (h : Heap) (a : Addr) (ty : FieldType) (n : Nat) (f : Nat → Value) : Prop := ∃ c : Cell, Arr Z h a c ty ∧ c.slots.size = n ∧ n < 2147483648 ∧ ∀ j, j < n → c.slots[j]? = some (f j)
def aset (f : Nat → Value) (i : Nat) (v : Value) : Nat → Value := fun j => if j = i then v else f j
theorem Av.lt (F : Av Z h a ty n f) : a < h.size := by obtain ⟨c, A, -⟩ := F; exact A.lt
theorem Av.ext (F : Av Z h a ty n f) (E : Ext h h') : Av Z h' a ty n f := by obtain ⟨c, A, r⟩ := F; exact ⟨c, A.ext E, r⟩
theorem Av.other (F : Av Z h b ty n f) (W : Wr h h' a sl v) (q : b ≠ a) : Av Z h' b ty n f := by obtain ⟨c, A, r⟩ := F; exact ⟨c, A.other W q, r⟩
theorem Av.keep (F : Av Z h a ty n f) (K : Keep h h' ws) (q : a ∉ ws) : Av Z h' a ty n f := by obtain ⟨c, A, r⟩ := F; exact ⟨c, ⟨K.2.1 a c A.1 q, A.2⟩, r⟩
theorem Av.eq (F : Av Z h a ty n f) {g : Nat → Value} (q : ∀ j, j < n → f j = g j) : Av Z h a ty n g := by obtain ⟨c, A, r1, r2, r3⟩ := F; exact ⟨c, A, r1, r2, fun j hj => by rw [← q j hj]; exact r3 j hj⟩
theorem own_clamp (q : ¬ z < 0) : z.toNatClampNeg < 2147483648 := (back32 q).2
theorem Av.new (A : Arr Z h a (newA k ty z) ty) (q : ¬ z < 0) (e : z.toNatClampNeg = n) : Av Z h a ty n (fun _ => defaultValue ty) := by
  refine ⟨_, A, by rw [sz_new, e], by rw [← e]; exact own_clamp q, fun j hj => ?_⟩
  have q2 : (newA k ty z).slots = Array.replicate z.toNatClampNeg (defaultValue ty) := rfl
  rw [q2, Array.getElem?_replicate, e, if_pos hj]
theorem own_in {c : Cell} (S : c.slots.size = n) (h0 : ¬ j < 0) (h : j.toNatClampNeg < n) : ¬ (j < 0 ∨ c.slots.size ≤ j.toNatClampNeg) := by
  rw [S]; exact fun q => q.elim h0 (Nat.not_le.mpr h)
theorem Av.at {c : Cell} (G : ∀ j, j < n → c.slots[j]? = some (f j)) (e : j.toNatClampNeg = i) (hi : i < n) (w : f i = v) : c.slots[j.toNatClampNeg]? = some v := by rw [e, G i hi, w]
theorem own_slots (c : Cell) (i : Nat) (v : Value) : (c.setSlot i v).slots = c.slots.setIfInBounds i v := rfl
theorem Av.set {c : Cell} (A : Arr Z h a c ty) (S : c.slots.size = n) (M : n < 2147483648) (G : ∀ j, j < n → c.slots[j]? = some (f j)) (W : Wr h h' a j.toNatClampNeg v) (e : j.toNatClampNeg = i) (hin : ¬ (j < 0 ∨ c.slots.size ≤ j.toNatClampNeg)) : Av Z h' a ty n (aset f i v) := by
  have hi : i < c.slots.size := by rw [← e]; exact Nat.lt_of_not_le fun q => hin (Or.inr q)
  refine ⟨_, A.same W, by rw [sz_set]; exact S, M, fun q hq => ?_⟩
  rw [own_slots, e, Array.getElem?_setIfInBounds]
  by_cases r : i = q
  · subst r
    rw [if_pos rfl, if_pos hi]; simp [aset]
  · rw [if_neg r, G q hq]
    show some (f q) = some (if q = i then v else f q)
    rw [if_neg (Ne.symm r)]
theorem own_int_v {aa : Array Value} {t : Term} {k : Int32} (he : (Cond.eq t (.int k)).value aa Z none Z [] = some true) : t.eval aa Z none [] Z = some (.int k) := by
  have hk : (Term.int k).eval aa Z none [] Z = some (.int k) := Term.int_eval k
  cases ht : t.eval aa Z none [] Z with
  | none => simp [Cond.value, ht] at he
  | some x => cases x <;> simp_all [Cond.value]
theorem own_enum {aa : Array Value} {t : Term} {C D n d : String} {k : Int32} (hx : (Cond.exactly t C).value aa Z none Z [] = some true) (he : (Cond.eq (.field t D n d) (.int k)).value aa Z none Z [] = some true) :
    ∃ x : Addr, t.eval aa Z none [] Z = some (.ref x) ∧ Exa Z Z.heap x C ∧ Fld Z Z.heap x D n d (.int k) := by
  obtain ⟨x, hv⟩ := exa_v hx
  exact ⟨x, hv, Exa.start hv hx, Fld.start (by rw [← fld_at hv]; exact own_int_v he)⟩
theorem own_self {y z : MethodName} (hz : (Cond.selects z.cls z z).before args s = true) (e : z.cls = y.cls) (hp : s.PrivateAt y) (hi : (Cond.instanceMethod y).before args s = true) (hy : y.cls ≠ "java/lang/invoke/MethodHandle" ∧ y.cls ≠ "java/lang/invoke/VarHandle") : (Cond.selects y.cls y y).before args s = true := by
  obtain ⟨c2, r2, m2, q1, -, q3, -, kP, hkP, hkPi⟩ := Cond.selects_spec hz
  have q := findClass_of_methodNamed q3
  rw [e] at q
  exact selects_self_of_private q hkP hkPi hp hi hy
def ushI (x y : Int32) : Int32 := (x.toUInt32 >>> (y &&& 31).toUInt32).toInt32
def ushL (x : Int64) (y : Int32) : Int64 := (x.toUInt64 >>> (y &&& 0x3f).toInt64.toUInt64).toInt64
theorem own_nar8 (a : Int32) : nar .byte a.toInt8.toInt32 = a.toInt8.toInt32 := by show a.toInt8.toInt32.toInt8.toInt32 = _; simp
theorem own_nar16 (a : Int32) : nar .char a.toUInt32.toUInt16.toUInt32.toInt32 = a.toUInt32.toUInt16.toUInt32.toInt32 := by
  show a.toUInt32.toUInt16.toUInt32.toInt32.toUInt32.toUInt16.toUInt32.toInt32 = _
  rw [show a.toUInt32.toUInt16.toUInt32.toInt32.toUInt32 = a.toUInt32.toUInt16.toUInt32 from rfl, UInt16.toUInt16_toUInt32]
theorem own_sta_keep {C d nm : String} (F : Sta Z h C nm d w) (K : Keep h h' []) : Sta Z h' C nm d w := by
  obtain ⟨cf, i, k, f, st, cell, h1, h2, h3, h4, h5, r⟩ := F
  exact ⟨cf, i, k, f, st, cell, h1, h2, h3, h4, K.2.1 _ _ h5 nin0, r⟩
theorem own_ext_keep (E : Ext h h') : Keep h h' [] := (Keep.refl h []).ext E
theorem own_keep_eq (e : h' = h) (ws : List Addr) : Keep h h' ws := by rw [e]; exact Keep.refl _ _
end Own
theorem pn_com_example_quotewire_quotewire_codec_FixFloatIsValidPinLaw : plainName "com/example/quotewire/quotewire/codec/FixFloatIsValidPinLaw" = true := by first | (simp [plainName, overriddenIn]; done) | decide +kernel
theorem d_method_2_code_0 : decode method_2_code 0 = .ok (.iload_n 0, 1) := by decide +kernel
theorem d_method_2_code_1 : decode method_2_code 1 = .ok (.bipush 7, 2) := by decide +kernel
theorem d_method_2_code_3 : decode method_2_code 3 = .ok (.iand, 1) := by decide +kernel
theorem d_method_2_code_4 : decode method_2_code 4 = .ok (.istore_n 1, 1) := by decide +kernel
theorem d_method_2_code_5 : decode method_2_code 5 = .ok (.iload_n 1, 1) := by decide +kernel
theorem d_method_2_code_6 : decode method_2_code 6 = .ok (.iconst 2, 1) := by decide +kernel
theorem d_method_2_code_7 : decode method_2_code 7 = .ok (.if_icmp .gt 14, 3) := by decide +kernel
theorem d_method_2_code_21 : decode method_2_code 21 = .ok (.iload_n 1, 1) := by decide +kernel
theorem d_method_2_code_22 : decode method_2_code 22 = .ok (.iconst 3, 1) := by decide +kernel
theorem d_method_2_code_23 : decode method_2_code 23 = .ok (.if_icmp .ne 6, 3) := by decide +kernel
theorem d_method_2_code_26 : decode method_2_code 26 = .ok (.bipush 46, 2) := by decide +kernel
theorem d_method_2_code_28 : decode method_2_code 28 = .ok (.ireturn, 1) := by decide +kernel
theorem d_method_2_code_29 : decode method_2_code 29 = .ok (.iload_n 1, 1) := by decide +kernel
theorem d_method_2_code_30 : decode method_2_code 30 = .ok (.iconst 4, 1) := by decide +kernel
theorem d_method_2_code_31 : decode method_2_code 31 = .ok (.if_icmp .ne 6, 3) := by decide +kernel
theorem d_method_2_code_34 : decode method_2_code 34 = .ok (.bipush 45, 2) := by decide +kernel
theorem d_method_2_code_36 : decode method_2_code 36 = .ok (.ireturn, 1) := by decide +kernel
theorem d_method_2_code_37 : decode method_2_code 37 = .ok (.iload_n 1, 1) := by decide +kernel
theorem d_method_2_code_38 : decode method_2_code 38 = .ok (.iconst 5, 1) := by decide +kernel
theorem d_method_2_code_39 : decode method_2_code 39 = .ok (.if_icmp .ne 6, 3) := by decide +kernel
theorem d_method_2_code_42 : decode method_2_code 42 = .ok (.bipush 47, 2) := by decide +kernel
theorem d_method_2_code_44 : decode method_2_code 44 = .ok (.ireturn, 1) := by decide +kernel
theorem d_method_2_code_45 : decode method_2_code 45 = .ok (.iload_n 1, 1) := by decide +kernel
theorem d_method_2_code_46 : decode method_2_code 46 = .ok (.bipush 6, 2) := by decide +kernel
theorem d_method_2_code_48 : decode method_2_code 48 = .ok (.if_icmp .ne 6, 3) := by decide +kernel
theorem d_method_2_code_51 : decode method_2_code 51 = .ok (.bipush 58, 2) := by decide +kernel
theorem d_method_2_code_53 : decode method_2_code 53 = .ok (.ireturn, 1) := by decide +kernel
theorem d_method_2_code_54 : decode method_2_code 54 = .ok (.iload_n 0, 1) := by decide +kernel
theorem d_method_2_code_55 : decode method_2_code 55 = .ok (.iconst 3, 1) := by decide +kernel
theorem d_method_2_code_56 : decode method_2_code 56 = .ok (.iushr, 1) := by decide +kernel
theorem d_method_2_code_57 : decode method_2_code 57 = .ok (.i2b, 1) := by decide +kernel
theorem d_method_2_code_58 : decode method_2_code 58 = .ok (.ireturn, 1) := by decide +kernel
theorem d_method_2_code_10 : decode method_2_code 10 = .ok (.bipush 48, 2) := by decide +kernel
theorem d_method_2_code_12 : decode method_2_code 12 = .ok (.iload_n 0, 1) := by decide +kernel
theorem d_method_2_code_13 : decode method_2_code 13 = .ok (.iconst 3, 1) := by decide +kernel
theorem d_method_2_code_14 : decode method_2_code 14 = .ok (.iushr, 1) := by decide +kernel
theorem d_method_2_code_15 : decode method_2_code 15 = .ok (.bipush 10, 2) := by decide +kernel
theorem d_method_2_code_17 : decode method_2_code 17 = .ok (.irem, 1) := by decide +kernel
theorem d_method_2_code_18 : decode method_2_code 18 = .ok (.iadd, 1) := by decide +kernel
theorem d_method_2_code_19 : decode method_2_code 19 = .ok (.i2b, 1) := by decide +kernel
theorem d_method_2_code_20 : decode method_2_code 20 = .ok (.ireturn, 1) := by decide +kernel
theorem d_method_3_code_0 : decode method_3_code 0 = .ok (.iload_n 0, 1) := by decide +kernel
theorem d_method_3_code_1 : decode method_3_code 1 = .ok (.iload_n 1, 1) := by decide +kernel
theorem d_method_3_code_2 : decode method_3_code 2 = .ok (.if_icmp .lt 12, 3) := by decide +kernel
theorem d_method_3_code_14 : decode method_3_code 14 = .ok (.iconst 0, 1) := by decide +kernel
theorem d_method_3_code_15 : decode method_3_code 15 = .ok (.ireturn, 1) := by decide +kernel
theorem d_method_3_code_5 : decode method_3_code 5 = .ok (.iload_n 0, 1) := by decide +kernel
theorem d_method_3_code_6 : decode method_3_code 6 = .ok (.iload_n 2, 1) := by decide +kernel
theorem d_method_3_code_7 : decode method_3_code 7 = .ok (.if_icmp .ge 7, 3) := by decide +kernel
theorem d_method_3_code_10 : decode method_3_code 10 = .ok (.iconst 1, 1) := by decide +kernel
theorem d_method_3_code_11 : decode method_3_code 11 = .ok (.goto 4, 3) := by decide +kernel
theorem d_method_4_code_0 : decode method_4_code 0 = .ok (.iload_n 1, 1) := by decide +kernel
theorem d_method_4_code_1 : decode method_4_code 1 = .ok (.iload_n 2, 1) := by decide +kernel
theorem d_method_4_code_2 : decode method_4_code 2 = .ok (.iload_n 3, 1) := by decide +kernel
theorem d_method_4_code_3 : decode method_4_code 3 = .ok (.invokestatic 7, 3) := by decide +kernel
theorem pd__III_Z : parseMethodDescriptor "(III)Z" = some ⟨[.int, .int, .int], some .boolean⟩ := by decide +kernel
theorem d_method_4_code_6 : decode method_4_code 6 = .ok (.ifCond .ne 5, 3) := by decide +kernel
theorem d_method_4_code_9 : decode method_4_code 9 = .ok (.iconst 0, 1) := by decide +kernel
theorem d_method_4_code_10 : decode method_4_code 10 = .ok (.ireturn, 1) := by decide +kernel
theorem d_method_4_code_11 : decode method_4_code 11 = .ok (.aload_n 0, 1) := by decide +kernel
theorem d_method_4_code_12 : decode method_4_code 12 = .ok (.iload_n 1, 1) := by decide +kernel
theorem d_method_4_code_13 : decode method_4_code 13 = .ok (.baload, 1) := by decide +kernel
theorem d_method_4_code_14 : decode method_4_code 14 = .ok (.istore 4, 2) := by decide +kernel
theorem d_method_4_code_16 : decode method_4_code 16 = .ok (.iload 4, 2) := by decide +kernel
theorem d_method_4_code_18 : decode method_4_code 18 = .ok (.bipush 48, 2) := by decide +kernel
theorem d_method_4_code_20 : decode method_4_code 20 = .ok (.if_icmp .lt 12, 3) := by decide +kernel
theorem d_method_4_code_32 : decode method_4_code 32 = .ok (.iload 4, 2) := by decide +kernel
theorem d_method_4_code_34 : decode method_4_code 34 = .ok (.bipush 46, 2) := by decide +kernel
theorem d_method_4_code_36 : decode method_4_code 36 = .ok (.if_icmp .ne 5, 3) := by decide +kernel
theorem d_method_4_code_39 : decode method_4_code 39 = .ok (.iconst 0, 1) := by decide +kernel
theorem d_method_4_code_40 : decode method_4_code 40 = .ok (.ireturn, 1) := by decide +kernel
theorem d_method_4_code_41 : decode method_4_code 41 = .ok (.iload_n 1, 1) := by decide +kernel
theorem d_method_4_code_42 : decode method_4_code 42 = .ok (.iload_n 2, 1) := by decide +kernel
theorem d_method_4_code_43 : decode method_4_code 43 = .ok (.if_icmp .ne 12, 3) := by decide +kernel
theorem d_method_4_code_46 : decode method_4_code 46 = .ok (.iload 4, 2) := by decide +kernel
theorem d_method_4_code_48 : decode method_4_code 48 = .ok (.bipush 45, 2) := by decide +kernel
theorem d_method_4_code_50 : decode method_4_code 50 = .ok (.if_icmp .ne 5, 3) := by decide +kernel
theorem d_method_4_code_53 : decode method_4_code 53 = .ok (.iconst 0, 1) := by decide +kernel
theorem d_method_4_code_54 : decode method_4_code 54 = .ok (.ireturn, 1) := by decide +kernel
theorem d_method_4_code_55 : decode method_4_code 55 = .ok (.iconst 1, 1) := by decide +kernel
theorem d_method_4_code_56 : decode method_4_code 56 = .ok (.ireturn, 1) := by decide +kernel
theorem d_method_4_code_23 : decode method_4_code 23 = .ok (.iload 4, 2) := by decide +kernel
theorem d_method_4_code_25 : decode method_4_code 25 = .ok (.bipush 57, 2) := by decide +kernel
theorem d_method_4_code_27 : decode method_4_code 27 = .ok (.if_icmp .gt 5, 3) := by decide +kernel
theorem d_method_4_code_30 : decode method_4_code 30 = .ok (.iconst 0, 1) := by decide +kernel
theorem d_method_4_code_31 : decode method_4_code 31 = .ok (.ireturn, 1) := by decide +kernel
theorem d_method_5_code_0 : decode method_5_code 0 = .ok (.iload_n 1, 1) := by decide +kernel
theorem d_method_5_code_1 : decode method_5_code 1 = .ok (.iload_n 2, 1) := by decide +kernel
theorem d_method_5_code_2 : decode method_5_code 2 = .ok (.iload_n 3, 1) := by decide +kernel
theorem d_method_5_code_3 : decode method_5_code 3 = .ok (.invokestatic 7, 3) := by decide +kernel
theorem d_method_5_code_6 : decode method_5_code 6 = .ok (.ifCond .eq 23, 3) := by decide +kernel
theorem d_method_5_code_29 : decode method_5_code 29 = .ok (.iconst 0, 1) := by decide +kernel
theorem d_method_5_code_30 : decode method_5_code 30 = .ok (.ireturn, 1) := by decide +kernel
theorem d_method_5_code_9 : decode method_5_code 9 = .ok (.aload_n 0, 1) := by decide +kernel
theorem d_method_5_code_10 : decode method_5_code 10 = .ok (.iload_n 1, 1) := by decide +kernel
theorem d_method_5_code_11 : decode method_5_code 11 = .ok (.baload, 1) := by decide +kernel
theorem d_method_5_code_12 : decode method_5_code 12 = .ok (.bipush 48, 2) := by decide +kernel
theorem d_method_5_code_14 : decode method_5_code 14 = .ok (.if_icmp .lt 15, 3) := by decide +kernel
theorem d_method_5_code_17 : decode method_5_code 17 = .ok (.aload_n 0, 1) := by decide +kernel
theorem d_method_5_code_18 : decode method_5_code 18 = .ok (.iload_n 1, 1) := by decide +kernel
theorem d_method_5_code_19 : decode method_5_code 19 = .ok (.baload, 1) := by decide +kernel
theorem d_method_5_code_20 : decode method_5_code 20 = .ok (.bipush 57, 2) := by decide +kernel
theorem d_method_5_code_22 : decode method_5_code 22 = .ok (.if_icmp .gt 7, 3) := by decide +kernel
theorem d_method_5_code_25 : decode method_5_code 25 = .ok (.iconst 1, 1) := by decide +kernel
theorem d_method_5_code_26 : decode method_5_code 26 = .ok (.goto 4, 3) := by decide +kernel
theorem d_method_6_code_0 : decode method_6_code 0 = .ok (.iload_n 1, 1) := by decide +kernel
theorem d_method_6_code_1 : decode method_6_code 1 = .ok (.iload_n 2, 1) := by decide +kernel
theorem d_method_6_code_2 : decode method_6_code 2 = .ok (.iload_n 3, 1) := by decide +kernel
theorem d_method_6_code_3 : decode method_6_code 3 = .ok (.invokestatic 7, 3) := by decide +kernel
theorem d_method_6_code_6 : decode method_6_code 6 = .ok (.ifCond .eq 15, 3) := by decide +kernel
theorem d_method_6_code_21 : decode method_6_code 21 = .ok (.iconst 0, 1) := by decide +kernel
theorem d_method_6_code_22 : decode method_6_code 22 = .ok (.ireturn, 1) := by decide +kernel
theorem d_method_6_code_9 : decode method_6_code 9 = .ok (.aload_n 0, 1) := by decide +kernel
theorem d_method_6_code_10 : decode method_6_code 10 = .ok (.iload_n 1, 1) := by decide +kernel
theorem d_method_6_code_11 : decode method_6_code 11 = .ok (.baload, 1) := by decide +kernel
theorem d_method_6_code_12 : decode method_6_code 12 = .ok (.bipush 46, 2) := by decide +kernel
theorem d_method_6_code_14 : decode method_6_code 14 = .ok (.if_icmp .ne 7, 3) := by decide +kernel
theorem d_method_6_code_17 : decode method_6_code 17 = .ok (.iconst 1, 1) := by decide +kernel
theorem d_method_6_code_18 : decode method_6_code 18 = .ok (.goto 4, 3) := by decide +kernel
theorem pn_com_example_quotewire_quotewire_codec_FixFloat : plainName "com/example/quotewire/quotewire/codec/FixFloat" = true := by first | (simp [plainName, overriddenIn]; done) | decide +kernel
theorem d_prog_18_method_2_code_0 : decode prog_18_method_2_code 0 = .ok (.iload_n 1, 1) := by decide +kernel
theorem d_prog_18_method_2_code_1 : decode prog_18_method_2_code 1 = .ok (.iload_n 2, 1) := by decide +kernel
theorem d_prog_18_method_2_code_2 : decode prog_18_method_2_code 2 = .ok (.if_icmp .ge 17, 3) := by decide +kernel
theorem d_prog_18_method_2_code_5 : decode prog_18_method_2_code 5 = .ok (.aload_n 0, 1) := by decide +kernel
theorem d_prog_18_method_2_code_6 : decode prog_18_method_2_code 6 = .ok (.iload_n 1, 1) := by decide +kernel
theorem d_prog_18_method_2_code_7 : decode prog_18_method_2_code 7 = .ok (.baload, 1) := by decide +kernel
theorem d_prog_18_method_2_code_8 : decode prog_18_method_2_code 8 = .ok (.bipush 45, 2) := by decide +kernel
theorem d_prog_18_method_2_code_10 : decode prog_18_method_2_code 10 = .ok (.if_icmp .ne 9, 3) := by decide +kernel
theorem d_prog_18_method_2_code_13 : decode prog_18_method_2_code 13 = .ok (.iload_n 1, 1) := by decide +kernel
theorem d_prog_18_method_2_code_14 : decode prog_18_method_2_code 14 = .ok (.iconst 1, 1) := by decide +kernel
theorem d_prog_18_method_2_code_15 : decode prog_18_method_2_code 15 = .ok (.iadd, 1) := by decide +kernel
theorem d_prog_18_method_2_code_16 : decode prog_18_method_2_code 16 = .ok (.goto 4, 3) := by decide +kernel
theorem d_prog_18_method_2_code_20 : decode prog_18_method_2_code 20 = .ok (.istore_n 3, 1) := by decide +kernel
theorem d_prog_18_method_2_code_21 : decode prog_18_method_2_code 21 = .ok (.iconst 0, 1) := by decide +kernel
theorem d_prog_18_method_2_code_22 : decode prog_18_method_2_code 22 = .ok (.istore 4, 2) := by decide +kernel
theorem d_prog_18_method_2_code_24 : decode prog_18_method_2_code 24 = .ok (.iconst 0, 1) := by decide +kernel
theorem d_prog_18_method_2_code_25 : decode prog_18_method_2_code 25 = .ok (.istore 5, 2) := by decide +kernel
theorem d_prog_18_method_2_code_27 : decode prog_18_method_2_code 27 = .ok (.iload_n 3, 1) := by decide +kernel
theorem d_prog_18_method_2_code_28 : decode prog_18_method_2_code 28 = .ok (.iload_n 2, 1) := by decide +kernel
theorem d_prog_18_method_2_code_29 : decode prog_18_method_2_code 29 = .ok (.if_icmp .ge 54, 3) := by decide +kernel
theorem d_prog_18_method_2_code_83 : decode prog_18_method_2_code 83 = .ok (.iload 4, 2) := by decide +kernel
theorem d_prog_18_method_2_code_85 : decode prog_18_method_2_code 85 = .ok (.ireturn, 1) := by decide +kernel
theorem d_prog_18_method_2_code_32 : decode prog_18_method_2_code 32 = .ok (.aload_n 0, 1) := by decide +kernel
theorem d_prog_18_method_2_code_33 : decode prog_18_method_2_code 33 = .ok (.iload_n 3, 1) := by decide +kernel
theorem d_prog_18_method_2_code_34 : decode prog_18_method_2_code 34 = .ok (.baload, 1) := by decide +kernel
theorem d_prog_18_method_2_code_35 : decode prog_18_method_2_code 35 = .ok (.istore 6, 2) := by decide +kernel
theorem d_prog_18_method_2_code_37 : decode prog_18_method_2_code 37 = .ok (.iload 6, 2) := by decide +kernel
theorem d_prog_18_method_2_code_39 : decode prog_18_method_2_code 39 = .ok (.bipush 48, 2) := by decide +kernel
theorem d_prog_18_method_2_code_41 : decode prog_18_method_2_code 41 = .ok (.if_icmp .lt 16, 3) := by decide +kernel
theorem d_prog_18_method_2_code_57 : decode prog_18_method_2_code 57 = .ok (.iload 6, 2) := by decide +kernel
theorem d_prog_18_method_2_code_59 : decode prog_18_method_2_code 59 = .ok (.bipush 46, 2) := by decide +kernel
theorem d_prog_18_method_2_code_61 : decode prog_18_method_2_code 61 = .ok (.if_icmp .ne 14, 3) := by decide +kernel
theorem d_prog_18_method_2_code_64 : decode prog_18_method_2_code 64 = .ok (.iload 5, 2) := by decide +kernel
theorem d_prog_18_method_2_code_66 : decode prog_18_method_2_code 66 = .ok (.ifCond .ne 9, 3) := by decide +kernel
theorem d_prog_18_method_2_code_69 : decode prog_18_method_2_code 69 = .ok (.iconst 1, 1) := by decide +kernel
theorem d_prog_18_method_2_code_70 : decode prog_18_method_2_code 70 = .ok (.istore 5, 2) := by decide +kernel
theorem d_prog_18_method_2_code_72 : decode prog_18_method_2_code 72 = .ok (.goto 5, 3) := by decide +kernel
theorem d_prog_18_method_2_code_77 : decode prog_18_method_2_code 77 = .ok (.iinc 3 1, 3) := by decide +kernel
theorem d_prog_18_method_2_code_80 : decode prog_18_method_2_code 80 = .ok (.goto (-53), 3) := by decide +kernel
theorem d_prog_18_method_2_code_75 : decode prog_18_method_2_code 75 = .ok (.iconst 0, 1) := by decide +kernel
theorem d_prog_18_method_2_code_76 : decode prog_18_method_2_code 76 = .ok (.ireturn, 1) := by decide +kernel
theorem d_prog_18_method_2_code_44 : decode prog_18_method_2_code 44 = .ok (.iload 6, 2) := by decide +kernel
theorem d_prog_18_method_2_code_46 : decode prog_18_method_2_code 46 = .ok (.bipush 57, 2) := by decide +kernel
theorem d_prog_18_method_2_code_48 : decode prog_18_method_2_code 48 = .ok (.if_icmp .gt 9, 3) := by decide +kernel
theorem d_prog_18_method_2_code_51 : decode prog_18_method_2_code 51 = .ok (.iconst 1, 1) := by decide +kernel
theorem d_prog_18_method_2_code_52 : decode prog_18_method_2_code 52 = .ok (.istore 4, 2) := by decide +kernel
theorem d_prog_18_method_2_code_54 : decode prog_18_method_2_code 54 = .ok (.goto 23, 3) := by decide +kernel
theorem d_prog_18_method_2_code_19 : decode prog_18_method_2_code 19 = .ok (.iload_n 1, 1) := by decide +kernel
theorem pd__I_B : parseMethodDescriptor "(I)B" = some ⟨[.int], some .byte⟩ := by decide +kernel
theorem pd___BIII_I : parseMethodDescriptor "([BIII)I" = some ⟨[(.array .byte), .int, .int, .int], some .int⟩ := by decide +kernel
theorem pd___BII_Z : parseMethodDescriptor "([BII)Z" = some ⟨[(.array .byte), .int, .int], some .boolean⟩ := by decide +kernel
theorem pd___BIII_Z : parseMethodDescriptor "([BIII)Z" = some ⟨[(.array .byte), .int, .int, .int], some .boolean⟩ := by decide +kernel

theorem own_of1 (i : Nat) : Int32.ofNat i + (1 : Int32) = Int32.ofNat (i + 1) := by
  show Int32.ofNat i + Int32.ofNat 1 = _
  rw [← Int32.ofNat_add]
theorem own_ofI {i : Nat} (h : i < 2147483648) : (Int32.ofNat i).toInt = i := Int32.toInt_ofNat_of_lt (by omega)
theorem own_nn {i : Nat} (h : i < 2147483648) : ¬ Int32.ofNat i < 0 := by
  rw [Int32.lt_iff_toInt_lt, own_ofI h]; show ¬ (i : Int) < 0; omega
theorem own_cl {i : Nat} (h : i < 2147483648) : (Int32.ofNat i).toNatClampNeg = i := by
  show (Int32.ofNat i).toInt.toNat = i; rw [own_ofI h]; omega
theorem own_lt {i j : Nat} (hi : i < 2147483648) (hj : j < 2147483648) : Int32.ofNat i < Int32.ofNat j ↔ i < j := by
  rw [Int32.lt_iff_toInt_lt, own_ofI hi, own_ofI hj]; omega
def pickF (v : Int32) : Int32 :=
  if (2 : Int32) < (v &&& (7 : Int32)) then
    (if (v &&& (7 : Int32)) = 3 then 46 else if (v &&& (7 : Int32)) = 4 then 45 else if (v &&& (7 : Int32)) = 5 then 47 else if (v &&& (7 : Int32)) = 6 then 58 else (ushI v (3 : Int32)).toInt8.toInt32)
  else ((48 : Int32) + ((ushI v (3 : Int32)) % (10 : Int32))).toInt8.toInt32
theorem own_pickb (v : Int32) : nar .byte (pickF v) = pickF v := by
  unfold pickF
  by_cases h1 : (2 : Int32) < (v &&& (7 : Int32))
  · rw [if_pos h1]
    by_cases h2 : (v &&& (7 : Int32)) = 3
    · rw [if_pos h2]; decide
    · rw [if_neg h2]
      by_cases h3 : (v &&& (7 : Int32)) = 4
      · rw [if_pos h3]; decide
      · rw [if_neg h3]
        by_cases h4 : (v &&& (7 : Int32)) = 5
        · rw [if_pos h4]; decide
        · rw [if_neg h4]
          by_cases h5 : (v &&& (7 : Int32)) = 6
          · rw [if_pos h5]; decide
          · rw [if_neg h5]; exact own_nar8 _
  · rw [if_neg h1]; exact own_nar8 _
def inF (i a b : Int32) : Int32 := if i < a then 0 else if i < b then 1 else 0
def badF (x i a b : Int32) : Int32 := if inF i a b = 0 then 0 else if ¬ x < 48 ∧ ¬ 57 < x then 0 else if x = 46 then 0 else if i = a ∧ x = 45 then 0 else 1
def digF (x i a b : Int32) : Int32 := if inF i a b = 0 then 0 else if ¬ x < 48 ∧ ¬ 57 < x then 1 else 0
def poiF (x i a b : Int32) : Int32 := if inF i a b = 0 then 0 else if x = 46 then 1 else 0
def vloop (g : Nat → Int32) : Nat → Nat → Int32 → Int32 → Int32
  | 0, _, d, _ => d
  | k + 1, i, d, q => if ¬ g i < 48 ∧ ¬ 57 < g i then vloop g k (i + 1) 1 q else if g i = 46 ∧ q = 0 then vloop g k (i + 1) d 1 else 0
def validF (g : Nat → Int32) (a b : Nat) : Int32 := if a < b ∧ g a = 45 then vloop g (b - (a + 1)) (a + 1) 0 0 else vloop g (b - a) a 0 0
def bg (x0 x1 x2 x3 x4 : Int32) : Nat → Int32 := fun j => if j = 0 then x0 else if j = 1 then x1 else if j = 2 then x2 else if j = 3 then x3 else x4
theorem own_bg (x0 x1 x2 x3 x4 : Int32) : ∀ j, j < 5 → aset (aset (aset (aset (aset (fun _ => .int (0 : Int32)) 0 (.int x0)) 1 (.int x1)) 2 (.int x2)) 3 (.int x3)) 4 (.int x4) j = .int (bg x0 x1 x2 x3 x4 j) := by
  intro j hj
  unfold aset bg
  by_cases h0 : j = 0
  · subst h0; rfl
  · by_cases h1 : j = 1
    · subst h1; rfl
    · by_cases h2 : j = 2
      · subst h2; rfl
      · by_cases h3 : j = 3
        · subst h3; rfl
        · have h4 : j = 4 := by omega
          subst h4; rfl
theorem own_inj {i j : Nat} (hi : i < 2147483648) (hj : j < 2147483648) : Int32.ofNat i = Int32.ofNat j ↔ i = j := by
  rw [← Int32.toInt_inj, own_ofI hi, own_ofI hj]; omega
theorem own_ofa (i j : Nat) : Int32.ofNat i + Int32.ofNat j = Int32.ofNat (i + j) := by rw [← Int32.ofNat_add]
def cls (x : Int32) : Fin 4 := if ¬ x < 48 ∧ ¬ 57 < x then 0 else if x = 46 then 1 else if x = 45 then 2 else 3
theorem own_cls (x : Int32) : (((¬ x < 48 ∧ ¬ 57 < x) = True) ∧ ((x = 46) = False) ∧ ((x = 45) = False) ∧ cls x = 0) ∨ (((¬ x < 48 ∧ ¬ 57 < x) = False) ∧ ((x = 46) = True) ∧ ((x = 45) = False) ∧ cls x = 1) ∨ (((¬ x < 48 ∧ ¬ 57 < x) = False) ∧ ((x = 46) = False) ∧ ((x = 45) = True) ∧ cls x = 2) ∨ (((¬ x < 48 ∧ ¬ 57 < x) = False) ∧ ((x = 46) = False) ∧ ((x = 45) = False) ∧ cls x = 3) := by
  by_cases h1 : ¬ x < 48 ∧ ¬ 57 < x
  · refine Or.inl ⟨eq_true h1, eq_false ?_, eq_false ?_, if_pos h1⟩
    · rintro rfl; exact absurd h1 (by decide)
    · rintro rfl; exact absurd h1 (by decide)
  · by_cases h2 : x = 46
    · subst h2; exact Or.inr (Or.inl ⟨by decide, by decide, by decide, by decide⟩)
    · by_cases h3 : x = 45
      · subst h3; exact Or.inr (Or.inr (Or.inl ⟨by decide, by decide, by decide, by decide⟩))
      · exact Or.inr (Or.inr (Or.inr ⟨eq_false h1, eq_false h2, eq_false h3, by unfold cls; rw [if_neg h1, if_neg h2, if_neg h3]⟩))
def anyV (b0 b1 b2 b3 b4 : Int32) : Int32 := if b0 = 0 then (if b1 = 0 then (if b2 = 0 then (if b3 = 0 then (if b4 = 0 then 0 else 1) else 1) else 1) else 1) else 1
def expV (y d q : Int32) : Int32 := if y = 0 then (if d < 1 then 0 else if 1 < q then 0 else 1) else 0
def bi (b : Bool) : Int32 := if b = true then 1 else 0
def bn (b : Bool) : Nat := if b = true then 1 else 0
def inB (i a b : Nat) : Bool := Nat.ble a i && Nat.blt i b
def badB (c : Fin 4) (i a b : Nat) : Bool := inB i a b && !(Nat.beq c.val 0) && !(Nat.beq c.val 1) && !(Nat.beq i a && Nat.beq c.val 2)
def digB (c : Fin 4) (i a b : Nat) : Bool := inB i a b && Nat.beq c.val 0
def poiB (c : Fin 4) (i a b : Nat) : Bool := inB i a b && Nat.beq c.val 1
theorem own_inF {i a b : Nat} (hi : i < 100) (ha : a < 100) (hb : b < 100) : inF (Int32.ofNat i) (Int32.ofNat a) (Int32.ofNat b) = bi (inB i a b) := by
  unfold inF inB
  simp only [own_lt (show i < 2147483648 by omega) (show a < 2147483648 by omega), own_lt (show i < 2147483648 by omega) (show b < 2147483648 by omega)]
  by_cases h1 : i < a <;> by_cases h2 : i < b <;> simp [h1, h2, bi, Nat.ble_eq, Nat.blt_eq] <;> omega
theorem own_in0 {i a b : Nat} (hi : i < 100) (ha : a < 100) (hb : b < 100) : inF (Int32.ofNat i) (Int32.ofNat a) (Int32.ofNat b) = 0 ↔ inB i a b = false := by
  rw [own_inF hi ha hb]; cases inB i a b <;> decide
theorem own_bad {x : Int32} {i a b : Nat} (hi : i < 100) (ha : a < 100) (hb : b < 100) : badF x (Int32.ofNat i) (Int32.ofNat a) (Int32.ofNat b) = bi (badB (cls x) i a b) := by
  unfold badF badB
  simp only [own_in0 hi ha hb, own_inj (show i < 2147483648 by omega) (show a < 2147483648 by omega)]
  cases h : inB i a b
  · rfl
  · by_cases e : i = a
    · rcases own_cls x with ⟨h1, h2, h3, h4⟩ | ⟨h1, h2, h3, h4⟩ | ⟨h1, h2, h3, h4⟩ | ⟨h1, h2, h3, h4⟩ <;> simp only [h1, h2, h3, h4, eq_true e, if_true, if_false, and_self, and_true, true_and, and_false] <;> simp [e] <;> rfl
    · rcases own_cls x with ⟨h1, h2, h3, h4⟩ | ⟨h1, h2, h3, h4⟩ | ⟨h1, h2, h3, h4⟩ | ⟨h1, h2, h3, h4⟩ <;> simp only [h1, h2, h3, h4, eq_false e, show Nat.beq i a = false from Bool.eq_false_iff.mpr (fun q => e (Nat.eq_of_beq_eq_true q)), if_true, if_false, false_and] <;> rfl
theorem own_dig {x : Int32} {i a b : Nat} (hi : i < 100) (ha : a < 100) (hb : b < 100) : digF x (Int32.ofNat i) (Int32.ofNat a) (Int32.ofNat b) = Int32.ofNat (bn (digB (cls x) i a b)) := by
  unfold digF digB
  simp only [own_in0 hi ha hb]
  cases h : inB i a b
  · rfl
  · rcases own_cls x with ⟨h1, h2, h3, h4⟩ | ⟨h1, h2, h3, h4⟩ | ⟨h1, h2, h3, h4⟩ | ⟨h1, h2, h3, h4⟩ <;> simp only [h1, h2, h3, h4] <;> simp <;> rfl
theorem own_poi {x : Int32} {i a b : Nat} (hi : i < 100) (ha : a < 100) (hb : b < 100) : poiF x (Int32.ofNat i) (Int32.ofNat a) (Int32.ofNat b) = Int32.ofNat (bn (poiB (cls x) i a b)) := by
  unfold poiF poiB
  simp only [own_in0 hi ha hb]
  cases h : inB i a b
  · rfl
  · rcases own_cls x with ⟨h1, h2, h3, h4⟩ | ⟨h1, h2, h3, h4⟩ | ⟨h1, h2, h3, h4⟩ | ⟨h1, h2, h3, h4⟩ <;> simp only [h1, h2, h3, h4] <;> simp <;> rfl
def vB (g : Nat → Fin 4) : Nat → Nat → Bool → Bool → Bool
  | 0, _, d, _ => d
  | k + 1, i, d, q => if (g i).val = 0 then vB g k (i + 1) true q else if (g i).val = 1 ∧ q = false then vB g k (i + 1) d true else false
theorem own_vB (g : Nat → Int32) : ∀ k i d q, vloop g k i (bi d) (bi q) = bi (vB (fun j => cls (g j)) k i d q)
  | 0, _, _, _ => rfl
  | k + 1, i, d, q => by
    have e1 : (1 : Int32) = bi true := rfl
    have e2 : bi q = 0 ↔ q = false := by cases q <;> decide
    rcases own_cls (g i) with ⟨h1, h2, h3, h4⟩ | ⟨h1, h2, h3, h4⟩ | ⟨h1, h2, h3, h4⟩ | ⟨h1, h2, h3, h4⟩ <;> simp only [vloop, vB, h1, h2, h3, h4, e1, e2, own_vB g k, if_true, if_false, true_and, false_and]
    · rfl
    · cases q <;> rfl
    · rfl
    · rfl
def validB (g : Nat → Fin 4) (a b : Nat) : Bool := if a < b ∧ (g a).val = 2 then vB g (b - (a + 1)) (a + 1) false false else vB g (b - a) a false false
theorem own_validB (g : Nat → Int32) (a b : Nat) : validF g a b = bi (validB (fun j => cls (g j)) a b) := by
  unfold validF validB
  have e0 : (0 : Int32) = bi false := rfl
  rw [e0, own_vB, own_vB]
  rcases own_cls (g a) with ⟨h1, h2, h3, h4⟩ | ⟨h1, h2, h3, h4⟩ | ⟨h1, h2, h3, h4⟩ | ⟨h1, h2, h3, h4⟩ <;> simp only [h3, h4, and_true, and_false, if_false]
  · rw [if_neg (fun q => absurd q.2 (by decide))]
  · rw [if_neg (fun q => absurd q.2 (by decide))]
  · by_cases e : a < b
    · rw [if_pos e, if_pos ⟨e, rfl⟩]
    · rw [if_neg e, if_neg (fun q => e q.1)]
  · rw [if_neg (fun q => absurd q.2 (by decide))]
def cg (c0 c1 c2 c3 c4 : Fin 4) : Nat → Fin 4 := fun j => if j = 0 then c0 else if j = 1 then c1 else if j = 2 then c2 else if j = 3 then c3 else c4
def allB (c0 c1 c2 c3 c4 : Fin 4) (a b : Nat) : Bool := !(badB c0 0 a b || badB c1 1 a b || badB c2 2 a b || badB c3 3 a b || badB c4 4 a b) && Nat.ble 1 (bn (digB c0 0 a b) + bn (digB c1 1 a b) + bn (digB c2 2 a b) + bn (digB c3 3 a b) + bn (digB c4 4 a b)) && Nat.ble (bn (poiB c0 0 a b) + bn (poiB c1 1 a b) + bn (poiB c2 2 a b) + bn (poiB c3 3 a b) + bn (poiB c4 4 a b)) 1
set_option maxRecDepth 100000 in
theorem own_all : ∀ (a b : Fin 6), a.val ≤ b.val → ∀ c0 c1 c2 c3 c4 : Fin 4, validB (cg c0 c1 c2 c3 c4) a.val b.val = allB c0 c1 c2 c3 c4 a.val b.val := by decide +kernel
theorem own_cgb (x0 x1 x2 x3 x4 : Int32) : (fun j => cls (bg x0 x1 x2 x3 x4 j)) = cg (cls x0) (cls x1) (cls x2) (cls x3) (cls x4) := by
  funext j
  unfold bg cg
  repeat' split
  all_goals rfl
theorem own_anyB (b0 b1 b2 b3 b4 : Bool) : anyV (bi b0) (bi b1) (bi b2) (bi b3) (bi b4) = bi (b0 || b1 || b2 || b3 || b4) := by
  cases b0 <;> cases b1 <;> cases b2 <;> cases b3 <;> cases b4 <;> rfl
theorem own_bn (b : Bool) : bn b ≤ 1 := by cases b <;> decide
theorem own_expB (y : Bool) (d q : Nat) (hd : d < 100) (hq : q < 100) : expV (bi y) (Int32.ofNat d) (Int32.ofNat q) = bi (!y && Nat.ble 1 d && Nat.ble q 1) := by
  unfold expV
  have e1 : Int32.ofNat d < 1 ↔ d < 1 := own_lt (j := 1) (by omega) (by omega)
  have e2 : (1 : Int32) < Int32.ofNat q ↔ 1 < q := own_lt (i := 1) (by omega) (by omega)
  simp only [e1, e2]
  cases y
  · by_cases h1 : d < 1
    · rw [show Nat.ble 1 d = false from by rw [Bool.eq_false_iff]; intro q; have := Nat.le_of_ble_eq_true q; omega]; simp [h1, bi]
    · rw [show Nat.ble 1 d = true from Nat.ble_eq_true_of_le (by omega)]
      by_cases h2 : 1 < q
      · rw [show Nat.ble q 1 = false from by rw [Bool.eq_false_iff]; intro z; have := Nat.le_of_ble_eq_true z; omega]; simp [h1, h2, bi]
      · rw [show Nat.ble q 1 = true from Nat.ble_eq_true_of_le (by omega)]; simp [h1, h2, bi]
  · rfl
theorem own_law (x0 x1 x2 x3 x4 : Int32) (a b : Nat) (hab : a ≤ b) (hb : b ≤ 5) : validF (bg x0 x1 x2 x3 x4) a b = expV (anyV (badF x0 (Int32.ofNat 0) (Int32.ofNat a) (Int32.ofNat b)) (badF x1 (Int32.ofNat 1) (Int32.ofNat a) (Int32.ofNat b)) (badF x2 (Int32.ofNat 2) (Int32.ofNat a) (Int32.ofNat b)) (badF x3 (Int32.ofNat 3) (Int32.ofNat a) (Int32.ofNat b)) (badF x4 (Int32.ofNat 4) (Int32.ofNat a) (Int32.ofNat b)))
    (digF x0 (Int32.ofNat 0) (Int32.ofNat a) (Int32.ofNat b) + digF x1 (Int32.ofNat 1) (Int32.ofNat a) (Int32.ofNat b) + digF x2 (Int32.ofNat 2) (Int32.ofNat a) (Int32.ofNat b) + digF x3 (Int32.ofNat 3) (Int32.ofNat a) (Int32.ofNat b) + digF x4 (Int32.ofNat 4) (Int32.ofNat a) (Int32.ofNat b))
    (poiF x0 (Int32.ofNat 0) (Int32.ofNat a) (Int32.ofNat b) + poiF x1 (Int32.ofNat 1) (Int32.ofNat a) (Int32.ofNat b) + poiF x2 (Int32.ofNat 2) (Int32.ofNat a) (Int32.ofNat b) + poiF x3 (Int32.ofNat 3) (Int32.ofNat a) (Int32.ofNat b) + poiF x4 (Int32.ofNat 4) (Int32.ofNat a) (Int32.ofNat b)) := by
  have ha : a < 100 := by omega
  have hb' : b < 100 := by omega
  rw [own_validB, own_cgb]
  rw [own_bad (i := 0) (by decide) ha hb', own_bad (i := 1) (by decide) ha hb', own_bad (i := 2) (by decide) ha hb', own_bad (i := 3) (by decide) ha hb', own_bad (i := 4) (by decide) ha hb']
  rw [own_dig (i := 0) (by decide) ha hb', own_dig (i := 1) (by decide) ha hb', own_dig (i := 2) (by decide) ha hb', own_dig (i := 3) (by decide) ha hb', own_dig (i := 4) (by decide) ha hb']
  rw [own_poi (i := 0) (by decide) ha hb', own_poi (i := 1) (by decide) ha hb', own_poi (i := 2) (by decide) ha hb', own_poi (i := 3) (by decide) ha hb', own_poi (i := 4) (by decide) ha hb']
  have d0 := own_bn (digB (cls x0) 0 a b); have d1 := own_bn (digB (cls x1) 1 a b); have d2 := own_bn (digB (cls x2) 2 a b); have d3 := own_bn (digB (cls x3) 3 a b); have d4 := own_bn (digB (cls x4) 4 a b)
  have q0 := own_bn (poiB (cls x0) 0 a b); have q1 := own_bn (poiB (cls x1) 1 a b); have q2 := own_bn (poiB (cls x2) 2 a b); have q3 := own_bn (poiB (cls x3) 3 a b); have q4 := own_bn (poiB (cls x4) 4 a b)
  simp only [own_ofa]
  rw [own_anyB, own_expB _ _ _ (by omega) (by omega)]
  exact congrArg bi (own_all ⟨a, by omega⟩ ⟨b, by omega⟩ hab _ _ _ _ _)
theorem own_range (r : Int32) : ∃ a b : Nat, a ≤ b ∧ b ≤ 5 ∧ ((r &&& (255 : Int32)) % (6 : Int32)) = Int32.ofNat a ∧ ((6 : Int32) - Int32.ofNat a) ≠ 0 ∧ Int32.ofNat a + (((ushI r (8 : Int32)) &&& (255 : Int32)) % ((6 : Int32) - Int32.ofNat a)) = Int32.ofNat b := by
  have h1 := c_mask r 255 8 (by decide) (by decide)
  have h2 := c_iremV (r &&& (255 : Int32)) 6
  have h3 := c_mask (ushI r (8 : Int32)) 255 8 (by decide) (by decide)
  have e6 : (6 : Int32).toInt = 6 := by decide
  have ha := h2.1 (by omega) (by omega)
  obtain ⟨a, qa⟩ : ∃ a : Nat, a = ((r &&& (255 : Int32)) % (6 : Int32)).toInt.toNat := ⟨_, rfl⟩
  have ea : ((r &&& (255 : Int32)) % (6 : Int32)) = Int32.ofNat a := Int32.toInt_inj.mp (by rw [own_ofI (by omega)]; omega)
  have hs := c_isub 6 (Int32.ofNat a)
  have hr := rng32 ((6 : Int32) - Int32.ofNat a)
  rw [own_ofI (by omega)] at hs
  have h4 := (c_iremV ((ushI r (8 : Int32)) &&& (255 : Int32)) ((6 : Int32) - Int32.ofNat a)).1 (by omega) (by omega)
  have hp := c_iadd (Int32.ofNat a) (((ushI r (8 : Int32)) &&& (255 : Int32)) % ((6 : Int32) - Int32.ofNat a))
  have hq := rng32 (Int32.ofNat a + (((ushI r (8 : Int32)) &&& (255 : Int32)) % ((6 : Int32) - Int32.ofNat a)))
  rw [own_ofI (by omega)] at hp
  refine ⟨a, (Int32.ofNat a + (((ushI r (8 : Int32)) &&& (255 : Int32)) % ((6 : Int32) - Int32.ofNat a))).toInt.toNat, by omega, by omega, ea, fun z => ?_, ?_⟩
  · rw [z] at hs hr
    have e0 : (0 : Int32).toInt = 0 := by decide
    omega
  · apply Int32.toInt_inj.mp
    rw [own_ofI (by omega)]; omega

def Q1 (Z : State) (p1 : Int32) (h0 : Heap) (v : Option Value) (h : Heap) (L : List Loc) : Prop := v = some (.int (pickF p1)) ∧ L = [] ∧ h = h0
theorem ef_1 (m : MethodId) (p1 : Int32) : entryFrame m #[(.int p1)] 2 = mkF m 0 #[.val (.int p1), .unset] [] := by first | (simp [entryFrame, mkF, argsToLocals, Value.category]; done) | rfl
set_option maxRecDepth 65536 in
set_option maxHeartbeats 40000000 in
theorem rm1 (l : Launch) (Z : State) (a0 : Array Value) (hw : ∀ d ∈ tables_1, d.before a0 Z = true) (ws : List Jvm.Cond) (p1 : Int32) (h0 : Heap) :
    MetFree l (⟨"com/example/quotewire/quotewire/codec/FixFloatIsValidPinLaw", "pick", "(I)B"⟩ : MethodName) (head1 (Jvm.Cond.code (⟨"com/example/quotewire/quotewire/codec/FixFloatIsValidPinLaw", "pick", "(I)B"⟩ : MethodName) method_2_code 2 (some .byte) :: ws) ({ frames := 0, cells := 0, slots := 0, locals := 0 } : Room)) (fun a U => a = #[(.int p1)] ∧ Z.Warmed39 U.vm ∧ U.heap = h0) (fun _ _ _ _ _ => True) (fun _ U o U' => ∃ v L, o = .returned v ∧ (Q1 Z p1 h0) v U'.heap L ∧ FrameEnd U o U' L 0 0) := by
  refine MetFree.of_bodySF (plainFor_of_name pn_com_example_quotewire_quotewire_codec_FixFloatIsValidPinLaw) hisR ?_
  intro p e s m args below meth c s₁ Bd hml0 hP hK
  obtain ⟨rfl, hZ, hh⟩ := hP
  have hx := Bd.exec
  have hby := Bd.bytes
  have hml : c.maxLocals = 2 := hml0
  have hown : s.vm.findClass "com/example/quotewire/quotewire/codec/FixFloatIsValidPinLaw" = some m.cls := findClass_of_methodNamed Bd.named
  have hnm := (name_of_methodNamed Bd.named Bd.method).1
  have X0 : Stand p l e ({ frames := 0, cells := 0, slots := 0, locals := 0 } : Room) s m #[(.int p1)] below meth c s₁ [] 0 0 := Stand.of_body Bd
  have e0 : s₁.heap = h0 := by rw [← hh, Bd.state]; rfl
  show Go FrameEnd p e below s 0 0 (Q1 Z p1 h0) _
  refine Go.step (fun _ k => castTop (ef_1 m p1) k) ?_
  show Go FrameEnd p e below s 0 0 (Q1 Z p1 h0) (s₁.setTop (mkF m 0 #[.val (.int p1), .unset] []))
  refine Go.step (fun _ k => XS.iloadN X0.here hx rfl (hb hby d_method_2_code_0) rfl k) ?_
  show Go FrameEnd p e below s 0 0 (Q1 Z p1 h0) (s₁.setTop (mkF m 1 #[.val (.int p1), .unset] [(.int p1)]))
  refine Go.step (fun _ k => XS.bipush X0.here hx rfl (hb hby d_method_2_code_1) k) ?_
  show Go FrameEnd p e below s 0 0 (Q1 Z p1 h0) (s₁.setTop (mkF m 3 #[.val (.int p1), .unset] [(.int (7 : Int32)), (.int p1)]))
  refine Go.step (fun _ k => XS.iand X0.here hx rfl (hb hby d_method_2_code_3) rfl k) ?_
  show Go FrameEnd p e below s 0 0 (Q1 Z p1 h0) (s₁.setTop (mkF m 4 #[.val (.int p1), .unset] [(.int (p1 &&& (7 : Int32)))]))
  refine Go.step (fun _ k => XS.istoreN X0.here hx rfl (hb hby d_method_2_code_4) rfl (l' := #[.val (.int p1), .val (.int (p1 &&& (7 : Int32)))]) rfl k) ?_
  show Go FrameEnd p e below s 0 0 (Q1 Z p1 h0) (s₁.setTop (mkF m 5 #[.val (.int p1), .val (.int (p1 &&& (7 : Int32)))] []))
  refine Go.step (fun _ k => XS.iloadN X0.here hx rfl (hb hby d_method_2_code_5) rfl k) ?_
  show Go FrameEnd p e below s 0 0 (Q1 Z p1 h0) (s₁.setTop (mkF m 6 #[.val (.int p1), .val (.int (p1 &&& (7 : Int32)))] [(.int (p1 &&& (7 : Int32)))]))
  refine Go.step (fun _ k => XS.iconst X0.here hx rfl (hb hby d_method_2_code_6) k) ?_
  show Go FrameEnd p e below s 0 0 (Q1 Z p1 h0) (s₁.setTop (mkF m 7 #[.val (.int p1), .val (.int (p1 &&& (7 : Int32)))] [(.int (2 : Int32)), (.int (p1 &&& (7 : Int32)))]))
  by_cases h1 : (2 : Int32) < (p1 &&& (7 : Int32))
  · skip
    refine Go.step (fun _ k => XS.icmpYes X0.here hx rfl (pc0 := 7) (pc' := 21) rfl (hb hby d_method_2_code_7) rfl (tlt h1).2.2.1 (by decide) (by decide) k) ?_
    show Go FrameEnd p e below s 0 0 (Q1 Z p1 h0) (s₁.setTop (mkF m 21 #[.val (.int p1), .val (.int (p1 &&& (7 : Int32)))] []))
    refine Go.step (fun _ k => XS.iloadN X0.here hx rfl (hb hby d_method_2_code_21) rfl k) ?_
    show Go FrameEnd p e below s 0 0 (Q1 Z p1 h0) (s₁.setTop (mkF m 22 #[.val (.int p1), .val (.int (p1 &&& (7 : Int32)))] [(.int (p1 &&& (7 : Int32)))]))
    refine Go.step (fun _ k => XS.iconst X0.here hx rfl (hb hby d_method_2_code_22) k) ?_
    show Go FrameEnd p e below s 0 0 (Q1 Z p1 h0) (s₁.setTop (mkF m 23 #[.val (.int p1), .val (.int (p1 &&& (7 : Int32)))] [(.int (3 : Int32)), (.int (p1 &&& (7 : Int32)))]))
    by_cases h2 : (p1 &&& (7 : Int32)) = (3 : Int32)
    · skip
      refine Go.step (fun _ k => XS.icmpNo X0.here hx rfl (hb hby d_method_2_code_23) rfl (teq h2).2 k) ?_
      show Go FrameEnd p e below s 0 0 (Q1 Z p1 h0) (s₁.setTop (mkF m 26 #[.val (.int p1), .val (.int (p1 &&& (7 : Int32)))] []))
      refine Go.step (fun _ k => XS.bipush X0.here hx rfl (hb hby d_method_2_code_26) k) ?_
      show Go FrameEnd p e below s 0 0 (Q1 Z p1 h0) (s₁.setTop (mkF m 28 #[.val (.int p1), .val (.int (p1 &&& (7 : Int32)))] [(.int (46 : Int32))]))
      refine Go.retN X0 hx (t := .byte) Bd.returns (by simp) (by decide) (hb hby d_method_2_code_28) (BodyLoose.notSynchronized Bd) e0 (by decide) (by decide) ?_
      exact ⟨by first | contradiction | simp only [pickF, eq_true h1, eq_true h2, true_or, or_true, false_or, or_false, or_self, true_and, and_true, false_and, and_false, and_self, not_true_eq_false, not_false_eq_true, if_true, if_false], rfl, rfl⟩
    · skip
      refine Go.step (fun _ k => XS.icmpYes X0.here hx rfl (pc0 := 23) (pc' := 29) rfl (hb hby d_method_2_code_23) rfl (feq h2).2 (by decide) (by decide) k) ?_
      show Go FrameEnd p e below s 0 0 (Q1 Z p1 h0) (s₁.setTop (mkF m 29 #[.val (.int p1), .val (.int (p1 &&& (7 : Int32)))] []))
      refine Go.step (fun _ k => XS.iloadN X0.here hx rfl (hb hby d_method_2_code_29) rfl k) ?_
      show Go FrameEnd p e below s 0 0 (Q1 Z p1 h0) (s₁.setTop (mkF m 30 #[.val (.int p1), .val (.int (p1 &&& (7 : Int32)))] [(.int (p1 &&& (7 : Int32)))]))
      refine Go.step (fun _ k => XS.iconst X0.here hx rfl (hb hby d_method_2_code_30) k) ?_
      show Go FrameEnd p e below s 0 0 (Q1 Z p1 h0) (s₁.setTop (mkF m 31 #[.val (.int p1), .val (.int (p1 &&& (7 : Int32)))] [(.int (4 : Int32)), (.int (p1 &&& (7 : Int32)))]))
      by_cases h3 : (p1 &&& (7 : Int32)) = (4 : Int32)
      · skip
        refine Go.step (fun _ k => XS.icmpNo X0.here hx rfl (hb hby d_method_2_code_31) rfl (teq h3).2 k) ?_
        show Go FrameEnd p e below s 0 0 (Q1 Z p1 h0) (s₁.setTop (mkF m 34 #[.val (.int p1), .val (.int (p1 &&& (7 : Int32)))] []))
        refine Go.step (fun _ k => XS.bipush X0.here hx rfl (hb hby d_method_2_code_34) k) ?_
        show Go FrameEnd p e below s 0 0 (Q1 Z p1 h0) (s₁.setTop (mkF m 36 #[.val (.int p1), .val (.int (p1 &&& (7 : Int32)))] [(.int (45 : Int32))]))
        refine Go.retN X0 hx (t := .byte) Bd.returns (by simp) (by decide) (hb hby d_method_2_code_36) (BodyLoose.notSynchronized Bd) e0 (by decide) (by decide) ?_
        exact ⟨by first | contradiction | simp only [pickF, eq_true h1, eq_false h2, eq_true h3, true_or, or_true, false_or, or_false, or_self, true_and, and_true, false_and, and_false, and_self, not_true_eq_false, not_false_eq_true, if_true, if_false], rfl, rfl⟩
      · skip
        refine Go.step (fun _ k => XS.icmpYes X0.here hx rfl (pc0 := 31) (pc' := 37) rfl (hb hby d_method_2_code_31) rfl (feq h3).2 (by decide) (by decide) k) ?_
        show Go FrameEnd p e below s 0 0 (Q1 Z p1 h0) (s₁.setTop (mkF m 37 #[.val (.int p1), .val (.int (p1 &&& (7 : Int32)))] []))
        refine Go.step (fun _ k => XS.iloadN X0.here hx rfl (hb hby d_method_2_code_37) rfl k) ?_
        show Go FrameEnd p e below s 0 0 (Q1 Z p1 h0) (s₁.setTop (mkF m 38 #[.val (.int p1), .val (.int (p1 &&& (7 : Int32)))] [(.int (p1 &&& (7 : Int32)))]))
        refine Go.step (fun _ k => XS.iconst X0.here hx rfl (hb hby d_method_2_code_38) k) ?_
        show Go FrameEnd p e below s 0 0 (Q1 Z p1 h0) (s₁.setTop (mkF m 39 #[.val (.int p1), .val (.int (p1 &&& (7 : Int32)))] [(.int (5 : Int32)), (.int (p1 &&& (7 : Int32)))]))
        by_cases h4 : (p1 &&& (7 : Int32)) = (5 : Int32)
        · skip
          refine Go.step (fun _ k => XS.icmpNo X0.here hx rfl (hb hby d_method_2_code_39) rfl (teq h4).2 k) ?_
          show Go FrameEnd p e below s 0 0 (Q1 Z p1 h0) (s₁.setTop (mkF m 42 #[.val (.int p1), .val (.int (p1 &&& (7 : Int32)))] []))
          refine Go.step (fun _ k => XS.bipush X0.here hx rfl (hb hby d_method_2_code_42) k) ?_
          show Go FrameEnd p e below s 0 0 (Q1 Z p1 h0) (s₁.setTop (mkF m 44 #[.val (.int p1), .val (.int (p1 &&& (7 : Int32)))] [(.int (47 : Int32))]))
          refine Go.retN X0 hx (t := .byte) Bd.returns (by simp) (by decide) (hb hby d_method_2_code_44) (BodyLoose.notSynchronized Bd) e0 (by decide) (by decide) ?_
          exact ⟨by first | contradiction | simp only [pickF, eq_true h1, eq_false h2, eq_false h3, eq_true h4, true_or, or_true, false_or, or_false, or_self, true_and, and_true, false_and, and_false, and_self, not_true_eq_false, not_false_eq_true, if_true, if_false], rfl, rfl⟩
        · skip
          refine Go.step (fun _ k => XS.icmpYes X0.here hx rfl (pc0 := 39) (pc' := 45) rfl (hb hby d_method_2_code_39) rfl (feq h4).2 (by decide) (by decide) k) ?_
          show Go FrameEnd p e below s 0 0 (Q1 Z p1 h0) (s₁.setTop (mkF m 45 #[.val (.int p1), .val (.int (p1 &&& (7 : Int32)))] []))
          refine Go.step (fun _ k => XS.iloadN X0.here hx rfl (hb hby d_method_2_code_45) rfl k) ?_
          show Go FrameEnd p e below s 0 0 (Q1 Z p1 h0) (s₁.setTop (mkF m 46 #[.val (.int p1), .val (.int (p1 &&& (7 : Int32)))] [(.int (p1 &&& (7 : Int32)))]))
          refine Go.step (fun _ k => XS.bipush X0.here hx rfl (hb hby d_method_2_code_46) k) ?_
          show Go FrameEnd p e below s 0 0 (Q1 Z p1 h0) (s₁.setTop (mkF m 48 #[.val (.int p1), .val (.int (p1 &&& (7 : Int32)))] [(.int (6 : Int32)), (.int (p1 &&& (7 : Int32)))]))
          by_cases h5 : (p1 &&& (7 : Int32)) = (6 : Int32)
          · skip
            refine Go.step (fun _ k => XS.icmpNo X0.here hx rfl (hb hby d_method_2_code_48) rfl (teq h5).2 k) ?_
            show Go FrameEnd p e below s 0 0 (Q1 Z p1 h0) (s₁.setTop (mkF m 51 #[.val (.int p1), .val (.int (p1 &&& (7 : Int32)))] []))
            refine Go.step (fun _ k => XS.bipush X0.here hx rfl (hb hby d_method_2_code_51) k) ?_
            show Go FrameEnd p e below s 0 0 (Q1 Z p1 h0) (s₁.setTop (mkF m 53 #[.val (.int p1), .val (.int (p1 &&& (7 : Int32)))] [(.int (58 : Int32))]))
            refine Go.retN X0 hx (t := .byte) Bd.returns (by simp) (by decide) (hb hby d_method_2_code_53) (BodyLoose.notSynchronized Bd) e0 (by decide) (by decide) ?_
            exact ⟨by first | contradiction | simp only [pickF, eq_true h1, eq_false h2, eq_false h3, eq_false h4, eq_true h5, true_or, or_true, false_or, or_false, or_self, true_and, and_true, false_and, and_false, and_self, not_true_eq_false, not_false_eq_true, if_true, if_false], rfl, rfl⟩
          · skip
            refine Go.step (fun _ k => XS.icmpYes X0.here hx rfl (pc0 := 48) (pc' := 54) rfl (hb hby d_method_2_code_48) rfl (feq h5).2 (by decide) (by decide) k) ?_
            show Go FrameEnd p e below s 0 0 (Q1 Z p1 h0) (s₁.setTop (mkF m 54 #[.val (.int p1), .val (.int (p1 &&& (7 : Int32)))] []))
            refine Go.step (fun _ k => XS.iloadN X0.here hx rfl (hb hby d_method_2_code_54) rfl k) ?_
            show Go FrameEnd p e below s 0 0 (Q1 Z p1 h0) (s₁.setTop (mkF m 55 #[.val (.int p1), .val (.int (p1 &&& (7 : Int32)))] [(.int p1)]))
            refine Go.step (fun _ k => XS.iconst X0.here hx rfl (hb hby d_method_2_code_55) k) ?_
            show Go FrameEnd p e below s 0 0 (Q1 Z p1 h0) (s₁.setTop (mkF m 56 #[.val (.int p1), .val (.int (p1 &&& (7 : Int32)))] [(.int (3 : Int32)), (.int p1)]))
            refine Go.step (fun _ k => XS.iushr X0.here hx rfl (hb hby d_method_2_code_56) rfl k) ?_
            show Go FrameEnd p e below s 0 0 (Q1 Z p1 h0) (s₁.setTop (mkF m 57 #[.val (.int p1), .val (.int (p1 &&& (7 : Int32)))] [(.int (ushI p1 (3 : Int32)))]))
            refine Go.step (fun _ k => XS.i2b X0.here hx rfl (hb hby d_method_2_code_57) rfl k) ?_
            show Go FrameEnd p e below s 0 0 (Q1 Z p1 h0) (s₁.setTop (mkF m 58 #[.val (.int p1), .val (.int (p1 &&& (7 : Int32)))] [(.int (ushI p1 (3 : Int32)).toInt8.toInt32)]))
            refine Go.retN X0 hx (t := .byte) Bd.returns (by simp) (own_nar8 _) (hb hby d_method_2_code_58) (BodyLoose.notSynchronized Bd) e0 (by decide) (by decide) ?_
            exact ⟨by first | contradiction | simp only [pickF, eq_true h1, eq_false h2, eq_false h3, eq_false h4, eq_false h5, true_or, or_true, false_or, or_false, or_self, true_and, and_true, false_and, and_false, and_self, not_true_eq_false, not_false_eq_true, if_true, if_false], rfl, rfl⟩
  · skip
    refine Go.step (fun _ k => XS.icmpNo X0.here hx rfl (hb hby d_method_2_code_7) rfl (flt h1).2.2.1 k) ?_
    show Go FrameEnd p e below s 0 0 (Q1 Z p1 h0) (s₁.setTop (mkF m 10 #[.val (.int p1), .val (.int (p1 &&& (7 : Int32)))] []))
    refine Go.step (fun _ k => XS.bipush X0.here hx rfl (hb hby d_method_2_code_10) k) ?_
    show Go FrameEnd p e below s 0 0 (Q1 Z p1 h0) (s₁.setTop (mkF m 12 #[.val (.int p1), .val (.int (p1 &&& (7 : Int32)))] [(.int (48 : Int32))]))
    refine Go.step (fun _ k => XS.iloadN X0.here hx rfl (hb hby d_method_2_code_12) rfl k) ?_
    show Go FrameEnd p e below s 0 0 (Q1 Z p1 h0) (s₁.setTop (mkF m 13 #[.val (.int p1), .val (.int (p1 &&& (7 : Int32)))] [(.int p1), (.int (48 : Int32))]))
    refine Go.step (fun _ k => XS.iconst X0.here hx rfl (hb hby d_method_2_code_13) k) ?_
    show Go FrameEnd p e below s 0 0 (Q1 Z p1 h0) (s₁.setTop (mkF m 14 #[.val (.int p1), .val (.int (p1 &&& (7 : Int32)))] [(.int (3 : Int32)), (.int p1), (.int (48 : Int32))]))
    refine Go.step (fun _ k => XS.iushr X0.here hx rfl (hb hby d_method_2_code_14) rfl k) ?_
    show Go FrameEnd p e below s 0 0 (Q1 Z p1 h0) (s₁.setTop (mkF m 15 #[.val (.int p1), .val (.int (p1 &&& (7 : Int32)))] [(.int (ushI p1 (3 : Int32))), (.int (48 : Int32))]))
    refine Go.step (fun _ k => XS.bipush X0.here hx rfl (hb hby d_method_2_code_15) k) ?_
    show Go FrameEnd p e below s 0 0 (Q1 Z p1 h0) (s₁.setTop (mkF m 17 #[.val (.int p1), .val (.int (p1 &&& (7 : Int32)))] [(.int (10 : Int32)), (.int (ushI p1 (3 : Int32))), (.int (48 : Int32))]))
    refine Go.step (fun _ k => iremM X0 hx rfl (hb hby d_method_2_code_17) rfl (by decide) k) ?_
    show Go FrameEnd p e below s 0 0 (Q1 Z p1 h0) (s₁.setTop (mkF m 18 #[.val (.int p1), .val (.int (p1 &&& (7 : Int32)))] [(.int ((ushI p1 (3 : Int32)) % (10 : Int32))), (.int (48 : Int32))]))
    refine Go.step (fun _ k => XS.iadd X0.here hx rfl (hb hby d_method_2_code_18) rfl k) ?_
    show Go FrameEnd p e below s 0 0 (Q1 Z p1 h0) (s₁.setTop (mkF m 19 #[.val (.int p1), .val (.int (p1 &&& (7 : Int32)))] [(.int ((48 : Int32) + ((ushI p1 (3 : Int32)) % (10 : Int32))))]))
    refine Go.step (fun _ k => XS.i2b X0.here hx rfl (hb hby d_method_2_code_19) rfl k) ?_
    show Go FrameEnd p e below s 0 0 (Q1 Z p1 h0) (s₁.setTop (mkF m 20 #[.val (.int p1), .val (.int (p1 &&& (7 : Int32)))] [(.int ((48 : Int32) + ((ushI p1 (3 : Int32)) % (10 : Int32))).toInt8.toInt32)]))
    refine Go.retN X0 hx (t := .byte) Bd.returns (by simp) (own_nar8 _) (hb hby d_method_2_code_20) (BodyLoose.notSynchronized Bd) e0 (by decide) (by decide) ?_
    exact ⟨by first | contradiction | simp only [pickF, eq_false h1, true_or, or_true, false_or, or_false, or_self, true_and, and_true, false_and, and_false, and_self, not_true_eq_false, not_false_eq_true, if_true, if_false], rfl, rfl⟩
def Q2 (Z : State) (p1 : Int32) (p2 : Int32) (p3 : Int32) (h0 : Heap) (v : Option Value) (h : Heap) (L : List Loc) : Prop := v = some (.int (inF p1 p2 p3)) ∧ L = [] ∧ h = h0
theorem ef_2 (m : MethodId) (p1 : Int32) (p2 : Int32) (p3 : Int32) : entryFrame m #[(.int p1), (.int p2), (.int p3)] 3 = mkF m 0 #[.val (.int p1), .val (.int p2), .val (.int p3)] [] := by first | (simp [entryFrame, mkF, argsToLocals, Value.category]; done) | rfl
set_option maxRecDepth 65536 in
set_option maxHeartbeats 40000000 in
theorem rm2 (l : Launch) (Z : State) (a0 : Array Value) (hw : ∀ d ∈ tables_1, d.before a0 Z = true) (ws : List Jvm.Cond) (p1 : Int32) (p2 : Int32) (p3 : Int32) (h0 : Heap) :
    MetFree l (⟨"com/example/quotewire/quotewire/codec/FixFloatIsValidPinLaw", "in", "(III)Z"⟩ : MethodName) (head1 (Jvm.Cond.code (⟨"com/example/quotewire/quotewire/codec/FixFloatIsValidPinLaw", "in", "(III)Z"⟩ : MethodName) method_3_code 3 (some .boolean) :: ws) ({ frames := 0, cells := 0, slots := 0, locals := 0 } : Room)) (fun a U => a = #[(.int p1), (.int p2), (.int p3)] ∧ Z.Warmed39 U.vm ∧ U.heap = h0) (fun _ _ _ _ _ => True) (fun _ U o U' => ∃ v L, o = .returned v ∧ (Q2 Z p1 p2 p3 h0) v U'.heap L ∧ FrameEnd U o U' L 0 0) := by
  refine MetFree.of_bodySF (plainFor_of_name pn_com_example_quotewire_quotewire_codec_FixFloatIsValidPinLaw) hisR ?_
  intro p e s m args below meth c s₁ Bd hml0 hP hK
  obtain ⟨rfl, hZ, hh⟩ := hP
  have hx := Bd.exec
  have hby := Bd.bytes
  have hml : c.maxLocals = 3 := hml0
  have hown : s.vm.findClass "com/example/quotewire/quotewire/codec/FixFloatIsValidPinLaw" = some m.cls := findClass_of_methodNamed Bd.named
  have hnm := (name_of_methodNamed Bd.named Bd.method).1
  have X0 : Stand p l e ({ frames := 0, cells := 0, slots := 0, locals := 0 } : Room) s m #[(.int p1), (.int p2), (.int p3)] below meth c s₁ [] 0 0 := Stand.of_body Bd
  have e0 : s₁.heap = h0 := by rw [← hh, Bd.state]; rfl
  show Go FrameEnd p e below s 0 0 (Q2 Z p1 p2 p3 h0) _
  refine Go.step (fun _ k => castTop (ef_2 m p1 p2 p3) k) ?_
  show Go FrameEnd p e below s 0 0 (Q2 Z p1 p2 p3 h0) (s₁.setTop (mkF m 0 #[.val (.int p1), .val (.int p2), .val (.int p3)] []))
  refine Go.step (fun _ k => XS.iloadN X0.here hx rfl (hb hby d_method_3_code_0) rfl k) ?_
  show Go FrameEnd p e below s 0 0 (Q2 Z p1 p2 p3 h0) (s₁.setTop (mkF m 1 #[.val (.int p1), .val (.int p2), .val (.int p3)] [(.int p1)]))
  refine Go.step (fun _ k => XS.iloadN X0.here hx rfl (hb hby d_method_3_code_1) rfl k) ?_
  show Go FrameEnd p e below s 0 0 (Q2 Z p1 p2 p3 h0) (s₁.setTop (mkF m 2 #[.val (.int p1), .val (.int p2), .val (.int p3)] [(.int p2), (.int p1)]))
  by_cases h1 : p1 < p2
  · skip
    refine Go.step (fun _ k => XS.icmpYes X0.here hx rfl (pc0 := 2) (pc' := 14) rfl (hb hby d_method_3_code_2) rfl (tlt h1).1 (by decide) (by decide) k) ?_
    show Go FrameEnd p e below s 0 0 (Q2 Z p1 p2 p3 h0) (s₁.setTop (mkF m 14 #[.val (.int p1), .val (.int p2), .val (.int p3)] []))
    refine Go.step (fun _ k => XS.iconst X0.here hx rfl (hb hby d_method_3_code_14) k) ?_
    show Go FrameEnd p e below s 0 0 (Q2 Z p1 p2 p3 h0) (s₁.setTop (mkF m 15 #[.val (.int p1), .val (.int p2), .val (.int p3)] [(.int (0 : Int32))]))
    refine Go.retN X0 hx (t := .boolean) Bd.returns (by simp) (by decide) (hb hby d_method_3_code_15) (BodyLoose.notSynchronized Bd) e0 (by decide) (by decide) ?_
    exact ⟨by first | contradiction | simp only [inF, eq_true h1, true_or, or_true, false_or, or_false, or_self, true_and, and_true, false_and, and_false, and_self, not_true_eq_false, not_false_eq_true, if_true, if_false], rfl, rfl⟩
  · skip
    refine Go.step (fun _ k => XS.icmpNo X0.here hx rfl (hb hby d_method_3_code_2) rfl (flt h1).1 k) ?_
    show Go FrameEnd p e below s 0 0 (Q2 Z p1 p2 p3 h0) (s₁.setTop (mkF m 5 #[.val (.int p1), .val (.int p2), .val (.int p3)] []))
    refine Go.step (fun _ k => XS.iloadN X0.here hx rfl (hb hby d_method_3_code_5) rfl k) ?_
    show Go FrameEnd p e below s 0 0 (Q2 Z p1 p2 p3 h0) (s₁.setTop (mkF m 6 #[.val (.int p1), .val (.int p2), .val (.int p3)] [(.int p1)]))
    refine Go.step (fun _ k => XS.iloadN X0.here hx rfl (hb hby d_method_3_code_6) rfl k) ?_
    show Go FrameEnd p e below s 0 0 (Q2 Z p1 p2 p3 h0) (s₁.setTop (mkF m 7 #[.val (.int p1), .val (.int p2), .val (.int p3)] [(.int p3), (.int p1)]))
    by_cases h2 : p1 < p3
    · skip
      refine Go.step (fun _ k => XS.icmpNo X0.here hx rfl (hb hby d_method_3_code_7) rfl (tlt h2).2.1 k) ?_
      show Go FrameEnd p e below s 0 0 (Q2 Z p1 p2 p3 h0) (s₁.setTop (mkF m 10 #[.val (.int p1), .val (.int p2), .val (.int p3)] []))
      refine Go.step (fun _ k => XS.iconst X0.here hx rfl (hb hby d_method_3_code_10) k) ?_
      show Go FrameEnd p e below s 0 0 (Q2 Z p1 p2 p3 h0) (s₁.setTop (mkF m 11 #[.val (.int p1), .val (.int p2), .val (.int p3)] [(.int (1 : Int32))]))
      refine Go.step (fun _ k => XS.goto X0.here hx rfl (pc0 := 11) (pc' := 15) rfl (hb hby d_method_3_code_11) (by decide) (by decide) k) ?_
      show Go FrameEnd p e below s 0 0 (Q2 Z p1 p2 p3 h0) (s₁.setTop (mkF m 15 #[.val (.int p1), .val (.int p2), .val (.int p3)] [(.int (1 : Int32))]))
      refine Go.retN X0 hx (t := .boolean) Bd.returns (by simp) (by decide) (hb hby d_method_3_code_15) (BodyLoose.notSynchronized Bd) e0 (by decide) (by decide) ?_
      exact ⟨by first | contradiction | simp only [inF, eq_false h1, eq_true h2, true_or, or_true, false_or, or_false, or_self, true_and, and_true, false_and, and_false, and_self, not_true_eq_false, not_false_eq_true, if_true, if_false], rfl, rfl⟩
    · skip
      refine Go.step (fun _ k => XS.icmpYes X0.here hx rfl (pc0 := 7) (pc' := 14) rfl (hb hby d_method_3_code_7) rfl (flt h2).2.1 (by decide) (by decide) k) ?_
      show Go FrameEnd p e below s 0 0 (Q2 Z p1 p2 p3 h0) (s₁.setTop (mkF m 14 #[.val (.int p1), .val (.int p2), .val (.int p3)] []))
      refine Go.step (fun _ k => XS.iconst X0.here hx rfl (hb hby d_method_3_code_14) k) ?_
      show Go FrameEnd p e below s 0 0 (Q2 Z p1 p2 p3 h0) (s₁.setTop (mkF m 15 #[.val (.int p1), .val (.int p2), .val (.int p3)] [(.int (0 : Int32))]))
      refine Go.retN X0 hx (t := .boolean) Bd.returns (by simp) (by decide) (hb hby d_method_3_code_15) (BodyLoose.notSynchronized Bd) e0 (by decide) (by decide) ?_
      exact ⟨by first | contradiction | simp only [inF, eq_false h1, eq_false h2, true_or, or_true, false_or, or_false, or_self, true_and, and_true, false_and, and_false, and_self, not_true_eq_false, not_false_eq_true, if_true, if_false], rfl, rfl⟩
def Q3 (Z : State) (a1 : Addr) (p2 : Int32) (p3 : Int32) (g : Nat → Int32) (i : Nat) (n : Nat) (h0 : Heap) (v : Option Value) (h : Heap) (L : List Loc) : Prop := v = some (.int (badF (g i) (Int32.ofNat i) p2 p3)) ∧ L = [] ∧ h = h0
theorem ef_3 (m : MethodId) (a1 : Addr) (p2 : Int32) (p3 : Int32) (i : Nat) : entryFrame m #[(.ref a1), (.int (Int32.ofNat i)), (.int p2), (.int p3)] 5 = mkF m 0 #[.val (.ref a1), .val (.int (Int32.ofNat i)), .val (.int p2), .val (.int p3), .unset] [] := by first | (simp [entryFrame, mkF, argsToLocals, Value.category]; done) | rfl
set_option maxRecDepth 65536 in
set_option maxHeartbeats 40000000 in
theorem rm3 (l : Launch) (Z : State) (a0 : Array Value) (hw : ∀ d ∈ tables_1, d.before a0 Z = true) (ws : List Jvm.Cond) (a1 : Addr) (p2 : Int32) (p3 : Int32) (g : Nat → Int32) (i : Nat) (n : Nat) (h0 : Heap) (V_a1 : Av Z h0 a1 .byte n (fun j => .int (g j))) (hi : i < n ∧ n < 100) :
    MetFree l (⟨"com/example/quotewire/quotewire/codec/FixFloatIsValidPinLaw", "bad", "([BIII)Z"⟩ : MethodName) (head1 (Jvm.Cond.code (⟨"com/example/quotewire/quotewire/codec/FixFloatIsValidPinLaw", "bad", "([BIII)Z"⟩ : MethodName) method_4_code 5 (some .boolean) :: ws) ({ frames := 1, cells := 0, slots := 0, locals := 14 } : Room)) (fun a U => a = #[(.ref a1), (.int (Int32.ofNat i)), (.int p2), (.int p3)] ∧ Z.Warmed39 U.vm ∧ U.heap = h0) (fun _ _ _ _ _ => True) (fun _ U o U' => ∃ v L, o = .returned v ∧ (Q3 Z a1 p2 p3 g i n h0) v U'.heap L ∧ FrameEnd U o U' L 0 0) := by
  refine MetFree.of_bodySF (plainFor_of_name pn_com_example_quotewire_quotewire_codec_FixFloatIsValidPinLaw) hisR ?_
  intro p e s m args below meth c s₁ Bd hml0 hP hK
  obtain ⟨rfl, hZ, hh⟩ := hP
  have hx := Bd.exec
  have hby := Bd.bytes
  have hml : c.maxLocals = 5 := hml0
  have hown : s.vm.findClass "com/example/quotewire/quotewire/codec/FixFloatIsValidPinLaw" = some m.cls := findClass_of_methodNamed Bd.named
  have hnm := (name_of_methodNamed Bd.named Bd.method).1
  have X0 : Stand p l e ({ frames := 1, cells := 0, slots := 0, locals := 14 } : Room) s m #[(.ref a1), (.int (Int32.ofNat i)), (.int p2), (.int p3)] below meth c s₁ [] 0 0 := Stand.of_body Bd
  have e0 : s₁.heap = h0 := by rw [← hh, Bd.state]; rfl
  show Go FrameEnd p e below s 0 0 (Q3 Z a1 p2 p3 g i n h0) _
  refine Go.step (fun _ k => castTop (ef_3 m a1 p2 p3 i) k) ?_
  show Go FrameEnd p e below s 0 0 (Q3 Z a1 p2 p3 g i n h0) (s₁.setTop (mkF m 0 #[.val (.ref a1), .val (.int (Int32.ofNat i)), .val (.int p2), .val (.int p3), .unset] []))
  refine Go.step (fun _ k => XS.iloadN X0.here hx rfl (hb hby d_method_4_code_0) rfl k) ?_
  show Go FrameEnd p e below s 0 0 (Q3 Z a1 p2 p3 g i n h0) (s₁.setTop (mkF m 1 #[.val (.ref a1), .val (.int (Int32.ofNat i)), .val (.int p2), .val (.int p3), .unset] [(.int (Int32.ofNat i))]))
  refine Go.step (fun _ k => XS.iloadN X0.here hx rfl (hb hby d_method_4_code_1) rfl k) ?_
  show Go FrameEnd p e below s 0 0 (Q3 Z a1 p2 p3 g i n h0) (s₁.setTop (mkF m 2 #[.val (.ref a1), .val (.int (Int32.ofNat i)), .val (.int p2), .val (.int p3), .unset] [(.int p2), (.int (Int32.ofNat i))]))
  refine Go.step (fun _ k => XS.iloadN X0.here hx rfl (hb hby d_method_4_code_2) rfl k) ?_
  show Go FrameEnd p e below s 0 0 (Q3 Z a1 p2 p3 g i n h0) (s₁.setTop (mkF m 3 #[.val (.ref a1), .val (.int (Int32.ofNat i)), .val (.int p2), .val (.int p3), .unset] [(.int p3), (.int p2), (.int (Int32.ofNat i))]))
  obtain ⟨_, _, ⟨T1, L1, k1, n1⟩, -, X1, ⟨Lc1, hQ1, l1, y1, z1⟩, st1⟩ := Jvm.LawKit.callS X0 hx (y := (⟨"com/example/quotewire/quotewire/codec/FixFloatIsValidPinLaw", "in", "(III)Z"⟩ : MethodName)) hown (mvT hZ (hw _ (List.mem_of_getElem? (i := 8) rfl))) (mvT hZ (hw _ (List.mem_of_getElem? (i := 9) rfl))) (mvT hZ (hw _ (List.mem_of_getElem? (i := 3) rfl))) (mvT hZ (hw _ (List.mem_of_getElem? (i := 10) rfl))) (by decide) (backOf (W := 0) (rm2 l Z a0 hw [] (Int32.ofNat i) p2 p3  h0 ) hZ (hw _ (List.mem_of_getElem? (i := 10) rfl)) (hw _ (List.mem_of_getElem? (i := 3) rfl)) (by decide) (by decide)) (g := (mkF m 3 #[.val (.ref a1), .val (.int (Int32.ofNat i)), .val (.int p2), .val (.int p3), .unset] [(.int p3), (.int p2), (.int (Int32.ofNat i))])) rfl (by rw [hml]; rfl) (argsL := [(.int (Int32.ofNat i)), (.int p2), (.int p3)]) (rest := []) (lenOf pd__III_Z rfl) rfl (by show 2 * 0 + _ ≤ _; exact Nat.le_of_eq rfl) (hb hby d_method_4_code_3) (fun _ _ => ⟨rfl, e0, (by decide : 0 + 0 ≤ _), (by decide : 0 + 0 ≤ _)⟩)
  dsimp only [Pt.U, Pt.locs, Pt.cells, Pt.slots] at X1 l1 y1 z1 st1 hQ1
  subst l1 y1 z1
  obtain ⟨rfl, rfl, e1⟩ := hQ1
  refine Go.step st1 ?_
  show Go FrameEnd p e below s 0 0 (Q3 Z a1 p2 p3 g i n h0) (T1.setTop (mkF m 6 #[.val (.ref a1), .val (.int (Int32.ofNat i)), .val (.int p2), .val (.int p3), .unset] [(.int (inF (Int32.ofNat i) p2 p3))]))
  by_cases h1 : (inF (Int32.ofNat i) p2 p3) = (0 : Int32)
  · skip
    refine Go.step (fun _ k => XS.ifNo X1.here hx rfl (hb hby d_method_4_code_6) rfl ((if0 _ _).trans (teq h1).2) k) ?_
    show Go FrameEnd p e below s 0 0 (Q3 Z a1 p2 p3 g i n h0) (T1.setTop (mkF m 9 #[.val (.ref a1), .val (.int (Int32.ofNat i)), .val (.int p2), .val (.int p3), .unset] []))
    refine Go.step (fun _ k => XS.iconst X1.here hx rfl (hb hby d_method_4_code_9) k) ?_
    show Go FrameEnd p e below s 0 0 (Q3 Z a1 p2 p3 g i n h0) (T1.setTop (mkF m 10 #[.val (.ref a1), .val (.int (Int32.ofNat i)), .val (.int p2), .val (.int p3), .unset] [(.int (0 : Int32))]))
    refine Go.retN X1 hx (t := .boolean) Bd.returns (by simp) (by decide) (hb hby d_method_4_code_10) (BodyLoose.notSynchronized Bd) e1 (by decide) (by decide) ?_
    exact ⟨by first | contradiction | simp only [badF, eq_true h1, true_or, or_true, false_or, or_false, or_self, true_and, and_true, false_and, and_false, and_self, not_true_eq_false, not_false_eq_true, if_true, if_false], rfl, rfl⟩
  · skip
    refine Go.step (fun _ k => XS.ifYes X1.here hx rfl (pc0 := 6) (pc' := 11) rfl (hb hby d_method_4_code_6) rfl ((if0 _ _).trans (feq h1).2) (by decide) (by decide) k) ?_
    show Go FrameEnd p e below s 0 0 (Q3 Z a1 p2 p3 g i n h0) (T1.setTop (mkF m 11 #[.val (.ref a1), .val (.int (Int32.ofNat i)), .val (.int p2), .val (.int p3), .unset] []))
    refine Go.step (fun _ k => XS.aloadN X1.here hx rfl (hb hby d_method_4_code_11) rfl rfl k) ?_
    show Go FrameEnd p e below s 0 0 (Q3 Z a1 p2 p3 g i n h0) (T1.setTop (mkF m 12 #[.val (.ref a1), .val (.int (Int32.ofNat i)), .val (.int p2), .val (.int p3), .unset] [(.ref a1)]))
    refine Go.step (fun _ k => XS.iloadN X1.here hx rfl (hb hby d_method_4_code_12) rfl k) ?_
    show Go FrameEnd p e below s 0 0 (Q3 Z a1 p2 p3 g i n h0) (T1.setTop (mkF m 13 #[.val (.ref a1), .val (.int (Int32.ofNat i)), .val (.int p2), .val (.int p3), .unset] [(.int (Int32.ofNat i)), (.ref a1)]))
    obtain ⟨c2, Ac2, Sc2, Mc2, Gc2⟩ := id V_a1
    refine Go.step (X1.baloadBytes hx (j := (Int32.ofNat i)) (v := (.int (g i))) (by rw [e1]; exact Ac2.1) (State.isArrayOf_alike hZ.alike Ac2.2.1) Ac2.2.2 (own_in Sc2 (own_nn (by omega)) (by rw [own_cl (by omega)]; omega)) (Av.at (i := i) Gc2 (own_cl (by omega)) (by omega) rfl) (g := (mkF m 13 #[.val (.ref a1), .val (.int (Int32.ofNat i)), .val (.int p2), .val (.int p3), .unset] [(.int (Int32.ofNat i)), (.ref a1)])) rfl rfl (hb hby d_method_4_code_13)) ?_
    show Go FrameEnd p e below s 0 0 (Q3 Z a1 p2 p3 g i n h0) (T1.setTop (mkF m 14 #[.val (.ref a1), .val (.int (Int32.ofNat i)), .val (.int p2), .val (.int p3), .unset] [(.int (g i))]))
    refine Go.step (fun _ k => XS.istore X1.here hx rfl (hb hby d_method_4_code_14) rfl (l' := #[.val (.ref a1), .val (.int (Int32.ofNat i)), .val (.int p2), .val (.int p3), .val (.int (g i))]) rfl k) ?_
    show Go FrameEnd p e below s 0 0 (Q3 Z a1 p2 p3 g i n h0) (T1.setTop (mkF m 16 #[.val (.ref a1), .val (.int (Int32.ofNat i)), .val (.int p2), .val (.int p3), .val (.int (g i))] []))
    refine Go.step (fun _ k => XS.iload X1.here hx rfl (hb hby d_method_4_code_16) rfl k) ?_
    show Go FrameEnd p e below s 0 0 (Q3 Z a1 p2 p3 g i n h0) (T1.setTop (mkF m 18 #[.val (.ref a1), .val (.int (Int32.ofNat i)), .val (.int p2), .val (.int p3), .val (.int (g i))] [(.int (g i))]))
    refine Go.step (fun _ k => XS.bipush X1.here hx rfl (hb hby d_method_4_code_18) k) ?_
    show Go FrameEnd p e below s 0 0 (Q3 Z a1 p2 p3 g i n h0) (T1.setTop (mkF m 20 #[.val (.ref a1), .val (.int (Int32.ofNat i)), .val (.int p2), .val (.int p3), .val (.int (g i))] [(.int (48 : Int32)), (.int (g i))]))
    by_cases h2 : (g i) < (48 : Int32)
    · skip
      refine Go.step (fun _ k => XS.icmpYes X1.here hx rfl (pc0 := 20) (pc' := 32) rfl (hb hby d_method_4_code_20) rfl (tlt h2).1 (by decide) (by decide) k) ?_
      show Go FrameEnd p e below s 0 0 (Q3 Z a1 p2 p3 g i n h0) (T1.setTop (mkF m 32 #[.val (.ref a1), .val (.int (Int32.ofNat i)), .val (.int p2), .val (.int p3), .val (.int (g i))] []))
      refine Go.step (fun _ k => XS.iload X1.here hx rfl (hb hby d_method_4_code_32) rfl k) ?_
      show Go FrameEnd p e below s 0 0 (Q3 Z a1 p2 p3 g i n h0) (T1.setTop (mkF m 34 #[.val (.ref a1), .val (.int (Int32.ofNat i)), .val (.int p2), .val (.int p3), .val (.int (g i))] [(.int (g i))]))
      refine Go.step (fun _ k => XS.bipush X1.here hx rfl (hb hby d_method_4_code_34) k) ?_
      show Go FrameEnd p e below s 0 0 (Q3 Z a1 p2 p3 g i n h0) (T1.setTop (mkF m 36 #[.val (.ref a1), .val (.int (Int32.ofNat i)), .val (.int p2), .val (.int p3), .val (.int (g i))] [(.int (46 : Int32)), (.int (g i))]))
      by_cases h4 : (g i) = (46 : Int32)
      · skip
        refine Go.step (fun _ k => XS.icmpNo X1.here hx rfl (hb hby d_method_4_code_36) rfl (teq h4).2 k) ?_
        show Go FrameEnd p e below s 0 0 (Q3 Z a1 p2 p3 g i n h0) (T1.setTop (mkF m 39 #[.val (.ref a1), .val (.int (Int32.ofNat i)), .val (.int p2), .val (.int p3), .val (.int (g i))] []))
        refine Go.step (fun _ k => XS.iconst X1.here hx rfl (hb hby d_method_4_code_39) k) ?_
        show Go FrameEnd p e below s 0 0 (Q3 Z a1 p2 p3 g i n h0) (T1.setTop (mkF m 40 #[.val (.ref a1), .val (.int (Int32.ofNat i)), .val (.int p2), .val (.int p3), .val (.int (g i))] [(.int (0 : Int32))]))
        refine Go.retN X1 hx (t := .boolean) Bd.returns (by simp) (by decide) (hb hby d_method_4_code_40) (BodyLoose.notSynchronized Bd) e1 (by decide) (by decide) ?_
        exact ⟨by first | contradiction | simp only [badF, eq_false h1, eq_true h2, eq_true h4, true_or, or_true, false_or, or_false, or_self, true_and, and_true, false_and, and_false, and_self, not_true_eq_false, not_false_eq_true, if_true, if_false], rfl, rfl⟩
      · skip
        refine Go.step (fun _ k => XS.icmpYes X1.here hx rfl (pc0 := 36) (pc' := 41) rfl (hb hby d_method_4_code_36) rfl (feq h4).2 (by decide) (by decide) k) ?_
        show Go FrameEnd p e below s 0 0 (Q3 Z a1 p2 p3 g i n h0) (T1.setTop (mkF m 41 #[.val (.ref a1), .val (.int (Int32.ofNat i)), .val (.int p2), .val (.int p3), .val (.int (g i))] []))
        refine Go.step (fun _ k => XS.iloadN X1.here hx rfl (hb hby d_method_4_code_41) rfl k) ?_
        show Go FrameEnd p e below s 0 0 (Q3 Z a1 p2 p3 g i n h0) (T1.setTop (mkF m 42 #[.val (.ref a1), .val (.int (Int32.ofNat i)), .val (.int p2), .val (.int p3), .val (.int (g i))] [(.int (Int32.ofNat i))]))
        refine Go.step (fun _ k => XS.iloadN X1.here hx rfl (hb hby d_method_4_code_42) rfl k) ?_
        show Go FrameEnd p e below s 0 0 (Q3 Z a1 p2 p3 g i n h0) (T1.setTop (mkF m 43 #[.val (.ref a1), .val (.int (Int32.ofNat i)), .val (.int p2), .val (.int p3), .val (.int (g i))] [(.int p2), (.int (Int32.ofNat i))]))
        by_cases h5 : (Int32.ofNat i) = p2
        · skip
          refine Go.step (fun _ k => XS.icmpNo X1.here hx rfl (hb hby d_method_4_code_43) rfl (teq h5).2 k) ?_
          show Go FrameEnd p e below s 0 0 (Q3 Z a1 p2 p3 g i n h0) (T1.setTop (mkF m 46 #[.val (.ref a1), .val (.int (Int32.ofNat i)), .val (.int p2), .val (.int p3), .val (.int (g i))] []))
          refine Go.step (fun _ k => XS.iload X1.here hx rfl (hb hby d_method_4_code_46) rfl k) ?_
          show Go FrameEnd p e below s 0 0 (Q3 Z a1 p2 p3 g i n h0) (T1.setTop (mkF m 48 #[.val (.ref a1), .val (.int (Int32.ofNat i)), .val (.int p2), .val (.int p3), .val (.int (g i))] [(.int (g i))]))
          refine Go.step (fun _ k => XS.bipush X1.here hx rfl (hb hby d_method_4_code_48) k) ?_
          show Go FrameEnd p e below s 0 0 (Q3 Z a1 p2 p3 g i n h0) (T1.setTop (mkF m 50 #[.val (.ref a1), .val (.int (Int32.ofNat i)), .val (.int p2), .val (.int p3), .val (.int (g i))] [(.int (45 : Int32)), (.int (g i))]))
          by_cases h6 : (g i) = (45 : Int32)
          · skip
            refine Go.step (fun _ k => XS.icmpNo X1.here hx rfl (hb hby d_method_4_code_50) rfl (teq h6).2 k) ?_
            show Go FrameEnd p e below s 0 0 (Q3 Z a1 p2 p3 g i n h0) (T1.setTop (mkF m 53 #[.val (.ref a1), .val (.int (Int32.ofNat i)), .val (.int p2), .val (.int p3), .val (.int (g i))] []))
            refine Go.step (fun _ k => XS.iconst X1.here hx rfl (hb hby d_method_4_code_53) k) ?_
            show Go FrameEnd p e below s 0 0 (Q3 Z a1 p2 p3 g i n h0) (T1.setTop (mkF m 54 #[.val (.ref a1), .val (.int (Int32.ofNat i)), .val (.int p2), .val (.int p3), .val (.int (g i))] [(.int (0 : Int32))]))
            refine Go.retN X1 hx (t := .boolean) Bd.returns (by simp) (by decide) (hb hby d_method_4_code_54) (BodyLoose.notSynchronized Bd) e1 (by decide) (by decide) ?_
            exact ⟨by first | contradiction | simp only [badF, eq_false h1, eq_true h2, eq_false h4, eq_true h5, eq_true h6, true_or, or_true, false_or, or_false, or_self, true_and, and_true, false_and, and_false, and_self, not_true_eq_false, not_false_eq_true, if_true, if_false], rfl, rfl⟩
          · skip
            refine Go.step (fun _ k => XS.icmpYes X1.here hx rfl (pc0 := 50) (pc' := 55) rfl (hb hby d_method_4_code_50) rfl (feq h6).2 (by decide) (by decide) k) ?_
            show Go FrameEnd p e below s 0 0 (Q3 Z a1 p2 p3 g i n h0) (T1.setTop (mkF m 55 #[.val (.ref a1), .val (.int (Int32.ofNat i)), .val (.int p2), .val (.int p3), .val (.int (g i))] []))
            refine Go.step (fun _ k => XS.iconst X1.here hx rfl (hb hby d_method_4_code_55) k) ?_
            show Go FrameEnd p e below s 0 0 (Q3 Z a1 p2 p3 g i n h0) (T1.setTop (mkF m 56 #[.val (.ref a1), .val (.int (Int32.ofNat i)), .val (.int p2), .val (.int p3), .val (.int (g i))] [(.int (1 : Int32))]))
            refine Go.retN X1 hx (t := .boolean) Bd.returns (by simp) (by decide) (hb hby d_method_4_code_56) (BodyLoose.notSynchronized Bd) e1 (by decide) (by decide) ?_
            exact ⟨by first | contradiction | simp only [badF, eq_false h1, eq_true h2, eq_false h4, eq_true h5, eq_false h6, true_or, or_true, false_or, or_false, or_self, true_and, and_true, false_and, and_false, and_self, not_true_eq_false, not_false_eq_true, if_true, if_false], rfl, rfl⟩
        · skip
          refine Go.step (fun _ k => XS.icmpYes X1.here hx rfl (pc0 := 43) (pc' := 55) rfl (hb hby d_method_4_code_43) rfl (feq h5).2 (by decide) (by decide) k) ?_
          show Go FrameEnd p e below s 0 0 (Q3 Z a1 p2 p3 g i n h0) (T1.setTop (mkF m 55 #[.val (.ref a1), .val (.int (Int32.ofNat i)), .val (.int p2), .val (.int p3), .val (.int (g i))] []))
          refine Go.step (fun _ k => XS.iconst X1.here hx rfl (hb hby d_method_4_code_55) k) ?_
          show Go FrameEnd p e below s 0 0 (Q3 Z a1 p2 p3 g i n h0) (T1.setTop (mkF m 56 #[.val (.ref a1), .val (.int (Int32.ofNat i)), .val (.int p2), .val (.int p3), .val (.int (g i))] [(.int (1 : Int32))]))
          refine Go.retN X1 hx (t := .boolean) Bd.returns (by simp) (by decide) (hb hby d_method_4_code_56) (BodyLoose.notSynchronized Bd) e1 (by decide) (by decide) ?_
          exact ⟨by first | contradiction | simp only [badF, eq_false h1, eq_true h2, eq_false h4, eq_false h5, true_or, or_true, false_or, or_false, or_self, true_and, and_true, false_and, and_false, and_self, not_true_eq_false, not_false_eq_true, if_true, if_false], rfl, rfl⟩
    · skip
      refine Go.step (fun _ k => XS.icmpNo X1.here hx rfl (hb hby d_method_4_code_20) rfl (flt h2).1 k) ?_
      show Go FrameEnd p e below s 0 0 (Q3 Z a1 p2 p3 g i n h0) (T1.setTop (mkF m 23 #[.val (.ref a1), .val (.int (Int32.ofNat i)), .val (.int p2), .val (.int p3), .val (.int (g i))] []))
      refine Go.step (fun _ k => XS.iload X1.here hx rfl (hb hby d_method_4_code_23) rfl k) ?_
      show Go FrameEnd p e below s 0 0 (Q3 Z a1 p2 p3 g i n h0) (T1.setTop (mkF m 25 #[.val (.ref a1), .val (.int (Int32.ofNat i)), .val (.int p2), .val (.int p3), .val (.int (g i))] [(.int (g i))]))
      refine Go.step (fun _ k => XS.bipush X1.here hx rfl (hb hby d_method_4_code_25) k) ?_
      show Go FrameEnd p e below s 0 0 (Q3 Z a1 p2 p3 g i n h0) (T1.setTop (mkF m 27 #[.val (.ref a1), .val (.int (Int32.ofNat i)), .val (.int p2), .val (.int p3), .val (.int (g i))] [(.int (57 : Int32)), (.int (g i))]))
      by_cases h3 : (57 : Int32) < (g i)
      · skip
        refine Go.step (fun _ k => XS.icmpYes X1.here hx rfl (pc0 := 27) (pc' := 32) rfl (hb hby d_method_4_code_27) rfl (tlt h3).2.2.1 (by decide) (by decide) k) ?_
        show Go FrameEnd p e below s 0 0 (Q3 Z a1 p2 p3 g i n h0) (T1.setTop (mkF m 32 #[.val (.ref a1), .val (.int (Int32.ofNat i)), .val (.int p2), .val (.int p3), .val (.int (g i))] []))
        refine Go.step (fun _ k => XS.iload X1.here hx rfl (hb hby d_method_4_code_32) rfl k) ?_
        show Go FrameEnd p e below s 0 0 (Q3 Z a1 p2 p3 g i n h0) (T1.setTop (mkF m 34 #[.val (.ref a1), .val (.int (Int32.ofNat i)), .val (.int p2), .val (.int p3), .val (.int (g i))] [(.int (g i))]))
        refine Go.step (fun _ k => XS.bipush X1.here hx rfl (hb hby d_method_4_code_34) k) ?_
        show Go FrameEnd p e below s 0 0 (Q3 Z a1 p2 p3 g i n h0) (T1.setTop (mkF m 36 #[.val (.ref a1), .val (.int (Int32.ofNat i)), .val (.int p2), .val (.int p3), .val (.int (g i))] [(.int (46 : Int32)), (.int (g i))]))
        by_cases h4 : (g i) = (46 : Int32)
        · skip
          refine Go.step (fun _ k => XS.icmpNo X1.here hx rfl (hb hby d_method_4_code_36) rfl (teq h4).2 k) ?_
          show Go FrameEnd p e below s 0 0 (Q3 Z a1 p2 p3 g i n h0) (T1.setTop (mkF m 39 #[.val (.ref a1), .val (.int (Int32.ofNat i)), .val (.int p2), .val (.int p3), .val (.int (g i))] []))
          refine Go.step (fun _ k => XS.iconst X1.here hx rfl (hb hby d_method_4_code_39) k) ?_
          show Go FrameEnd p e below s 0 0 (Q3 Z a1 p2 p3 g i n h0) (T1.setTop (mkF m 40 #[.val (.ref a1), .val (.int (Int32.ofNat i)), .val (.int p2), .val (.int p3), .val (.int (g i))] [(.int (0 : Int32))]))
          refine Go.retN X1 hx (t := .boolean) Bd.returns (by simp) (by decide) (hb hby d_method_4_code_40) (BodyLoose.notSynchronized Bd) e1 (by decide) (by decide) ?_
          exact ⟨by first | contradiction | simp only [badF, eq_false h1, eq_false h2, eq_true h3, eq_true h4, true_or, or_true, false_or, or_false, or_self, true_and, and_true, false_and, and_false, and_self, not_true_eq_false, not_false_eq_true, if_true, if_false], rfl, rfl⟩
        · skip
          refine Go.step (fun _ k => XS.icmpYes X1.here hx rfl (pc0 := 36) (pc' := 41) rfl (hb hby d_method_4_code_36) rfl (feq h4).2 (by decide) (by decide) k) ?_
          show Go FrameEnd p e below s 0 0 (Q3 Z a1 p2 p3 g i n h0) (T1.setTop (mkF m 41 #[.val (.ref a1), .val (.int (Int32.ofNat i)), .val (.int p2), .val (.int p3), .val (.int (g i))] []))
          refine Go.step (fun _ k => XS.iloadN X1.here hx rfl (hb hby d_method_4_code_41) rfl k) ?_
          show Go FrameEnd p e below s 0 0 (Q3 Z a1 p2 p3 g i n h0) (T1.setTop (mkF m 42 #[.val (.ref a1), .val (.int (Int32.ofNat i)), .val (.int p2), .val (.int p3), .val (.int (g i))] [(.int (Int32.ofNat i))]))
          refine Go.step (fun _ k => XS.iloadN X1.here hx rfl (hb hby d_method_4_code_42) rfl k) ?_
          show Go FrameEnd p e below s 0 0 (Q3 Z a1 p2 p3 g i n h0) (T1.setTop (mkF m 43 #[.val (.ref a1), .val (.int (Int32.ofNat i)), .val (.int p2), .val (.int p3), .val (.int (g i))] [(.int p2), (.int (Int32.ofNat i))]))
          by_cases h5 : (Int32.ofNat i) = p2
          · skip
            refine Go.step (fun _ k => XS.icmpNo X1.here hx rfl (hb hby d_method_4_code_43) rfl (teq h5).2 k) ?_
            show Go FrameEnd p e below s 0 0 (Q3 Z a1 p2 p3 g i n h0) (T1.setTop (mkF m 46 #[.val (.ref a1), .val (.int (Int32.ofNat i)), .val (.int p2), .val (.int p3), .val (.int (g i))] []))
            refine Go.step (fun _ k => XS.iload X1.here hx rfl (hb hby d_method_4_code_46) rfl k) ?_
            show Go FrameEnd p e below s 0 0 (Q3 Z a1 p2 p3 g i n h0) (T1.setTop (mkF m 48 #[.val (.ref a1), .val (.int (Int32.ofNat i)), .val (.int p2), .val (.int p3), .val (.int (g i))] [(.int (g i))]))
            refine Go.step (fun _ k => XS.bipush X1.here hx rfl (hb hby d_method_4_code_48) k) ?_
            show Go FrameEnd p e below s 0 0 (Q3 Z a1 p2 p3 g i n h0) (T1.setTop (mkF m 50 #[.val (.ref a1), .val (.int (Int32.ofNat i)), .val (.int p2), .val (.int p3), .val (.int (g i))] [(.int (45 : Int32)), (.int (g i))]))
            by_cases h6 : (g i) = (45 : Int32)
            · skip
              refine Go.step (fun _ k => XS.icmpNo X1.here hx rfl (hb hby d_method_4_code_50) rfl (teq h6).2 k) ?_
              show Go FrameEnd p e below s 0 0 (Q3 Z a1 p2 p3 g i n h0) (T1.setTop (mkF m 53 #[.val (.ref a1), .val (.int (Int32.ofNat i)), .val (.int p2), .val (.int p3), .val (.int (g i))] []))
              refine Go.step (fun _ k => XS.iconst X1.here hx rfl (hb hby d_method_4_code_53) k) ?_
              show Go FrameEnd p e below s 0 0 (Q3 Z a1 p2 p3 g i n h0) (T1.setTop (mkF m 54 #[.val (.ref a1), .val (.int (Int32.ofNat i)), .val (.int p2), .val (.int p3), .val (.int (g i))] [(.int (0 : Int32))]))
              refine Go.retN X1 hx (t := .boolean) Bd.returns (by simp) (by decide) (hb hby d_method_4_code_54) (BodyLoose.notSynchronized Bd) e1 (by decide) (by decide) ?_
              exact ⟨by first | contradiction | simp only [badF, eq_false h1, eq_false h2, eq_true h3, eq_false h4, eq_true h5, eq_true h6, true_or, or_true, false_or, or_false, or_self, true_and, and_true, false_and, and_false, and_self, not_true_eq_false, not_false_eq_true, if_true, if_false], rfl, rfl⟩
            · skip
              refine Go.step (fun _ k => XS.icmpYes X1.here hx rfl (pc0 := 50) (pc' := 55) rfl (hb hby d_method_4_code_50) rfl (feq h6).2 (by decide) (by decide) k) ?_
              show Go FrameEnd p e below s 0 0 (Q3 Z a1 p2 p3 g i n h0) (T1.setTop (mkF m 55 #[.val (.ref a1), .val (.int (Int32.ofNat i)), .val (.int p2), .val (.int p3), .val (.int (g i))] []))
              refine Go.step (fun _ k => XS.iconst X1.here hx rfl (hb hby d_method_4_code_55) k) ?_
              show Go FrameEnd p e below s 0 0 (Q3 Z a1 p2 p3 g i n h0) (T1.setTop (mkF m 56 #[.val (.ref a1), .val (.int (Int32.ofNat i)), .val (.int p2), .val (.int p3), .val (.int (g i))] [(.int (1 : Int32))]))
              refine Go.retN X1 hx (t := .boolean) Bd.returns (by simp) (by decide) (hb hby d_method_4_code_56) (BodyLoose.notSynchronized Bd) e1 (by decide) (by decide) ?_
              exact ⟨by first | contradiction | simp only [badF, eq_false h1, eq_false h2, eq_true h3, eq_false h4, eq_true h5, eq_false h6, true_or, or_true, false_or, or_false, or_self, true_and, and_true, false_and, and_false, and_self, not_true_eq_false, not_false_eq_true, if_true, if_false], rfl, rfl⟩
          · skip
            refine Go.step (fun _ k => XS.icmpYes X1.here hx rfl (pc0 := 43) (pc' := 55) rfl (hb hby d_method_4_code_43) rfl (feq h5).2 (by decide) (by decide) k) ?_
            show Go FrameEnd p e below s 0 0 (Q3 Z a1 p2 p3 g i n h0) (T1.setTop (mkF m 55 #[.val (.ref a1), .val (.int (Int32.ofNat i)), .val (.int p2), .val (.int p3), .val (.int (g i))] []))
            refine Go.step (fun _ k => XS.iconst X1.here hx rfl (hb hby d_method_4_code_55) k) ?_
            show Go FrameEnd p e below s 0 0 (Q3 Z a1 p2 p3 g i n h0) (T1.setTop (mkF m 56 #[.val (.ref a1), .val (.int (Int32.ofNat i)), .val (.int p2), .val (.int p3), .val (.int (g i))] [(.int (1 : Int32))]))
            refine Go.retN X1 hx (t := .boolean) Bd.returns (by simp) (by decide) (hb hby d_method_4_code_56) (BodyLoose.notSynchronized Bd) e1 (by decide) (by decide) ?_
            exact ⟨by first | contradiction | simp only [badF, eq_false h1, eq_false h2, eq_true h3, eq_false h4, eq_false h5, true_or, or_true, false_or, or_false, or_self, true_and, and_true, false_and, and_false, and_self, not_true_eq_false, not_false_eq_true, if_true, if_false], rfl, rfl⟩
      · skip
        refine Go.step (fun _ k => XS.icmpNo X1.here hx rfl (hb hby d_method_4_code_27) rfl (flt h3).2.2.1 k) ?_
        show Go FrameEnd p e below s 0 0 (Q3 Z a1 p2 p3 g i n h0) (T1.setTop (mkF m 30 #[.val (.ref a1), .val (.int (Int32.ofNat i)), .val (.int p2), .val (.int p3), .val (.int (g i))] []))
        refine Go.step (fun _ k => XS.iconst X1.here hx rfl (hb hby d_method_4_code_30) k) ?_
        show Go FrameEnd p e below s 0 0 (Q3 Z a1 p2 p3 g i n h0) (T1.setTop (mkF m 31 #[.val (.ref a1), .val (.int (Int32.ofNat i)), .val (.int p2), .val (.int p3), .val (.int (g i))] [(.int (0 : Int32))]))
        refine Go.retN X1 hx (t := .boolean) Bd.returns (by simp) (by decide) (hb hby d_method_4_code_31) (BodyLoose.notSynchronized Bd) e1 (by decide) (by decide) ?_
        exact ⟨by first | contradiction | simp only [badF, eq_false h1, eq_false h2, eq_false h3, true_or, or_true, false_or, or_false, or_self, true_and, and_true, false_and, and_false, and_self, not_true_eq_false, not_false_eq_true, if_true, if_false], rfl, rfl⟩
def Q4 (Z : State) (a1 : Addr) (p2 : Int32) (p3 : Int32) (g : Nat → Int32) (i : Nat) (n : Nat) (h0 : Heap) (v : Option Value) (h : Heap) (L : List Loc) : Prop := v = some (.int (digF (g i) (Int32.ofNat i) p2 p3)) ∧ L = [] ∧ h = h0
theorem ef_4 (m : MethodId) (a1 : Addr) (p2 : Int32) (p3 : Int32) (i : Nat) : entryFrame m #[(.ref a1), (.int (Int32.ofNat i)), (.int p2), (.int p3)] 4 = mkF m 0 #[.val (.ref a1), .val (.int (Int32.ofNat i)), .val (.int p2), .val (.int p3)] [] := by first | (simp [entryFrame, mkF, argsToLocals, Value.category]; done) | rfl
set_option maxRecDepth 65536 in
set_option maxHeartbeats 40000000 in
theorem rm4 (l : Launch) (Z : State) (a0 : Array Value) (hw : ∀ d ∈ tables_1, d.before a0 Z = true) (ws : List Jvm.Cond) (a1 : Addr) (p2 : Int32) (p3 : Int32) (g : Nat → Int32) (i : Nat) (n : Nat) (h0 : Heap) (V_a1 : Av Z h0 a1 .byte n (fun j => .int (g j))) (hi : i < n ∧ n < 100) :
    MetFree l (⟨"com/example/quotewire/quotewire/codec/FixFloatIsValidPinLaw", "digit", "([BIII)I"⟩ : MethodName) (head1 (Jvm.Cond.code (⟨"com/example/quotewire/quotewire/codec/FixFloatIsValidPinLaw", "digit", "([BIII)I"⟩ : MethodName) method_5_code 4 (some .int) :: ws) ({ frames := 1, cells := 0, slots := 0, locals := 14 } : Room)) (fun a U => a = #[(.ref a1), (.int (Int32.ofNat i)), (.int p2), (.int p3)] ∧ Z.Warmed39 U.vm ∧ U.heap = h0) (fun _ _ _ _ _ => True) (fun _ U o U' => ∃ v L, o = .returned v ∧ (Q4 Z a1 p2 p3 g i n h0) v U'.heap L ∧ FrameEnd U o U' L 0 0) := by
  refine MetFree.of_bodySF (plainFor_of_name pn_com_example_quotewire_quotewire_codec_FixFloatIsValidPinLaw) hisR ?_
  intro p e s m args below meth c s₁ Bd hml0 hP hK
  obtain ⟨rfl, hZ, hh⟩ := hP
  have hx := Bd.exec
  have hby := Bd.bytes
  have hml : c.maxLocals = 4 := hml0
  have hown : s.vm.findClass "com/example/quotewire/quotewire/codec/FixFloatIsValidPinLaw" = some m.cls := findClass_of_methodNamed Bd.named
  have hnm := (name_of_methodNamed Bd.named Bd.method).1
  have X0 : Stand p l e ({ frames := 1, cells := 0, slots := 0, locals := 14 } : Room) s m #[(.ref a1), (.int (Int32.ofNat i)), (.int p2), (.int p3)] below meth c s₁ [] 0 0 := Stand.of_body Bd
  have e0 : s₁.heap = h0 := by rw [← hh, Bd.state]; rfl
  show Go FrameEnd p e below s 0 0 (Q4 Z a1 p2 p3 g i n h0) _
  refine Go.step (fun _ k => castTop (ef_4 m a1 p2 p3 i) k) ?_
  show Go FrameEnd p e below s 0 0 (Q4 Z a1 p2 p3 g i n h0) (s₁.setTop (mkF m 0 #[.val (.ref a1), .val (.int (Int32.ofNat i)), .val (.int p2), .val (.int p3)] []))
  refine Go.step (fun _ k => XS.iloadN X0.here hx rfl (hb hby d_method_5_code_0) rfl k) ?_
  show Go FrameEnd p e below s 0 0 (Q4 Z a1 p2 p3 g i n h0) (s₁.setTop (mkF m 1 #[.val (.ref a1), .val (.int (Int32.ofNat i)), .val (.int p2), .val (.int p3)] [(.int (Int32.ofNat i))]))
  refine Go.step (fun _ k => XS.iloadN X0.here hx rfl (hb hby d_method_5_code_1) rfl k) ?_
  show Go FrameEnd p e below s 0 0 (Q4 Z a1 p2 p3 g i n h0) (s₁.setTop (mkF m 2 #[.val (.ref a1), .val (.int (Int32.ofNat i)), .val (.int p2), .val (.int p3)] [(.int p2), (.int (Int32.ofNat i))]))
  refine Go.step (fun _ k => XS.iloadN X0.here hx rfl (hb hby d_method_5_code_2) rfl k) ?_
  show Go FrameEnd p e below s 0 0 (Q4 Z a1 p2 p3 g i n h0) (s₁.setTop (mkF m 3 #[.val (.ref a1), .val (.int (Int32.ofNat i)), .val (.int p2), .val (.int p3)] [(.int p3), (.int p2), (.int (Int32.ofNat i))]))
  obtain ⟨_, _, ⟨T1, L1, k1, n1⟩, -, X1, ⟨Lc1, hQ1, l1, y1, z1⟩, st1⟩ := Jvm.LawKit.callS X0 hx (y := (⟨"com/example/quotewire/quotewire/codec/FixFloatIsValidPinLaw", "in", "(III)Z"⟩ : MethodName)) hown (mvT hZ (hw _ (List.mem_of_getElem? (i := 8) rfl))) (mvT hZ (hw _ (List.mem_of_getElem? (i := 9) rfl))) (mvT hZ (hw _ (List.mem_of_getElem? (i := 3) rfl))) (mvT hZ (hw _ (List.mem_of_getElem? (i := 10) rfl))) (by decide) (backOf (W := 0) (rm2 l Z a0 hw [] (Int32.ofNat i) p2 p3  h0 ) hZ (hw _ (List.mem_of_getElem? (i := 10) rfl)) (hw _ (List.mem_of_getElem? (i := 3) rfl)) (by decide) (by decide)) (g := (mkF m 3 #[.val (.ref a1), .val (.int (Int32.ofNat i)), .val (.int p2), .val (.int p3)] [(.int p3), (.int p2), (.int (Int32.ofNat i))])) rfl (by rw [hml]; rfl) (argsL := [(.int (Int32.ofNat i)), (.int p2), (.int p3)]) (rest := []) (lenOf pd__III_Z rfl) rfl (by show 2 * 0 + _ ≤ _; exact Nat.le_of_eq rfl) (hb hby d_method_5_code_3) (fun _ _ => ⟨rfl, e0, (by decide : 0 + 0 ≤ _), (by decide : 0 + 0 ≤ _)⟩)
  dsimp only [Pt.U, Pt.locs, Pt.cells, Pt.slots] at X1 l1 y1 z1 st1 hQ1
  subst l1 y1 z1
  obtain ⟨rfl, rfl, e1⟩ := hQ1
  refine Go.step st1 ?_
  show Go FrameEnd p e below s 0 0 (Q4 Z a1 p2 p3 g i n h0) (T1.setTop (mkF m 6 #[.val (.ref a1), .val (.int (Int32.ofNat i)), .val (.int p2), .val (.int p3)] [(.int (inF (Int32.ofNat i) p2 p3))]))
  by_cases h1 : (inF (Int32.ofNat i) p2 p3) = (0 : Int32)
  · skip
    refine Go.step (fun _ k => XS.ifYes X1.here hx rfl (pc0 := 6) (pc' := 29) rfl (hb hby d_method_5_code_6) rfl ((if0 _ _).trans (teq h1).1) (by decide) (by decide) k) ?_
    show Go FrameEnd p e below s 0 0 (Q4 Z a1 p2 p3 g i n h0) (T1.setTop (mkF m 29 #[.val (.ref a1), .val (.int (Int32.ofNat i)), .val (.int p2), .val (.int p3)] []))
    refine Go.step (fun _ k => XS.iconst X1.here hx rfl (hb hby d_method_5_code_29) k) ?_
    show Go FrameEnd p e below s 0 0 (Q4 Z a1 p2 p3 g i n h0) (T1.setTop (mkF m 30 #[.val (.ref a1), .val (.int (Int32.ofNat i)), .val (.int p2), .val (.int p3)] [(.int (0 : Int32))]))
    refine Go.retI X1 hx Bd.returns (hb hby d_method_5_code_30) (BodyLoose.notSynchronized Bd) e1 (by decide) (by decide) ?_
    exact ⟨by first | contradiction | simp only [digF, eq_true h1, true_or, or_true, false_or, or_false, or_self, true_and, and_true, false_and, and_false, and_self, not_true_eq_false, not_false_eq_true, if_true, if_false], rfl, rfl⟩
  · skip
    refine Go.step (fun _ k => XS.ifNo X1.here hx rfl (hb hby d_method_5_code_6) rfl ((if0 _ _).trans (feq h1).1) k) ?_
    show Go FrameEnd p e below s 0 0 (Q4 Z a1 p2 p3 g i n h0) (T1.setTop (mkF m 9 #[.val (.ref a1), .val (.int (Int32.ofNat i)), .val (.int p2), .val (.int p3)] []))
    refine Go.step (fun _ k => XS.aloadN X1.here hx rfl (hb hby d_method_5_code_9) rfl rfl k) ?_
    show Go FrameEnd p e below s 0 0 (Q4 Z a1 p2 p3 g i n h0) (T1.setTop (mkF m 10 #[.val (.ref a1), .val (.int (Int32.ofNat i)), .val (.int p2), .val (.int p3)] [(.ref a1)]))
    refine Go.step (fun _ k => XS.iloadN X1.here hx rfl (hb hby d_method_5_code_10) rfl k) ?_
    show Go FrameEnd p e below s 0 0 (Q4 Z a1 p2 p3 g i n h0) (T1.setTop (mkF m 11 #[.val (.ref a1), .val (.int (Int32.ofNat i)), .val (.int p2), .val (.int p3)] [(.int (Int32.ofNat i)), (.ref a1)]))
    obtain ⟨c2, Ac2, Sc2, Mc2, Gc2⟩ := id V_a1
    refine Go.step (X1.baloadBytes hx (j := (Int32.ofNat i)) (v := (.int (g i))) (by rw [e1]; exact Ac2.1) (State.isArrayOf_alike hZ.alike Ac2.2.1) Ac2.2.2 (own_in Sc2 (own_nn (by omega)) (by rw [own_cl (by omega)]; omega)) (Av.at (i := i) Gc2 (own_cl (by omega)) (by omega) rfl) (g := (mkF m 11 #[.val (.ref a1), .val (.int (Int32.ofNat i)), .val (.int p2), .val (.int p3)] [(.int (Int32.ofNat i)), (.ref a1)])) rfl rfl (hb hby d_method_5_code_11)) ?_
    show Go FrameEnd p e below s 0 0 (Q4 Z a1 p2 p3 g i n h0) (T1.setTop (mkF m 12 #[.val (.ref a1), .val (.int (Int32.ofNat i)), .val (.int p2), .val (.int p3)] [(.int (g i))]))
    refine Go.step (fun _ k => XS.bipush X1.here hx rfl (hb hby d_method_5_code_12) k) ?_
    show Go FrameEnd p e below s 0 0 (Q4 Z a1 p2 p3 g i n h0) (T1.setTop (mkF m 14 #[.val (.ref a1), .val (.int (Int32.ofNat i)), .val (.int p2), .val (.int p3)] [(.int (48 : Int32)), (.int (g i))]))
    by_cases h2 : (g i) < (48 : Int32)
    · skip
      refine Go.step (fun _ k => XS.icmpYes X1.here hx rfl (pc0 := 14) (pc' := 29) rfl (hb hby d_method_5_code_14) rfl (tlt h2).1 (by decide) (by decide) k) ?_
      show Go FrameEnd p e below s 0 0 (Q4 Z a1 p2 p3 g i n h0) (T1.setTop (mkF m 29 #[.val (.ref a1), .val (.int (Int32.ofNat i)), .val (.int p2), .val (.int p3)] []))
      refine Go.step (fun _ k => XS.iconst X1.here hx rfl (hb hby d_method_5_code_29) k) ?_
      show Go FrameEnd p e below s 0 0 (Q4 Z a1 p2 p3 g i n h0) (T1.setTop (mkF m 30 #[.val (.ref a1), .val (.int (Int32.ofNat i)), .val (.int p2), .val (.int p3)] [(.int (0 : Int32))]))
      refine Go.retI X1 hx Bd.returns (hb hby d_method_5_code_30) (BodyLoose.notSynchronized Bd) e1 (by decide) (by decide) ?_
      exact ⟨by first | contradiction | simp only [digF, eq_false h1, eq_true h2, true_or, or_true, false_or, or_false, or_self, true_and, and_true, false_and, and_false, and_self, not_true_eq_false, not_false_eq_true, if_true, if_false], rfl, rfl⟩
    · skip
      refine Go.step (fun _ k => XS.icmpNo X1.here hx rfl (hb hby d_method_5_code_14) rfl (flt h2).1 k) ?_
      show Go FrameEnd p e below s 0 0 (Q4 Z a1 p2 p3 g i n h0) (T1.setTop (mkF m 17 #[.val (.ref a1), .val (.int (Int32.ofNat i)), .val (.int p2), .val (.int p3)] []))
      refine Go.step (fun _ k => XS.aloadN X1.here hx rfl (hb hby d_method_5_code_17) rfl rfl k) ?_
      show Go FrameEnd p e below s 0 0 (Q4 Z a1 p2 p3 g i n h0) (T1.setTop (mkF m 18 #[.val (.ref a1), .val (.int (Int32.ofNat i)), .val (.int p2), .val (.int p3)] [(.ref a1)]))
      refine Go.step (fun _ k => XS.iloadN X1.here hx rfl (hb hby d_method_5_code_18) rfl k) ?_
      show Go FrameEnd p e below s 0 0 (Q4 Z a1 p2 p3 g i n h0) (T1.setTop (mkF m 19 #[.val (.ref a1), .val (.int (Int32.ofNat i)), .val (.int p2), .val (.int p3)] [(.int (Int32.ofNat i)), (.ref a1)]))
      obtain ⟨c3, Ac3, Sc3, Mc3, Gc3⟩ := id V_a1
      refine Go.step (X1.baloadBytes hx (j := (Int32.ofNat i)) (v := (.int (g i))) (by rw [e1]; exact Ac3.1) (State.isArrayOf_alike hZ.alike Ac3.2.1) Ac3.2.2 (own_in Sc3 (own_nn (by omega)) (by rw [own_cl (by omega)]; omega)) (Av.at (i := i) Gc3 (own_cl (by omega)) (by omega) rfl) (g := (mkF m 19 #[.val (.ref a1), .val (.int (Int32.ofNat i)), .val (.int p2), .val (.int p3)] [(.int (Int32.ofNat i)), (.ref a1)])) rfl rfl (hb hby d_method_5_code_19)) ?_
      show Go FrameEnd p e below s 0 0 (Q4 Z a1 p2 p3 g i n h0) (T1.setTop (mkF m 20 #[.val (.ref a1), .val (.int (Int32.ofNat i)), .val (.int p2), .val (.int p3)] [(.int (g i))]))
      refine Go.step (fun _ k => XS.bipush X1.here hx rfl (hb hby d_method_5_code_20) k) ?_
      show Go FrameEnd p e below s 0 0 (Q4 Z a1 p2 p3 g i n h0) (T1.setTop (mkF m 22 #[.val (.ref a1), .val (.int (Int32.ofNat i)), .val (.int p2), .val (.int p3)] [(.int (57 : Int32)), (.int (g i))]))
      by_cases h3 : (57 : Int32) < (g i)
      · skip
        refine Go.step (fun _ k => XS.icmpYes X1.here hx rfl (pc0 := 22) (pc' := 29) rfl (hb hby d_method_5_code_22) rfl (tlt h3).2.2.1 (by decide) (by decide) k) ?_
        show Go FrameEnd p e below s 0 0 (Q4 Z a1 p2 p3 g i n h0) (T1.setTop (mkF m 29 #[.val (.ref a1), .val (.int (Int32.ofNat i)), .val (.int p2), .val (.int p3)] []))
        refine Go.step (fun _ k => XS.iconst X1.here hx rfl (hb hby d_method_5_code_29) k) ?_
        show Go FrameEnd p e below s 0 0 (Q4 Z a1 p2 p3 g i n h0) (T1.setTop (mkF m 30 #[.val (.ref a1), .val (.int (Int32.ofNat i)), .val (.int p2), .val (.int p3)] [(.int (0 : Int32))]))
        refine Go.retI X1 hx Bd.returns (hb hby d_method_5_code_30) (BodyLoose.notSynchronized Bd) e1 (by decide) (by decide) ?_
        exact ⟨by first | contradiction | simp only [digF, eq_false h1, eq_false h2, eq_true h3, true_or, or_true, false_or, or_false, or_self, true_and, and_true, false_and, and_false, and_self, not_true_eq_false, not_false_eq_true, if_true, if_false], rfl, rfl⟩
      · skip
        refine Go.step (fun _ k => XS.icmpNo X1.here hx rfl (hb hby d_method_5_code_22) rfl (flt h3).2.2.1 k) ?_
        show Go FrameEnd p e below s 0 0 (Q4 Z a1 p2 p3 g i n h0) (T1.setTop (mkF m 25 #[.val (.ref a1), .val (.int (Int32.ofNat i)), .val (.int p2), .val (.int p3)] []))
        refine Go.step (fun _ k => XS.iconst X1.here hx rfl (hb hby d_method_5_code_25) k) ?_
        show Go FrameEnd p e below s 0 0 (Q4 Z a1 p2 p3 g i n h0) (T1.setTop (mkF m 26 #[.val (.ref a1), .val (.int (Int32.ofNat i)), .val (.int p2), .val (.int p3)] [(.int (1 : Int32))]))
        refine Go.step (fun _ k => XS.goto X1.here hx rfl (pc0 := 26) (pc' := 30) rfl (hb hby d_method_5_code_26) (by decide) (by decide) k) ?_
        show Go FrameEnd p e below s 0 0 (Q4 Z a1 p2 p3 g i n h0) (T1.setTop (mkF m 30 #[.val (.ref a1), .val (.int (Int32.ofNat i)), .val (.int p2), .val (.int p3)] [(.int (1 : Int32))]))
        refine Go.retI X1 hx Bd.returns (hb hby d_method_5_code_30) (BodyLoose.notSynchronized Bd) e1 (by decide) (by decide) ?_
        exact ⟨by first | contradiction | simp only [digF, eq_false h1, eq_false h2, eq_false h3, true_or, or_true, false_or, or_false, or_self, true_and, and_true, false_and, and_false, and_self, not_true_eq_false, not_false_eq_true, if_true, if_false], rfl, rfl⟩
def Q5 (Z : State) (a1 : Addr) (p2 : Int32) (p3 : Int32) (g : Nat → Int32) (i : Nat) (n : Nat) (h0 : Heap) (v : Option Value) (h : Heap) (L : List Loc) : Prop := v = some (.int (poiF (g i) (Int32.ofNat i) p2 p3)) ∧ L = [] ∧ h = h0
theorem ef_5 (m : MethodId) (a1 : Addr) (p2 : Int32) (p3 : Int32) (i : Nat) : entryFrame m #[(.ref a1), (.int (Int32.ofNat i)), (.int p2), (.int p3)] 4 = mkF m 0 #[.val (.ref a1), .val (.int (Int32.ofNat i)), .val (.int p2), .val (.int p3)] [] := by first | (simp [entryFrame, mkF, argsToLocals, Value.category]; done) | rfl
set_option maxRecDepth 65536 in
set_option maxHeartbeats 40000000 in
theorem rm5 (l : Launch) (Z : State) (a0 : Array Value) (hw : ∀ d ∈ tables_1, d.before a0 Z = true) (ws : List Jvm.Cond) (a1 : Addr) (p2 : Int32) (p3 : Int32) (g : Nat → Int32) (i : Nat) (n : Nat) (h0 : Heap) (V_a1 : Av Z h0 a1 .byte n (fun j => .int (g j))) (hi : i < n ∧ n < 100) :
    MetFree l (⟨"com/example/quotewire/quotewire/codec/FixFloatIsValidPinLaw", "point", "([BIII)I"⟩ : MethodName) (head1 (Jvm.Cond.code (⟨"com/example/quotewire/quotewire/codec/FixFloatIsValidPinLaw", "point", "([BIII)I"⟩ : MethodName) method_6_code 4 (some .int) :: ws) ({ frames := 1, cells := 0, slots := 0, locals := 14 } : Room)) (fun a U => a = #[(.ref a1), (.int (Int32.ofNat i)), (.int p2), (.int p3)] ∧ Z.Warmed39 U.vm ∧ U.heap = h0) (fun _ _ _ _ _ => True) (fun _ U o U' => ∃ v L, o = .returned v ∧ (Q5 Z a1 p2 p3 g i n h0) v U'.heap L ∧ FrameEnd U o U' L 0 0) := by
  refine MetFree.of_bodySF (plainFor_of_name pn_com_example_quotewire_quotewire_codec_FixFloatIsValidPinLaw) hisR ?_
  intro p e s m args below meth c s₁ Bd hml0 hP hK
  obtain ⟨rfl, hZ, hh⟩ := hP
  have hx := Bd.exec
  have hby := Bd.bytes
  have hml : c.maxLocals = 4 := hml0
  have hown : s.vm.findClass "com/example/quotewire/quotewire/codec/FixFloatIsValidPinLaw" = some m.cls := findClass_of_methodNamed Bd.named
  have hnm := (name_of_methodNamed Bd.named Bd.method).1
  have X0 : Stand p l e ({ frames := 1, cells := 0, slots := 0, locals := 14 } : Room) s m #[(.ref a1), (.int (Int32.ofNat i)), (.int p2), (.int p3)] below meth c s₁ [] 0 0 := Stand.of_body Bd
  have e0 : s₁.heap = h0 := by rw [← hh, Bd.state]; rfl
  show Go FrameEnd p e below s 0 0 (Q5 Z a1 p2 p3 g i n h0) _
  refine Go.step (fun _ k => castTop (ef_5 m a1 p2 p3 i) k) ?_
  show Go FrameEnd p e below s 0 0 (Q5 Z a1 p2 p3 g i n h0) (s₁.setTop (mkF m 0 #[.val (.ref a1), .val (.int (Int32.ofNat i)), .val (.int p2), .val (.int p3)] []))
  refine Go.step (fun _ k => XS.iloadN X0.here hx rfl (hb hby d_method_6_code_0) rfl k) ?_
  show Go FrameEnd p e below s 0 0 (Q5 Z a1 p2 p3 g i n h0) (s₁.setTop (mkF m 1 #[.val (.ref a1), .val (.int (Int32.ofNat i)), .val (.int p2), .val (.int p3)] [(.int (Int32.ofNat i))]))
  refine Go.step (fun _ k => XS.iloadN X0.here hx rfl (hb hby d_method_6_code_1) rfl k) ?_
  show Go FrameEnd p e below s 0 0 (Q5 Z a1 p2 p3 g i n h0) (s₁.setTop (mkF m 2 #[.val (.ref a1), .val (.int (Int32.ofNat i)), .val (.int p2), .val (.int p3)] [(.int p2), (.int (Int32.ofNat i))]))
  refine Go.step (fun _ k => XS.iloadN X0.here hx rfl (hb hby d_method_6_code_2) rfl k) ?_
  show Go FrameEnd p e below s 0 0 (Q5 Z a1 p2 p3 g i n h0) (s₁.setTop (mkF m 3 #[.val (.ref a1), .val (.int (Int32.ofNat i)), .val (.int p2), .val (.int p3)] [(.int p3), (.int p2), (.int (Int32.ofNat i))]))
  obtain ⟨_, _, ⟨T1, L1, k1, n1⟩, -, X1, ⟨Lc1, hQ1, l1, y1, z1⟩, st1⟩ := Jvm.LawKit.callS X0 hx (y := (⟨"com/example/quotewire/quotewire/codec/FixFloatIsValidPinLaw", "in", "(III)Z"⟩ : MethodName)) hown (mvT hZ (hw _ (List.mem_of_getElem? (i := 8) rfl))) (mvT hZ (hw _ (List.mem_of_getElem? (i := 9) rfl))) (mvT hZ (hw _ (List.mem_of_getElem? (i := 3) rfl))) (mvT hZ (hw _ (List.mem_of_getElem? (i := 10) rfl))) (by decide) (backOf (W := 0) (rm2 l Z a0 hw [] (Int32.ofNat i) p2 p3  h0 ) hZ (hw _ (List.mem_of_getElem? (i := 10) rfl)) (hw _ (List.mem_of_getElem? (i := 3) rfl)) (by decide) (by decide)) (g := (mkF m 3 #[.val (.ref a1), .val (.int (Int32.ofNat i)), .val (.int p2), .val (.int p3)] [(.int p3), (.int p2), (.int (Int32.ofNat i))])) rfl (by rw [hml]; rfl) (argsL := [(.int (Int32.ofNat i)), (.int p2), (.int p3)]) (rest := []) (lenOf pd__III_Z rfl) rfl (by show 2 * 0 + _ ≤ _; exact Nat.le_of_eq rfl) (hb hby d_method_6_code_3) (fun _ _ => ⟨rfl, e0, (by decide : 0 + 0 ≤ _), (by decide : 0 + 0 ≤ _)⟩)
  dsimp only [Pt.U, Pt.locs, Pt.cells, Pt.slots] at X1 l1 y1 z1 st1 hQ1
  subst l1 y1 z1
  obtain ⟨rfl, rfl, e1⟩ := hQ1
  refine Go.step st1 ?_
  show Go FrameEnd p e below s 0 0 (Q5 Z a1 p2 p3 g i n h0) (T1.setTop (mkF m 6 #[.val (.ref a1), .val (.int (Int32.ofNat i)), .val (.int p2), .val (.int p3)] [(.int (inF (Int32.ofNat i) p2 p3))]))
  by_cases h1 : (inF (Int32.ofNat i) p2 p3) = (0 : Int32)
  · skip
    refine Go.step (fun _ k => XS.ifYes X1.here hx rfl (pc0 := 6) (pc' := 21) rfl (hb hby d_method_6_code_6) rfl ((if0 _ _).trans (teq h1).1) (by decide) (by decide) k) ?_
    show Go FrameEnd p e below s 0 0 (Q5 Z a1 p2 p3 g i n h0) (T1.setTop (mkF m 21 #[.val (.ref a1), .val (.int (Int32.ofNat i)), .val (.int p2), .val (.int p3)] []))
    refine Go.step (fun _ k => XS.iconst X1.here hx rfl (hb hby d_method_6_code_21) k) ?_
    show Go FrameEnd p e below s 0 0 (Q5 Z a1 p2 p3 g i n h0) (T1.setTop (mkF m 22 #[.val (.ref a1), .val (.int (Int32.ofNat i)), .val (.int p2), .val (.int p3)] [(.int (0 : Int32))]))
    refine Go.retI X1 hx Bd.returns (hb hby d_method_6_code_22) (BodyLoose.notSynchronized Bd) e1 (by decide) (by decide) ?_
    exact ⟨by first | contradiction | simp only [poiF, eq_true h1, true_or, or_true, false_or, or_false, or_self, true_and, and_true, false_and, and_false, and_self, not_true_eq_false, not_false_eq_true, if_true, if_false], rfl, rfl⟩
  · skip
    refine Go.step (fun _ k => XS.ifNo X1.here hx rfl (hb hby d_method_6_code_6) rfl ((if0 _ _).trans (feq h1).1) k) ?_
    show Go FrameEnd p e below s 0 0 (Q5 Z a1 p2 p3 g i n h0) (T1.setTop (mkF m 9 #[.val (.ref a1), .val (.int (Int32.ofNat i)), .val (.int p2), .val (.int p3)] []))
    refine Go.step (fun _ k => XS.aloadN X1.here hx rfl (hb hby d_method_6_code_9) rfl rfl k) ?_
    show Go FrameEnd p e below s 0 0 (Q5 Z a1 p2 p3 g i n h0) (T1.setTop (mkF m 10 #[.val (.ref a1), .val (.int (Int32.ofNat i)), .val (.int p2), .val (.int p3)] [(.ref a1)]))
    refine Go.step (fun _ k => XS.iloadN X1.here hx rfl (hb hby d_method_6_code_10) rfl k) ?_
    show Go FrameEnd p e below s 0 0 (Q5 Z a1 p2 p3 g i n h0) (T1.setTop (mkF m 11 #[.val (.ref a1), .val (.int (Int32.ofNat i)), .val (.int p2), .val (.int p3)] [(.int (Int32.ofNat i)), (.ref a1)]))
    obtain ⟨c2, Ac2, Sc2, Mc2, Gc2⟩ := id V_a1
    refine Go.step (X1.baloadBytes hx (j := (Int32.ofNat i)) (v := (.int (g i))) (by rw [e1]; exact Ac2.1) (State.isArrayOf_alike hZ.alike Ac2.2.1) Ac2.2.2 (own_in Sc2 (own_nn (by omega)) (by rw [own_cl (by omega)]; omega)) (Av.at (i := i) Gc2 (own_cl (by omega)) (by omega) rfl) (g := (mkF m 11 #[.val (.ref a1), .val (.int (Int32.ofNat i)), .val (.int p2), .val (.int p3)] [(.int (Int32.ofNat i)), (.ref a1)])) rfl rfl (hb hby d_method_6_code_11)) ?_
    show Go FrameEnd p e below s 0 0 (Q5 Z a1 p2 p3 g i n h0) (T1.setTop (mkF m 12 #[.val (.ref a1), .val (.int (Int32.ofNat i)), .val (.int p2), .val (.int p3)] [(.int (g i))]))
    refine Go.step (fun _ k => XS.bipush X1.here hx rfl (hb hby d_method_6_code_12) k) ?_
    show Go FrameEnd p e below s 0 0 (Q5 Z a1 p2 p3 g i n h0) (T1.setTop (mkF m 14 #[.val (.ref a1), .val (.int (Int32.ofNat i)), .val (.int p2), .val (.int p3)] [(.int (46 : Int32)), (.int (g i))]))
    by_cases h2 : (g i) = (46 : Int32)
    · skip
      refine Go.step (fun _ k => XS.icmpNo X1.here hx rfl (hb hby d_method_6_code_14) rfl (teq h2).2 k) ?_
      show Go FrameEnd p e below s 0 0 (Q5 Z a1 p2 p3 g i n h0) (T1.setTop (mkF m 17 #[.val (.ref a1), .val (.int (Int32.ofNat i)), .val (.int p2), .val (.int p3)] []))
      refine Go.step (fun _ k => XS.iconst X1.here hx rfl (hb hby d_method_6_code_17) k) ?_
      show Go FrameEnd p e below s 0 0 (Q5 Z a1 p2 p3 g i n h0) (T1.setTop (mkF m 18 #[.val (.ref a1), .val (.int (Int32.ofNat i)), .val (.int p2), .val (.int p3)] [(.int (1 : Int32))]))
      refine Go.step (fun _ k => XS.goto X1.here hx rfl (pc0 := 18) (pc' := 22) rfl (hb hby d_method_6_code_18) (by decide) (by decide) k) ?_
      show Go FrameEnd p e below s 0 0 (Q5 Z a1 p2 p3 g i n h0) (T1.setTop (mkF m 22 #[.val (.ref a1), .val (.int (Int32.ofNat i)), .val (.int p2), .val (.int p3)] [(.int (1 : Int32))]))
      refine Go.retI X1 hx Bd.returns (hb hby d_method_6_code_22) (BodyLoose.notSynchronized Bd) e1 (by decide) (by decide) ?_
      exact ⟨by first | contradiction | simp only [poiF, eq_false h1, eq_true h2, true_or, or_true, false_or, or_false, or_self, true_and, and_true, false_and, and_false, and_self, not_true_eq_false, not_false_eq_true, if_true, if_false], rfl, rfl⟩
    · skip
      refine Go.step (fun _ k => XS.icmpYes X1.here hx rfl (pc0 := 14) (pc' := 21) rfl (hb hby d_method_6_code_14) rfl (feq h2).2 (by decide) (by decide) k) ?_
      show Go FrameEnd p e below s 0 0 (Q5 Z a1 p2 p3 g i n h0) (T1.setTop (mkF m 21 #[.val (.ref a1), .val (.int (Int32.ofNat i)), .val (.int p2), .val (.int p3)] []))
      refine Go.step (fun _ k => XS.iconst X1.here hx rfl (hb hby d_method_6_code_21) k) ?_
      show Go FrameEnd p e below s 0 0 (Q5 Z a1 p2 p3 g i n h0) (T1.setTop (mkF m 22 #[.val (.ref a1), .val (.int (Int32.ofNat i)), .val (.int p2), .val (.int p3)] [(.int (0 : Int32))]))
      refine Go.retI X1 hx Bd.returns (hb hby d_method_6_code_22) (BodyLoose.notSynchronized Bd) e1 (by decide) (by decide) ?_
      exact ⟨by first | contradiction | simp only [poiF, eq_false h1, eq_false h2, true_or, or_true, false_or, or_false, or_self, true_and, and_true, false_and, and_false, and_self, not_true_eq_false, not_false_eq_true, if_true, if_false], rfl, rfl⟩
def Q6 (Z : State) (a1 : Addr) (g : Nat → Int32) (na : Nat) (nb : Nat) (n : Nat) (h0 : Heap) (v : Option Value) (h : Heap) (L : List Loc) : Prop := v = some (.int (validF g na nb)) ∧ L = [] ∧ h = h0
theorem ef_6 (m : MethodId) (a1 : Addr) (na : Nat) (nb : Nat) : entryFrame m #[(.ref a1), (.int (Int32.ofNat na)), (.int (Int32.ofNat nb))] 7 = mkF m 0 #[.val (.ref a1), .val (.int (Int32.ofNat na)), .val (.int (Int32.ofNat nb)), .unset, .unset, .unset, .unset] [] := by first | (simp [entryFrame, mkF, argsToLocals, Value.category]; done) | rfl
set_option maxRecDepth 65536 in
set_option maxHeartbeats 40000000 in
theorem rm6 (l : Launch) (Z : State) (a0 : Array Value) (hw : ∀ d ∈ tables_1, d.before a0 Z = true) (ws : List Jvm.Cond) (a1 : Addr) (g : Nat → Int32) (na : Nat) (nb : Nat) (n : Nat) (h0 : Heap) (V_a1 : Av Z h0 a1 .byte n (fun j => .int (g j))) (hab : na ≤ nb ∧ nb ≤ n ∧ n < 100) :
    MetFree l (⟨"com/example/quotewire/quotewire/codec/FixFloat", "isValid", "([BII)Z"⟩ : MethodName) (head1 (Jvm.Cond.code (⟨"com/example/quotewire/quotewire/codec/FixFloat", "isValid", "([BII)Z"⟩ : MethodName) prog_18_method_2_code 7 (some .boolean) :: ws) ({ frames := 0, cells := 0, slots := 0, locals := 0 } : Room)) (fun a U => a = #[(.ref a1), (.int (Int32.ofNat na)), (.int (Int32.ofNat nb))] ∧ Z.Warmed39 U.vm ∧ U.heap = h0) (fun _ _ _ _ _ => True) (fun _ U o U' => ∃ v L, o = .returned v ∧ (Q6 Z a1 g na nb n h0) v U'.heap L ∧ FrameEnd U o U' L 0 0) := by
  refine MetFree.of_bodySF (plainFor_of_name pn_com_example_quotewire_quotewire_codec_FixFloat) hisR ?_
  intro p e s m args below meth c s₁ Bd hml0 hP hK
  obtain ⟨rfl, hZ, hh⟩ := hP
  have hx := Bd.exec
  have hby := Bd.bytes
  have hml : c.maxLocals = 7 := hml0
  have hown : s.vm.findClass "com/example/quotewire/quotewire/codec/FixFloat" = some m.cls := findClass_of_methodNamed Bd.named
  have hnm := (name_of_methodNamed Bd.named Bd.method).1
  have X0 : Stand p l e ({ frames := 0, cells := 0, slots := 0, locals := 0 } : Room) s m #[(.ref a1), (.int (Int32.ofNat na)), (.int (Int32.ofNat nb))] below meth c s₁ [] 0 0 := Stand.of_body Bd
  have e0 : s₁.heap = h0 := by rw [← hh, Bd.state]; rfl
  show Go FrameEnd p e below s 0 0 (Q6 Z a1 g na nb n h0) _
  refine Go.step (fun _ k => castTop (ef_6 m a1 na nb) k) ?_
  show Go FrameEnd p e below s 0 0 (Q6 Z a1 g na nb n h0) (s₁.setTop (mkF m 0 #[.val (.ref a1), .val (.int (Int32.ofNat na)), .val (.int (Int32.ofNat nb)), .unset, .unset, .unset, .unset] []))
  refine Go.step (fun _ k => XS.iloadN X0.here hx rfl (hb hby d_prog_18_method_2_code_0) rfl k) ?_
  show Go FrameEnd p e below s 0 0 (Q6 Z a1 g na nb n h0) (s₁.setTop (mkF m 1 #[.val (.ref a1), .val (.int (Int32.ofNat na)), .val (.int (Int32.ofNat nb)), .unset, .unset, .unset, .unset] [(.int (Int32.ofNat na))]))
  refine Go.step (fun _ k => XS.iloadN X0.here hx rfl (hb hby d_prog_18_method_2_code_1) rfl k) ?_
  show Go FrameEnd p e below s 0 0 (Q6 Z a1 g na nb n h0) (s₁.setTop (mkF m 2 #[.val (.ref a1), .val (.int (Int32.ofNat na)), .val (.int (Int32.ofNat nb)), .unset, .unset, .unset, .unset] [(.int (Int32.ofNat nb)), (.int (Int32.ofNat na))]))
  by_cases h1 : (Int32.ofNat na) < (Int32.ofNat nb)
  · skip
    refine Go.step (fun _ k => XS.icmpNo X0.here hx rfl (hb hby d_prog_18_method_2_code_2) rfl (tlt h1).2.1 k) ?_
    show Go FrameEnd p e below s 0 0 (Q6 Z a1 g na nb n h0) (s₁.setTop (mkF m 5 #[.val (.ref a1), .val (.int (Int32.ofNat na)), .val (.int (Int32.ofNat nb)), .unset, .unset, .unset, .unset] []))
    have hlt := (own_lt (i := na) (j := nb) (by omega) (by omega)).mp h1
    refine Go.step (fun _ k => XS.aloadN X0.here hx rfl (hb hby d_prog_18_method_2_code_5) rfl rfl k) ?_
    show Go FrameEnd p e below s 0 0 (Q6 Z a1 g na nb n h0) (s₁.setTop (mkF m 6 #[.val (.ref a1), .val (.int (Int32.ofNat na)), .val (.int (Int32.ofNat nb)), .unset, .unset, .unset, .unset] [(.ref a1)]))
    refine Go.step (fun _ k => XS.iloadN X0.here hx rfl (hb hby d_prog_18_method_2_code_6) rfl k) ?_
    show Go FrameEnd p e below s 0 0 (Q6 Z a1 g na nb n h0) (s₁.setTop (mkF m 7 #[.val (.ref a1), .val (.int (Int32.ofNat na)), .val (.int (Int32.ofNat nb)), .unset, .unset, .unset, .unset] [(.int (Int32.ofNat na)), (.ref a1)]))
    obtain ⟨c1, Ac1, Sc1, Mc1, Gc1⟩ := id V_a1
    refine Go.step (X0.baloadBytes hx (j := (Int32.ofNat na)) (v := (.int (g na))) (by rw [e0]; exact Ac1.1) (State.isArrayOf_alike hZ.alike Ac1.2.1) Ac1.2.2 (own_in Sc1 (own_nn (by omega)) (by rw [own_cl (by omega)]; omega)) (Av.at (i := na) Gc1 (own_cl (by omega)) (by omega) rfl) (g := (mkF m 7 #[.val (.ref a1), .val (.int (Int32.ofNat na)), .val (.int (Int32.ofNat nb)), .unset, .unset, .unset, .unset] [(.int (Int32.ofNat na)), (.ref a1)])) rfl rfl (hb hby d_prog_18_method_2_code_7)) ?_
    show Go FrameEnd p e below s 0 0 (Q6 Z a1 g na nb n h0) (s₁.setTop (mkF m 8 #[.val (.ref a1), .val (.int (Int32.ofNat na)), .val (.int (Int32.ofNat nb)), .unset, .unset, .unset, .unset] [(.int (g na))]))
    refine Go.step (fun _ k => XS.bipush X0.here hx rfl (hb hby d_prog_18_method_2_code_8) k) ?_
    show Go FrameEnd p e below s 0 0 (Q6 Z a1 g na nb n h0) (s₁.setTop (mkF m 10 #[.val (.ref a1), .val (.int (Int32.ofNat na)), .val (.int (Int32.ofNat nb)), .unset, .unset, .unset, .unset] [(.int (45 : Int32)), (.int (g na))]))
    by_cases h2 : (g na) = (45 : Int32)
    · skip
      refine Go.step (fun _ k => XS.icmpNo X0.here hx rfl (hb hby d_prog_18_method_2_code_10) rfl (teq h2).2 k) ?_
      show Go FrameEnd p e below s 0 0 (Q6 Z a1 g na nb n h0) (s₁.setTop (mkF m 13 #[.val (.ref a1), .val (.int (Int32.ofNat na)), .val (.int (Int32.ofNat nb)), .unset, .unset, .unset, .unset] []))
      refine Go.step (fun _ k => XS.iloadN X0.here hx rfl (hb hby d_prog_18_method_2_code_13) rfl k) ?_
      show Go FrameEnd p e below s 0 0 (Q6 Z a1 g na nb n h0) (s₁.setTop (mkF m 14 #[.val (.ref a1), .val (.int (Int32.ofNat na)), .val (.int (Int32.ofNat nb)), .unset, .unset, .unset, .unset] [(.int (Int32.ofNat na))]))
      refine Go.step (fun _ k => XS.iconst X0.here hx rfl (hb hby d_prog_18_method_2_code_14) k) ?_
      show Go FrameEnd p e below s 0 0 (Q6 Z a1 g na nb n h0) (s₁.setTop (mkF m 15 #[.val (.ref a1), .val (.int (Int32.ofNat na)), .val (.int (Int32.ofNat nb)), .unset, .unset, .unset, .unset] [(.int (1 : Int32)), (.int (Int32.ofNat na))]))
      refine Go.step (fun _ k => XS.iadd X0.here hx rfl (hb hby d_prog_18_method_2_code_15) rfl k) ?_
      show Go FrameEnd p e below s 0 0 (Q6 Z a1 g na nb n h0) (s₁.setTop (mkF m 16 #[.val (.ref a1), .val (.int (Int32.ofNat na)), .val (.int (Int32.ofNat nb)), .unset, .unset, .unset, .unset] [(.int ((Int32.ofNat na) + (1 : Int32)))]))
      rw [own_of1]
      show Go FrameEnd p e below s 0 0 (Q6 Z a1 g na nb n h0) (s₁.setTop (mkF m 16 #[.val (.ref a1), .val (.int (Int32.ofNat na)), .val (.int (Int32.ofNat nb)), .unset, .unset, .unset, .unset] [(.int (Int32.ofNat (na + 1)))]))
      refine Go.step (fun _ k => XS.goto X0.here hx rfl (pc0 := 16) (pc' := 20) rfl (hb hby d_prog_18_method_2_code_16) (by decide) (by decide) k) ?_
      show Go FrameEnd p e below s 0 0 (Q6 Z a1 g na nb n h0) (s₁.setTop (mkF m 20 #[.val (.ref a1), .val (.int (Int32.ofNat na)), .val (.int (Int32.ofNat nb)), .unset, .unset, .unset, .unset] [(.int (Int32.ofNat (na + 1)))]))
      refine Go.step (fun _ k => XS.istoreN X0.here hx rfl (hb hby d_prog_18_method_2_code_20) rfl (l' := #[.val (.ref a1), .val (.int (Int32.ofNat na)), .val (.int (Int32.ofNat nb)), .val (.int (Int32.ofNat (na + 1))), .unset, .unset, .unset]) rfl k) ?_
      show Go FrameEnd p e below s 0 0 (Q6 Z a1 g na nb n h0) (s₁.setTop (mkF m 21 #[.val (.ref a1), .val (.int (Int32.ofNat na)), .val (.int (Int32.ofNat nb)), .val (.int (Int32.ofNat (na + 1))), .unset, .unset, .unset] []))
      refine Go.step (fun _ k => XS.iconst X0.here hx rfl (hb hby d_prog_18_method_2_code_21) k) ?_
      show Go FrameEnd p e below s 0 0 (Q6 Z a1 g na nb n h0) (s₁.setTop (mkF m 22 #[.val (.ref a1), .val (.int (Int32.ofNat na)), .val (.int (Int32.ofNat nb)), .val (.int (Int32.ofNat (na + 1))), .unset, .unset, .unset] [(.int (0 : Int32))]))
      refine Go.step (fun _ k => XS.istore X0.here hx rfl (hb hby d_prog_18_method_2_code_22) rfl (l' := #[.val (.ref a1), .val (.int (Int32.ofNat na)), .val (.int (Int32.ofNat nb)), .val (.int (Int32.ofNat (na + 1))), .val (.int (0 : Int32)), .unset, .unset]) rfl k) ?_
      show Go FrameEnd p e below s 0 0 (Q6 Z a1 g na nb n h0) (s₁.setTop (mkF m 24 #[.val (.ref a1), .val (.int (Int32.ofNat na)), .val (.int (Int32.ofNat nb)), .val (.int (Int32.ofNat (na + 1))), .val (.int (0 : Int32)), .unset, .unset] []))
      refine Go.step (fun _ k => XS.iconst X0.here hx rfl (hb hby d_prog_18_method_2_code_24) k) ?_
      show Go FrameEnd p e below s 0 0 (Q6 Z a1 g na nb n h0) (s₁.setTop (mkF m 25 #[.val (.ref a1), .val (.int (Int32.ofNat na)), .val (.int (Int32.ofNat nb)), .val (.int (Int32.ofNat (na + 1))), .val (.int (0 : Int32)), .unset, .unset] [(.int (0 : Int32))]))
      refine Go.step (fun _ k => XS.istore X0.here hx rfl (hb hby d_prog_18_method_2_code_25) rfl (l' := #[.val (.ref a1), .val (.int (Int32.ofNat na)), .val (.int (Int32.ofNat nb)), .val (.int (Int32.ofNat (na + 1))), .val (.int (0 : Int32)), .val (.int (0 : Int32)), .unset]) rfl k) ?_
      show Go FrameEnd p e below s 0 0 (Q6 Z a1 g na nb n h0) (s₁.setTop (mkF m 27 #[.val (.ref a1), .val (.int (Int32.ofNat na)), .val (.int (Int32.ofNat nb)), .val (.int (Int32.ofNat (na + 1))), .val (.int (0 : Int32)), .val (.int (0 : Int32)), .unset] []))
      have W27_2 : ∀ k : Nat, ∀ (i : Nat), ∀ (d : Int32), ∀ (q : Int32), ∀ (s6 : Slot), (i + k = nb) → (One s6) → (nar .boolean d = d) → (nar .boolean q = q) → (validF g na nb = vloop g k i d q) → Go FrameEnd p e below s 0 0 (Q6 Z a1 g na nb n h0) (s₁.setTop (mkF m 27 #[.val (.ref a1), .val (.int (Int32.ofNat na)), .val (.int (Int32.ofNat nb)), .val (.int (Int32.ofNat i)), .val (.int d), .val (.int q), s6] [])) := by
        intro k
        induction k with
        | zero =>
          intro i d q s6 hi hs6 hd hq hR
          show Go FrameEnd p e below s 0 0 (Q6 Z a1 g na nb n h0) (s₁.setTop (mkF m 27 #[.val (.ref a1), .val (.int (Int32.ofNat na)), .val (.int (Int32.ofNat nb)), .val (.int (Int32.ofNat i)), .val (.int d), .val (.int q), s6] []))
          refine Go.step (fun _ k => XS.iloadN X0.here hx rfl (hb hby d_prog_18_method_2_code_27) rfl k) ?_
          show Go FrameEnd p e below s 0 0 (Q6 Z a1 g na nb n h0) (s₁.setTop (mkF m 28 #[.val (.ref a1), .val (.int (Int32.ofNat na)), .val (.int (Int32.ofNat nb)), .val (.int (Int32.ofNat i)), .val (.int d), .val (.int q), s6] [(.int (Int32.ofNat i))]))
          refine Go.step (fun _ k => XS.iloadN X0.here hx rfl (hb hby d_prog_18_method_2_code_28) rfl k) ?_
          show Go FrameEnd p e below s 0 0 (Q6 Z a1 g na nb n h0) (s₁.setTop (mkF m 29 #[.val (.ref a1), .val (.int (Int32.ofNat na)), .val (.int (Int32.ofNat nb)), .val (.int (Int32.ofNat i)), .val (.int d), .val (.int q), s6] [(.int (Int32.ofNat nb)), (.int (Int32.ofNat i))]))
          refine Go.step (fun _ k => XS.icmpYes X0.here hx rfl (pc0 := 29) (pc' := 83) rfl (hb hby d_prog_18_method_2_code_29) rfl (flt (by rw [own_lt (by omega) (by omega)]; omega)).2.1 (by decide) (by decide) k) ?_
          show Go FrameEnd p e below s 0 0 (Q6 Z a1 g na nb n h0) (s₁.setTop (mkF m 83 #[.val (.ref a1), .val (.int (Int32.ofNat na)), .val (.int (Int32.ofNat nb)), .val (.int (Int32.ofNat i)), .val (.int d), .val (.int q), s6] []))
          refine Go.step (fun _ k => XS.iload X0.here hx rfl (hb hby d_prog_18_method_2_code_83) rfl k) ?_
          show Go FrameEnd p e below s 0 0 (Q6 Z a1 g na nb n h0) (s₁.setTop (mkF m 85 #[.val (.ref a1), .val (.int (Int32.ofNat na)), .val (.int (Int32.ofNat nb)), .val (.int (Int32.ofNat i)), .val (.int d), .val (.int q), s6] [(.int d)]))
          refine Go.retN X0 hx (t := .boolean) Bd.returns (by simp) hd (hb hby d_prog_18_method_2_code_85) (BodyLoose.notSynchronized Bd) e0 (by decide) (by decide) ?_
          exact ⟨by rw [hR]; rfl, rfl, rfl⟩
        | succ k ih =>
          intro i d q s6 hi hs6 hd hq hR
          show Go FrameEnd p e below s 0 0 (Q6 Z a1 g na nb n h0) (s₁.setTop (mkF m 27 #[.val (.ref a1), .val (.int (Int32.ofNat na)), .val (.int (Int32.ofNat nb)), .val (.int (Int32.ofNat i)), .val (.int d), .val (.int q), s6] []))
          refine Go.step (fun _ k => XS.iloadN X0.here hx rfl (hb hby d_prog_18_method_2_code_27) rfl k) ?_
          show Go FrameEnd p e below s 0 0 (Q6 Z a1 g na nb n h0) (s₁.setTop (mkF m 28 #[.val (.ref a1), .val (.int (Int32.ofNat na)), .val (.int (Int32.ofNat nb)), .val (.int (Int32.ofNat i)), .val (.int d), .val (.int q), s6] [(.int (Int32.ofNat i))]))
          refine Go.step (fun _ k => XS.iloadN X0.here hx rfl (hb hby d_prog_18_method_2_code_28) rfl k) ?_
          show Go FrameEnd p e below s 0 0 (Q6 Z a1 g na nb n h0) (s₁.setTop (mkF m 29 #[.val (.ref a1), .val (.int (Int32.ofNat na)), .val (.int (Int32.ofNat nb)), .val (.int (Int32.ofNat i)), .val (.int d), .val (.int q), s6] [(.int (Int32.ofNat nb)), (.int (Int32.ofNat i))]))
          refine Go.step (fun _ k => XS.icmpNo X0.here hx rfl (hb hby d_prog_18_method_2_code_29) rfl (tlt (by rw [own_lt (by omega) (by omega)]; omega)).2.1 k) ?_
          show Go FrameEnd p e below s 0 0 (Q6 Z a1 g na nb n h0) (s₁.setTop (mkF m 32 #[.val (.ref a1), .val (.int (Int32.ofNat na)), .val (.int (Int32.ofNat nb)), .val (.int (Int32.ofNat i)), .val (.int d), .val (.int q), s6] []))
          refine Go.step (fun _ k => XS.aloadN X0.here hx rfl (hb hby d_prog_18_method_2_code_32) rfl rfl k) ?_
          show Go FrameEnd p e below s 0 0 (Q6 Z a1 g na nb n h0) (s₁.setTop (mkF m 33 #[.val (.ref a1), .val (.int (Int32.ofNat na)), .val (.int (Int32.ofNat nb)), .val (.int (Int32.ofNat i)), .val (.int d), .val (.int q), s6] [(.ref a1)]))
          refine Go.step (fun _ k => XS.iloadN X0.here hx rfl (hb hby d_prog_18_method_2_code_33) rfl k) ?_
          show Go FrameEnd p e below s 0 0 (Q6 Z a1 g na nb n h0) (s₁.setTop (mkF m 34 #[.val (.ref a1), .val (.int (Int32.ofNat na)), .val (.int (Int32.ofNat nb)), .val (.int (Int32.ofNat i)), .val (.int d), .val (.int q), s6] [(.int (Int32.ofNat i)), (.ref a1)]))
          obtain ⟨c3, Ac3, Sc3, Mc3, Gc3⟩ := id V_a1
          refine Go.step (X0.baloadBytes hx (j := (Int32.ofNat i)) (v := (.int (g i))) (by rw [e0]; exact Ac3.1) (State.isArrayOf_alike hZ.alike Ac3.2.1) Ac3.2.2 (own_in Sc3 (own_nn (by omega)) (by rw [own_cl (by omega)]; omega)) (Av.at (i := i) Gc3 (own_cl (by omega)) (by omega) rfl) (g := (mkF m 34 #[.val (.ref a1), .val (.int (Int32.ofNat na)), .val (.int (Int32.ofNat nb)), .val (.int (Int32.ofNat i)), .val (.int d), .val (.int q), s6] [(.int (Int32.ofNat i)), (.ref a1)])) rfl rfl (hb hby d_prog_18_method_2_code_34)) ?_
          show Go FrameEnd p e below s 0 0 (Q6 Z a1 g na nb n h0) (s₁.setTop (mkF m 35 #[.val (.ref a1), .val (.int (Int32.ofNat na)), .val (.int (Int32.ofNat nb)), .val (.int (Int32.ofNat i)), .val (.int d), .val (.int q), s6] [(.int (g i))]))
          have os4 : storeLocals #[.val (.ref a1), .val (.int (Int32.ofNat na)), .val (.int (Int32.ofNat nb)), .val (.int (Int32.ofNat i)), .val (.int d), .val (.int q), s6] 6 (.int (g i)) = some #[.val (.ref a1), .val (.int (Int32.ofNat na)), .val (.int (Int32.ofNat nb)), .val (.int (Int32.ofNat i)), .val (.int d), .val (.int q), .val (.int (g i))] := by
            rcases hs6 with q | ⟨w, q, hw⟩
            · rw [q]; rfl
            · rw [q]; cases w <;> first | rfl | (simp [Value.category] at hw)
          refine Go.step (fun _ k => XS.istore X0.here hx rfl (hb hby d_prog_18_method_2_code_35) rfl os4 k) ?_
          show Go FrameEnd p e below s 0 0 (Q6 Z a1 g na nb n h0) (s₁.setTop (mkF m 37 #[.val (.ref a1), .val (.int (Int32.ofNat na)), .val (.int (Int32.ofNat nb)), .val (.int (Int32.ofNat i)), .val (.int d), .val (.int q), .val (.int (g i))] []))
          refine Go.step (fun _ k => XS.iload X0.here hx rfl (hb hby d_prog_18_method_2_code_37) rfl k) ?_
          show Go FrameEnd p e below s 0 0 (Q6 Z a1 g na nb n h0) (s₁.setTop (mkF m 39 #[.val (.ref a1), .val (.int (Int32.ofNat na)), .val (.int (Int32.ofNat nb)), .val (.int (Int32.ofNat i)), .val (.int d), .val (.int q), .val (.int (g i))] [(.int (g i))]))
          refine Go.step (fun _ k => XS.bipush X0.here hx rfl (hb hby d_prog_18_method_2_code_39) k) ?_
          show Go FrameEnd p e below s 0 0 (Q6 Z a1 g na nb n h0) (s₁.setTop (mkF m 41 #[.val (.ref a1), .val (.int (Int32.ofNat na)), .val (.int (Int32.ofNat nb)), .val (.int (Int32.ofNat i)), .val (.int d), .val (.int q), .val (.int (g i))] [(.int (48 : Int32)), (.int (g i))]))
          by_cases g1 : (g i) < (48 : Int32)
          · skip
            refine Go.step (fun _ k => XS.icmpYes X0.here hx rfl (pc0 := 41) (pc' := 57) rfl (hb hby d_prog_18_method_2_code_41) rfl (tlt g1).1 (by decide) (by decide) k) ?_
            show Go FrameEnd p e below s 0 0 (Q6 Z a1 g na nb n h0) (s₁.setTop (mkF m 57 #[.val (.ref a1), .val (.int (Int32.ofNat na)), .val (.int (Int32.ofNat nb)), .val (.int (Int32.ofNat i)), .val (.int d), .val (.int q), .val (.int (g i))] []))
            refine Go.step (fun _ k => XS.iload X0.here hx rfl (hb hby d_prog_18_method_2_code_57) rfl k) ?_
            show Go FrameEnd p e below s 0 0 (Q6 Z a1 g na nb n h0) (s₁.setTop (mkF m 59 #[.val (.ref a1), .val (.int (Int32.ofNat na)), .val (.int (Int32.ofNat nb)), .val (.int (Int32.ofNat i)), .val (.int d), .val (.int q), .val (.int (g i))] [(.int (g i))]))
            refine Go.step (fun _ k => XS.bipush X0.here hx rfl (hb hby d_prog_18_method_2_code_59) k) ?_
            show Go FrameEnd p e below s 0 0 (Q6 Z a1 g na nb n h0) (s₁.setTop (mkF m 61 #[.val (.ref a1), .val (.int (Int32.ofNat na)), .val (.int (Int32.ofNat nb)), .val (.int (Int32.ofNat i)), .val (.int d), .val (.int q), .val (.int (g i))] [(.int (46 : Int32)), (.int (g i))]))
            by_cases g3 : (g i) = (46 : Int32)
            · skip
              refine Go.step (fun _ k => XS.icmpNo X0.here hx rfl (hb hby d_prog_18_method_2_code_61) rfl (teq g3).2 k) ?_
              show Go FrameEnd p e below s 0 0 (Q6 Z a1 g na nb n h0) (s₁.setTop (mkF m 64 #[.val (.ref a1), .val (.int (Int32.ofNat na)), .val (.int (Int32.ofNat nb)), .val (.int (Int32.ofNat i)), .val (.int d), .val (.int q), .val (.int (g i))] []))
              refine Go.step (fun _ k => XS.iload X0.here hx rfl (hb hby d_prog_18_method_2_code_64) rfl k) ?_
              show Go FrameEnd p e below s 0 0 (Q6 Z a1 g na nb n h0) (s₁.setTop (mkF m 66 #[.val (.ref a1), .val (.int (Int32.ofNat na)), .val (.int (Int32.ofNat nb)), .val (.int (Int32.ofNat i)), .val (.int d), .val (.int q), .val (.int (g i))] [(.int q)]))
              by_cases g4 : q = (0 : Int32)
              · skip
                refine Go.step (fun _ k => XS.ifNo X0.here hx rfl (hb hby d_prog_18_method_2_code_66) rfl ((if0 _ _).trans (teq g4).2) k) ?_
                show Go FrameEnd p e below s 0 0 (Q6 Z a1 g na nb n h0) (s₁.setTop (mkF m 69 #[.val (.ref a1), .val (.int (Int32.ofNat na)), .val (.int (Int32.ofNat nb)), .val (.int (Int32.ofNat i)), .val (.int d), .val (.int q), .val (.int (g i))] []))
                refine Go.step (fun _ k => XS.iconst X0.here hx rfl (hb hby d_prog_18_method_2_code_69) k) ?_
                show Go FrameEnd p e below s 0 0 (Q6 Z a1 g na nb n h0) (s₁.setTop (mkF m 70 #[.val (.ref a1), .val (.int (Int32.ofNat na)), .val (.int (Int32.ofNat nb)), .val (.int (Int32.ofNat i)), .val (.int d), .val (.int q), .val (.int (g i))] [(.int (1 : Int32))]))
                refine Go.step (fun _ k => XS.istore X0.here hx rfl (hb hby d_prog_18_method_2_code_70) rfl (l' := #[.val (.ref a1), .val (.int (Int32.ofNat na)), .val (.int (Int32.ofNat nb)), .val (.int (Int32.ofNat i)), .val (.int d), .val (.int (1 : Int32)), .val (.int (g i))]) rfl k) ?_
                show Go FrameEnd p e below s 0 0 (Q6 Z a1 g na nb n h0) (s₁.setTop (mkF m 72 #[.val (.ref a1), .val (.int (Int32.ofNat na)), .val (.int (Int32.ofNat nb)), .val (.int (Int32.ofNat i)), .val (.int d), .val (.int (1 : Int32)), .val (.int (g i))] []))
                refine Go.step (fun _ k => XS.goto X0.here hx rfl (pc0 := 72) (pc' := 77) rfl (hb hby d_prog_18_method_2_code_72) (by decide) (by decide) k) ?_
                show Go FrameEnd p e below s 0 0 (Q6 Z a1 g na nb n h0) (s₁.setTop (mkF m 77 #[.val (.ref a1), .val (.int (Int32.ofNat na)), .val (.int (Int32.ofNat nb)), .val (.int (Int32.ofNat i)), .val (.int d), .val (.int (1 : Int32)), .val (.int (g i))] []))
                refine Go.step (fun _ k => XS.iinc X0.here hx rfl (hb hby d_prog_18_method_2_code_77) rfl (l' := #[.val (.ref a1), .val (.int (Int32.ofNat na)), .val (.int (Int32.ofNat nb)), .val (.int ((Int32.ofNat i) + (1 : Int32))), .val (.int d), .val (.int (1 : Int32)), .val (.int (g i))]) rfl k) ?_
                show Go FrameEnd p e below s 0 0 (Q6 Z a1 g na nb n h0) (s₁.setTop (mkF m 80 #[.val (.ref a1), .val (.int (Int32.ofNat na)), .val (.int (Int32.ofNat nb)), .val (.int ((Int32.ofNat i) + (1 : Int32))), .val (.int d), .val (.int (1 : Int32)), .val (.int (g i))] []))
                refine Go.step (fun _ k => XS.goto X0.here hx rfl (pc0 := 80) (pc' := 27) rfl (hb hby d_prog_18_method_2_code_80) (by decide) (by decide) k) ?_
                show Go FrameEnd p e below s 0 0 (Q6 Z a1 g na nb n h0) (s₁.setTop (mkF m 27 #[.val (.ref a1), .val (.int (Int32.ofNat na)), .val (.int (Int32.ofNat nb)), .val (.int ((Int32.ofNat i) + (1 : Int32))), .val (.int d), .val (.int (1 : Int32)), .val (.int (g i))] []))
                rw [own_of1]
                exact ih (i + 1) d (1 : Int32) (.val (.int (g i))) (by omega) (One.val rfl) (by assumption) (by decide) (hR.trans (by first | contradiction | simp only [vloop, eq_true h1, eq_true h2, eq_true g1, eq_true g3, eq_true g4, true_or, or_true, false_or, or_false, or_self, true_and, and_true, false_and, and_false, and_self, not_true_eq_false, not_false_eq_true, if_true, if_false]))
              · skip
                refine Go.step (fun _ k => XS.ifYes X0.here hx rfl (pc0 := 66) (pc' := 75) rfl (hb hby d_prog_18_method_2_code_66) rfl ((if0 _ _).trans (feq g4).2) (by decide) (by decide) k) ?_
                show Go FrameEnd p e below s 0 0 (Q6 Z a1 g na nb n h0) (s₁.setTop (mkF m 75 #[.val (.ref a1), .val (.int (Int32.ofNat na)), .val (.int (Int32.ofNat nb)), .val (.int (Int32.ofNat i)), .val (.int d), .val (.int q), .val (.int (g i))] []))
                refine Go.step (fun _ k => XS.iconst X0.here hx rfl (hb hby d_prog_18_method_2_code_75) k) ?_
                show Go FrameEnd p e below s 0 0 (Q6 Z a1 g na nb n h0) (s₁.setTop (mkF m 76 #[.val (.ref a1), .val (.int (Int32.ofNat na)), .val (.int (Int32.ofNat nb)), .val (.int (Int32.ofNat i)), .val (.int d), .val (.int q), .val (.int (g i))] [(.int (0 : Int32))]))
                refine Go.retN X0 hx (t := .boolean) Bd.returns (by simp) (by decide) (hb hby d_prog_18_method_2_code_76) (BodyLoose.notSynchronized Bd) e0 (by decide) (by decide) ?_
                exact ⟨by rw [hR]; (first | contradiction | simp only [vloop, eq_true h1, eq_true h2, eq_true g1, eq_true g3, eq_false g4, true_or, or_true, false_or, or_false, or_self, true_and, and_true, false_and, and_false, and_self, not_true_eq_false, not_false_eq_true, if_true, if_false]), rfl, rfl⟩
            · skip
              refine Go.step (fun _ k => XS.icmpYes X0.here hx rfl (pc0 := 61) (pc' := 75) rfl (hb hby d_prog_18_method_2_code_61) rfl (feq g3).2 (by decide) (by decide) k) ?_
              show Go FrameEnd p e below s 0 0 (Q6 Z a1 g na nb n h0) (s₁.setTop (mkF m 75 #[.val (.ref a1), .val (.int (Int32.ofNat na)), .val (.int (Int32.ofNat nb)), .val (.int (Int32.ofNat i)), .val (.int d), .val (.int q), .val (.int (g i))] []))
              refine Go.step (fun _ k => XS.iconst X0.here hx rfl (hb hby d_prog_18_method_2_code_75) k) ?_
              show Go FrameEnd p e below s 0 0 (Q6 Z a1 g na nb n h0) (s₁.setTop (mkF m 76 #[.val (.ref a1), .val (.int (Int32.ofNat na)), .val (.int (Int32.ofNat nb)), .val (.int (Int32.ofNat i)), .val (.int d), .val (.int q), .val (.int (g i))] [(.int (0 : Int32))]))
              refine Go.retN X0 hx (t := .boolean) Bd.returns (by simp) (by decide) (hb hby d_prog_18_method_2_code_76) (BodyLoose.notSynchronized Bd) e0 (by decide) (by decide) ?_
              exact ⟨by rw [hR]; (first | contradiction | simp only [vloop, eq_true h1, eq_true h2, eq_true g1, eq_false g3, true_or, or_true, false_or, or_false, or_self, true_and, and_true, false_and, and_false, and_self, not_true_eq_false, not_false_eq_true, if_true, if_false]), rfl, rfl⟩
          · skip
            refine Go.step (fun _ k => XS.icmpNo X0.here hx rfl (hb hby d_prog_18_method_2_code_41) rfl (flt g1).1 k) ?_
            show Go FrameEnd p e below s 0 0 (Q6 Z a1 g na nb n h0) (s₁.setTop (mkF m 44 #[.val (.ref a1), .val (.int (Int32.ofNat na)), .val (.int (Int32.ofNat nb)), .val (.int (Int32.ofNat i)), .val (.int d), .val (.int q), .val (.int (g i))] []))
            refine Go.step (fun _ k => XS.iload X0.here hx rfl (hb hby d_prog_18_method_2_code_44) rfl k) ?_
            show Go FrameEnd p e below s 0 0 (Q6 Z a1 g na nb n h0) (s₁.setTop (mkF m 46 #[.val (.ref a1), .val (.int (Int32.ofNat na)), .val (.int (Int32.ofNat nb)), .val (.int (Int32.ofNat i)), .val (.int d), .val (.int q), .val (.int (g i))] [(.int (g i))]))
            refine Go.step (fun _ k => XS.bipush X0.here hx rfl (hb hby d_prog_18_method_2_code_46) k) ?_
            show Go FrameEnd p e below s 0 0 (Q6 Z a1 g na nb n h0) (s₁.setTop (mkF m 48 #[.val (.ref a1), .val (.int (Int32.ofNat na)), .val (.int (Int32.ofNat nb)), .val (.int (Int32.ofNat i)), .val (.int d), .val (.int q), .val (.int (g i))] [(.int (57 : Int32)), (.int (g i))]))
            by_cases g2 : (57 : Int32) < (g i)
            · skip
              refine Go.step (fun _ k => XS.icmpYes X0.here hx rfl (pc0 := 48) (pc' := 57) rfl (hb hby d_prog_18_method_2_code_48) rfl (tlt g2).2.2.1 (by decide) (by decide) k) ?_
              show Go FrameEnd p e below s 0 0 (Q6 Z a1 g na nb n h0) (s₁.setTop (mkF m 57 #[.val (.ref a1), .val (.int (Int32.ofNat na)), .val (.int (Int32.ofNat nb)), .val (.int (Int32.ofNat i)), .val (.int d), .val (.int q), .val (.int (g i))] []))
              refine Go.step (fun _ k => XS.iload X0.here hx rfl (hb hby d_prog_18_method_2_code_57) rfl k) ?_
              show Go FrameEnd p e below s 0 0 (Q6 Z a1 g na nb n h0) (s₁.setTop (mkF m 59 #[.val (.ref a1), .val (.int (Int32.ofNat na)), .val (.int (Int32.ofNat nb)), .val (.int (Int32.ofNat i)), .val (.int d), .val (.int q), .val (.int (g i))] [(.int (g i))]))
              refine Go.step (fun _ k => XS.bipush X0.here hx rfl (hb hby d_prog_18_method_2_code_59) k) ?_
              show Go FrameEnd p e below s 0 0 (Q6 Z a1 g na nb n h0) (s₁.setTop (mkF m 61 #[.val (.ref a1), .val (.int (Int32.ofNat na)), .val (.int (Int32.ofNat nb)), .val (.int (Int32.ofNat i)), .val (.int d), .val (.int q), .val (.int (g i))] [(.int (46 : Int32)), (.int (g i))]))
              by_cases g3 : (g i) = (46 : Int32)
              · skip
                refine Go.step (fun _ k => XS.icmpNo X0.here hx rfl (hb hby d_prog_18_method_2_code_61) rfl (teq g3).2 k) ?_
                show Go FrameEnd p e below s 0 0 (Q6 Z a1 g na nb n h0) (s₁.setTop (mkF m 64 #[.val (.ref a1), .val (.int (Int32.ofNat na)), .val (.int (Int32.ofNat nb)), .val (.int (Int32.ofNat i)), .val (.int d), .val (.int q), .val (.int (g i))] []))
                refine Go.step (fun _ k => XS.iload X0.here hx rfl (hb hby d_prog_18_method_2_code_64) rfl k) ?_
                show Go FrameEnd p e below s 0 0 (Q6 Z a1 g na nb n h0) (s₁.setTop (mkF m 66 #[.val (.ref a1), .val (.int (Int32.ofNat na)), .val (.int (Int32.ofNat nb)), .val (.int (Int32.ofNat i)), .val (.int d), .val (.int q), .val (.int (g i))] [(.int q)]))
                by_cases g4 : q = (0 : Int32)
                · skip
                  refine Go.step (fun _ k => XS.ifNo X0.here hx rfl (hb hby d_prog_18_method_2_code_66) rfl ((if0 _ _).trans (teq g4).2) k) ?_
                  show Go FrameEnd p e below s 0 0 (Q6 Z a1 g na nb n h0) (s₁.setTop (mkF m 69 #[.val (.ref a1), .val (.int (Int32.ofNat na)), .val (.int (Int32.ofNat nb)), .val (.int (Int32.ofNat i)), .val (.int d), .val (.int q), .val (.int (g i))] []))
                  refine Go.step (fun _ k => XS.iconst X0.here hx rfl (hb hby d_prog_18_method_2_code_69) k) ?_
                  show Go FrameEnd p e below s 0 0 (Q6 Z a1 g na nb n h0) (s₁.setTop (mkF m 70 #[.val (.ref a1), .val (.int (Int32.ofNat na)), .val (.int (Int32.ofNat nb)), .val (.int (Int32.ofNat i)), .val (.int d), .val (.int q), .val (.int (g i))] [(.int (1 : Int32))]))
                  refine Go.step (fun _ k => XS.istore X0.here hx rfl (hb hby d_prog_18_method_2_code_70) rfl (l' := #[.val (.ref a1), .val (.int (Int32.ofNat na)), .val (.int (Int32.ofNat nb)), .val (.int (Int32.ofNat i)), .val (.int d), .val (.int (1 : Int32)), .val (.int (g i))]) rfl k) ?_
                  show Go FrameEnd p e below s 0 0 (Q6 Z a1 g na nb n h0) (s₁.setTop (mkF m 72 #[.val (.ref a1), .val (.int (Int32.ofNat na)), .val (.int (Int32.ofNat nb)), .val (.int (Int32.ofNat i)), .val (.int d), .val (.int (1 : Int32)), .val (.int (g i))] []))
                  refine Go.step (fun _ k => XS.goto X0.here hx rfl (pc0 := 72) (pc' := 77) rfl (hb hby d_prog_18_method_2_code_72) (by decide) (by decide) k) ?_
                  show Go FrameEnd p e below s 0 0 (Q6 Z a1 g na nb n h0) (s₁.setTop (mkF m 77 #[.val (.ref a1), .val (.int (Int32.ofNat na)), .val (.int (Int32.ofNat nb)), .val (.int (Int32.ofNat i)), .val (.int d), .val (.int (1 : Int32)), .val (.int (g i))] []))
                  refine Go.step (fun _ k => XS.iinc X0.here hx rfl (hb hby d_prog_18_method_2_code_77) rfl (l' := #[.val (.ref a1), .val (.int (Int32.ofNat na)), .val (.int (Int32.ofNat nb)), .val (.int ((Int32.ofNat i) + (1 : Int32))), .val (.int d), .val (.int (1 : Int32)), .val (.int (g i))]) rfl k) ?_
                  show Go FrameEnd p e below s 0 0 (Q6 Z a1 g na nb n h0) (s₁.setTop (mkF m 80 #[.val (.ref a1), .val (.int (Int32.ofNat na)), .val (.int (Int32.ofNat nb)), .val (.int ((Int32.ofNat i) + (1 : Int32))), .val (.int d), .val (.int (1 : Int32)), .val (.int (g i))] []))
                  refine Go.step (fun _ k => XS.goto X0.here hx rfl (pc0 := 80) (pc' := 27) rfl (hb hby d_prog_18_method_2_code_80) (by decide) (by decide) k) ?_
                  show Go FrameEnd p e below s 0 0 (Q6 Z a1 g na nb n h0) (s₁.setTop (mkF m 27 #[.val (.ref a1), .val (.int (Int32.ofNat na)), .val (.int (Int32.ofNat nb)), .val (.int ((Int32.ofNat i) + (1 : Int32))), .val (.int d), .val (.int (1 : Int32)), .val (.int (g i))] []))
                  rw [own_of1]
                  exact ih (i + 1) d (1 : Int32) (.val (.int (g i))) (by omega) (One.val rfl) (by assumption) (by decide) (hR.trans (by first | contradiction | simp only [vloop, eq_true h1, eq_true h2, eq_false g1, eq_true g2, eq_true g3, eq_true g4, true_or, or_true, false_or, or_false, or_self, true_and, and_true, false_and, and_false, and_self, not_true_eq_false, not_false_eq_true, if_true, if_false]))
                · skip
                  refine Go.step (fun _ k => XS.ifYes X0.here hx rfl (pc0 := 66) (pc' := 75) rfl (hb hby d_prog_18_method_2_code_66) rfl ((if0 _ _).trans (feq g4).2) (by decide) (by decide) k) ?_
                  show Go FrameEnd p e below s 0 0 (Q6 Z a1 g na nb n h0) (s₁.setTop (mkF m 75 #[.val (.ref a1), .val (.int (Int32.ofNat na)), .val (.int (Int32.ofNat nb)), .val (.int (Int32.ofNat i)), .val (.int d), .val (.int q), .val (.int (g i))] []))
                  refine Go.step (fun _ k => XS.iconst X0.here hx rfl (hb hby d_prog_18_method_2_code_75) k) ?_
                  show Go FrameEnd p e below s 0 0 (Q6 Z a1 g na nb n h0) (s₁.setTop (mkF m 76 #[.val (.ref a1), .val (.int (Int32.ofNat na)), .val (.int (Int32.ofNat nb)), .val (.int (Int32.ofNat i)), .val (.int d), .val (.int q), .val (.int (g i))] [(.int (0 : Int32))]))
                  refine Go.retN X0 hx (t := .boolean) Bd.returns (by simp) (by decide) (hb hby d_prog_18_method_2_code_76) (BodyLoose.notSynchronized Bd) e0 (by decide) (by decide) ?_
                  exact ⟨by rw [hR]; (first | contradiction | simp only [vloop, eq_true h1, eq_true h2, eq_false g1, eq_true g2, eq_true g3, eq_false g4, true_or, or_true, false_or, or_false, or_self, true_and, and_true, false_and, and_false, and_self, not_true_eq_false, not_false_eq_true, if_true, if_false]), rfl, rfl⟩
              · skip
                refine Go.step (fun _ k => XS.icmpYes X0.here hx rfl (pc0 := 61) (pc' := 75) rfl (hb hby d_prog_18_method_2_code_61) rfl (feq g3).2 (by decide) (by decide) k) ?_
                show Go FrameEnd p e below s 0 0 (Q6 Z a1 g na nb n h0) (s₁.setTop (mkF m 75 #[.val (.ref a1), .val (.int (Int32.ofNat na)), .val (.int (Int32.ofNat nb)), .val (.int (Int32.ofNat i)), .val (.int d), .val (.int q), .val (.int (g i))] []))
                refine Go.step (fun _ k => XS.iconst X0.here hx rfl (hb hby d_prog_18_method_2_code_75) k) ?_
                show Go FrameEnd p e below s 0 0 (Q6 Z a1 g na nb n h0) (s₁.setTop (mkF m 76 #[.val (.ref a1), .val (.int (Int32.ofNat na)), .val (.int (Int32.ofNat nb)), .val (.int (Int32.ofNat i)), .val (.int d), .val (.int q), .val (.int (g i))] [(.int (0 : Int32))]))
                refine Go.retN X0 hx (t := .boolean) Bd.returns (by simp) (by decide) (hb hby d_prog_18_method_2_code_76) (BodyLoose.notSynchronized Bd) e0 (by decide) (by decide) ?_
                exact ⟨by rw [hR]; (first | contradiction | simp only [vloop, eq_true h1, eq_true h2, eq_false g1, eq_true g2, eq_false g3, true_or, or_true, false_or, or_false, or_self, true_and, and_true, false_and, and_false, and_self, not_true_eq_false, not_false_eq_true, if_true, if_false]), rfl, rfl⟩
            · skip
              refine Go.step (fun _ k => XS.icmpNo X0.here hx rfl (hb hby d_prog_18_method_2_code_48) rfl (flt g2).2.2.1 k) ?_
              show Go FrameEnd p e below s 0 0 (Q6 Z a1 g na nb n h0) (s₁.setTop (mkF m 51 #[.val (.ref a1), .val (.int (Int32.ofNat na)), .val (.int (Int32.ofNat nb)), .val (.int (Int32.ofNat i)), .val (.int d), .val (.int q), .val (.int (g i))] []))
              refine Go.step (fun _ k => XS.iconst X0.here hx rfl (hb hby d_prog_18_method_2_code_51) k) ?_
              show Go FrameEnd p e below s 0 0 (Q6 Z a1 g na nb n h0) (s₁.setTop (mkF m 52 #[.val (.ref a1), .val (.int (Int32.ofNat na)), .val (.int (Int32.ofNat nb)), .val (.int (Int32.ofNat i)), .val (.int d), .val (.int q), .val (.int (g i))] [(.int (1 : Int32))]))
              refine Go.step (fun _ k => XS.istore X0.here hx rfl (hb hby d_prog_18_method_2_code_52) rfl (l' := #[.val (.ref a1), .val (.int (Int32.ofNat na)), .val (.int (Int32.ofNat nb)), .val (.int (Int32.ofNat i)), .val (.int (1 : Int32)), .val (.int q), .val (.int (g i))]) rfl k) ?_
              show Go FrameEnd p e below s 0 0 (Q6 Z a1 g na nb n h0) (s₁.setTop (mkF m 54 #[.val (.ref a1), .val (.int (Int32.ofNat na)), .val (.int (Int32.ofNat nb)), .val (.int (Int32.ofNat i)), .val (.int (1 : Int32)), .val (.int q), .val (.int (g i))] []))
              refine Go.step (fun _ k => XS.goto X0.here hx rfl (pc0 := 54) (pc' := 77) rfl (hb hby d_prog_18_method_2_code_54) (by decide) (by decide) k) ?_
              show Go FrameEnd p e below s 0 0 (Q6 Z a1 g na nb n h0) (s₁.setTop (mkF m 77 #[.val (.ref a1), .val (.int (Int32.ofNat na)), .val (.int (Int32.ofNat nb)), .val (.int (Int32.ofNat i)), .val (.int (1 : Int32)), .val (.int q), .val (.int (g i))] []))
              refine Go.step (fun _ k => XS.iinc X0.here hx rfl (hb hby d_prog_18_method_2_code_77) rfl (l' := #[.val (.ref a1), .val (.int (Int32.ofNat na)), .val (.int (Int32.ofNat nb)), .val (.int ((Int32.ofNat i) + (1 : Int32))), .val (.int (1 : Int32)), .val (.int q), .val (.int (g i))]) rfl k) ?_
              show Go FrameEnd p e below s 0 0 (Q6 Z a1 g na nb n h0) (s₁.setTop (mkF m 80 #[.val (.ref a1), .val (.int (Int32.ofNat na)), .val (.int (Int32.ofNat nb)), .val (.int ((Int32.ofNat i) + (1 : Int32))), .val (.int (1 : Int32)), .val (.int q), .val (.int (g i))] []))
              refine Go.step (fun _ k => XS.goto X0.here hx rfl (pc0 := 80) (pc' := 27) rfl (hb hby d_prog_18_method_2_code_80) (by decide) (by decide) k) ?_
              show Go FrameEnd p e below s 0 0 (Q6 Z a1 g na nb n h0) (s₁.setTop (mkF m 27 #[.val (.ref a1), .val (.int (Int32.ofNat na)), .val (.int (Int32.ofNat nb)), .val (.int ((Int32.ofNat i) + (1 : Int32))), .val (.int (1 : Int32)), .val (.int q), .val (.int (g i))] []))
              rw [own_of1]
              exact ih (i + 1) (1 : Int32) q (.val (.int (g i))) (by omega) (One.val rfl) (by decide) (by assumption) (hR.trans (by first | contradiction | simp only [vloop, eq_true h1, eq_true h2, eq_false g1, eq_false g2, true_or, or_true, false_or, or_false, or_self, true_and, and_true, false_and, and_false, and_self, not_true_eq_false, not_false_eq_true, if_true, if_false]))
      show Go FrameEnd p e below s 0 0 (Q6 Z a1 g na nb n h0) (s₁.setTop (mkF m 27 #[.val (.ref a1), .val (.int (Int32.ofNat na)), .val (.int (Int32.ofNat nb)), .val (.int (Int32.ofNat (na + 1))), .val (.int (0 : Int32)), .val (.int (0 : Int32)), .unset] []))
      exact W27_2 (nb - (na + 1)) (na + 1) (0 : Int32) (0 : Int32) (.unset) (by omega) One.u (by decide) (by decide) (by unfold validF; rw [if_pos ⟨(own_lt (by omega) (by omega)).mp h1, h2⟩])
    · skip
      refine Go.step (fun _ k => XS.icmpYes X0.here hx rfl (pc0 := 10) (pc' := 19) rfl (hb hby d_prog_18_method_2_code_10) rfl (feq h2).2 (by decide) (by decide) k) ?_
      show Go FrameEnd p e below s 0 0 (Q6 Z a1 g na nb n h0) (s₁.setTop (mkF m 19 #[.val (.ref a1), .val (.int (Int32.ofNat na)), .val (.int (Int32.ofNat nb)), .unset, .unset, .unset, .unset] []))
      refine Go.step (fun _ k => XS.iloadN X0.here hx rfl (hb hby d_prog_18_method_2_code_19) rfl k) ?_
      show Go FrameEnd p e below s 0 0 (Q6 Z a1 g na nb n h0) (s₁.setTop (mkF m 20 #[.val (.ref a1), .val (.int (Int32.ofNat na)), .val (.int (Int32.ofNat nb)), .unset, .unset, .unset, .unset] [(.int (Int32.ofNat na))]))
      refine Go.step (fun _ k => XS.istoreN X0.here hx rfl (hb hby d_prog_18_method_2_code_20) rfl (l' := #[.val (.ref a1), .val (.int (Int32.ofNat na)), .val (.int (Int32.ofNat nb)), .val (.int (Int32.ofNat na)), .unset, .unset, .unset]) rfl k) ?_
      show Go FrameEnd p e below s 0 0 (Q6 Z a1 g na nb n h0) (s₁.setTop (mkF m 21 #[.val (.ref a1), .val (.int (Int32.ofNat na)), .val (.int (Int32.ofNat nb)), .val (.int (Int32.ofNat na)), .unset, .unset, .unset] []))
      refine Go.step (fun _ k => XS.iconst X0.here hx rfl (hb hby d_prog_18_method_2_code_21) k) ?_
      show Go FrameEnd p e below s 0 0 (Q6 Z a1 g na nb n h0) (s₁.setTop (mkF m 22 #[.val (.ref a1), .val (.int (Int32.ofNat na)), .val (.int (Int32.ofNat nb)), .val (.int (Int32.ofNat na)), .unset, .unset, .unset] [(.int (0 : Int32))]))
      refine Go.step (fun _ k => XS.istore X0.here hx rfl (hb hby d_prog_18_method_2_code_22) rfl (l' := #[.val (.ref a1), .val (.int (Int32.ofNat na)), .val (.int (Int32.ofNat nb)), .val (.int (Int32.ofNat na)), .val (.int (0 : Int32)), .unset, .unset]) rfl k) ?_
      show Go FrameEnd p e below s 0 0 (Q6 Z a1 g na nb n h0) (s₁.setTop (mkF m 24 #[.val (.ref a1), .val (.int (Int32.ofNat na)), .val (.int (Int32.ofNat nb)), .val (.int (Int32.ofNat na)), .val (.int (0 : Int32)), .unset, .unset] []))
      refine Go.step (fun _ k => XS.iconst X0.here hx rfl (hb hby d_prog_18_method_2_code_24) k) ?_
      show Go FrameEnd p e below s 0 0 (Q6 Z a1 g na nb n h0) (s₁.setTop (mkF m 25 #[.val (.ref a1), .val (.int (Int32.ofNat na)), .val (.int (Int32.ofNat nb)), .val (.int (Int32.ofNat na)), .val (.int (0 : Int32)), .unset, .unset] [(.int (0 : Int32))]))
      refine Go.step (fun _ k => XS.istore X0.here hx rfl (hb hby d_prog_18_method_2_code_25) rfl (l' := #[.val (.ref a1), .val (.int (Int32.ofNat na)), .val (.int (Int32.ofNat nb)), .val (.int (Int32.ofNat na)), .val (.int (0 : Int32)), .val (.int (0 : Int32)), .unset]) rfl k) ?_
      show Go FrameEnd p e below s 0 0 (Q6 Z a1 g na nb n h0) (s₁.setTop (mkF m 27 #[.val (.ref a1), .val (.int (Int32.ofNat na)), .val (.int (Int32.ofNat nb)), .val (.int (Int32.ofNat na)), .val (.int (0 : Int32)), .val (.int (0 : Int32)), .unset] []))
      have W27_5 : ∀ k : Nat, ∀ (i : Nat), ∀ (d : Int32), ∀ (q : Int32), ∀ (s6 : Slot), (i + k = nb) → (One s6) → (nar .boolean d = d) → (nar .boolean q = q) → (validF g na nb = vloop g k i d q) → Go FrameEnd p e below s 0 0 (Q6 Z a1 g na nb n h0) (s₁.setTop (mkF m 27 #[.val (.ref a1), .val (.int (Int32.ofNat na)), .val (.int (Int32.ofNat nb)), .val (.int (Int32.ofNat i)), .val (.int d), .val (.int q), s6] [])) := by
        intro k
        induction k with
        | zero =>
          intro i d q s6 hi hs6 hd hq hR
          show Go FrameEnd p e below s 0 0 (Q6 Z a1 g na nb n h0) (s₁.setTop (mkF m 27 #[.val (.ref a1), .val (.int (Int32.ofNat na)), .val (.int (Int32.ofNat nb)), .val (.int (Int32.ofNat i)), .val (.int d), .val (.int q), s6] []))
          refine Go.step (fun _ k => XS.iloadN X0.here hx rfl (hb hby d_prog_18_method_2_code_27) rfl k) ?_
          show Go FrameEnd p e below s 0 0 (Q6 Z a1 g na nb n h0) (s₁.setTop (mkF m 28 #[.val (.ref a1), .val (.int (Int32.ofNat na)), .val (.int (Int32.ofNat nb)), .val (.int (Int32.ofNat i)), .val (.int d), .val (.int q), s6] [(.int (Int32.ofNat i))]))
          refine Go.step (fun _ k => XS.iloadN X0.here hx rfl (hb hby d_prog_18_method_2_code_28) rfl k) ?_
          show Go FrameEnd p e below s 0 0 (Q6 Z a1 g na nb n h0) (s₁.setTop (mkF m 29 #[.val (.ref a1), .val (.int (Int32.ofNat na)), .val (.int (Int32.ofNat nb)), .val (.int (Int32.ofNat i)), .val (.int d), .val (.int q), s6] [(.int (Int32.ofNat nb)), (.int (Int32.ofNat i))]))
          refine Go.step (fun _ k => XS.icmpYes X0.here hx rfl (pc0 := 29) (pc' := 83) rfl (hb hby d_prog_18_method_2_code_29) rfl (flt (by rw [own_lt (by omega) (by omega)]; omega)).2.1 (by decide) (by decide) k) ?_
          show Go FrameEnd p e below s 0 0 (Q6 Z a1 g na nb n h0) (s₁.setTop (mkF m 83 #[.val (.ref a1), .val (.int (Int32.ofNat na)), .val (.int (Int32.ofNat nb)), .val (.int (Int32.ofNat i)), .val (.int d), .val (.int q), s6] []))
          refine Go.step (fun _ k => XS.iload X0.here hx rfl (hb hby d_prog_18_method_2_code_83) rfl k) ?_
          show Go FrameEnd p e below s 0 0 (Q6 Z a1 g na nb n h0) (s₁.setTop (mkF m 85 #[.val (.ref a1), .val (.int (Int32.ofNat na)), .val (.int (Int32.ofNat nb)), .val (.int (Int32.ofNat i)), .val (.int d), .val (.int q), s6] [(.int d)]))
          refine Go.retN X0 hx (t := .boolean) Bd.returns (by simp) hd (hb hby d_prog_18_method_2_code_85) (BodyLoose.notSynchronized Bd) e0 (by decide) (by decide) ?_
          exact ⟨by rw [hR]; rfl, rfl, rfl⟩
        | succ k ih =>
          intro i d q s6 hi hs6 hd hq hR
          show Go FrameEnd p e below s 0 0 (Q6 Z a1 g na nb n h0) (s₁.setTop (mkF m 27 #[.val (.ref a1), .val (.int (Int32.ofNat na)), .val (.int (Int32.ofNat nb)), .val (.int (Int32.ofNat i)), .val (.int d), .val (.int q), s6] []))
          refine Go.step (fun _ k => XS.iloadN X0.here hx rfl (hb hby d_prog_18_method_2_code_27) rfl k) ?_
          show Go FrameEnd p e below s 0 0 (Q6 Z a1 g na nb n h0) (s₁.setTop (mkF m 28 #[.val (.ref a1), .val (.int (Int32.ofNat na)), .val (.int (Int32.ofNat nb)), .val (.int (Int32.ofNat i)), .val (.int d), .val (.int q), s6] [(.int (Int32.ofNat i))]))
          refine Go.step (fun _ k => XS.iloadN X0.here hx rfl (hb hby d_prog_18_method_2_code_28) rfl k) ?_
          show Go FrameEnd p e below s 0 0 (Q6 Z a1 g na nb n h0) (s₁.setTop (mkF m 29 #[.val (.ref a1), .val (.int (Int32.ofNat na)), .val (.int (Int32.ofNat nb)), .val (.int (Int32.ofNat i)), .val (.int d), .val (.int q), s6] [(.int (Int32.ofNat nb)), (.int (Int32.ofNat i))]))
          refine Go.step (fun _ k => XS.icmpNo X0.here hx rfl (hb hby d_prog_18_method_2_code_29) rfl (tlt (by rw [own_lt (by omega) (by omega)]; omega)).2.1 k) ?_
          show Go FrameEnd p e below s 0 0 (Q6 Z a1 g na nb n h0) (s₁.setTop (mkF m 32 #[.val (.ref a1), .val (.int (Int32.ofNat na)), .val (.int (Int32.ofNat nb)), .val (.int (Int32.ofNat i)), .val (.int d), .val (.int q), s6] []))
          refine Go.step (fun _ k => XS.aloadN X0.here hx rfl (hb hby d_prog_18_method_2_code_32) rfl rfl k) ?_
          show Go FrameEnd p e below s 0 0 (Q6 Z a1 g na nb n h0) (s₁.setTop (mkF m 33 #[.val (.ref a1), .val (.int (Int32.ofNat na)), .val (.int (Int32.ofNat nb)), .val (.int (Int32.ofNat i)), .val (.int d), .val (.int q), s6] [(.ref a1)]))
          refine Go.step (fun _ k => XS.iloadN X0.here hx rfl (hb hby d_prog_18_method_2_code_33) rfl k) ?_
          show Go FrameEnd p e below s 0 0 (Q6 Z a1 g na nb n h0) (s₁.setTop (mkF m 34 #[.val (.ref a1), .val (.int (Int32.ofNat na)), .val (.int (Int32.ofNat nb)), .val (.int (Int32.ofNat i)), .val (.int d), .val (.int q), s6] [(.int (Int32.ofNat i)), (.ref a1)]))
          obtain ⟨c6, Ac6, Sc6, Mc6, Gc6⟩ := id V_a1
          refine Go.step (X0.baloadBytes hx (j := (Int32.ofNat i)) (v := (.int (g i))) (by rw [e0]; exact Ac6.1) (State.isArrayOf_alike hZ.alike Ac6.2.1) Ac6.2.2 (own_in Sc6 (own_nn (by omega)) (by rw [own_cl (by omega)]; omega)) (Av.at (i := i) Gc6 (own_cl (by omega)) (by omega) rfl) (g := (mkF m 34 #[.val (.ref a1), .val (.int (Int32.ofNat na)), .val (.int (Int32.ofNat nb)), .val (.int (Int32.ofNat i)), .val (.int d), .val (.int q), s6] [(.int (Int32.ofNat i)), (.ref a1)])) rfl rfl (hb hby d_prog_18_method_2_code_34)) ?_
          show Go FrameEnd p e below s 0 0 (Q6 Z a1 g na nb n h0) (s₁.setTop (mkF m 35 #[.val (.ref a1), .val (.int (Int32.ofNat na)), .val (.int (Int32.ofNat nb)), .val (.int (Int32.ofNat i)), .val (.int d), .val (.int q), s6] [(.int (g i))]))
          have os7 : storeLocals #[.val (.ref a1), .val (.int (Int32.ofNat na)), .val (.int (Int32.ofNat nb)), .val (.int (Int32.ofNat i)), .val (.int d), .val (.int q), s6] 6 (.int (g i)) = some #[.val (.ref a1), .val (.int (Int32.ofNat na)), .val (.int (Int32.ofNat nb)), .val (.int (Int32.ofNat i)), .val (.int d), .val (.int q), .val (.int (g i))] := by
            rcases hs6 with q | ⟨w, q, hw⟩
            · rw [q]; rfl
            · rw [q]; cases w <;> first | rfl | (simp [Value.category] at hw)
          refine Go.step (fun _ k => XS.istore X0.here hx rfl (hb hby d_prog_18_method_2_code_35) rfl os7 k) ?_
          show Go FrameEnd p e below s 0 0 (Q6 Z a1 g na nb n h0) (s₁.setTop (mkF m 37 #[.val (.ref a1), .val (.int (Int32.ofNat na)), .val (.int (Int32.ofNat nb)), .val (.int (Int32.ofNat i)), .val (.int d), .val (.int q), .val (.int (g i))] []))
          refine Go.step (fun _ k => XS.iload X0.here hx rfl (hb hby d_prog_18_method_2_code_37) rfl k) ?_
          show Go FrameEnd p e below s 0 0 (Q6 Z a1 g na nb n h0) (s₁.setTop (mkF m 39 #[.val (.ref a1), .val (.int (Int32.ofNat na)), .val (.int (Int32.ofNat nb)), .val (.int (Int32.ofNat i)), .val (.int d), .val (.int q), .val (.int (g i))] [(.int (g i))]))
          refine Go.step (fun _ k => XS.bipush X0.here hx rfl (hb hby d_prog_18_method_2_code_39) k) ?_
          show Go FrameEnd p e below s 0 0 (Q6 Z a1 g na nb n h0) (s₁.setTop (mkF m 41 #[.val (.ref a1), .val (.int (Int32.ofNat na)), .val (.int (Int32.ofNat nb)), .val (.int (Int32.ofNat i)), .val (.int d), .val (.int q), .val (.int (g i))] [(.int (48 : Int32)), (.int (g i))]))
          by_cases g1 : (g i) < (48 : Int32)
          · skip
            refine Go.step (fun _ k => XS.icmpYes X0.here hx rfl (pc0 := 41) (pc' := 57) rfl (hb hby d_prog_18_method_2_code_41) rfl (tlt g1).1 (by decide) (by decide) k) ?_
            show Go FrameEnd p e below s 0 0 (Q6 Z a1 g na nb n h0) (s₁.setTop (mkF m 57 #[.val (.ref a1), .val (.int (Int32.ofNat na)), .val (.int (Int32.ofNat nb)), .val (.int (Int32.ofNat i)), .val (.int d), .val (.int q), .val (.int (g i))] []))
            refine Go.step (fun _ k => XS.iload X0.here hx rfl (hb hby d_prog_18_method_2_code_57) rfl k) ?_
            show Go FrameEnd p e below s 0 0 (Q6 Z a1 g na nb n h0) (s₁.setTop (mkF m 59 #[.val (.ref a1), .val (.int (Int32.ofNat na)), .val (.int (Int32.ofNat nb)), .val (.int (Int32.ofNat i)), .val (.int d), .val (.int q), .val (.int (g i))] [(.int (g i))]))
            refine Go.step (fun _ k => XS.bipush X0.here hx rfl (hb hby d_prog_18_method_2_code_59) k) ?_
            show Go FrameEnd p e below s 0 0 (Q6 Z a1 g na nb n h0) (s₁.setTop (mkF m 61 #[.val (.ref a1), .val (.int (Int32.ofNat na)), .val (.int (Int32.ofNat nb)), .val (.int (Int32.ofNat i)), .val (.int d), .val (.int q), .val (.int (g i))] [(.int (46 : Int32)), (.int (g i))]))
            by_cases g3 : (g i) = (46 : Int32)
            · skip
              refine Go.step (fun _ k => XS.icmpNo X0.here hx rfl (hb hby d_prog_18_method_2_code_61) rfl (teq g3).2 k) ?_
              show Go FrameEnd p e below s 0 0 (Q6 Z a1 g na nb n h0) (s₁.setTop (mkF m 64 #[.val (.ref a1), .val (.int (Int32.ofNat na)), .val (.int (Int32.ofNat nb)), .val (.int (Int32.ofNat i)), .val (.int d), .val (.int q), .val (.int (g i))] []))
              refine Go.step (fun _ k => XS.iload X0.here hx rfl (hb hby d_prog_18_method_2_code_64) rfl k) ?_
              show Go FrameEnd p e below s 0 0 (Q6 Z a1 g na nb n h0) (s₁.setTop (mkF m 66 #[.val (.ref a1), .val (.int (Int32.ofNat na)), .val (.int (Int32.ofNat nb)), .val (.int (Int32.ofNat i)), .val (.int d), .val (.int q), .val (.int (g i))] [(.int q)]))
              by_cases g4 : q = (0 : Int32)
              · skip
                refine Go.step (fun _ k => XS.ifNo X0.here hx rfl (hb hby d_prog_18_method_2_code_66) rfl ((if0 _ _).trans (teq g4).2) k) ?_
                show Go FrameEnd p e below s 0 0 (Q6 Z a1 g na nb n h0) (s₁.setTop (mkF m 69 #[.val (.ref a1), .val (.int (Int32.ofNat na)), .val (.int (Int32.ofNat nb)), .val (.int (Int32.ofNat i)), .val (.int d), .val (.int q), .val (.int (g i))] []))
                refine Go.step (fun _ k => XS.iconst X0.here hx rfl (hb hby d_prog_18_method_2_code_69) k) ?_
                show Go FrameEnd p e below s 0 0 (Q6 Z a1 g na nb n h0) (s₁.setTop (mkF m 70 #[.val (.ref a1), .val (.int (Int32.ofNat na)), .val (.int (Int32.ofNat nb)), .val (.int (Int32.ofNat i)), .val (.int d), .val (.int q), .val (.int (g i))] [(.int (1 : Int32))]))
                refine Go.step (fun _ k => XS.istore X0.here hx rfl (hb hby d_prog_18_method_2_code_70) rfl (l' := #[.val (.ref a1), .val (.int (Int32.ofNat na)), .val (.int (Int32.ofNat nb)), .val (.int (Int32.ofNat i)), .val (.int d), .val (.int (1 : Int32)), .val (.int (g i))]) rfl k) ?_
                show Go FrameEnd p e below s 0 0 (Q6 Z a1 g na nb n h0) (s₁.setTop (mkF m 72 #[.val (.ref a1), .val (.int (Int32.ofNat na)), .val (.int (Int32.ofNat nb)), .val (.int (Int32.ofNat i)), .val (.int d), .val (.int (1 : Int32)), .val (.int (g i))] []))
                refine Go.step (fun _ k => XS.goto X0.here hx rfl (pc0 := 72) (pc' := 77) rfl (hb hby d_prog_18_method_2_code_72) (by decide) (by decide) k) ?_
                show Go FrameEnd p e below s 0 0 (Q6 Z a1 g na nb n h0) (s₁.setTop (mkF m 77 #[.val (.ref a1), .val (.int (Int32.ofNat na)), .val (.int (Int32.ofNat nb)), .val (.int (Int32.ofNat i)), .val (.int d), .val (.int (1 : Int32)), .val (.int (g i))] []))
                refine Go.step (fun _ k => XS.iinc X0.here hx rfl (hb hby d_prog_18_method_2_code_77) rfl (l' := #[.val (.ref a1), .val (.int (Int32.ofNat na)), .val (.int (Int32.ofNat nb)), .val (.int ((Int32.ofNat i) + (1 : Int32))), .val (.int d), .val (.int (1 : Int32)), .val (.int (g i))]) rfl k) ?_
                show Go FrameEnd p e below s 0 0 (Q6 Z a1 g na nb n h0) (s₁.setTop (mkF m 80 #[.val (.ref a1), .val (.int (Int32.ofNat na)), .val (.int (Int32.ofNat nb)), .val (.int ((Int32.ofNat i) + (1 : Int32))), .val (.int d), .val (.int (1 : Int32)), .val (.int (g i))] []))
                refine Go.step (fun _ k => XS.goto X0.here hx rfl (pc0 := 80) (pc' := 27) rfl (hb hby d_prog_18_method_2_code_80) (by decide) (by decide) k) ?_
                show Go FrameEnd p e below s 0 0 (Q6 Z a1 g na nb n h0) (s₁.setTop (mkF m 27 #[.val (.ref a1), .val (.int (Int32.ofNat na)), .val (.int (Int32.ofNat nb)), .val (.int ((Int32.ofNat i) + (1 : Int32))), .val (.int d), .val (.int (1 : Int32)), .val (.int (g i))] []))
                rw [own_of1]
                exact ih (i + 1) d (1 : Int32) (.val (.int (g i))) (by omega) (One.val rfl) (by assumption) (by decide) (hR.trans (by first | contradiction | simp only [vloop, eq_true h1, eq_false h2, eq_true g1, eq_true g3, eq_true g4, true_or, or_true, false_or, or_false, or_self, true_and, and_true, false_and, and_false, and_self, not_true_eq_false, not_false_eq_true, if_true, if_false]))
              · skip
                refine Go.step (fun _ k => XS.ifYes X0.here hx rfl (pc0 := 66) (pc' := 75) rfl (hb hby d_prog_18_method_2_code_66) rfl ((if0 _ _).trans (feq g4).2) (by decide) (by decide) k) ?_
                show Go FrameEnd p e below s 0 0 (Q6 Z a1 g na nb n h0) (s₁.setTop (mkF m 75 #[.val (.ref a1), .val (.int (Int32.ofNat na)), .val (.int (Int32.ofNat nb)), .val (.int (Int32.ofNat i)), .val (.int d), .val (.int q), .val (.int (g i))] []))
                refine Go.step (fun _ k => XS.iconst X0.here hx rfl (hb hby d_prog_18_method_2_code_75) k) ?_
                show Go FrameEnd p e below s 0 0 (Q6 Z a1 g na nb n h0) (s₁.setTop (mkF m 76 #[.val (.ref a1), .val (.int (Int32.ofNat na)), .val (.int (Int32.ofNat nb)), .val (.int (Int32.ofNat i)), .val (.int d), .val (.int q), .val (.int (g i))] [(.int (0 : Int32))]))
                refine Go.retN X0 hx (t := .boolean) Bd.returns (by simp) (by decide) (hb hby d_prog_18_method_2_code_76) (BodyLoose.notSynchronized Bd) e0 (by decide) (by decide) ?_
                exact ⟨by rw [hR]; (first | contradiction | simp only [vloop, eq_true h1, eq_false h2, eq_true g1, eq_true g3, eq_false g4, true_or, or_true, false_or, or_false, or_self, true_and, and_true, false_and, and_false, and_self, not_true_eq_false, not_false_eq_true, if_true, if_false]), rfl, rfl⟩
            · skip
              refine Go.step (fun _ k => XS.icmpYes X0.here hx rfl (pc0 := 61) (pc' := 75) rfl (hb hby d_prog_18_method_2_code_61) rfl (feq g3).2 (by decide) (by decide) k) ?_
              show Go FrameEnd p e below s 0 0 (Q6 Z a1 g na nb n h0) (s₁.setTop (mkF m 75 #[.val (.ref a1), .val (.int (Int32.ofNat na)), .val (.int (Int32.ofNat nb)), .val (.int (Int32.ofNat i)), .val (.int d), .val (.int q), .val (.int (g i))] []))
              refine Go.step (fun _ k => XS.iconst X0.here hx rfl (hb hby d_prog_18_method_2_code_75) k) ?_
              show Go FrameEnd p e below s 0 0 (Q6 Z a1 g na nb n h0) (s₁.setTop (mkF m 76 #[.val (.ref a1), .val (.int (Int32.ofNat na)), .val (.int (Int32.ofNat nb)), .val (.int (Int32.ofNat i)), .val (.int d), .val (.int q), .val (.int (g i))] [(.int (0 : Int32))]))
              refine Go.retN X0 hx (t := .boolean) Bd.returns (by simp) (by decide) (hb hby d_prog_18_method_2_code_76) (BodyLoose.notSynchronized Bd) e0 (by decide) (by decide) ?_
              exact ⟨by rw [hR]; (first | contradiction | simp only [vloop, eq_true h1, eq_false h2, eq_true g1, eq_false g3, true_or, or_true, false_or, or_false, or_self, true_and, and_true, false_and, and_false, and_self, not_true_eq_false, not_false_eq_true, if_true, if_false]), rfl, rfl⟩
          · skip
            refine Go.step (fun _ k => XS.icmpNo X0.here hx rfl (hb hby d_prog_18_method_2_code_41) rfl (flt g1).1 k) ?_
            show Go FrameEnd p e below s 0 0 (Q6 Z a1 g na nb n h0) (s₁.setTop (mkF m 44 #[.val (.ref a1), .val (.int (Int32.ofNat na)), .val (.int (Int32.ofNat nb)), .val (.int (Int32.ofNat i)), .val (.int d), .val (.int q), .val (.int (g i))] []))
            refine Go.step (fun _ k => XS.iload X0.here hx rfl (hb hby d_prog_18_method_2_code_44) rfl k) ?_
            show Go FrameEnd p e below s 0 0 (Q6 Z a1 g na nb n h0) (s₁.setTop (mkF m 46 #[.val (.ref a1), .val (.int (Int32.ofNat na)), .val (.int (Int32.ofNat nb)), .val (.int (Int32.ofNat i)), .val (.int d), .val (.int q), .val (.int (g i))] [(.int (g i))]))
            refine Go.step (fun _ k => XS.bipush X0.here hx rfl (hb hby d_prog_18_method_2_code_46) k) ?_
            show Go FrameEnd p e below s 0 0 (Q6 Z a1 g na nb n h0) (s₁.setTop (mkF m 48 #[.val (.ref a1), .val (.int (Int32.ofNat na)), .val (.int (Int32.ofNat nb)), .val (.int (Int32.ofNat i)), .val (.int d), .val (.int q), .val (.int (g i))] [(.int (57 : Int32)), (.int (g i))]))
            by_cases g2 : (57 : Int32) < (g i)
            · skip
              refine Go.step (fun _ k => XS.icmpYes X0.here hx rfl (pc0 := 48) (pc' := 57) rfl (hb hby d_prog_18_method_2_code_48) rfl (tlt g2).2.2.1 (by decide) (by decide) k) ?_
              show Go FrameEnd p e below s 0 0 (Q6 Z a1 g na nb n h0) (s₁.setTop (mkF m 57 #[.val (.ref a1), .val (.int (Int32.ofNat na)), .val (.int (Int32.ofNat nb)), .val (.int (Int32.ofNat i)), .val (.int d), .val (.int q), .val (.int (g i))] []))
              refine Go.step (fun _ k => XS.iload X0.here hx rfl (hb hby d_prog_18_method_2_code_57) rfl k) ?_
              show Go FrameEnd p e below s 0 0 (Q6 Z a1 g na nb n h0) (s₁.setTop (mkF m 59 #[.val (.ref a1), .val (.int (Int32.ofNat na)), .val (.int (Int32.ofNat nb)), .val (.int (Int32.ofNat i)), .val (.int d), .val (.int q), .val (.int (g i))] [(.int (g i))]))
              refine Go.step (fun _ k => XS.bipush X0.here hx rfl (hb hby d_prog_18_method_2_code_59) k) ?_
              show Go FrameEnd p e below s 0 0 (Q6 Z a1 g na nb n h0) (s₁.setTop (mkF m 61 #[.val (.ref a1), .val (.int (Int32.ofNat na)), .val (.int (Int32.ofNat nb)), .val (.int (Int32.ofNat i)), .val (.int d), .val (.int q), .val (.int (g i))] [(.int (46 : Int32)), (.int (g i))]))
              by_cases g3 : (g i) = (46 : Int32)
              · skip
                refine Go.step (fun _ k => XS.icmpNo X0.here hx rfl (hb hby d_prog_18_method_2_code_61) rfl (teq g3).2 k) ?_
                show Go FrameEnd p e below s 0 0 (Q6 Z a1 g na nb n h0) (s₁.setTop (mkF m 64 #[.val (.ref a1), .val (.int (Int32.ofNat na)), .val (.int (Int32.ofNat nb)), .val (.int (Int32.ofNat i)), .val (.int d), .val (.int q), .val (.int (g i))] []))
                refine Go.step (fun _ k => XS.iload X0.here hx rfl (hb hby d_prog_18_method_2_code_64) rfl k) ?_
                show Go FrameEnd p e below s 0 0 (Q6 Z a1 g na nb n h0) (s₁.setTop (mkF m 66 #[.val (.ref a1), .val (.int (Int32.ofNat na)), .val (.int (Int32.ofNat nb)), .val (.int (Int32.ofNat i)), .val (.int d), .val (.int q), .val (.int (g i))] [(.int q)]))
                by_cases g4 : q = (0 : Int32)
                · skip
                  refine Go.step (fun _ k => XS.ifNo X0.here hx rfl (hb hby d_prog_18_method_2_code_66) rfl ((if0 _ _).trans (teq g4).2) k) ?_
                  show Go FrameEnd p e below s 0 0 (Q6 Z a1 g na nb n h0) (s₁.setTop (mkF m 69 #[.val (.ref a1), .val (.int (Int32.ofNat na)), .val (.int (Int32.ofNat nb)), .val (.int (Int32.ofNat i)), .val (.int d), .val (.int q), .val (.int (g i))] []))
                  refine Go.step (fun _ k => XS.iconst X0.here hx rfl (hb hby d_prog_18_method_2_code_69) k) ?_
                  show Go FrameEnd p e below s 0 0 (Q6 Z a1 g na nb n h0) (s₁.setTop (mkF m 70 #[.val (.ref a1), .val (.int (Int32.ofNat na)), .val (.int (Int32.ofNat nb)), .val (.int (Int32.ofNat i)), .val (.int d), .val (.int q), .val (.int (g i))] [(.int (1 : Int32))]))
                  refine Go.step (fun _ k => XS.istore X0.here hx rfl (hb hby d_prog_18_method_2_code_70) rfl (l' := #[.val (.ref a1), .val (.int (Int32.ofNat na)), .val (.int (Int32.ofNat nb)), .val (.int (Int32.ofNat i)), .val (.int d), .val (.int (1 : Int32)), .val (.int (g i))]) rfl k) ?_
                  show Go FrameEnd p e below s 0 0 (Q6 Z a1 g na nb n h0) (s₁.setTop (mkF m 72 #[.val (.ref a1), .val (.int (Int32.ofNat na)), .val (.int (Int32.ofNat nb)), .val (.int (Int32.ofNat i)), .val (.int d), .val (.int (1 : Int32)), .val (.int (g i))] []))
                  refine Go.step (fun _ k => XS.goto X0.here hx rfl (pc0 := 72) (pc' := 77) rfl (hb hby d_prog_18_method_2_code_72) (by decide) (by decide) k) ?_
                  show Go FrameEnd p e below s 0 0 (Q6 Z a1 g na nb n h0) (s₁.setTop (mkF m 77 #[.val (.ref a1), .val (.int (Int32.ofNat na)), .val (.int (Int32.ofNat nb)), .val (.int (Int32.ofNat i)), .val (.int d), .val (.int (1 : Int32)), .val (.int (g i))] []))
                  refine Go.step (fun _ k => XS.iinc X0.here hx rfl (hb hby d_prog_18_method_2_code_77) rfl (l' := #[.val (.ref a1), .val (.int (Int32.ofNat na)), .val (.int (Int32.ofNat nb)), .val (.int ((Int32.ofNat i) + (1 : Int32))), .val (.int d), .val (.int (1 : Int32)), .val (.int (g i))]) rfl k) ?_
                  show Go FrameEnd p e below s 0 0 (Q6 Z a1 g na nb n h0) (s₁.setTop (mkF m 80 #[.val (.ref a1), .val (.int (Int32.ofNat na)), .val (.int (Int32.ofNat nb)), .val (.int ((Int32.ofNat i) + (1 : Int32))), .val (.int d), .val (.int (1 : Int32)), .val (.int (g i))] []))
                  refine Go.step (fun _ k => XS.goto X0.here hx rfl (pc0 := 80) (pc' := 27) rfl (hb hby d_prog_18_method_2_code_80) (by decide) (by decide) k) ?_
                  show Go FrameEnd p e below s 0 0 (Q6 Z a1 g na nb n h0) (s₁.setTop (mkF m 27 #[.val (.ref a1), .val (.int (Int32.ofNat na)), .val (.int (Int32.ofNat nb)), .val (.int ((Int32.ofNat i) + (1 : Int32))), .val (.int d), .val (.int (1 : Int32)), .val (.int (g i))] []))
                  rw [own_of1]
                  exact ih (i + 1) d (1 : Int32) (.val (.int (g i))) (by omega) (One.val rfl) (by assumption) (by decide) (hR.trans (by first | contradiction | simp only [vloop, eq_true h1, eq_false h2, eq_false g1, eq_true g2, eq_true g3, eq_true g4, true_or, or_true, false_or, or_false, or_self, true_and, and_true, false_and, and_false, and_self, not_true_eq_false, not_false_eq_true, if_true, if_false]))
                · skip
                  refine Go.step (fun _ k => XS.ifYes X0.here hx rfl (pc0 := 66) (pc' := 75) rfl (hb hby d_prog_18_method_2_code_66) rfl ((if0 _ _).trans (feq g4).2) (by decide) (by decide) k) ?_
                  show Go FrameEnd p e below s 0 0 (Q6 Z a1 g na nb n h0) (s₁.setTop (mkF m 75 #[.val (.ref a1), .val (.int (Int32.ofNat na)), .val (.int (Int32.ofNat nb)), .val (.int (Int32.ofNat i)), .val (.int d), .val (.int q), .val (.int (g i))] []))
                  refine Go.step (fun _ k => XS.iconst X0.here hx rfl (hb hby d_prog_18_method_2_code_75) k) ?_
                  show Go FrameEnd p e below s 0 0 (Q6 Z a1 g na nb n h0) (s₁.setTop (mkF m 76 #[.val (.ref a1), .val (.int (Int32.ofNat na)), .val (.int (Int32.ofNat nb)), .val (.int (Int32.ofNat i)), .val (.int d), .val (.int q), .val (.int (g i))] [(.int (0 : Int32))]))
                  refine Go.retN X0 hx (t := .boolean) Bd.returns (by simp) (by decide) (hb hby d_prog_18_method_2_code_76) (BodyLoose.notSynchronized Bd) e0 (by decide) (by decide) ?_
                  exact ⟨by rw [hR]; (first | contradiction | simp only [vloop, eq_true h1, eq_false h2, eq_false g1, eq_true g2, eq_true g3, eq_false g4, true_or, or_true, false_or, or_false, or_self, true_and, and_true, false_and, and_false, and_self, not_true_eq_false, not_false_eq_true, if_true, if_false]), rfl, rfl⟩
              · skip
                refine Go.step (fun _ k => XS.icmpYes X0.here hx rfl (pc0 := 61) (pc' := 75) rfl (hb hby d_prog_18_method_2_code_61) rfl (feq g3).2 (by decide) (by decide) k) ?_
                show Go FrameEnd p e below s 0 0 (Q6 Z a1 g na nb n h0) (s₁.setTop (mkF m 75 #[.val (.ref a1), .val (.int (Int32.ofNat na)), .val (.int (Int32.ofNat nb)), .val (.int (Int32.ofNat i)), .val (.int d), .val (.int q), .val (.int (g i))] []))
                refine Go.step (fun _ k => XS.iconst X0.here hx rfl (hb hby d_prog_18_method_2_code_75) k) ?_
                show Go FrameEnd p e below s 0 0 (Q6 Z a1 g na nb n h0) (s₁.setTop (mkF m 76 #[.val (.ref a1), .val (.int (Int32.ofNat na)), .val (.int (Int32.ofNat nb)), .val (.int (Int32.ofNat i)), .val (.int d), .val (.int q), .val (.int (g i))] [(.int (0 : Int32))]))
                refine Go.retN X0 hx (t := .boolean) Bd.returns (by simp) (by decide) (hb hby d_prog_18_method_2_code_76) (BodyLoose.notSynchronized Bd) e0 (by decide) (by decide) ?_
                exact ⟨by rw [hR]; (first | contradiction | simp only [vloop, eq_true h1, eq_false h2, eq_false g1, eq_true g2, eq_false g3, true_or, or_true, false_or, or_false, or_self, true_and, and_true, false_and, and_false, and_self, not_true_eq_false, not_false_eq_true, if_true, if_false]), rfl, rfl⟩
            · skip
              refine Go.step (fun _ k => XS.icmpNo X0.here hx rfl (hb hby d_prog_18_method_2_code_48) rfl (flt g2).2.2.1 k) ?_
              show Go FrameEnd p e below s 0 0 (Q6 Z a1 g na nb n h0) (s₁.setTop (mkF m 51 #[.val (.ref a1), .val (.int (Int32.ofNat na)), .val (.int (Int32.ofNat nb)), .val (.int (Int32.ofNat i)), .val (.int d), .val (.int q), .val (.int (g i))] []))
              refine Go.step (fun _ k => XS.iconst X0.here hx rfl (hb hby d_prog_18_method_2_code_51) k) ?_
              show Go FrameEnd p e below s 0 0 (Q6 Z a1 g na nb n h0) (s₁.setTop (mkF m 52 #[.val (.ref a1), .val (.int (Int32.ofNat na)), .val (.int (Int32.ofNat nb)), .val (.int (Int32.ofNat i)), .val (.int d), .val (.int q), .val (.int (g i))] [(.int (1 : Int32))]))
              refine Go.step (fun _ k => XS.istore X0.here hx rfl (hb hby d_prog_18_method_2_code_52) rfl (l' := #[.val (.ref a1), .val (.int (Int32.ofNat na)), .val (.int (Int32.ofNat nb)), .val (.int (Int32.ofNat i)), .val (.int (1 : Int32)), .val (.int q), .val (.int (g i))]) rfl k) ?_
              show Go FrameEnd p e below s 0 0 (Q6 Z a1 g na nb n h0) (s₁.setTop (mkF m 54 #[.val (.ref a1), .val (.int (Int32.ofNat na)), .val (.int (Int32.ofNat nb)), .val (.int (Int32.ofNat i)), .val (.int (1 : Int32)), .val (.int q), .val (.int (g i))] []))
              refine Go.step (fun _ k => XS.goto X0.here hx rfl (pc0 := 54) (pc' := 77) rfl (hb hby d_prog_18_method_2_code_54) (by decide) (by decide) k) ?_
              show Go FrameEnd p e below s 0 0 (Q6 Z a1 g na nb n h0) (s₁.setTop (mkF m 77 #[.val (.ref a1), .val (.int (Int32.ofNat na)), .val (.int (Int32.ofNat nb)), .val (.int (Int32.ofNat i)), .val (.int (1 : Int32)), .val (.int q), .val (.int (g i))] []))
              refine Go.step (fun _ k => XS.iinc X0.here hx rfl (hb hby d_prog_18_method_2_code_77) rfl (l' := #[.val (.ref a1), .val (.int (Int32.ofNat na)), .val (.int (Int32.ofNat nb)), .val (.int ((Int32.ofNat i) + (1 : Int32))), .val (.int (1 : Int32)), .val (.int q), .val (.int (g i))]) rfl k) ?_
              show Go FrameEnd p e below s 0 0 (Q6 Z a1 g na nb n h0) (s₁.setTop (mkF m 80 #[.val (.ref a1), .val (.int (Int32.ofNat na)), .val (.int (Int32.ofNat nb)), .val (.int ((Int32.ofNat i) + (1 : Int32))), .val (.int (1 : Int32)), .val (.int q), .val (.int (g i))] []))
              refine Go.step (fun _ k => XS.goto X0.here hx rfl (pc0 := 80) (pc' := 27) rfl (hb hby d_prog_18_method_2_code_80) (by decide) (by decide) k) ?_
              show Go FrameEnd p e below s 0 0 (Q6 Z a1 g na nb n h0) (s₁.setTop (mkF m 27 #[.val (.ref a1), .val (.int (Int32.ofNat na)), .val (.int (Int32.ofNat nb)), .val (.int ((Int32.ofNat i) + (1 : Int32))), .val (.int (1 : Int32)), .val (.int q), .val (.int (g i))] []))
              rw [own_of1]
              exact ih (i + 1) (1 : Int32) q (.val (.int (g i))) (by omega) (One.val rfl) (by decide) (by assumption) (hR.trans (by first | contradiction | simp only [vloop, eq_true h1, eq_false h2, eq_false g1, eq_false g2, true_or, or_true, false_or, or_false, or_self, true_and, and_true, false_and, and_false, and_self, not_true_eq_false, not_false_eq_true, if_true, if_false]))
      show Go FrameEnd p e below s 0 0 (Q6 Z a1 g na nb n h0) (s₁.setTop (mkF m 27 #[.val (.ref a1), .val (.int (Int32.ofNat na)), .val (.int (Int32.ofNat nb)), .val (.int (Int32.ofNat na)), .val (.int (0 : Int32)), .val (.int (0 : Int32)), .unset] []))
      exact W27_5 (nb - na) na (0 : Int32) (0 : Int32) (.unset) (by omega) One.u (by decide) (by decide) (by unfold validF; rw [if_neg (fun z => h2 z.2)])
  · skip
    refine Go.step (fun _ k => XS.icmpYes X0.here hx rfl (pc0 := 2) (pc' := 19) rfl (hb hby d_prog_18_method_2_code_2) rfl (flt h1).2.1 (by decide) (by decide) k) ?_
    show Go FrameEnd p e below s 0 0 (Q6 Z a1 g na nb n h0) (s₁.setTop (mkF m 19 #[.val (.ref a1), .val (.int (Int32.ofNat na)), .val (.int (Int32.ofNat nb)), .unset, .unset, .unset, .unset] []))
    refine Go.step (fun _ k => XS.iloadN X0.here hx rfl (hb hby d_prog_18_method_2_code_19) rfl k) ?_
    show Go FrameEnd p e below s 0 0 (Q6 Z a1 g na nb n h0) (s₁.setTop (mkF m 20 #[.val (.ref a1), .val (.int (Int32.ofNat na)), .val (.int (Int32.ofNat nb)), .unset, .unset, .unset, .unset] [(.int (Int32.ofNat na))]))
    refine Go.step (fun _ k => XS.istoreN X0.here hx rfl (hb hby d_prog_18_method_2_code_20) rfl (l' := #[.val (.ref a1), .val (.int (Int32.ofNat na)), .val (.int (Int32.ofNat nb)), .val (.int (Int32.ofNat na)), .unset, .unset, .unset]) rfl k) ?_
    show Go FrameEnd p e below s 0 0 (Q6 Z a1 g na nb n h0) (s₁.setTop (mkF m 21 #[.val (.ref a1), .val (.int (Int32.ofNat na)), .val (.int (Int32.ofNat nb)), .val (.int (Int32.ofNat na)), .unset, .unset, .unset] []))
    refine Go.step (fun _ k => XS.iconst X0.here hx rfl (hb hby d_prog_18_method_2_code_21) k) ?_
    show Go FrameEnd p e below s 0 0 (Q6 Z a1 g na nb n h0) (s₁.setTop (mkF m 22 #[.val (.ref a1), .val (.int (Int32.ofNat na)), .val (.int (Int32.ofNat nb)), .val (.int (Int32.ofNat na)), .unset, .unset, .unset] [(.int (0 : Int32))]))
    refine Go.step (fun _ k => XS.istore X0.here hx rfl (hb hby d_prog_18_method_2_code_22) rfl (l' := #[.val (.ref a1), .val (.int (Int32.ofNat na)), .val (.int (Int32.ofNat nb)), .val (.int (Int32.ofNat na)), .val (.int (0 : Int32)), .unset, .unset]) rfl k) ?_
    show Go FrameEnd p e below s 0 0 (Q6 Z a1 g na nb n h0) (s₁.setTop (mkF m 24 #[.val (.ref a1), .val (.int (Int32.ofNat na)), .val (.int (Int32.ofNat nb)), .val (.int (Int32.ofNat na)), .val (.int (0 : Int32)), .unset, .unset] []))
    refine Go.step (fun _ k => XS.iconst X0.here hx rfl (hb hby d_prog_18_method_2_code_24) k) ?_
    show Go FrameEnd p e below s 0 0 (Q6 Z a1 g na nb n h0) (s₁.setTop (mkF m 25 #[.val (.ref a1), .val (.int (Int32.ofNat na)), .val (.int (Int32.ofNat nb)), .val (.int (Int32.ofNat na)), .val (.int (0 : Int32)), .unset, .unset] [(.int (0 : Int32))]))
    refine Go.step (fun _ k => XS.istore X0.here hx rfl (hb hby d_prog_18_method_2_code_25) rfl (l' := #[.val (.ref a1), .val (.int (Int32.ofNat na)), .val (.int (Int32.ofNat nb)), .val (.int (Int32.ofNat na)), .val (.int (0 : Int32)), .val (.int (0 : Int32)), .unset]) rfl k) ?_
    show Go FrameEnd p e below s 0 0 (Q6 Z a1 g na nb n h0) (s₁.setTop (mkF m 27 #[.val (.ref a1), .val (.int (Int32.ofNat na)), .val (.int (Int32.ofNat nb)), .val (.int (Int32.ofNat na)), .val (.int (0 : Int32)), .val (.int (0 : Int32)), .unset] []))
    have W27_8 : ∀ k : Nat, ∀ (i : Nat), ∀ (d : Int32), ∀ (q : Int32), ∀ (s6 : Slot), (i + k = nb) → (One s6) → (nar .boolean d = d) → (nar .boolean q = q) → (validF g na nb = vloop g k i d q) → Go FrameEnd p e below s 0 0 (Q6 Z a1 g na nb n h0) (s₁.setTop (mkF m 27 #[.val (.ref a1), .val (.int (Int32.ofNat na)), .val (.int (Int32.ofNat nb)), .val (.int (Int32.ofNat i)), .val (.int d), .val (.int q), s6] [])) := by
      intro k
      induction k with
      | zero =>
        intro i d q s6 hi hs6 hd hq hR
        show Go FrameEnd p e below s 0 0 (Q6 Z a1 g na nb n h0) (s₁.setTop (mkF m 27 #[.val (.ref a1), .val (.int (Int32.ofNat na)), .val (.int (Int32.ofNat nb)), .val (.int (Int32.ofNat i)), .val (.int d), .val (.int q), s6] []))
        refine Go.step (fun _ k => XS.iloadN X0.here hx rfl (hb hby d_prog_18_method_2_code_27) rfl k) ?_
        show Go FrameEnd p e below s 0 0 (Q6 Z a1 g na nb n h0) (s₁.setTop (mkF m 28 #[.val (.ref a1), .val (.int (Int32.ofNat na)), .val (.int (Int32.ofNat nb)), .val (.int (Int32.ofNat i)), .val (.int d), .val (.int q), s6] [(.int (Int32.ofNat i))]))
        refine Go.step (fun _ k => XS.iloadN X0.here hx rfl (hb hby d_prog_18_method_2_code_28) rfl k) ?_
        show Go FrameEnd p e below s 0 0 (Q6 Z a1 g na nb n h0) (s₁.setTop (mkF m 29 #[.val (.ref a1), .val (.int (Int32.ofNat na)), .val (.int (Int32.ofNat nb)), .val (.int (Int32.ofNat i)), .val (.int d), .val (.int q), s6] [(.int (Int32.ofNat nb)), (.int (Int32.ofNat i))]))
        refine Go.step (fun _ k => XS.icmpYes X0.here hx rfl (pc0 := 29) (pc' := 83) rfl (hb hby d_prog_18_method_2_code_29) rfl (flt (by rw [own_lt (by omega) (by omega)]; omega)).2.1 (by decide) (by decide) k) ?_
        show Go FrameEnd p e below s 0 0 (Q6 Z a1 g na nb n h0) (s₁.setTop (mkF m 83 #[.val (.ref a1), .val (.int (Int32.ofNat na)), .val (.int (Int32.ofNat nb)), .val (.int (Int32.ofNat i)), .val (.int d), .val (.int q), s6] []))
        refine Go.step (fun _ k => XS.iload X0.here hx rfl (hb hby d_prog_18_method_2_code_83) rfl k) ?_
        show Go FrameEnd p e below s 0 0 (Q6 Z a1 g na nb n h0) (s₁.setTop (mkF m 85 #[.val (.ref a1), .val (.int (Int32.ofNat na)), .val (.int (Int32.ofNat nb)), .val (.int (Int32.ofNat i)), .val (.int d), .val (.int q), s6] [(.int d)]))
        refine Go.retN X0 hx (t := .boolean) Bd.returns (by simp) hd (hb hby d_prog_18_method_2_code_85) (BodyLoose.notSynchronized Bd) e0 (by decide) (by decide) ?_
        exact ⟨by rw [hR]; rfl, rfl, rfl⟩
      | succ k ih =>
        intro i d q s6 hi hs6 hd hq hR
        show Go FrameEnd p e below s 0 0 (Q6 Z a1 g na nb n h0) (s₁.setTop (mkF m 27 #[.val (.ref a1), .val (.int (Int32.ofNat na)), .val (.int (Int32.ofNat nb)), .val (.int (Int32.ofNat i)), .val (.int d), .val (.int q), s6] []))
        refine Go.step (fun _ k => XS.iloadN X0.here hx rfl (hb hby d_prog_18_method_2_code_27) rfl k) ?_
        show Go FrameEnd p e below s 0 0 (Q6 Z a1 g na nb n h0) (s₁.setTop (mkF m 28 #[.val (.ref a1), .val (.int (Int32.ofNat na)), .val (.int (Int32.ofNat nb)), .val (.int (Int32.ofNat i)), .val (.int d), .val (.int q), s6] [(.int (Int32.ofNat i))]))
        refine Go.step (fun _ k => XS.iloadN X0.here hx rfl (hb hby d_prog_18_method_2_code_28) rfl k) ?_
        show Go FrameEnd p e below s 0 0 (Q6 Z a1 g na nb n h0) (s₁.setTop (mkF m 29 #[.val (.ref a1), .val (.int (Int32.ofNat na)), .val (.int (Int32.ofNat nb)), .val (.int (Int32.ofNat i)), .val (.int d), .val (.int q), s6] [(.int (Int32.ofNat nb)), (.int (Int32.ofNat i))]))
        refine Go.step (fun _ k => XS.icmpNo X0.here hx rfl (hb hby d_prog_18_method_2_code_29) rfl (tlt (by rw [own_lt (by omega) (by omega)]; omega)).2.1 k) ?_
        show Go FrameEnd p e below s 0 0 (Q6 Z a1 g na nb n h0) (s₁.setTop (mkF m 32 #[.val (.ref a1), .val (.int (Int32.ofNat na)), .val (.int (Int32.ofNat nb)), .val (.int (Int32.ofNat i)), .val (.int d), .val (.int q), s6] []))
        refine Go.step (fun _ k => XS.aloadN X0.here hx rfl (hb hby d_prog_18_method_2_code_32) rfl rfl k) ?_
        show Go FrameEnd p e below s 0 0 (Q6 Z a1 g na nb n h0) (s₁.setTop (mkF m 33 #[.val (.ref a1), .val (.int (Int32.ofNat na)), .val (.int (Int32.ofNat nb)), .val (.int (Int32.ofNat i)), .val (.int d), .val (.int q), s6] [(.ref a1)]))
        refine Go.step (fun _ k => XS.iloadN X0.here hx rfl (hb hby d_prog_18_method_2_code_33) rfl k) ?_
        show Go FrameEnd p e below s 0 0 (Q6 Z a1 g na nb n h0) (s₁.setTop (mkF m 34 #[.val (.ref a1), .val (.int (Int32.ofNat na)), .val (.int (Int32.ofNat nb)), .val (.int (Int32.ofNat i)), .val (.int d), .val (.int q), s6] [(.int (Int32.ofNat i)), (.ref a1)]))
        obtain ⟨c9, Ac9, Sc9, Mc9, Gc9⟩ := id V_a1
        refine Go.step (X0.baloadBytes hx (j := (Int32.ofNat i)) (v := (.int (g i))) (by rw [e0]; exact Ac9.1) (State.isArrayOf_alike hZ.alike Ac9.2.1) Ac9.2.2 (own_in Sc9 (own_nn (by omega)) (by rw [own_cl (by omega)]; omega)) (Av.at (i := i) Gc9 (own_cl (by omega)) (by omega) rfl) (g := (mkF m 34 #[.val (.ref a1), .val (.int (Int32.ofNat na)), .val (.int (Int32.ofNat nb)), .val (.int (Int32.ofNat i)), .val (.int d), .val (.int q), s6] [(.int (Int32.ofNat i)), (.ref a1)])) rfl rfl (hb hby d_prog_18_method_2_code_34)) ?_
        show Go FrameEnd p e below s 0 0 (Q6 Z a1 g na nb n h0) (s₁.setTop (mkF m 35 #[.val (.ref a1), .val (.int (Int32.ofNat na)), .val (.int (Int32.ofNat nb)), .val (.int (Int32.ofNat i)), .val (.int d), .val (.int q), s6] [(.int (g i))]))
        have os10 : storeLocals #[.val (.ref a1), .val (.int (Int32.ofNat na)), .val (.int (Int32.ofNat nb)), .val (.int (Int32.ofNat i)), .val (.int d), .val (.int q), s6] 6 (.int (g i)) = some #[.val (.ref a1), .val (.int (Int32.ofNat na)), .val (.int (Int32.ofNat nb)), .val (.int (Int32.ofNat i)), .val (.int d), .val (.int q), .val (.int (g i))] := by
          rcases hs6 with q | ⟨w, q, hw⟩
          · rw [q]; rfl
          · rw [q]; cases w <;> first | rfl | (simp [Value.category] at hw)
        refine Go.step (fun _ k => XS.istore X0.here hx rfl (hb hby d_prog_18_method_2_code_35) rfl os10 k) ?_
        show Go FrameEnd p e below s 0 0 (Q6 Z a1 g na nb n h0) (s₁.setTop (mkF m 37 #[.val (.ref a1), .val (.int (Int32.ofNat na)), .val (.int (Int32.ofNat nb)), .val (.int (Int32.ofNat i)), .val (.int d), .val (.int q), .val (.int (g i))] []))
        refine Go.step (fun _ k => XS.iload X0.here hx rfl (hb hby d_prog_18_method_2_code_37) rfl k) ?_
        show Go FrameEnd p e below s 0 0 (Q6 Z a1 g na nb n h0) (s₁.setTop (mkF m 39 #[.val (.ref a1), .val (.int (Int32.ofNat na)), .val (.int (Int32.ofNat nb)), .val (.int (Int32.ofNat i)), .val (.int d), .val (.int q), .val (.int (g i))] [(.int (g i))]))
        refine Go.step (fun _ k => XS.bipush X0.here hx rfl (hb hby d_prog_18_method_2_code_39) k) ?_
        show Go FrameEnd p e below s 0 0 (Q6 Z a1 g na nb n h0) (s₁.setTop (mkF m 41 #[.val (.ref a1), .val (.int (Int32.ofNat na)), .val (.int (Int32.ofNat nb)), .val (.int (Int32.ofNat i)), .val (.int d), .val (.int q), .val (.int (g i))] [(.int (48 : Int32)), (.int (g i))]))
        by_cases g1 : (g i) < (48 : Int32)
        · skip
          refine Go.step (fun _ k => XS.icmpYes X0.here hx rfl (pc0 := 41) (pc' := 57) rfl (hb hby d_prog_18_method_2_code_41) rfl (tlt g1).1 (by decide) (by decide) k) ?_
          show Go FrameEnd p e below s 0 0 (Q6 Z a1 g na nb n h0) (s₁.setTop (mkF m 57 #[.val (.ref a1), .val (.int (Int32.ofNat na)), .val (.int (Int32.ofNat nb)), .val (.int (Int32.ofNat i)), .val (.int d), .val (.int q), .val (.int (g i))] []))
          refine Go.step (fun _ k => XS.iload X0.here hx rfl (hb hby d_prog_18_method_2_code_57) rfl k) ?_
          show Go FrameEnd p e below s 0 0 (Q6 Z a1 g na nb n h0) (s₁.setTop (mkF m 59 #[.val (.ref a1), .val (.int (Int32.ofNat na)), .val (.int (Int32.ofNat nb)), .val (.int (Int32.ofNat i)), .val (.int d), .val (.int q), .val (.int (g i))] [(.int (g i))]))
          refine Go.step (fun _ k => XS.bipush X0.here hx rfl (hb hby d_prog_18_method_2_code_59) k) ?_
          show Go FrameEnd p e below s 0 0 (Q6 Z a1 g na nb n h0) (s₁.setTop (mkF m 61 #[.val (.ref a1), .val (.int (Int32.ofNat na)), .val (.int (Int32.ofNat nb)), .val (.int (Int32.ofNat i)), .val (.int d), .val (.int q), .val (.int (g i))] [(.int (46 : Int32)), (.int (g i))]))
          by_cases g3 : (g i) = (46 : Int32)
          · skip
            refine Go.step (fun _ k => XS.icmpNo X0.here hx rfl (hb hby d_prog_18_method_2_code_61) rfl (teq g3).2 k) ?_
            show Go FrameEnd p e below s 0 0 (Q6 Z a1 g na nb n h0) (s₁.setTop (mkF m 64 #[.val (.ref a1), .val (.int (Int32.ofNat na)), .val (.int (Int32.ofNat nb)), .val (.int (Int32.ofNat i)), .val (.int d), .val (.int q), .val (.int (g i))] []))
            refine Go.step (fun _ k => XS.iload X0.here hx rfl (hb hby d_prog_18_method_2_code_64) rfl k) ?_
            show Go FrameEnd p e below s 0 0 (Q6 Z a1 g na nb n h0) (s₁.setTop (mkF m 66 #[.val (.ref a1), .val (.int (Int32.ofNat na)), .val (.int (Int32.ofNat nb)), .val (.int (Int32.ofNat i)), .val (.int d), .val (.int q), .val (.int (g i))] [(.int q)]))
            by_cases g4 : q = (0 : Int32)
            · skip
              refine Go.step (fun _ k => XS.ifNo X0.here hx rfl (hb hby d_prog_18_method_2_code_66) rfl ((if0 _ _).trans (teq g4).2) k) ?_
              show Go FrameEnd p e below s 0 0 (Q6 Z a1 g na nb n h0) (s₁.setTop (mkF m 69 #[.val (.ref a1), .val (.int (Int32.ofNat na)), .val (.int (Int32.ofNat nb)), .val (.int (Int32.ofNat i)), .val (.int d), .val (.int q), .val (.int (g i))] []))
              refine Go.step (fun _ k => XS.iconst X0.here hx rfl (hb hby d_prog_18_method_2_code_69) k) ?_
              show Go FrameEnd p e below s 0 0 (Q6 Z a1 g na nb n h0) (s₁.setTop (mkF m 70 #[.val (.ref a1), .val (.int (Int32.ofNat na)), .val (.int (Int32.ofNat nb)), .val (.int (Int32.ofNat i)), .val (.int d), .val (.int q), .val (.int (g i))] [(.int (1 : Int32))]))
              refine Go.step (fun _ k => XS.istore X0.here hx rfl (hb hby d_prog_18_method_2_code_70) rfl (l' := #[.val (.ref a1), .val (.int (Int32.ofNat na)), .val (.int (Int32.ofNat nb)), .val (.int (Int32.ofNat i)), .val (.int d), .val (.int (1 : Int32)), .val (.int (g i))]) rfl k) ?_
              show Go FrameEnd p e below s 0 0 (Q6 Z a1 g na nb n h0) (s₁.setTop (mkF m 72 #[.val (.ref a1), .val (.int (Int32.ofNat na)), .val (.int (Int32.ofNat nb)), .val (.int (Int32.ofNat i)), .val (.int d), .val (.int (1 : Int32)), .val (.int (g i))] []))
              refine Go.step (fun _ k => XS.goto X0.here hx rfl (pc0 := 72) (pc' := 77) rfl (hb hby d_prog_18_method_2_code_72) (by decide) (by decide) k) ?_
              show Go FrameEnd p e below s 0 0 (Q6 Z a1 g na nb n h0) (s₁.setTop (mkF m 77 #[.val (.ref a1), .val (.int (Int32.ofNat na)), .val (.int (Int32.ofNat nb)), .val (.int (Int32.ofNat i)), .val (.int d), .val (.int (1 : Int32)), .val (.int (g i))] []))
              refine Go.step (fun _ k => XS.iinc X0.here hx rfl (hb hby d_prog_18_method_2_code_77) rfl (l' := #[.val (.ref a1), .val (.int (Int32.ofNat na)), .val (.int (Int32.ofNat nb)), .val (.int ((Int32.ofNat i) + (1 : Int32))), .val (.int d), .val (.int (1 : Int32)), .val (.int (g i))]) rfl k) ?_
              show Go FrameEnd p e below s 0 0 (Q6 Z a1 g na nb n h0) (s₁.setTop (mkF m 80 #[.val (.ref a1), .val (.int (Int32.ofNat na)), .val (.int (Int32.ofNat nb)), .val (.int ((Int32.ofNat i) + (1 : Int32))), .val (.int d), .val (.int (1 : Int32)), .val (.int (g i))] []))
              refine Go.step (fun _ k => XS.goto X0.here hx rfl (pc0 := 80) (pc' := 27) rfl (hb hby d_prog_18_method_2_code_80) (by decide) (by decide) k) ?_
              show Go FrameEnd p e below s 0 0 (Q6 Z a1 g na nb n h0) (s₁.setTop (mkF m 27 #[.val (.ref a1), .val (.int (Int32.ofNat na)), .val (.int (Int32.ofNat nb)), .val (.int ((Int32.ofNat i) + (1 : Int32))), .val (.int d), .val (.int (1 : Int32)), .val (.int (g i))] []))
              rw [own_of1]
              exact ih (i + 1) d (1 : Int32) (.val (.int (g i))) (by omega) (One.val rfl) (by assumption) (by decide) (hR.trans (by first | contradiction | simp only [vloop, eq_false h1, eq_true g1, eq_true g3, eq_true g4, true_or, or_true, false_or, or_false, or_self, true_and, and_true, false_and, and_false, and_self, not_true_eq_false, not_false_eq_true, if_true, if_false]))
            · skip
              refine Go.step (fun _ k => XS.ifYes X0.here hx rfl (pc0 := 66) (pc' := 75) rfl (hb hby d_prog_18_method_2_code_66) rfl ((if0 _ _).trans (feq g4).2) (by decide) (by decide) k) ?_
              show Go FrameEnd p e below s 0 0 (Q6 Z a1 g na nb n h0) (s₁.setTop (mkF m 75 #[.val (.ref a1), .val (.int (Int32.ofNat na)), .val (.int (Int32.ofNat nb)), .val (.int (Int32.ofNat i)), .val (.int d), .val (.int q), .val (.int (g i))] []))
              refine Go.step (fun _ k => XS.iconst X0.here hx rfl (hb hby d_prog_18_method_2_code_75) k) ?_
              show Go FrameEnd p e below s 0 0 (Q6 Z a1 g na nb n h0) (s₁.setTop (mkF m 76 #[.val (.ref a1), .val (.int (Int32.ofNat na)), .val (.int (Int32.ofNat nb)), .val (.int (Int32.ofNat i)), .val (.int d), .val (.int q), .val (.int (g i))] [(.int (0 : Int32))]))
              refine Go.retN X0 hx (t := .boolean) Bd.returns (by simp) (by decide) (hb hby d_prog_18_method_2_code_76) (BodyLoose.notSynchronized Bd) e0 (by decide) (by decide) ?_
              exact ⟨by rw [hR]; (first | contradiction | simp only [vloop, eq_false h1, eq_true g1, eq_true g3, eq_false g4, true_or, or_true, false_or, or_false, or_self, true_and, and_true, false_and, and_false, and_self, not_true_eq_false, not_false_eq_true, if_true, if_false]), rfl, rfl⟩
          · skip
            refine Go.step (fun _ k => XS.icmpYes X0.here hx rfl (pc0 := 61) (pc' := 75) rfl (hb hby d_prog_18_method_2_code_61) rfl (feq g3).2 (by decide) (by decide) k) ?_
            show Go FrameEnd p e below s 0 0 (Q6 Z a1 g na nb n h0) (s₁.setTop (mkF m 75 #[.val (.ref a1), .val (.int (Int32.ofNat na)), .val (.int (Int32.ofNat nb)), .val (.int (Int32.ofNat i)), .val (.int d), .val (.int q), .val (.int (g i))] []))
            refine Go.step (fun _ k => XS.iconst X0.here hx rfl (hb hby d_prog_18_method_2_code_75) k) ?_
            show Go FrameEnd p e below s 0 0 (Q6 Z a1 g na nb n h0) (s₁.setTop (mkF m 76 #[.val (.ref a1), .val (.int (Int32.ofNat na)), .val (.int (Int32.ofNat nb)), .val (.int (Int32.ofNat i)), .val (.int d), .val (.int q), .val (.int (g i))] [(.int (0 : Int32))]))
            refine Go.retN X0 hx (t := .boolean) Bd.returns (by simp) (by decide) (hb hby d_prog_18_method_2_code_76) (BodyLoose.notSynchronized Bd) e0 (by decide) (by decide) ?_
            exact ⟨by rw [hR]; (first | contradiction | simp only [vloop, eq_false h1, eq_true g1, eq_false g3, true_or, or_true, false_or, or_false, or_self, true_and, and_true, false_and, and_false, and_self, not_true_eq_false, not_false_eq_true, if_true, if_false]), rfl, rfl⟩
        · skip
          refine Go.step (fun _ k => XS.icmpNo X0.here hx rfl (hb hby d_prog_18_method_2_code_41) rfl (flt g1).1 k) ?_
          show Go FrameEnd p e below s 0 0 (Q6 Z a1 g na nb n h0) (s₁.setTop (mkF m 44 #[.val (.ref a1), .val (.int (Int32.ofNat na)), .val (.int (Int32.ofNat nb)), .val (.int (Int32.ofNat i)), .val (.int d), .val (.int q), .val (.int (g i))] []))
          refine Go.step (fun _ k => XS.iload X0.here hx rfl (hb hby d_prog_18_method_2_code_44) rfl k) ?_
          show Go FrameEnd p e below s 0 0 (Q6 Z a1 g na nb n h0) (s₁.setTop (mkF m 46 #[.val (.ref a1), .val (.int (Int32.ofNat na)), .val (.int (Int32.ofNat nb)), .val (.int (Int32.ofNat i)), .val (.int d), .val (.int q), .val (.int (g i))] [(.int (g i))]))
          refine Go.step (fun _ k => XS.bipush X0.here hx rfl (hb hby d_prog_18_method_2_code_46) k) ?_
          show Go FrameEnd p e below s 0 0 (Q6 Z a1 g na nb n h0) (s₁.setTop (mkF m 48 #[.val (.ref a1), .val (.int (Int32.ofNat na)), .val (.int (Int32.ofNat nb)), .val (.int (Int32.ofNat i)), .val (.int d), .val (.int q), .val (.int (g i))] [(.int (57 : Int32)), (.int (g i))]))
          by_cases g2 : (57 : Int32) < (g i)
          · skip
            refine Go.step (fun _ k => XS.icmpYes X0.here hx rfl (pc0 := 48) (pc' := 57) rfl (hb hby d_prog_18_method_2_code_48) rfl (tlt g2).2.2.1 (by decide) (by decide) k) ?_
            show Go FrameEnd p e below s 0 0 (Q6 Z a1 g na nb n h0) (s₁.setTop (mkF m 57 #[.val (.ref a1), .val (.int (Int32.ofNat na)), .val (.int (Int32.ofNat nb)), .val (.int (Int32.ofNat i)), .val (.int d), .val (.int q), .val (.int (g i))] []))
            refine Go.step (fun _ k => XS.iload X0.here hx rfl (hb hby d_prog_18_method_2_code_57) rfl k) ?_
            show Go FrameEnd p e below s 0 0 (Q6 Z a1 g na nb n h0) (s₁.setTop (mkF m 59 #[.val (.ref a1), .val (.int (Int32.ofNat na)), .val (.int (Int32.ofNat nb)), .val (.int (Int32.ofNat i)), .val (.int d), .val (.int q), .val (.int (g i))] [(.int (g i))]))
            refine Go.step (fun _ k => XS.bipush X0.here hx rfl (hb hby d_prog_18_method_2_code_59) k) ?_
            show Go FrameEnd p e below s 0 0 (Q6 Z a1 g na nb n h0) (s₁.setTop (mkF m 61 #[.val (.ref a1), .val (.int (Int32.ofNat na)), .val (.int (Int32.ofNat nb)), .val (.int (Int32.ofNat i)), .val (.int d), .val (.int q), .val (.int (g i))] [(.int (46 : Int32)), (.int (g i))]))
            by_cases g3 : (g i) = (46 : Int32)
            · skip
              refine Go.step (fun _ k => XS.icmpNo X0.here hx rfl (hb hby d_prog_18_method_2_code_61) rfl (teq g3).2 k) ?_
              show Go FrameEnd p e below s 0 0 (Q6 Z a1 g na nb n h0) (s₁.setTop (mkF m 64 #[.val (.ref a1), .val (.int (Int32.ofNat na)), .val (.int (Int32.ofNat nb)), .val (.int (Int32.ofNat i)), .val (.int d), .val (.int q), .val (.int (g i))] []))
              refine Go.step (fun _ k => XS.iload X0.here hx rfl (hb hby d_prog_18_method_2_code_64) rfl k) ?_
              show Go FrameEnd p e below s 0 0 (Q6 Z a1 g na nb n h0) (s₁.setTop (mkF m 66 #[.val (.ref a1), .val (.int (Int32.ofNat na)), .val (.int (Int32.ofNat nb)), .val (.int (Int32.ofNat i)), .val (.int d), .val (.int q), .val (.int (g i))] [(.int q)]))
              by_cases g4 : q = (0 : Int32)
              · skip
                refine Go.step (fun _ k => XS.ifNo X0.here hx rfl (hb hby d_prog_18_method_2_code_66) rfl ((if0 _ _).trans (teq g4).2) k) ?_
                show Go FrameEnd p e below s 0 0 (Q6 Z a1 g na nb n h0) (s₁.setTop (mkF m 69 #[.val (.ref a1), .val (.int (Int32.ofNat na)), .val (.int (Int32.ofNat nb)), .val (.int (Int32.ofNat i)), .val (.int d), .val (.int q), .val (.int (g i))] []))
                refine Go.step (fun _ k => XS.iconst X0.here hx rfl (hb hby d_prog_18_method_2_code_69) k) ?_
                show Go FrameEnd p e below s 0 0 (Q6 Z a1 g na nb n h0) (s₁.setTop (mkF m 70 #[.val (.ref a1), .val (.int (Int32.ofNat na)), .val (.int (Int32.ofNat nb)), .val (.int (Int32.ofNat i)), .val (.int d), .val (.int q), .val (.int (g i))] [(.int (1 : Int32))]))
                refine Go.step (fun _ k => XS.istore X0.here hx rfl (hb hby d_prog_18_method_2_code_70) rfl (l' := #[.val (.ref a1), .val (.int (Int32.ofNat na)), .val (.int (Int32.ofNat nb)), .val (.int (Int32.ofNat i)), .val (.int d), .val (.int (1 : Int32)), .val (.int (g i))]) rfl k) ?_
                show Go FrameEnd p e below s 0 0 (Q6 Z a1 g na nb n h0) (s₁.setTop (mkF m 72 #[.val (.ref a1), .val (.int (Int32.ofNat na)), .val (.int (Int32.ofNat nb)), .val (.int (Int32.ofNat i)), .val (.int d), .val (.int (1 : Int32)), .val (.int (g i))] []))
                refine Go.step (fun _ k => XS.goto X0.here hx rfl (pc0 := 72) (pc' := 77) rfl (hb hby d_prog_18_method_2_code_72) (by decide) (by decide) k) ?_
                show Go FrameEnd p e below s 0 0 (Q6 Z a1 g na nb n h0) (s₁.setTop (mkF m 77 #[.val (.ref a1), .val (.int (Int32.ofNat na)), .val (.int (Int32.ofNat nb)), .val (.int (Int32.ofNat i)), .val (.int d), .val (.int (1 : Int32)), .val (.int (g i))] []))
                refine Go.step (fun _ k => XS.iinc X0.here hx rfl (hb hby d_prog_18_method_2_code_77) rfl (l' := #[.val (.ref a1), .val (.int (Int32.ofNat na)), .val (.int (Int32.ofNat nb)), .val (.int ((Int32.ofNat i) + (1 : Int32))), .val (.int d), .val (.int (1 : Int32)), .val (.int (g i))]) rfl k) ?_
                show Go FrameEnd p e below s 0 0 (Q6 Z a1 g na nb n h0) (s₁.setTop (mkF m 80 #[.val (.ref a1), .val (.int (Int32.ofNat na)), .val (.int (Int32.ofNat nb)), .val (.int ((Int32.ofNat i) + (1 : Int32))), .val (.int d), .val (.int (1 : Int32)), .val (.int (g i))] []))
                refine Go.step (fun _ k => XS.goto X0.here hx rfl (pc0 := 80) (pc' := 27) rfl (hb hby d_prog_18_method_2_code_80) (by decide) (by decide) k) ?_
                show Go FrameEnd p e below s 0 0 (Q6 Z a1 g na nb n h0) (s₁.setTop (mkF m 27 #[.val (.ref a1), .val (.int (Int32.ofNat na)), .val (.int (Int32.ofNat nb)), .val (.int ((Int32.ofNat i) + (1 : Int32))), .val (.int d), .val (.int (1 : Int32)), .val (.int (g i))] []))
                rw [own_of1]
                exact ih (i + 1) d (1 : Int32) (.val (.int (g i))) (by omega) (One.val rfl) (by assumption) (by decide) (hR.trans (by first | contradiction | simp only [vloop, eq_false h1, eq_false g1, eq_true g2, eq_true g3, eq_true g4, true_or, or_true, false_or, or_false, or_self, true_and, and_true, false_and, and_false, and_self, not_true_eq_false, not_false_eq_true, if_true, if_false]))
              · skip
                refine Go.step (fun _ k => XS.ifYes X0.here hx rfl (pc0 := 66) (pc' := 75) rfl (hb hby d_prog_18_method_2_code_66) rfl ((if0 _ _).trans (feq g4).2) (by decide) (by decide) k) ?_
                show Go FrameEnd p e below s 0 0 (Q6 Z a1 g na nb n h0) (s₁.setTop (mkF m 75 #[.val (.ref a1), .val (.int (Int32.ofNat na)), .val (.int (Int32.ofNat nb)), .val (.int (Int32.ofNat i)), .val (.int d), .val (.int q), .val (.int (g i))] []))
                refine Go.step (fun _ k => XS.iconst X0.here hx rfl (hb hby d_prog_18_method_2_code_75) k) ?_
                show Go FrameEnd p e below s 0 0 (Q6 Z a1 g na nb n h0) (s₁.setTop (mkF m 76 #[.val (.ref a1), .val (.int (Int32.ofNat na)), .val (.int (Int32.ofNat nb)), .val (.int (Int32.ofNat i)), .val (.int d), .val (.int q), .val (.int (g i))] [(.int (0 : Int32))]))
                refine Go.retN X0 hx (t := .boolean) Bd.returns (by simp) (by decide) (hb hby d_prog_18_method_2_code_76) (BodyLoose.notSynchronized Bd) e0 (by decide) (by decide) ?_
                exact ⟨by rw [hR]; (first | contradiction | simp only [vloop, eq_false h1, eq_false g1, eq_true g2, eq_true g3, eq_false g4, true_or, or_true, false_or, or_false, or_self, true_and, and_true, false_and, and_false, and_self, not_true_eq_false, not_false_eq_true, if_true, if_false]), rfl, rfl⟩
            · skip
              refine Go.step (fun _ k => XS.icmpYes X0.here hx rfl (pc0 := 61) (pc' := 75) rfl (hb hby d_prog_18_method_2_code_61) rfl (feq g3).2 (by decide) (by decide) k) ?_
              show Go FrameEnd p e below s 0 0 (Q6 Z a1 g na nb n h0) (s₁.setTop (mkF m 75 #[.val (.ref a1), .val (.int (Int32.ofNat na)), .val (.int (Int32.ofNat nb)), .val (.int (Int32.ofNat i)), .val (.int d), .val (.int q), .val (.int (g i))] []))
              refine Go.step (fun _ k => XS.iconst X0.here hx rfl (hb hby d_prog_18_method_2_code_75) k) ?_
              show Go FrameEnd p e below s 0 0 (Q6 Z a1 g na nb n h0) (s₁.setTop (mkF m 76 #[.val (.ref a1), .val (.int (Int32.ofNat na)), .val (.int (Int32.ofNat nb)), .val (.int (Int32.ofNat i)), .val (.int d), .val (.int q), .val (.int (g i))] [(.int (0 : Int32))]))
              refine Go.retN X0 hx (t := .boolean) Bd.returns (by simp) (by decide) (hb hby d_prog_18_method_2_code_76) (BodyLoose.notSynchronized Bd) e0 (by decide) (by decide) ?_
              exact ⟨by rw [hR]; (first | contradiction | simp only [vloop, eq_false h1, eq_false g1, eq_true g2, eq_false g3, true_or, or_true, false_or, or_false, or_self, true_and, and_true, false_and, and_false, and_self, not_true_eq_false, not_false_eq_true, if_true, if_false]), rfl, rfl⟩
          · skip
            refine Go.step (fun _ k => XS.icmpNo X0.here hx rfl (hb hby d_prog_18_method_2_code_48) rfl (flt g2).2.2.1 k) ?_
            show Go FrameEnd p e below s 0 0 (Q6 Z a1 g na nb n h0) (s₁.setTop (mkF m 51 #[.val (.ref a1), .val (.int (Int32.ofNat na)), .val (.int (Int32.ofNat nb)), .val (.int (Int32.ofNat i)), .val (.int d), .val (.int q), .val (.int (g i))] []))
            refine Go.step (fun _ k => XS.iconst X0.here hx rfl (hb hby d_prog_18_method_2_code_51) k) ?_
            show Go FrameEnd p e below s 0 0 (Q6 Z a1 g na nb n h0) (s₁.setTop (mkF m 52 #[.val (.ref a1), .val (.int (Int32.ofNat na)), .val (.int (Int32.ofNat nb)), .val (.int (Int32.ofNat i)), .val (.int d), .val (.int q), .val (.int (g i))] [(.int (1 : Int32))]))
            refine Go.step (fun _ k => XS.istore X0.here hx rfl (hb hby d_prog_18_method_2_code_52) rfl (l' := #[.val (.ref a1), .val (.int (Int32.ofNat na)), .val (.int (Int32.ofNat nb)), .val (.int (Int32.ofNat i)), .val (.int (1 : Int32)), .val (.int q), .val (.int (g i))]) rfl k) ?_
            show Go FrameEnd p e below s 0 0 (Q6 Z a1 g na nb n h0) (s₁.setTop (mkF m 54 #[.val (.ref a1), .val (.int (Int32.ofNat na)), .val (.int (Int32.ofNat nb)), .val (.int (Int32.ofNat i)), .val (.int (1 : Int32)), .val (.int q), .val (.int (g i))] []))
            refine Go.step (fun _ k => XS.goto X0.here hx rfl (pc0 := 54) (pc' := 77) rfl (hb hby d_prog_18_method_2_code_54) (by decide) (by decide) k) ?_
            show Go FrameEnd p e below s 0 0 (Q6 Z a1 g na nb n h0) (s₁.setTop (mkF m 77 #[.val (.ref a1), .val (.int (Int32.ofNat na)), .val (.int (Int32.ofNat nb)), .val (.int (Int32.ofNat i)), .val (.int (1 : Int32)), .val (.int q), .val (.int (g i))] []))
            refine Go.step (fun _ k => XS.iinc X0.here hx rfl (hb hby d_prog_18_method_2_code_77) rfl (l' := #[.val (.ref a1), .val (.int (Int32.ofNat na)), .val (.int (Int32.ofNat nb)), .val (.int ((Int32.ofNat i) + (1 : Int32))), .val (.int (1 : Int32)), .val (.int q), .val (.int (g i))]) rfl k) ?_
            show Go FrameEnd p e below s 0 0 (Q6 Z a1 g na nb n h0) (s₁.setTop (mkF m 80 #[.val (.ref a1), .val (.int (Int32.ofNat na)), .val (.int (Int32.ofNat nb)), .val (.int ((Int32.ofNat i) + (1 : Int32))), .val (.int (1 : Int32)), .val (.int q), .val (.int (g i))] []))
            refine Go.step (fun _ k => XS.goto X0.here hx rfl (pc0 := 80) (pc' := 27) rfl (hb hby d_prog_18_method_2_code_80) (by decide) (by decide) k) ?_
            show Go FrameEnd p e below s 0 0 (Q6 Z a1 g na nb n h0) (s₁.setTop (mkF m 27 #[.val (.ref a1), .val (.int (Int32.ofNat na)), .val (.int (Int32.ofNat nb)), .val (.int ((Int32.ofNat i) + (1 : Int32))), .val (.int (1 : Int32)), .val (.int q), .val (.int (g i))] []))
            rw [own_of1]
            exact ih (i + 1) (1 : Int32) q (.val (.int (g i))) (by omega) (One.val rfl) (by decide) (by assumption) (hR.trans (by first | contradiction | simp only [vloop, eq_false h1, eq_false g1, eq_false g2, true_or, or_true, false_or, or_false, or_self, true_and, and_true, false_and, and_false, and_self, not_true_eq_false, not_false_eq_true, if_true, if_false]))
    show Go FrameEnd p e below s 0 0 (Q6 Z a1 g na nb n h0) (s₁.setTop (mkF m 27 #[.val (.ref a1), .val (.int (Int32.ofNat na)), .val (.int (Int32.ofNat nb)), .val (.int (Int32.ofNat na)), .val (.int (0 : Int32)), .val (.int (0 : Int32)), .unset] []))
    exact W27_8 (nb - na) na (0 : Int32) (0 : Int32) (.unset) (by omega) One.u (by decide) (by decide) (by unfold validF; rw [if_neg (fun z => h1 ((own_lt (by omega) (by omega)).mpr z.1))])
def Q0 (Z : State) (p1 : Int32) (p2 : Int32) (p3 : Int32) (p4 : Int32) (p5 : Int32) (p6 : Int32) (h0 : Heap) (n0 : Nat) (v : Option Value) (h : Heap) (L : List Loc) : Prop := v = some (.int 1) ∧ Fr n0 L
theorem ef_0 (m : MethodId) (p1 : Int32) (p2 : Int32) (p3 : Int32) (p4 : Int32) (p5 : Int32) (p6 : Int32) : entryFrame m #[(.int p1), (.int p2), (.int p3), (.int p4), (.int p5), (.int p6)] maxLocals = mkF m 0 #[.val (.int p1), .val (.int p2), .val (.int p3), .val (.int p4), .val (.int p5), .val (.int p6), .unset, .unset, .unset, .unset, .unset, .unset, .unset] [] := by first | (simp [entryFrame, mkF, argsToLocals, Value.category, maxLocals]; done) | rfl
set_option maxRecDepth 65536 in
set_option maxHeartbeats 40000000 in
theorem rm0 (l : Launch) (Z : State) (a0 : Array Value) (hw : ∀ d ∈ tables_1, d.before a0 Z = true) (ws : List Jvm.Cond) (p1 : Int32) (p2 : Int32) (p3 : Int32) (p4 : Int32) (p5 : Int32) (p6 : Int32) (h0 : Heap) (n0 : Nat) (Z0 : n0 ≤ h0.size) :
    MetFree l x (head1 (Jvm.Cond.code x code maxLocals ret :: ws) room_1) (fun a U => a = #[(.int p1), (.int p2), (.int p3), (.int p4), (.int p5), (.int p6)] ∧ Z.Warmed39 U.vm ∧ U.heap = h0) (fun _ _ _ _ _ => True) (fun _ U o U' => ∃ v L, o = .returned v ∧ (Q0 Z p1 p2 p3 p4 p5 p6 h0 n0) v U'.heap L ∧ FrameEnd U o U' L 16 128) := by
  refine MetFree.of_bodySF (plainFor_of_name pn_com_example_quotewire_quotewire_codec_FixFloatIsValidPinLaw) hisR ?_
  intro p e s m args below meth c s₁ Bd hml0 hP hK
  obtain ⟨rfl, hZ, hh⟩ := hP
  have hx := Bd.exec
  have hby := Bd.bytes
  have hml : c.maxLocals = 13 := hml0
  have hown : s.vm.findClass "com/example/quotewire/quotewire/codec/FixFloatIsValidPinLaw" = some m.cls := findClass_of_methodNamed Bd.named
  have hnm := (name_of_methodNamed Bd.named Bd.method).1
  have X0 : Stand p l e room_1 s m #[(.int p1), (.int p2), (.int p3), (.int p4), (.int p5), (.int p6)] below meth c s₁ [] 0 0 := Stand.of_body Bd
  have e0 : s₁.heap = h0 := by rw [← hh, Bd.state]; rfl
  have N0 := Fr.nil n0
  show Go FrameEnd p e below s 16 128 (Q0 Z p1 p2 p3 p4 p5 p6 h0 n0) _
  refine Go.step (fun _ k => castTop (ef_0 m p1 p2 p3 p4 p5 p6) k) ?_
  show Go FrameEnd p e below s 16 128 (Q0 Z p1 p2 p3 p4 p5 p6 h0 n0) (s₁.setTop (mkF m 0 #[.val (.int p1), .val (.int p2), .val (.int p3), .val (.int p4), .val (.int p5), .val (.int p6), .unset, .unset, .unset, .unset, .unset, .unset, .unset] []))
  refine Go.step (fun _ k => XS.iconst X0.here hx rfl (hb hby at_0) k) ?_
  show Go FrameEnd p e below s 16 128 (Q0 Z p1 p2 p3 p4 p5 p6 h0 n0) (s₁.setTop (mkF m 1 #[.val (.int p1), .val (.int p2), .val (.int p3), .val (.int p4), .val (.int p5), .val (.int p6), .unset, .unset, .unset, .unset, .unset, .unset, .unset] [(.int (5 : Int32))]))
  obtain ⟨T1, h1, k1, X1, e1, E1, A1, st1⟩ := newP X0 hx hZ (hw _ (List.mem_of_getElem? (i := 0) rfl)) e0 (g := (mkF m 1 #[.val (.int p1), .val (.int p2), .val (.int p3), .val (.int p4), .val (.int p5), .val (.int p6), .unset, .unset, .unset, .unset, .unset, .unset, .unset] [(.int (5 : Int32))])) rfl (hb hby at_1) rfl (by decide) (cap := 5) (by decide) (by decide) (by decide) (by decide)
  refine Go.step st1 ?_
  obtain ⟨b1, g1⟩ : ∃ z, z = h0.size := ⟨_, rfl⟩
  rw [← g1] at A1 ⊢
  have g_b1 : n0 ≤ b1 := Nat.le_trans Z0 (Nat.le_of_eq g1.symm)
  have Z1 : n0 ≤ h1.size := Nat.le_trans Z0 E1.1
  have V1 : Av Z h1 b1 .byte 5 (fun _ => (.int (0 : Int32))) := Av.new A1 (by decide) rfl
  show Go FrameEnd p e below s 16 128 (Q0 Z p1 p2 p3 p4 p5 p6 h0 n0) (T1.setTop (mkF m 3 #[.val (.int p1), .val (.int p2), .val (.int p3), .val (.int p4), .val (.int p5), .val (.int p6), .unset, .unset, .unset, .unset, .unset, .unset, .unset] [(.ref b1)]))
  refine Go.step (fun _ k => XS.astore X1.here hx rfl (hb hby at_3) rfl rfl (l' := #[.val (.int p1), .val (.int p2), .val (.int p3), .val (.int p4), .val (.int p5), .val (.int p6), .val (.ref b1), .unset, .unset, .unset, .unset, .unset, .unset]) rfl k) ?_
  show Go FrameEnd p e below s 16 128 (Q0 Z p1 p2 p3 p4 p5 p6 h0 n0) (T1.setTop (mkF m 5 #[.val (.int p1), .val (.int p2), .val (.int p3), .val (.int p4), .val (.int p5), .val (.int p6), .val (.ref b1), .unset, .unset, .unset, .unset, .unset, .unset] []))
  refine Go.step (fun _ k => XS.aload X1.here hx rfl (hb hby at_5) rfl rfl k) ?_
  show Go FrameEnd p e below s 16 128 (Q0 Z p1 p2 p3 p4 p5 p6 h0 n0) (T1.setTop (mkF m 7 #[.val (.int p1), .val (.int p2), .val (.int p3), .val (.int p4), .val (.int p5), .val (.int p6), .val (.ref b1), .unset, .unset, .unset, .unset, .unset, .unset] [(.ref b1)]))
  refine Go.step (fun _ k => XS.iconst X1.here hx rfl (hb hby at_7) k) ?_
  show Go FrameEnd p e below s 16 128 (Q0 Z p1 p2 p3 p4 p5 p6 h0 n0) (T1.setTop (mkF m 8 #[.val (.int p1), .val (.int p2), .val (.int p3), .val (.int p4), .val (.int p5), .val (.int p6), .val (.ref b1), .unset, .unset, .unset, .unset, .unset, .unset] [(.int (0 : Int32)), (.ref b1)]))
  refine Go.step (fun _ k => XS.iloadN X1.here hx rfl (hb hby at_8) rfl k) ?_
  show Go FrameEnd p e below s 16 128 (Q0 Z p1 p2 p3 p4 p5 p6 h0 n0) (T1.setTop (mkF m 9 #[.val (.int p1), .val (.int p2), .val (.int p3), .val (.int p4), .val (.int p5), .val (.int p6), .val (.ref b1), .unset, .unset, .unset, .unset, .unset, .unset] [(.int p1), (.int (0 : Int32)), (.ref b1)]))
  obtain ⟨_, _, ⟨T2, L2, k2, n2⟩, -, X2, ⟨Lc2, hQ2, l2, y2, z2⟩, st2⟩ := Jvm.LawKit.callS X1 hx (y := (⟨"com/example/quotewire/quotewire/codec/FixFloatIsValidPinLaw", "pick", "(I)B"⟩ : MethodName)) hown (mvT hZ (hw _ (List.mem_of_getElem? (i := 1) rfl))) (mvT hZ (hw _ (List.mem_of_getElem? (i := 2) rfl))) (mvT hZ (hw _ (List.mem_of_getElem? (i := 3) rfl))) (mvT hZ (hw _ (List.mem_of_getElem? (i := 4) rfl))) (by decide) (backOf (W := 2) (rm1 l Z a0 hw [] p1  h1 ) hZ (hw _ (List.mem_of_getElem? (i := 4) rfl)) (hw _ (List.mem_of_getElem? (i := 3) rfl)) (by decide) (by decide)) (g := (mkF m 9 #[.val (.int p1), .val (.int p2), .val (.int p3), .val (.int p4), .val (.int p5), .val (.int p6), .val (.ref b1), .unset, .unset, .unset, .unset, .unset, .unset] [(.int p1), (.int (0 : Int32)), (.ref b1)])) rfl (by rw [hml]; rfl) (argsL := [(.int p1)]) (rest := [(.int (0 : Int32)), (.ref b1)]) (lenOf pd__I_B rfl) rfl (by show 2 * 0 + _ ≤ _; exact Nat.le_of_eq rfl) (hb hby at_9) (fun _ _ => ⟨rfl, e1, (by decide : 1 + 0 ≤ _), (by decide : 5 + 0 ≤ _)⟩)
  dsimp only [Pt.U, Pt.locs, Pt.cells, Pt.slots] at X2 l2 y2 z2 st2 hQ2
  subst l2 y2 z2
  obtain ⟨rfl, rfl, e2⟩ := hQ2
  have N2 := Fr.app N0 (Fr.nil n0)
  refine Go.step st2 ?_
  show Go FrameEnd p e below s 16 128 (Q0 Z p1 p2 p3 p4 p5 p6 h0 n0) (T2.setTop (mkF m 12 #[.val (.int p1), .val (.int p2), .val (.int p3), .val (.int p4), .val (.int p5), .val (.int p6), .val (.ref b1), .unset, .unset, .unset, .unset, .unset, .unset] [(.int (pickF p1)), (.int (0 : Int32)), (.ref b1)]))
  obtain ⟨c3, Ac3, Sc3, Mc3, Gc3⟩ := id V1
  obtain ⟨T4, h4, X4, e4, W4, st4⟩ := stB X2 hx hZ e2 Ac3 (j := (0 : Int32)) (own_in Sc3 (by decide) (by decide)) (g := (mkF m 12 #[.val (.int p1), .val (.int p2), .val (.int p3), .val (.int p4), .val (.int p5), .val (.int p6), .val (.ref b1), .unset, .unset, .unset, .unset, .unset, .unset] [(.int (pickF p1)), (.int (0 : Int32)), (.ref b1)])) rfl rfl (hb hby at_12)
  refine Go.step st4 ?_
  rw [own_pickb] at W4
  have N4 := Fr.snoc X4 N2 g_b1
  have Z4 : n0 ≤ h4.size := Nat.le_trans Z1 (Keep.of_wr W4).1
  have V4 : Av Z h4 b1 .byte 5 (aset (fun _ => (.int (0 : Int32))) 0 (.int (pickF p1))) := Av.set Ac3 Sc3 Mc3 Gc3 W4 (by rfl) (own_in Sc3 (by decide) (by decide))
  show Go FrameEnd p e below s 16 128 (Q0 Z p1 p2 p3 p4 p5 p6 h0 n0) (T4.setTop (mkF m 13 #[.val (.int p1), .val (.int p2), .val (.int p3), .val (.int p4), .val (.int p5), .val (.int p6), .val (.ref b1), .unset, .unset, .unset, .unset, .unset, .unset] []))
  refine Go.step (fun _ k => XS.aload X4.here hx rfl (hb hby at_13) rfl rfl k) ?_
  show Go FrameEnd p e below s 16 128 (Q0 Z p1 p2 p3 p4 p5 p6 h0 n0) (T4.setTop (mkF m 15 #[.val (.int p1), .val (.int p2), .val (.int p3), .val (.int p4), .val (.int p5), .val (.int p6), .val (.ref b1), .unset, .unset, .unset, .unset, .unset, .unset] [(.ref b1)]))
  refine Go.step (fun _ k => XS.iconst X4.here hx rfl (hb hby at_15) k) ?_
  show Go FrameEnd p e below s 16 128 (Q0 Z p1 p2 p3 p4 p5 p6 h0 n0) (T4.setTop (mkF m 16 #[.val (.int p1), .val (.int p2), .val (.int p3), .val (.int p4), .val (.int p5), .val (.int p6), .val (.ref b1), .unset, .unset, .unset, .unset, .unset, .unset] [(.int (1 : Int32)), (.ref b1)]))
  refine Go.step (fun _ k => XS.iloadN X4.here hx rfl (hb hby at_16) rfl k) ?_
  show Go FrameEnd p e below s 16 128 (Q0 Z p1 p2 p3 p4 p5 p6 h0 n0) (T4.setTop (mkF m 17 #[.val (.int p1), .val (.int p2), .val (.int p3), .val (.int p4), .val (.int p5), .val (.int p6), .val (.ref b1), .unset, .unset, .unset, .unset, .unset, .unset] [(.int p2), (.int (1 : Int32)), (.ref b1)]))
  obtain ⟨_, _, ⟨T5, L5, k5, n5⟩, -, X5, ⟨Lc5, hQ5, l5, y5, z5⟩, st5⟩ := Jvm.LawKit.callS X4 hx (y := (⟨"com/example/quotewire/quotewire/codec/FixFloatIsValidPinLaw", "pick", "(I)B"⟩ : MethodName)) hown (mvT hZ (hw _ (List.mem_of_getElem? (i := 1) rfl))) (mvT hZ (hw _ (List.mem_of_getElem? (i := 2) rfl))) (mvT hZ (hw _ (List.mem_of_getElem? (i := 3) rfl))) (mvT hZ (hw _ (List.mem_of_getElem? (i := 4) rfl))) (by decide) (backOf (W := 2) (rm1 l Z a0 hw [] p2  h4 ) hZ (hw _ (List.mem_of_getElem? (i := 4) rfl)) (hw _ (List.mem_of_getElem? (i := 3) rfl)) (by decide) (by decide)) (g := (mkF m 17 #[.val (.int p1), .val (.int p2), .val (.int p3), .val (.int p4), .val (.int p5), .val (.int p6), .val (.ref b1), .unset, .unset, .unset, .unset, .unset, .unset] [(.int p2), (.int (1 : Int32)), (.ref b1)])) rfl (by rw [hml]; rfl) (argsL := [(.int p2)]) (rest := [(.int (1 : Int32)), (.ref b1)]) (lenOf pd__I_B rfl) rfl (by show 2 * 0 + _ ≤ _; exact Nat.le_of_eq rfl) (hb hby at_17) (fun _ _ => ⟨rfl, e4, (by decide : 1 + 0 ≤ _), (by decide : 5 + 0 ≤ _)⟩)
  dsimp only [Pt.U, Pt.locs, Pt.cells, Pt.slots] at X5 l5 y5 z5 st5 hQ5
  subst l5 y5 z5
  obtain ⟨rfl, rfl, e5⟩ := hQ5
  have N5 := Fr.app N4 (Fr.nil n0)
  refine Go.step st5 ?_
  show Go FrameEnd p e below s 16 128 (Q0 Z p1 p2 p3 p4 p5 p6 h0 n0) (T5.setTop (mkF m 20 #[.val (.int p1), .val (.int p2), .val (.int p3), .val (.int p4), .val (.int p5), .val (.int p6), .val (.ref b1), .unset, .unset, .unset, .unset, .unset, .unset] [(.int (pickF p2)), (.int (1 : Int32)), (.ref b1)]))
  obtain ⟨c6, Ac6, Sc6, Mc6, Gc6⟩ := id V4
  obtain ⟨T7, h7, X7, e7, W7, st7⟩ := stB X5 hx hZ e5 Ac6 (j := (1 : Int32)) (own_in Sc6 (by decide) (by decide)) (g := (mkF m 20 #[.val (.int p1), .val (.int p2), .val (.int p3), .val (.int p4), .val (.int p5), .val (.int p6), .val (.ref b1), .unset, .unset, .unset, .unset, .unset, .unset] [(.int (pickF p2)), (.int (1 : Int32)), (.ref b1)])) rfl rfl (hb hby at_20)
  refine Go.step st7 ?_
  rw [own_pickb] at W7
  have N7 := Fr.snoc X7 N5 g_b1
  have Z7 : n0 ≤ h7.size := Nat.le_trans Z4 (Keep.of_wr W7).1
  have V7 : Av Z h7 b1 .byte 5 (aset (aset (fun _ => (.int (0 : Int32))) 0 (.int (pickF p1))) 1 (.int (pickF p2))) := Av.set Ac6 Sc6 Mc6 Gc6 W7 (by rfl) (own_in Sc6 (by decide) (by decide))
  show Go FrameEnd p e below s 16 128 (Q0 Z p1 p2 p3 p4 p5 p6 h0 n0) (T7.setTop (mkF m 21 #[.val (.int p1), .val (.int p2), .val (.int p3), .val (.int p4), .val (.int p5), .val (.int p6), .val (.ref b1), .unset, .unset, .unset, .unset, .unset, .unset] []))
  refine Go.step (fun _ k => XS.aload X7.here hx rfl (hb hby at_21) rfl rfl k) ?_
  show Go FrameEnd p e below s 16 128 (Q0 Z p1 p2 p3 p4 p5 p6 h0 n0) (T7.setTop (mkF m 23 #[.val (.int p1), .val (.int p2), .val (.int p3), .val (.int p4), .val (.int p5), .val (.int p6), .val (.ref b1), .unset, .unset, .unset, .unset, .unset, .unset] [(.ref b1)]))
  refine Go.step (fun _ k => XS.iconst X7.here hx rfl (hb hby at_23) k) ?_
  show Go FrameEnd p e below s 16 128 (Q0 Z p1 p2 p3 p4 p5 p6 h0 n0) (T7.setTop (mkF m 24 #[.val (.int p1), .val (.int p2), .val (.int p3), .val (.int p4), .val (.int p5), .val (.int p6), .val (.ref b1), .unset, .unset, .unset, .unset, .unset, .unset] [(.int (2 : Int32)), (.ref b1)]))
  refine Go.step (fun _ k => XS.iloadN X7.here hx rfl (hb hby at_24) rfl k) ?_
  show Go FrameEnd p e below s 16 128 (Q0 Z p1 p2 p3 p4 p5 p6 h0 n0) (T7.setTop (mkF m 25 #[.val (.int p1), .val (.int p2), .val (.int p3), .val (.int p4), .val (.int p5), .val (.int p6), .val (.ref b1), .unset, .unset, .unset, .unset, .unset, .unset] [(.int p3), (.int (2 : Int32)), (.ref b1)]))
  obtain ⟨_, _, ⟨T8, L8, k8, n8⟩, -, X8, ⟨Lc8, hQ8, l8, y8, z8⟩, st8⟩ := Jvm.LawKit.callS X7 hx (y := (⟨"com/example/quotewire/quotewire/codec/FixFloatIsValidPinLaw", "pick", "(I)B"⟩ : MethodName)) hown (mvT hZ (hw _ (List.mem_of_getElem? (i := 1) rfl))) (mvT hZ (hw _ (List.mem_of_getElem? (i := 2) rfl))) (mvT hZ (hw _ (List.mem_of_getElem? (i := 3) rfl))) (mvT hZ (hw _ (List.mem_of_getElem? (i := 4) rfl))) (by decide) (backOf (W := 2) (rm1 l Z a0 hw [] p3  h7 ) hZ (hw _ (List.mem_of_getElem? (i := 4) rfl)) (hw _ (List.mem_of_getElem? (i := 3) rfl)) (by decide) (by decide)) (g := (mkF m 25 #[.val (.int p1), .val (.int p2), .val (.int p3), .val (.int p4), .val (.int p5), .val (.int p6), .val (.ref b1), .unset, .unset, .unset, .unset, .unset, .unset] [(.int p3), (.int (2 : Int32)), (.ref b1)])) rfl (by rw [hml]; rfl) (argsL := [(.int p3)]) (rest := [(.int (2 : Int32)), (.ref b1)]) (lenOf pd__I_B rfl) rfl (by show 2 * 0 + _ ≤ _; exact Nat.le_of_eq rfl) (hb hby at_25) (fun _ _ => ⟨rfl, e7, (by decide : 1 + 0 ≤ _), (by decide : 5 + 0 ≤ _)⟩)
  dsimp only [Pt.U, Pt.locs, Pt.cells, Pt.slots] at X8 l8 y8 z8 st8 hQ8
  subst l8 y8 z8
  obtain ⟨rfl, rfl, e8⟩ := hQ8
  have N8 := Fr.app N7 (Fr.nil n0)
  refine Go.step st8 ?_
  show Go FrameEnd p e below s 16 128 (Q0 Z p1 p2 p3 p4 p5 p6 h0 n0) (T8.setTop (mkF m 28 #[.val (.int p1), .val (.int p2), .val (.int p3), .val (.int p4), .val (.int p5), .val (.int p6), .val (.ref b1), .unset, .unset, .unset, .unset, .unset, .unset] [(.int (pickF p3)), (.int (2 : Int32)), (.ref b1)]))
  obtain ⟨c9, Ac9, Sc9, Mc9, Gc9⟩ := id V7
  obtain ⟨T10, h10, X10, e10, W10, st10⟩ := stB X8 hx hZ e8 Ac9 (j := (2 : Int32)) (own_in Sc9 (by decide) (by decide)) (g := (mkF m 28 #[.val (.int p1), .val (.int p2), .val (.int p3), .val (.int p4), .val (.int p5), .val (.int p6), .val (.ref b1), .unset, .unset, .unset, .unset, .unset, .unset] [(.int (pickF p3)), (.int (2 : Int32)), (.ref b1)])) rfl rfl (hb hby at_28)
  refine Go.step st10 ?_
  rw [own_pickb] at W10
  have N10 := Fr.snoc X10 N8 g_b1
  have Z10 : n0 ≤ h10.size := Nat.le_trans Z7 (Keep.of_wr W10).1
  have V10 : Av Z h10 b1 .byte 5 (aset (aset (aset (fun _ => (.int (0 : Int32))) 0 (.int (pickF p1))) 1 (.int (pickF p2))) 2 (.int (pickF p3))) := Av.set Ac9 Sc9 Mc9 Gc9 W10 (by rfl) (own_in Sc9 (by decide) (by decide))
  show Go FrameEnd p e below s 16 128 (Q0 Z p1 p2 p3 p4 p5 p6 h0 n0) (T10.setTop (mkF m 29 #[.val (.int p1), .val (.int p2), .val (.int p3), .val (.int p4), .val (.int p5), .val (.int p6), .val (.ref b1), .unset, .unset, .unset, .unset, .unset, .unset] []))
  refine Go.step (fun _ k => XS.aload X10.here hx rfl (hb hby at_29) rfl rfl k) ?_
  show Go FrameEnd p e below s 16 128 (Q0 Z p1 p2 p3 p4 p5 p6 h0 n0) (T10.setTop (mkF m 31 #[.val (.int p1), .val (.int p2), .val (.int p3), .val (.int p4), .val (.int p5), .val (.int p6), .val (.ref b1), .unset, .unset, .unset, .unset, .unset, .unset] [(.ref b1)]))
  refine Go.step (fun _ k => XS.iconst X10.here hx rfl (hb hby at_31) k) ?_
  show Go FrameEnd p e below s 16 128 (Q0 Z p1 p2 p3 p4 p5 p6 h0 n0) (T10.setTop (mkF m 32 #[.val (.int p1), .val (.int p2), .val (.int p3), .val (.int p4), .val (.int p5), .val (.int p6), .val (.ref b1), .unset, .unset, .unset, .unset, .unset, .unset] [(.int (3 : Int32)), (.ref b1)]))
  refine Go.step (fun _ k => XS.iloadN X10.here hx rfl (hb hby at_32) rfl k) ?_
  show Go FrameEnd p e below s 16 128 (Q0 Z p1 p2 p3 p4 p5 p6 h0 n0) (T10.setTop (mkF m 33 #[.val (.int p1), .val (.int p2), .val (.int p3), .val (.int p4), .val (.int p5), .val (.int p6), .val (.ref b1), .unset, .unset, .unset, .unset, .unset, .unset] [(.int p4), (.int (3 : Int32)), (.ref b1)]))
  obtain ⟨_, _, ⟨T11, L11, k11, n11⟩, -, X11, ⟨Lc11, hQ11, l11, y11, z11⟩, st11⟩ := Jvm.LawKit.callS X10 hx (y := (⟨"com/example/quotewire/quotewire/codec/FixFloatIsValidPinLaw", "pick", "(I)B"⟩ : MethodName)) hown (mvT hZ (hw _ (List.mem_of_getElem? (i := 1) rfl))) (mvT hZ (hw _ (List.mem_of_getElem? (i := 2) rfl))) (mvT hZ (hw _ (List.mem_of_getElem? (i := 3) rfl))) (mvT hZ (hw _ (List.mem_of_getElem? (i := 4) rfl))) (by decide) (backOf (W := 2) (rm1 l Z a0 hw [] p4  h10 ) hZ (hw _ (List.mem_of_getElem? (i := 4) rfl)) (hw _ (List.mem_of_getElem? (i := 3) rfl)) (by decide) (by decide)) (g := (mkF m 33 #[.val (.int p1), .val (.int p2), .val (.int p3), .val (.int p4), .val (.int p5), .val (.int p6), .val (.ref b1), .unset, .unset, .unset, .unset, .unset, .unset] [(.int p4), (.int (3 : Int32)), (.ref b1)])) rfl (by rw [hml]; rfl) (argsL := [(.int p4)]) (rest := [(.int (3 : Int32)), (.ref b1)]) (lenOf pd__I_B rfl) rfl (by show 2 * 0 + _ ≤ _; exact Nat.le_of_eq rfl) (hb hby at_33) (fun _ _ => ⟨rfl, e10, (by decide : 1 + 0 ≤ _), (by decide : 5 + 0 ≤ _)⟩)
  dsimp only [Pt.U, Pt.locs, Pt.cells, Pt.slots] at X11 l11 y11 z11 st11 hQ11
  subst l11 y11 z11
  obtain ⟨rfl, rfl, e11⟩ := hQ11
  have N11 := Fr.app N10 (Fr.nil n0)
  refine Go.step st11 ?_
  show Go FrameEnd p e below s 16 128 (Q0 Z p1 p2 p3 p4 p5 p6 h0 n0) (T11.setTop (mkF m 36 #[.val (.int p1), .val (.int p2), .val (.int p3), .val (.int p4), .val (.int p5), .val (.int p6), .val (.ref b1), .unset, .unset, .unset, .unset, .unset, .unset] [(.int (pickF p4)), (.int (3 : Int32)), (.ref b1)]))
  obtain ⟨c12, Ac12, Sc12, Mc12, Gc12⟩ := id V10
  obtain ⟨T13, h13, X13, e13, W13, st13⟩ := stB X11 hx hZ e11 Ac12 (j := (3 : Int32)) (own_in Sc12 (by decide) (by decide)) (g := (mkF m 36 #[.val (.int p1), .val (.int p2), .val (.int p3), .val (.int p4), .val (.int p5), .val (.int p6), .val (.ref b1), .unset, .unset, .unset, .unset, .unset, .unset] [(.int (pickF p4)), (.int (3 : Int32)), (.ref b1)])) rfl rfl (hb hby at_36)
  refine Go.step st13 ?_
  rw [own_pickb] at W13
  have N13 := Fr.snoc X13 N11 g_b1
  have Z13 : n0 ≤ h13.size := Nat.le_trans Z10 (Keep.of_wr W13).1
  have V13 : Av Z h13 b1 .byte 5 (aset (aset (aset (aset (fun _ => (.int (0 : Int32))) 0 (.int (pickF p1))) 1 (.int (pickF p2))) 2 (.int (pickF p3))) 3 (.int (pickF p4))) := Av.set Ac12 Sc12 Mc12 Gc12 W13 (by rfl) (own_in Sc12 (by decide) (by decide))
  show Go FrameEnd p e below s 16 128 (Q0 Z p1 p2 p3 p4 p5 p6 h0 n0) (T13.setTop (mkF m 37 #[.val (.int p1), .val (.int p2), .val (.int p3), .val (.int p4), .val (.int p5), .val (.int p6), .val (.ref b1), .unset, .unset, .unset, .unset, .unset, .unset] []))
  refine Go.step (fun _ k => XS.aload X13.here hx rfl (hb hby at_37) rfl rfl k) ?_
  show Go FrameEnd p e below s 16 128 (Q0 Z p1 p2 p3 p4 p5 p6 h0 n0) (T13.setTop (mkF m 39 #[.val (.int p1), .val (.int p2), .val (.int p3), .val (.int p4), .val (.int p5), .val (.int p6), .val (.ref b1), .unset, .unset, .unset, .unset, .unset, .unset] [(.ref b1)]))
  refine Go.step (fun _ k => XS.iconst X13.here hx rfl (hb hby at_39) k) ?_
  show Go FrameEnd p e below s 16 128 (Q0 Z p1 p2 p3 p4 p5 p6 h0 n0) (T13.setTop (mkF m 40 #[.val (.int p1), .val (.int p2), .val (.int p3), .val (.int p4), .val (.int p5), .val (.int p6), .val (.ref b1), .unset, .unset, .unset, .unset, .unset, .unset] [(.int (4 : Int32)), (.ref b1)]))
  refine Go.step (fun _ k => XS.iload X13.here hx rfl (hb hby at_40) rfl k) ?_
  show Go FrameEnd p e below s 16 128 (Q0 Z p1 p2 p3 p4 p5 p6 h0 n0) (T13.setTop (mkF m 42 #[.val (.int p1), .val (.int p2), .val (.int p3), .val (.int p4), .val (.int p5), .val (.int p6), .val (.ref b1), .unset, .unset, .unset, .unset, .unset, .unset] [(.int p5), (.int (4 : Int32)), (.ref b1)]))
  obtain ⟨_, _, ⟨T14, L14, k14, n14⟩, -, X14, ⟨Lc14, hQ14, l14, y14, z14⟩, st14⟩ := Jvm.LawKit.callS X13 hx (y := (⟨"com/example/quotewire/quotewire/codec/FixFloatIsValidPinLaw", "pick", "(I)B"⟩ : MethodName)) hown (mvT hZ (hw _ (List.mem_of_getElem? (i := 1) rfl))) (mvT hZ (hw _ (List.mem_of_getElem? (i := 2) rfl))) (mvT hZ (hw _ (List.mem_of_getElem? (i := 3) rfl))) (mvT hZ (hw _ (List.mem_of_getElem? (i := 4) rfl))) (by decide) (backOf (W := 2) (rm1 l Z a0 hw [] p5  h13 ) hZ (hw _ (List.mem_of_getElem? (i := 4) rfl)) (hw _ (List.mem_of_getElem? (i := 3) rfl)) (by decide) (by decide)) (g := (mkF m 42 #[.val (.int p1), .val (.int p2), .val (.int p3), .val (.int p4), .val (.int p5), .val (.int p6), .val (.ref b1), .unset, .unset, .unset, .unset, .unset, .unset] [(.int p5), (.int (4 : Int32)), (.ref b1)])) rfl (by rw [hml]; rfl) (argsL := [(.int p5)]) (rest := [(.int (4 : Int32)), (.ref b1)]) (lenOf pd__I_B rfl) rfl (by show 2 * 0 + _ ≤ _; exact Nat.le_of_eq rfl) (hb hby at_42) (fun _ _ => ⟨rfl, e13, (by decide : 1 + 0 ≤ _), (by decide : 5 + 0 ≤ _)⟩)
  dsimp only [Pt.U, Pt.locs, Pt.cells, Pt.slots] at X14 l14 y14 z14 st14 hQ14
  subst l14 y14 z14
  obtain ⟨rfl, rfl, e14⟩ := hQ14
  have N14 := Fr.app N13 (Fr.nil n0)
  refine Go.step st14 ?_
  show Go FrameEnd p e below s 16 128 (Q0 Z p1 p2 p3 p4 p5 p6 h0 n0) (T14.setTop (mkF m 45 #[.val (.int p1), .val (.int p2), .val (.int p3), .val (.int p4), .val (.int p5), .val (.int p6), .val (.ref b1), .unset, .unset, .unset, .unset, .unset, .unset] [(.int (pickF p5)), (.int (4 : Int32)), (.ref b1)]))
  obtain ⟨c15, Ac15, Sc15, Mc15, Gc15⟩ := id V13
  obtain ⟨T16, h16, X16, e16, W16, st16⟩ := stB X14 hx hZ e14 Ac15 (j := (4 : Int32)) (own_in Sc15 (by decide) (by decide)) (g := (mkF m 45 #[.val (.int p1), .val (.int p2), .val (.int p3), .val (.int p4), .val (.int p5), .val (.int p6), .val (.ref b1), .unset, .unset, .unset, .unset, .unset, .unset] [(.int (pickF p5)), (.int (4 : Int32)), (.ref b1)])) rfl rfl (hb hby at_45)
  refine Go.step st16 ?_
  rw [own_pickb] at W16
  have N16 := Fr.snoc X16 N14 g_b1
  have Z16 : n0 ≤ h16.size := Nat.le_trans Z13 (Keep.of_wr W16).1
  have V16 : Av Z h16 b1 .byte 5 (aset (aset (aset (aset (aset (fun _ => (.int (0 : Int32))) 0 (.int (pickF p1))) 1 (.int (pickF p2))) 2 (.int (pickF p3))) 3 (.int (pickF p4))) 4 (.int (pickF p5))) := Av.set Ac15 Sc15 Mc15 Gc15 W16 (by rfl) (own_in Sc15 (by decide) (by decide))
  have V16 : Av Z h16 b1 .byte 5 (fun j => .int ((bg (pickF p1) (pickF p2) (pickF p3) (pickF p4) (pickF p5)) j)) := V16.eq (own_bg _ _ _ _ _)
  show Go FrameEnd p e below s 16 128 (Q0 Z p1 p2 p3 p4 p5 p6 h0 n0) (T16.setTop (mkF m 46 #[.val (.int p1), .val (.int p2), .val (.int p3), .val (.int p4), .val (.int p5), .val (.int p6), .val (.ref b1), .unset, .unset, .unset, .unset, .unset, .unset] []))
  obtain ⟨a, b, hab, hbb, ea, e6, eb⟩ := own_range p6
  refine Go.step (fun _ k => XS.iload X16.here hx rfl (hb hby at_46) rfl k) ?_
  show Go FrameEnd p e below s 16 128 (Q0 Z p1 p2 p3 p4 p5 p6 h0 n0) (T16.setTop (mkF m 48 #[.val (.int p1), .val (.int p2), .val (.int p3), .val (.int p4), .val (.int p5), .val (.int p6), .val (.ref b1), .unset, .unset, .unset, .unset, .unset, .unset] [(.int p6)]))
  refine Go.step (fun _ k => XS.sipush X16.here hx rfl (hb hby at_48) k) ?_
  show Go FrameEnd p e below s 16 128 (Q0 Z p1 p2 p3 p4 p5 p6 h0 n0) (T16.setTop (mkF m 51 #[.val (.int p1), .val (.int p2), .val (.int p3), .val (.int p4), .val (.int p5), .val (.int p6), .val (.ref b1), .unset, .unset, .unset, .unset, .unset, .unset] [(.int (255 : Int32)), (.int p6)]))
  refine Go.step (fun _ k => XS.iand X16.here hx rfl (hb hby at_51) rfl k) ?_
  show Go FrameEnd p e below s 16 128 (Q0 Z p1 p2 p3 p4 p5 p6 h0 n0) (T16.setTop (mkF m 52 #[.val (.int p1), .val (.int p2), .val (.int p3), .val (.int p4), .val (.int p5), .val (.int p6), .val (.ref b1), .unset, .unset, .unset, .unset, .unset, .unset] [(.int (p6 &&& (255 : Int32)))]))
  refine Go.step (fun _ k => XS.bipush X16.here hx rfl (hb hby at_52) k) ?_
  show Go FrameEnd p e below s 16 128 (Q0 Z p1 p2 p3 p4 p5 p6 h0 n0) (T16.setTop (mkF m 54 #[.val (.int p1), .val (.int p2), .val (.int p3), .val (.int p4), .val (.int p5), .val (.int p6), .val (.ref b1), .unset, .unset, .unset, .unset, .unset, .unset] [(.int (6 : Int32)), (.int (p6 &&& (255 : Int32)))]))
  refine Go.step (fun _ k => iremM X16 hx rfl (hb hby at_54) rfl (by decide) k) ?_
  show Go FrameEnd p e below s 16 128 (Q0 Z p1 p2 p3 p4 p5 p6 h0 n0) (T16.setTop (mkF m 55 #[.val (.int p1), .val (.int p2), .val (.int p3), .val (.int p4), .val (.int p5), .val (.int p6), .val (.ref b1), .unset, .unset, .unset, .unset, .unset, .unset] [(.int ((p6 &&& (255 : Int32)) % (6 : Int32)))]))
  rw [ea]
  show Go FrameEnd p e below s 16 128 (Q0 Z p1 p2 p3 p4 p5 p6 h0 n0) (T16.setTop (mkF m 55 #[.val (.int p1), .val (.int p2), .val (.int p3), .val (.int p4), .val (.int p5), .val (.int p6), .val (.ref b1), .unset, .unset, .unset, .unset, .unset, .unset] [(.int (Int32.ofNat a))]))
  refine Go.step (fun _ k => XS.istore X16.here hx rfl (hb hby at_55) rfl (l' := #[.val (.int p1), .val (.int p2), .val (.int p3), .val (.int p4), .val (.int p5), .val (.int p6), .val (.ref b1), .val (.int (Int32.ofNat a)), .unset, .unset, .unset, .unset, .unset]) rfl k) ?_
  show Go FrameEnd p e below s 16 128 (Q0 Z p1 p2 p3 p4 p5 p6 h0 n0) (T16.setTop (mkF m 57 #[.val (.int p1), .val (.int p2), .val (.int p3), .val (.int p4), .val (.int p5), .val (.int p6), .val (.ref b1), .val (.int (Int32.ofNat a)), .unset, .unset, .unset, .unset, .unset] []))
  refine Go.step (fun _ k => XS.iload X16.here hx rfl (hb hby at_57) rfl k) ?_
  show Go FrameEnd p e below s 16 128 (Q0 Z p1 p2 p3 p4 p5 p6 h0 n0) (T16.setTop (mkF m 59 #[.val (.int p1), .val (.int p2), .val (.int p3), .val (.int p4), .val (.int p5), .val (.int p6), .val (.ref b1), .val (.int (Int32.ofNat a)), .unset, .unset, .unset, .unset, .unset] [(.int (Int32.ofNat a))]))
  refine Go.step (fun _ k => XS.iload X16.here hx rfl (hb hby at_59) rfl k) ?_
  show Go FrameEnd p e below s 16 128 (Q0 Z p1 p2 p3 p4 p5 p6 h0 n0) (T16.setTop (mkF m 61 #[.val (.int p1), .val (.int p2), .val (.int p3), .val (.int p4), .val (.int p5), .val (.int p6), .val (.ref b1), .val (.int (Int32.ofNat a)), .unset, .unset, .unset, .unset, .unset] [(.int p6), (.int (Int32.ofNat a))]))
  refine Go.step (fun _ k => XS.bipush X16.here hx rfl (hb hby at_61) k) ?_
  show Go FrameEnd p e below s 16 128 (Q0 Z p1 p2 p3 p4 p5 p6 h0 n0) (T16.setTop (mkF m 63 #[.val (.int p1), .val (.int p2), .val (.int p3), .val (.int p4), .val (.int p5), .val (.int p6), .val (.ref b1), .val (.int (Int32.ofNat a)), .unset, .unset, .unset, .unset, .unset] [(.int (8 : Int32)), (.int p6), (.int (Int32.ofNat a))]))
  refine Go.step (fun _ k => XS.iushr X16.here hx rfl (hb hby at_63) rfl k) ?_
  show Go FrameEnd p e below s 16 128 (Q0 Z p1 p2 p3 p4 p5 p6 h0 n0) (T16.setTop (mkF m 64 #[.val (.int p1), .val (.int p2), .val (.int p3), .val (.int p4), .val (.int p5), .val (.int p6), .val (.ref b1), .val (.int (Int32.ofNat a)), .unset, .unset, .unset, .unset, .unset] [(.int (ushI p6 (8 : Int32))), (.int (Int32.ofNat a))]))
  refine Go.step (fun _ k => XS.sipush X16.here hx rfl (hb hby at_64) k) ?_
  show Go FrameEnd p e below s 16 128 (Q0 Z p1 p2 p3 p4 p5 p6 h0 n0) (T16.setTop (mkF m 67 #[.val (.int p1), .val (.int p2), .val (.int p3), .val (.int p4), .val (.int p5), .val (.int p6), .val (.ref b1), .val (.int (Int32.ofNat a)), .unset, .unset, .unset, .unset, .unset] [(.int (255 : Int32)), (.int (ushI p6 (8 : Int32))), (.int (Int32.ofNat a))]))
  refine Go.step (fun _ k => XS.iand X16.here hx rfl (hb hby at_67) rfl k) ?_
  show Go FrameEnd p e below s 16 128 (Q0 Z p1 p2 p3 p4 p5 p6 h0 n0) (T16.setTop (mkF m 68 #[.val (.int p1), .val (.int p2), .val (.int p3), .val (.int p4), .val (.int p5), .val (.int p6), .val (.ref b1), .val (.int (Int32.ofNat a)), .unset, .unset, .unset, .unset, .unset] [(.int ((ushI p6 (8 : Int32)) &&& (255 : Int32))), (.int (Int32.ofNat a))]))
  refine Go.step (fun _ k => XS.bipush X16.here hx rfl (hb hby at_68) k) ?_
  show Go FrameEnd p e below s 16 128 (Q0 Z p1 p2 p3 p4 p5 p6 h0 n0) (T16.setTop (mkF m 70 #[.val (.int p1), .val (.int p2), .val (.int p3), .val (.int p4), .val (.int p5), .val (.int p6), .val (.ref b1), .val (.int (Int32.ofNat a)), .unset, .unset, .unset, .unset, .unset] [(.int (6 : Int32)), (.int ((ushI p6 (8 : Int32)) &&& (255 : Int32))), (.int (Int32.ofNat a))]))
  refine Go.step (fun _ k => XS.iload X16.here hx rfl (hb hby at_70) rfl k) ?_
  show Go FrameEnd p e below s 16 128 (Q0 Z p1 p2 p3 p4 p5 p6 h0 n0) (T16.setTop (mkF m 72 #[.val (.int p1), .val (.int p2), .val (.int p3), .val (.int p4), .val (.int p5), .val (.int p6), .val (.ref b1), .val (.int (Int32.ofNat a)), .unset, .unset, .unset, .unset, .unset] [(.int (Int32.ofNat a)), (.int (6 : Int32)), (.int ((ushI p6 (8 : Int32)) &&& (255 : Int32))), (.int (Int32.ofNat a))]))
  refine Go.step (fun _ k => XS.isub X16.here hx rfl (hb hby at_72) rfl k) ?_
  show Go FrameEnd p e below s 16 128 (Q0 Z p1 p2 p3 p4 p5 p6 h0 n0) (T16.setTop (mkF m 73 #[.val (.int p1), .val (.int p2), .val (.int p3), .val (.int p4), .val (.int p5), .val (.int p6), .val (.ref b1), .val (.int (Int32.ofNat a)), .unset, .unset, .unset, .unset, .unset] [(.int ((6 : Int32) - (Int32.ofNat a))), (.int ((ushI p6 (8 : Int32)) &&& (255 : Int32))), (.int (Int32.ofNat a))]))
  refine Go.step (fun _ k => iremM X16 hx rfl (hb hby at_73) rfl e6 k) ?_
  show Go FrameEnd p e below s 16 128 (Q0 Z p1 p2 p3 p4 p5 p6 h0 n0) (T16.setTop (mkF m 74 #[.val (.int p1), .val (.int p2), .val (.int p3), .val (.int p4), .val (.int p5), .val (.int p6), .val (.ref b1), .val (.int (Int32.ofNat a)), .unset, .unset, .unset, .unset, .unset] [(.int (((ushI p6 (8 : Int32)) &&& (255 : Int32)) % ((6 : Int32) - (Int32.ofNat a)))), (.int (Int32.ofNat a))]))
  refine Go.step (fun _ k => XS.iadd X16.here hx rfl (hb hby at_74) rfl k) ?_
  show Go FrameEnd p e below s 16 128 (Q0 Z p1 p2 p3 p4 p5 p6 h0 n0) (T16.setTop (mkF m 75 #[.val (.int p1), .val (.int p2), .val (.int p3), .val (.int p4), .val (.int p5), .val (.int p6), .val (.ref b1), .val (.int (Int32.ofNat a)), .unset, .unset, .unset, .unset, .unset] [(.int ((Int32.ofNat a) + (((ushI p6 (8 : Int32)) &&& (255 : Int32)) % ((6 : Int32) - (Int32.ofNat a)))))]))
  rw [eb]
  show Go FrameEnd p e below s 16 128 (Q0 Z p1 p2 p3 p4 p5 p6 h0 n0) (T16.setTop (mkF m 75 #[.val (.int p1), .val (.int p2), .val (.int p3), .val (.int p4), .val (.int p5), .val (.int p6), .val (.ref b1), .val (.int (Int32.ofNat a)), .unset, .unset, .unset, .unset, .unset] [(.int (Int32.ofNat b))]))
  refine Go.step (fun _ k => XS.istore X16.here hx rfl (hb hby at_75) rfl (l' := #[.val (.int p1), .val (.int p2), .val (.int p3), .val (.int p4), .val (.int p5), .val (.int p6), .val (.ref b1), .val (.int (Int32.ofNat a)), .val (.int (Int32.ofNat b)), .unset, .unset, .unset, .unset]) rfl k) ?_
  show Go FrameEnd p e below s 16 128 (Q0 Z p1 p2 p3 p4 p5 p6 h0 n0) (T16.setTop (mkF m 77 #[.val (.int p1), .val (.int p2), .val (.int p3), .val (.int p4), .val (.int p5), .val (.int p6), .val (.ref b1), .val (.int (Int32.ofNat a)), .val (.int (Int32.ofNat b)), .unset, .unset, .unset, .unset] []))
  have J147_17 : ∀ (Tg18 : State) (Lg18 : List Loc), Stand p l e room_1 s m #[(.int p1), (.int p2), (.int p3), (.int p4), (.int p5), (.int p6)] below meth c Tg18 Lg18 (1) (5) → Fr n0 Lg18 → Tg18.heap = h16 → ∀ (y : Int32), (anyV (badF ((bg (pickF p1) (pickF p2) (pickF p3) (pickF p4) (pickF p5)) 0) (Int32.ofNat 0) (Int32.ofNat a) (Int32.ofNat b)) (badF ((bg (pickF p1) (pickF p2) (pickF p3) (pickF p4) (pickF p5)) 1) (Int32.ofNat 1) (Int32.ofNat a) (Int32.ofNat b)) (badF ((bg (pickF p1) (pickF p2) (pickF p3) (pickF p4) (pickF p5)) 2) (Int32.ofNat 2) (Int32.ofNat a) (Int32.ofNat b)) (badF ((bg (pickF p1) (pickF p2) (pickF p3) (pickF p4) (pickF p5)) 3) (Int32.ofNat 3) (Int32.ofNat a) (Int32.ofNat b)) (badF ((bg (pickF p1) (pickF p2) (pickF p3) (pickF p4) (pickF p5)) 4) (Int32.ofNat 4) (Int32.ofNat a) (Int32.ofNat b)) = y) → Go FrameEnd p e below s 16 128 (Q0 Z p1 p2 p3 p4 p5 p6 h0 n0) (Tg18.setTop (mkF m 147 #[.val (.int p1), .val (.int p2), .val (.int p3), .val (.int p4), .val (.int p5), .val (.int p6), .val (.ref b1), .val (.int (Int32.ofNat a)), .val (.int (Int32.ofNat b)), .unset, .unset, .unset, .unset] [(.int y)])) := by
    intro Tg18 Lg18 Xg18 Ng18 eg18 y hy
    show Go FrameEnd p e below s 16 128 (Q0 Z p1 p2 p3 p4 p5 p6 h0 n0) (Tg18.setTop (mkF m 147 #[.val (.int p1), .val (.int p2), .val (.int p3), .val (.int p4), .val (.int p5), .val (.int p6), .val (.ref b1), .val (.int (Int32.ofNat a)), .val (.int (Int32.ofNat b)), .unset, .unset, .unset, .unset] [(.int y)]))
    refine Go.step (fun _ k => XS.istore Xg18.here hx rfl (hb hby at_147) rfl (l' := #[.val (.int p1), .val (.int p2), .val (.int p3), .val (.int p4), .val (.int p5), .val (.int p6), .val (.ref b1), .val (.int (Int32.ofNat a)), .val (.int (Int32.ofNat b)), .val (.int y), .unset, .unset, .unset]) rfl k) ?_
    show Go FrameEnd p e below s 16 128 (Q0 Z p1 p2 p3 p4 p5 p6 h0 n0) (Tg18.setTop (mkF m 149 #[.val (.int p1), .val (.int p2), .val (.int p3), .val (.int p4), .val (.int p5), .val (.int p6), .val (.ref b1), .val (.int (Int32.ofNat a)), .val (.int (Int32.ofNat b)), .val (.int y), .unset, .unset, .unset] []))
    refine Go.step (fun _ k => XS.aload Xg18.here hx rfl (hb hby at_149) rfl rfl k) ?_
    show Go FrameEnd p e below s 16 128 (Q0 Z p1 p2 p3 p4 p5 p6 h0 n0) (Tg18.setTop (mkF m 151 #[.val (.int p1), .val (.int p2), .val (.int p3), .val (.int p4), .val (.int p5), .val (.int p6), .val (.ref b1), .val (.int (Int32.ofNat a)), .val (.int (Int32.ofNat b)), .val (.int y), .unset, .unset, .unset] [(.ref b1)]))
    refine Go.step (fun _ k => XS.iconst Xg18.here hx rfl (hb hby at_151) k) ?_
    show Go FrameEnd p e below s 16 128 (Q0 Z p1 p2 p3 p4 p5 p6 h0 n0) (Tg18.setTop (mkF m 152 #[.val (.int p1), .val (.int p2), .val (.int p3), .val (.int p4), .val (.int p5), .val (.int p6), .val (.ref b1), .val (.int (Int32.ofNat a)), .val (.int (Int32.ofNat b)), .val (.int y), .unset, .unset, .unset] [(.int (0 : Int32)), (.ref b1)]))
    refine Go.step (fun _ k => XS.iload Xg18.here hx rfl (hb hby at_152) rfl k) ?_
    show Go FrameEnd p e below s 16 128 (Q0 Z p1 p2 p3 p4 p5 p6 h0 n0) (Tg18.setTop (mkF m 154 #[.val (.int p1), .val (.int p2), .val (.int p3), .val (.int p4), .val (.int p5), .val (.int p6), .val (.ref b1), .val (.int (Int32.ofNat a)), .val (.int (Int32.ofNat b)), .val (.int y), .unset, .unset, .unset] [(.int (Int32.ofNat a)), (.int (0 : Int32)), (.ref b1)]))
    refine Go.step (fun _ k => XS.iload Xg18.here hx rfl (hb hby at_154) rfl k) ?_
    show Go FrameEnd p e below s 16 128 (Q0 Z p1 p2 p3 p4 p5 p6 h0 n0) (Tg18.setTop (mkF m 156 #[.val (.int p1), .val (.int p2), .val (.int p3), .val (.int p4), .val (.int p5), .val (.int p6), .val (.ref b1), .val (.int (Int32.ofNat a)), .val (.int (Int32.ofNat b)), .val (.int y), .unset, .unset, .unset] [(.int (Int32.ofNat b)), (.int (Int32.ofNat a)), (.int (0 : Int32)), (.ref b1)]))
    obtain ⟨_, _, ⟨T19, L19, k19, n19⟩, -, X19, ⟨Lc19, hQ19, l19, y19, z19⟩, st19⟩ := Jvm.LawKit.callS Xg18 hx (y := (⟨"com/example/quotewire/quotewire/codec/FixFloatIsValidPinLaw", "digit", "([BIII)I"⟩ : MethodName)) hown (mvT hZ (hw _ (List.mem_of_getElem? (i := 11) rfl))) (mvT hZ (hw _ (List.mem_of_getElem? (i := 12) rfl))) (mvT hZ (hw _ (List.mem_of_getElem? (i := 3) rfl))) (mvT hZ (hw _ (List.mem_of_getElem? (i := 13) rfl))) (by decide) (backOf (W := 0) (rm4 l Z a0 hw [] b1 (Int32.ofNat a) (Int32.ofNat b) (bg (pickF p1) (pickF p2) (pickF p3) (pickF p4) (pickF p5)) 0 5 h16 V16 (by decide)) hZ (hw _ (List.mem_of_getElem? (i := 13) rfl)) (hw _ (List.mem_of_getElem? (i := 3) rfl)) (by decide) (by decide)) (g := (mkF m 156 #[.val (.int p1), .val (.int p2), .val (.int p3), .val (.int p4), .val (.int p5), .val (.int p6), .val (.ref b1), .val (.int (Int32.ofNat a)), .val (.int (Int32.ofNat b)), .val (.int y), .unset, .unset, .unset] [(.int (Int32.ofNat b)), (.int (Int32.ofNat a)), (.int (0 : Int32)), (.ref b1)])) rfl (by rw [hml]; rfl) (argsL := [(.ref b1), (.int (0 : Int32)), (.int (Int32.ofNat a)), (.int (Int32.ofNat b))]) (rest := []) (lenOf pd___BIII_I rfl) rfl (by show 2 * 0 + _ ≤ _; exact Nat.le_of_eq rfl) (hb hby at_156) (fun _ _ => ⟨rfl, eg18, (by decide : 1 + 0 ≤ _), (by decide : 5 + 0 ≤ _)⟩)
    dsimp only [Pt.U, Pt.locs, Pt.cells, Pt.slots] at X19 l19 y19 z19 st19 hQ19
    subst l19 y19 z19
    obtain ⟨rfl, rfl, e19⟩ := hQ19
    have N19 := Fr.app Ng18 (Fr.nil n0)
    refine Go.step st19 ?_
    show Go FrameEnd p e below s 16 128 (Q0 Z p1 p2 p3 p4 p5 p6 h0 n0) (T19.setTop (mkF m 159 #[.val (.int p1), .val (.int p2), .val (.int p3), .val (.int p4), .val (.int p5), .val (.int p6), .val (.ref b1), .val (.int (Int32.ofNat a)), .val (.int (Int32.ofNat b)), .val (.int y), .unset, .unset, .unset] [(.int (digF ((bg (pickF p1) (pickF p2) (pickF p3) (pickF p4) (pickF p5)) 0) (Int32.ofNat 0) (Int32.ofNat a) (Int32.ofNat b)))]))
    refine Go.step (fun _ k => XS.aload X19.here hx rfl (hb hby at_159) rfl rfl k) ?_
    show Go FrameEnd p e below s 16 128 (Q0 Z p1 p2 p3 p4 p5 p6 h0 n0) (T19.setTop (mkF m 161 #[.val (.int p1), .val (.int p2), .val (.int p3), .val (.int p4), .val (.int p5), .val (.int p6), .val (.ref b1), .val (.int (Int32.ofNat a)), .val (.int (Int32.ofNat b)), .val (.int y), .unset, .unset, .unset] [(.ref b1), (.int (digF ((bg (pickF p1) (pickF p2) (pickF p3) (pickF p4) (pickF p5)) 0) (Int32.ofNat 0) (Int32.ofNat a) (Int32.ofNat b)))]))
    refine Go.step (fun _ k => XS.iconst X19.here hx rfl (hb hby at_161) k) ?_
    show Go FrameEnd p e below s 16 128 (Q0 Z p1 p2 p3 p4 p5 p6 h0 n0) (T19.setTop (mkF m 162 #[.val (.int p1), .val (.int p2), .val (.int p3), .val (.int p4), .val (.int p5), .val (.int p6), .val (.ref b1), .val (.int (Int32.ofNat a)), .val (.int (Int32.ofNat b)), .val (.int y), .unset, .unset, .unset] [(.int (1 : Int32)), (.ref b1), (.int (digF ((bg (pickF p1) (pickF p2) (pickF p3) (pickF p4) (pickF p5)) 0) (Int32.ofNat 0) (Int32.ofNat a) (Int32.ofNat b)))]))
    refine Go.step (fun _ k => XS.iload X19.here hx rfl (hb hby at_162) rfl k) ?_
    show Go FrameEnd p e below s 16 128 (Q0 Z p1 p2 p3 p4 p5 p6 h0 n0) (T19.setTop (mkF m 164 #[.val (.int p1), .val (.int p2), .val (.int p3), .val (.int p4), .val (.int p5), .val (.int p6), .val (.ref b1), .val (.int (Int32.ofNat a)), .val (.int (Int32.ofNat b)), .val (.int y), .unset, .unset, .unset] [(.int (Int32.ofNat a)), (.int (1 : Int32)), (.ref b1), (.int (digF ((bg (pickF p1) (pickF p2) (pickF p3) (pickF p4) (pickF p5)) 0) (Int32.ofNat 0) (Int32.ofNat a) (Int32.ofNat b)))]))
    refine Go.step (fun _ k => XS.iload X19.here hx rfl (hb hby at_164) rfl k) ?_
    show Go FrameEnd p e below s 16 128 (Q0 Z p1 p2 p3 p4 p5 p6 h0 n0) (T19.setTop (mkF m 166 #[.val (.int p1), .val (.int p2), .val (.int p3), .val (.int p4), .val (.int p5), .val (.int p6), .val (.ref b1), .val (.int (Int32.ofNat a)), .val (.int (Int32.ofNat b)), .val (.int y), .unset, .unset, .unset] [(.int (Int32.ofNat b)), (.int (Int32.ofNat a)), (.int (1 : Int32)), (.ref b1), (.int (digF ((bg (pickF p1) (pickF p2) (pickF p3) (pickF p4) (pickF p5)) 0) (Int32.ofNat 0) (Int32.ofNat a) (Int32.ofNat b)))]))
    obtain ⟨_, _, ⟨T20, L20, k20, n20⟩, -, X20, ⟨Lc20, hQ20, l20, y20, z20⟩, st20⟩ := Jvm.LawKit.callS X19 hx (y := (⟨"com/example/quotewire/quotewire/codec/FixFloatIsValidPinLaw", "digit", "([BIII)I"⟩ : MethodName)) hown (mvT hZ (hw _ (List.mem_of_getElem? (i := 11) rfl))) (mvT hZ (hw _ (List.mem_of_getElem? (i := 12) rfl))) (mvT hZ (hw _ (List.mem_of_getElem? (i := 3) rfl))) (mvT hZ (hw _ (List.mem_of_getElem? (i := 13) rfl))) (by decide) (backOf (W := 1) (rm4 l Z a0 hw [] b1 (Int32.ofNat a) (Int32.ofNat b) (bg (pickF p1) (pickF p2) (pickF p3) (pickF p4) (pickF p5)) 1 5 h16 V16 (by decide)) hZ (hw _ (List.mem_of_getElem? (i := 13) rfl)) (hw _ (List.mem_of_getElem? (i := 3) rfl)) (by decide) (by decide)) (g := (mkF m 166 #[.val (.int p1), .val (.int p2), .val (.int p3), .val (.int p4), .val (.int p5), .val (.int p6), .val (.ref b1), .val (.int (Int32.ofNat a)), .val (.int (Int32.ofNat b)), .val (.int y), .unset, .unset, .unset] [(.int (Int32.ofNat b)), (.int (Int32.ofNat a)), (.int (1 : Int32)), (.ref b1), (.int (digF ((bg (pickF p1) (pickF p2) (pickF p3) (pickF p4) (pickF p5)) 0) (Int32.ofNat 0) (Int32.ofNat a) (Int32.ofNat b)))])) rfl (by rw [hml]; rfl) (argsL := [(.ref b1), (.int (1 : Int32)), (.int (Int32.ofNat a)), (.int (Int32.ofNat b))]) (rest := [(.int (digF ((bg (pickF p1) (pickF p2) (pickF p3) (pickF p4) (pickF p5)) 0) (Int32.ofNat 0) (Int32.ofNat a) (Int32.ofNat b)))]) (lenOf pd___BIII_I rfl) rfl (by show 2 * 0 + _ ≤ _; exact Nat.le_of_eq rfl) (hb hby at_166) (fun _ _ => ⟨rfl, e19, (by decide : 1 + 0 ≤ _), (by decide : 5 + 0 ≤ _)⟩)
    dsimp only [Pt.U, Pt.locs, Pt.cells, Pt.slots] at X20 l20 y20 z20 st20 hQ20
    subst l20 y20 z20
    obtain ⟨rfl, rfl, e20⟩ := hQ20
    have N20 := Fr.app N19 (Fr.nil n0)
    refine Go.step st20 ?_
    show Go FrameEnd p e below s 16 128 (Q0 Z p1 p2 p3 p4 p5 p6 h0 n0) (T20.setTop (mkF m 169 #[.val (.int p1), .val (.int p2), .val (.int p3), .val (.int p4), .val (.int p5), .val (.int p6), .val (.ref b1), .val (.int (Int32.ofNat a)), .val (.int (Int32.ofNat b)), .val (.int y), .unset, .unset, .unset] [(.int (digF ((bg (pickF p1) (pickF p2) (pickF p3) (pickF p4) (pickF p5)) 1) (Int32.ofNat 1) (Int32.ofNat a) (Int32.ofNat b))), (.int (digF ((bg (pickF p1) (pickF p2) (pickF p3) (pickF p4) (pickF p5)) 0) (Int32.ofNat 0) (Int32.ofNat a) (Int32.ofNat b)))]))
    refine Go.step (fun _ k => XS.iadd X20.here hx rfl (hb hby at_169) rfl k) ?_
    show Go FrameEnd p e below s 16 128 (Q0 Z p1 p2 p3 p4 p5 p6 h0 n0) (T20.setTop (mkF m 170 #[.val (.int p1), .val (.int p2), .val (.int p3), .val (.int p4), .val (.int p5), .val (.int p6), .val (.ref b1), .val (.int (Int32.ofNat a)), .val (.int (Int32.ofNat b)), .val (.int y), .unset, .unset, .unset] [(.int ((digF ((bg (pickF p1) (pickF p2) (pickF p3) (pickF p4) (pickF p5)) 0) (Int32.ofNat 0) (Int32.ofNat a) (Int32.ofNat b)) + (digF ((bg (pickF p1) (pickF p2) (pickF p3) (pickF p4) (pickF p5)) 1) (Int32.ofNat 1) (Int32.ofNat a) (Int32.ofNat b))))]))
    refine Go.step (fun _ k => XS.aload X20.here hx rfl (hb hby at_170) rfl rfl k) ?_
    show Go FrameEnd p e below s 16 128 (Q0 Z p1 p2 p3 p4 p5 p6 h0 n0) (T20.setTop (mkF m 172 #[.val (.int p1), .val (.int p2), .val (.int p3), .val (.int p4), .val (.int p5), .val (.int p6), .val (.ref b1), .val (.int (Int32.ofNat a)), .val (.int (Int32.ofNat b)), .val (.int y), .unset, .unset, .unset] [(.ref b1), (.int ((digF ((bg (pickF p1) (pickF p2) (pickF p3) (pickF p4) (pickF p5)) 0) (Int32.ofNat 0) (Int32.ofNat a) (Int32.ofNat b)) + (digF ((bg (pickF p1) (pickF p2) (pickF p3) (pickF p4) (pickF p5)) 1) (Int32.ofNat 1) (Int32.ofNat a) (Int32.ofNat b))))]))
    refine Go.step (fun _ k => XS.iconst X20.here hx rfl (hb hby at_172) k) ?_
    show Go FrameEnd p e below s 16 128 (Q0 Z p1 p2 p3 p4 p5 p6 h0 n0) (T20.setTop (mkF m 173 #[.val (.int p1), .val (.int p2), .val (.int p3), .val (.int p4), .val (.int p5), .val (.int p6), .val (.ref b1), .val (.int (Int32.ofNat a)), .val (.int (Int32.ofNat b)), .val (.int y), .unset, .unset, .unset] [(.int (2 : Int32)), (.ref b1), (.int ((digF ((bg (pickF p1) (pickF p2) (pickF p3) (pickF p4) (pickF p5)) 0) (Int32.ofNat 0) (Int32.ofNat a) (Int32.ofNat b)) + (digF ((bg (pickF p1) (pickF p2) (pickF p3) (pickF p4) (pickF p5)) 1) (Int32.ofNat 1) (Int32.ofNat a) (Int32.ofNat b))))]))
    refine Go.step (fun _ k => XS.iload X20.here hx rfl (hb hby at_173) rfl k) ?_
    show Go FrameEnd p e below s 16 128 (Q0 Z p1 p2 p3 p4 p5 p6 h0 n0) (T20.setTop (mkF m 175 #[.val (.int p1), .val (.int p2), .val (.int p3), .val (.int p4), .val (.int p5), .val (.int p6), .val (.ref b1), .val (.int (Int32.ofNat a)), .val (.int (Int32.ofNat b)), .val (.int y), .unset, .unset, .unset] [(.int (Int32.ofNat a)), (.int (2 : Int32)), (.ref b1), (.int ((digF ((bg (pickF p1) (pickF p2) (pickF p3) (pickF p4) (pickF p5)) 0) (Int32.ofNat 0) (Int32.ofNat a) (Int32.ofNat b)) + (digF ((bg (pickF p1) (pickF p2) (pickF p3) (pickF p4) (pickF p5)) 1) (Int32.ofNat 1) (Int32.ofNat a) (Int32.ofNat b))))]))
    refine Go.step (fun _ k => XS.iload X20.here hx rfl (hb hby at_175) rfl k) ?_
    show Go FrameEnd p e below s 16 128 (Q0 Z p1 p2 p3 p4 p5 p6 h0 n0) (T20.setTop (mkF m 177 #[.val (.int p1), .val (.int p2), .val (.int p3), .val (.int p4), .val (.int p5), .val (.int p6), .val (.ref b1), .val (.int (Int32.ofNat a)), .val (.int (Int32.ofNat b)), .val (.int y), .unset, .unset, .unset] [(.int (Int32.ofNat b)), (.int (Int32.ofNat a)), (.int (2 : Int32)), (.ref b1), (.int ((digF ((bg (pickF p1) (pickF p2) (pickF p3) (pickF p4) (pickF p5)) 0) (Int32.ofNat 0) (Int32.ofNat a) (Int32.ofNat b)) + (digF ((bg (pickF p1) (pickF p2) (pickF p3) (pickF p4) (pickF p5)) 1) (Int32.ofNat 1) (Int32.ofNat a) (Int32.ofNat b))))]))
    obtain ⟨_, _, ⟨T21, L21, k21, n21⟩, -, X21, ⟨Lc21, hQ21, l21, y21, z21⟩, st21⟩ := Jvm.LawKit.callS X20 hx (y := (⟨"com/example/quotewire/quotewire/codec/FixFloatIsValidPinLaw", "digit", "([BIII)I"⟩ : MethodName)) hown (mvT hZ (hw _ (List.mem_of_getElem? (i := 11) rfl))) (mvT hZ (hw _ (List.mem_of_getElem? (i := 12) rfl))) (mvT hZ (hw _ (List.mem_of_getElem? (i := 3) rfl))) (mvT hZ (hw _ (List.mem_of_getElem? (i := 13) rfl))) (by decide) (backOf (W := 1) (rm4 l Z a0 hw [] b1 (Int32.ofNat a) (Int32.ofNat b) (bg (pickF p1) (pickF p2) (pickF p3) (pickF p4) (pickF p5)) 2 5 h16 V16 (by decide)) hZ (hw _ (List.mem_of_getElem? (i := 13) rfl)) (hw _ (List.mem_of_getElem? (i := 3) rfl)) (by decide) (by decide)) (g := (mkF m 177 #[.val (.int p1), .val (.int p2), .val (.int p3), .val (.int p4), .val (.int p5), .val (.int p6), .val (.ref b1), .val (.int (Int32.ofNat a)), .val (.int (Int32.ofNat b)), .val (.int y), .unset, .unset, .unset] [(.int (Int32.ofNat b)), (.int (Int32.ofNat a)), (.int (2 : Int32)), (.ref b1), (.int ((digF ((bg (pickF p1) (pickF p2) (pickF p3) (pickF p4) (pickF p5)) 0) (Int32.ofNat 0) (Int32.ofNat a) (Int32.ofNat b)) + (digF ((bg (pickF p1) (pickF p2) (pickF p3) (pickF p4) (pickF p5)) 1) (Int32.ofNat 1) (Int32.ofNat a) (Int32.ofNat b))))])) rfl (by rw [hml]; rfl) (argsL := [(.ref b1), (.int (2 : Int32)), (.int (Int32.ofNat a)), (.int (Int32.ofNat b))]) (rest := [(.int ((digF ((bg (pickF p1) (pickF p2) (pickF p3) (pickF p4) (pickF p5)) 0) (Int32.ofNat 0) (Int32.ofNat a) (Int32.ofNat b)) + (digF ((bg (pickF p1) (pickF p2) (pickF p3) (pickF p4) (pickF p5)) 1) (Int32.ofNat 1) (Int32.ofNat a) (Int32.ofNat b))))]) (lenOf pd___BIII_I rfl) rfl (by show 2 * 0 + _ ≤ _; exact Nat.le_of_eq rfl) (hb hby at_177) (fun _ _ => ⟨rfl, e20, (by decide : 1 + 0 ≤ _), (by decide : 5 + 0 ≤ _)⟩)
    dsimp only [Pt.U, Pt.locs, Pt.cells, Pt.slots] at X21 l21 y21 z21 st21 hQ21
    subst l21 y21 z21
    obtain ⟨rfl, rfl, e21⟩ := hQ21
    have N21 := Fr.app N20 (Fr.nil n0)
    refine Go.step st21 ?_
    show Go FrameEnd p e below s 16 128 (Q0 Z p1 p2 p3 p4 p5 p6 h0 n0) (T21.setTop (mkF m 180 #[.val (.int p1), .val (.int p2), .val (.int p3), .val (.int p4), .val (.int p5), .val (.int p6), .val (.ref b1), .val (.int (Int32.ofNat a)), .val (.int (Int32.ofNat b)), .val (.int y), .unset, .unset, .unset] [(.int (digF ((bg (pickF p1) (pickF p2) (pickF p3) (pickF p4) (pickF p5)) 2) (Int32.ofNat 2) (Int32.ofNat a) (Int32.ofNat b))), (.int ((digF ((bg (pickF p1) (pickF p2) (pickF p3) (pickF p4) (pickF p5)) 0) (Int32.ofNat 0) (Int32.ofNat a) (Int32.ofNat b)) + (digF ((bg (pickF p1) (pickF p2) (pickF p3) (pickF p4) (pickF p5)) 1) (Int32.ofNat 1) (Int32.ofNat a) (Int32.ofNat b))))]))
    refine Go.step (fun _ k => XS.iadd X21.here hx rfl (hb hby at_180) rfl k) ?_
    show Go FrameEnd p e below s 16 128 (Q0 Z p1 p2 p3 p4 p5 p6 h0 n0) (T21.setTop (mkF m 181 #[.val (.int p1), .val (.int p2), .val (.int p3), .val (.int p4), .val (.int p5), .val (.int p6), .val (.ref b1), .val (.int (Int32.ofNat a)), .val (.int (Int32.ofNat b)), .val (.int y), .unset, .unset, .unset] [(.int (((digF ((bg (pickF p1) (pickF p2) (pickF p3) (pickF p4) (pickF p5)) 0) (Int32.ofNat 0) (Int32.ofNat a) (Int32.ofNat b)) + (digF ((bg (pickF p1) (pickF p2) (pickF p3) (pickF p4) (pickF p5)) 1) (Int32.ofNat 1) (Int32.ofNat a) (Int32.ofNat b))) + (digF ((bg (pickF p1) (pickF p2) (pickF p3) (pickF p4) (pickF p5)) 2) (Int32.ofNat 2) (Int32.ofNat a) (Int32.ofNat b))))]))
    refine Go.step (fun _ k => XS.aload X21.here hx rfl (hb hby at_181) rfl rfl k) ?_
    show Go FrameEnd p e below s 16 128 (Q0 Z p1 p2 p3 p4 p5 p6 h0 n0) (T21.setTop (mkF m 183 #[.val (.int p1), .val (.int p2), .val (.int p3), .val (.int p4), .val (.int p5), .val (.int p6), .val (.ref b1), .val (.int (Int32.ofNat a)), .val (.int (Int32.ofNat b)), .val (.int y), .unset, .unset, .unset] [(.ref b1), (.int (((digF ((bg (pickF p1) (pickF p2) (pickF p3) (pickF p4) (pickF p5)) 0) (Int32.ofNat 0) (Int32.ofNat a) (Int32.ofNat b)) + (digF ((bg (pickF p1) (pickF p2) (pickF p3) (pickF p4) (pickF p5)) 1) (Int32.ofNat 1) (Int32.ofNat a) (Int32.ofNat b))) + (digF ((bg (pickF p1) (pickF p2) (pickF p3) (pickF p4) (pickF p5)) 2) (Int32.ofNat 2) (Int32.ofNat a) (Int32.ofNat b))))]))
    refine Go.step (fun _ k => XS.iconst X21.here hx rfl (hb hby at_183) k) ?_
    show Go FrameEnd p e below s 16 128 (Q0 Z p1 p2 p3 p4 p5 p6 h0 n0) (T21.setTop (mkF m 184 #[.val (.int p1), .val (.int p2), .val (.int p3), .val (.int p4), .val (.int p5), .val (.int p6), .val (.ref b1), .val (.int (Int32.ofNat a)), .val (.int (Int32.ofNat b)), .val (.int y), .unset, .unset, .unset] [(.int (3 : Int32)), (.ref b1), (.int (((digF ((bg (pickF p1) (pickF p2) (pickF p3) (pickF p4) (pickF p5)) 0) (Int32.ofNat 0) (Int32.ofNat a) (Int32.ofNat b)) + (digF ((bg (pickF p1) (pickF p2) (pickF p3) (pickF p4) (pickF p5)) 1) (Int32.ofNat 1) (Int32.ofNat a) (Int32.ofNat b))) + (digF ((bg (pickF p1) (pickF p2) (pickF p3) (pickF p4) (pickF p5)) 2) (Int32.ofNat 2) (Int32.ofNat a) (Int32.ofNat b))))]))
    refine Go.step (fun _ k => XS.iload X21.here hx rfl (hb hby at_184) rfl k) ?_
    show Go FrameEnd p e below s 16 128 (Q0 Z p1 p2 p3 p4 p5 p6 h0 n0) (T21.setTop (mkF m 186 #[.val (.int p1), .val (.int p2), .val (.int p3), .val (.int p4), .val (.int p5), .val (.int p6), .val (.ref b1), .val (.int (Int32.ofNat a)), .val (.int (Int32.ofNat b)), .val (.int y), .unset, .unset, .unset] [(.int (Int32.ofNat a)), (.int (3 : Int32)), (.ref b1), (.int (((digF ((bg (pickF p1) (pickF p2) (pickF p3) (pickF p4) (pickF p5)) 0) (Int32.ofNat 0) (Int32.ofNat a) (Int32.ofNat b)) + (digF ((bg (pickF p1) (pickF p2) (pickF p3) (pickF p4) (pickF p5)) 1) (Int32.ofNat 1) (Int32.ofNat a) (Int32.ofNat b))) + (digF ((bg (pickF p1) (pickF p2) (pickF p3) (pickF p4) (pickF p5)) 2) (Int32.ofNat 2) (Int32.ofNat a) (Int32.ofNat b))))]))
    refine Go.step (fun _ k => XS.iload X21.here hx rfl (hb hby at_186) rfl k) ?_
    show Go FrameEnd p e below s 16 128 (Q0 Z p1 p2 p3 p4 p5 p6 h0 n0) (T21.setTop (mkF m 188 #[.val (.int p1), .val (.int p2), .val (.int p3), .val (.int p4), .val (.int p5), .val (.int p6), .val (.ref b1), .val (.int (Int32.ofNat a)), .val (.int (Int32.ofNat b)), .val (.int y), .unset, .unset, .unset] [(.int (Int32.ofNat b)), (.int (Int32.ofNat a)), (.int (3 : Int32)), (.ref b1), (.int (((digF ((bg (pickF p1) (pickF p2) (pickF p3) (pickF p4) (pickF p5)) 0) (Int32.ofNat 0) (Int32.ofNat a) (Int32.ofNat b)) + (digF ((bg (pickF p1) (pickF p2) (pickF p3) (pickF p4) (pickF p5)) 1) (Int32.ofNat 1) (Int32.ofNat a) (Int32.ofNat b))) + (digF ((bg (pickF p1) (pickF p2) (pickF p3) (pickF p4) (pickF p5)) 2) (Int32.ofNat 2) (Int32.ofNat a) (Int32.ofNat b))))]))
    obtain ⟨_, _, ⟨T22, L22, k22, n22⟩, -, X22, ⟨Lc22, hQ22, l22, y22, z22⟩, st22⟩ := Jvm.LawKit.callS X21 hx (y := (⟨"com/example/quotewire/quotewire/codec/FixFloatIsValidPinLaw", "digit", "([BIII)I"⟩ : MethodName)) hown (mvT hZ (hw _ (List.mem_of_getElem? (i := 11) rfl))) (mvT hZ (hw _ (List.mem_of_getElem? (i := 12) rfl))) (mvT hZ (hw _ (List.mem_of_getElem? (i := 3) rfl))) (mvT hZ (hw _ (List.mem_of_getElem? (i := 13) rfl))) (by decide) (backOf (W := 1) (rm4 l Z a0 hw [] b1 (Int32.ofNat a) (Int32.ofNat b) (bg (pickF p1) (pickF p2) (pickF p3) (pickF p4) (pickF p5)) 3 5 h16 V16 (by decide)) hZ (hw _ (List.mem_of_getElem? (i := 13) rfl)) (hw _ (List.mem_of_getElem? (i := 3) rfl)) (by decide) (by decide)) (g := (mkF m 188 #[.val (.int p1), .val (.int p2), .val (.int p3), .val (.int p4), .val (.int p5), .val (.int p6), .val (.ref b1), .val (.int (Int32.ofNat a)), .val (.int (Int32.ofNat b)), .val (.int y), .unset, .unset, .unset] [(.int (Int32.ofNat b)), (.int (Int32.ofNat a)), (.int (3 : Int32)), (.ref b1), (.int (((digF ((bg (pickF p1) (pickF p2) (pickF p3) (pickF p4) (pickF p5)) 0) (Int32.ofNat 0) (Int32.ofNat a) (Int32.ofNat b)) + (digF ((bg (pickF p1) (pickF p2) (pickF p3) (pickF p4) (pickF p5)) 1) (Int32.ofNat 1) (Int32.ofNat a) (Int32.ofNat b))) + (digF ((bg (pickF p1) (pickF p2) (pickF p3) (pickF p4) (pickF p5)) 2) (Int32.ofNat 2) (Int32.ofNat a) (Int32.ofNat b))))])) rfl (by rw [hml]; rfl) (argsL := [(.ref b1), (.int (3 : Int32)), (.int (Int32.ofNat a)), (.int (Int32.ofNat b))]) (rest := [(.int (((digF ((bg (pickF p1) (pickF p2) (pickF p3) (pickF p4) (pickF p5)) 0) (Int32.ofNat 0) (Int32.ofNat a) (Int32.ofNat b)) + (digF ((bg (pickF p1) (pickF p2) (pickF p3) (pickF p4) (pickF p5)) 1) (Int32.ofNat 1) (Int32.ofNat a) (Int32.ofNat b))) + (digF ((bg (pickF p1) (pickF p2) (pickF p3) (pickF p4) (pickF p5)) 2) (Int32.ofNat 2) (Int32.ofNat a) (Int32.ofNat b))))]) (lenOf pd___BIII_I rfl) rfl (by show 2 * 0 + _ ≤ _; exact Nat.le_of_eq rfl) (hb hby at_188) (fun _ _ => ⟨rfl, e21, (by decide : 1 + 0 ≤ _), (by decide : 5 + 0 ≤ _)⟩)
    dsimp only [Pt.U, Pt.locs, Pt.cells, Pt.slots] at X22 l22 y22 z22 st22 hQ22
    subst l22 y22 z22
    obtain ⟨rfl, rfl, e22⟩ := hQ22
    have N22 := Fr.app N21 (Fr.nil n0)
    refine Go.step st22 ?_
    show Go FrameEnd p e below s 16 128 (Q0 Z p1 p2 p3 p4 p5 p6 h0 n0) (T22.setTop (mkF m 191 #[.val (.int p1), .val (.int p2), .val (.int p3), .val (.int p4), .val (.int p5), .val (.int p6), .val (.ref b1), .val (.int (Int32.ofNat a)), .val (.int (Int32.ofNat b)), .val (.int y), .unset, .unset, .unset] [(.int (digF ((bg (pickF p1) (pickF p2) (pickF p3) (pickF p4) (pickF p5)) 3) (Int32.ofNat 3) (Int32.ofNat a) (Int32.ofNat b))), (.int (((digF ((bg (pickF p1) (pickF p2) (pickF p3) (pickF p4) (pickF p5)) 0) (Int32.ofNat 0) (Int32.ofNat a) (Int32.ofNat b)) + (digF ((bg (pickF p1) (pickF p2) (pickF p3) (pickF p4) (pickF p5)) 1) (Int32.ofNat 1) (Int32.ofNat a) (Int32.ofNat b))) + (digF ((bg (pickF p1) (pickF p2) (pickF p3) (pickF p4) (pickF p5)) 2) (Int32.ofNat 2) (Int32.ofNat a) (Int32.ofNat b))))]))
    refine Go.step (fun _ k => XS.iadd X22.here hx rfl (hb hby at_191) rfl k) ?_
    show Go FrameEnd p e below s 16 128 (Q0 Z p1 p2 p3 p4 p5 p6 h0 n0) (T22.setTop (mkF m 192 #[.val (.int p1), .val (.int p2), .val (.int p3), .val (.int p4), .val (.int p5), .val (.int p6), .val (.ref b1), .val (.int (Int32.ofNat a)), .val (.int (Int32.ofNat b)), .val (.int y), .unset, .unset, .unset] [(.int ((((digF ((bg (pickF p1) (pickF p2) (pickF p3) (pickF p4) (pickF p5)) 0) (Int32.ofNat 0) (Int32.ofNat a) (Int32.ofNat b)) + (digF ((bg (pickF p1) (pickF p2) (pickF p3) (pickF p4) (pickF p5)) 1) (Int32.ofNat 1) (Int32.ofNat a) (Int32.ofNat b))) + (digF ((bg (pickF p1) (pickF p2) (pickF p3) (pickF p4) (pickF p5)) 2) (Int32.ofNat 2) (Int32.ofNat a) (Int32.ofNat b))) + (digF ((bg (pickF p1) (pickF p2) (pickF p3) (pickF p4) (pickF p5)) 3) (Int32.ofNat 3) (Int32.ofNat a) (Int32.ofNat b))))]))
    refine Go.step (fun _ k => XS.aload X22.here hx rfl (hb hby at_192) rfl rfl k) ?_
    show Go FrameEnd p e below s 16 128 (Q0 Z p1 p2 p3 p4 p5 p6 h0 n0) (T22.setTop (mkF m 194 #[.val (.int p1), .val (.int p2), .val (.int p3), .val (.int p4), .val (.int p5), .val (.int p6), .val (.ref b1), .val (.int (Int32.ofNat a)), .val (.int (Int32.ofNat b)), .val (.int y), .unset, .unset, .unset] [(.ref b1), (.int ((((digF ((bg (pickF p1) (pickF p2) (pickF p3) (pickF p4) (pickF p5)) 0) (Int32.ofNat 0) (Int32.ofNat a) (Int32.ofNat b)) + (digF ((bg (pickF p1) (pickF p2) (pickF p3) (pickF p4) (pickF p5)) 1) (Int32.ofNat 1) (Int32.ofNat a) (Int32.ofNat b))) + (digF ((bg (pickF p1) (pickF p2) (pickF p3) (pickF p4) (pickF p5)) 2) (Int32.ofNat 2) (Int32.ofNat a) (Int32.ofNat b))) + (digF ((bg (pickF p1) (pickF p2) (pickF p3) (pickF p4) (pickF p5)) 3) (Int32.ofNat 3) (Int32.ofNat a) (Int32.ofNat b))))]))
    refine Go.step (fun _ k => XS.iconst X22.here hx rfl (hb hby at_194) k) ?_
    show Go FrameEnd p e below s 16 128 (Q0 Z p1 p2 p3 p4 p5 p6 h0 n0) (T22.setTop (mkF m 195 #[.val (.int p1), .val (.int p2), .val (.int p3), .val (.int p4), .val (.int p5), .val (.int p6), .val (.ref b1), .val (.int (Int32.ofNat a)), .val (.int (Int32.ofNat b)), .val (.int y), .unset, .unset, .unset] [(.int (4 : Int32)), (.ref b1), (.int ((((digF ((bg (pickF p1) (pickF p2) (pickF p3) (pickF p4) (pickF p5)) 0) (Int32.ofNat 0) (Int32.ofNat a) (Int32.ofNat b)) + (digF ((bg (pickF p1) (pickF p2) (pickF p3) (pickF p4) (pickF p5)) 1) (Int32.ofNat 1) (Int32.ofNat a) (Int32.ofNat b))) + (digF ((bg (pickF p1) (pickF p2) (pickF p3) (pickF p4) (pickF p5)) 2) (Int32.ofNat 2) (Int32.ofNat a) (Int32.ofNat b))) + (digF ((bg (pickF p1) (pickF p2) (pickF p3) (pickF p4) (pickF p5)) 3) (Int32.ofNat 3) (Int32.ofNat a) (Int32.ofNat b))))]))
    refine Go.step (fun _ k => XS.iload X22.here hx rfl (hb hby at_195) rfl k) ?_
    show Go FrameEnd p e below s 16 128 (Q0 Z p1 p2 p3 p4 p5 p6 h0 n0) (T22.setTop (mkF m 197 #[.val (.int p1), .val (.int p2), .val (.int p3), .val (.int p4), .val (.int p5), .val (.int p6), .val (.ref b1), .val (.int (Int32.ofNat a)), .val (.int (Int32.ofNat b)), .val (.int y), .unset, .unset, .unset] [(.int (Int32.ofNat a)), (.int (4 : Int32)), (.ref b1), (.int ((((digF ((bg (pickF p1) (pickF p2) (pickF p3) (pickF p4) (pickF p5)) 0) (Int32.ofNat 0) (Int32.ofNat a) (Int32.ofNat b)) + (digF ((bg (pickF p1) (pickF p2) (pickF p3) (pickF p4) (pickF p5)) 1) (Int32.ofNat 1) (Int32.ofNat a) (Int32.ofNat b))) + (digF ((bg (pickF p1) (pickF p2) (pickF p3) (pickF p4) (pickF p5)) 2) (Int32.ofNat 2) (Int32.ofNat a) (Int32.ofNat b))) + (digF ((bg (pickF p1) (pickF p2) (pickF p3) (pickF p4) (pickF p5)) 3) (Int32.ofNat 3) (Int32.ofNat a) (Int32.ofNat b))))]))
    refine Go.step (fun _ k => XS.iload X22.here hx rfl (hb hby at_197) rfl k) ?_
    show Go FrameEnd p e below s 16 128 (Q0 Z p1 p2 p3 p4 p5 p6 h0 n0) (T22.setTop (mkF m 199 #[.val (.int p1), .val (.int p2), .val (.int p3), .val (.int p4), .val (.int p5), .val (.int p6), .val (.ref b1), .val (.int (Int32.ofNat a)), .val (.int (Int32.ofNat b)), .val (.int y), .unset, .unset, .unset] [(.int (Int32.ofNat b)), (.int (Int32.ofNat a)), (.int (4 : Int32)), (.ref b1), (.int ((((digF ((bg (pickF p1) (pickF p2) (pickF p3) (pickF p4) (pickF p5)) 0) (Int32.ofNat 0) (Int32.ofNat a) (Int32.ofNat b)) + (digF ((bg (pickF p1) (pickF p2) (pickF p3) (pickF p4) (pickF p5)) 1) (Int32.ofNat 1) (Int32.ofNat a) (Int32.ofNat b))) + (digF ((bg (pickF p1) (pickF p2) (pickF p3) (pickF p4) (pickF p5)) 2) (Int32.ofNat 2) (Int32.ofNat a) (Int32.ofNat b))) + (digF ((bg (pickF p1) (pickF p2) (pickF p3) (pickF p4) (pickF p5)) 3) (Int32.ofNat 3) (Int32.ofNat a) (Int32.ofNat b))))]))
    obtain ⟨_, _, ⟨T23, L23, k23, n23⟩, -, X23, ⟨Lc23, hQ23, l23, y23, z23⟩, st23⟩ := Jvm.LawKit.callS X22 hx (y := (⟨"com/example/quotewire/quotewire/codec/FixFloatIsValidPinLaw", "digit", "([BIII)I"⟩ : MethodName)) hown (mvT hZ (hw _ (List.mem_of_getElem? (i := 11) rfl))) (mvT hZ (hw _ (List.mem_of_getElem? (i := 12) rfl))) (mvT hZ (hw _ (List.mem_of_getElem? (i := 3) rfl))) (mvT hZ (hw _ (List.mem_of_getElem? (i := 13) rfl))) (by decide) (backOf (W := 1) (rm4 l Z a0 hw [] b1 (Int32.ofNat a) (Int32.ofNat b) (bg (pickF p1) (pickF p2) (pickF p3) (pickF p4) (pickF p5)) 4 5 h16 V16 (by decide)) hZ (hw _ (List.mem_of_getElem? (i := 13) rfl)) (hw _ (List.mem_of_getElem? (i := 3) rfl)) (by decide) (by decide)) (g := (mkF m 199 #[.val (.int p1), .val (.int p2), .val (.int p3), .val (.int p4), .val (.int p5), .val (.int p6), .val (.ref b1), .val (.int (Int32.ofNat a)), .val (.int (Int32.ofNat b)), .val (.int y), .unset, .unset, .unset] [(.int (Int32.ofNat b)), (.int (Int32.ofNat a)), (.int (4 : Int32)), (.ref b1), (.int ((((digF ((bg (pickF p1) (pickF p2) (pickF p3) (pickF p4) (pickF p5)) 0) (Int32.ofNat 0) (Int32.ofNat a) (Int32.ofNat b)) + (digF ((bg (pickF p1) (pickF p2) (pickF p3) (pickF p4) (pickF p5)) 1) (Int32.ofNat 1) (Int32.ofNat a) (Int32.ofNat b))) + (digF ((bg (pickF p1) (pickF p2) (pickF p3) (pickF p4) (pickF p5)) 2) (Int32.ofNat 2) (Int32.ofNat a) (Int32.ofNat b))) + (digF ((bg (pickF p1) (pickF p2) (pickF p3) (pickF p4) (pickF p5)) 3) (Int32.ofNat 3) (Int32.ofNat a) (Int32.ofNat b))))])) rfl (by rw [hml]; rfl) (argsL := [(.ref b1), (.int (4 : Int32)), (.int (Int32.ofNat a)), (.int (Int32.ofNat b))]) (rest := [(.int ((((digF ((bg (pickF p1) (pickF p2) (pickF p3) (pickF p4) (pickF p5)) 0) (Int32.ofNat 0) (Int32.ofNat a) (Int32.ofNat b)) + (digF ((bg (pickF p1) (pickF p2) (pickF p3) (pickF p4) (pickF p5)) 1) (Int32.ofNat 1) (Int32.ofNat a) (Int32.ofNat b))) + (digF ((bg (pickF p1) (pickF p2) (pickF p3) (pickF p4) (pickF p5)) 2) (Int32.ofNat 2) (Int32.ofNat a) (Int32.ofNat b))) + (digF ((bg (pickF p1) (pickF p2) (pickF p3) (pickF p4) (pickF p5)) 3) (Int32.ofNat 3) (Int32.ofNat a) (Int32.ofNat b))))]) (lenOf pd___BIII_I rfl) rfl (by show 2 * 0 + _ ≤ _; exact Nat.le_of_eq rfl) (hb hby at_199) (fun _ _ => ⟨rfl, e22, (by decide : 1 + 0 ≤ _), (by decide : 5 + 0 ≤ _)⟩)
    dsimp only [Pt.U, Pt.locs, Pt.cells, Pt.slots] at X23 l23 y23 z23 st23 hQ23
    subst l23 y23 z23
    obtain ⟨rfl, rfl, e23⟩ := hQ23
    have N23 := Fr.app N22 (Fr.nil n0)
    refine Go.step st23 ?_
    show Go FrameEnd p e below s 16 128 (Q0 Z p1 p2 p3 p4 p5 p6 h0 n0) (T23.setTop (mkF m 202 #[.val (.int p1), .val (.int p2), .val (.int p3), .val (.int p4), .val (.int p5), .val (.int p6), .val (.ref b1), .val (.int (Int32.ofNat a)), .val (.int (Int32.ofNat b)), .val (.int y), .unset, .unset, .unset] [(.int (digF ((bg (pickF p1) (pickF p2) (pickF p3) (pickF p4) (pickF p5)) 4) (Int32.ofNat 4) (Int32.ofNat a) (Int32.ofNat b))), (.int ((((digF ((bg (pickF p1) (pickF p2) (pickF p3) (pickF p4) (pickF p5)) 0) (Int32.ofNat 0) (Int32.ofNat a) (Int32.ofNat b)) + (digF ((bg (pickF p1) (pickF p2) (pickF p3) (pickF p4) (pickF p5)) 1) (Int32.ofNat 1) (Int32.ofNat a) (Int32.ofNat b))) + (digF ((bg (pickF p1) (pickF p2) (pickF p3) (pickF p4) (pickF p5)) 2) (Int32.ofNat 2) (Int32.ofNat a) (Int32.ofNat b))) + (digF ((bg (pickF p1) (pickF p2) (pickF p3) (pickF p4) (pickF p5)) 3) (Int32.ofNat 3) (Int32.ofNat a) (Int32.ofNat b))))]))
    refine Go.step (fun _ k => XS.iadd X23.here hx rfl (hb hby at_202) rfl k) ?_
    show Go FrameEnd p e below s 16 128 (Q0 Z p1 p2 p3 p4 p5 p6 h0 n0) (T23.setTop (mkF m 203 #[.val (.int p1), .val (.int p2), .val (.int p3), .val (.int p4), .val (.int p5), .val (.int p6), .val (.ref b1), .val (.int (Int32.ofNat a)), .val (.int (Int32.ofNat b)), .val (.int y), .unset, .unset, .unset] [(.int (((((digF ((bg (pickF p1) (pickF p2) (pickF p3) (pickF p4) (pickF p5)) 0) (Int32.ofNat 0) (Int32.ofNat a) (Int32.ofNat b)) + (digF ((bg (pickF p1) (pickF p2) (pickF p3) (pickF p4) (pickF p5)) 1) (Int32.ofNat 1) (Int32.ofNat a) (Int32.ofNat b))) + (digF ((bg (pickF p1) (pickF p2) (pickF p3) (pickF p4) (pickF p5)) 2) (Int32.ofNat 2) (Int32.ofNat a) (Int32.ofNat b))) + (digF ((bg (pickF p1) (pickF p2) (pickF p3) (pickF p4) (pickF p5)) 3) (Int32.ofNat 3) (Int32.ofNat a) (Int32.ofNat b))) + (digF ((bg (pickF p1) (pickF p2) (pickF p3) (pickF p4) (pickF p5)) 4) (Int32.ofNat 4) (Int32.ofNat a) (Int32.ofNat b))))]))
    refine Go.step (fun _ k => XS.istore X23.here hx rfl (hb hby at_203) rfl (l' := #[.val (.int p1), .val (.int p2), .val (.int p3), .val (.int p4), .val (.int p5), .val (.int p6), .val (.ref b1), .val (.int (Int32.ofNat a)), .val (.int (Int32.ofNat b)), .val (.int y), .val (.int (((((digF ((bg (pickF p1) (pickF p2) (pickF p3) (pickF p4) (pickF p5)) 0) (Int32.ofNat 0) (Int32.ofNat a) (Int32.ofNat b)) + (digF ((bg (pickF p1) (pickF p2) (pickF p3) (pickF p4) (pickF p5)) 1) (Int32.ofNat 1) (Int32.ofNat a) (Int32.ofNat b))) + (digF ((bg (pickF p1) (pickF p2) (pickF p3) (pickF p4) (pickF p5)) 2) (Int32.ofNat 2) (Int32.ofNat a) (Int32.ofNat b))) + (digF ((bg (pickF p1) (pickF p2) (pickF p3) (pickF p4) (pickF p5)) 3) (Int32.ofNat 3) (Int32.ofNat a) (Int32.ofNat b))) + (digF ((bg (pickF p1) (pickF p2) (pickF p3) (pickF p4) (pickF p5)) 4) (Int32.ofNat 4) (Int32.ofNat a) (Int32.ofNat b)))), .unset, .unset]) rfl k) ?_
    show Go FrameEnd p e below s 16 128 (Q0 Z p1 p2 p3 p4 p5 p6 h0 n0) (T23.setTop (mkF m 205 #[.val (.int p1), .val (.int p2), .val (.int p3), .val (.int p4), .val (.int p5), .val (.int p6), .val (.ref b1), .val (.int (Int32.ofNat a)), .val (.int (Int32.ofNat b)), .val (.int y), .val (.int (((((digF ((bg (pickF p1) (pickF p2) (pickF p3) (pickF p4) (pickF p5)) 0) (Int32.ofNat 0) (Int32.ofNat a) (Int32.ofNat b)) + (digF ((bg (pickF p1) (pickF p2) (pickF p3) (pickF p4) (pickF p5)) 1) (Int32.ofNat 1) (Int32.ofNat a) (Int32.ofNat b))) + (digF ((bg (pickF p1) (pickF p2) (pickF p3) (pickF p4) (pickF p5)) 2) (Int32.ofNat 2) (Int32.ofNat a) (Int32.ofNat b))) + (digF ((bg (pickF p1) (pickF p2) (pickF p3) (pickF p4) (pickF p5)) 3) (Int32.ofNat 3) (Int32.ofNat a) (Int32.ofNat b))) + (digF ((bg (pickF p1) (pickF p2) (pickF p3) (pickF p4) (pickF p5)) 4) (Int32.ofNat 4) (Int32.ofNat a) (Int32.ofNat b)))), .unset, .unset] []))
    refine Go.step (fun _ k => XS.aload X23.here hx rfl (hb hby at_205) rfl rfl k) ?_
    show Go FrameEnd p e below s 16 128 (Q0 Z p1 p2 p3 p4 p5 p6 h0 n0) (T23.setTop (mkF m 207 #[.val (.int p1), .val (.int p2), .val (.int p3), .val (.int p4), .val (.int p5), .val (.int p6), .val (.ref b1), .val (.int (Int32.ofNat a)), .val (.int (Int32.ofNat b)), .val (.int y), .val (.int (((((digF ((bg (pickF p1) (pickF p2) (pickF p3) (pickF p4) (pickF p5)) 0) (Int32.ofNat 0) (Int32.ofNat a) (Int32.ofNat b)) + (digF ((bg (pickF p1) (pickF p2) (pickF p3) (pickF p4) (pickF p5)) 1) (Int32.ofNat 1) (Int32.ofNat a) (Int32.ofNat b))) + (digF ((bg (pickF p1) (pickF p2) (pickF p3) (pickF p4) (pickF p5)) 2) (Int32.ofNat 2) (Int32.ofNat a) (Int32.ofNat b))) + (digF ((bg (pickF p1) (pickF p2) (pickF p3) (pickF p4) (pickF p5)) 3) (Int32.ofNat 3) (Int32.ofNat a) (Int32.ofNat b))) + (digF ((bg (pickF p1) (pickF p2) (pickF p3) (pickF p4) (pickF p5)) 4) (Int32.ofNat 4) (Int32.ofNat a) (Int32.ofNat b)))), .unset, .unset] [(.ref b1)]))
    refine Go.step (fun _ k => XS.iconst X23.here hx rfl (hb hby at_207) k) ?_
    show Go FrameEnd p e below s 16 128 (Q0 Z p1 p2 p3 p4 p5 p6 h0 n0) (T23.setTop (mkF m 208 #[.val (.int p1), .val (.int p2), .val (.int p3), .val (.int p4), .val (.int p5), .val (.int p6), .val (.ref b1), .val (.int (Int32.ofNat a)), .val (.int (Int32.ofNat b)), .val (.int y), .val (.int (((((digF ((bg (pickF p1) (pickF p2) (pickF p3) (pickF p4) (pickF p5)) 0) (Int32.ofNat 0) (Int32.ofNat a) (Int32.ofNat b)) + (digF ((bg (pickF p1) (pickF p2) (pickF p3) (pickF p4) (pickF p5)) 1) (Int32.ofNat 1) (Int32.ofNat a) (Int32.ofNat b))) + (digF ((bg (pickF p1) (pickF p2) (pickF p3) (pickF p4) (pickF p5)) 2) (Int32.ofNat 2) (Int32.ofNat a) (Int32.ofNat b))) + (digF ((bg (pickF p1) (pickF p2) (pickF p3) (pickF p4) (pickF p5)) 3) (Int32.ofNat 3) (Int32.ofNat a) (Int32.ofNat b))) + (digF ((bg (pickF p1) (pickF p2) (pickF p3) (pickF p4) (pickF p5)) 4) (Int32.ofNat 4) (Int32.ofNat a) (Int32.ofNat b)))), .unset, .unset] [(.int (0 : Int32)), (.ref b1)]))
    refine Go.step (fun _ k => XS.iload X23.here hx rfl (hb hby at_208) rfl k) ?_
    show Go FrameEnd p e below s 16 128 (Q0 Z p1 p2 p3 p4 p5 p6 h0 n0) (T23.setTop (mkF m 210 #[.val (.int p1), .val (.int p2), .val (.int p3), .val (.int p4), .val (.int p5), .val (.int p6), .val (.ref b1), .val (.int (Int32.ofNat a)), .val (.int (Int32.ofNat b)), .val (.int y), .val (.int (((((digF ((bg (pickF p1) (pickF p2) (pickF p3) (pickF p4) (pickF p5)) 0) (Int32.ofNat 0) (Int32.ofNat a) (Int32.ofNat b)) + (digF ((bg (pickF p1) (pickF p2) (pickF p3) (pickF p4) (pickF p5)) 1) (Int32.ofNat 1) (Int32.ofNat a) (Int32.ofNat b))) + (digF ((bg (pickF p1) (pickF p2) (pickF p3) (pickF p4) (pickF p5)) 2) (Int32.ofNat 2) (Int32.ofNat a) (Int32.ofNat b))) + (digF ((bg (pickF p1) (pickF p2) (pickF p3) (pickF p4) (pickF p5)) 3) (Int32.ofNat 3) (Int32.ofNat a) (Int32.ofNat b))) + (digF ((bg (pickF p1) (pickF p2) (pickF p3) (pickF p4) (pickF p5)) 4) (Int32.ofNat 4) (Int32.ofNat a) (Int32.ofNat b)))), .unset, .unset] [(.int (Int32.ofNat a)), (.int (0 : Int32)), (.ref b1)]))
    refine Go.step (fun _ k => XS.iload X23.here hx rfl (hb hby at_210) rfl k) ?_
    show Go FrameEnd p e below s 16 128 (Q0 Z p1 p2 p3 p4 p5 p6 h0 n0) (T23.setTop (mkF m 212 #[.val (.int p1), .val (.int p2), .val (.int p3), .val (.int p4), .val (.int p5), .val (.int p6), .val (.ref b1), .val (.int (Int32.ofNat a)), .val (.int (Int32.ofNat b)), .val (.int y), .val (.int (((((digF ((bg (pickF p1) (pickF p2) (pickF p3) (pickF p4) (pickF p5)) 0) (Int32.ofNat 0) (Int32.ofNat a) (Int32.ofNat b)) + (digF ((bg (pickF p1) (pickF p2) (pickF p3) (pickF p4) (pickF p5)) 1) (Int32.ofNat 1) (Int32.ofNat a) (Int32.ofNat b))) + (digF ((bg (pickF p1) (pickF p2) (pickF p3) (pickF p4) (pickF p5)) 2) (Int32.ofNat 2) (Int32.ofNat a) (Int32.ofNat b))) + (digF ((bg (pickF p1) (pickF p2) (pickF p3) (pickF p4) (pickF p5)) 3) (Int32.ofNat 3) (Int32.ofNat a) (Int32.ofNat b))) + (digF ((bg (pickF p1) (pickF p2) (pickF p3) (pickF p4) (pickF p5)) 4) (Int32.ofNat 4) (Int32.ofNat a) (Int32.ofNat b)))), .unset, .unset] [(.int (Int32.ofNat b)), (.int (Int32.ofNat a)), (.int (0 : Int32)), (.ref b1)]))
    obtain ⟨_, _, ⟨T24, L24, k24, n24⟩, -, X24, ⟨Lc24, hQ24, l24, y24, z24⟩, st24⟩ := Jvm.LawKit.callS X23 hx (y := (⟨"com/example/quotewire/quotewire/codec/FixFloatIsValidPinLaw", "point", "([BIII)I"⟩ : MethodName)) hown (mvT hZ (hw _ (List.mem_of_getElem? (i := 14) rfl))) (mvT hZ (hw _ (List.mem_of_getElem? (i := 15) rfl))) (mvT hZ (hw _ (List.mem_of_getElem? (i := 3) rfl))) (mvT hZ (hw _ (List.mem_of_getElem? (i := 16) rfl))) (by decide) (backOf (W := 0) (rm5 l Z a0 hw [] b1 (Int32.ofNat a) (Int32.ofNat b) (bg (pickF p1) (pickF p2) (pickF p3) (pickF p4) (pickF p5)) 0 5 h16 V16 (by decide)) hZ (hw _ (List.mem_of_getElem? (i := 16) rfl)) (hw _ (List.mem_of_getElem? (i := 3) rfl)) (by decide) (by decide)) (g := (mkF m 212 #[.val (.int p1), .val (.int p2), .val (.int p3), .val (.int p4), .val (.int p5), .val (.int p6), .val (.ref b1), .val (.int (Int32.ofNat a)), .val (.int (Int32.ofNat b)), .val (.int y), .val (.int (((((digF ((bg (pickF p1) (pickF p2) (pickF p3) (pickF p4) (pickF p5)) 0) (Int32.ofNat 0) (Int32.ofNat a) (Int32.ofNat b)) + (digF ((bg (pickF p1) (pickF p2) (pickF p3) (pickF p4) (pickF p5)) 1) (Int32.ofNat 1) (Int32.ofNat a) (Int32.ofNat b))) + (digF ((bg (pickF p1) (pickF p2) (pickF p3) (pickF p4) (pickF p5)) 2) (Int32.ofNat 2) (Int32.ofNat a) (Int32.ofNat b))) + (digF ((bg (pickF p1) (pickF p2) (pickF p3) (pickF p4) (pickF p5)) 3) (Int32.ofNat 3) (Int32.ofNat a) (Int32.ofNat b))) + (digF ((bg (pickF p1) (pickF p2) (pickF p3) (pickF p4) (pickF p5)) 4) (Int32.ofNat 4) (Int32.ofNat a) (Int32.ofNat b)))), .unset, .unset] [(.int (Int32.ofNat b)), (.int (Int32.ofNat a)), (.int (0 : Int32)), (.ref b1)])) rfl (by rw [hml]; rfl) (argsL := [(.ref b1), (.int (0 : Int32)), (.int (Int32.ofNat a)), (.int (Int32.ofNat b))]) (rest := []) (lenOf pd___BIII_I rfl) rfl (by show 2 * 0 + _ ≤ _; exact Nat.le_of_eq rfl) (hb hby at_212) (fun _ _ => ⟨rfl, e23, (by decide : 1 + 0 ≤ _), (by decide : 5 + 0 ≤ _)⟩)
    dsimp only [Pt.U, Pt.locs, Pt.cells, Pt.slots] at X24 l24 y24 z24 st24 hQ24
    subst l24 y24 z24
    obtain ⟨rfl, rfl, e24⟩ := hQ24
    have N24 := Fr.app N23 (Fr.nil n0)
    refine Go.step st24 ?_
    show Go FrameEnd p e below s 16 128 (Q0 Z p1 p2 p3 p4 p5 p6 h0 n0) (T24.setTop (mkF m 215 #[.val (.int p1), .val (.int p2), .val (.int p3), .val (.int p4), .val (.int p5), .val (.int p6), .val (.ref b1), .val (.int (Int32.ofNat a)), .val (.int (Int32.ofNat b)), .val (.int y), .val (.int (((((digF ((bg (pickF p1) (pickF p2) (pickF p3) (pickF p4) (pickF p5)) 0) (Int32.ofNat 0) (Int32.ofNat a) (Int32.ofNat b)) + (digF ((bg (pickF p1) (pickF p2) (pickF p3) (pickF p4) (pickF p5)) 1) (Int32.ofNat 1) (Int32.ofNat a) (Int32.ofNat b))) + (digF ((bg (pickF p1) (pickF p2) (pickF p3) (pickF p4) (pickF p5)) 2) (Int32.ofNat 2) (Int32.ofNat a) (Int32.ofNat b))) + (digF ((bg (pickF p1) (pickF p2) (pickF p3) (pickF p4) (pickF p5)) 3) (Int32.ofNat 3) (Int32.ofNat a) (Int32.ofNat b))) + (digF ((bg (pickF p1) (pickF p2) (pickF p3) (pickF p4) (pickF p5)) 4) (Int32.ofNat 4) (Int32.ofNat a) (Int32.ofNat b)))), .unset, .unset] [(.int (poiF ((bg (pickF p1) (pickF p2) (pickF p3) (pickF p4) (pickF p5)) 0) (Int32.ofNat 0) (Int32.ofNat a) (Int32.ofNat b)))]))
    refine Go.step (fun _ k => XS.aload X24.here hx rfl (hb hby at_215) rfl rfl k) ?_
    show Go FrameEnd p e below s 16 128 (Q0 Z p1 p2 p3 p4 p5 p6 h0 n0) (T24.setTop (mkF m 217 #[.val (.int p1), .val (.int p2), .val (.int p3), .val (.int p4), .val (.int p5), .val (.int p6), .val (.ref b1), .val (.int (Int32.ofNat a)), .val (.int (Int32.ofNat b)), .val (.int y), .val (.int (((((digF ((bg (pickF p1) (pickF p2) (pickF p3) (pickF p4) (pickF p5)) 0) (Int32.ofNat 0) (Int32.ofNat a) (Int32.ofNat b)) + (digF ((bg (pickF p1) (pickF p2) (pickF p3) (pickF p4) (pickF p5)) 1) (Int32.ofNat 1) (Int32.ofNat a) (Int32.ofNat b))) + (digF ((bg (pickF p1) (pickF p2) (pickF p3) (pickF p4) (pickF p5)) 2) (Int32.ofNat 2) (Int32.ofNat a) (Int32.ofNat b))) + (digF ((bg (pickF p1) (pickF p2) (pickF p3) (pickF p4) (pickF p5)) 3) (Int32.ofNat 3) (Int32.ofNat a) (Int32.ofNat b))) + (digF ((bg (pickF p1) (pickF p2) (pickF p3) (pickF p4) (pickF p5)) 4) (Int32.ofNat 4) (Int32.ofNat a) (Int32.ofNat b)))), .unset, .unset] [(.ref b1), (.int (poiF ((bg (pickF p1) (pickF p2) (pickF p3) (pickF p4) (pickF p5)) 0) (Int32.ofNat 0) (Int32.ofNat a) (Int32.ofNat b)))]))
    refine Go.step (fun _ k => XS.iconst X24.here hx rfl (hb hby at_217) k) ?_
    show Go FrameEnd p e below s 16 128 (Q0 Z p1 p2 p3 p4 p5 p6 h0 n0) (T24.setTop (mkF m 218 #[.val (.int p1), .val (.int p2), .val (.int p3), .val (.int p4), .val (.int p5), .val (.int p6), .val (.ref b1), .val (.int (Int32.ofNat a)), .val (.int (Int32.ofNat b)), .val (.int y), .val (.int (((((digF ((bg (pickF p1) (pickF p2) (pickF p3) (pickF p4) (pickF p5)) 0) (Int32.ofNat 0) (Int32.ofNat a) (Int32.ofNat b)) + (digF ((bg (pickF p1) (pickF p2) (pickF p3) (pickF p4) (pickF p5)) 1) (Int32.ofNat 1) (Int32.ofNat a) (Int32.ofNat b))) + (digF ((bg (pickF p1) (pickF p2) (pickF p3) (pickF p4) (pickF p5)) 2) (Int32.ofNat 2) (Int32.ofNat a) (Int32.ofNat b))) + (digF ((bg (pickF p1) (pickF p2) (pickF p3) (pickF p4) (pickF p5)) 3) (Int32.ofNat 3) (Int32.ofNat a) (Int32.ofNat b))) + (digF ((bg (pickF p1) (pickF p2) (pickF p3) (pickF p4) (pickF p5)) 4) (Int32.ofNat 4) (Int32.ofNat a) (Int32.ofNat b)))), .unset, .unset] [(.int (1 : Int32)), (.ref b1), (.int (poiF ((bg (pickF p1) (pickF p2) (pickF p3) (pickF p4) (pickF p5)) 0) (Int32.ofNat 0) (Int32.ofNat a) (Int32.ofNat b)))]))
    refine Go.step (fun _ k => XS.iload X24.here hx rfl (hb hby at_218) rfl k) ?_
    show Go FrameEnd p e below s 16 128 (Q0 Z p1 p2 p3 p4 p5 p6 h0 n0) (T24.setTop (mkF m 220 #[.val (.int p1), .val (.int p2), .val (.int p3), .val (.int p4), .val (.int p5), .val (.int p6), .val (.ref b1), .val (.int (Int32.ofNat a)), .val (.int (Int32.ofNat b)), .val (.int y), .val (.int (((((digF ((bg (pickF p1) (pickF p2) (pickF p3) (pickF p4) (pickF p5)) 0) (Int32.ofNat 0) (Int32.ofNat a) (Int32.ofNat b)) + (digF ((bg (pickF p1) (pickF p2) (pickF p3) (pickF p4) (pickF p5)) 1) (Int32.ofNat 1) (Int32.ofNat a) (Int32.ofNat b))) + (digF ((bg (pickF p1) (pickF p2) (pickF p3) (pickF p4) (pickF p5)) 2) (Int32.ofNat 2) (Int32.ofNat a) (Int32.ofNat b))) + (digF ((bg (pickF p1) (pickF p2) (pickF p3) (pickF p4) (pickF p5)) 3) (Int32.ofNat 3) (Int32.ofNat a) (Int32.ofNat b))) + (digF ((bg (pickF p1) (pickF p2) (pickF p3) (pickF p4) (pickF p5)) 4) (Int32.ofNat 4) (Int32.ofNat a) (Int32.ofNat b)))), .unset, .unset] [(.int (Int32.ofNat a)), (.int (1 : Int32)), (.ref b1), (.int (poiF ((bg (pickF p1) (pickF p2) (pickF p3) (pickF p4) (pickF p5)) 0) (Int32.ofNat 0) (Int32.ofNat a) (Int32.ofNat b)))]))
    refine Go.step (fun _ k => XS.iload X24.here hx rfl (hb hby at_220) rfl k) ?_
    show Go FrameEnd p e below s 16 128 (Q0 Z p1 p2 p3 p4 p5 p6 h0 n0) (T24.setTop (mkF m 222 #[.val (.int p1), .val (.int p2), .val (.int p3), .val (.int p4), .val (.int p5), .val (.int p6), .val (.ref b1), .val (.int (Int32.ofNat a)), .val (.int (Int32.ofNat b)), .val (.int y), .val (.int (((((digF ((bg (pickF p1) (pickF p2) (pickF p3) (pickF p4) (pickF p5)) 0) (Int32.ofNat 0) (Int32.ofNat a) (Int32.ofNat b)) + (digF ((bg (pickF p1) (pickF p2) (pickF p3) (pickF p4) (pickF p5)) 1) (Int32.ofNat 1) (Int32.ofNat a) (Int32.ofNat b))) + (digF ((bg (pickF p1) (pickF p2) (pickF p3) (pickF p4) (pickF p5)) 2) (Int32.ofNat 2) (Int32.ofNat a) (Int32.ofNat b))) + (digF ((bg (pickF p1) (pickF p2) (pickF p3) (pickF p4) (pickF p5)) 3) (Int32.ofNat 3) (Int32.ofNat a) (Int32.ofNat b))) + (digF ((bg (pickF p1) (pickF p2) (pickF p3) (pickF p4) (pickF p5)) 4) (Int32.ofNat 4) (Int32.ofNat a) (Int32.ofNat b)))), .unset, .unset] [(.int (Int32.ofNat b)), (.int (Int32.ofNat a)), (.int (1 : Int32)), (.ref b1), (.int (poiF ((bg (pickF p1) (pickF p2) (pickF p3) (pickF p4) (pickF p5)) 0) (Int32.ofNat 0) (Int32.ofNat a) (Int32.ofNat b)))]))
    obtain ⟨_, _, ⟨T25, L25, k25, n25⟩, -, X25, ⟨Lc25, hQ25, l25, y25, z25⟩, st25⟩ := Jvm.LawKit.callS X24 hx (y := (⟨"com/example/quotewire/quotewire/codec/FixFloatIsValidPinLaw", "point", "([BIII)I"⟩ : MethodName)) hown (mvT hZ (hw _ (List.mem_of_getElem? (i := 14) rfl))) (mvT hZ (hw _ (List.mem_of_getElem? (i := 15) rfl))) (mvT hZ (hw _ (List.mem_of_getElem? (i := 3) rfl))) (mvT hZ (hw _ (List.mem_of_getElem? (i := 16) rfl))) (by decide) (backOf (W := 1) (rm5 l Z a0 hw [] b1 (Int32.ofNat a) (Int32.ofNat b) (bg (pickF p1) (pickF p2) (pickF p3) (pickF p4) (pickF p5)) 1 5 h16 V16 (by decide)) hZ (hw _ (List.mem_of_getElem? (i := 16) rfl)) (hw _ (List.mem_of_getElem? (i := 3) rfl)) (by decide) (by decide)) (g := (mkF m 222 #[.val (.int p1), .val (.int p2), .val (.int p3), .val (.int p4), .val (.int p5), .val (.int p6), .val (.ref b1), .val (.int (Int32.ofNat a)), .val (.int (Int32.ofNat b)), .val (.int y), .val (.int (((((digF ((bg (pickF p1) (pickF p2) (pickF p3) (pickF p4) (pickF p5)) 0) (Int32.ofNat 0) (Int32.ofNat a) (Int32.ofNat b)) + (digF ((bg (pickF p1) (pickF p2) (pickF p3) (pickF p4) (pickF p5)) 1) (Int32.ofNat 1) (Int32.ofNat a) (Int32.ofNat b))) + (digF ((bg (pickF p1) (pickF p2) (pickF p3) (pickF p4) (pickF p5)) 2) (Int32.ofNat 2) (Int32.ofNat a) (Int32.ofNat b))) + (digF ((bg (pickF p1) (pickF p2) (pickF p3) (pickF p4) (pickF p5)) 3) (Int32.ofNat 3) (Int32.ofNat a) (Int32.ofNat b))) + (digF ((bg (pickF p1) (pickF p2) (pickF p3) (pickF p4) (pickF p5)) 4) (Int32.ofNat 4) (Int32.ofNat a) (Int32.ofNat b)))), .unset, .unset] [(.int (Int32.ofNat b)), (.int (Int32.ofNat a)), (.int (1 : Int32)), (.ref b1), (.int (poiF ((bg (pickF p1) (pickF p2) (pickF p3) (pickF p4) (pickF p5)) 0) (Int32.ofNat 0) (Int32.ofNat a) (Int32.ofNat b)))])) rfl (by rw [hml]; rfl) (argsL := [(.ref b1), (.int (1 : Int32)), (.int (Int32.ofNat a)), (.int (Int32.ofNat b))]) (rest := [(.int (poiF ((bg (pickF p1) (pickF p2) (pickF p3) (pickF p4) (pickF p5)) 0) (Int32.ofNat 0) (Int32.ofNat a) (Int32.ofNat b)))]) (lenOf pd___BIII_I rfl) rfl (by show 2 * 0 + _ ≤ _; exact Nat.le_of_eq rfl) (hb hby at_222) (fun _ _ => ⟨rfl, e24, (by decide : 1 + 0 ≤ _), (by decide : 5 + 0 ≤ _)⟩)
    dsimp only [Pt.U, Pt.locs, Pt.cells, Pt.slots] at X25 l25 y25 z25 st25 hQ25
    subst l25 y25 z25
    obtain ⟨rfl, rfl, e25⟩ := hQ25
    have N25 := Fr.app N24 (Fr.nil n0)
    refine Go.step st25 ?_
    show Go FrameEnd p e below s 16 128 (Q0 Z p1 p2 p3 p4 p5 p6 h0 n0) (T25.setTop (mkF m 225 #[.val (.int p1), .val (.int p2), .val (.int p3), .val (.int p4), .val (.int p5), .val (.int p6), .val (.ref b1), .val (.int (Int32.ofNat a)), .val (.int (Int32.ofNat b)), .val (.int y), .val (.int (((((digF ((bg (pickF p1) (pickF p2) (pickF p3) (pickF p4) (pickF p5)) 0) (Int32.ofNat 0) (Int32.ofNat a) (Int32.ofNat b)) + (digF ((bg (pickF p1) (pickF p2) (pickF p3) (pickF p4) (pickF p5)) 1) (Int32.ofNat 1) (Int32.ofNat a) (Int32.ofNat b))) + (digF ((bg (pickF p1) (pickF p2) (pickF p3) (pickF p4) (pickF p5)) 2) (Int32.ofNat 2) (Int32.ofNat a) (Int32.ofNat b))) + (digF ((bg (pickF p1) (pickF p2) (pickF p3) (pickF p4) (pickF p5)) 3) (Int32.ofNat 3) (Int32.ofNat a) (Int32.ofNat b))) + (digF ((bg (pickF p1) (pickF p2) (pickF p3) (pickF p4) (pickF p5)) 4) (Int32.ofNat 4) (Int32.ofNat a) (Int32.ofNat b)))), .unset, .unset] [(.int (poiF ((bg (pickF p1) (pickF p2) (pickF p3) (pickF p4) (pickF p5)) 1) (Int32.ofNat 1) (Int32.ofNat a) (Int32.ofNat b))), (.int (poiF ((bg (pickF p1) (pickF p2) (pickF p3) (pickF p4) (pickF p5)) 0) (Int32.ofNat 0) (Int32.ofNat a) (Int32.ofNat b)))]))
    refine Go.step (fun _ k => XS.iadd X25.here hx rfl (hb hby at_225) rfl k) ?_
    show Go FrameEnd p e below s 16 128 (Q0 Z p1 p2 p3 p4 p5 p6 h0 n0) (T25.setTop (mkF m 226 #[.val (.int p1), .val (.int p2), .val (.int p3), .val (.int p4), .val (.int p5), .val (.int p6), .val (.ref b1), .val (.int (Int32.ofNat a)), .val (.int (Int32.ofNat b)), .val (.int y), .val (.int (((((digF ((bg (pickF p1) (pickF p2) (pickF p3) (pickF p4) (pickF p5)) 0) (Int32.ofNat 0) (Int32.ofNat a) (Int32.ofNat b)) + (digF ((bg (pickF p1) (pickF p2) (pickF p3) (pickF p4) (pickF p5)) 1) (Int32.ofNat 1) (Int32.ofNat a) (Int32.ofNat b))) + (digF ((bg (pickF p1) (pickF p2) (pickF p3) (pickF p4) (pickF p5)) 2) (Int32.ofNat 2) (Int32.ofNat a) (Int32.ofNat b))) + (digF ((bg (pickF p1) (pickF p2) (pickF p3) (pickF p4) (pickF p5)) 3) (Int32.ofNat 3) (Int32.ofNat a) (Int32.ofNat b))) + (digF ((bg (pickF p1) (pickF p2) (pickF p3) (pickF p4) (pickF p5)) 4) (Int32.ofNat 4) (Int32.ofNat a) (Int32.ofNat b)))), .unset, .unset] [(.int ((poiF ((bg (pickF p1) (pickF p2) (pickF p3) (pickF p4) (pickF p5)) 0) (Int32.ofNat 0) (Int32.ofNat a) (Int32.ofNat b)) + (poiF ((bg (pickF p1) (pickF p2) (pickF p3) (pickF p4) (pickF p5)) 1) (Int32.ofNat 1) (Int32.ofNat a) (Int32.ofNat b))))]))
    refine Go.step (fun _ k => XS.aload X25.here hx rfl (hb hby at_226) rfl rfl k) ?_
    show Go FrameEnd p e below s 16 128 (Q0 Z p1 p2 p3 p4 p5 p6 h0 n0) (T25.setTop (mkF m 228 #[.val (.int p1), .val (.int p2), .val (.int p3), .val (.int p4), .val (.int p5), .val (.int p6), .val (.ref b1), .val (.int (Int32.ofNat a)), .val (.int (Int32.ofNat b)), .val (.int y), .val (.int (((((digF ((bg (pickF p1) (pickF p2) (pickF p3) (pickF p4) (pickF p5)) 0) (Int32.ofNat 0) (Int32.ofNat a) (Int32.ofNat b)) + (digF ((bg (pickF p1) (pickF p2) (pickF p3) (pickF p4) (pickF p5)) 1) (Int32.ofNat 1) (Int32.ofNat a) (Int32.ofNat b))) + (digF ((bg (pickF p1) (pickF p2) (pickF p3) (pickF p4) (pickF p5)) 2) (Int32.ofNat 2) (Int32.ofNat a) (Int32.ofNat b))) + (digF ((bg (pickF p1) (pickF p2) (pickF p3) (pickF p4) (pickF p5)) 3) (Int32.ofNat 3) (Int32.ofNat a) (Int32.ofNat b))) + (digF ((bg (pickF p1) (pickF p2) (pickF p3) (pickF p4) (pickF p5)) 4) (Int32.ofNat 4) (Int32.ofNat a) (Int32.ofNat b)))), .unset, .unset] [(.ref b1), (.int ((poiF ((bg (pickF p1) (pickF p2) (pickF p3) (pickF p4) (pickF p5)) 0) (Int32.ofNat 0) (Int32.ofNat a) (Int32.ofNat b)) + (poiF ((bg (pickF p1) (pickF p2) (pickF p3) (pickF p4) (pickF p5)) 1) (Int32.ofNat 1) (Int32.ofNat a) (Int32.ofNat b))))]))
    refine Go.step (fun _ k => XS.iconst X25.here hx rfl (hb hby at_228) k) ?_
    show Go FrameEnd p e below s 16 128 (Q0 Z p1 p2 p3 p4 p5 p6 h0 n0) (T25.setTop (mkF m 229 #[.val (.int p1), .val (.int p2), .val (.int p3), .val (.int p4), .val (.int p5), .val (.int p6), .val (.ref b1), .val (.int (Int32.ofNat a)), .val (.int (Int32.ofNat b)), .val (.int y), .val (.int (((((digF ((bg (pickF p1) (pickF p2) (pickF p3) (pickF p4) (pickF p5)) 0) (Int32.ofNat 0) (Int32.ofNat a) (Int32.ofNat b)) + (digF ((bg (pickF p1) (pickF p2) (pickF p3) (pickF p4) (pickF p5)) 1) (Int32.ofNat 1) (Int32.ofNat a) (Int32.ofNat b))) + (digF ((bg (pickF p1) (pickF p2) (pickF p3) (pickF p4) (pickF p5)) 2) (Int32.ofNat 2) (Int32.ofNat a) (Int32.ofNat b))) + (digF ((bg (pickF p1) (pickF p2) (pickF p3) (pickF p4) (pickF p5)) 3) (Int32.ofNat 3) (Int32.ofNat a) (Int32.ofNat b))) + (digF ((bg (pickF p1) (pickF p2) (pickF p3) (pickF p4) (pickF p5)) 4) (Int32.ofNat 4) (Int32.ofNat a) (Int32.ofNat b)))), .unset, .unset] [(.int (2 : Int32)), (.ref b1), (.int ((poiF ((bg (pickF p1) (pickF p2) (pickF p3) (pickF p4) (pickF p5)) 0) (Int32.ofNat 0) (Int32.ofNat a) (Int32.ofNat b)) + (poiF ((bg (pickF p1) (pickF p2) (pickF p3) (pickF p4) (pickF p5)) 1) (Int32.ofNat 1) (Int32.ofNat a) (Int32.ofNat b))))]))
    refine Go.step (fun _ k => XS.iload X25.here hx rfl (hb hby at_229) rfl k) ?_
    show Go FrameEnd p e below s 16 128 (Q0 Z p1 p2 p3 p4 p5 p6 h0 n0) (T25.setTop (mkF m 231 #[.val (.int p1), .val (.int p2), .val (.int p3), .val (.int p4), .val (.int p5), .val (.int p6), .val (.ref b1), .val (.int (Int32.ofNat a)), .val (.int (Int32.ofNat b)), .val (.int y), .val (.int (((((digF ((bg (pickF p1) (pickF p2) (pickF p3) (pickF p4) (pickF p5)) 0) (Int32.ofNat 0) (Int32.ofNat a) (Int32.ofNat b)) + (digF ((bg (pickF p1) (pickF p2) (pickF p3) (pickF p4) (pickF p5)) 1) (Int32.ofNat 1) (Int32.ofNat a) (Int32.ofNat b))) + (digF ((bg (pickF p1) (pickF p2) (pickF p3) (pickF p4) (pickF p5)) 2) (Int32.ofNat 2) (Int32.ofNat a) (Int32.ofNat b))) + (digF ((bg (pickF p1) (pickF p2) (pickF p3) (pickF p4) (pickF p5)) 3) (Int32.ofNat 3) (Int32.ofNat a) (Int32.ofNat b))) + (digF ((bg (pickF p1) (pickF p2) (pickF p3) (pickF p4) (pickF p5)) 4) (Int32.ofNat 4) (Int32.ofNat a) (Int32.ofNat b)))), .unset, .unset] [(.int (Int32.ofNat a)), (.int (2 : Int32)), (.ref b1), (.int ((poiF ((bg (pickF p1) (pickF p2) (pickF p3) (pickF p4) (pickF p5)) 0) (Int32.ofNat 0) (Int32.ofNat a) (Int32.ofNat b)) + (poiF ((bg (pickF p1) (pickF p2) (pickF p3) (pickF p4) (pickF p5)) 1) (Int32.ofNat 1) (Int32.ofNat a) (Int32.ofNat b))))]))
    refine Go.step (fun _ k => XS.iload X25.here hx rfl (hb hby at_231) rfl k) ?_
    show Go FrameEnd p e below s 16 128 (Q0 Z p1 p2 p3 p4 p5 p6 h0 n0) (T25.setTop (mkF m 233 #[.val (.int p1), .val (.int p2), .val (.int p3), .val (.int p4), .val (.int p5), .val (.int p6), .val (.ref b1), .val (.int (Int32.ofNat a)), .val (.int (Int32.ofNat b)), .val (.int y), .val (.int (((((digF ((bg (pickF p1) (pickF p2) (pickF p3) (pickF p4) (pickF p5)) 0) (Int32.ofNat 0) (Int32.ofNat a) (Int32.ofNat b)) + (digF ((bg (pickF p1) (pickF p2) (pickF p3) (pickF p4) (pickF p5)) 1) (Int32.ofNat 1) (Int32.ofNat a) (Int32.ofNat b))) + (digF ((bg (pickF p1) (pickF p2) (pickF p3) (pickF p4) (pickF p5)) 2) (Int32.ofNat 2) (Int32.ofNat a) (Int32.ofNat b))) + (digF ((bg (pickF p1) (pickF p2) (pickF p3) (pickF p4) (pickF p5)) 3) (Int32.ofNat 3) (Int32.ofNat a) (Int32.ofNat b))) + (digF ((bg (pickF p1) (pickF p2) (pickF p3) (pickF p4) (pickF p5)) 4) (Int32.ofNat 4) (Int32.ofNat a) (Int32.ofNat b)))), .unset, .unset] [(.int (Int32.ofNat b)), (.int (Int32.ofNat a)), (.int (2 : Int32)), (.ref b1), (.int ((poiF ((bg (pickF p1) (pickF p2) (pickF p3) (pickF p4) (pickF p5)) 0) (Int32.ofNat 0) (Int32.ofNat a) (Int32.ofNat b)) + (poiF ((bg (pickF p1) (pickF p2) (pickF p3) (pickF p4) (pickF p5)) 1) (Int32.ofNat 1) (Int32.ofNat a) (Int32.ofNat b))))]))
    obtain ⟨_, _, ⟨T26, L26, k26, n26⟩, -, X26, ⟨Lc26, hQ26, l26, y26, z26⟩, st26⟩ := Jvm.LawKit.callS X25 hx (y := (⟨"com/example/quotewire/quotewire/codec/FixFloatIsValidPinLaw", "point", "([BIII)I"⟩ : MethodName)) hown (mvT hZ (hw _ (List.mem_of_getElem? (i := 14) rfl))) (mvT hZ (hw _ (List.mem_of_getElem? (i := 15) rfl))) (mvT hZ (hw _ (List.mem_of_getElem? (i := 3) rfl))) (mvT hZ (hw _ (List.mem_of_getElem? (i := 16) rfl))) (by decide) (backOf (W := 1) (rm5 l Z a0 hw [] b1 (Int32.ofNat a) (Int32.ofNat b) (bg (pickF p1) (pickF p2) (pickF p3) (pickF p4) (pickF p5)) 2 5 h16 V16 (by decide)) hZ (hw _ (List.mem_of_getElem? (i := 16) rfl)) (hw _ (List.mem_of_getElem? (i := 3) rfl)) (by decide) (by decide)) (g := (mkF m 233 #[.val (.int p1), .val (.int p2), .val (.int p3), .val (.int p4), .val (.int p5), .val (.int p6), .val (.ref b1), .val (.int (Int32.ofNat a)), .val (.int (Int32.ofNat b)), .val (.int y), .val (.int (((((digF ((bg (pickF p1) (pickF p2) (pickF p3) (pickF p4) (pickF p5)) 0) (Int32.ofNat 0) (Int32.ofNat a) (Int32.ofNat b)) + (digF ((bg (pickF p1) (pickF p2) (pickF p3) (pickF p4) (pickF p5)) 1) (Int32.ofNat 1) (Int32.ofNat a) (Int32.ofNat b))) + (digF ((bg (pickF p1) (pickF p2) (pickF p3) (pickF p4) (pickF p5)) 2) (Int32.ofNat 2) (Int32.ofNat a) (Int32.ofNat b))) + (digF ((bg (pickF p1) (pickF p2) (pickF p3) (pickF p4) (pickF p5)) 3) (Int32.ofNat 3) (Int32.ofNat a) (Int32.ofNat b))) + (digF ((bg (pickF p1) (pickF p2) (pickF p3) (pickF p4) (pickF p5)) 4) (Int32.ofNat 4) (Int32.ofNat a) (Int32.ofNat b)))), .unset, .unset] [(.int (Int32.ofNat b)), (.int (Int32.ofNat a)), (.int (2 : Int32)), (.ref b1), (.int ((poiF ((bg (pickF p1) (pickF p2) (pickF p3) (pickF p4) (pickF p5)) 0) (Int32.ofNat 0) (Int32.ofNat a) (Int32.ofNat b)) + (poiF ((bg (pickF p1) (pickF p2) (pickF p3) (pickF p4) (pickF p5)) 1) (Int32.ofNat 1) (Int32.ofNat a) (Int32.ofNat b))))])) rfl (by rw [hml]; rfl) (argsL := [(.ref b1), (.int (2 : Int32)), (.int (Int32.ofNat a)), (.int (Int32.ofNat b))]) (rest := [(.int ((poiF ((bg (pickF p1) (pickF p2) (pickF p3) (pickF p4) (pickF p5)) 0) (Int32.ofNat 0) (Int32.ofNat a) (Int32.ofNat b)) + (poiF ((bg (pickF p1) (pickF p2) (pickF p3) (pickF p4) (pickF p5)) 1) (Int32.ofNat 1) (Int32.ofNat a) (Int32.ofNat b))))]) (lenOf pd___BIII_I rfl) rfl (by show 2 * 0 + _ ≤ _; exact Nat.le_of_eq rfl) (hb hby at_233) (fun _ _ => ⟨rfl, e25, (by decide : 1 + 0 ≤ _), (by decide : 5 + 0 ≤ _)⟩)
    dsimp only [Pt.U, Pt.locs, Pt.cells, Pt.slots] at X26 l26 y26 z26 st26 hQ26
    subst l26 y26 z26
    obtain ⟨rfl, rfl, e26⟩ := hQ26
    have N26 := Fr.app N25 (Fr.nil n0)
    refine Go.step st26 ?_
    show Go FrameEnd p e below s 16 128 (Q0 Z p1 p2 p3 p4 p5 p6 h0 n0) (T26.setTop (mkF m 236 #[.val (.int p1), .val (.int p2), .val (.int p3), .val (.int p4), .val (.int p5), .val (.int p6), .val (.ref b1), .val (.int (Int32.ofNat a)), .val (.int (Int32.ofNat b)), .val (.int y), .val (.int (((((digF ((bg (pickF p1) (pickF p2) (pickF p3) (pickF p4) (pickF p5)) 0) (Int32.ofNat 0) (Int32.ofNat a) (Int32.ofNat b)) + (digF ((bg (pickF p1) (pickF p2) (pickF p3) (pickF p4) (pickF p5)) 1) (Int32.ofNat 1) (Int32.ofNat a) (Int32.ofNat b))) + (digF ((bg (pickF p1) (pickF p2) (pickF p3) (pickF p4) (pickF p5)) 2) (Int32.ofNat 2) (Int32.ofNat a) (Int32.ofNat b))) + (digF ((bg (pickF p1) (pickF p2) (pickF p3) (pickF p4) (pickF p5)) 3) (Int32.ofNat 3) (Int32.ofNat a) (Int32.ofNat b))) + (digF ((bg (pickF p1) (pickF p2) (pickF p3) (pickF p4) (pickF p5)) 4) (Int32.ofNat 4) (Int32.ofNat a) (Int32.ofNat b)))), .unset, .unset] [(.int (poiF ((bg (pickF p1) (pickF p2) (pickF p3) (pickF p4) (pickF p5)) 2) (Int32.ofNat 2) (Int32.ofNat a) (Int32.ofNat b))), (.int ((poiF ((bg (pickF p1) (pickF p2) (pickF p3) (pickF p4) (pickF p5)) 0) (Int32.ofNat 0) (Int32.ofNat a) (Int32.ofNat b)) + (poiF ((bg (pickF p1) (pickF p2) (pickF p3) (pickF p4) (pickF p5)) 1) (Int32.ofNat 1) (Int32.ofNat a) (Int32.ofNat b))))]))
    refine Go.step (fun _ k => XS.iadd X26.here hx rfl (hb hby at_236) rfl k) ?_
    show Go FrameEnd p e below s 16 128 (Q0 Z p1 p2 p3 p4 p5 p6 h0 n0) (T26.setTop (mkF m 237 #[.val (.int p1), .val (.int p2), .val (.int p3), .val (.int p4), .val (.int p5), .val (.int p6), .val (.ref b1), .val (.int (Int32.ofNat a)), .val (.int (Int32.ofNat b)), .val (.int y), .val (.int (((((digF ((bg (pickF p1) (pickF p2) (pickF p3) (pickF p4) (pickF p5)) 0) (Int32.ofNat 0) (Int32.ofNat a) (Int32.ofNat b)) + (digF ((bg (pickF p1) (pickF p2) (pickF p3) (pickF p4) (pickF p5)) 1) (Int32.ofNat 1) (Int32.ofNat a) (Int32.ofNat b))) + (digF ((bg (pickF p1) (pickF p2) (pickF p3) (pickF p4) (pickF p5)) 2) (Int32.ofNat 2) (Int32.ofNat a) (Int32.ofNat b))) + (digF ((bg (pickF p1) (pickF p2) (pickF p3) (pickF p4) (pickF p5)) 3) (Int32.ofNat 3) (Int32.ofNat a) (Int32.ofNat b))) + (digF ((bg (pickF p1) (pickF p2) (pickF p3) (pickF p4) (pickF p5)) 4) (Int32.ofNat 4) (Int32.ofNat a) (Int32.ofNat b)))), .unset, .unset] [(.int (((poiF ((bg (pickF p1) (pickF p2) (pickF p3) (pickF p4) (pickF p5)) 0) (Int32.ofNat 0) (Int32.ofNat a) (Int32.ofNat b)) + (poiF ((bg (pickF p1) (pickF p2) (pickF p3) (pickF p4) (pickF p5)) 1) (Int32.ofNat 1) (Int32.ofNat a) (Int32.ofNat b))) + (poiF ((bg (pickF p1) (pickF p2) (pickF p3) (pickF p4) (pickF p5)) 2) (Int32.ofNat 2) (Int32.ofNat a) (Int32.ofNat b))))]))
    refine Go.step (fun _ k => XS.aload X26.here hx rfl (hb hby at_237) rfl rfl k) ?_
    show Go FrameEnd p e below s 16 128 (Q0 Z p1 p2 p3 p4 p5 p6 h0 n0) (T26.setTop (mkF m 239 #[.val (.int p1), .val (.int p2), .val (.int p3), .val (.int p4), .val (.int p5), .val (.int p6), .val (.ref b1), .val (.int (Int32.ofNat a)), .val (.int (Int32.ofNat b)), .val (.int y), .val (.int (((((digF ((bg (pickF p1) (pickF p2) (pickF p3) (pickF p4) (pickF p5)) 0) (Int32.ofNat 0) (Int32.ofNat a) (Int32.ofNat b)) + (digF ((bg (pickF p1) (pickF p2) (pickF p3) (pickF p4) (pickF p5)) 1) (Int32.ofNat 1) (Int32.ofNat a) (Int32.ofNat b))) + (digF ((bg (pickF p1) (pickF p2) (pickF p3) (pickF p4) (pickF p5)) 2) (Int32.ofNat 2) (Int32.ofNat a) (Int32.ofNat b))) + (digF ((bg (pickF p1) (pickF p2) (pickF p3) (pickF p4) (pickF p5)) 3) (Int32.ofNat 3) (Int32.ofNat a) (Int32.ofNat b))) + (digF ((bg (pickF p1) (pickF p2) (pickF p3) (pickF p4) (pickF p5)) 4) (Int32.ofNat 4) (Int32.ofNat a) (Int32.ofNat b)))), .unset, .unset] [(.ref b1), (.int (((poiF ((bg (pickF p1) (pickF p2) (pickF p3) (pickF p4) (pickF p5)) 0) (Int32.ofNat 0) (Int32.ofNat a) (Int32.ofNat b)) + (poiF ((bg (pickF p1) (pickF p2) (pickF p3) (pickF p4) (pickF p5)) 1) (Int32.ofNat 1) (Int32.ofNat a) (Int32.ofNat b))) + (poiF ((bg (pickF p1) (pickF p2) (pickF p3) (pickF p4) (pickF p5)) 2) (Int32.ofNat 2) (Int32.ofNat a) (Int32.ofNat b))))]))
    refine Go.step (fun _ k => XS.iconst X26.here hx rfl (hb hby at_239) k) ?_
    show Go FrameEnd p e below s 16 128 (Q0 Z p1 p2 p3 p4 p5 p6 h0 n0) (T26.setTop (mkF m 240 #[.val (.int p1), .val (.int p2), .val (.int p3), .val (.int p4), .val (.int p5), .val (.int p6), .val (.ref b1), .val (.int (Int32.ofNat a)), .val (.int (Int32.ofNat b)), .val (.int y), .val (.int (((((digF ((bg (pickF p1) (pickF p2) (pickF p3) (pickF p4) (pickF p5)) 0) (Int32.ofNat 0) (Int32.ofNat a) (Int32.ofNat b)) + (digF ((bg (pickF p1) (pickF p2) (pickF p3) (pickF p4) (pickF p5)) 1) (Int32.ofNat 1) (Int32.ofNat a) (Int32.ofNat b))) + (digF ((bg (pickF p1) (pickF p2) (pickF p3) (pickF p4) (pickF p5)) 2) (Int32.ofNat 2) (Int32.ofNat a) (Int32.ofNat b))) + (digF ((bg (pickF p1) (pickF p2) (pickF p3) (pickF p4) (pickF p5)) 3) (Int32.ofNat 3) (Int32.ofNat a) (Int32.ofNat b))) + (digF ((bg (pickF p1) (pickF p2) (pickF p3) (pickF p4) (pickF p5)) 4) (Int32.ofNat 4) (Int32.ofNat a) (Int32.ofNat b)))), .unset, .unset] [(.int (3 : Int32)), (.ref b1), (.int (((poiF ((bg (pickF p1) (pickF p2) (pickF p3) (pickF p4) (pickF p5)) 0) (Int32.ofNat 0) (Int32.ofNat a) (Int32.ofNat b)) + (poiF ((bg (pickF p1) (pickF p2) (pickF p3) (pickF p4) (pickF p5)) 1) (Int32.ofNat 1) (Int32.ofNat a) (Int32.ofNat b))) + (poiF ((bg (pickF p1) (pickF p2) (pickF p3) (pickF p4) (pickF p5)) 2) (Int32.ofNat 2) (Int32.ofNat a) (Int32.ofNat b))))]))
    refine Go.step (fun _ k => XS.iload X26.here hx rfl (hb hby at_240) rfl k) ?_
    show Go FrameEnd p e below s 16 128 (Q0 Z p1 p2 p3 p4 p5 p6 h0 n0) (T26.setTop (mkF m 242 #[.val (.int p1), .val (.int p2), .val (.int p3), .val (.int p4), .val (.int p5), .val (.int p6), .val (.ref b1), .val (.int (Int32.ofNat a)), .val (.int (Int32.ofNat b)), .val (.int y), .val (.int (((((digF ((bg (pickF p1) (pickF p2) (pickF p3) (pickF p4) (pickF p5)) 0) (Int32.ofNat 0) (Int32.ofNat a) (Int32.ofNat b)) + (digF ((bg (pickF p1) (pickF p2) (pickF p3) (pickF p4) (pickF p5)) 1) (Int32.ofNat 1) (Int32.ofNat a) (Int32.ofNat b))) + (digF ((bg (pickF p1) (pickF p2) (pickF p3) (pickF p4) (pickF p5)) 2) (Int32.ofNat 2) (Int32.ofNat a) (Int32.ofNat b))) + (digF ((bg (pickF p1) (pickF p2) (pickF p3) (pickF p4) (pickF p5)) 3) (Int32.ofNat 3) (Int32.ofNat a) (Int32.ofNat b))) + (digF ((bg (pickF p1) (pickF p2) (pickF p3) (pickF p4) (pickF p5)) 4) (Int32.ofNat 4) (Int32.ofNat a) (Int32.ofNat b)))), .unset, .unset] [(.int (Int32.ofNat a)), (.int (3 : Int32)), (.ref b1), (.int (((poiF ((bg (pickF p1) (pickF p2) (pickF p3) (pickF p4) (pickF p5)) 0) (Int32.ofNat 0) (Int32.ofNat a) (Int32.ofNat b)) + (poiF ((bg (pickF p1) (pickF p2) (pickF p3) (pickF p4) (pickF p5)) 1) (Int32.ofNat 1) (Int32.ofNat a) (Int32.ofNat b))) + (poiF ((bg (pickF p1) (pickF p2) (pickF p3) (pickF p4) (pickF p5)) 2) (Int32.ofNat 2) (Int32.ofNat a) (Int32.ofNat b))))]))
    refine Go.step (fun _ k => XS.iload X26.here hx rfl (hb hby at_242) rfl k) ?_
    show Go FrameEnd p e below s 16 128 (Q0 Z p1 p2 p3 p4 p5 p6 h0 n0) (T26.setTop (mkF m 244 #[.val (.int p1), .val (.int p2), .val (.int p3), .val (.int p4), .val (.int p5), .val (.int p6), .val (.ref b1), .val (.int (Int32.ofNat a)), .val (.int (Int32.ofNat b)), .val (.int y), .val (.int (((((digF ((bg (pickF p1) (pickF p2) (pickF p3) (pickF p4) (pickF p5)) 0) (Int32.ofNat 0) (Int32.ofNat a) (Int32.ofNat b)) + (digF ((bg (pickF p1) (pickF p2) (pickF p3) (pickF p4) (pickF p5)) 1) (Int32.ofNat 1) (Int32.ofNat a) (Int32.ofNat b))) + (digF ((bg (pickF p1) (pickF p2) (pickF p3) (pickF p4) (pickF p5)) 2) (Int32.ofNat 2) (Int32.ofNat a) (Int32.ofNat b))) + (digF ((bg (pickF p1) (pickF p2) (pickF p3) (pickF p4) (pickF p5)) 3) (Int32.ofNat 3) (Int32.ofNat a) (Int32.ofNat b))) + (digF ((bg (pickF p1) (pickF p2) (pickF p3) (pickF p4) (pickF p5)) 4) (Int32.ofNat 4) (Int32.ofNat a) (Int32.ofNat b)))), .unset, .unset] [(.int (Int32.ofNat b)), (.int (Int32.ofNat a)), (.int (3 : Int32)), (.ref b1), (.int (((poiF ((bg (pickF p1) (pickF p2) (pickF p3) (pickF p4) (pickF p5)) 0) (Int32.ofNat 0) (Int32.ofNat a) (Int32.ofNat b)) + (poiF ((bg (pickF p1) (pickF p2) (pickF p3) (pickF p4) (pickF p5)) 1) (Int32.ofNat 1) (Int32.ofNat a) (Int32.ofNat b))) + (poiF ((bg (pickF p1) (pickF p2) (pickF p3) (pickF p4) (pickF p5)) 2) (Int32.ofNat 2) (Int32.ofNat a) (Int32.ofNat b))))]))
    obtain ⟨_, _, ⟨T27, L27, k27, n27⟩, -, X27, ⟨Lc27, hQ27, l27, y27, z27⟩, st27⟩ := Jvm.LawKit.callS X26 hx (y := (⟨"com/example/quotewire/quotewire/codec/FixFloatIsValidPinLaw", "point", "([BIII)I"⟩ : MethodName)) hown (mvT hZ (hw _ (List.mem_of_getElem? (i := 14) rfl))) (mvT hZ (hw _ (List.mem_of_getElem? (i := 15) rfl))) (mvT hZ (hw _ (List.mem_of_getElem? (i := 3) rfl))) (mvT hZ (hw _ (List.mem_of_getElem? (i := 16) rfl))) (by decide) (backOf (W := 1) (rm5 l Z a0 hw [] b1 (Int32.ofNat a) (Int32.ofNat b) (bg (pickF p1) (pickF p2) (pickF p3) (pickF p4) (pickF p5)) 3 5 h16 V16 (by decide)) hZ (hw _ (List.mem_of_getElem? (i := 16) rfl)) (hw _ (List.mem_of_getElem? (i := 3) rfl)) (by decide) (by decide)) (g := (mkF m 244 #[.val (.int p1), .val (.int p2), .val (.int p3), .val (.int p4), .val (.int p5), .val (.int p6), .val (.ref b1), .val (.int (Int32.ofNat a)), .val (.int (Int32.ofNat b)), .val (.int y), .val (.int (((((digF ((bg (pickF p1) (pickF p2) (pickF p3) (pickF p4) (pickF p5)) 0) (Int32.ofNat 0) (Int32.ofNat a) (Int32.ofNat b)) + (digF ((bg (pickF p1) (pickF p2) (pickF p3) (pickF p4) (pickF p5)) 1) (Int32.ofNat 1) (Int32.ofNat a) (Int32.ofNat b))) + (digF ((bg (pickF p1) (pickF p2) (pickF p3) (pickF p4) (pickF p5)) 2) (Int32.ofNat 2) (Int32.ofNat a) (Int32.ofNat b))) + (digF ((bg (pickF p1) (pickF p2) (pickF p3) (pickF p4) (pickF p5)) 3) (Int32.ofNat 3) (Int32.ofNat a) (Int32.ofNat b))) + (digF ((bg (pickF p1) (pickF p2) (pickF p3) (pickF p4) (pickF p5)) 4) (Int32.ofNat 4) (Int32.ofNat a) (Int32.ofNat b)))), .unset, .unset] [(.int (Int32.ofNat b)), (.int (Int32.ofNat a)), (.int (3 : Int32)), (.ref b1), (.int (((poiF ((bg (pickF p1) (pickF p2) (pickF p3) (pickF p4) (pickF p5)) 0) (Int32.ofNat 0) (Int32.ofNat a) (Int32.ofNat b)) + (poiF ((bg (pickF p1) (pickF p2) (pickF p3) (pickF p4) (pickF p5)) 1) (Int32.ofNat 1) (Int32.ofNat a) (Int32.ofNat b))) + (poiF ((bg (pickF p1) (pickF p2) (pickF p3) (pickF p4) (pickF p5)) 2) (Int32.ofNat 2) (Int32.ofNat a) (Int32.ofNat b))))])) rfl (by rw [hml]; rfl) (argsL := [(.ref b1), (.int (3 : Int32)), (.int (Int32.ofNat a)), (.int (Int32.ofNat b))]) (rest := [(.int (((poiF ((bg (pickF p1) (pickF p2) (pickF p3) (pickF p4) (pickF p5)) 0) (Int32.ofNat 0) (Int32.ofNat a) (Int32.ofNat b)) + (poiF ((bg (pickF p1) (pickF p2) (pickF p3) (pickF p4) (pickF p5)) 1) (Int32.ofNat 1) (Int32.ofNat a) (Int32.ofNat b))) + (poiF ((bg (pickF p1) (pickF p2) (pickF p3) (pickF p4) (pickF p5)) 2) (Int32.ofNat 2) (Int32.ofNat a) (Int32.ofNat b))))]) (lenOf pd___BIII_I rfl) rfl (by show 2 * 0 + _ ≤ _; exact Nat.le_of_eq rfl) (hb hby at_244) (fun _ _ => ⟨rfl, e26, (by decide : 1 + 0 ≤ _), (by decide : 5 + 0 ≤ _)⟩)
    dsimp only [Pt.U, Pt.locs, Pt.cells, Pt.slots] at X27 l27 y27 z27 st27 hQ27
    subst l27 y27 z27
    obtain ⟨rfl, rfl, e27⟩ := hQ27
    have N27 := Fr.app N26 (Fr.nil n0)
    refine Go.step st27 ?_
    show Go FrameEnd p e below s 16 128 (Q0 Z p1 p2 p3 p4 p5 p6 h0 n0) (T27.setTop (mkF m 247 #[.val (.int p1), .val (.int p2), .val (.int p3), .val (.int p4), .val (.int p5), .val (.int p6), .val (.ref b1), .val (.int (Int32.ofNat a)), .val (.int (Int32.ofNat b)), .val (.int y), .val (.int (((((digF ((bg (pickF p1) (pickF p2) (pickF p3) (pickF p4) (pickF p5)) 0) (Int32.ofNat 0) (Int32.ofNat a) (Int32.ofNat b)) + (digF ((bg (pickF p1) (pickF p2) (pickF p3) (pickF p4) (pickF p5)) 1) (Int32.ofNat 1) (Int32.ofNat a) (Int32.ofNat b))) + (digF ((bg (pickF p1) (pickF p2) (pickF p3) (pickF p4) (pickF p5)) 2) (Int32.ofNat 2) (Int32.ofNat a) (Int32.ofNat b))) + (digF ((bg (pickF p1) (pickF p2) (pickF p3) (pickF p4) (pickF p5)) 3) (Int32.ofNat 3) (Int32.ofNat a) (Int32.ofNat b))) + (digF ((bg (pickF p1) (pickF p2) (pickF p3) (pickF p4) (pickF p5)) 4) (Int32.ofNat 4) (Int32.ofNat a) (Int32.ofNat b)))), .unset, .unset] [(.int (poiF ((bg (pickF p1) (pickF p2) (pickF p3) (pickF p4) (pickF p5)) 3) (Int32.ofNat 3) (Int32.ofNat a) (Int32.ofNat b))), (.int (((poiF ((bg (pickF p1) (pickF p2) (pickF p3) (pickF p4) (pickF p5)) 0) (Int32.ofNat 0) (Int32.ofNat a) (Int32.ofNat b)) + (poiF ((bg (pickF p1) (pickF p2) (pickF p3) (pickF p4) (pickF p5)) 1) (Int32.ofNat 1) (Int32.ofNat a) (Int32.ofNat b))) + (poiF ((bg (pickF p1) (pickF p2) (pickF p3) (pickF p4) (pickF p5)) 2) (Int32.ofNat 2) (Int32.ofNat a) (Int32.ofNat b))))]))
    refine Go.step (fun _ k => XS.iadd X27.here hx rfl (hb hby at_247) rfl k) ?_
    show Go FrameEnd p e below s 16 128 (Q0 Z p1 p2 p3 p4 p5 p6 h0 n0) (T27.setTop (mkF m 248 #[.val (.int p1), .val (.int p2), .val (.int p3), .val (.int p4), .val (.int p5), .val (.int p6), .val (.ref b1), .val (.int (Int32.ofNat a)), .val (.int (Int32.ofNat b)), .val (.int y), .val (.int (((((digF ((bg (pickF p1) (pickF p2) (pickF p3) (pickF p4) (pickF p5)) 0) (Int32.ofNat 0) (Int32.ofNat a) (Int32.ofNat b)) + (digF ((bg (pickF p1) (pickF p2) (pickF p3) (pickF p4) (pickF p5)) 1) (Int32.ofNat 1) (Int32.ofNat a) (Int32.ofNat b))) + (digF ((bg (pickF p1) (pickF p2) (pickF p3) (pickF p4) (pickF p5)) 2) (Int32.ofNat 2) (Int32.ofNat a) (Int32.ofNat b))) + (digF ((bg (pickF p1) (pickF p2) (pickF p3) (pickF p4) (pickF p5)) 3) (Int32.ofNat 3) (Int32.ofNat a) (Int32.ofNat b))) + (digF ((bg (pickF p1) (pickF p2) (pickF p3) (pickF p4) (pickF p5)) 4) (Int32.ofNat 4) (Int32.ofNat a) (Int32.ofNat b)))), .unset, .unset] [(.int ((((poiF ((bg (pickF p1) (pickF p2) (pickF p3) (pickF p4) (pickF p5)) 0) (Int32.ofNat 0) (Int32.ofNat a) (Int32.ofNat b)) + (poiF ((bg (pickF p1) (pickF p2) (pickF p3) (pickF p4) (pickF p5)) 1) (Int32.ofNat 1) (Int32.ofNat a) (Int32.ofNat b))) + (poiF ((bg (pickF p1) (pickF p2) (pickF p3) (pickF p4) (pickF p5)) 2) (Int32.ofNat 2) (Int32.ofNat a) (Int32.ofNat b))) + (poiF ((bg (pickF p1) (pickF p2) (pickF p3) (pickF p4) (pickF p5)) 3) (Int32.ofNat 3) (Int32.ofNat a) (Int32.ofNat b))))]))
    refine Go.step (fun _ k => XS.aload X27.here hx rfl (hb hby at_248) rfl rfl k) ?_
    show Go FrameEnd p e below s 16 128 (Q0 Z p1 p2 p3 p4 p5 p6 h0 n0) (T27.setTop (mkF m 250 #[.val (.int p1), .val (.int p2), .val (.int p3), .val (.int p4), .val (.int p5), .val (.int p6), .val (.ref b1), .val (.int (Int32.ofNat a)), .val (.int (Int32.ofNat b)), .val (.int y), .val (.int (((((digF ((bg (pickF p1) (pickF p2) (pickF p3) (pickF p4) (pickF p5)) 0) (Int32.ofNat 0) (Int32.ofNat a) (Int32.ofNat b)) + (digF ((bg (pickF p1) (pickF p2) (pickF p3) (pickF p4) (pickF p5)) 1) (Int32.ofNat 1) (Int32.ofNat a) (Int32.ofNat b))) + (digF ((bg (pickF p1) (pickF p2) (pickF p3) (pickF p4) (pickF p5)) 2) (Int32.ofNat 2) (Int32.ofNat a) (Int32.ofNat b))) + (digF ((bg (pickF p1) (pickF p2) (pickF p3) (pickF p4) (pickF p5)) 3) (Int32.ofNat 3) (Int32.ofNat a) (Int32.ofNat b))) + (digF ((bg (pickF p1) (pickF p2) (pickF p3) (pickF p4) (pickF p5)) 4) (Int32.ofNat 4) (Int32.ofNat a) (Int32.ofNat b)))), .unset, .unset] [(.ref b1), (.int ((((poiF ((bg (pickF p1) (pickF p2) (pickF p3) (pickF p4) (pickF p5)) 0) (Int32.ofNat 0) (Int32.ofNat a) (Int32.ofNat b)) + (poiF ((bg (pickF p1) (pickF p2) (pickF p3) (pickF p4) (pickF p5)) 1) (Int32.ofNat 1) (Int32.ofNat a) (Int32.ofNat b))) + (poiF ((bg (pickF p1) (pickF p2) (pickF p3) (pickF p4) (pickF p5)) 2) (Int32.ofNat 2) (Int32.ofNat a) (Int32.ofNat b))) + (poiF ((bg (pickF p1) (pickF p2) (pickF p3) (pickF p4) (pickF p5)) 3) (Int32.ofNat 3) (Int32.ofNat a) (Int32.ofNat b))))]))
    refine Go.step (fun _ k => XS.iconst X27.here hx rfl (hb hby at_250) k) ?_
    show Go FrameEnd p e below s 16 128 (Q0 Z p1 p2 p3 p4 p5 p6 h0 n0) (T27.setTop (mkF m 251 #[.val (.int p1), .val (.int p2), .val (.int p3), .val (.int p4), .val (.int p5), .val (.int p6), .val (.ref b1), .val (.int (Int32.ofNat a)), .val (.int (Int32.ofNat b)), .val (.int y), .val (.int (((((digF ((bg (pickF p1) (pickF p2) (pickF p3) (pickF p4) (pickF p5)) 0) (Int32.ofNat 0) (Int32.ofNat a) (Int32.ofNat b)) + (digF ((bg (pickF p1) (pickF p2) (pickF p3) (pickF p4) (pickF p5)) 1) (Int32.ofNat 1) (Int32.ofNat a) (Int32.ofNat b))) + (digF ((bg (pickF p1) (pickF p2) (pickF p3) (pickF p4) (pickF p5)) 2) (Int32.ofNat 2) (Int32.ofNat a) (Int32.ofNat b))) + (digF ((bg (pickF p1) (pickF p2) (pickF p3) (pickF p4) (pickF p5)) 3) (Int32.ofNat 3) (Int32.ofNat a) (Int32.ofNat b))) + (digF ((bg (pickF p1) (pickF p2) (pickF p3) (pickF p4) (pickF p5)) 4) (Int32.ofNat 4) (Int32.ofNat a) (Int32.ofNat b)))), .unset, .unset] [(.int (4 : Int32)), (.ref b1), (.int ((((poiF ((bg (pickF p1) (pickF p2) (pickF p3) (pickF p4) (pickF p5)) 0) (Int32.ofNat 0) (Int32.ofNat a) (Int32.ofNat b)) + (poiF ((bg (pickF p1) (pickF p2) (pickF p3) (pickF p4) (pickF p5)) 1) (Int32.ofNat 1) (Int32.ofNat a) (Int32.ofNat b))) + (poiF ((bg (pickF p1) (pickF p2) (pickF p3) (pickF p4) (pickF p5)) 2) (Int32.ofNat 2) (Int32.ofNat a) (Int32.ofNat b))) + (poiF ((bg (pickF p1) (pickF p2) (pickF p3) (pickF p4) (pickF p5)) 3) (Int32.ofNat 3) (Int32.ofNat a) (Int32.ofNat b))))]))
    refine Go.step (fun _ k => XS.iload X27.here hx rfl (hb hby at_251) rfl k) ?_
    show Go FrameEnd p e below s 16 128 (Q0 Z p1 p2 p3 p4 p5 p6 h0 n0) (T27.setTop (mkF m 253 #[.val (.int p1), .val (.int p2), .val (.int p3), .val (.int p4), .val (.int p5), .val (.int p6), .val (.ref b1), .val (.int (Int32.ofNat a)), .val (.int (Int32.ofNat b)), .val (.int y), .val (.int (((((digF ((bg (pickF p1) (pickF p2) (pickF p3) (pickF p4) (pickF p5)) 0) (Int32.ofNat 0) (Int32.ofNat a) (Int32.ofNat b)) + (digF ((bg (pickF p1) (pickF p2) (pickF p3) (pickF p4) (pickF p5)) 1) (Int32.ofNat 1) (Int32.ofNat a) (Int32.ofNat b))) + (digF ((bg (pickF p1) (pickF p2) (pickF p3) (pickF p4) (pickF p5)) 2) (Int32.ofNat 2) (Int32.ofNat a) (Int32.ofNat b))) + (digF ((bg (pickF p1) (pickF p2) (pickF p3) (pickF p4) (pickF p5)) 3) (Int32.ofNat 3) (Int32.ofNat a) (Int32.ofNat b))) + (digF ((bg (pickF p1) (pickF p2) (pickF p3) (pickF p4) (pickF p5)) 4) (Int32.ofNat 4) (Int32.ofNat a) (Int32.ofNat b)))), .unset, .unset] [(.int (Int32.ofNat a)), (.int (4 : Int32)), (.ref b1), (.int ((((poiF ((bg (pickF p1) (pickF p2) (pickF p3) (pickF p4) (pickF p5)) 0) (Int32.ofNat 0) (Int32.ofNat a) (Int32.ofNat b)) + (poiF ((bg (pickF p1) (pickF p2) (pickF p3) (pickF p4) (pickF p5)) 1) (Int32.ofNat 1) (Int32.ofNat a) (Int32.ofNat b))) + (poiF ((bg (pickF p1) (pickF p2) (pickF p3) (pickF p4) (pickF p5)) 2) (Int32.ofNat 2) (Int32.ofNat a) (Int32.ofNat b))) + (poiF ((bg (pickF p1) (pickF p2) (pickF p3) (pickF p4) (pickF p5)) 3) (Int32.ofNat 3) (Int32.ofNat a) (Int32.ofNat b))))]))
    refine Go.step (fun _ k => XS.iload X27.here hx rfl (hb hby at_253) rfl k) ?_
    show Go FrameEnd p e below s 16 128 (Q0 Z p1 p2 p3 p4 p5 p6 h0 n0) (T27.setTop (mkF m 255 #[.val (.int p1), .val (.int p2), .val (.int p3), .val (.int p4), .val (.int p5), .val (.int p6), .val (.ref b1), .val (.int (Int32.ofNat a)), .val (.int (Int32.ofNat b)), .val (.int y), .val (.int (((((digF ((bg (pickF p1) (pickF p2) (pickF p3) (pickF p4) (pickF p5)) 0) (Int32.ofNat 0) (Int32.ofNat a) (Int32.ofNat b)) + (digF ((bg (pickF p1) (pickF p2) (pickF p3) (pickF p4) (pickF p5)) 1) (Int32.ofNat 1) (Int32.ofNat a) (Int32.ofNat b))) + (digF ((bg (pickF p1) (pickF p2) (pickF p3) (pickF p4) (pickF p5)) 2) (Int32.ofNat 2) (Int32.ofNat a) (Int32.ofNat b))) + (digF ((bg (pickF p1) (pickF p2) (pickF p3) (pickF p4) (pickF p5)) 3) (Int32.ofNat 3) (Int32.ofNat a) (Int32.ofNat b))) + (digF ((bg (pickF p1) (pickF p2) (pickF p3) (pickF p4) (pickF p5)) 4) (Int32.ofNat 4) (Int32.ofNat a) (Int32.ofNat b)))), .unset, .unset] [(.int (Int32.ofNat b)), (.int (Int32.ofNat a)), (.int (4 : Int32)), (.ref b1), (.int ((((poiF ((bg (pickF p1) (pickF p2) (pickF p3) (pickF p4) (pickF p5)) 0) (Int32.ofNat 0) (Int32.ofNat a) (Int32.ofNat b)) + (poiF ((bg (pickF p1) (pickF p2) (pickF p3) (pickF p4) (pickF p5)) 1) (Int32.ofNat 1) (Int32.ofNat a) (Int32.ofNat b))) + (poiF ((bg (pickF p1) (pickF p2) (pickF p3) (pickF p4) (pickF p5)) 2) (Int32.ofNat 2) (Int32.ofNat a) (Int32.ofNat b))) + (poiF ((bg (pickF p1) (pickF p2) (pickF p3) (pickF p4) (pickF p5)) 3) (Int32.ofNat 3) (Int32.ofNat a) (Int32.ofNat b))))]))
    obtain ⟨_, _, ⟨T28, L28, k28, n28⟩, -, X28, ⟨Lc28, hQ28, l28, y28, z28⟩, st28⟩ := Jvm.LawKit.callS X27 hx (y := (⟨"com/example/quotewire/quotewire/codec/FixFloatIsValidPinLaw", "point", "([BIII)I"⟩ : MethodName)) hown (mvT hZ (hw _ (List.mem_of_getElem? (i := 14) rfl))) (mvT hZ (hw _ (List.mem_of_getElem? (i := 15) rfl))) (mvT hZ (hw _ (List.mem_of_getElem? (i := 3) rfl))) (mvT hZ (hw _ (List.mem_of_getElem? (i := 16) rfl))) (by decide) (backOf (W := 1) (rm5 l Z a0 hw [] b1 (Int32.ofNat a) (Int32.ofNat b) (bg (pickF p1) (pickF p2) (pickF p3) (pickF p4) (pickF p5)) 4 5 h16 V16 (by decide)) hZ (hw _ (List.mem_of_getElem? (i := 16) rfl)) (hw _ (List.mem_of_getElem? (i := 3) rfl)) (by decide) (by decide)) (g := (mkF m 255 #[.val (.int p1), .val (.int p2), .val (.int p3), .val (.int p4), .val (.int p5), .val (.int p6), .val (.ref b1), .val (.int (Int32.ofNat a)), .val (.int (Int32.ofNat b)), .val (.int y), .val (.int (((((digF ((bg (pickF p1) (pickF p2) (pickF p3) (pickF p4) (pickF p5)) 0) (Int32.ofNat 0) (Int32.ofNat a) (Int32.ofNat b)) + (digF ((bg (pickF p1) (pickF p2) (pickF p3) (pickF p4) (pickF p5)) 1) (Int32.ofNat 1) (Int32.ofNat a) (Int32.ofNat b))) + (digF ((bg (pickF p1) (pickF p2) (pickF p3) (pickF p4) (pickF p5)) 2) (Int32.ofNat 2) (Int32.ofNat a) (Int32.ofNat b))) + (digF ((bg (pickF p1) (pickF p2) (pickF p3) (pickF p4) (pickF p5)) 3) (Int32.ofNat 3) (Int32.ofNat a) (Int32.ofNat b))) + (digF ((bg (pickF p1) (pickF p2) (pickF p3) (pickF p4) (pickF p5)) 4) (Int32.ofNat 4) (Int32.ofNat a) (Int32.ofNat b)))), .unset, .unset] [(.int (Int32.ofNat b)), (.int (Int32.ofNat a)), (.int (4 : Int32)), (.ref b1), (.int ((((poiF ((bg (pickF p1) (pickF p2) (pickF p3) (pickF p4) (pickF p5)) 0) (Int32.ofNat 0) (Int32.ofNat a) (Int32.ofNat b)) + (poiF ((bg (pickF p1) (pickF p2) (pickF p3) (pickF p4) (pickF p5)) 1) (Int32.ofNat 1) (Int32.ofNat a) (Int32.ofNat b))) + (poiF ((bg (pickF p1) (pickF p2) (pickF p3) (pickF p4) (pickF p5)) 2) (Int32.ofNat 2) (Int32.ofNat a) (Int32.ofNat b))) + (poiF ((bg (pickF p1) (pickF p2) (pickF p3) (pickF p4) (pickF p5)) 3) (Int32.ofNat 3) (Int32.ofNat a) (Int32.ofNat b))))])) rfl (by rw [hml]; rfl) (argsL := [(.ref b1), (.int (4 : Int32)), (.int (Int32.ofNat a)), (.int (Int32.ofNat b))]) (rest := [(.int ((((poiF ((bg (pickF p1) (pickF p2) (pickF p3) (pickF p4) (pickF p5)) 0) (Int32.ofNat 0) (Int32.ofNat a) (Int32.ofNat b)) + (poiF ((bg (pickF p1) (pickF p2) (pickF p3) (pickF p4) (pickF p5)) 1) (Int32.ofNat 1) (Int32.ofNat a) (Int32.ofNat b))) + (poiF ((bg (pickF p1) (pickF p2) (pickF p3) (pickF p4) (pickF p5)) 2) (Int32.ofNat 2) (Int32.ofNat a) (Int32.ofNat b))) + (poiF ((bg (pickF p1) (pickF p2) (pickF p3) (pickF p4) (pickF p5)) 3) (Int32.ofNat 3) (Int32.ofNat a) (Int32.ofNat b))))]) (lenOf pd___BIII_I rfl) rfl (by show 2 * 0 + _ ≤ _; exact Nat.le_of_eq rfl) (hb hby at_255) (fun _ _ => ⟨rfl, e27, (by decide : 1 + 0 ≤ _), (by decide : 5 + 0 ≤ _)⟩)
    dsimp only [Pt.U, Pt.locs, Pt.cells, Pt.slots] at X28 l28 y28 z28 st28 hQ28
    subst l28 y28 z28
    obtain ⟨rfl, rfl, e28⟩ := hQ28
    have N28 := Fr.app N27 (Fr.nil n0)
    refine Go.step st28 ?_
    show Go FrameEnd p e below s 16 128 (Q0 Z p1 p2 p3 p4 p5 p6 h0 n0) (T28.setTop (mkF m 258 #[.val (.int p1), .val (.int p2), .val (.int p3), .val (.int p4), .val (.int p5), .val (.int p6), .val (.ref b1), .val (.int (Int32.ofNat a)), .val (.int (Int32.ofNat b)), .val (.int y), .val (.int (((((digF ((bg (pickF p1) (pickF p2) (pickF p3) (pickF p4) (pickF p5)) 0) (Int32.ofNat 0) (Int32.ofNat a) (Int32.ofNat b)) + (digF ((bg (pickF p1) (pickF p2) (pickF p3) (pickF p4) (pickF p5)) 1) (Int32.ofNat 1) (Int32.ofNat a) (Int32.ofNat b))) + (digF ((bg (pickF p1) (pickF p2) (pickF p3) (pickF p4) (pickF p5)) 2) (Int32.ofNat 2) (Int32.ofNat a) (Int32.ofNat b))) + (digF ((bg (pickF p1) (pickF p2) (pickF p3) (pickF p4) (pickF p5)) 3) (Int32.ofNat 3) (Int32.ofNat a) (Int32.ofNat b))) + (digF ((bg (pickF p1) (pickF p2) (pickF p3) (pickF p4) (pickF p5)) 4) (Int32.ofNat 4) (Int32.ofNat a) (Int32.ofNat b)))), .unset, .unset] [(.int (poiF ((bg (pickF p1) (pickF p2) (pickF p3) (pickF p4) (pickF p5)) 4) (Int32.ofNat 4) (Int32.ofNat a) (Int32.ofNat b))), (.int ((((poiF ((bg (pickF p1) (pickF p2) (pickF p3) (pickF p4) (pickF p5)) 0) (Int32.ofNat 0) (Int32.ofNat a) (Int32.ofNat b)) + (poiF ((bg (pickF p1) (pickF p2) (pickF p3) (pickF p4) (pickF p5)) 1) (Int32.ofNat 1) (Int32.ofNat a) (Int32.ofNat b))) + (poiF ((bg (pickF p1) (pickF p2) (pickF p3) (pickF p4) (pickF p5)) 2) (Int32.ofNat 2) (Int32.ofNat a) (Int32.ofNat b))) + (poiF ((bg (pickF p1) (pickF p2) (pickF p3) (pickF p4) (pickF p5)) 3) (Int32.ofNat 3) (Int32.ofNat a) (Int32.ofNat b))))]))
    refine Go.step (fun _ k => XS.iadd X28.here hx rfl (hb hby at_258) rfl k) ?_
    show Go FrameEnd p e below s 16 128 (Q0 Z p1 p2 p3 p4 p5 p6 h0 n0) (T28.setTop (mkF m 259 #[.val (.int p1), .val (.int p2), .val (.int p3), .val (.int p4), .val (.int p5), .val (.int p6), .val (.ref b1), .val (.int (Int32.ofNat a)), .val (.int (Int32.ofNat b)), .val (.int y), .val (.int (((((digF ((bg (pickF p1) (pickF p2) (pickF p3) (pickF p4) (pickF p5)) 0) (Int32.ofNat 0) (Int32.ofNat a) (Int32.ofNat b)) + (digF ((bg (pickF p1) (pickF p2) (pickF p3) (pickF p4) (pickF p5)) 1) (Int32.ofNat 1) (Int32.ofNat a) (Int32.ofNat b))) + (digF ((bg (pickF p1) (pickF p2) (pickF p3) (pickF p4) (pickF p5)) 2) (Int32.ofNat 2) (Int32.ofNat a) (Int32.ofNat b))) + (digF ((bg (pickF p1) (pickF p2) (pickF p3) (pickF p4) (pickF p5)) 3) (Int32.ofNat 3) (Int32.ofNat a) (Int32.ofNat b))) + (digF ((bg (pickF p1) (pickF p2) (pickF p3) (pickF p4) (pickF p5)) 4) (Int32.ofNat 4) (Int32.ofNat a) (Int32.ofNat b)))), .unset, .unset] [(.int (((((poiF ((bg (pickF p1) (pickF p2) (pickF p3) (pickF p4) (pickF p5)) 0) (Int32.ofNat 0) (Int32.ofNat a) (Int32.ofNat b)) + (poiF ((bg (pickF p1) (pickF p2) (pickF p3) (pickF p4) (pickF p5)) 1) (Int32.ofNat 1) (Int32.ofNat a) (Int32.ofNat b))) + (poiF ((bg (pickF p1) (pickF p2) (pickF p3) (pickF p4) (pickF p5)) 2) (Int32.ofNat 2) (Int32.ofNat a) (Int32.ofNat b))) + (poiF ((bg (pickF p1) (pickF p2) (pickF p3) (pickF p4) (pickF p5)) 3) (Int32.ofNat 3) (Int32.ofNat a) (Int32.ofNat b))) + (poiF ((bg (pickF p1) (pickF p2) (pickF p3) (pickF p4) (pickF p5)) 4) (Int32.ofNat 4) (Int32.ofNat a) (Int32.ofNat b))))]))
    refine Go.step (fun _ k => XS.istore X28.here hx rfl (hb hby at_259) rfl (l' := #[.val (.int p1), .val (.int p2), .val (.int p3), .val (.int p4), .val (.int p5), .val (.int p6), .val (.ref b1), .val (.int (Int32.ofNat a)), .val (.int (Int32.ofNat b)), .val (.int y), .val (.int (((((digF ((bg (pickF p1) (pickF p2) (pickF p3) (pickF p4) (pickF p5)) 0) (Int32.ofNat 0) (Int32.ofNat a) (Int32.ofNat b)) + (digF ((bg (pickF p1) (pickF p2) (pickF p3) (pickF p4) (pickF p5)) 1) (Int32.ofNat 1) (Int32.ofNat a) (Int32.ofNat b))) + (digF ((bg (pickF p1) (pickF p2) (pickF p3) (pickF p4) (pickF p5)) 2) (Int32.ofNat 2) (Int32.ofNat a) (Int32.ofNat b))) + (digF ((bg (pickF p1) (pickF p2) (pickF p3) (pickF p4) (pickF p5)) 3) (Int32.ofNat 3) (Int32.ofNat a) (Int32.ofNat b))) + (digF ((bg (pickF p1) (pickF p2) (pickF p3) (pickF p4) (pickF p5)) 4) (Int32.ofNat 4) (Int32.ofNat a) (Int32.ofNat b)))), .val (.int (((((poiF ((bg (pickF p1) (pickF p2) (pickF p3) (pickF p4) (pickF p5)) 0) (Int32.ofNat 0) (Int32.ofNat a) (Int32.ofNat b)) + (poiF ((bg (pickF p1) (pickF p2) (pickF p3) (pickF p4) (pickF p5)) 1) (Int32.ofNat 1) (Int32.ofNat a) (Int32.ofNat b))) + (poiF ((bg (pickF p1) (pickF p2) (pickF p3) (pickF p4) (pickF p5)) 2) (Int32.ofNat 2) (Int32.ofNat a) (Int32.ofNat b))) + (poiF ((bg (pickF p1) (pickF p2) (pickF p3) (pickF p4) (pickF p5)) 3) (Int32.ofNat 3) (Int32.ofNat a) (Int32.ofNat b))) + (poiF ((bg (pickF p1) (pickF p2) (pickF p3) (pickF p4) (pickF p5)) 4) (Int32.ofNat 4) (Int32.ofNat a) (Int32.ofNat b)))), .unset]) rfl k) ?_
    show Go FrameEnd p e below s 16 128 (Q0 Z p1 p2 p3 p4 p5 p6 h0 n0) (T28.setTop (mkF m 261 #[.val (.int p1), .val (.int p2), .val (.int p3), .val (.int p4), .val (.int p5), .val (.int p6), .val (.ref b1), .val (.int (Int32.ofNat a)), .val (.int (Int32.ofNat b)), .val (.int y), .val (.int (((((digF ((bg (pickF p1) (pickF p2) (pickF p3) (pickF p4) (pickF p5)) 0) (Int32.ofNat 0) (Int32.ofNat a) (Int32.ofNat b)) + (digF ((bg (pickF p1) (pickF p2) (pickF p3) (pickF p4) (pickF p5)) 1) (Int32.ofNat 1) (Int32.ofNat a) (Int32.ofNat b))) + (digF ((bg (pickF p1) (pickF p2) (pickF p3) (pickF p4) (pickF p5)) 2) (Int32.ofNat 2) (Int32.ofNat a) (Int32.ofNat b))) + (digF ((bg (pickF p1) (pickF p2) (pickF p3) (pickF p4) (pickF p5)) 3) (Int32.ofNat 3) (Int32.ofNat a) (Int32.ofNat b))) + (digF ((bg (pickF p1) (pickF p2) (pickF p3) (pickF p4) (pickF p5)) 4) (Int32.ofNat 4) (Int32.ofNat a) (Int32.ofNat b)))), .val (.int (((((poiF ((bg (pickF p1) (pickF p2) (pickF p3) (pickF p4) (pickF p5)) 0) (Int32.ofNat 0) (Int32.ofNat a) (Int32.ofNat b)) + (poiF ((bg (pickF p1) (pickF p2) (pickF p3) (pickF p4) (pickF p5)) 1) (Int32.ofNat 1) (Int32.ofNat a) (Int32.ofNat b))) + (poiF ((bg (pickF p1) (pickF p2) (pickF p3) (pickF p4) (pickF p5)) 2) (Int32.ofNat 2) (Int32.ofNat a) (Int32.ofNat b))) + (poiF ((bg (pickF p1) (pickF p2) (pickF p3) (pickF p4) (pickF p5)) 3) (Int32.ofNat 3) (Int32.ofNat a) (Int32.ofNat b))) + (poiF ((bg (pickF p1) (pickF p2) (pickF p3) (pickF p4) (pickF p5)) 4) (Int32.ofNat 4) (Int32.ofNat a) (Int32.ofNat b)))), .unset] []))
    have J283_29 : ∀ (x : Int32), (expV y (((((digF ((bg (pickF p1) (pickF p2) (pickF p3) (pickF p4) (pickF p5)) 0) (Int32.ofNat 0) (Int32.ofNat a) (Int32.ofNat b)) + (digF ((bg (pickF p1) (pickF p2) (pickF p3) (pickF p4) (pickF p5)) 1) (Int32.ofNat 1) (Int32.ofNat a) (Int32.ofNat b))) + (digF ((bg (pickF p1) (pickF p2) (pickF p3) (pickF p4) (pickF p5)) 2) (Int32.ofNat 2) (Int32.ofNat a) (Int32.ofNat b))) + (digF ((bg (pickF p1) (pickF p2) (pickF p3) (pickF p4) (pickF p5)) 3) (Int32.ofNat 3) (Int32.ofNat a) (Int32.ofNat b))) + (digF ((bg (pickF p1) (pickF p2) (pickF p3) (pickF p4) (pickF p5)) 4) (Int32.ofNat 4) (Int32.ofNat a) (Int32.ofNat b))) (((((poiF ((bg (pickF p1) (pickF p2) (pickF p3) (pickF p4) (pickF p5)) 0) (Int32.ofNat 0) (Int32.ofNat a) (Int32.ofNat b)) + (poiF ((bg (pickF p1) (pickF p2) (pickF p3) (pickF p4) (pickF p5)) 1) (Int32.ofNat 1) (Int32.ofNat a) (Int32.ofNat b))) + (poiF ((bg (pickF p1) (pickF p2) (pickF p3) (pickF p4) (pickF p5)) 2) (Int32.ofNat 2) (Int32.ofNat a) (Int32.ofNat b))) + (poiF ((bg (pickF p1) (pickF p2) (pickF p3) (pickF p4) (pickF p5)) 3) (Int32.ofNat 3) (Int32.ofNat a) (Int32.ofNat b))) + (poiF ((bg (pickF p1) (pickF p2) (pickF p3) (pickF p4) (pickF p5)) 4) (Int32.ofNat 4) (Int32.ofNat a) (Int32.ofNat b))) = x) → Go FrameEnd p e below s 16 128 (Q0 Z p1 p2 p3 p4 p5 p6 h0 n0) (T28.setTop (mkF m 283 #[.val (.int p1), .val (.int p2), .val (.int p3), .val (.int p4), .val (.int p5), .val (.int p6), .val (.ref b1), .val (.int (Int32.ofNat a)), .val (.int (Int32.ofNat b)), .val (.int y), .val (.int (((((digF ((bg (pickF p1) (pickF p2) (pickF p3) (pickF p4) (pickF p5)) 0) (Int32.ofNat 0) (Int32.ofNat a) (Int32.ofNat b)) + (digF ((bg (pickF p1) (pickF p2) (pickF p3) (pickF p4) (pickF p5)) 1) (Int32.ofNat 1) (Int32.ofNat a) (Int32.ofNat b))) + (digF ((bg (pickF p1) (pickF p2) (pickF p3) (pickF p4) (pickF p5)) 2) (Int32.ofNat 2) (Int32.ofNat a) (Int32.ofNat b))) + (digF ((bg (pickF p1) (pickF p2) (pickF p3) (pickF p4) (pickF p5)) 3) (Int32.ofNat 3) (Int32.ofNat a) (Int32.ofNat b))) + (digF ((bg (pickF p1) (pickF p2) (pickF p3) (pickF p4) (pickF p5)) 4) (Int32.ofNat 4) (Int32.ofNat a) (Int32.ofNat b)))), .val (.int (((((poiF ((bg (pickF p1) (pickF p2) (pickF p3) (pickF p4) (pickF p5)) 0) (Int32.ofNat 0) (Int32.ofNat a) (Int32.ofNat b)) + (poiF ((bg (pickF p1) (pickF p2) (pickF p3) (pickF p4) (pickF p5)) 1) (Int32.ofNat 1) (Int32.ofNat a) (Int32.ofNat b))) + (poiF ((bg (pickF p1) (pickF p2) (pickF p3) (pickF p4) (pickF p5)) 2) (Int32.ofNat 2) (Int32.ofNat a) (Int32.ofNat b))) + (poiF ((bg (pickF p1) (pickF p2) (pickF p3) (pickF p4) (pickF p5)) 3) (Int32.ofNat 3) (Int32.ofNat a) (Int32.ofNat b))) + (poiF ((bg (pickF p1) (pickF p2) (pickF p3) (pickF p4) (pickF p5)) 4) (Int32.ofNat 4) (Int32.ofNat a) (Int32.ofNat b)))), .unset] [(.int x)])) := by
      intro x hx283
      show Go FrameEnd p e below s 16 128 (Q0 Z p1 p2 p3 p4 p5 p6 h0 n0) (T28.setTop (mkF m 283 #[.val (.int p1), .val (.int p2), .val (.int p3), .val (.int p4), .val (.int p5), .val (.int p6), .val (.ref b1), .val (.int (Int32.ofNat a)), .val (.int (Int32.ofNat b)), .val (.int y), .val (.int (((((digF ((bg (pickF p1) (pickF p2) (pickF p3) (pickF p4) (pickF p5)) 0) (Int32.ofNat 0) (Int32.ofNat a) (Int32.ofNat b)) + (digF ((bg (pickF p1) (pickF p2) (pickF p3) (pickF p4) (pickF p5)) 1) (Int32.ofNat 1) (Int32.ofNat a) (Int32.ofNat b))) + (digF ((bg (pickF p1) (pickF p2) (pickF p3) (pickF p4) (pickF p5)) 2) (Int32.ofNat 2) (Int32.ofNat a) (Int32.ofNat b))) + (digF ((bg (pickF p1) (pickF p2) (pickF p3) (pickF p4) (pickF p5)) 3) (Int32.ofNat 3) (Int32.ofNat a) (Int32.ofNat b))) + (digF ((bg (pickF p1) (pickF p2) (pickF p3) (pickF p4) (pickF p5)) 4) (Int32.ofNat 4) (Int32.ofNat a) (Int32.ofNat b)))), .val (.int (((((poiF ((bg (pickF p1) (pickF p2) (pickF p3) (pickF p4) (pickF p5)) 0) (Int32.ofNat 0) (Int32.ofNat a) (Int32.ofNat b)) + (poiF ((bg (pickF p1) (pickF p2) (pickF p3) (pickF p4) (pickF p5)) 1) (Int32.ofNat 1) (Int32.ofNat a) (Int32.ofNat b))) + (poiF ((bg (pickF p1) (pickF p2) (pickF p3) (pickF p4) (pickF p5)) 2) (Int32.ofNat 2) (Int32.ofNat a) (Int32.ofNat b))) + (poiF ((bg (pickF p1) (pickF p2) (pickF p3) (pickF p4) (pickF p5)) 3) (Int32.ofNat 3) (Int32.ofNat a) (Int32.ofNat b))) + (poiF ((bg (pickF p1) (pickF p2) (pickF p3) (pickF p4) (pickF p5)) 4) (Int32.ofNat 4) (Int32.ofNat a) (Int32.ofNat b)))), .unset] [(.int x)]))
      refine Go.step (fun _ k => XS.istore X28.here hx rfl (hb hby at_283) rfl (l' := #[.val (.int p1), .val (.int p2), .val (.int p3), .val (.int p4), .val (.int p5), .val (.int p6), .val (.ref b1), .val (.int (Int32.ofNat a)), .val (.int (Int32.ofNat b)), .val (.int y), .val (.int (((((digF ((bg (pickF p1) (pickF p2) (pickF p3) (pickF p4) (pickF p5)) 0) (Int32.ofNat 0) (Int32.ofNat a) (Int32.ofNat b)) + (digF ((bg (pickF p1) (pickF p2) (pickF p3) (pickF p4) (pickF p5)) 1) (Int32.ofNat 1) (Int32.ofNat a) (Int32.ofNat b))) + (digF ((bg (pickF p1) (pickF p2) (pickF p3) (pickF p4) (pickF p5)) 2) (Int32.ofNat 2) (Int32.ofNat a) (Int32.ofNat b))) + (digF ((bg (pickF p1) (pickF p2) (pickF p3) (pickF p4) (pickF p5)) 3) (Int32.ofNat 3) (Int32.ofNat a) (Int32.ofNat b))) + (digF ((bg (pickF p1) (pickF p2) (pickF p3) (pickF p4) (pickF p5)) 4) (Int32.ofNat 4) (Int32.ofNat a) (Int32.ofNat b)))), .val (.int (((((poiF ((bg (pickF p1) (pickF p2) (pickF p3) (pickF p4) (pickF p5)) 0) (Int32.ofNat 0) (Int32.ofNat a) (Int32.ofNat b)) + (poiF ((bg (pickF p1) (pickF p2) (pickF p3) (pickF p4) (pickF p5)) 1) (Int32.ofNat 1) (Int32.ofNat a) (Int32.ofNat b))) + (poiF ((bg (pickF p1) (pickF p2) (pickF p3) (pickF p4) (pickF p5)) 2) (Int32.ofNat 2) (Int32.ofNat a) (Int32.ofNat b))) + (poiF ((bg (pickF p1) (pickF p2) (pickF p3) (pickF p4) (pickF p5)) 3) (Int32.ofNat 3) (Int32.ofNat a) (Int32.ofNat b))) + (poiF ((bg (pickF p1) (pickF p2) (pickF p3) (pickF p4) (pickF p5)) 4) (Int32.ofNat 4) (Int32.ofNat a) (Int32.ofNat b)))), .val (.int x)]) rfl k) ?_
      show Go FrameEnd p e below s 16 128 (Q0 Z p1 p2 p3 p4 p5 p6 h0 n0) (T28.setTop (mkF m 285 #[.val (.int p1), .val (.int p2), .val (.int p3), .val (.int p4), .val (.int p5), .val (.int p6), .val (.ref b1), .val (.int (Int32.ofNat a)), .val (.int (Int32.ofNat b)), .val (.int y), .val (.int (((((digF ((bg (pickF p1) (pickF p2) (pickF p3) (pickF p4) (pickF p5)) 0) (Int32.ofNat 0) (Int32.ofNat a) (Int32.ofNat b)) + (digF ((bg (pickF p1) (pickF p2) (pickF p3) (pickF p4) (pickF p5)) 1) (Int32.ofNat 1) (Int32.ofNat a) (Int32.ofNat b))) + (digF ((bg (pickF p1) (pickF p2) (pickF p3) (pickF p4) (pickF p5)) 2) (Int32.ofNat 2) (Int32.ofNat a) (Int32.ofNat b))) + (digF ((bg (pickF p1) (pickF p2) (pickF p3) (pickF p4) (pickF p5)) 3) (Int32.ofNat 3) (Int32.ofNat a) (Int32.ofNat b))) + (digF ((bg (pickF p1) (pickF p2) (pickF p3) (pickF p4) (pickF p5)) 4) (Int32.ofNat 4) (Int32.ofNat a) (Int32.ofNat b)))), .val (.int (((((poiF ((bg (pickF p1) (pickF p2) (pickF p3) (pickF p4) (pickF p5)) 0) (Int32.ofNat 0) (Int32.ofNat a) (Int32.ofNat b)) + (poiF ((bg (pickF p1) (pickF p2) (pickF p3) (pickF p4) (pickF p5)) 1) (Int32.ofNat 1) (Int32.ofNat a) (Int32.ofNat b))) + (poiF ((bg (pickF p1) (pickF p2) (pickF p3) (pickF p4) (pickF p5)) 2) (Int32.ofNat 2) (Int32.ofNat a) (Int32.ofNat b))) + (poiF ((bg (pickF p1) (pickF p2) (pickF p3) (pickF p4) (pickF p5)) 3) (Int32.ofNat 3) (Int32.ofNat a) (Int32.ofNat b))) + (poiF ((bg (pickF p1) (pickF p2) (pickF p3) (pickF p4) (pickF p5)) 4) (Int32.ofNat 4) (Int32.ofNat a) (Int32.ofNat b)))), .val (.int x)] []))
      refine Go.step (fun _ k => XS.aload X28.here hx rfl (hb hby at_285) rfl rfl k) ?_
      show Go FrameEnd p e below s 16 128 (Q0 Z p1 p2 p3 p4 p5 p6 h0 n0) (T28.setTop (mkF m 287 #[.val (.int p1), .val (.int p2), .val (.int p3), .val (.int p4), .val (.int p5), .val (.int p6), .val (.ref b1), .val (.int (Int32.ofNat a)), .val (.int (Int32.ofNat b)), .val (.int y), .val (.int (((((digF ((bg (pickF p1) (pickF p2) (pickF p3) (pickF p4) (pickF p5)) 0) (Int32.ofNat 0) (Int32.ofNat a) (Int32.ofNat b)) + (digF ((bg (pickF p1) (pickF p2) (pickF p3) (pickF p4) (pickF p5)) 1) (Int32.ofNat 1) (Int32.ofNat a) (Int32.ofNat b))) + (digF ((bg (pickF p1) (pickF p2) (pickF p3) (pickF p4) (pickF p5)) 2) (Int32.ofNat 2) (Int32.ofNat a) (Int32.ofNat b))) + (digF ((bg (pickF p1) (pickF p2) (pickF p3) (pickF p4) (pickF p5)) 3) (Int32.ofNat 3) (Int32.ofNat a) (Int32.ofNat b))) + (digF ((bg (pickF p1) (pickF p2) (pickF p3) (pickF p4) (pickF p5)) 4) (Int32.ofNat 4) (Int32.ofNat a) (Int32.ofNat b)))), .val (.int (((((poiF ((bg (pickF p1) (pickF p2) (pickF p3) (pickF p4) (pickF p5)) 0) (Int32.ofNat 0) (Int32.ofNat a) (Int32.ofNat b)) + (poiF ((bg (pickF p1) (pickF p2) (pickF p3) (pickF p4) (pickF p5)) 1) (Int32.ofNat 1) (Int32.ofNat a) (Int32.ofNat b))) + (poiF ((bg (pickF p1) (pickF p2) (pickF p3) (pickF p4) (pickF p5)) 2) (Int32.ofNat 2) (Int32.ofNat a) (Int32.ofNat b))) + (poiF ((bg (pickF p1) (pickF p2) (pickF p3) (pickF p4) (pickF p5)) 3) (Int32.ofNat 3) (Int32.ofNat a) (Int32.ofNat b))) + (poiF ((bg (pickF p1) (pickF p2) (pickF p3) (pickF p4) (pickF p5)) 4) (Int32.ofNat 4) (Int32.ofNat a) (Int32.ofNat b)))), .val (.int x)] [(.ref b1)]))
      refine Go.step (fun _ k => XS.iload X28.here hx rfl (hb hby at_287) rfl k) ?_
      show Go FrameEnd p e below s 16 128 (Q0 Z p1 p2 p3 p4 p5 p6 h0 n0) (T28.setTop (mkF m 289 #[.val (.int p1), .val (.int p2), .val (.int p3), .val (.int p4), .val (.int p5), .val (.int p6), .val (.ref b1), .val (.int (Int32.ofNat a)), .val (.int (Int32.ofNat b)), .val (.int y), .val (.int (((((digF ((bg (pickF p1) (pickF p2) (pickF p3) (pickF p4) (pickF p5)) 0) (Int32.ofNat 0) (Int32.ofNat a) (Int32.ofNat b)) + (digF ((bg (pickF p1) (pickF p2) (pickF p3) (pickF p4) (pickF p5)) 1) (Int32.ofNat 1) (Int32.ofNat a) (Int32.ofNat b))) + (digF ((bg (pickF p1) (pickF p2) (pickF p3) (pickF p4) (pickF p5)) 2) (Int32.ofNat 2) (Int32.ofNat a) (Int32.ofNat b))) + (digF ((bg (pickF p1) (pickF p2) (pickF p3) (pickF p4) (pickF p5)) 3) (Int32.ofNat 3) (Int32.ofNat a) (Int32.ofNat b))) + (digF ((bg (pickF p1) (pickF p2) (pickF p3) (pickF p4) (pickF p5)) 4) (Int32.ofNat 4) (Int32.ofNat a) (Int32.ofNat b)))), .val (.int (((((poiF ((bg (pickF p1) (pickF p2) (pickF p3) (pickF p4) (pickF p5)) 0) (Int32.ofNat 0) (Int32.ofNat a) (Int32.ofNat b)) + (poiF ((bg (pickF p1) (pickF p2) (pickF p3) (pickF p4) (pickF p5)) 1) (Int32.ofNat 1) (Int32.ofNat a) (Int32.ofNat b))) + (poiF ((bg (pickF p1) (pickF p2) (pickF p3) (pickF p4) (pickF p5)) 2) (Int32.ofNat 2) (Int32.ofNat a) (Int32.ofNat b))) + (poiF ((bg (pickF p1) (pickF p2) (pickF p3) (pickF p4) (pickF p5)) 3) (Int32.ofNat 3) (Int32.ofNat a) (Int32.ofNat b))) + (poiF ((bg (pickF p1) (pickF p2) (pickF p3) (pickF p4) (pickF p5)) 4) (Int32.ofNat 4) (Int32.ofNat a) (Int32.ofNat b)))), .val (.int x)] [(.int (Int32.ofNat a)), (.ref b1)]))
      refine Go.step (fun _ k => XS.iload X28.here hx rfl (hb hby at_289) rfl k) ?_
      show Go FrameEnd p e below s 16 128 (Q0 Z p1 p2 p3 p4 p5 p6 h0 n0) (T28.setTop (mkF m 291 #[.val (.int p1), .val (.int p2), .val (.int p3), .val (.int p4), .val (.int p5), .val (.int p6), .val (.ref b1), .val (.int (Int32.ofNat a)), .val (.int (Int32.ofNat b)), .val (.int y), .val (.int (((((digF ((bg (pickF p1) (pickF p2) (pickF p3) (pickF p4) (pickF p5)) 0) (Int32.ofNat 0) (Int32.ofNat a) (Int32.ofNat b)) + (digF ((bg (pickF p1) (pickF p2) (pickF p3) (pickF p4) (pickF p5)) 1) (Int32.ofNat 1) (Int32.ofNat a) (Int32.ofNat b))) + (digF ((bg (pickF p1) (pickF p2) (pickF p3) (pickF p4) (pickF p5)) 2) (Int32.ofNat 2) (Int32.ofNat a) (Int32.ofNat b))) + (digF ((bg (pickF p1) (pickF p2) (pickF p3) (pickF p4) (pickF p5)) 3) (Int32.ofNat 3) (Int32.ofNat a) (Int32.ofNat b))) + (digF ((bg (pickF p1) (pickF p2) (pickF p3) (pickF p4) (pickF p5)) 4) (Int32.ofNat 4) (Int32.ofNat a) (Int32.ofNat b)))), .val (.int (((((poiF ((bg (pickF p1) (pickF p2) (pickF p3) (pickF p4) (pickF p5)) 0) (Int32.ofNat 0) (Int32.ofNat a) (Int32.ofNat b)) + (poiF ((bg (pickF p1) (pickF p2) (pickF p3) (pickF p4) (pickF p5)) 1) (Int32.ofNat 1) (Int32.ofNat a) (Int32.ofNat b))) + (poiF ((bg (pickF p1) (pickF p2) (pickF p3) (pickF p4) (pickF p5)) 2) (Int32.ofNat 2) (Int32.ofNat a) (Int32.ofNat b))) + (poiF ((bg (pickF p1) (pickF p2) (pickF p3) (pickF p4) (pickF p5)) 3) (Int32.ofNat 3) (Int32.ofNat a) (Int32.ofNat b))) + (poiF ((bg (pickF p1) (pickF p2) (pickF p3) (pickF p4) (pickF p5)) 4) (Int32.ofNat 4) (Int32.ofNat a) (Int32.ofNat b)))), .val (.int x)] [(.int (Int32.ofNat b)), (.int (Int32.ofNat a)), (.ref b1)]))
      obtain ⟨_, _, ⟨T30, L30, k30, n30⟩, -, X30, ⟨Lc30, hQ30, l30, y30, z30⟩, st30⟩ := Jvm.LawKit.callS X28 hx (y := (⟨"com/example/quotewire/quotewire/codec/FixFloat", "isValid", "([BII)Z"⟩ : MethodName)) hown (mvT hZ (hw _ (List.mem_of_getElem? (i := 17) rfl))) (mvT hZ (hw _ (List.mem_of_getElem? (i := 18) rfl))) (mvT hZ (hw _ (List.mem_of_getElem? (i := 19) rfl))) (mvT hZ (hw _ (List.mem_of_getElem? (i := 20) rfl))) (by decide) (backOf (W := 0) (rm6 l Z a0 hw [] b1 (bg (pickF p1) (pickF p2) (pickF p3) (pickF p4) (pickF p5)) a b 5 h16 V16 ⟨hab, hbb, by decide⟩) hZ (hw _ (List.mem_of_getElem? (i := 20) rfl)) (hw _ (List.mem_of_getElem? (i := 19) rfl)) (by decide) (by decide)) (g := (mkF m 291 #[.val (.int p1), .val (.int p2), .val (.int p3), .val (.int p4), .val (.int p5), .val (.int p6), .val (.ref b1), .val (.int (Int32.ofNat a)), .val (.int (Int32.ofNat b)), .val (.int y), .val (.int (((((digF ((bg (pickF p1) (pickF p2) (pickF p3) (pickF p4) (pickF p5)) 0) (Int32.ofNat 0) (Int32.ofNat a) (Int32.ofNat b)) + (digF ((bg (pickF p1) (pickF p2) (pickF p3) (pickF p4) (pickF p5)) 1) (Int32.ofNat 1) (Int32.ofNat a) (Int32.ofNat b))) + (digF ((bg (pickF p1) (pickF p2) (pickF p3) (pickF p4) (pickF p5)) 2) (Int32.ofNat 2) (Int32.ofNat a) (Int32.ofNat b))) + (digF ((bg (pickF p1) (pickF p2) (pickF p3) (pickF p4) (pickF p5)) 3) (Int32.ofNat 3) (Int32.ofNat a) (Int32.ofNat b))) + (digF ((bg (pickF p1) (pickF p2) (pickF p3) (pickF p4) (pickF p5)) 4) (Int32.ofNat 4) (Int32.ofNat a) (Int32.ofNat b)))), .val (.int (((((poiF ((bg (pickF p1) (pickF p2) (pickF p3) (pickF p4) (pickF p5)) 0) (Int32.ofNat 0) (Int32.ofNat a) (Int32.ofNat b)) + (poiF ((bg (pickF p1) (pickF p2) (pickF p3) (pickF p4) (pickF p5)) 1) (Int32.ofNat 1) (Int32.ofNat a) (Int32.ofNat b))) + (poiF ((bg (pickF p1) (pickF p2) (pickF p3) (pickF p4) (pickF p5)) 2) (Int32.ofNat 2) (Int32.ofNat a) (Int32.ofNat b))) + (poiF ((bg (pickF p1) (pickF p2) (pickF p3) (pickF p4) (pickF p5)) 3) (Int32.ofNat 3) (Int32.ofNat a) (Int32.ofNat b))) + (poiF ((bg (pickF p1) (pickF p2) (pickF p3) (pickF p4) (pickF p5)) 4) (Int32.ofNat 4) (Int32.ofNat a) (Int32.ofNat b)))), .val (.int x)] [(.int (Int32.ofNat b)), (.int (Int32.ofNat a)), (.ref b1)])) rfl (by rw [hml]; rfl) (argsL := [(.ref b1), (.int (Int32.ofNat a)), (.int (Int32.ofNat b))]) (rest := []) (lenOf pd___BII_Z rfl) rfl (by show 2 * 0 + _ ≤ _; exact Nat.le_of_eq rfl) (hb hby at_291) (fun _ _ => ⟨rfl, e28, (by decide : 1 + 0 ≤ _), (by decide : 5 + 0 ≤ _)⟩)
      dsimp only [Pt.U, Pt.locs, Pt.cells, Pt.slots] at X30 l30 y30 z30 st30 hQ30
      subst l30 y30 z30
      obtain ⟨rfl, rfl, e30⟩ := hQ30
      have N30 := Fr.app N28 (Fr.nil n0)
      refine Go.step st30 ?_
      show Go FrameEnd p e below s 16 128 (Q0 Z p1 p2 p3 p4 p5 p6 h0 n0) (T30.setTop (mkF m 294 #[.val (.int p1), .val (.int p2), .val (.int p3), .val (.int p4), .val (.int p5), .val (.int p6), .val (.ref b1), .val (.int (Int32.ofNat a)), .val (.int (Int32.ofNat b)), .val (.int y), .val (.int (((((digF ((bg (pickF p1) (pickF p2) (pickF p3) (pickF p4) (pickF p5)) 0) (Int32.ofNat 0) (Int32.ofNat a) (Int32.ofNat b)) + (digF ((bg (pickF p1) (pickF p2) (pickF p3) (pickF p4) (pickF p5)) 1) (Int32.ofNat 1) (Int32.ofNat a) (Int32.ofNat b))) + (digF ((bg (pickF p1) (pickF p2) (pickF p3) (pickF p4) (pickF p5)) 2) (Int32.ofNat 2) (Int32.ofNat a) (Int32.ofNat b))) + (digF ((bg (pickF p1) (pickF p2) (pickF p3) (pickF p4) (pickF p5)) 3) (Int32.ofNat 3) (Int32.ofNat a) (Int32.ofNat b))) + (digF ((bg (pickF p1) (pickF p2) (pickF p3) (pickF p4) (pickF p5)) 4) (Int32.ofNat 4) (Int32.ofNat a) (Int32.ofNat b)))), .val (.int (((((poiF ((bg (pickF p1) (pickF p2) (pickF p3) (pickF p4) (pickF p5)) 0) (Int32.ofNat 0) (Int32.ofNat a) (Int32.ofNat b)) + (poiF ((bg (pickF p1) (pickF p2) (pickF p3) (pickF p4) (pickF p5)) 1) (Int32.ofNat 1) (Int32.ofNat a) (Int32.ofNat b))) + (poiF ((bg (pickF p1) (pickF p2) (pickF p3) (pickF p4) (pickF p5)) 2) (Int32.ofNat 2) (Int32.ofNat a) (Int32.ofNat b))) + (poiF ((bg (pickF p1) (pickF p2) (pickF p3) (pickF p4) (pickF p5)) 3) (Int32.ofNat 3) (Int32.ofNat a) (Int32.ofNat b))) + (poiF ((bg (pickF p1) (pickF p2) (pickF p3) (pickF p4) (pickF p5)) 4) (Int32.ofNat 4) (Int32.ofNat a) (Int32.ofNat b)))), .val (.int x)] [(.int (validF (bg (pickF p1) (pickF p2) (pickF p3) (pickF p4) (pickF p5)) a b))]))
      refine Go.step (fun _ k => XS.iload X30.here hx rfl (hb hby at_294) rfl k) ?_
      show Go FrameEnd p e below s 16 128 (Q0 Z p1 p2 p3 p4 p5 p6 h0 n0) (T30.setTop (mkF m 296 #[.val (.int p1), .val (.int p2), .val (.int p3), .val (.int p4), .val (.int p5), .val (.int p6), .val (.ref b1), .val (.int (Int32.ofNat a)), .val (.int (Int32.ofNat b)), .val (.int y), .val (.int (((((digF ((bg (pickF p1) (pickF p2) (pickF p3) (pickF p4) (pickF p5)) 0) (Int32.ofNat 0) (Int32.ofNat a) (Int32.ofNat b)) + (digF ((bg (pickF p1) (pickF p2) (pickF p3) (pickF p4) (pickF p5)) 1) (Int32.ofNat 1) (Int32.ofNat a) (Int32.ofNat b))) + (digF ((bg (pickF p1) (pickF p2) (pickF p3) (pickF p4) (pickF p5)) 2) (Int32.ofNat 2) (Int32.ofNat a) (Int32.ofNat b))) + (digF ((bg (pickF p1) (pickF p2) (pickF p3) (pickF p4) (pickF p5)) 3) (Int32.ofNat 3) (Int32.ofNat a) (Int32.ofNat b))) + (digF ((bg (pickF p1) (pickF p2) (pickF p3) (pickF p4) (pickF p5)) 4) (Int32.ofNat 4) (Int32.ofNat a) (Int32.ofNat b)))), .val (.int (((((poiF ((bg (pickF p1) (pickF p2) (pickF p3) (pickF p4) (pickF p5)) 0) (Int32.ofNat 0) (Int32.ofNat a) (Int32.ofNat b)) + (poiF ((bg (pickF p1) (pickF p2) (pickF p3) (pickF p4) (pickF p5)) 1) (Int32.ofNat 1) (Int32.ofNat a) (Int32.ofNat b))) + (poiF ((bg (pickF p1) (pickF p2) (pickF p3) (pickF p4) (pickF p5)) 2) (Int32.ofNat 2) (Int32.ofNat a) (Int32.ofNat b))) + (poiF ((bg (pickF p1) (pickF p2) (pickF p3) (pickF p4) (pickF p5)) 3) (Int32.ofNat 3) (Int32.ofNat a) (Int32.ofNat b))) + (poiF ((bg (pickF p1) (pickF p2) (pickF p3) (pickF p4) (pickF p5)) 4) (Int32.ofNat 4) (Int32.ofNat a) (Int32.ofNat b)))), .val (.int x)] [(.int x), (.int (validF (bg (pickF p1) (pickF p2) (pickF p3) (pickF p4) (pickF p5)) a b))]))
      refine Go.step (fun _ k => XS.icmpNo X30.here hx rfl (hb hby at_296) rfl (teq ((own_law _ _ _ _ _ a b hab hbb).trans (by rw [← hx283, ← hy]; rfl))).2 k) ?_
      show Go FrameEnd p e below s 16 128 (Q0 Z p1 p2 p3 p4 p5 p6 h0 n0) (T30.setTop (mkF m 299 #[.val (.int p1), .val (.int p2), .val (.int p3), .val (.int p4), .val (.int p5), .val (.int p6), .val (.ref b1), .val (.int (Int32.ofNat a)), .val (.int (Int32.ofNat b)), .val (.int y), .val (.int (((((digF ((bg (pickF p1) (pickF p2) (pickF p3) (pickF p4) (pickF p5)) 0) (Int32.ofNat 0) (Int32.ofNat a) (Int32.ofNat b)) + (digF ((bg (pickF p1) (pickF p2) (pickF p3) (pickF p4) (pickF p5)) 1) (Int32.ofNat 1) (Int32.ofNat a) (Int32.ofNat b))) + (digF ((bg (pickF p1) (pickF p2) (pickF p3) (pickF p4) (pickF p5)) 2) (Int32.ofNat 2) (Int32.ofNat a) (Int32.ofNat b))) + (digF ((bg (pickF p1) (pickF p2) (pickF p3) (pickF p4) (pickF p5)) 3) (Int32.ofNat 3) (Int32.ofNat a) (Int32.ofNat b))) + (digF ((bg (pickF p1) (pickF p2) (pickF p3) (pickF p4) (pickF p5)) 4) (Int32.ofNat 4) (Int32.ofNat a) (Int32.ofNat b)))), .val (.int (((((poiF ((bg (pickF p1) (pickF p2) (pickF p3) (pickF p4) (pickF p5)) 0) (Int32.ofNat 0) (Int32.ofNat a) (Int32.ofNat b)) + (poiF ((bg (pickF p1) (pickF p2) (pickF p3) (pickF p4) (pickF p5)) 1) (Int32.ofNat 1) (Int32.ofNat a) (Int32.ofNat b))) + (poiF ((bg (pickF p1) (pickF p2) (pickF p3) (pickF p4) (pickF p5)) 2) (Int32.ofNat 2) (Int32.ofNat a) (Int32.ofNat b))) + (poiF ((bg (pickF p1) (pickF p2) (pickF p3) (pickF p4) (pickF p5)) 3) (Int32.ofNat 3) (Int32.ofNat a) (Int32.ofNat b))) + (poiF ((bg (pickF p1) (pickF p2) (pickF p3) (pickF p4) (pickF p5)) 4) (Int32.ofNat 4) (Int32.ofNat a) (Int32.ofNat b)))), .val (.int x)] []))
      refine Go.step (fun _ k => XS.iconst X30.here hx rfl (hb hby at_299) k) ?_
      show Go FrameEnd p e below s 16 128 (Q0 Z p1 p2 p3 p4 p5 p6 h0 n0) (T30.setTop (mkF m 300 #[.val (.int p1), .val (.int p2), .val (.int p3), .val (.int p4), .val (.int p5), .val (.int p6), .val (.ref b1), .val (.int (Int32.ofNat a)), .val (.int (Int32.ofNat b)), .val (.int y), .val (.int (((((digF ((bg (pickF p1) (pickF p2) (pickF p3) (pickF p4) (pickF p5)) 0) (Int32.ofNat 0) (Int32.ofNat a) (Int32.ofNat b)) + (digF ((bg (pickF p1) (pickF p2) (pickF p3) (pickF p4) (pickF p5)) 1) (Int32.ofNat 1) (Int32.ofNat a) (Int32.ofNat b))) + (digF ((bg (pickF p1) (pickF p2) (pickF p3) (pickF p4) (pickF p5)) 2) (Int32.ofNat 2) (Int32.ofNat a) (Int32.ofNat b))) + (digF ((bg (pickF p1) (pickF p2) (pickF p3) (pickF p4) (pickF p5)) 3) (Int32.ofNat 3) (Int32.ofNat a) (Int32.ofNat b))) + (digF ((bg (pickF p1) (pickF p2) (pickF p3) (pickF p4) (pickF p5)) 4) (Int32.ofNat 4) (Int32.ofNat a) (Int32.ofNat b)))), .val (.int (((((poiF ((bg (pickF p1) (pickF p2) (pickF p3) (pickF p4) (pickF p5)) 0) (Int32.ofNat 0) (Int32.ofNat a) (Int32.ofNat b)) + (poiF ((bg (pickF p1) (pickF p2) (pickF p3) (pickF p4) (pickF p5)) 1) (Int32.ofNat 1) (Int32.ofNat a) (Int32.ofNat b))) + (poiF ((bg (pickF p1) (pickF p2) (pickF p3) (pickF p4) (pickF p5)) 2) (Int32.ofNat 2) (Int32.ofNat a) (Int32.ofNat b))) + (poiF ((bg (pickF p1) (pickF p2) (pickF p3) (pickF p4) (pickF p5)) 3) (Int32.ofNat 3) (Int32.ofNat a) (Int32.ofNat b))) + (poiF ((bg (pickF p1) (pickF p2) (pickF p3) (pickF p4) (pickF p5)) 4) (Int32.ofNat 4) (Int32.ofNat a) (Int32.ofNat b)))), .val (.int x)] [(.int (1 : Int32))]))
      refine Go.step (fun _ k => XS.goto X30.here hx rfl (pc0 := 300) (pc' := 304) rfl (hb hby at_300) (by decide) (by decide) k) ?_
      show Go FrameEnd p e below s 16 128 (Q0 Z p1 p2 p3 p4 p5 p6 h0 n0) (T30.setTop (mkF m 304 #[.val (.int p1), .val (.int p2), .val (.int p3), .val (.int p4), .val (.int p5), .val (.int p6), .val (.ref b1), .val (.int (Int32.ofNat a)), .val (.int (Int32.ofNat b)), .val (.int y), .val (.int (((((digF ((bg (pickF p1) (pickF p2) (pickF p3) (pickF p4) (pickF p5)) 0) (Int32.ofNat 0) (Int32.ofNat a) (Int32.ofNat b)) + (digF ((bg (pickF p1) (pickF p2) (pickF p3) (pickF p4) (pickF p5)) 1) (Int32.ofNat 1) (Int32.ofNat a) (Int32.ofNat b))) + (digF ((bg (pickF p1) (pickF p2) (pickF p3) (pickF p4) (pickF p5)) 2) (Int32.ofNat 2) (Int32.ofNat a) (Int32.ofNat b))) + (digF ((bg (pickF p1) (pickF p2) (pickF p3) (pickF p4) (pickF p5)) 3) (Int32.ofNat 3) (Int32.ofNat a) (Int32.ofNat b))) + (digF ((bg (pickF p1) (pickF p2) (pickF p3) (pickF p4) (pickF p5)) 4) (Int32.ofNat 4) (Int32.ofNat a) (Int32.ofNat b)))), .val (.int (((((poiF ((bg (pickF p1) (pickF p2) (pickF p3) (pickF p4) (pickF p5)) 0) (Int32.ofNat 0) (Int32.ofNat a) (Int32.ofNat b)) + (poiF ((bg (pickF p1) (pickF p2) (pickF p3) (pickF p4) (pickF p5)) 1) (Int32.ofNat 1) (Int32.ofNat a) (Int32.ofNat b))) + (poiF ((bg (pickF p1) (pickF p2) (pickF p3) (pickF p4) (pickF p5)) 2) (Int32.ofNat 2) (Int32.ofNat a) (Int32.ofNat b))) + (poiF ((bg (pickF p1) (pickF p2) (pickF p3) (pickF p4) (pickF p5)) 3) (Int32.ofNat 3) (Int32.ofNat a) (Int32.ofNat b))) + (poiF ((bg (pickF p1) (pickF p2) (pickF p3) (pickF p4) (pickF p5)) 4) (Int32.ofNat 4) (Int32.ofNat a) (Int32.ofNat b)))), .val (.int x)] [(.int (1 : Int32))]))
      refine Go.retN X30 hx (t := .boolean) Bd.returns (by simp) (by decide) (hb hby at_304) (BodyLoose.notSynchronized Bd) e30 (by decide) (by decide) ?_
      exact ⟨rfl, N30⟩
    refine Go.step (fun _ k => XS.iload X28.here hx rfl (hb hby at_261) rfl k) ?_
    show Go FrameEnd p e below s 16 128 (Q0 Z p1 p2 p3 p4 p5 p6 h0 n0) (T28.setTop (mkF m 263 #[.val (.int p1), .val (.int p2), .val (.int p3), .val (.int p4), .val (.int p5), .val (.int p6), .val (.ref b1), .val (.int (Int32.ofNat a)), .val (.int (Int32.ofNat b)), .val (.int y), .val (.int (((((digF ((bg (pickF p1) (pickF p2) (pickF p3) (pickF p4) (pickF p5)) 0) (Int32.ofNat 0) (Int32.ofNat a) (Int32.ofNat b)) + (digF ((bg (pickF p1) (pickF p2) (pickF p3) (pickF p4) (pickF p5)) 1) (Int32.ofNat 1) (Int32.ofNat a) (Int32.ofNat b))) + (digF ((bg (pickF p1) (pickF p2) (pickF p3) (pickF p4) (pickF p5)) 2) (Int32.ofNat 2) (Int32.ofNat a) (Int32.ofNat b))) + (digF ((bg (pickF p1) (pickF p2) (pickF p3) (pickF p4) (pickF p5)) 3) (Int32.ofNat 3) (Int32.ofNat a) (Int32.ofNat b))) + (digF ((bg (pickF p1) (pickF p2) (pickF p3) (pickF p4) (pickF p5)) 4) (Int32.ofNat 4) (Int32.ofNat a) (Int32.ofNat b)))), .val (.int (((((poiF ((bg (pickF p1) (pickF p2) (pickF p3) (pickF p4) (pickF p5)) 0) (Int32.ofNat 0) (Int32.ofNat a) (Int32.ofNat b)) + (poiF ((bg (pickF p1) (pickF p2) (pickF p3) (pickF p4) (pickF p5)) 1) (Int32.ofNat 1) (Int32.ofNat a) (Int32.ofNat b))) + (poiF ((bg (pickF p1) (pickF p2) (pickF p3) (pickF p4) (pickF p5)) 2) (Int32.ofNat 2) (Int32.ofNat a) (Int32.ofNat b))) + (poiF ((bg (pickF p1) (pickF p2) (pickF p3) (pickF p4) (pickF p5)) 3) (Int32.ofNat 3) (Int32.ofNat a) (Int32.ofNat b))) + (poiF ((bg (pickF p1) (pickF p2) (pickF p3) (pickF p4) (pickF p5)) 4) (Int32.ofNat 4) (Int32.ofNat a) (Int32.ofNat b)))), .unset] [(.int y)]))
    by_cases hc263 : y = (0 : Int32)
    · skip
      refine Go.step (fun _ k => XS.ifNo X28.here hx rfl (hb hby at_263) rfl ((if0 _ _).trans (teq hc263).2) k) ?_
      show Go FrameEnd p e below s 16 128 (Q0 Z p1 p2 p3 p4 p5 p6 h0 n0) (T28.setTop (mkF m 266 #[.val (.int p1), .val (.int p2), .val (.int p3), .val (.int p4), .val (.int p5), .val (.int p6), .val (.ref b1), .val (.int (Int32.ofNat a)), .val (.int (Int32.ofNat b)), .val (.int y), .val (.int (((((digF ((bg (pickF p1) (pickF p2) (pickF p3) (pickF p4) (pickF p5)) 0) (Int32.ofNat 0) (Int32.ofNat a) (Int32.ofNat b)) + (digF ((bg (pickF p1) (pickF p2) (pickF p3) (pickF p4) (pickF p5)) 1) (Int32.ofNat 1) (Int32.ofNat a) (Int32.ofNat b))) + (digF ((bg (pickF p1) (pickF p2) (pickF p3) (pickF p4) (pickF p5)) 2) (Int32.ofNat 2) (Int32.ofNat a) (Int32.ofNat b))) + (digF ((bg (pickF p1) (pickF p2) (pickF p3) (pickF p4) (pickF p5)) 3) (Int32.ofNat 3) (Int32.ofNat a) (Int32.ofNat b))) + (digF ((bg (pickF p1) (pickF p2) (pickF p3) (pickF p4) (pickF p5)) 4) (Int32.ofNat 4) (Int32.ofNat a) (Int32.ofNat b)))), .val (.int (((((poiF ((bg (pickF p1) (pickF p2) (pickF p3) (pickF p4) (pickF p5)) 0) (Int32.ofNat 0) (Int32.ofNat a) (Int32.ofNat b)) + (poiF ((bg (pickF p1) (pickF p2) (pickF p3) (pickF p4) (pickF p5)) 1) (Int32.ofNat 1) (Int32.ofNat a) (Int32.ofNat b))) + (poiF ((bg (pickF p1) (pickF p2) (pickF p3) (pickF p4) (pickF p5)) 2) (Int32.ofNat 2) (Int32.ofNat a) (Int32.ofNat b))) + (poiF ((bg (pickF p1) (pickF p2) (pickF p3) (pickF p4) (pickF p5)) 3) (Int32.ofNat 3) (Int32.ofNat a) (Int32.ofNat b))) + (poiF ((bg (pickF p1) (pickF p2) (pickF p3) (pickF p4) (pickF p5)) 4) (Int32.ofNat 4) (Int32.ofNat a) (Int32.ofNat b)))), .unset] []))
      refine Go.step (fun _ k => XS.iload X28.here hx rfl (hb hby at_266) rfl k) ?_
      show Go FrameEnd p e below s 16 128 (Q0 Z p1 p2 p3 p4 p5 p6 h0 n0) (T28.setTop (mkF m 268 #[.val (.int p1), .val (.int p2), .val (.int p3), .val (.int p4), .val (.int p5), .val (.int p6), .val (.ref b1), .val (.int (Int32.ofNat a)), .val (.int (Int32.ofNat b)), .val (.int y), .val (.int (((((digF ((bg (pickF p1) (pickF p2) (pickF p3) (pickF p4) (pickF p5)) 0) (Int32.ofNat 0) (Int32.ofNat a) (Int32.ofNat b)) + (digF ((bg (pickF p1) (pickF p2) (pickF p3) (pickF p4) (pickF p5)) 1) (Int32.ofNat 1) (Int32.ofNat a) (Int32.ofNat b))) + (digF ((bg (pickF p1) (pickF p2) (pickF p3) (pickF p4) (pickF p5)) 2) (Int32.ofNat 2) (Int32.ofNat a) (Int32.ofNat b))) + (digF ((bg (pickF p1) (pickF p2) (pickF p3) (pickF p4) (pickF p5)) 3) (Int32.ofNat 3) (Int32.ofNat a) (Int32.ofNat b))) + (digF ((bg (pickF p1) (pickF p2) (pickF p3) (pickF p4) (pickF p5)) 4) (Int32.ofNat 4) (Int32.ofNat a) (Int32.ofNat b)))), .val (.int (((((poiF ((bg (pickF p1) (pickF p2) (pickF p3) (pickF p4) (pickF p5)) 0) (Int32.ofNat 0) (Int32.ofNat a) (Int32.ofNat b)) + (poiF ((bg (pickF p1) (pickF p2) (pickF p3) (pickF p4) (pickF p5)) 1) (Int32.ofNat 1) (Int32.ofNat a) (Int32.ofNat b))) + (poiF ((bg (pickF p1) (pickF p2) (pickF p3) (pickF p4) (pickF p5)) 2) (Int32.ofNat 2) (Int32.ofNat a) (Int32.ofNat b))) + (poiF ((bg (pickF p1) (pickF p2) (pickF p3) (pickF p4) (pickF p5)) 3) (Int32.ofNat 3) (Int32.ofNat a) (Int32.ofNat b))) + (poiF ((bg (pickF p1) (pickF p2) (pickF p3) (pickF p4) (pickF p5)) 4) (Int32.ofNat 4) (Int32.ofNat a) (Int32.ofNat b)))), .unset] [(.int (((((digF ((bg (pickF p1) (pickF p2) (pickF p3) (pickF p4) (pickF p5)) 0) (Int32.ofNat 0) (Int32.ofNat a) (Int32.ofNat b)) + (digF ((bg (pickF p1) (pickF p2) (pickF p3) (pickF p4) (pickF p5)) 1) (Int32.ofNat 1) (Int32.ofNat a) (Int32.ofNat b))) + (digF ((bg (pickF p1) (pickF p2) (pickF p3) (pickF p4) (pickF p5)) 2) (Int32.ofNat 2) (Int32.ofNat a) (Int32.ofNat b))) + (digF ((bg (pickF p1) (pickF p2) (pickF p3) (pickF p4) (pickF p5)) 3) (Int32.ofNat 3) (Int32.ofNat a) (Int32.ofNat b))) + (digF ((bg (pickF p1) (pickF p2) (pickF p3) (pickF p4) (pickF p5)) 4) (Int32.ofNat 4) (Int32.ofNat a) (Int32.ofNat b))))]))
      refine Go.step (fun _ k => XS.iconst X28.here hx rfl (hb hby at_268) k) ?_
      show Go FrameEnd p e below s 16 128 (Q0 Z p1 p2 p3 p4 p5 p6 h0 n0) (T28.setTop (mkF m 269 #[.val (.int p1), .val (.int p2), .val (.int p3), .val (.int p4), .val (.int p5), .val (.int p6), .val (.ref b1), .val (.int (Int32.ofNat a)), .val (.int (Int32.ofNat b)), .val (.int y), .val (.int (((((digF ((bg (pickF p1) (pickF p2) (pickF p3) (pickF p4) (pickF p5)) 0) (Int32.ofNat 0) (Int32.ofNat a) (Int32.ofNat b)) + (digF ((bg (pickF p1) (pickF p2) (pickF p3) (pickF p4) (pickF p5)) 1) (Int32.ofNat 1) (Int32.ofNat a) (Int32.ofNat b))) + (digF ((bg (pickF p1) (pickF p2) (pickF p3) (pickF p4) (pickF p5)) 2) (Int32.ofNat 2) (Int32.ofNat a) (Int32.ofNat b))) + (digF ((bg (pickF p1) (pickF p2) (pickF p3) (pickF p4) (pickF p5)) 3) (Int32.ofNat 3) (Int32.ofNat a) (Int32.ofNat b))) + (digF ((bg (pickF p1) (pickF p2) (pickF p3) (pickF p4) (pickF p5)) 4) (Int32.ofNat 4) (Int32.ofNat a) (Int32.ofNat b)))), .val (.int (((((poiF ((bg (pickF p1) (pickF p2) (pickF p3) (pickF p4) (pickF p5)) 0) (Int32.ofNat 0) (Int32.ofNat a) (Int32.ofNat b)) + (poiF ((bg (pickF p1) (pickF p2) (pickF p3) (pickF p4) (pickF p5)) 1) (Int32.ofNat 1) (Int32.ofNat a) (Int32.ofNat b))) + (poiF ((bg (pickF p1) (pickF p2) (pickF p3) (pickF p4) (pickF p5)) 2) (Int32.ofNat 2) (Int32.ofNat a) (Int32.ofNat b))) + (poiF ((bg (pickF p1) (pickF p2) (pickF p3) (pickF p4) (pickF p5)) 3) (Int32.ofNat 3) (Int32.ofNat a) (Int32.ofNat b))) + (poiF ((bg (pickF p1) (pickF p2) (pickF p3) (pickF p4) (pickF p5)) 4) (Int32.ofNat 4) (Int32.ofNat a) (Int32.ofNat b)))), .unset] [(.int (1 : Int32)), (.int (((((digF ((bg (pickF p1) (pickF p2) (pickF p3) (pickF p4) (pickF p5)) 0) (Int32.ofNat 0) (Int32.ofNat a) (Int32.ofNat b)) + (digF ((bg (pickF p1) (pickF p2) (pickF p3) (pickF p4) (pickF p5)) 1) (Int32.ofNat 1) (Int32.ofNat a) (Int32.ofNat b))) + (digF ((bg (pickF p1) (pickF p2) (pickF p3) (pickF p4) (pickF p5)) 2) (Int32.ofNat 2) (Int32.ofNat a) (Int32.ofNat b))) + (digF ((bg (pickF p1) (pickF p2) (pickF p3) (pickF p4) (pickF p5)) 3) (Int32.ofNat 3) (Int32.ofNat a) (Int32.ofNat b))) + (digF ((bg (pickF p1) (pickF p2) (pickF p3) (pickF p4) (pickF p5)) 4) (Int32.ofNat 4) (Int32.ofNat a) (Int32.ofNat b))))]))
      by_cases hc269 : (((((digF ((bg (pickF p1) (pickF p2) (pickF p3) (pickF p4) (pickF p5)) 0) (Int32.ofNat 0) (Int32.ofNat a) (Int32.ofNat b)) + (digF ((bg (pickF p1) (pickF p2) (pickF p3) (pickF p4) (pickF p5)) 1) (Int32.ofNat 1) (Int32.ofNat a) (Int32.ofNat b))) + (digF ((bg (pickF p1) (pickF p2) (pickF p3) (pickF p4) (pickF p5)) 2) (Int32.ofNat 2) (Int32.ofNat a) (Int32.ofNat b))) + (digF ((bg (pickF p1) (pickF p2) (pickF p3) (pickF p4) (pickF p5)) 3) (Int32.ofNat 3) (Int32.ofNat a) (Int32.ofNat b))) + (digF ((bg (pickF p1) (pickF p2) (pickF p3) (pickF p4) (pickF p5)) 4) (Int32.ofNat 4) (Int32.ofNat a) (Int32.ofNat b))) < (1 : Int32)
      · skip
        refine Go.step (fun _ k => XS.icmpYes X28.here hx rfl (pc0 := 269) (pc' := 282) rfl (hb hby at_269) rfl (tlt hc269).1 (by decide) (by decide) k) ?_
        show Go FrameEnd p e below s 16 128 (Q0 Z p1 p2 p3 p4 p5 p6 h0 n0) (T28.setTop (mkF m 282 #[.val (.int p1), .val (.int p2), .val (.int p3), .val (.int p4), .val (.int p5), .val (.int p6), .val (.ref b1), .val (.int (Int32.ofNat a)), .val (.int (Int32.ofNat b)), .val (.int y), .val (.int (((((digF ((bg (pickF p1) (pickF p2) (pickF p3) (pickF p4) (pickF p5)) 0) (Int32.ofNat 0) (Int32.ofNat a) (Int32.ofNat b)) + (digF ((bg (pickF p1) (pickF p2) (pickF p3) (pickF p4) (pickF p5)) 1) (Int32.ofNat 1) (Int32.ofNat a) (Int32.ofNat b))) + (digF ((bg (pickF p1) (pickF p2) (pickF p3) (pickF p4) (pickF p5)) 2) (Int32.ofNat 2) (Int32.ofNat a) (Int32.ofNat b))) + (digF ((bg (pickF p1) (pickF p2) (pickF p3) (pickF p4) (pickF p5)) 3) (Int32.ofNat 3) (Int32.ofNat a) (Int32.ofNat b))) + (digF ((bg (pickF p1) (pickF p2) (pickF p3) (pickF p4) (pickF p5)) 4) (Int32.ofNat 4) (Int32.ofNat a) (Int32.ofNat b)))), .val (.int (((((poiF ((bg (pickF p1) (pickF p2) (pickF p3) (pickF p4) (pickF p5)) 0) (Int32.ofNat 0) (Int32.ofNat a) (Int32.ofNat b)) + (poiF ((bg (pickF p1) (pickF p2) (pickF p3) (pickF p4) (pickF p5)) 1) (Int32.ofNat 1) (Int32.ofNat a) (Int32.ofNat b))) + (poiF ((bg (pickF p1) (pickF p2) (pickF p3) (pickF p4) (pickF p5)) 2) (Int32.ofNat 2) (Int32.ofNat a) (Int32.ofNat b))) + (poiF ((bg (pickF p1) (pickF p2) (pickF p3) (pickF p4) (pickF p5)) 3) (Int32.ofNat 3) (Int32.ofNat a) (Int32.ofNat b))) + (poiF ((bg (pickF p1) (pickF p2) (pickF p3) (pickF p4) (pickF p5)) 4) (Int32.ofNat 4) (Int32.ofNat a) (Int32.ofNat b)))), .unset] []))
        refine Go.step (fun _ k => XS.iconst X28.here hx rfl (hb hby at_282) k) ?_
        show Go FrameEnd p e below s 16 128 (Q0 Z p1 p2 p3 p4 p5 p6 h0 n0) (T28.setTop (mkF m 283 #[.val (.int p1), .val (.int p2), .val (.int p3), .val (.int p4), .val (.int p5), .val (.int p6), .val (.ref b1), .val (.int (Int32.ofNat a)), .val (.int (Int32.ofNat b)), .val (.int y), .val (.int (((((digF ((bg (pickF p1) (pickF p2) (pickF p3) (pickF p4) (pickF p5)) 0) (Int32.ofNat 0) (Int32.ofNat a) (Int32.ofNat b)) + (digF ((bg (pickF p1) (pickF p2) (pickF p3) (pickF p4) (pickF p5)) 1) (Int32.ofNat 1) (Int32.ofNat a) (Int32.ofNat b))) + (digF ((bg (pickF p1) (pickF p2) (pickF p3) (pickF p4) (pickF p5)) 2) (Int32.ofNat 2) (Int32.ofNat a) (Int32.ofNat b))) + (digF ((bg (pickF p1) (pickF p2) (pickF p3) (pickF p4) (pickF p5)) 3) (Int32.ofNat 3) (Int32.ofNat a) (Int32.ofNat b))) + (digF ((bg (pickF p1) (pickF p2) (pickF p3) (pickF p4) (pickF p5)) 4) (Int32.ofNat 4) (Int32.ofNat a) (Int32.ofNat b)))), .val (.int (((((poiF ((bg (pickF p1) (pickF p2) (pickF p3) (pickF p4) (pickF p5)) 0) (Int32.ofNat 0) (Int32.ofNat a) (Int32.ofNat b)) + (poiF ((bg (pickF p1) (pickF p2) (pickF p3) (pickF p4) (pickF p5)) 1) (Int32.ofNat 1) (Int32.ofNat a) (Int32.ofNat b))) + (poiF ((bg (pickF p1) (pickF p2) (pickF p3) (pickF p4) (pickF p5)) 2) (Int32.ofNat 2) (Int32.ofNat a) (Int32.ofNat b))) + (poiF ((bg (pickF p1) (pickF p2) (pickF p3) (pickF p4) (pickF p5)) 3) (Int32.ofNat 3) (Int32.ofNat a) (Int32.ofNat b))) + (poiF ((bg (pickF p1) (pickF p2) (pickF p3) (pickF p4) (pickF p5)) 4) (Int32.ofNat 4) (Int32.ofNat a) (Int32.ofNat b)))), .unset] [(.int (0 : Int32))]))
        exact J283_29  _ (by first | contradiction | simp only [expV, eq_true hc263, eq_true hc269, true_or, or_true, false_or, or_false, or_self, true_and, and_true, false_and, and_false, and_self, not_true_eq_false, not_false_eq_true, if_true, if_false])
      · skip
        refine Go.step (fun _ k => XS.icmpNo X28.here hx rfl (hb hby at_269) rfl (flt hc269).1 k) ?_
        show Go FrameEnd p e below s 16 128 (Q0 Z p1 p2 p3 p4 p5 p6 h0 n0) (T28.setTop (mkF m 272 #[.val (.int p1), .val (.int p2), .val (.int p3), .val (.int p4), .val (.int p5), .val (.int p6), .val (.ref b1), .val (.int (Int32.ofNat a)), .val (.int (Int32.ofNat b)), .val (.int y), .val (.int (((((digF ((bg (pickF p1) (pickF p2) (pickF p3) (pickF p4) (pickF p5)) 0) (Int32.ofNat 0) (Int32.ofNat a) (Int32.ofNat b)) + (digF ((bg (pickF p1) (pickF p2) (pickF p3) (pickF p4) (pickF p5)) 1) (Int32.ofNat 1) (Int32.ofNat a) (Int32.ofNat b))) + (digF ((bg (pickF p1) (pickF p2) (pickF p3) (pickF p4) (pickF p5)) 2) (Int32.ofNat 2) (Int32.ofNat a) (Int32.ofNat b))) + (digF ((bg (pickF p1) (pickF p2) (pickF p3) (pickF p4) (pickF p5)) 3) (Int32.ofNat 3) (Int32.ofNat a) (Int32.ofNat b))) + (digF ((bg (pickF p1) (pickF p2) (pickF p3) (pickF p4) (pickF p5)) 4) (Int32.ofNat 4) (Int32.ofNat a) (Int32.ofNat b)))), .val (.int (((((poiF ((bg (pickF p1) (pickF p2) (pickF p3) (pickF p4) (pickF p5)) 0) (Int32.ofNat 0) (Int32.ofNat a) (Int32.ofNat b)) + (poiF ((bg (pickF p1) (pickF p2) (pickF p3) (pickF p4) (pickF p5)) 1) (Int32.ofNat 1) (Int32.ofNat a) (Int32.ofNat b))) + (poiF ((bg (pickF p1) (pickF p2) (pickF p3) (pickF p4) (pickF p5)) 2) (Int32.ofNat 2) (Int32.ofNat a) (Int32.ofNat b))) + (poiF ((bg (pickF p1) (pickF p2) (pickF p3) (pickF p4) (pickF p5)) 3) (Int32.ofNat 3) (Int32.ofNat a) (Int32.ofNat b))) + (poiF ((bg (pickF p1) (pickF p2) (pickF p3) (pickF p4) (pickF p5)) 4) (Int32.ofNat 4) (Int32.ofNat a) (Int32.ofNat b)))), .unset] []))
        refine Go.step (fun _ k => XS.iload X28.here hx rfl (hb hby at_272) rfl k) ?_
        show Go FrameEnd p e below s 16 128 (Q0 Z p1 p2 p3 p4 p5 p6 h0 n0) (T28.setTop (mkF m 274 #[.val (.int p1), .val (.int p2), .val (.int p3), .val (.int p4), .val (.int p5), .val (.int p6), .val (.ref b1), .val (.int (Int32.ofNat a)), .val (.int (Int32.ofNat b)), .val (.int y), .val (.int (((((digF ((bg (pickF p1) (pickF p2) (pickF p3) (pickF p4) (pickF p5)) 0) (Int32.ofNat 0) (Int32.ofNat a) (Int32.ofNat b)) + (digF ((bg (pickF p1) (pickF p2) (pickF p3) (pickF p4) (pickF p5)) 1) (Int32.ofNat 1) (Int32.ofNat a) (Int32.ofNat b))) + (digF ((bg (pickF p1) (pickF p2) (pickF p3) (pickF p4) (pickF p5)) 2) (Int32.ofNat 2) (Int32.ofNat a) (Int32.ofNat b))) + (digF ((bg (pickF p1) (pickF p2) (pickF p3) (pickF p4) (pickF p5)) 3) (Int32.ofNat 3) (Int32.ofNat a) (Int32.ofNat b))) + (digF ((bg (pickF p1) (pickF p2) (pickF p3) (pickF p4) (pickF p5)) 4) (Int32.ofNat 4) (Int32.ofNat a) (Int32.ofNat b)))), .val (.int (((((poiF ((bg (pickF p1) (pickF p2) (pickF p3) (pickF p4) (pickF p5)) 0) (Int32.ofNat 0) (Int32.ofNat a) (Int32.ofNat b)) + (poiF ((bg (pickF p1) (pickF p2) (pickF p3) (pickF p4) (pickF p5)) 1) (Int32.ofNat 1) (Int32.ofNat a) (Int32.ofNat b))) + (poiF ((bg (pickF p1) (pickF p2) (pickF p3) (pickF p4) (pickF p5)) 2) (Int32.ofNat 2) (Int32.ofNat a) (Int32.ofNat b))) + (poiF ((bg (pickF p1) (pickF p2) (pickF p3) (pickF p4) (pickF p5)) 3) (Int32.ofNat 3) (Int32.ofNat a) (Int32.ofNat b))) + (poiF ((bg (pickF p1) (pickF p2) (pickF p3) (pickF p4) (pickF p5)) 4) (Int32.ofNat 4) (Int32.ofNat a) (Int32.ofNat b)))), .unset] [(.int (((((poiF ((bg (pickF p1) (pickF p2) (pickF p3) (pickF p4) (pickF p5)) 0) (Int32.ofNat 0) (Int32.ofNat a) (Int32.ofNat b)) + (poiF ((bg (pickF p1) (pickF p2) (pickF p3) (pickF p4) (pickF p5)) 1) (Int32.ofNat 1) (Int32.ofNat a) (Int32.ofNat b))) + (poiF ((bg (pickF p1) (pickF p2) (pickF p3) (pickF p4) (pickF p5)) 2) (Int32.ofNat 2) (Int32.ofNat a) (Int32.ofNat b))) + (poiF ((bg (pickF p1) (pickF p2) (pickF p3) (pickF p4) (pickF p5)) 3) (Int32.ofNat 3) (Int32.ofNat a) (Int32.ofNat b))) + (poiF ((bg (pickF p1) (pickF p2) (pickF p3) (pickF p4) (pickF p5)) 4) (Int32.ofNat 4) (Int32.ofNat a) (Int32.ofNat b))))]))
        refine Go.step (fun _ k => XS.iconst X28.here hx rfl (hb hby at_274) k) ?_
        show Go FrameEnd p e below s 16 128 (Q0 Z p1 p2 p3 p4 p5 p6 h0 n0) (T28.setTop (mkF m 275 #[.val (.int p1), .val (.int p2), .val (.int p3), .val (.int p4), .val (.int p5), .val (.int p6), .val (.ref b1), .val (.int (Int32.ofNat a)), .val (.int (Int32.ofNat b)), .val (.int y), .val (.int (((((digF ((bg (pickF p1) (pickF p2) (pickF p3) (pickF p4) (pickF p5)) 0) (Int32.ofNat 0) (Int32.ofNat a) (Int32.ofNat b)) + (digF ((bg (pickF p1) (pickF p2) (pickF p3) (pickF p4) (pickF p5)) 1) (Int32.ofNat 1) (Int32.ofNat a) (Int32.ofNat b))) + (digF ((bg (pickF p1) (pickF p2) (pickF p3) (pickF p4) (pickF p5)) 2) (Int32.ofNat 2) (Int32.ofNat a) (Int32.ofNat b))) + (digF ((bg (pickF p1) (pickF p2) (pickF p3) (pickF p4) (pickF p5)) 3) (Int32.ofNat 3) (Int32.ofNat a) (Int32.ofNat b))) + (digF ((bg (pickF p1) (pickF p2) (pickF p3) (pickF p4) (pickF p5)) 4) (Int32.ofNat 4) (Int32.ofNat a) (Int32.ofNat b)))), .val (.int (((((poiF ((bg (pickF p1) (pickF p2) (pickF p3) (pickF p4) (pickF p5)) 0) (Int32.ofNat 0) (Int32.ofNat a) (Int32.ofNat b)) + (poiF ((bg (pickF p1) (pickF p2) (pickF p3) (pickF p4) (pickF p5)) 1) (Int32.ofNat 1) (Int32.ofNat a) (Int32.ofNat b))) + (poiF ((bg (pickF p1) (pickF p2) (pickF p3) (pickF p4) (pickF p5)) 2) (Int32.ofNat 2) (Int32.ofNat a) (Int32.ofNat b))) + (poiF ((bg (pickF p1) (pickF p2) (pickF p3) (pickF p4) (pickF p5)) 3) (Int32.ofNat 3) (Int32.ofNat a) (Int32.ofNat b))) + (poiF ((bg (pickF p1) (pickF p2) (pickF p3) (pickF p4) (pickF p5)) 4) (Int32.ofNat 4) (Int32.ofNat a) (Int32.ofNat b)))), .unset] [(.int (1 : Int32)), (.int (((((poiF ((bg (pickF p1) (pickF p2) (pickF p3) (pickF p4) (pickF p5)) 0) (Int32.ofNat 0) (Int32.ofNat a) (Int32.ofNat b)) + (poiF ((bg (pickF p1) (pickF p2) (pickF p3) (pickF p4) (pickF p5)) 1) (Int32.ofNat 1) (Int32.ofNat a) (Int32.ofNat b))) + (poiF ((bg (pickF p1) (pickF p2) (pickF p3) (pickF p4) (pickF p5)) 2) (Int32.ofNat 2) (Int32.ofNat a) (Int32.ofNat b))) + (poiF ((bg (pickF p1) (pickF p2) (pickF p3) (pickF p4) (pickF p5)) 3) (Int32.ofNat 3) (Int32.ofNat a) (Int32.ofNat b))) + (poiF ((bg (pickF p1) (pickF p2) (pickF p3) (pickF p4) (pickF p5)) 4) (Int32.ofNat 4) (Int32.ofNat a) (Int32.ofNat b))))]))
        by_cases hc275 : (1 : Int32) < (((((poiF ((bg (pickF p1) (pickF p2) (pickF p3) (pickF p4) (pickF p5)) 0) (Int32.ofNat 0) (Int32.ofNat a) (Int32.ofNat b)) + (poiF ((bg (pickF p1) (pickF p2) (pickF p3) (pickF p4) (pickF p5)) 1) (Int32.ofNat 1) (Int32.ofNat a) (Int32.ofNat b))) + (poiF ((bg (pickF p1) (pickF p2) (pickF p3) (pickF p4) (pickF p5)) 2) (Int32.ofNat 2) (Int32.ofNat a) (Int32.ofNat b))) + (poiF ((bg (pickF p1) (pickF p2) (pickF p3) (pickF p4) (pickF p5)) 3) (Int32.ofNat 3) (Int32.ofNat a) (Int32.ofNat b))) + (poiF ((bg (pickF p1) (pickF p2) (pickF p3) (pickF p4) (pickF p5)) 4) (Int32.ofNat 4) (Int32.ofNat a) (Int32.ofNat b)))
        · skip
          refine Go.step (fun _ k => XS.icmpYes X28.here hx rfl (pc0 := 275) (pc' := 282) rfl (hb hby at_275) rfl (tlt hc275).2.2.1 (by decide) (by decide) k) ?_
          show Go FrameEnd p e below s 16 128 (Q0 Z p1 p2 p3 p4 p5 p6 h0 n0) (T28.setTop (mkF m 282 #[.val (.int p1), .val (.int p2), .val (.int p3), .val (.int p4), .val (.int p5), .val (.int p6), .val (.ref b1), .val (.int (Int32.ofNat a)), .val (.int (Int32.ofNat b)), .val (.int y), .val (.int (((((digF ((bg (pickF p1) (pickF p2) (pickF p3) (pickF p4) (pickF p5)) 0) (Int32.ofNat 0) (Int32.ofNat a) (Int32.ofNat b)) + (digF ((bg (pickF p1) (pickF p2) (pickF p3) (pickF p4) (pickF p5)) 1) (Int32.ofNat 1) (Int32.ofNat a) (Int32.ofNat b))) + (digF ((bg (pickF p1) (pickF p2) (pickF p3) (pickF p4) (pickF p5)) 2) (Int32.ofNat 2) (Int32.ofNat a) (Int32.ofNat b))) + (digF ((bg (pickF p1) (pickF p2) (pickF p3) (pickF p4) (pickF p5)) 3) (Int32.ofNat 3) (Int32.ofNat a) (Int32.ofNat b))) + (digF ((bg (pickF p1) (pickF p2) (pickF p3) (pickF p4) (pickF p5)) 4) (Int32.ofNat 4) (Int32.ofNat a) (Int32.ofNat b)))), .val (.int (((((poiF ((bg (pickF p1) (pickF p2) (pickF p3) (pickF p4) (pickF p5)) 0) (Int32.ofNat 0) (Int32.ofNat a) (Int32.ofNat b)) + (poiF ((bg (pickF p1) (pickF p2) (pickF p3) (pickF p4) (pickF p5)) 1) (Int32.ofNat 1) (Int32.ofNat a) (Int32.ofNat b))) + (poiF ((bg (pickF p1) (pickF p2) (pickF p3) (pickF p4) (pickF p5)) 2) (Int32.ofNat 2) (Int32.ofNat a) (Int32.ofNat b))) + (poiF ((bg (pickF p1) (pickF p2) (pickF p3) (pickF p4) (pickF p5)) 3) (Int32.ofNat 3) (Int32.ofNat a) (Int32.ofNat b))) + (poiF ((bg (pickF p1) (pickF p2) (pickF p3) (pickF p4) (pickF p5)) 4) (Int32.ofNat 4) (Int32.ofNat a) (Int32.ofNat b)))), .unset] []))
          refine Go.step (fun _ k => XS.iconst X28.here hx rfl (hb hby at_282) k) ?_
          show Go FrameEnd p e below s 16 128 (Q0 Z p1 p2 p3 p4 p5 p6 h0 n0) (T28.setTop (mkF m 283 #[.val (.int p1), .val (.int p2), .val (.int p3), .val (.int p4), .val (.int p5), .val (.int p6), .val (.ref b1), .val (.int (Int32.ofNat a)), .val (.int (Int32.ofNat b)), .val (.int y), .val (.int (((((digF ((bg (pickF p1) (pickF p2) (pickF p3) (pickF p4) (pickF p5)) 0) (Int32.ofNat 0) (Int32.ofNat a) (Int32.ofNat b)) + (digF ((bg (pickF p1) (pickF p2) (pickF p3) (pickF p4) (pickF p5)) 1) (Int32.ofNat 1) (Int32.ofNat a) (Int32.ofNat b))) + (digF ((bg (pickF p1) (pickF p2) (pickF p3) (pickF p4) (pickF p5)) 2) (Int32.ofNat 2) (Int32.ofNat a) (Int32.ofNat b))) + (digF ((bg (pickF p1) (pickF p2) (pickF p3) (pickF p4) (pickF p5)) 3) (Int32.ofNat 3) (Int32.ofNat a) (Int32.ofNat b))) + (digF ((bg (pickF p1) (pickF p2) (pickF p3) (pickF p4) (pickF p5)) 4) (Int32.ofNat 4) (Int32.ofNat a) (Int32.ofNat b)))), .val (.int (((((poiF ((bg (pickF p1) (pickF p2) (pickF p3) (pickF p4) (pickF p5)) 0) (Int32.ofNat 0) (Int32.ofNat a) (Int32.ofNat b)) + (poiF ((bg (pickF p1) (pickF p2) (pickF p3) (pickF p4) (pickF p5)) 1) (Int32.ofNat 1) (Int32.ofNat a) (Int32.ofNat b))) + (poiF ((bg (pickF p1) (pickF p2) (pickF p3) (pickF p4) (pickF p5)) 2) (Int32.ofNat 2) (Int32.ofNat a) (Int32.ofNat b))) + (poiF ((bg (pickF p1) (pickF p2) (pickF p3) (pickF p4) (pickF p5)) 3) (Int32.ofNat 3) (Int32.ofNat a) (Int32.ofNat b))) + (poiF ((bg (pickF p1) (pickF p2) (pickF p3) (pickF p4) (pickF p5)) 4) (Int32.ofNat 4) (Int32.ofNat a) (Int32.ofNat b)))), .unset] [(.int (0 : Int32))]))
          exact J283_29  _ (by first | contradiction | simp only [expV, eq_true hc263, eq_false hc269, eq_true hc275, true_or, or_true, false_or, or_false, or_self, true_and, and_true, false_and, and_false, and_self, not_true_eq_false, not_false_eq_true, if_true, if_false])
        · skip
          refine Go.step (fun _ k => XS.icmpNo X28.here hx rfl (hb hby at_275) rfl (flt hc275).2.2.1 k) ?_
          show Go FrameEnd p e below s 16 128 (Q0 Z p1 p2 p3 p4 p5 p6 h0 n0) (T28.setTop (mkF m 278 #[.val (.int p1), .val (.int p2), .val (.int p3), .val (.int p4), .val (.int p5), .val (.int p6), .val (.ref b1), .val (.int (Int32.ofNat a)), .val (.int (Int32.ofNat b)), .val (.int y), .val (.int (((((digF ((bg (pickF p1) (pickF p2) (pickF p3) (pickF p4) (pickF p5)) 0) (Int32.ofNat 0) (Int32.ofNat a) (Int32.ofNat b)) + (digF ((bg (pickF p1) (pickF p2) (pickF p3) (pickF p4) (pickF p5)) 1) (Int32.ofNat 1) (Int32.ofNat a) (Int32.ofNat b))) + (digF ((bg (pickF p1) (pickF p2) (pickF p3) (pickF p4) (pickF p5)) 2) (Int32.ofNat 2) (Int32.ofNat a) (Int32.ofNat b))) + (digF ((bg (pickF p1) (pickF p2) (pickF p3) (pickF p4) (pickF p5)) 3) (Int32.ofNat 3) (Int32.ofNat a) (Int32.ofNat b))) + (digF ((bg (pickF p1) (pickF p2) (pickF p3) (pickF p4) (pickF p5)) 4) (Int32.ofNat 4) (Int32.ofNat a) (Int32.ofNat b)))), .val (.int (((((poiF ((bg (pickF p1) (pickF p2) (pickF p3) (pickF p4) (pickF p5)) 0) (Int32.ofNat 0) (Int32.ofNat a) (Int32.ofNat b)) + (poiF ((bg (pickF p1) (pickF p2) (pickF p3) (pickF p4) (pickF p5)) 1) (Int32.ofNat 1) (Int32.ofNat a) (Int32.ofNat b))) + (poiF ((bg (pickF p1) (pickF p2) (pickF p3) (pickF p4) (pickF p5)) 2) (Int32.ofNat 2) (Int32.ofNat a) (Int32.ofNat b))) + (poiF ((bg (pickF p1) (pickF p2) (pickF p3) (pickF p4) (pickF p5)) 3) (Int32.ofNat 3) (Int32.ofNat a) (Int32.ofNat b))) + (poiF ((bg (pickF p1) (pickF p2) (pickF p3) (pickF p4) (pickF p5)) 4) (Int32.ofNat 4) (Int32.ofNat a) (Int32.ofNat b)))), .unset] []))
          refine Go.step (fun _ k => XS.iconst X28.here hx rfl (hb hby at_278) k) ?_
          show Go FrameEnd p e below s 16 128 (Q0 Z p1 p2 p3 p4 p5 p6 h0 n0) (T28.setTop (mkF m 279 #[.val (.int p1), .val (.int p2), .val (.int p3), .val (.int p4), .val (.int p5), .val (.int p6), .val (.ref b1), .val (.int (Int32.ofNat a)), .val (.int (Int32.ofNat b)), .val (.int y), .val (.int (((((digF ((bg (pickF p1) (pickF p2) (pickF p3) (pickF p4) (pickF p5)) 0) (Int32.ofNat 0) (Int32.ofNat a) (Int32.ofNat b)) + (digF ((bg (pickF p1) (pickF p2) (pickF p3) (pickF p4) (pickF p5)) 1) (Int32.ofNat 1) (Int32.ofNat a) (Int32.ofNat b))) + (digF ((bg (pickF p1) (pickF p2) (pickF p3) (pickF p4) (pickF p5)) 2) (Int32.ofNat 2) (Int32.ofNat a) (Int32.ofNat b))) + (digF ((bg (pickF p1) (pickF p2) (pickF p3) (pickF p4) (pickF p5)) 3) (Int32.ofNat 3) (Int32.ofNat a) (Int32.ofNat b))) + (digF ((bg (pickF p1) (pickF p2) (pickF p3) (pickF p4) (pickF p5)) 4) (Int32.ofNat 4) (Int32.ofNat a) (Int32.ofNat b)))), .val (.int (((((poiF ((bg (pickF p1) (pickF p2) (pickF p3) (pickF p4) (pickF p5)) 0) (Int32.ofNat 0) (Int32.ofNat a) (Int32.ofNat b)) + (poiF ((bg (pickF p1) (pickF p2) (pickF p3) (pickF p4) (pickF p5)) 1) (Int32.ofNat 1) (Int32.ofNat a) (Int32.ofNat b))) + (poiF ((bg (pickF p1) (pickF p2) (pickF p3) (pickF p4) (pickF p5)) 2) (Int32.ofNat 2) (Int32.ofNat a) (Int32.ofNat b))) + (poiF ((bg (pickF p1) (pickF p2) (pickF p3) (pickF p4) (pickF p5)) 3) (Int32.ofNat 3) (Int32.ofNat a) (Int32.ofNat b))) + (poiF ((bg (pickF p1) (pickF p2) (pickF p3) (pickF p4) (pickF p5)) 4) (Int32.ofNat 4) (Int32.ofNat a) (Int32.ofNat b)))), .unset] [(.int (1 : Int32))]))
          refine Go.step (fun _ k => XS.goto X28.here hx rfl (pc0 := 279) (pc' := 283) rfl (hb hby at_279) (by decide) (by decide) k) ?_
          show Go FrameEnd p e below s 16 128 (Q0 Z p1 p2 p3 p4 p5 p6 h0 n0) (T28.setTop (mkF m 283 #[.val (.int p1), .val (.int p2), .val (.int p3), .val (.int p4), .val (.int p5), .val (.int p6), .val (.ref b1), .val (.int (Int32.ofNat a)), .val (.int (Int32.ofNat b)), .val (.int y), .val (.int (((((digF ((bg (pickF p1) (pickF p2) (pickF p3) (pickF p4) (pickF p5)) 0) (Int32.ofNat 0) (Int32.ofNat a) (Int32.ofNat b)) + (digF ((bg (pickF p1) (pickF p2) (pickF p3) (pickF p4) (pickF p5)) 1) (Int32.ofNat 1) (Int32.ofNat a) (Int32.ofNat b))) + (digF ((bg (pickF p1) (pickF p2) (pickF p3) (pickF p4) (pickF p5)) 2) (Int32.ofNat 2) (Int32.ofNat a) (Int32.ofNat b))) + (digF ((bg (pickF p1) (pickF p2) (pickF p3) (pickF p4) (pickF p5)) 3) (Int32.ofNat 3) (Int32.ofNat a) (Int32.ofNat b))) + (digF ((bg (pickF p1) (pickF p2) (pickF p3) (pickF p4) (pickF p5)) 4) (Int32.ofNat 4) (Int32.ofNat a) (Int32.ofNat b)))), .val (.int (((((poiF ((bg (pickF p1) (pickF p2) (pickF p3) (pickF p4) (pickF p5)) 0) (Int32.ofNat 0) (Int32.ofNat a) (Int32.ofNat b)) + (poiF ((bg (pickF p1) (pickF p2) (pickF p3) (pickF p4) (pickF p5)) 1) (Int32.ofNat 1) (Int32.ofNat a) (Int32.ofNat b))) + (poiF ((bg (pickF p1) (pickF p2) (pickF p3) (pickF p4) (pickF p5)) 2) (Int32.ofNat 2) (Int32.ofNat a) (Int32.ofNat b))) + (poiF ((bg (pickF p1) (pickF p2) (pickF p3) (pickF p4) (pickF p5)) 3) (Int32.ofNat 3) (Int32.ofNat a) (Int32.ofNat b))) + (poiF ((bg (pickF p1) (pickF p2) (pickF p3) (pickF p4) (pickF p5)) 4) (Int32.ofNat 4) (Int32.ofNat a) (Int32.ofNat b)))), .unset] [(.int (1 : Int32))]))
          exact J283_29  _ (by first | contradiction | simp only [expV, eq_true hc263, eq_false hc269, eq_false hc275, true_or, or_true, false_or, or_false, or_self, true_and, and_true, false_and, and_false, and_self, not_true_eq_false, not_false_eq_true, if_true, if_false])
    · skip
      refine Go.step (fun _ k => XS.ifYes X28.here hx rfl (pc0 := 263) (pc' := 282) rfl (hb hby at_263) rfl ((if0 _ _).trans (feq hc263).2) (by decide) (by decide) k) ?_
      show Go FrameEnd p e below s 16 128 (Q0 Z p1 p2 p3 p4 p5 p6 h0 n0) (T28.setTop (mkF m 282 #[.val (.int p1), .val (.int p2), .val (.int p3), .val (.int p4), .val (.int p5), .val (.int p6), .val (.ref b1), .val (.int (Int32.ofNat a)), .val (.int (Int32.ofNat b)), .val (.int y), .val (.int (((((digF ((bg (pickF p1) (pickF p2) (pickF p3) (pickF p4) (pickF p5)) 0) (Int32.ofNat 0) (Int32.ofNat a) (Int32.ofNat b)) + (digF ((bg (pickF p1) (pickF p2) (pickF p3) (pickF p4) (pickF p5)) 1) (Int32.ofNat 1) (Int32.ofNat a) (Int32.ofNat b))) + (digF ((bg (pickF p1) (pickF p2) (pickF p3) (pickF p4) (pickF p5)) 2) (Int32.ofNat 2) (Int32.ofNat a) (Int32.ofNat b))) + (digF ((bg (pickF p1) (pickF p2) (pickF p3) (pickF p4) (pickF p5)) 3) (Int32.ofNat 3) (Int32.ofNat a) (Int32.ofNat b))) + (digF ((bg (pickF p1) (pickF p2) (pickF p3) (pickF p4) (pickF p5)) 4) (Int32.ofNat 4) (Int32.ofNat a) (Int32.ofNat b)))), .val (.int (((((poiF ((bg (pickF p1) (pickF p2) (pickF p3) (pickF p4) (pickF p5)) 0) (Int32.ofNat 0) (Int32.ofNat a) (Int32.ofNat b)) + (poiF ((bg (pickF p1) (pickF p2) (pickF p3) (pickF p4) (pickF p5)) 1) (Int32.ofNat 1) (Int32.ofNat a) (Int32.ofNat b))) + (poiF ((bg (pickF p1) (pickF p2) (pickF p3) (pickF p4) (pickF p5)) 2) (Int32.ofNat 2) (Int32.ofNat a) (Int32.ofNat b))) + (poiF ((bg (pickF p1) (pickF p2) (pickF p3) (pickF p4) (pickF p5)) 3) (Int32.ofNat 3) (Int32.ofNat a) (Int32.ofNat b))) + (poiF ((bg (pickF p1) (pickF p2) (pickF p3) (pickF p4) (pickF p5)) 4) (Int32.ofNat 4) (Int32.ofNat a) (Int32.ofNat b)))), .unset] []))
      refine Go.step (fun _ k => XS.iconst X28.here hx rfl (hb hby at_282) k) ?_
      show Go FrameEnd p e below s 16 128 (Q0 Z p1 p2 p3 p4 p5 p6 h0 n0) (T28.setTop (mkF m 283 #[.val (.int p1), .val (.int p2), .val (.int p3), .val (.int p4), .val (.int p5), .val (.int p6), .val (.ref b1), .val (.int (Int32.ofNat a)), .val (.int (Int32.ofNat b)), .val (.int y), .val (.int (((((digF ((bg (pickF p1) (pickF p2) (pickF p3) (pickF p4) (pickF p5)) 0) (Int32.ofNat 0) (Int32.ofNat a) (Int32.ofNat b)) + (digF ((bg (pickF p1) (pickF p2) (pickF p3) (pickF p4) (pickF p5)) 1) (Int32.ofNat 1) (Int32.ofNat a) (Int32.ofNat b))) + (digF ((bg (pickF p1) (pickF p2) (pickF p3) (pickF p4) (pickF p5)) 2) (Int32.ofNat 2) (Int32.ofNat a) (Int32.ofNat b))) + (digF ((bg (pickF p1) (pickF p2) (pickF p3) (pickF p4) (pickF p5)) 3) (Int32.ofNat 3) (Int32.ofNat a) (Int32.ofNat b))) + (digF ((bg (pickF p1) (pickF p2) (pickF p3) (pickF p4) (pickF p5)) 4) (Int32.ofNat 4) (Int32.ofNat a) (Int32.ofNat b)))), .val (.int (((((poiF ((bg (pickF p1) (pickF p2) (pickF p3) (pickF p4) (pickF p5)) 0) (Int32.ofNat 0) (Int32.ofNat a) (Int32.ofNat b)) + (poiF ((bg (pickF p1) (pickF p2) (pickF p3) (pickF p4) (pickF p5)) 1) (Int32.ofNat 1) (Int32.ofNat a) (Int32.ofNat b))) + (poiF ((bg (pickF p1) (pickF p2) (pickF p3) (pickF p4) (pickF p5)) 2) (Int32.ofNat 2) (Int32.ofNat a) (Int32.ofNat b))) + (poiF ((bg (pickF p1) (pickF p2) (pickF p3) (pickF p4) (pickF p5)) 3) (Int32.ofNat 3) (Int32.ofNat a) (Int32.ofNat b))) + (poiF ((bg (pickF p1) (pickF p2) (pickF p3) (pickF p4) (pickF p5)) 4) (Int32.ofNat 4) (Int32.ofNat a) (Int32.ofNat b)))), .unset] [(.int (0 : Int32))]))
      exact J283_29  _ (by first | contradiction | simp only [expV, eq_false hc263, true_or, or_true, false_or, or_false, or_self, true_and, and_true, false_and, and_false, and_self, not_true_eq_false, not_false_eq_true, if_true, if_false])
  refine Go.step (fun _ k => XS.aload X16.here hx rfl (hb hby at_77) rfl rfl k) ?_
  show Go FrameEnd p e below s 16 128 (Q0 Z p1 p2 p3 p4 p5 p6 h0 n0) (T16.setTop (mkF m 79 #[.val (.int p1), .val (.int p2), .val (.int p3), .val (.int p4), .val (.int p5), .val (.int p6), .val (.ref b1), .val (.int (Int32.ofNat a)), .val (.int (Int32.ofNat b)), .unset, .unset, .unset, .unset] [(.ref b1)]))
  refine Go.step (fun _ k => XS.iconst X16.here hx rfl (hb hby at_79) k) ?_
  show Go FrameEnd p e below s 16 128 (Q0 Z p1 p2 p3 p4 p5 p6 h0 n0) (T16.setTop (mkF m 80 #[.val (.int p1), .val (.int p2), .val (.int p3), .val (.int p4), .val (.int p5), .val (.int p6), .val (.ref b1), .val (.int (Int32.ofNat a)), .val (.int (Int32.ofNat b)), .unset, .unset, .unset, .unset] [(.int (0 : Int32)), (.ref b1)]))
  refine Go.step (fun _ k => XS.iload X16.here hx rfl (hb hby at_80) rfl k) ?_
  show Go FrameEnd p e below s 16 128 (Q0 Z p1 p2 p3 p4 p5 p6 h0 n0) (T16.setTop (mkF m 82 #[.val (.int p1), .val (.int p2), .val (.int p3), .val (.int p4), .val (.int p5), .val (.int p6), .val (.ref b1), .val (.int (Int32.ofNat a)), .val (.int (Int32.ofNat b)), .unset, .unset, .unset, .unset] [(.int (Int32.ofNat a)), (.int (0 : Int32)), (.ref b1)]))
  refine Go.step (fun _ k => XS.iload X16.here hx rfl (hb hby at_82) rfl k) ?_
  show Go FrameEnd p e below s 16 128 (Q0 Z p1 p2 p3 p4 p5 p6 h0 n0) (T16.setTop (mkF m 84 #[.val (.int p1), .val (.int p2), .val (.int p3), .val (.int p4), .val (.int p5), .val (.int p6), .val (.ref b1), .val (.int (Int32.ofNat a)), .val (.int (Int32.ofNat b)), .unset, .unset, .unset, .unset] [(.int (Int32.ofNat b)), (.int (Int32.ofNat a)), (.int (0 : Int32)), (.ref b1)]))
  obtain ⟨_, _, ⟨T31, L31, k31, n31⟩, -, X31, ⟨Lc31, hQ31, l31, y31, z31⟩, st31⟩ := Jvm.LawKit.callS X16 hx (y := (⟨"com/example/quotewire/quotewire/codec/FixFloatIsValidPinLaw", "bad", "([BIII)Z"⟩ : MethodName)) hown (mvT hZ (hw _ (List.mem_of_getElem? (i := 5) rfl))) (mvT hZ (hw _ (List.mem_of_getElem? (i := 6) rfl))) (mvT hZ (hw _ (List.mem_of_getElem? (i := 3) rfl))) (mvT hZ (hw _ (List.mem_of_getElem? (i := 7) rfl))) (by decide) (backOf (W := 0) (rm3 l Z a0 hw [] b1 (Int32.ofNat a) (Int32.ofNat b) (bg (pickF p1) (pickF p2) (pickF p3) (pickF p4) (pickF p5)) 0 5 h16 V16 (by decide)) hZ (hw _ (List.mem_of_getElem? (i := 7) rfl)) (hw _ (List.mem_of_getElem? (i := 3) rfl)) (by decide) (by decide)) (g := (mkF m 84 #[.val (.int p1), .val (.int p2), .val (.int p3), .val (.int p4), .val (.int p5), .val (.int p6), .val (.ref b1), .val (.int (Int32.ofNat a)), .val (.int (Int32.ofNat b)), .unset, .unset, .unset, .unset] [(.int (Int32.ofNat b)), (.int (Int32.ofNat a)), (.int (0 : Int32)), (.ref b1)])) rfl (by rw [hml]; rfl) (argsL := [(.ref b1), (.int (0 : Int32)), (.int (Int32.ofNat a)), (.int (Int32.ofNat b))]) (rest := []) (lenOf pd___BIII_Z rfl) rfl (by show 2 * 0 + _ ≤ _; exact Nat.le_of_eq rfl) (hb hby at_84) (fun _ _ => ⟨rfl, e16, (by decide : 1 + 0 ≤ _), (by decide : 5 + 0 ≤ _)⟩)
  dsimp only [Pt.U, Pt.locs, Pt.cells, Pt.slots] at X31 l31 y31 z31 st31 hQ31
  subst l31 y31 z31
  obtain ⟨rfl, rfl, e31⟩ := hQ31
  have N31 := Fr.app N16 (Fr.nil n0)
  refine Go.step st31 ?_
  show Go FrameEnd p e below s 16 128 (Q0 Z p1 p2 p3 p4 p5 p6 h0 n0) (T31.setTop (mkF m 87 #[.val (.int p1), .val (.int p2), .val (.int p3), .val (.int p4), .val (.int p5), .val (.int p6), .val (.ref b1), .val (.int (Int32.ofNat a)), .val (.int (Int32.ofNat b)), .unset, .unset, .unset, .unset] [(.int (badF ((bg (pickF p1) (pickF p2) (pickF p3) (pickF p4) (pickF p5)) 0) (Int32.ofNat 0) (Int32.ofNat a) (Int32.ofNat b)))]))
  by_cases hc87 : (badF ((bg (pickF p1) (pickF p2) (pickF p3) (pickF p4) (pickF p5)) 0) (Int32.ofNat 0) (Int32.ofNat a) (Int32.ofNat b)) = (0 : Int32)
  · skip
    refine Go.step (fun _ k => XS.ifNo X31.here hx rfl (hb hby at_87) rfl ((if0 _ _).trans (teq hc87).2) k) ?_
    show Go FrameEnd p e below s 16 128 (Q0 Z p1 p2 p3 p4 p5 p6 h0 n0) (T31.setTop (mkF m 90 #[.val (.int p1), .val (.int p2), .val (.int p3), .val (.int p4), .val (.int p5), .val (.int p6), .val (.ref b1), .val (.int (Int32.ofNat a)), .val (.int (Int32.ofNat b)), .unset, .unset, .unset, .unset] []))
    refine Go.step (fun _ k => XS.aload X31.here hx rfl (hb hby at_90) rfl rfl k) ?_
    show Go FrameEnd p e below s 16 128 (Q0 Z p1 p2 p3 p4 p5 p6 h0 n0) (T31.setTop (mkF m 92 #[.val (.int p1), .val (.int p2), .val (.int p3), .val (.int p4), .val (.int p5), .val (.int p6), .val (.ref b1), .val (.int (Int32.ofNat a)), .val (.int (Int32.ofNat b)), .unset, .unset, .unset, .unset] [(.ref b1)]))
    refine Go.step (fun _ k => XS.iconst X31.here hx rfl (hb hby at_92) k) ?_
    show Go FrameEnd p e below s 16 128 (Q0 Z p1 p2 p3 p4 p5 p6 h0 n0) (T31.setTop (mkF m 93 #[.val (.int p1), .val (.int p2), .val (.int p3), .val (.int p4), .val (.int p5), .val (.int p6), .val (.ref b1), .val (.int (Int32.ofNat a)), .val (.int (Int32.ofNat b)), .unset, .unset, .unset, .unset] [(.int (1 : Int32)), (.ref b1)]))
    refine Go.step (fun _ k => XS.iload X31.here hx rfl (hb hby at_93) rfl k) ?_
    show Go FrameEnd p e below s 16 128 (Q0 Z p1 p2 p3 p4 p5 p6 h0 n0) (T31.setTop (mkF m 95 #[.val (.int p1), .val (.int p2), .val (.int p3), .val (.int p4), .val (.int p5), .val (.int p6), .val (.ref b1), .val (.int (Int32.ofNat a)), .val (.int (Int32.ofNat b)), .unset, .unset, .unset, .unset] [(.int (Int32.ofNat a)), (.int (1 : Int32)), (.ref b1)]))
    refine Go.step (fun _ k => XS.iload X31.here hx rfl (hb hby at_95) rfl k) ?_
    show Go FrameEnd p e below s 16 128 (Q0 Z p1 p2 p3 p4 p5 p6 h0 n0) (T31.setTop (mkF m 97 #[.val (.int p1), .val (.int p2), .val (.int p3), .val (.int p4), .val (.int p5), .val (.int p6), .val (.ref b1), .val (.int (Int32.ofNat a)), .val (.int (Int32.ofNat b)), .unset, .unset, .unset, .unset] [(.int (Int32.ofNat b)), (.int (Int32.ofNat a)), (.int (1 : Int32)), (.ref b1)]))
    obtain ⟨_, _, ⟨T32, L32, k32, n32⟩, -, X32, ⟨Lc32, hQ32, l32, y32, z32⟩, st32⟩ := Jvm.LawKit.callS X31 hx (y := (⟨"com/example/quotewire/quotewire/codec/FixFloatIsValidPinLaw", "bad", "([BIII)Z"⟩ : MethodName)) hown (mvT hZ (hw _ (List.mem_of_getElem? (i := 5) rfl))) (mvT hZ (hw _ (List.mem_of_getElem? (i := 6) rfl))) (mvT hZ (hw _ (List.mem_of_getElem? (i := 3) rfl))) (mvT hZ (hw _ (List.mem_of_getElem? (i := 7) rfl))) (by decide) (backOf (W := 0) (rm3 l Z a0 hw [] b1 (Int32.ofNat a) (Int32.ofNat b) (bg (pickF p1) (pickF p2) (pickF p3) (pickF p4) (pickF p5)) 1 5 h16 V16 (by decide)) hZ (hw _ (List.mem_of_getElem? (i := 7) rfl)) (hw _ (List.mem_of_getElem? (i := 3) rfl)) (by decide) (by decide)) (g := (mkF m 97 #[.val (.int p1), .val (.int p2), .val (.int p3), .val (.int p4), .val (.int p5), .val (.int p6), .val (.ref b1), .val (.int (Int32.ofNat a)), .val (.int (Int32.ofNat b)), .unset, .unset, .unset, .unset] [(.int (Int32.ofNat b)), (.int (Int32.ofNat a)), (.int (1 : Int32)), (.ref b1)])) rfl (by rw [hml]; rfl) (argsL := [(.ref b1), (.int (1 : Int32)), (.int (Int32.ofNat a)), (.int (Int32.ofNat b))]) (rest := []) (lenOf pd___BIII_Z rfl) rfl (by show 2 * 0 + _ ≤ _; exact Nat.le_of_eq rfl) (hb hby at_97) (fun _ _ => ⟨rfl, e31, (by decide : 1 + 0 ≤ _), (by decide : 5 + 0 ≤ _)⟩)
    dsimp only [Pt.U, Pt.locs, Pt.cells, Pt.slots] at X32 l32 y32 z32 st32 hQ32
    subst l32 y32 z32
    obtain ⟨rfl, rfl, e32⟩ := hQ32
    have N32 := Fr.app N31 (Fr.nil n0)
    refine Go.step st32 ?_
    show Go FrameEnd p e below s 16 128 (Q0 Z p1 p2 p3 p4 p5 p6 h0 n0) (T32.setTop (mkF m 100 #[.val (.int p1), .val (.int p2), .val (.int p3), .val (.int p4), .val (.int p5), .val (.int p6), .val (.ref b1), .val (.int (Int32.ofNat a)), .val (.int (Int32.ofNat b)), .unset, .unset, .unset, .unset] [(.int (badF ((bg (pickF p1) (pickF p2) (pickF p3) (pickF p4) (pickF p5)) 1) (Int32.ofNat 1) (Int32.ofNat a) (Int32.ofNat b)))]))
    by_cases hc100 : (badF ((bg (pickF p1) (pickF p2) (pickF p3) (pickF p4) (pickF p5)) 1) (Int32.ofNat 1) (Int32.ofNat a) (Int32.ofNat b)) = (0 : Int32)
    · skip
      refine Go.step (fun _ k => XS.ifNo X32.here hx rfl (hb hby at_100) rfl ((if0 _ _).trans (teq hc100).2) k) ?_
      show Go FrameEnd p e below s 16 128 (Q0 Z p1 p2 p3 p4 p5 p6 h0 n0) (T32.setTop (mkF m 103 #[.val (.int p1), .val (.int p2), .val (.int p3), .val (.int p4), .val (.int p5), .val (.int p6), .val (.ref b1), .val (.int (Int32.ofNat a)), .val (.int (Int32.ofNat b)), .unset, .unset, .unset, .unset] []))
      refine Go.step (fun _ k => XS.aload X32.here hx rfl (hb hby at_103) rfl rfl k) ?_
      show Go FrameEnd p e below s 16 128 (Q0 Z p1 p2 p3 p4 p5 p6 h0 n0) (T32.setTop (mkF m 105 #[.val (.int p1), .val (.int p2), .val (.int p3), .val (.int p4), .val (.int p5), .val (.int p6), .val (.ref b1), .val (.int (Int32.ofNat a)), .val (.int (Int32.ofNat b)), .unset, .unset, .unset, .unset] [(.ref b1)]))
      refine Go.step (fun _ k => XS.iconst X32.here hx rfl (hb hby at_105) k) ?_
      show Go FrameEnd p e below s 16 128 (Q0 Z p1 p2 p3 p4 p5 p6 h0 n0) (T32.setTop (mkF m 106 #[.val (.int p1), .val (.int p2), .val (.int p3), .val (.int p4), .val (.int p5), .val (.int p6), .val (.ref b1), .val (.int (Int32.ofNat a)), .val (.int (Int32.ofNat b)), .unset, .unset, .unset, .unset] [(.int (2 : Int32)), (.ref b1)]))
      refine Go.step (fun _ k => XS.iload X32.here hx rfl (hb hby at_106) rfl k) ?_
      show Go FrameEnd p e below s 16 128 (Q0 Z p1 p2 p3 p4 p5 p6 h0 n0) (T32.setTop (mkF m 108 #[.val (.int p1), .val (.int p2), .val (.int p3), .val (.int p4), .val (.int p5), .val (.int p6), .val (.ref b1), .val (.int (Int32.ofNat a)), .val (.int (Int32.ofNat b)), .unset, .unset, .unset, .unset] [(.int (Int32.ofNat a)), (.int (2 : Int32)), (.ref b1)]))
      refine Go.step (fun _ k => XS.iload X32.here hx rfl (hb hby at_108) rfl k) ?_
      show Go FrameEnd p e below s 16 128 (Q0 Z p1 p2 p3 p4 p5 p6 h0 n0) (T32.setTop (mkF m 110 #[.val (.int p1), .val (.int p2), .val (.int p3), .val (.int p4), .val (.int p5), .val (.int p6), .val (.ref b1), .val (.int (Int32.ofNat a)), .val (.int (Int32.ofNat b)), .unset, .unset, .unset, .unset] [(.int (Int32.ofNat b)), (.int (Int32.ofNat a)), (.int (2 : Int32)), (.ref b1)]))
      obtain ⟨_, _, ⟨T33, L33, k33, n33⟩, -, X33, ⟨Lc33, hQ33, l33, y33, z33⟩, st33⟩ := Jvm.LawKit.callS X32 hx (y := (⟨"com/example/quotewire/quotewire/codec/FixFloatIsValidPinLaw", "bad", "([BIII)Z"⟩ : MethodName)) hown (mvT hZ (hw _ (List.mem_of_getElem? (i := 5) rfl))) (mvT hZ (hw _ (List.mem_of_getElem? (i := 6) rfl))) (mvT hZ (hw _ (List.mem_of_getElem? (i := 3) rfl))) (mvT hZ (hw _ (List.mem_of_getElem? (i := 7) rfl))) (by decide) (backOf (W := 0) (rm3 l Z a0 hw [] b1 (Int32.ofNat a) (Int32.ofNat b) (bg (pickF p1) (pickF p2) (pickF p3) (pickF p4) (pickF p5)) 2 5 h16 V16 (by decide)) hZ (hw _ (List.mem_of_getElem? (i := 7) rfl)) (hw _ (List.mem_of_getElem? (i := 3) rfl)) (by decide) (by decide)) (g := (mkF m 110 #[.val (.int p1), .val (.int p2), .val (.int p3), .val (.int p4), .val (.int p5), .val (.int p6), .val (.ref b1), .val (.int (Int32.ofNat a)), .val (.int (Int32.ofNat b)), .unset, .unset, .unset, .unset] [(.int (Int32.ofNat b)), (.int (Int32.ofNat a)), (.int (2 : Int32)), (.ref b1)])) rfl (by rw [hml]; rfl) (argsL := [(.ref b1), (.int (2 : Int32)), (.int (Int32.ofNat a)), (.int (Int32.ofNat b))]) (rest := []) (lenOf pd___BIII_Z rfl) rfl (by show 2 * 0 + _ ≤ _; exact Nat.le_of_eq rfl) (hb hby at_110) (fun _ _ => ⟨rfl, e32, (by decide : 1 + 0 ≤ _), (by decide : 5 + 0 ≤ _)⟩)
      dsimp only [Pt.U, Pt.locs, Pt.cells, Pt.slots] at X33 l33 y33 z33 st33 hQ33
      subst l33 y33 z33
      obtain ⟨rfl, rfl, e33⟩ := hQ33
      have N33 := Fr.app N32 (Fr.nil n0)
      refine Go.step st33 ?_
      show Go FrameEnd p e below s 16 128 (Q0 Z p1 p2 p3 p4 p5 p6 h0 n0) (T33.setTop (mkF m 113 #[.val (.int p1), .val (.int p2), .val (.int p3), .val (.int p4), .val (.int p5), .val (.int p6), .val (.ref b1), .val (.int (Int32.ofNat a)), .val (.int (Int32.ofNat b)), .unset, .unset, .unset, .unset] [(.int (badF ((bg (pickF p1) (pickF p2) (pickF p3) (pickF p4) (pickF p5)) 2) (Int32.ofNat 2) (Int32.ofNat a) (Int32.ofNat b)))]))
      by_cases hc113 : (badF ((bg (pickF p1) (pickF p2) (pickF p3) (pickF p4) (pickF p5)) 2) (Int32.ofNat 2) (Int32.ofNat a) (Int32.ofNat b)) = (0 : Int32)
      · skip
        refine Go.step (fun _ k => XS.ifNo X33.here hx rfl (hb hby at_113) rfl ((if0 _ _).trans (teq hc113).2) k) ?_
        show Go FrameEnd p e below s 16 128 (Q0 Z p1 p2 p3 p4 p5 p6 h0 n0) (T33.setTop (mkF m 116 #[.val (.int p1), .val (.int p2), .val (.int p3), .val (.int p4), .val (.int p5), .val (.int p6), .val (.ref b1), .val (.int (Int32.ofNat a)), .val (.int (Int32.ofNat b)), .unset, .unset, .unset, .unset] []))
        refine Go.step (fun _ k => XS.aload X33.here hx rfl (hb hby at_116) rfl rfl k) ?_
        show Go FrameEnd p e below s 16 128 (Q0 Z p1 p2 p3 p4 p5 p6 h0 n0) (T33.setTop (mkF m 118 #[.val (.int p1), .val (.int p2), .val (.int p3), .val (.int p4), .val (.int p5), .val (.int p6), .val (.ref b1), .val (.int (Int32.ofNat a)), .val (.int (Int32.ofNat b)), .unset, .unset, .unset, .unset] [(.ref b1)]))
        refine Go.step (fun _ k => XS.iconst X33.here hx rfl (hb hby at_118) k) ?_
        show Go FrameEnd p e below s 16 128 (Q0 Z p1 p2 p3 p4 p5 p6 h0 n0) (T33.setTop (mkF m 119 #[.val (.int p1), .val (.int p2), .val (.int p3), .val (.int p4), .val (.int p5), .val (.int p6), .val (.ref b1), .val (.int (Int32.ofNat a)), .val (.int (Int32.ofNat b)), .unset, .unset, .unset, .unset] [(.int (3 : Int32)), (.ref b1)]))
        refine Go.step (fun _ k => XS.iload X33.here hx rfl (hb hby at_119) rfl k) ?_
        show Go FrameEnd p e below s 16 128 (Q0 Z p1 p2 p3 p4 p5 p6 h0 n0) (T33.setTop (mkF m 121 #[.val (.int p1), .val (.int p2), .val (.int p3), .val (.int p4), .val (.int p5), .val (.int p6), .val (.ref b1), .val (.int (Int32.ofNat a)), .val (.int (Int32.ofNat b)), .unset, .unset, .unset, .unset] [(.int (Int32.ofNat a)), (.int (3 : Int32)), (.ref b1)]))
        refine Go.step (fun _ k => XS.iload X33.here hx rfl (hb hby at_121) rfl k) ?_
        show Go FrameEnd p e below s 16 128 (Q0 Z p1 p2 p3 p4 p5 p6 h0 n0) (T33.setTop (mkF m 123 #[.val (.int p1), .val (.int p2), .val (.int p3), .val (.int p4), .val (.int p5), .val (.int p6), .val (.ref b1), .val (.int (Int32.ofNat a)), .val (.int (Int32.ofNat b)), .unset, .unset, .unset, .unset] [(.int (Int32.ofNat b)), (.int (Int32.ofNat a)), (.int (3 : Int32)), (.ref b1)]))
        obtain ⟨_, _, ⟨T34, L34, k34, n34⟩, -, X34, ⟨Lc34, hQ34, l34, y34, z34⟩, st34⟩ := Jvm.LawKit.callS X33 hx (y := (⟨"com/example/quotewire/quotewire/codec/FixFloatIsValidPinLaw", "bad", "([BIII)Z"⟩ : MethodName)) hown (mvT hZ (hw _ (List.mem_of_getElem? (i := 5) rfl))) (mvT hZ (hw _ (List.mem_of_getElem? (i := 6) rfl))) (mvT hZ (hw _ (List.mem_of_getElem? (i := 3) rfl))) (mvT hZ (hw _ (List.mem_of_getElem? (i := 7) rfl))) (by decide) (backOf (W := 0) (rm3 l Z a0 hw [] b1 (Int32.ofNat a) (Int32.ofNat b) (bg (pickF p1) (pickF p2) (pickF p3) (pickF p4) (pickF p5)) 3 5 h16 V16 (by decide)) hZ (hw _ (List.mem_of_getElem? (i := 7) rfl)) (hw _ (List.mem_of_getElem? (i := 3) rfl)) (by decide) (by decide)) (g := (mkF m 123 #[.val (.int p1), .val (.int p2), .val (.int p3), .val (.int p4), .val (.int p5), .val (.int p6), .val (.ref b1), .val (.int (Int32.ofNat a)), .val (.int (Int32.ofNat b)), .unset, .unset, .unset, .unset] [(.int (Int32.ofNat b)), (.int (Int32.ofNat a)), (.int (3 : Int32)), (.ref b1)])) rfl (by rw [hml]; rfl) (argsL := [(.ref b1), (.int (3 : Int32)), (.int (Int32.ofNat a)), (.int (Int32.ofNat b))]) (rest := []) (lenOf pd___BIII_Z rfl) rfl (by show 2 * 0 + _ ≤ _; exact Nat.le_of_eq rfl) (hb hby at_123) (fun _ _ => ⟨rfl, e33, (by decide : 1 + 0 ≤ _), (by decide : 5 + 0 ≤ _)⟩)
        dsimp only [Pt.U, Pt.locs, Pt.cells, Pt.slots] at X34 l34 y34 z34 st34 hQ34
        subst l34 y34 z34
        obtain ⟨rfl, rfl, e34⟩ := hQ34
        have N34 := Fr.app N33 (Fr.nil n0)
        refine Go.step st34 ?_
        show Go FrameEnd p e below s 16 128 (Q0 Z p1 p2 p3 p4 p5 p6 h0 n0) (T34.setTop (mkF m 126 #[.val (.int p1), .val (.int p2), .val (.int p3), .val (.int p4), .val (.int p5), .val (.int p6), .val (.ref b1), .val (.int (Int32.ofNat a)), .val (.int (Int32.ofNat b)), .unset, .unset, .unset, .unset] [(.int (badF ((bg (pickF p1) (pickF p2) (pickF p3) (pickF p4) (pickF p5)) 3) (Int32.ofNat 3) (Int32.ofNat a) (Int32.ofNat b)))]))
        by_cases hc126 : (badF ((bg (pickF p1) (pickF p2) (pickF p3) (pickF p4) (pickF p5)) 3) (Int32.ofNat 3) (Int32.ofNat a) (Int32.ofNat b)) = (0 : Int32)
        · skip
          refine Go.step (fun _ k => XS.ifNo X34.here hx rfl (hb hby at_126) rfl ((if0 _ _).trans (teq hc126).2) k) ?_
          show Go FrameEnd p e below s 16 128 (Q0 Z p1 p2 p3 p4 p5 p6 h0 n0) (T34.setTop (mkF m 129 #[.val (.int p1), .val (.int p2), .val (.int p3), .val (.int p4), .val (.int p5), .val (.int p6), .val (.ref b1), .val (.int (Int32.ofNat a)), .val (.int (Int32.ofNat b)), .unset, .unset, .unset, .unset] []))
          refine Go.step (fun _ k => XS.aload X34.here hx rfl (hb hby at_129) rfl rfl k) ?_
          show Go FrameEnd p e below s 16 128 (Q0 Z p1 p2 p3 p4 p5 p6 h0 n0) (T34.setTop (mkF m 131 #[.val (.int p1), .val (.int p2), .val (.int p3), .val (.int p4), .val (.int p5), .val (.int p6), .val (.ref b1), .val (.int (Int32.ofNat a)), .val (.int (Int32.ofNat b)), .unset, .unset, .unset, .unset] [(.ref b1)]))
          refine Go.step (fun _ k => XS.iconst X34.here hx rfl (hb hby at_131) k) ?_
          show Go FrameEnd p e below s 16 128 (Q0 Z p1 p2 p3 p4 p5 p6 h0 n0) (T34.setTop (mkF m 132 #[.val (.int p1), .val (.int p2), .val (.int p3), .val (.int p4), .val (.int p5), .val (.int p6), .val (.ref b1), .val (.int (Int32.ofNat a)), .val (.int (Int32.ofNat b)), .unset, .unset, .unset, .unset] [(.int (4 : Int32)), (.ref b1)]))
          refine Go.step (fun _ k => XS.iload X34.here hx rfl (hb hby at_132) rfl k) ?_
          show Go FrameEnd p e below s 16 128 (Q0 Z p1 p2 p3 p4 p5 p6 h0 n0) (T34.setTop (mkF m 134 #[.val (.int p1), .val (.int p2), .val (.int p3), .val (.int p4), .val (.int p5), .val (.int p6), .val (.ref b1), .val (.int (Int32.ofNat a)), .val (.int (Int32.ofNat b)), .unset, .unset, .unset, .unset] [(.int (Int32.ofNat a)), (.int (4 : Int32)), (.ref b1)]))
          refine Go.step (fun _ k => XS.iload X34.here hx rfl (hb hby at_134) rfl k) ?_
          show Go FrameEnd p e below s 16 128 (Q0 Z p1 p2 p3 p4 p5 p6 h0 n0) (T34.setTop (mkF m 136 #[.val (.int p1), .val (.int p2), .val (.int p3), .val (.int p4), .val (.int p5), .val (.int p6), .val (.ref b1), .val (.int (Int32.ofNat a)), .val (.int (Int32.ofNat b)), .unset, .unset, .unset, .unset] [(.int (Int32.ofNat b)), (.int (Int32.ofNat a)), (.int (4 : Int32)), (.ref b1)]))
          obtain ⟨_, _, ⟨T35, L35, k35, n35⟩, -, X35, ⟨Lc35, hQ35, l35, y35, z35⟩, st35⟩ := Jvm.LawKit.callS X34 hx (y := (⟨"com/example/quotewire/quotewire/codec/FixFloatIsValidPinLaw", "bad", "([BIII)Z"⟩ : MethodName)) hown (mvT hZ (hw _ (List.mem_of_getElem? (i := 5) rfl))) (mvT hZ (hw _ (List.mem_of_getElem? (i := 6) rfl))) (mvT hZ (hw _ (List.mem_of_getElem? (i := 3) rfl))) (mvT hZ (hw _ (List.mem_of_getElem? (i := 7) rfl))) (by decide) (backOf (W := 0) (rm3 l Z a0 hw [] b1 (Int32.ofNat a) (Int32.ofNat b) (bg (pickF p1) (pickF p2) (pickF p3) (pickF p4) (pickF p5)) 4 5 h16 V16 (by decide)) hZ (hw _ (List.mem_of_getElem? (i := 7) rfl)) (hw _ (List.mem_of_getElem? (i := 3) rfl)) (by decide) (by decide)) (g := (mkF m 136 #[.val (.int p1), .val (.int p2), .val (.int p3), .val (.int p4), .val (.int p5), .val (.int p6), .val (.ref b1), .val (.int (Int32.ofNat a)), .val (.int (Int32.ofNat b)), .unset, .unset, .unset, .unset] [(.int (Int32.ofNat b)), (.int (Int32.ofNat a)), (.int (4 : Int32)), (.ref b1)])) rfl (by rw [hml]; rfl) (argsL := [(.ref b1), (.int (4 : Int32)), (.int (Int32.ofNat a)), (.int (Int32.ofNat b))]) (rest := []) (lenOf pd___BIII_Z rfl) rfl (by show 2 * 0 + _ ≤ _; exact Nat.le_of_eq rfl) (hb hby at_136) (fun _ _ => ⟨rfl, e34, (by decide : 1 + 0 ≤ _), (by decide : 5 + 0 ≤ _)⟩)
          dsimp only [Pt.U, Pt.locs, Pt.cells, Pt.slots] at X35 l35 y35 z35 st35 hQ35
          subst l35 y35 z35
          obtain ⟨rfl, rfl, e35⟩ := hQ35
          have N35 := Fr.app N34 (Fr.nil n0)
          refine Go.step st35 ?_
          show Go FrameEnd p e below s 16 128 (Q0 Z p1 p2 p3 p4 p5 p6 h0 n0) (T35.setTop (mkF m 139 #[.val (.int p1), .val (.int p2), .val (.int p3), .val (.int p4), .val (.int p5), .val (.int p6), .val (.ref b1), .val (.int (Int32.ofNat a)), .val (.int (Int32.ofNat b)), .unset, .unset, .unset, .unset] [(.int (badF ((bg (pickF p1) (pickF p2) (pickF p3) (pickF p4) (pickF p5)) 4) (Int32.ofNat 4) (Int32.ofNat a) (Int32.ofNat b)))]))
          by_cases hc139 : (badF ((bg (pickF p1) (pickF p2) (pickF p3) (pickF p4) (pickF p5)) 4) (Int32.ofNat 4) (Int32.ofNat a) (Int32.ofNat b)) = (0 : Int32)
          · skip
            refine Go.step (fun _ k => XS.ifYes X35.here hx rfl (pc0 := 139) (pc' := 146) rfl (hb hby at_139) rfl ((if0 _ _).trans (teq hc139).1) (by decide) (by decide) k) ?_
            show Go FrameEnd p e below s 16 128 (Q0 Z p1 p2 p3 p4 p5 p6 h0 n0) (T35.setTop (mkF m 146 #[.val (.int p1), .val (.int p2), .val (.int p3), .val (.int p4), .val (.int p5), .val (.int p6), .val (.ref b1), .val (.int (Int32.ofNat a)), .val (.int (Int32.ofNat b)), .unset, .unset, .unset, .unset] []))
            refine Go.step (fun _ k => XS.iconst X35.here hx rfl (hb hby at_146) k) ?_
            show Go FrameEnd p e below s 16 128 (Q0 Z p1 p2 p3 p4 p5 p6 h0 n0) (T35.setTop (mkF m 147 #[.val (.int p1), .val (.int p2), .val (.int p3), .val (.int p4), .val (.int p5), .val (.int p6), .val (.ref b1), .val (.int (Int32.ofNat a)), .val (.int (Int32.ofNat b)), .unset, .unset, .unset, .unset] [(.int (0 : Int32))]))
            exact J147_17 _ _ X35 N35 e35 _ (by first | contradiction | simp only [anyV, eq_true hc87, eq_true hc100, eq_true hc113, eq_true hc126, eq_true hc139, true_or, or_true, false_or, or_false, or_self, true_and, and_true, false_and, and_false, and_self, not_true_eq_false, not_false_eq_true, if_true, if_false])
          · skip
            refine Go.step (fun _ k => XS.ifNo X35.here hx rfl (hb hby at_139) rfl ((if0 _ _).trans (feq hc139).1) k) ?_
            show Go FrameEnd p e below s 16 128 (Q0 Z p1 p2 p3 p4 p5 p6 h0 n0) (T35.setTop (mkF m 142 #[.val (.int p1), .val (.int p2), .val (.int p3), .val (.int p4), .val (.int p5), .val (.int p6), .val (.ref b1), .val (.int (Int32.ofNat a)), .val (.int (Int32.ofNat b)), .unset, .unset, .unset, .unset] []))
            refine Go.step (fun _ k => XS.iconst X35.here hx rfl (hb hby at_142) k) ?_
            show Go FrameEnd p e below s 16 128 (Q0 Z p1 p2 p3 p4 p5 p6 h0 n0) (T35.setTop (mkF m 143 #[.val (.int p1), .val (.int p2), .val (.int p3), .val (.int p4), .val (.int p5), .val (.int p6), .val (.ref b1), .val (.int (Int32.ofNat a)), .val (.int (Int32.ofNat b)), .unset, .unset, .unset, .unset] [(.int (1 : Int32))]))
            refine Go.step (fun _ k => XS.goto X35.here hx rfl (pc0 := 143) (pc' := 147) rfl (hb hby at_143) (by decide) (by decide) k) ?_
            show Go FrameEnd p e below s 16 128 (Q0 Z p1 p2 p3 p4 p5 p6 h0 n0) (T35.setTop (mkF m 147 #[.val (.int p1), .val (.int p2), .val (.int p3), .val (.int p4), .val (.int p5), .val (.int p6), .val (.ref b1), .val (.int (Int32.ofNat a)), .val (.int (Int32.ofNat b)), .unset, .unset, .unset, .unset] [(.int (1 : Int32))]))
            exact J147_17 _ _ X35 N35 e35 _ (by first | contradiction | simp only [anyV, eq_true hc87, eq_true hc100, eq_true hc113, eq_true hc126, eq_false hc139, true_or, or_true, false_or, or_false, or_self, true_and, and_true, false_and, and_false, and_self, not_true_eq_false, not_false_eq_true, if_true, if_false])
        · skip
          refine Go.step (fun _ k => XS.ifYes X34.here hx rfl (pc0 := 126) (pc' := 142) rfl (hb hby at_126) rfl ((if0 _ _).trans (feq hc126).2) (by decide) (by decide) k) ?_
          show Go FrameEnd p e below s 16 128 (Q0 Z p1 p2 p3 p4 p5 p6 h0 n0) (T34.setTop (mkF m 142 #[.val (.int p1), .val (.int p2), .val (.int p3), .val (.int p4), .val (.int p5), .val (.int p6), .val (.ref b1), .val (.int (Int32.ofNat a)), .val (.int (Int32.ofNat b)), .unset, .unset, .unset, .unset] []))
          refine Go.step (fun _ k => XS.iconst X34.here hx rfl (hb hby at_142) k) ?_
          show Go FrameEnd p e below s 16 128 (Q0 Z p1 p2 p3 p4 p5 p6 h0 n0) (T34.setTop (mkF m 143 #[.val (.int p1), .val (.int p2), .val (.int p3), .val (.int p4), .val (.int p5), .val (.int p6), .val (.ref b1), .val (.int (Int32.ofNat a)), .val (.int (Int32.ofNat b)), .unset, .unset, .unset, .unset] [(.int (1 : Int32))]))
          refine Go.step (fun _ k => XS.goto X34.here hx rfl (pc0 := 143) (pc' := 147) rfl (hb hby at_143) (by decide) (by decide) k) ?_
          show Go FrameEnd p e below s 16 128 (Q0 Z p1 p2 p3 p4 p5 p6 h0 n0) (T34.setTop (mkF m 147 #[.val (.int p1), .val (.int p2), .val (.int p3), .val (.int p4), .val (.int p5), .val (.int p6), .val (.ref b1), .val (.int (Int32.ofNat a)), .val (.int (Int32.ofNat b)), .unset, .unset, .unset, .unset] [(.int (1 : Int32))]))
          exact J147_17 _ _ X34 N34 e34 _ (by first | contradiction | simp only [anyV, eq_true hc87, eq_true hc100, eq_true hc113, eq_false hc126, true_or, or_true, false_or, or_false, or_self, true_and, and_true, false_and, and_false, and_self, not_true_eq_false, not_false_eq_true, if_true, if_false])
      · skip
        refine Go.step (fun _ k => XS.ifYes X33.here hx rfl (pc0 := 113) (pc' := 142) rfl (hb hby at_113) rfl ((if0 _ _).trans (feq hc113).2) (by decide) (by decide) k) ?_
        show Go FrameEnd p e below s 16 128 (Q0 Z p1 p2 p3 p4 p5 p6 h0 n0) (T33.setTop (mkF m 142 #[.val (.int p1), .val (.int p2), .val (.int p3), .val (.int p4), .val (.int p5), .val (.int p6), .val (.ref b1), .val (.int (Int32.ofNat a)), .val (.int (Int32.ofNat b)), .unset, .unset, .unset, .unset] []))
        refine Go.step (fun _ k => XS.iconst X33.here hx rfl (hb hby at_142) k) ?_
        show Go FrameEnd p e below s 16 128 (Q0 Z p1 p2 p3 p4 p5 p6 h0 n0) (T33.setTop (mkF m 143 #[.val (.int p1), .val (.int p2), .val (.int p3), .val (.int p4), .val (.int p5), .val (.int p6), .val (.ref b1), .val (.int (Int32.ofNat a)), .val (.int (Int32.ofNat b)), .unset, .unset, .unset, .unset] [(.int (1 : Int32))]))
        refine Go.step (fun _ k => XS.goto X33.here hx rfl (pc0 := 143) (pc' := 147) rfl (hb hby at_143) (by decide) (by decide) k) ?_
        show Go FrameEnd p e below s 16 128 (Q0 Z p1 p2 p3 p4 p5 p6 h0 n0) (T33.setTop (mkF m 147 #[.val (.int p1), .val (.int p2), .val (.int p3), .val (.int p4), .val (.int p5), .val (.int p6), .val (.ref b1), .val (.int (Int32.ofNat a)), .val (.int (Int32.ofNat b)), .unset, .unset, .unset, .unset] [(.int (1 : Int32))]))
        exact J147_17 _ _ X33 N33 e33 _ (by first | contradiction | simp only [anyV, eq_true hc87, eq_true hc100, eq_false hc113, true_or, or_true, false_or, or_false, or_self, true_and, and_true, false_and, and_false, and_self, not_true_eq_false, not_false_eq_true, if_true, if_false])
    · skip
      refine Go.step (fun _ k => XS.ifYes X32.here hx rfl (pc0 := 100) (pc' := 142) rfl (hb hby at_100) rfl ((if0 _ _).trans (feq hc100).2) (by decide) (by decide) k) ?_
      show Go FrameEnd p e below s 16 128 (Q0 Z p1 p2 p3 p4 p5 p6 h0 n0) (T32.setTop (mkF m 142 #[.val (.int p1), .val (.int p2), .val (.int p3), .val (.int p4), .val (.int p5), .val (.int p6), .val (.ref b1), .val (.int (Int32.ofNat a)), .val (.int (Int32.ofNat b)), .unset, .unset, .unset, .unset] []))
      refine Go.step (fun _ k => XS.iconst X32.here hx rfl (hb hby at_142) k) ?_
      show Go FrameEnd p e below s 16 128 (Q0 Z p1 p2 p3 p4 p5 p6 h0 n0) (T32.setTop (mkF m 143 #[.val (.int p1), .val (.int p2), .val (.int p3), .val (.int p4), .val (.int p5), .val (.int p6), .val (.ref b1), .val (.int (Int32.ofNat a)), .val (.int (Int32.ofNat b)), .unset, .unset, .unset, .unset] [(.int (1 : Int32))]))
      refine Go.step (fun _ k => XS.goto X32.here hx rfl (pc0 := 143) (pc' := 147) rfl (hb hby at_143) (by decide) (by decide) k) ?_
      show Go FrameEnd p e below s 16 128 (Q0 Z p1 p2 p3 p4 p5 p6 h0 n0) (T32.setTop (mkF m 147 #[.val (.int p1), .val (.int p2), .val (.int p3), .val (.int p4), .val (.int p5), .val (.int p6), .val (.ref b1), .val (.int (Int32.ofNat a)), .val (.int (Int32.ofNat b)), .unset, .unset, .unset, .unset] [(.int (1 : Int32))]))
      exact J147_17 _ _ X32 N32 e32 _ (by first | contradiction | simp only [anyV, eq_true hc87, eq_false hc100, true_or, or_true, false_or, or_false, or_self, true_and, and_true, false_and, and_false, and_self, not_true_eq_false, not_false_eq_true, if_true, if_false])
  · skip
    refine Go.step (fun _ k => XS.ifYes X31.here hx rfl (pc0 := 87) (pc' := 142) rfl (hb hby at_87) rfl ((if0 _ _).trans (feq hc87).2) (by decide) (by decide) k) ?_
    show Go FrameEnd p e below s 16 128 (Q0 Z p1 p2 p3 p4 p5 p6 h0 n0) (T31.setTop (mkF m 142 #[.val (.int p1), .val (.int p2), .val (.int p3), .val (.int p4), .val (.int p5), .val (.int p6), .val (.ref b1), .val (.int (Int32.ofNat a)), .val (.int (Int32.ofNat b)), .unset, .unset, .unset, .unset] []))
    refine Go.step (fun _ k => XS.iconst X31.here hx rfl (hb hby at_142) k) ?_
    show Go FrameEnd p e below s 16 128 (Q0 Z p1 p2 p3 p4 p5 p6 h0 n0) (T31.setTop (mkF m 143 #[.val (.int p1), .val (.int p2), .val (.int p3), .val (.int p4), .val (.int p5), .val (.int p6), .val (.ref b1), .val (.int (Int32.ofNat a)), .val (.int (Int32.ofNat b)), .unset, .unset, .unset, .unset] [(.int (1 : Int32))]))
    refine Go.step (fun _ k => XS.goto X31.here hx rfl (pc0 := 143) (pc' := 147) rfl (hb hby at_143) (by decide) (by decide) k) ?_
    show Go FrameEnd p e below s 16 128 (Q0 Z p1 p2 p3 p4 p5 p6 h0 n0) (T31.setTop (mkF m 147 #[.val (.int p1), .val (.int p2), .val (.int p3), .val (.int p4), .val (.int p5), .val (.int p6), .val (.ref b1), .val (.int (Int32.ofNat a)), .val (.int (Int32.ofNat b)), .unset, .unset, .unset, .unset] [(.int (1 : Int32))]))
    exact J147_17 _ _ X31 N31 e31 _ (by first | contradiction | simp only [anyV, eq_false hc87, true_or, or_true, false_or, or_false, or_self, true_and, and_true, false_and, and_false, and_self, not_true_eq_false, not_false_eq_true, if_true, if_false])
set_option maxRecDepth 65536 in
set_option maxHeartbeats 40000000 in
theorem comes_1 {Post : Tables → Env → Array Value → State → Outcome → State → Prop} (hpost : ∀ tb e args s v u, (limb_1_1.after args s (.returned v) u = true ∧ limb_1_2.after args s (.returned v) u = true ∧ True) → FrameEnd s (.returned v) u (Jvm.fieldLocs frame_1_writes args s ++ Jvm.arrayLocs frame_1_arrays args s ++ Jvm.staticLocs frame_1_statics s) 16 128 → Post tb e args s (.returned v) u) :
    ArmFor flags0 classFile x code maxLocals ret World_1 tables_1 room_1 Calls_1 rest_1 Pre_1 Post := by
  intro l hfl _ _ p e ha hc hk s m args below hf hA hF happ hP
  obtain ⟨hcalls, hrest, hpre⟩ := hP
  obtain ⟨-, -, -, hnamed, -, -, -, hat⟩ := (Spec.applies_iff hf).mp happ
  obtain ⟨hg, hn⟩ := and_e (Cond.before_iff.mp (show (Jvm.Cond.and given_1 narrow_1).before args s = true from hpre))
  obtain ⟨h1, h2⟩ := and_e hg
  obtain ⟨w0, w1, w2, w3, w4, w5, rfl⟩ : ∃ w0 w1 w2 w3 w4 w5 : Value, args = #[w0, w1, w2, w3, w4, w5] := by
    have hs : args.size = 6 := by simpa [Cond.value, given_1] using h1
    obtain ⟨L⟩ := args
    match L, hs with
    | [w0, w1, w2, w3, w4, w5], _ => exact ⟨w0, w1, w2, w3, w4, w5, rfl⟩
  have hw := fun d (hd : d ∈ tables_1) => atoms_spec (ws := Jvm.Cond.code x code maxLocals ret :: tables_1) hat d (List.mem_cons_of_mem _ hd)
  have hfit : Fit s := fun {y c} hc i hi => by
    obtain ⟨ha, rfl⟩ := Array.getElem?_eq_some_iff.mp hc
    have q := List.all_eq_true.mp ((Array.all_eq_true_iff_forall_mem.mp hF) _ (Array.getElem_mem ha)) i (List.mem_range.mpr hi)
    simpa [Array.getElem?_eq_getElem hi] using q
  obtain ⟨c0, r0⟩ := and_e h2
  obtain ⟨i0, q0⟩ := is_v c0
  obtain rfl : w0 = (.int i0) := Option.some.inj q0
  obtain ⟨c1, r1⟩ := and_e r0
  obtain ⟨i1, q1⟩ := is_v c1
  obtain rfl : w1 = (.int i1) := Option.some.inj q1
  obtain ⟨c2, r2⟩ := and_e r1
  obtain ⟨i2, q2⟩ := is_v c2
  obtain rfl : w2 = (.int i2) := Option.some.inj q2
  obtain ⟨c3, r3⟩ := and_e r2
  obtain ⟨i3, q3⟩ := is_v c3
  obtain rfl : w3 = (.int i3) := Option.some.inj q3
  obtain ⟨c4, r4⟩ := and_e r3
  obtain ⟨i4, q4⟩ := is_v c4
  obtain rfl : w4 = (.int i4) := Option.some.inj q4
  obtain ⟨i5, q5⟩ := is_v r4
  obtain rfl : w5 = (.int i5) := Option.some.inj q5
  obtain ⟨n, o, h1, h2, h3, _, L, rfl, ⟨rfl, N⟩, hq⟩ := rm0 l s _ hw tables_1 i0 i1 i2 i3 i4 i5  s.heap s.heap.size (Nat.le_refl _)  p e ha hc hk s m _ below hf ((Spec.applies_iff_loose hf).mp happ).1 ⟨rfl, State.Warmed39.refl s, rfl⟩ trivial
  refine ⟨n, _, h1, h2, h3, hpost _ _ _ _ _ _ ⟨Cond.after_iff.mpr rfl, Cond.after_iff.mpr (eq_i res_at (Term.int_eval (1)) rfl), trivial⟩ ⟨hq.1, hq.2.1, (hq.2.2.sift fun y hy => Or.inr (N y hy)).mono (by decide) (by decide)⟩⟩
theorem main_1_1 : Claimed_1_1 := comes_1 fun _ _ _ _ _ _ h hF => ⟨h.1, hF⟩
theorem main_1_2 : Claimed_1_2 := comes_1 fun _ _ _ _ _ _ h hF => ⟨h.2.1, hF⟩
end Jvm.Pilot.@@N@@
namespace Jvm.Pilot.@@N@@
open Jvm Jvm.ClassFile Sem Op Lib Jvm.Free Jvm.Stand Jvm.Pilot.@@N@@.Jvm.D
/-! MADE BY PROGRAM (witnessworld.py) out of the Statement's table words and the real class files: 9 classes; the members and pool entries that the words name. The judged class is class 1, her method 6. -/
namespace start1
open Jvm.ClassFile
def u (s : String) : CpInfo := .utf8 (stringToUtf16 s)
/-- a pool by its gaps: so many unusable entries, then the entry; so many at the end -/
def gap : Nat → List CpInfo → List CpInfo
  | 0, r => r
  | n + 1, r => .unusable :: gap n r
def poolList (es : List (Nat × CpInfo)) (last : Nat) : List CpInfo := es.foldr (fun e r => gap e.1 (e.2 :: r)) (gap last [])
def pool (es : List (Nat × CpInfo)) (last : Nat) : Array CpInfo := ⟨poolList es last⟩
def fileOf (pool : Array CpInfo) (this : Nat) (attrs : Array Attribute := #[]) (ms : Array MethodInfo := #[]) (fl : Nat := 33) (sup : Nat := 0) (ifs : Array Nat := #[]) (fds : Array FieldInfo := #[]) : ClassFile where
  minorVersion := 0
  majorVersion := 65
  constantPool := pool
  accessFlags := fl
  thisClass := this
  superClass := sup
  interfaces := ifs
  fields := fds
  methods := ms
  attributes := attrs
def plain (name : String) (sup : Option ClassId) : Class where
  name := name
  kind := .ordinary
  loader := none
  accessFlags := 33
  super := sup
  interfaces := #[]
  cf := none
  fields := #[]
  methods := #[]
  instanceTypes := #[]
  staticTypes := #[]
  resolved := #[]
  callSites := []
  init := .initialized
  statics := none
  mirror := none

def pool0 : Array CpInfo := pool [(5, u "<init>"), (0, u "()V"), (1, .class_ 10), (1, u "java/lang/Object")] 113

def k0m0 : Method := { name := "<init>", desc := "()V", sig := { parameters := [], returnType := none }, accessFlags := 1, code := none }
/-- java/lang/Object -/
def k0 : Class := { plain "java/lang/Object" none with
  accessFlags := 33
  interfaces := #[]
  cf := some (fileOf pool0 8 #[] #[{ accessFlags := 1, nameIndex := 5, descriptorIndex := 6, attributes := #[] }] 33 0 #[] #[])
  fields := #[]
  methods := #[k0m0]
  instanceTypes := #[]
  staticTypes := #[]
  resolved := Array.replicate 124 none
  statics := none }

def pool1 : Array CpInfo := pool [(2, .class_ 4), (1, u "java/lang/Object"), (0, u "<init>"), (0, u "()V"), (0, .methodref 8 9), (0, .class_ 10), (0, .nameAndType 11 12), (0, u "com/example/quotewire/quotewire/codec/FixFloatIsValidPinLaw"), (0, u "in"), (0, u "(III)Z"), (0, .methodref 8 14), (0, .nameAndType 15 16), (0, u "pick"), (0, u "(I)B"), (0, .methodref 8 18), (0, .nameAndType 19 20), (0, u "bad"), (0, u "([BIII)Z"), (0, .methodref 8 22), (0, .nameAndType 23 24), (0, u "digit"), (0, u "([BIII)I"), (0, .methodref 8 26), (0, .nameAndType 27 24), (0, u "point"), (0, .methodref 29 30), (0, .class_ 31), (0, .nameAndType 32 33), (0, u "com/example/quotewire/quotewire/codec/FixFloat"), (0, u "isValid"), (0, u "([BII)Z"), (3, u "law"), (0, u "(IIIIII)Z")] 4

def k1m0 : Method := { name := "<init>", desc := "()V", sig := { parameters := [], returnType := none }, accessFlags := 2, code := none }
def k1c1 : Code := { maxStack := 3, maxLocals := 2, code := method_2_code, exceptionTable := #[], attributes := #[] }
def k1m1 : Method := { name := "pick", desc := "(I)B", sig := { parameters := [.int], returnType := some .byte }, accessFlags := 10, code := some k1c1 }
def k1c2 : Code := { maxStack := 2, maxLocals := 3, code := method_3_code, exceptionTable := #[], attributes := #[] }
def k1m2 : Method := { name := "in", desc := "(III)Z", sig := { parameters := [.int, .int, .int], returnType := some .boolean }, accessFlags := 10, code := some k1c2 }
def k1c3 : Code := { maxStack := 3, maxLocals := 5, code := method_4_code, exceptionTable := #[], attributes := #[] }
def k1m3 : Method := { name := "bad", desc := "([BIII)Z", sig := { parameters := [(.array .byte), .int, .int, .int], returnType := some .boolean }, accessFlags := 10, code := some k1c3 }
def k1c4 : Code := { maxStack := 3, maxLocals := 4, code := method_5_code, exceptionTable := #[], attributes := #[] }
def k1m4 : Method := { name := "digit", desc := "([BIII)I", sig := { parameters := [(.array .byte), .int, .int, .int], returnType := some .int }, accessFlags := 10, code := some k1c4 }
def k1c5 : Code := { maxStack := 3, maxLocals := 4, code := method_6_code, exceptionTable := #[], attributes := #[] }
def k1m5 : Method := { name := "point", desc := "([BIII)I", sig := { parameters := [(.array .byte), .int, .int, .int], returnType := some .int }, accessFlags := 10, code := some k1c5 }
def k1c6 : Code := { maxStack := 5, maxLocals := 13, code := code, exceptionTable := #[], attributes := #[] }
def k1m6 : Method := { name := "law", desc := "(IIIIII)Z", sig := { parameters := [.int, .int, .int, .int, .int, .int], returnType := some .boolean }, accessFlags := 9, code := some k1c6 }
/-- com/example/quotewire/quotewire/codec/FixFloatIsValidPinLaw -/
def k1 : Class := { plain "com/example/quotewire/quotewire/codec/FixFloatIsValidPinLaw" (some 0) with
  accessFlags := 49
  interfaces := #[]
  cf := some (fileOf pool1 8 #[] #[{ accessFlags := 2, nameIndex := 5, descriptorIndex := 6, attributes := #[] }, { accessFlags := 10, nameIndex := 15, descriptorIndex := 16, attributes := #[] }, { accessFlags := 10, nameIndex := 11, descriptorIndex := 12, attributes := #[] }, { accessFlags := 10, nameIndex := 19, descriptorIndex := 20, attributes := #[] }, { accessFlags := 10, nameIndex := 23, descriptorIndex := 24, attributes := #[] }, { accessFlags := 10, nameIndex := 27, descriptorIndex := 24, attributes := #[] }, { accessFlags := 9, nameIndex := 37, descriptorIndex := 38, attributes := #[] }] 49 2 #[] #[])
  fields := #[]
  methods := #[k1m0, k1m1, k1m2, k1m3, k1m4, k1m5, k1m6]
  instanceTypes := #[]
  staticTypes := #[]
  resolved := Array.replicate 43 none
  statics := none }

def pool2 : Array CpInfo := pool [(2, .class_ 4), (1, u "java/lang/Object"), (0, u "<init>"), (0, u "()V"), (1, .class_ 10), (1, u "com/example/quotewire/quotewire/codec/FixFloat"), (41, u "isValid"), (0, u "([BII)Z")] 8

def k2m0 : Method := { name := "<init>", desc := "()V", sig := { parameters := [], returnType := none }, accessFlags := 2, code := none }
def k2c1 : Code := { maxStack := 2, maxLocals := 7, code := prog_18_method_2_code, exceptionTable := #[], attributes := #[] }
def k2m1 : Method := { name := "isValid", desc := "([BII)Z", sig := { parameters := [(.array .byte), .int, .int], returnType := some .boolean }, accessFlags := 9, code := some k2c1 }
/-- com/example/quotewire/quotewire/codec/FixFloat -/
def k2 : Class := { plain "com/example/quotewire/quotewire/codec/FixFloat" (some 0) with
  accessFlags := 49
  interfaces := #[]
  cf := some (fileOf pool2 8 #[] #[{ accessFlags := 2, nameIndex := 5, descriptorIndex := 6, attributes := #[] }, { accessFlags := 9, nameIndex := 52, descriptorIndex := 53, attributes := #[] }] 49 2 #[] #[])
  fields := #[]
  methods := #[k2m0, k2m1]
  instanceTypes := #[]
  staticTypes := #[]
  resolved := Array.replicate 62 none
  statics := none }

def pool3 : Array CpInfo := pool [(1, u "java/lang/Cloneable"), (0, .class_ 1), (0, u "java/lang/Object"), (0, .class_ 3)] 3

/-- java/lang/Cloneable -/
def k3 : Class := { plain "java/lang/Cloneable" (some 0) with
  accessFlags := 1537
  interfaces := #[]
  cf := some (fileOf pool3 2 #[] #[] 1537 4 #[] #[])
  fields := #[]
  methods := #[]
  instanceTypes := #[]
  staticTypes := #[]
  resolved := Array.replicate 8 none
  statics := none }

def pool4 : Array CpInfo := pool [(1, u "java/io/Serializable"), (0, .class_ 1), (0, u "java/lang/Object"), (0, .class_ 3)] 3

/-- java/io/Serializable -/
def k4 : Class := { plain "java/io/Serializable" (some 0) with
  accessFlags := 1537
  interfaces := #[]
  cf := some (fileOf pool4 2 #[] #[] 1537 4 #[] #[])
  fields := #[]
  methods := #[]
  instanceTypes := #[]
  staticTypes := #[]
  resolved := Array.replicate 8 none
  statics := none }

/-- the primitive byte -/
def k5 : Class := { plain "byte" none with kind := .primitive 'B', accessFlags := 0x411 }
/-- [B -/
def k6 : Class := { plain "[B" (some 0) with kind := .array 5 .byte, interfaces := #[3, 4], accessFlags := 1041 }

/-- the primitive int -/
def k7 : Class := { plain "int" none with kind := .primitive 'I', accessFlags := 0x411 }
/-- [I -/
def k8 : Class := { plain "[I" (some 0) with kind := .array 7 .int, interfaces := #[3, 4], accessFlags := 1041 }

def heap : Heap := #[]
def classes : Array Class := #[k0, k1, k2, k3, k4, k5, k6, k7, k8]
def interned : List (Array UInt16 × Addr) := []
def slotsUsed : Nat := 0
def theMethod : MethodId := ⟨1, 6⟩
def args0 : Array Value := #[.int 5, .int 6, .int 7, .int 3, .int 3, .int 3]
def aboutOver (below : List Frame) : State where
  vm := { classes := classes, interned := interned.toArray }
  heap := heap
  slotsUsed := slotsUsed
  threads := #[{ frames := .invoking theMethod args0 :: below }]
def below0 : List Frame := [.native { method := ⟨0, 0⟩, args := #[] }]
def about1 : State := aboutOver below0
def p0 : Program := .bare "" "" ""
def e0 : Env := launch0.env 0 0 0
theorem w_frames : about1.frames = Frame.invoking theMethod args0 :: below0 := rfl
set_option maxRecDepth 65536 in
theorem w_args : argsFit about1.vm theMethod args0 = true := by decide +kernel
set_option maxRecDepth 65536 in
theorem w_heap : heapFits about1 = true := by decide +kernel
set_option maxRecDepth 65536 in
theorem w_runnable : about1.curStatus? = some .runnable := by decide +kernel
set_option maxRecDepth 65536 in
theorem w_alone : about1.alone = true := by decide +kernel
set_option maxRecDepth 65536 in
theorem w_named : about1.methodNamed? x = some theMethod := by decide +kernel
set_option maxRecDepth 65536 in
theorem w_hears : about1.hears theMethod below0 = true := by decide +kernel
set_option maxRecDepth 65536 in
theorem w_ripe : about1.ripe theMethod args0 below0 = true := by decide +kernel
theorem w_running : about1.status = .running := rfl
set_option maxRecDepth 65536 in
theorem w_room : about1.hasRoom e0.platform room_1 = true :=
  launch0.hasRoom_least _ room_1 (by decide +kernel) (by decide +kernel) (by decide +kernel) (by decide +kernel) (by decide +kernel) (by decide +kernel)
theorem allAtoms_all (ts : List Jvm.Cond) (a : Array Jvm.Value) (st : Jvm.State) : (allAtoms ts).before a st = ts.all (fun c => c.before a st) := by
  induction ts with
  | nil => rfl
  | cons c t ih =>
    show (Jvm.Cond.and c (allAtoms t)).before a st = _
    rw [Jvm.Cond.before_and, ih, List.all_cons]
def words1 : List Jvm.Cond := Jvm.Cond.code x code maxLocals ret :: tables_1
/-- a 'code' word, met by the world's own term for the bytes: nothing is compared byte by byte -/
theorem code_word {y : MethodName} {bytes : ByteArray} {mx : Nat} {rt : Option FieldType} {a : Array Value} {s : State} {m : MethodId} {meth : Method} {c : Code} (h1 : s.methodNamed? y = some m) (h2 : s.vm.method? m = some meth) (h3 : meth.code = some c) (h4 : c.code = bytes)
    (h5 : (c.maxLocals == mx && c.exceptionTable.isEmpty && decide (c.maxStack ≤ mostOperands) && decide (meth.sig.returnType = rt) && !meth.locks && decide (parseMethodDescriptor y.desc = some meth.sig)) = true) : (Jvm.Cond.code y bytes mx rt).before a s = true := by
  simp only [Bool.and_eq_true, beq_iff_eq, Bool.not_eq_true', decide_eq_true_eq] at h5
  obtain ⟨⟨⟨⟨⟨g1, g2⟩, g3⟩, g4⟩, g5⟩, g6⟩ := h5
  simp [Cond.before, Cond.holds, Cond.value, h1, h2, h3, h4, g1, g2, g3, g4, g5, g6]
def isCode : Jvm.Cond → Bool
  | .code _ _ _ _ => true
  | _ => false
theorem all_split {L : List Jvm.Cond} {P : Jvm.Cond → Bool} (h1 : L.all (fun c => isCode c || P c) = true) (h2 : ∀ c ∈ L.filter isCode, P c = true) : L.all P = true := by
  refine List.all_eq_true.mpr fun c hc => ?_
  have h := List.all_eq_true.mp h1 c hc
  rcases Bool.eq_false_or_eq_true (isCode c) with hi | hi
  · exact h2 c (List.mem_filter.mpr ⟨hc, hi⟩)
  · simpa [hi] using h
set_option maxRecDepth 65536 in
theorem w_c0 : (Jvm.Cond.code x code maxLocals ret).before args0 about1 = true := code_word (m := ⟨1, 6⟩) (meth := k1m6) (c := k1c6) (by decide +kernel) rfl rfl rfl (by decide +kernel)
set_option maxRecDepth 65536 in
theorem w_c1 : (Jvm.Cond.code ({ cls := "com/example/quotewire/quotewire/codec/FixFloatIsValidPinLaw", name := "pick", desc := "(I)B" } : Jvm.MethodName) method_2_code (2 : Nat) (Option.some Jvm.ClassFile.FieldType.byte)).before args0 about1 = true := code_word (m := ⟨1, 1⟩) (meth := k1m1) (c := k1c1) (by decide +kernel) rfl rfl rfl (by decide +kernel)
set_option maxRecDepth 65536 in
theorem w_c2 : (Jvm.Cond.code ({ cls := "com/example/quotewire/quotewire/codec/FixFloatIsValidPinLaw", name := "bad", desc := "([BIII)Z" } : Jvm.MethodName) method_4_code (5 : Nat) (Option.some Jvm.ClassFile.FieldType.boolean)).before args0 about1 = true := code_word (m := ⟨1, 3⟩) (meth := k1m3) (c := k1c3) (by decide +kernel) rfl rfl rfl (by decide +kernel)
set_option maxRecDepth 65536 in
theorem w_c3 : (Jvm.Cond.code ({ cls := "com/example/quotewire/quotewire/codec/FixFloatIsValidPinLaw", name := "in", desc := "(III)Z" } : Jvm.MethodName) method_3_code (3 : Nat) (Option.some Jvm.ClassFile.FieldType.boolean)).before args0 about1 = true := code_word (m := ⟨1, 2⟩) (meth := k1m2) (c := k1c2) (by decide +kernel) rfl rfl rfl (by decide +kernel)
set_option maxRecDepth 65536 in
theorem w_c4 : (Jvm.Cond.code ({ cls := "com/example/quotewire/quotewire/codec/FixFloatIsValidPinLaw", name := "digit", desc := "([BIII)I" } : Jvm.MethodName) method_5_code (4 : Nat) (Option.some Jvm.ClassFile.FieldType.int)).before args0 about1 = true := code_word (m := ⟨1, 4⟩) (meth := k1m4) (c := k1c4) (by decide +kernel) rfl rfl rfl (by decide +kernel)
set_option maxRecDepth 65536 in
theorem w_c5 : (Jvm.Cond.code ({ cls := "com/example/quotewire/quotewire/codec/FixFloatIsValidPinLaw", name := "point", desc := "([BIII)I" } : Jvm.MethodName) method_6_code (4 : Nat) (Option.some Jvm.ClassFile.FieldType.int)).before args0 about1 = true := code_word (m := ⟨1, 5⟩) (meth := k1m5) (c := k1c5) (by decide +kernel) rfl rfl rfl (by decide +kernel)
set_option maxRecDepth 65536 in
theorem w_c6 : (Jvm.Cond.code ({ cls := "com/example/quotewire/quotewire/codec/FixFloat", name := "isValid", desc := "([BII)Z" } : Jvm.MethodName) prog_18_method_2_code (7 : Nat) (Option.some Jvm.ClassFile.FieldType.boolean)).before args0 about1 = true := code_word (m := ⟨2, 1⟩) (meth := k2m1) (c := k2c1) (by decide +kernel) rfl rfl rfl (by decide +kernel)
def codes1 : List Jvm.Cond := [Jvm.Cond.code x code maxLocals ret, Jvm.Cond.code ({ cls := "com/example/quotewire/quotewire/codec/FixFloatIsValidPinLaw", name := "pick", desc := "(I)B" } : Jvm.MethodName) method_2_code (2 : Nat) (Option.some Jvm.ClassFile.FieldType.byte), Jvm.Cond.code ({ cls := "com/example/quotewire/quotewire/codec/FixFloatIsValidPinLaw", name := "bad", desc := "([BIII)Z" } : Jvm.MethodName) method_4_code (5 : Nat) (Option.some Jvm.ClassFile.FieldType.boolean), Jvm.Cond.code ({ cls := "com/example/quotewire/quotewire/codec/FixFloatIsValidPinLaw", name := "in", desc := "(III)Z" } : Jvm.MethodName) method_3_code (3 : Nat) (Option.some Jvm.ClassFile.FieldType.boolean), Jvm.Cond.code ({ cls := "com/example/quotewire/quotewire/codec/FixFloatIsValidPinLaw", name := "digit", desc := "([BIII)I" } : Jvm.MethodName) method_5_code (4 : Nat) (Option.some Jvm.ClassFile.FieldType.int), Jvm.Cond.code ({ cls := "com/example/quotewire/quotewire/codec/FixFloatIsValidPinLaw", name := "point", desc := "([BIII)I" } : Jvm.MethodName) method_6_code (4 : Nat) (Option.some Jvm.ClassFile.FieldType.int), Jvm.Cond.code ({ cls := "com/example/quotewire/quotewire/codec/FixFloat", name := "isValid", desc := "([BII)Z" } : Jvm.MethodName) prog_18_method_2_code (7 : Nat) (Option.some Jvm.ClassFile.FieldType.boolean)]
set_option maxRecDepth 65536 in
theorem codes_eq : words1.filter isCode = codes1 := rfl
theorem w_codes : ∀ c ∈ words1.filter isCode, c.before args0 about1 = true := by
  rw [codes_eq]
  intro c hc
  simp only [codes1, List.mem_cons, List.not_mem_nil, or_false] at hc
  rcases hc with rfl | rfl | rfl | rfl | rfl | rfl | rfl
  · exact w_c0
  · exact w_c1
  · exact w_c2
  · exact w_c3
  · exact w_c4
  · exact w_c5
  · exact w_c6
set_option maxRecDepth 65536 in
theorem w_t1 : words1.all (fun c => isCode c || c.before args0 about1) = true := by decide +kernel
theorem w_tables : (allAtoms (Jvm.Cond.code x code maxLocals ret :: tables_1)).before args0 about1 = true := by
  rw [allAtoms_all]
  show words1.all (fun c => c.before args0 about1) = true
  refine all_split ?_ w_codes
  rw [w_t1]
set_option maxRecDepth 65536 in
theorem w_case : (Jvm.Cond.and given_1 narrow_1).before args0 about1 = true := by decide +kernel
theorem w_applies : (headSpec (Jvm.Cond.code x code maxLocals ret :: tables_1) room_1).applies x e0.platform about1 = true :=
  (Spec.applies_iff w_frames).mpr ⟨w_running, w_runnable, w_alone, w_named, w_hears, w_ripe, w_room, w_tables⟩
theorem atStart : AtStart classFile x code maxLocals ret World_1 tables_1 room_1 Calls_1 rest_1 Pre_1 launch0 p0 e0 about1 theMethod args0 below0 :=
  ⟨lists_1, trivial, launch0.admits_env _ _ _, launch0.least_env, fairChoices_fair.cas, fairChoices_fair.clock, w_frames, w_args, w_heap, w_applies, trivial, trivial, w_case⟩
end start1
theorem witness_1 : WitnessClaimed_1 := ⟨start1.p0, start1.e0, start1.about1, start1.theMethod, start1.args0, start1.below0, start1.atStart⟩
end Jvm.Pilot.@@N@@
