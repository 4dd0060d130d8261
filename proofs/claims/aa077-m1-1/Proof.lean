import JvmDerived
import JvmDerived.Pilot.@@N@@Statement
import JvmDerived.Pilot.@@N@@Code
set_option linter.unusedVariables false
set_option linter.unusedSimpArgs false
namespace Jvm.Pilot.@@N@@
open Jvm Jvm.ClassFile Sem Op Lib Jvm.Free Jvm.Stand Jvm.LawKit Jvm.RoadKit Bundle Jvm.Pilot.@@N@@.Jvm.D
section Own
variable {p : Program} {l : Launch} {e : Env} {R : Room} {s : State} {m : MethodId} {args : Array Value} {below : List Frame} {meth : Method} {c : Code} {T : State} {locs : List Loc} {cells slots : Nat}
/-- from the state A on the run comes to a return of the body that s was about to invoke, with Q of the value, the heap and the places written -/
def Go (En : State → Outcome → State → List Loc → Nat → Nat → Prop) (p : Program) (e : Env) (below : List Frame) (s : State) (C S : Nat) (Q : Option Value → Heap → List Loc → Prop) (A : State) : Prop :=
  ∃ s₂ o, Steps p.tables e below A s₂ ∧ s₂.status = .running ∧ Ended s₂ below o ∧ ∃ v L, o = .returned v ∧ Q v s₂.heap L ∧ En s o s₂ L C S
variable {En : State → Outcome → State → List Loc → Nat → Nat → Prop} {C S : Nat} {Q : Option Value → Heap → List Loc → Prop} {A B : State} {h : Heap}
theorem Go.step (h : ∀ t, Steps p.tables e below B t → Steps p.tables e below A t) (g : Go En p e below s C S Q B) : Go En p e below s C S Q A := by
  obtain ⟨s₂, o, h1, r⟩ := g
  exact ⟨s₂, o, h _ h1, r⟩
theorem Go.hop (h : Steps p.tables e below A B) (g : Go En p e below s C S Q B) : Go En p e below s C S Q A := Go.step (fun _ k => h.trans k) g
theorem Go.out (X : Stand p l e R s m args below meth c T locs cells slots) {v : Option Value} (hv : meth.sig.returnType = none → v = none) (hl : meth.locks = false) (eT : T.heap = h) (hc : cells ≤ C) (hs : slots ≤ S) (q : Q v h locs)
    (st : ∀ fs, (∀ (f : JFrame) (acts : List Action), f.method = m → f.locked = none → f.entered = [] → (doReturn e (T.setTop f) acts v).1 = T.setFrames fs) → Steps p.tables e below A (T.setFrames fs)) : Go FrameEnd p e below s C S Q A := by
  obtain ⟨fs, hr, hrun, hended, hW, hsame⟩ := X.leave (v := v) hv hl
  refine ⟨_, _, st fs hr, hrun, hended, _, _, rfl, ?_, ⟨_, rfl⟩, hW, hsame.mono hc hs⟩
  show Q v T.heap locs
  rw [eT]
  exact q
theorem Go.retN (X : Stand p l e R s m args below meth c T locs cells slots) (hx : p.tables.exec = Jvm.exec) {pc : Nat} {Ls : Array Slot} {z : Int32} {t : FieldType} {rest : List Value} (hret : meth.sig.returnType = some t) (ht : t = .boolean ∨ t = .byte ∨ t = .char ∨ t = .short)
    (hz : nar t z = z) (hd : decode c.code pc = .ok (.ireturn, 1)) (hl : meth.locks = false) (eT : T.heap = h) (hc : cells ≤ C) (hs : slots ≤ S) (q : Q (some (.int z)) h locs) : Go FrameEnd p e below s C S Q (T.setTop (mkF m pc Ls (.int z :: rest))) :=
  Go.out X (v := some (.int z)) (fun k => by rw [hret] at k; cases k) hl eT hc hs q fun fs hr => Jvm.RoadKit.retN X hx (t := t) hret ht hd (by rw [hz]; exact hr)
theorem Go.retI (X : Stand p l e R s m args below meth c T locs cells slots) (hx : p.tables.exec = Jvm.exec) {pc : Nat} {Ls : Array Slot} {z : Int32} {rest : List Value} (hret : meth.sig.returnType = some .int)
    (hd : decode c.code pc = .ok (.ireturn, 1)) (hl : meth.locks = false) (eT : T.heap = h) (hc : cells ≤ C) (hs : slots ≤ S) (q : Q (some (.int z)) h locs) : Go FrameEnd p e below s C S Q (T.setTop (mkF m pc Ls (.int z :: rest))) :=
  Go.out X (v := some (.int z)) (fun k => by rw [hret] at k; cases k) hl eT hc hs q fun fs hr => retOut X hx hret rfl (Or.inl ⟨rfl, Or.inl rfl, z, rfl⟩) hd hr
theorem Go.retJ (X : Stand p l e R s m args below meth c T locs cells slots) (hx : p.tables.exec = Jvm.exec) {pc : Nat} {Ls : Array Slot} {z : Int64} {rest : List Value} (hret : meth.sig.returnType = some .long)
    (hd : decode c.code pc = .ok (.lreturn, 1)) (hl : meth.locks = false) (eT : T.heap = h) (hc : cells ≤ C) (hs : slots ≤ S) (q : Q (some (.long z)) h locs) : Go FrameEnd p e below s C S Q (T.setTop (mkF m pc Ls (.long z :: rest))) :=
  Go.out X (v := some (.long z)) (fun k => by rw [hret] at k; cases k) hl eT hc hs q fun fs hr => retOut X hx hret rfl (Or.inr (Or.inl ⟨rfl, rfl, z, rfl⟩)) hd hr
theorem own_narR {t : FieldType} {v : Value} (hv : v.isRef = true) : narrow t v = v := by cases v <;> first | (cases hv; done) | (cases t <;> rfl)
theorem Go.retR (X : Stand p l e R s m args below meth c T locs cells slots) (hx : p.tables.exec = Jvm.exec) {pc : Nat} {Ls : Array Slot} {v : Value} {t : FieldType} {rest : List Value} (hret : meth.sig.returnType = some t) (ht : t.isReference = true) (hv : v.isRef = true)
    (hd : decode c.code pc = .ok (.areturn, 1)) (hl : meth.locks = false) (eT : T.heap = h) (hc : cells ≤ C) (hs : slots ≤ S) (q : Q (some v) h locs) : Go FrameEnd p e below s C S Q (T.setTop (mkF m pc Ls (v :: rest))) :=
  Go.out X (v := some v) (fun k => by rw [hret] at k; cases k) hl eT hc hs q fun fs hr => retOut X hx hret (own_narR hv) (Or.inr (Or.inr (Or.inr (Or.inr ⟨rfl, ht, hv⟩)))) hd hr
theorem Go.ret0 (X : Stand p l e R s m args below meth c T locs cells slots) (hx : p.tables.exec = Jvm.exec) {pc : Nat} {Ls : Array Slot} (hret : meth.sig.returnType = none)
    (hd : decode c.code pc = .ok (.return_, 1)) (hl : meth.locks = false) (eT : T.heap = h) (hc : cells ≤ C) (hs : slots ≤ S) (q : Q none h locs) : Go FrameEnd p e below s C S Q (T.setTop (mkF m pc Ls [])) :=
  Go.out X (v := none) (fun _ => rfl) hl eT hc hs q fun fs hr => X.returnOut hx hret hd hr
theorem Go.outW {vm0 : Vm} {k0 : Nat} (X : Stand p l e R (s.setVm vm0) m args below meth c T locs cells slots) (hS : s.Since vm0 k0) (hk : k0 ≤ h.size) {v : Option Value} (hv : meth.sig.returnType = none → v = none) (hl : meth.locks = false) (eT : T.heap = h) (hc : cells ≤ C) (hs : slots ≤ S) (q : Q v h locs)
    (st : ∀ fs, (∀ (f : JFrame) (acts : List Action), f.method = m → f.locked = none → f.entered = [] → (doReturn e (T.setTop f) acts v).1 = T.setFrames fs) → Steps p.tables e below A (T.setFrames fs)) : Go ReturnedEndW p e below s C S Q A := by
  obtain ⟨fs, hr, hrun, hended, hq1, hq2, hq3, hq4⟩ := X.leaveW hS (by rw [eT]; exact hk) (v := v) hv hl
  refine ⟨_, _, st fs hr, hrun, hended, _, _, rfl, ?_, hq1, hq2, hq3, hq4.mono hc hs⟩
  show Q v T.heap locs
  rw [eT]
  exact q
theorem Go.retNW {vm0 : Vm} {k0 : Nat} (X : Stand p l e R (s.setVm vm0) m args below meth c T locs cells slots) (hS : s.Since vm0 k0) (hk : k0 ≤ h.size) (hx : p.tables.exec = Jvm.exec) {pc : Nat} {Ls : Array Slot} {z : Int32} {t : FieldType} {rest : List Value} (hret : meth.sig.returnType = some t) (ht : t = .boolean ∨ t = .byte ∨ t = .char ∨ t = .short)
    (hz : nar t z = z) (hd : decode c.code pc = .ok (.ireturn, 1)) (hl : meth.locks = false) (eT : T.heap = h) (hc : cells ≤ C) (hs : slots ≤ S) (q : Q (some (.int z)) h locs) : Go ReturnedEndW p e below s C S Q (T.setTop (mkF m pc Ls (.int z :: rest))) :=
  Go.outW X hS hk (v := some (.int z)) (fun k => by rw [hret] at k; cases k) hl eT hc hs q fun fs hr => Jvm.RoadKit.retN X hx (t := t) hret ht hd (by rw [hz]; exact hr)
theorem Go.retIW {vm0 : Vm} {k0 : Nat} (X : Stand p l e R (s.setVm vm0) m args below meth c T locs cells slots) (hS : s.Since vm0 k0) (hk : k0 ≤ h.size) (hx : p.tables.exec = Jvm.exec) {pc : Nat} {Ls : Array Slot} {z : Int32} {rest : List Value} (hret : meth.sig.returnType = some .int)
    (hd : decode c.code pc = .ok (.ireturn, 1)) (hl : meth.locks = false) (eT : T.heap = h) (hc : cells ≤ C) (hs : slots ≤ S) (q : Q (some (.int z)) h locs) : Go ReturnedEndW p e below s C S Q (T.setTop (mkF m pc Ls (.int z :: rest))) :=
  Go.outW X hS hk (v := some (.int z)) (fun k => by rw [hret] at k; cases k) hl eT hc hs q fun fs hr => retOut X hx hret rfl (Or.inl ⟨rfl, Or.inl rfl, z, rfl⟩) hd hr
theorem Go.retJW {vm0 : Vm} {k0 : Nat} (X : Stand p l e R (s.setVm vm0) m args below meth c T locs cells slots) (hS : s.Since vm0 k0) (hk : k0 ≤ h.size) (hx : p.tables.exec = Jvm.exec) {pc : Nat} {Ls : Array Slot} {z : Int64} {rest : List Value} (hret : meth.sig.returnType = some .long)
    (hd : decode c.code pc = .ok (.lreturn, 1)) (hl : meth.locks = false) (eT : T.heap = h) (hc : cells ≤ C) (hs : slots ≤ S) (q : Q (some (.long z)) h locs) : Go ReturnedEndW p e below s C S Q (T.setTop (mkF m pc Ls (.long z :: rest))) :=
  Go.outW X hS hk (v := some (.long z)) (fun k => by rw [hret] at k; cases k) hl eT hc hs q fun fs hr => retOut X hx hret rfl (Or.inr (Or.inl ⟨rfl, rfl, z, rfl⟩)) hd hr
theorem Go.retRW {vm0 : Vm} {k0 : Nat} (X : Stand p l e R (s.setVm vm0) m args below meth c T locs cells slots) (hS : s.Since vm0 k0) (hk : k0 ≤ h.size) (hx : p.tables.exec = Jvm.exec) {pc : Nat} {Ls : Array Slot} {v : Value} {t : FieldType} {rest : List Value} (hret : meth.sig.returnType = some t) (ht : t.isReference = true) (hv : v.isRef = true)
    (hd : decode c.code pc = .ok (.areturn, 1)) (hl : meth.locks = false) (eT : T.heap = h) (hc : cells ≤ C) (hs : slots ≤ S) (q : Q (some v) h locs) : Go ReturnedEndW p e below s C S Q (T.setTop (mkF m pc Ls (v :: rest))) :=
  Go.outW X hS hk (v := some v) (fun k => by rw [hret] at k; cases k) hl eT hc hs q fun fs hr => retOut X hx hret (own_narR hv) (Or.inr (Or.inr (Or.inr (Or.inr ⟨rfl, ht, hv⟩)))) hd hr
theorem Go.ret0W {vm0 : Vm} {k0 : Nat} (X : Stand p l e R (s.setVm vm0) m args below meth c T locs cells slots) (hS : s.Since vm0 k0) (hk : k0 ≤ h.size) (hx : p.tables.exec = Jvm.exec) {pc : Nat} {Ls : Array Slot} (hret : meth.sig.returnType = none)
    (hd : decode c.code pc = .ok (.return_, 1)) (hl : meth.locks = false) (eT : T.heap = h) (hc : cells ≤ C) (hs : slots ≤ S) (q : Q none h locs) : Go ReturnedEndW p e below s C S Q (T.setTop (mkF m pc Ls [])) :=
  Go.outW X hS hk (v := none) (fun _ => rfl) hl eT hc hs q fun fs hr => X.returnOut hx hret hd hr
theorem own_lrem {g : JFrame} {target : State} (X : Stand p l e R s m args below meth c T locs cells slots) (hx : p.tables.exec = Jvm.exec) (hg : g.method = m) {x y : Int64} {rest : List Value} (hd : decode c.code g.pc = .ok (.lrem, 1)) (hs : g.stack = .long y :: .long x :: rest) (hy : y ≠ 0)
    (hr : Steps p.tables e below (T.setTop { g with pc := g.pc + 1, stack := .long (x % y) :: rest }) target) : Steps p.tables e below (T.setTop g) target := by
  have q : x - x / y * y = x % y := lrem_mod x y
  exact XS.lrem X.here hx hg hd hs hy (by rw [q]; exact hr)
theorem own_fitR {t : FieldType} {v : Value} (ht : t.isReference = true) (hv : v.isRef = true) : fits t v = true := by cases v <;> first | (cases hv; done) | (cases t <;> first | rfl | cases ht)
variable {Z : State} {h' : Heap} {a b : Addr} {ty : FieldType} {n i sl : Nat} {f : Nat → Value} {v w : Value} {cl : Cell} {j z : Int32} {k : ClassId} {ws : List Addr}
/-- the array at a has n places; place j holds f j -/
def Av (Z : State) (h : Heap) (a : Addr) (ty : FieldType) (n : Nat) (f : Nat → Value) : Prop := ∃ c : Cell, Arr Z h a c ty ∧ c.slots.size = n ∧ n < 2147483648 ∧ ∀ j, j < n → c.slots[j]? = some (f j)
def aset (f : Nat → Value) (i : Nat) (v : Value) : Nat → Value := fun j => if j = i then v else f j
theorem Av.lt (F : Av Z h a ty n f) : a < h.size := by obtain ⟨c, A, -⟩ := F; exact A.lt
theorem Av.ext (F : Av Z h a ty n f) (E : Ext h h') : Av Z h' a ty n f := by obtain ⟨c, A, r⟩ := F; exact ⟨c, A.ext E, r⟩
theorem Av.other (F : Av Z h b ty n f) (W : Wr h h' a sl v) (q : b ≠ a) : Av Z h' b ty n f := by obtain ⟨c, A, r⟩ := F; exact ⟨c, A.other W q, r⟩
theorem Av.keep (F : Av Z h a ty n f) (K : Keep h h' ws) (q : a ∉ ws) : Av Z h' a ty n f := by obtain ⟨c, A, r⟩ := F; exact ⟨c, ⟨K.2.1 a c A.1 q, A.2⟩, r⟩
theorem Av.eq (F : Av Z h a ty n f) {g : Nat → Value} (q : ∀ j, j < n → f j = g j) : Av Z h a ty n g := by obtain ⟨c, A, r1, r2, r3⟩ := F; exact ⟨c, A, r1, r2, fun j hj => by rw [← q j hj]; exact r3 j hj⟩
theorem own_clamp (q : ¬ z < 0) : z.toNatClampNeg < 2147483648 := (back32 q).2
theorem Av.new (A : Arr Z h a (newA k ty z) ty) (q : ¬ z < 0) (e : z.toNatClampNeg = n) : Av Z h a ty n (fun _ => defaultValue ty) := by
  refine ⟨_, A, by rw [sz_new, e], by rw [← e]; exact own_clamp q, fun j hj => ?_⟩
  have q2 : (newA k ty z).slots = Array.replicate z.toNatClampNeg (defaultValue ty) := rfl
  rw [q2, Array.getElem?_replicate, e, if_pos hj]
theorem own_in {c : Cell} (S : c.slots.size = n) (h0 : ¬ j < 0) (h : j.toNatClampNeg < n) : ¬ (j < 0 ∨ c.slots.size ≤ j.toNatClampNeg) := by
  rw [S]; exact fun q => q.elim h0 (Nat.not_le.mpr h)
theorem Av.at {c : Cell} (G : ∀ j, j < n → c.slots[j]? = some (f j)) (e : j.toNatClampNeg = i) (hi : i < n) (w : f i = v) : c.slots[j.toNatClampNeg]? = some v := by rw [e, G i hi, w]
theorem own_slots (c : Cell) (i : Nat) (v : Value) : (c.setSlot i v).slots = c.slots.setIfInBounds i v := rfl
theorem Av.set {c : Cell} (A : Arr Z h a c ty) (S : c.slots.size = n) (M : n < 2147483648) (G : ∀ j, j < n → c.slots[j]? = some (f j)) (W : Wr h h' a j.toNatClampNeg v) (e : j.toNatClampNeg = i) (hin : ¬ (j < 0 ∨ c.slots.size ≤ j.toNatClampNeg)) : Av Z h' a ty n (aset f i v) := by
  have hi : i < c.slots.size := by rw [← e]; exact Nat.lt_of_not_le fun q => hin (Or.inr q)
  refine ⟨_, A.same W, by rw [sz_set]; exact S, M, fun q hq => ?_⟩
  rw [own_slots, e, Array.getElem?_setIfInBounds]
  by_cases r : i = q
  · subst r
    rw [if_pos rfl, if_pos hi]; simp [aset]
  · rw [if_neg r, G q hq]
    show some (f q) = some (if q = i then v else f q)
    rw [if_neg (Ne.symm r)]
theorem own_int_v {aa : Array Value} {t : Term} {k : Int32} (he : (Cond.eq t (.int k)).value aa Z none Z [] = some true) : t.eval aa Z none [] Z = some (.int k) := by
  have hk : (Term.int k).eval aa Z none [] Z = some (.int k) := Term.int_eval k
  cases ht : t.eval aa Z none [] Z with
  | none => simp [Cond.value, ht] at he
  | some x => cases x <;> simp_all [Cond.value]
theorem own_enum {aa : Array Value} {t : Term} {C D n d : String} {k : Int32} (hx : (Cond.exactly t C).value aa Z none Z [] = some true) (he : (Cond.eq (.field t D n d) (.int k)).value aa Z none Z [] = some true) :
    ∃ x : Addr, t.eval aa Z none [] Z = some (.ref x) ∧ Exa Z Z.heap x C ∧ Fld Z Z.heap x D n d (.int k) := by
  obtain ⟨x, hv⟩ := exa_v hx
  exact ⟨x, hv, Exa.start hv hx, Fld.start (by rw [← fld_at hv]; exact own_int_v he)⟩
theorem own_self {y z : MethodName} (hz : (Cond.selects z.cls z z).before args s = true) (e : z.cls = y.cls) (hp : s.PrivateAt y) (hi : (Cond.instanceMethod y).before args s = true) (hy : y.cls ≠ "java/lang/invoke/MethodHandle" ∧ y.cls ≠ "java/lang/invoke/VarHandle") : (Cond.selects y.cls y y).before args s = true := by
  obtain ⟨c2, r2, m2, q1, -, q3, -, kP, hkP, hkPi⟩ := Cond.selects_spec hz
  have q := findClass_of_methodNamed q3
  rw [e] at q
  exact selects_self_of_private q hkP hkPi hp hi hy
def ushI (x y : Int32) : Int32 := (x.toUInt32 >>> (y &&& 31).toUInt32).toInt32
def ushL (x : Int64) (y : Int32) : Int64 := (x.toUInt64 >>> (y &&& 0x3f).toInt64.toUInt64).toInt64
theorem own_nar8 (a : Int32) : nar .byte a.toInt8.toInt32 = a.toInt8.toInt32 := by show a.toInt8.toInt32.toInt8.toInt32 = _; simp
theorem own_nar16 (a : Int32) : nar .char a.toUInt32.toUInt16.toUInt32.toInt32 = a.toUInt32.toUInt16.toUInt32.toInt32 := by
  show a.toUInt32.toUInt16.toUInt32.toInt32.toUInt32.toUInt16.toUInt32.toInt32 = _
  rw [show a.toUInt32.toUInt16.toUInt32.toInt32.toUInt32 = a.toUInt32.toUInt16.toUInt32 from rfl, UInt16.toUInt16_toUInt32]
theorem own_sta_keep {C d nm : String} (F : Sta Z h C nm d w) (K : Keep h h' []) : Sta Z h' C nm d w := by
  obtain ⟨cf, i, k, f, st, cell, h1, h2, h3, h4, h5, r⟩ := F
  exact ⟨cf, i, k, f, st, cell, h1, h2, h3, h4, K.2.1 _ _ h5 nin0, r⟩
theorem own_ext_keep (E : Ext h h') : Keep h h' [] := (Keep.refl h []).ext E
theorem own_keep_eq (e : h' = h) (ws : List Addr) : Keep h h' ws := by rw [e]; exact Keep.refl _ _
end Own
theorem pn_com_example_loomward_loomward_xpath_SequenceType_Occurrence : plainName "com/example/loomward/loomward/xpath/SequenceType$Occurrence" = true := by first | (simp [plainName, overriddenIn]; done) | decide +kernel
theorem d_prog_124_method_4_code_0 : decode prog_124_method_4_code 0 = .ok (.iload_n 1, 1) := by decide +kernel
theorem d_prog_124_method_4_code_1 : decode prog_124_method_4_code 1 = .ok (.ifCond .gt 17, 3) := by decide +kernel
theorem d_prog_124_method_4_code_18 : decode prog_124_method_4_code 18 = .ok (.iload_n 1, 1) := by decide +kernel
theorem d_prog_124_method_4_code_19 : decode prog_124_method_4_code 19 = .ok (.iconst 2, 1) := by decide +kernel
theorem d_prog_124_method_4_code_20 : decode prog_124_method_4_code 20 = .ok (.if_icmp .lt 17, 3) := by decide +kernel
theorem d_prog_124_method_4_code_37 : decode prog_124_method_4_code 37 = .ok (.iconst 1, 1) := by decide +kernel
theorem d_prog_124_method_4_code_38 : decode prog_124_method_4_code 38 = .ok (.goto 4, 3) := by decide +kernel
theorem d_prog_124_method_4_code_42 : decode prog_124_method_4_code 42 = .ok (.ireturn, 1) := by decide +kernel
theorem d_prog_124_method_4_code_23 : decode prog_124_method_4_code 23 = .ok (.aload_n 0, 1) := by decide +kernel
theorem d_prog_124_method_4_code_24 : decode prog_124_method_4_code 24 = .ok (.getstatic 10, 3) := by decide +kernel
theorem d_prog_124_method_4_code_27 : decode prog_124_method_4_code 27 = .ok (.if_acmp .eq 10, 3) := by decide +kernel
theorem d_prog_124_method_4_code_30 : decode prog_124_method_4_code 30 = .ok (.aload_n 0, 1) := by decide +kernel
theorem d_prog_124_method_4_code_31 : decode prog_124_method_4_code 31 = .ok (.getstatic 13, 3) := by decide +kernel
theorem d_prog_124_method_4_code_34 : decode prog_124_method_4_code 34 = .ok (.if_acmp .ne 7, 3) := by decide +kernel
theorem d_prog_124_method_4_code_41 : decode prog_124_method_4_code 41 = .ok (.iconst 0, 1) := by decide +kernel
theorem d_prog_124_method_4_code_4 : decode prog_124_method_4_code 4 = .ok (.aload_n 0, 1) := by decide +kernel
theorem d_prog_124_method_4_code_5 : decode prog_124_method_4_code 5 = .ok (.getstatic 7, 3) := by decide +kernel
theorem d_prog_124_method_4_code_8 : decode prog_124_method_4_code 8 = .ok (.if_acmp .eq 10, 3) := by decide +kernel
theorem d_prog_124_method_4_code_11 : decode prog_124_method_4_code 11 = .ok (.aload_n 0, 1) := by decide +kernel
theorem d_prog_124_method_4_code_12 : decode prog_124_method_4_code 12 = .ok (.getstatic 10, 3) := by decide +kernel
theorem d_prog_124_method_4_code_15 : decode prog_124_method_4_code 15 = .ok (.if_acmp .ne 26, 3) := by decide +kernel
theorem pn_com_example_loomward_loomward_xpath_OccurrenceAllowsPinLaw : plainName "com/example/loomward/loomward/xpath/OccurrenceAllowsPinLaw" = true := by first | (simp [plainName, overriddenIn]; done) | decide +kernel
theorem pd__I_Z : parseMethodDescriptor "(I)Z" = some ⟨[.int], some .boolean⟩ := by decide +kernel

def allF (a z1 zm om : Addr) (n : Int32) : Int32 := if 0 < n ∨ a = z1 ∨ a = zm then (if n < 2 ∨ a = zm ∨ a = om then 1 else 0) else 0
theorem own_pos {n : Int32} (h : ¬ n < 0) : 0 ≤ n.toInt := by
  rw [Int32.lt_iff_toInt_lt] at h
  have e : (0 : Int32).toInt = 0 := by decide
  omega
theorem own_lits : (0 : Int32).toInt = 0 ∧ (1 : Int32).toInt = 1 ∧ (2 : Int32).toInt = 2 := by decide
theorem al0 {a z1 zm om : Addr} {n : Int32} (h1 : a ≠ z1) (h2 : a ≠ zm) (h3 : a ≠ om) (hn : ¬ n < 0) : allF a z1 zm om n = if n < 1 then 0 else if 1 < n then 0 else 1 := by
  have hp := own_pos hn
  obtain ⟨l0, l1, l2⟩ := own_lits
  simp only [allF, eq_false h1, eq_false h2, eq_false h3, or_false, Int32.lt_iff_toInt_lt, l0, l1, l2]
  repeat' split
  all_goals first | rfl | (exfalso; omega)
theorem al1 {z1 zm om : Addr} {n : Int32} (h2 : z1 ≠ zm) (h3 : z1 ≠ om) (hn : ¬ n < 0) : allF z1 z1 zm om n = if n < 0 then 0 else if 1 < n then 0 else 1 := by
  have hp := own_pos hn
  obtain ⟨l0, l1, l2⟩ := own_lits
  simp only [allF, eq_false h2, eq_false h3, or_false, true_or, or_true, if_true, Int32.lt_iff_toInt_lt, l0, l1, l2]
  repeat' split
  all_goals first | rfl | (exfalso; omega)
theorem al2 {z1 zm om : Addr} {n : Int32} (hn : ¬ n < 0) : allF zm z1 zm om n = if n < 0 then 0 else 1 := by
  simp only [allF, eq_false hn, true_or, or_true, if_true, if_false]
theorem al3 {z1 zm om : Addr} {n : Int32} (h1 : om ≠ z1) (h2 : om ≠ zm) (hn : ¬ n < 0) : allF om z1 zm om n = if n < 1 then 0 else 1 := by
  have hp := own_pos hn
  obtain ⟨l0, l1, l2⟩ := own_lits
  simp only [allF, eq_false h1, eq_false h2, or_false, or_true, if_true, Int32.lt_iff_toInt_lt, l0, l1, l2]
  repeat' split
  all_goals first | rfl | (exfalso; omega)
theorem own_m3 (n : Int32) : ¬ (n &&& (3 : Int32)) < 0 := by
  have h := c_mask n 3 2 (by decide) (by decide)
  rw [Int32.lt_iff_toInt_lt, own_lits.1]; omega
theorem own_mx (n : Int32) : ¬ (n &&& (2147483647 : Int32)) < 0 := by
  have h := c_mask n 2147483647 31 (by decide) (by decide)
  rw [Int32.lt_iff_toInt_lt, own_lits.1]; omega

def Q1 (Z : State) (a1 : Addr) (p1 : Int32) (en1 : Addr) (en2 : Addr) (en3 : Addr) (h0 : Heap) (v : Option Value) (h : Heap) (L : List Loc) : Prop := v = some (.int (allF a1 en1 en2 en3 p1)) ∧ L = [] ∧ h = h0
theorem ef_1 (m : MethodId) (a1 : Addr) (p1 : Int32) : entryFrame m #[(.ref a1), (.int p1)] 2 = mkF m 0 #[.val (.ref a1), .val (.int p1)] [] := by first | (simp [entryFrame, mkF, argsToLocals, Value.category]; done) | rfl
set_option maxRecDepth 65536 in
set_option maxHeartbeats 40000000 in
theorem rm1 (l : Launch) (Z : State) (a0 : Array Value) (hw : ∀ d ∈ tables_1, d.before a0 Z = true) (ws : List Jvm.Cond) (a1 : Addr) (p1 : Int32) (en1 : Addr) (en2 : Addr) (en3 : Addr) (h0 : Heap) (S_ZERO_OR_ONE : Sta Z h0 "com/example/loomward/loomward/xpath/SequenceType$Occurrence" "ZERO_OR_ONE" "Lcom/example/loomward/loomward/xpath/SequenceType$Occurrence;" (.ref en1)) (S_ZERO_OR_MORE : Sta Z h0 "com/example/loomward/loomward/xpath/SequenceType$Occurrence" "ZERO_OR_MORE" "Lcom/example/loomward/loomward/xpath/SequenceType$Occurrence;" (.ref en2)) (S_ONE_OR_MORE : Sta Z h0 "com/example/loomward/loomward/xpath/SequenceType$Occurrence" "ONE_OR_MORE" "Lcom/example/loomward/loomward/xpath/SequenceType$Occurrence;" (.ref en3)) :
    MetFree l (⟨"com/example/loomward/loomward/xpath/SequenceType$Occurrence", "allows", "(I)Z"⟩ : MethodName) (head1 (Jvm.Cond.code (⟨"com/example/loomward/loomward/xpath/SequenceType$Occurrence", "allows", "(I)Z"⟩ : MethodName) prog_124_method_4_code 2 (some .boolean) :: ws) ({ frames := 0, cells := 0, slots := 0, locals := 0 } : Room)) (fun a U => a = #[(.ref a1), (.int p1)] ∧ Z.Warmed39 U.vm ∧ U.heap = h0) (fun _ _ _ _ _ => True) (fun _ U o U' => ∃ v L, o = .returned v ∧ (Q1 Z a1 p1 en1 en2 en3 h0) v U'.heap L ∧ FrameEnd U o U' L 0 0) := by
  refine MetFree.of_bodySF (plainFor_of_name pn_com_example_loomward_loomward_xpath_SequenceType_Occurrence) hisR ?_
  intro p e s m args below meth c s₁ Bd hml0 hP hK
  obtain ⟨rfl, hZ, hh⟩ := hP
  have hx := Bd.exec
  have hby := Bd.bytes
  have hml : c.maxLocals = 2 := hml0
  have hown : s.vm.findClass "com/example/loomward/loomward/xpath/SequenceType$Occurrence" = some m.cls := findClass_of_methodNamed Bd.named
  have hnm := (name_of_methodNamed Bd.named Bd.method).1
  have X0 : Stand p l e ({ frames := 0, cells := 0, slots := 0, locals := 0 } : Room) s m #[(.ref a1), (.int p1)] below meth c s₁ [] 0 0 := Stand.of_body Bd
  have e0 : s₁.heap = h0 := by rw [← hh, Bd.state]; rfl
  show Go FrameEnd p e below s 0 0 (Q1 Z a1 p1 en1 en2 en3 h0) _
  refine Go.step (fun _ k => castTop (ef_1 m a1 p1) k) ?_
  show Go FrameEnd p e below s 0 0 (Q1 Z a1 p1 en1 en2 en3 h0) (s₁.setTop (mkF m 0 #[.val (.ref a1), .val (.int p1)] []))
  refine Go.step (fun _ k => XS.iloadN X0.here hx rfl (hb hby d_prog_124_method_4_code_0) rfl k) ?_
  show Go FrameEnd p e below s 0 0 (Q1 Z a1 p1 en1 en2 en3 h0) (s₁.setTop (mkF m 1 #[.val (.ref a1), .val (.int p1)] [(.int p1)]))
  by_cases h1 : (0 : Int32) < p1
  · skip
    refine Go.step (fun _ k => XS.ifYes X0.here hx rfl (pc0 := 1) (pc' := 18) rfl (hb hby d_prog_124_method_4_code_1) rfl ((if0 _ _).trans (tlt h1).2.2.1) (by decide) (by decide) k) ?_
    show Go FrameEnd p e below s 0 0 (Q1 Z a1 p1 en1 en2 en3 h0) (s₁.setTop (mkF m 18 #[.val (.ref a1), .val (.int p1)] []))
    refine Go.step (fun _ k => XS.iloadN X0.here hx rfl (hb hby d_prog_124_method_4_code_18) rfl k) ?_
    show Go FrameEnd p e below s 0 0 (Q1 Z a1 p1 en1 en2 en3 h0) (s₁.setTop (mkF m 19 #[.val (.ref a1), .val (.int p1)] [(.int p1)]))
    refine Go.step (fun _ k => XS.iconst X0.here hx rfl (hb hby d_prog_124_method_4_code_19) k) ?_
    show Go FrameEnd p e below s 0 0 (Q1 Z a1 p1 en1 en2 en3 h0) (s₁.setTop (mkF m 20 #[.val (.ref a1), .val (.int p1)] [(.int (2 : Int32)), (.int p1)]))
    by_cases h4 : p1 < (2 : Int32)
    · skip
      refine Go.step (fun _ k => XS.icmpYes X0.here hx rfl (pc0 := 20) (pc' := 37) rfl (hb hby d_prog_124_method_4_code_20) rfl (tlt h4).1 (by decide) (by decide) k) ?_
      show Go FrameEnd p e below s 0 0 (Q1 Z a1 p1 en1 en2 en3 h0) (s₁.setTop (mkF m 37 #[.val (.ref a1), .val (.int p1)] []))
      refine Go.step (fun _ k => XS.iconst X0.here hx rfl (hb hby d_prog_124_method_4_code_37) k) ?_
      show Go FrameEnd p e below s 0 0 (Q1 Z a1 p1 en1 en2 en3 h0) (s₁.setTop (mkF m 38 #[.val (.ref a1), .val (.int p1)] [(.int (1 : Int32))]))
      refine Go.step (fun _ k => XS.goto X0.here hx rfl (pc0 := 38) (pc' := 42) rfl (hb hby d_prog_124_method_4_code_38) (by decide) (by decide) k) ?_
      show Go FrameEnd p e below s 0 0 (Q1 Z a1 p1 en1 en2 en3 h0) (s₁.setTop (mkF m 42 #[.val (.ref a1), .val (.int p1)] [(.int (1 : Int32))]))
      refine Go.retN X0 hx (t := .boolean) Bd.returns (by simp) (by decide) (hb hby d_prog_124_method_4_code_42) (BodyLoose.notSynchronized Bd) e0 (by decide) (by decide) ?_
      exact ⟨by first | contradiction | simp only [allF, eq_true h1, eq_true h4, true_or, or_true, false_or, or_false, or_self, true_and, and_true, false_and, and_false, and_self, not_true_eq_false, not_false_eq_true, if_true, if_false], rfl, rfl⟩
    · skip
      refine Go.step (fun _ k => XS.icmpNo X0.here hx rfl (hb hby d_prog_124_method_4_code_20) rfl (flt h4).1 k) ?_
      show Go FrameEnd p e below s 0 0 (Q1 Z a1 p1 en1 en2 en3 h0) (s₁.setTop (mkF m 23 #[.val (.ref a1), .val (.int p1)] []))
      refine Go.step (fun _ k => XS.aloadN X0.here hx rfl (hb hby d_prog_124_method_4_code_23) rfl rfl k) ?_
      show Go FrameEnd p e below s 0 0 (Q1 Z a1 p1 en1 en2 en3 h0) (s₁.setTop (mkF m 24 #[.val (.ref a1), .val (.int p1)] [(.ref a1)]))
      obtain ⟨T1, X1, e1, st1⟩ := getS2 X0 hx hZ hown (host := "") (Or.inl (hw _ (List.mem_of_getElem? (i := 9) rfl))) Via.refl e0 S_ZERO_OR_MORE (g := (mkF m 24 #[.val (.ref a1), .val (.int p1)] [(.ref a1)])) rfl (hb hby d_prog_124_method_4_code_24)
      refine Go.step st1 ?_
      show Go FrameEnd p e below s 0 0 (Q1 Z a1 p1 en1 en2 en3 h0) (T1.setTop (mkF m 27 #[.val (.ref a1), .val (.int p1)] [(.ref en2), (.ref a1)]))
      by_cases h5 : a1 = en2
      · skip
        refine Go.step (fun _ k => Jvm.RoadKit.acmp (g := (mkF m 27 #[.val (.ref a1), .val (.int p1)] [(.ref en2), (.ref a1)])) X1 hx rfl rfl rfl (pc0 := 27) (pc' := 37) (same := true) rfl (hb hby d_prog_124_method_4_code_27) rfl (decide_eq_true (congrArg Value.ref h5)) (by decide) (by decide) k) ?_
        show Go FrameEnd p e below s 0 0 (Q1 Z a1 p1 en1 en2 en3 h0) (T1.setTop (mkF m 37 #[.val (.ref a1), .val (.int p1)] []))
        refine Go.step (fun _ k => XS.iconst X1.here hx rfl (hb hby d_prog_124_method_4_code_37) k) ?_
        show Go FrameEnd p e below s 0 0 (Q1 Z a1 p1 en1 en2 en3 h0) (T1.setTop (mkF m 38 #[.val (.ref a1), .val (.int p1)] [(.int (1 : Int32))]))
        refine Go.step (fun _ k => XS.goto X1.here hx rfl (pc0 := 38) (pc' := 42) rfl (hb hby d_prog_124_method_4_code_38) (by decide) (by decide) k) ?_
        show Go FrameEnd p e below s 0 0 (Q1 Z a1 p1 en1 en2 en3 h0) (T1.setTop (mkF m 42 #[.val (.ref a1), .val (.int p1)] [(.int (1 : Int32))]))
        refine Go.retN X1 hx (t := .boolean) Bd.returns (by simp) (by decide) (hb hby d_prog_124_method_4_code_42) (BodyLoose.notSynchronized Bd) e1 (by decide) (by decide) ?_
        exact ⟨by first | contradiction | simp only [allF, eq_true h1, eq_false h4, eq_true h5, true_or, or_true, false_or, or_false, or_self, true_and, and_true, false_and, and_false, and_self, not_true_eq_false, not_false_eq_true, if_true, if_false], rfl, rfl⟩
      · skip
        refine Go.step (fun _ k => Jvm.RoadKit.acmp (g := (mkF m 27 #[.val (.ref a1), .val (.int p1)] [(.ref en2), (.ref a1)])) X1 hx rfl rfl rfl (pc0 := 27) (pc' := 30) (same := false) rfl (hb hby d_prog_124_method_4_code_27) rfl (decide_eq_false fun q => h5 (Value.ref.inj q)) (by decide) (by decide) k) ?_
        show Go FrameEnd p e below s 0 0 (Q1 Z a1 p1 en1 en2 en3 h0) (T1.setTop (mkF m 30 #[.val (.ref a1), .val (.int p1)] []))
        refine Go.step (fun _ k => XS.aloadN X1.here hx rfl (hb hby d_prog_124_method_4_code_30) rfl rfl k) ?_
        show Go FrameEnd p e below s 0 0 (Q1 Z a1 p1 en1 en2 en3 h0) (T1.setTop (mkF m 31 #[.val (.ref a1), .val (.int p1)] [(.ref a1)]))
        obtain ⟨T2, X2, e2, st2⟩ := getS2 X1 hx hZ hown (host := "") (Or.inl (hw _ (List.mem_of_getElem? (i := 11) rfl))) Via.refl e1 S_ONE_OR_MORE (g := (mkF m 31 #[.val (.ref a1), .val (.int p1)] [(.ref a1)])) rfl (hb hby d_prog_124_method_4_code_31)
        refine Go.step st2 ?_
        show Go FrameEnd p e below s 0 0 (Q1 Z a1 p1 en1 en2 en3 h0) (T2.setTop (mkF m 34 #[.val (.ref a1), .val (.int p1)] [(.ref en3), (.ref a1)]))
        by_cases h6 : a1 = en3
        · skip
          refine Go.step (fun _ k => Jvm.RoadKit.acmp (g := (mkF m 34 #[.val (.ref a1), .val (.int p1)] [(.ref en3), (.ref a1)])) X2 hx rfl rfl rfl (pc0 := 34) (pc' := 37) (same := true) rfl (hb hby d_prog_124_method_4_code_34) rfl (decide_eq_true (congrArg Value.ref h6)) (by decide) (by decide) k) ?_
          show Go FrameEnd p e below s 0 0 (Q1 Z a1 p1 en1 en2 en3 h0) (T2.setTop (mkF m 37 #[.val (.ref a1), .val (.int p1)] []))
          refine Go.step (fun _ k => XS.iconst X2.here hx rfl (hb hby d_prog_124_method_4_code_37) k) ?_
          show Go FrameEnd p e below s 0 0 (Q1 Z a1 p1 en1 en2 en3 h0) (T2.setTop (mkF m 38 #[.val (.ref a1), .val (.int p1)] [(.int (1 : Int32))]))
          refine Go.step (fun _ k => XS.goto X2.here hx rfl (pc0 := 38) (pc' := 42) rfl (hb hby d_prog_124_method_4_code_38) (by decide) (by decide) k) ?_
          show Go FrameEnd p e below s 0 0 (Q1 Z a1 p1 en1 en2 en3 h0) (T2.setTop (mkF m 42 #[.val (.ref a1), .val (.int p1)] [(.int (1 : Int32))]))
          refine Go.retN X2 hx (t := .boolean) Bd.returns (by simp) (by decide) (hb hby d_prog_124_method_4_code_42) (BodyLoose.notSynchronized Bd) e2 (by decide) (by decide) ?_
          exact ⟨by first | contradiction | simp only [allF, eq_true h1, eq_false h4, eq_false h5, eq_true h6, true_or, or_true, false_or, or_false, or_self, true_and, and_true, false_and, and_false, and_self, not_true_eq_false, not_false_eq_true, if_true, if_false], rfl, rfl⟩
        · skip
          refine Go.step (fun _ k => Jvm.RoadKit.acmp (g := (mkF m 34 #[.val (.ref a1), .val (.int p1)] [(.ref en3), (.ref a1)])) X2 hx rfl rfl rfl (pc0 := 34) (pc' := 41) (same := false) rfl (hb hby d_prog_124_method_4_code_34) rfl (decide_eq_false fun q => h6 (Value.ref.inj q)) (by decide) (by decide) k) ?_
          show Go FrameEnd p e below s 0 0 (Q1 Z a1 p1 en1 en2 en3 h0) (T2.setTop (mkF m 41 #[.val (.ref a1), .val (.int p1)] []))
          refine Go.step (fun _ k => XS.iconst X2.here hx rfl (hb hby d_prog_124_method_4_code_41) k) ?_
          show Go FrameEnd p e below s 0 0 (Q1 Z a1 p1 en1 en2 en3 h0) (T2.setTop (mkF m 42 #[.val (.ref a1), .val (.int p1)] [(.int (0 : Int32))]))
          refine Go.retN X2 hx (t := .boolean) Bd.returns (by simp) (by decide) (hb hby d_prog_124_method_4_code_42) (BodyLoose.notSynchronized Bd) e2 (by decide) (by decide) ?_
          exact ⟨by first | contradiction | simp only [allF, eq_true h1, eq_false h4, eq_false h5, eq_false h6, true_or, or_true, false_or, or_false, or_self, true_and, and_true, false_and, and_false, and_self, not_true_eq_false, not_false_eq_true, if_true, if_false], rfl, rfl⟩
  · skip
    refine Go.step (fun _ k => XS.ifNo X0.here hx rfl (hb hby d_prog_124_method_4_code_1) rfl ((if0 _ _).trans (flt h1).2.2.1) k) ?_
    show Go FrameEnd p e below s 0 0 (Q1 Z a1 p1 en1 en2 en3 h0) (s₁.setTop (mkF m 4 #[.val (.ref a1), .val (.int p1)] []))
    refine Go.step (fun _ k => XS.aloadN X0.here hx rfl (hb hby d_prog_124_method_4_code_4) rfl rfl k) ?_
    show Go FrameEnd p e below s 0 0 (Q1 Z a1 p1 en1 en2 en3 h0) (s₁.setTop (mkF m 5 #[.val (.ref a1), .val (.int p1)] [(.ref a1)]))
    obtain ⟨T3, X3, e3, st3⟩ := getS2 X0 hx hZ hown (host := "") (Or.inl (hw _ (List.mem_of_getElem? (i := 15) rfl))) Via.refl e0 S_ZERO_OR_ONE (g := (mkF m 5 #[.val (.ref a1), .val (.int p1)] [(.ref a1)])) rfl (hb hby d_prog_124_method_4_code_5)
    refine Go.step st3 ?_
    show Go FrameEnd p e below s 0 0 (Q1 Z a1 p1 en1 en2 en3 h0) (T3.setTop (mkF m 8 #[.val (.ref a1), .val (.int p1)] [(.ref en1), (.ref a1)]))
    by_cases h2 : a1 = en1
    · skip
      refine Go.step (fun _ k => Jvm.RoadKit.acmp (g := (mkF m 8 #[.val (.ref a1), .val (.int p1)] [(.ref en1), (.ref a1)])) X3 hx rfl rfl rfl (pc0 := 8) (pc' := 18) (same := true) rfl (hb hby d_prog_124_method_4_code_8) rfl (decide_eq_true (congrArg Value.ref h2)) (by decide) (by decide) k) ?_
      show Go FrameEnd p e below s 0 0 (Q1 Z a1 p1 en1 en2 en3 h0) (T3.setTop (mkF m 18 #[.val (.ref a1), .val (.int p1)] []))
      refine Go.step (fun _ k => XS.iloadN X3.here hx rfl (hb hby d_prog_124_method_4_code_18) rfl k) ?_
      show Go FrameEnd p e below s 0 0 (Q1 Z a1 p1 en1 en2 en3 h0) (T3.setTop (mkF m 19 #[.val (.ref a1), .val (.int p1)] [(.int p1)]))
      refine Go.step (fun _ k => XS.iconst X3.here hx rfl (hb hby d_prog_124_method_4_code_19) k) ?_
      show Go FrameEnd p e below s 0 0 (Q1 Z a1 p1 en1 en2 en3 h0) (T3.setTop (mkF m 20 #[.val (.ref a1), .val (.int p1)] [(.int (2 : Int32)), (.int p1)]))
      by_cases h4 : p1 < (2 : Int32)
      · skip
        refine Go.step (fun _ k => XS.icmpYes X3.here hx rfl (pc0 := 20) (pc' := 37) rfl (hb hby d_prog_124_method_4_code_20) rfl (tlt h4).1 (by decide) (by decide) k) ?_
        show Go FrameEnd p e below s 0 0 (Q1 Z a1 p1 en1 en2 en3 h0) (T3.setTop (mkF m 37 #[.val (.ref a1), .val (.int p1)] []))
        refine Go.step (fun _ k => XS.iconst X3.here hx rfl (hb hby d_prog_124_method_4_code_37) k) ?_
        show Go FrameEnd p e below s 0 0 (Q1 Z a1 p1 en1 en2 en3 h0) (T3.setTop (mkF m 38 #[.val (.ref a1), .val (.int p1)] [(.int (1 : Int32))]))
        refine Go.step (fun _ k => XS.goto X3.here hx rfl (pc0 := 38) (pc' := 42) rfl (hb hby d_prog_124_method_4_code_38) (by decide) (by decide) k) ?_
        show Go FrameEnd p e below s 0 0 (Q1 Z a1 p1 en1 en2 en3 h0) (T3.setTop (mkF m 42 #[.val (.ref a1), .val (.int p1)] [(.int (1 : Int32))]))
        refine Go.retN X3 hx (t := .boolean) Bd.returns (by simp) (by decide) (hb hby d_prog_124_method_4_code_42) (BodyLoose.notSynchronized Bd) e3 (by decide) (by decide) ?_
        exact ⟨by first | contradiction | simp only [allF, eq_false h1, eq_true h2, eq_true h4, true_or, or_true, false_or, or_false, or_self, true_and, and_true, false_and, and_false, and_self, not_true_eq_false, not_false_eq_true, if_true, if_false], rfl, rfl⟩
      · skip
        refine Go.step (fun _ k => XS.icmpNo X3.here hx rfl (hb hby d_prog_124_method_4_code_20) rfl (flt h4).1 k) ?_
        show Go FrameEnd p e below s 0 0 (Q1 Z a1 p1 en1 en2 en3 h0) (T3.setTop (mkF m 23 #[.val (.ref a1), .val (.int p1)] []))
        refine Go.step (fun _ k => XS.aloadN X3.here hx rfl (hb hby d_prog_124_method_4_code_23) rfl rfl k) ?_
        show Go FrameEnd p e below s 0 0 (Q1 Z a1 p1 en1 en2 en3 h0) (T3.setTop (mkF m 24 #[.val (.ref a1), .val (.int p1)] [(.ref a1)]))
        obtain ⟨T4, X4, e4, st4⟩ := getS2 X3 hx hZ hown (host := "") (Or.inl (hw _ (List.mem_of_getElem? (i := 9) rfl))) Via.refl e3 S_ZERO_OR_MORE (g := (mkF m 24 #[.val (.ref a1), .val (.int p1)] [(.ref a1)])) rfl (hb hby d_prog_124_method_4_code_24)
        refine Go.step st4 ?_
        show Go FrameEnd p e below s 0 0 (Q1 Z a1 p1 en1 en2 en3 h0) (T4.setTop (mkF m 27 #[.val (.ref a1), .val (.int p1)] [(.ref en2), (.ref a1)]))
        by_cases h5 : a1 = en2
        · skip
          refine Go.step (fun _ k => Jvm.RoadKit.acmp (g := (mkF m 27 #[.val (.ref a1), .val (.int p1)] [(.ref en2), (.ref a1)])) X4 hx rfl rfl rfl (pc0 := 27) (pc' := 37) (same := true) rfl (hb hby d_prog_124_method_4_code_27) rfl (decide_eq_true (congrArg Value.ref h5)) (by decide) (by decide) k) ?_
          show Go FrameEnd p e below s 0 0 (Q1 Z a1 p1 en1 en2 en3 h0) (T4.setTop (mkF m 37 #[.val (.ref a1), .val (.int p1)] []))
          refine Go.step (fun _ k => XS.iconst X4.here hx rfl (hb hby d_prog_124_method_4_code_37) k) ?_
          show Go FrameEnd p e below s 0 0 (Q1 Z a1 p1 en1 en2 en3 h0) (T4.setTop (mkF m 38 #[.val (.ref a1), .val (.int p1)] [(.int (1 : Int32))]))
          refine Go.step (fun _ k => XS.goto X4.here hx rfl (pc0 := 38) (pc' := 42) rfl (hb hby d_prog_124_method_4_code_38) (by decide) (by decide) k) ?_
          show Go FrameEnd p e below s 0 0 (Q1 Z a1 p1 en1 en2 en3 h0) (T4.setTop (mkF m 42 #[.val (.ref a1), .val (.int p1)] [(.int (1 : Int32))]))
          refine Go.retN X4 hx (t := .boolean) Bd.returns (by simp) (by decide) (hb hby d_prog_124_method_4_code_42) (BodyLoose.notSynchronized Bd) e4 (by decide) (by decide) ?_
          exact ⟨by first | contradiction | simp only [allF, eq_false h1, eq_true h2, eq_false h4, eq_true h5, true_or, or_true, false_or, or_false, or_self, true_and, and_true, false_and, and_false, and_self, not_true_eq_false, not_false_eq_true, if_true, if_false], rfl, rfl⟩
        · skip
          refine Go.step (fun _ k => Jvm.RoadKit.acmp (g := (mkF m 27 #[.val (.ref a1), .val (.int p1)] [(.ref en2), (.ref a1)])) X4 hx rfl rfl rfl (pc0 := 27) (pc' := 30) (same := false) rfl (hb hby d_prog_124_method_4_code_27) rfl (decide_eq_false fun q => h5 (Value.ref.inj q)) (by decide) (by decide) k) ?_
          show Go FrameEnd p e below s 0 0 (Q1 Z a1 p1 en1 en2 en3 h0) (T4.setTop (mkF m 30 #[.val (.ref a1), .val (.int p1)] []))
          refine Go.step (fun _ k => XS.aloadN X4.here hx rfl (hb hby d_prog_124_method_4_code_30) rfl rfl k) ?_
          show Go FrameEnd p e below s 0 0 (Q1 Z a1 p1 en1 en2 en3 h0) (T4.setTop (mkF m 31 #[.val (.ref a1), .val (.int p1)] [(.ref a1)]))
          obtain ⟨T5, X5, e5, st5⟩ := getS2 X4 hx hZ hown (host := "") (Or.inl (hw _ (List.mem_of_getElem? (i := 11) rfl))) Via.refl e4 S_ONE_OR_MORE (g := (mkF m 31 #[.val (.ref a1), .val (.int p1)] [(.ref a1)])) rfl (hb hby d_prog_124_method_4_code_31)
          refine Go.step st5 ?_
          show Go FrameEnd p e below s 0 0 (Q1 Z a1 p1 en1 en2 en3 h0) (T5.setTop (mkF m 34 #[.val (.ref a1), .val (.int p1)] [(.ref en3), (.ref a1)]))
          by_cases h6 : a1 = en3
          · skip
            refine Go.step (fun _ k => Jvm.RoadKit.acmp (g := (mkF m 34 #[.val (.ref a1), .val (.int p1)] [(.ref en3), (.ref a1)])) X5 hx rfl rfl rfl (pc0 := 34) (pc' := 37) (same := true) rfl (hb hby d_prog_124_method_4_code_34) rfl (decide_eq_true (congrArg Value.ref h6)) (by decide) (by decide) k) ?_
            show Go FrameEnd p e below s 0 0 (Q1 Z a1 p1 en1 en2 en3 h0) (T5.setTop (mkF m 37 #[.val (.ref a1), .val (.int p1)] []))
            refine Go.step (fun _ k => XS.iconst X5.here hx rfl (hb hby d_prog_124_method_4_code_37) k) ?_
            show Go FrameEnd p e below s 0 0 (Q1 Z a1 p1 en1 en2 en3 h0) (T5.setTop (mkF m 38 #[.val (.ref a1), .val (.int p1)] [(.int (1 : Int32))]))
            refine Go.step (fun _ k => XS.goto X5.here hx rfl (pc0 := 38) (pc' := 42) rfl (hb hby d_prog_124_method_4_code_38) (by decide) (by decide) k) ?_
            show Go FrameEnd p e below s 0 0 (Q1 Z a1 p1 en1 en2 en3 h0) (T5.setTop (mkF m 42 #[.val (.ref a1), .val (.int p1)] [(.int (1 : Int32))]))
            refine Go.retN X5 hx (t := .boolean) Bd.returns (by simp) (by decide) (hb hby d_prog_124_method_4_code_42) (BodyLoose.notSynchronized Bd) e5 (by decide) (by decide) ?_
            exact ⟨by first | contradiction | simp only [allF, eq_false h1, eq_true h2, eq_false h4, eq_false h5, eq_true h6, true_or, or_true, false_or, or_false, or_self, true_and, and_true, false_and, and_false, and_self, not_true_eq_false, not_false_eq_true, if_true, if_false], rfl, rfl⟩
          · skip
            refine Go.step (fun _ k => Jvm.RoadKit.acmp (g := (mkF m 34 #[.val (.ref a1), .val (.int p1)] [(.ref en3), (.ref a1)])) X5 hx rfl rfl rfl (pc0 := 34) (pc' := 41) (same := false) rfl (hb hby d_prog_124_method_4_code_34) rfl (decide_eq_false fun q => h6 (Value.ref.inj q)) (by decide) (by decide) k) ?_
            show Go FrameEnd p e below s 0 0 (Q1 Z a1 p1 en1 en2 en3 h0) (T5.setTop (mkF m 41 #[.val (.ref a1), .val (.int p1)] []))
            refine Go.step (fun _ k => XS.iconst X5.here hx rfl (hb hby d_prog_124_method_4_code_41) k) ?_
            show Go FrameEnd p e below s 0 0 (Q1 Z a1 p1 en1 en2 en3 h0) (T5.setTop (mkF m 42 #[.val (.ref a1), .val (.int p1)] [(.int (0 : Int32))]))
            refine Go.retN X5 hx (t := .boolean) Bd.returns (by simp) (by decide) (hb hby d_prog_124_method_4_code_42) (BodyLoose.notSynchronized Bd) e5 (by decide) (by decide) ?_
            exact ⟨by first | contradiction | simp only [allF, eq_false h1, eq_true h2, eq_false h4, eq_false h5, eq_false h6, true_or, or_true, false_or, or_false, or_self, true_and, and_true, false_and, and_false, and_self, not_true_eq_false, not_false_eq_true, if_true, if_false], rfl, rfl⟩
    · skip
      refine Go.step (fun _ k => Jvm.RoadKit.acmp (g := (mkF m 8 #[.val (.ref a1), .val (.int p1)] [(.ref en1), (.ref a1)])) X3 hx rfl rfl rfl (pc0 := 8) (pc' := 11) (same := false) rfl (hb hby d_prog_124_method_4_code_8) rfl (decide_eq_false fun q => h2 (Value.ref.inj q)) (by decide) (by decide) k) ?_
      show Go FrameEnd p e below s 0 0 (Q1 Z a1 p1 en1 en2 en3 h0) (T3.setTop (mkF m 11 #[.val (.ref a1), .val (.int p1)] []))
      refine Go.step (fun _ k => XS.aloadN X3.here hx rfl (hb hby d_prog_124_method_4_code_11) rfl rfl k) ?_
      show Go FrameEnd p e below s 0 0 (Q1 Z a1 p1 en1 en2 en3 h0) (T3.setTop (mkF m 12 #[.val (.ref a1), .val (.int p1)] [(.ref a1)]))
      obtain ⟨T6, X6, e6, st6⟩ := getS2 X3 hx hZ hown (host := "") (Or.inl (hw _ (List.mem_of_getElem? (i := 9) rfl))) Via.refl e3 S_ZERO_OR_MORE (g := (mkF m 12 #[.val (.ref a1), .val (.int p1)] [(.ref a1)])) rfl (hb hby d_prog_124_method_4_code_12)
      refine Go.step st6 ?_
      show Go FrameEnd p e below s 0 0 (Q1 Z a1 p1 en1 en2 en3 h0) (T6.setTop (mkF m 15 #[.val (.ref a1), .val (.int p1)] [(.ref en2), (.ref a1)]))
      by_cases h3 : a1 = en2
      · skip
        refine Go.step (fun _ k => Jvm.RoadKit.acmp (g := (mkF m 15 #[.val (.ref a1), .val (.int p1)] [(.ref en2), (.ref a1)])) X6 hx rfl rfl rfl (pc0 := 15) (pc' := 18) (same := true) rfl (hb hby d_prog_124_method_4_code_15) rfl (decide_eq_true (congrArg Value.ref h3)) (by decide) (by decide) k) ?_
        show Go FrameEnd p e below s 0 0 (Q1 Z a1 p1 en1 en2 en3 h0) (T6.setTop (mkF m 18 #[.val (.ref a1), .val (.int p1)] []))
        refine Go.step (fun _ k => XS.iloadN X6.here hx rfl (hb hby d_prog_124_method_4_code_18) rfl k) ?_
        show Go FrameEnd p e below s 0 0 (Q1 Z a1 p1 en1 en2 en3 h0) (T6.setTop (mkF m 19 #[.val (.ref a1), .val (.int p1)] [(.int p1)]))
        refine Go.step (fun _ k => XS.iconst X6.here hx rfl (hb hby d_prog_124_method_4_code_19) k) ?_
        show Go FrameEnd p e below s 0 0 (Q1 Z a1 p1 en1 en2 en3 h0) (T6.setTop (mkF m 20 #[.val (.ref a1), .val (.int p1)] [(.int (2 : Int32)), (.int p1)]))
        by_cases h4 : p1 < (2 : Int32)
        · skip
          refine Go.step (fun _ k => XS.icmpYes X6.here hx rfl (pc0 := 20) (pc' := 37) rfl (hb hby d_prog_124_method_4_code_20) rfl (tlt h4).1 (by decide) (by decide) k) ?_
          show Go FrameEnd p e below s 0 0 (Q1 Z a1 p1 en1 en2 en3 h0) (T6.setTop (mkF m 37 #[.val (.ref a1), .val (.int p1)] []))
          refine Go.step (fun _ k => XS.iconst X6.here hx rfl (hb hby d_prog_124_method_4_code_37) k) ?_
          show Go FrameEnd p e below s 0 0 (Q1 Z a1 p1 en1 en2 en3 h0) (T6.setTop (mkF m 38 #[.val (.ref a1), .val (.int p1)] [(.int (1 : Int32))]))
          refine Go.step (fun _ k => XS.goto X6.here hx rfl (pc0 := 38) (pc' := 42) rfl (hb hby d_prog_124_method_4_code_38) (by decide) (by decide) k) ?_
          show Go FrameEnd p e below s 0 0 (Q1 Z a1 p1 en1 en2 en3 h0) (T6.setTop (mkF m 42 #[.val (.ref a1), .val (.int p1)] [(.int (1 : Int32))]))
          refine Go.retN X6 hx (t := .boolean) Bd.returns (by simp) (by decide) (hb hby d_prog_124_method_4_code_42) (BodyLoose.notSynchronized Bd) e6 (by decide) (by decide) ?_
          exact ⟨by first | contradiction | simp only [allF, eq_false h1, eq_false h2, eq_true h3, eq_true h4, true_or, or_true, false_or, or_false, or_self, true_and, and_true, false_and, and_false, and_self, not_true_eq_false, not_false_eq_true, if_true, if_false], rfl, rfl⟩
        · skip
          refine Go.step (fun _ k => XS.icmpNo X6.here hx rfl (hb hby d_prog_124_method_4_code_20) rfl (flt h4).1 k) ?_
          show Go FrameEnd p e below s 0 0 (Q1 Z a1 p1 en1 en2 en3 h0) (T6.setTop (mkF m 23 #[.val (.ref a1), .val (.int p1)] []))
          refine Go.step (fun _ k => XS.aloadN X6.here hx rfl (hb hby d_prog_124_method_4_code_23) rfl rfl k) ?_
          show Go FrameEnd p e below s 0 0 (Q1 Z a1 p1 en1 en2 en3 h0) (T6.setTop (mkF m 24 #[.val (.ref a1), .val (.int p1)] [(.ref a1)]))
          obtain ⟨T7, X7, e7, st7⟩ := getS2 X6 hx hZ hown (host := "") (Or.inl (hw _ (List.mem_of_getElem? (i := 9) rfl))) Via.refl e6 S_ZERO_OR_MORE (g := (mkF m 24 #[.val (.ref a1), .val (.int p1)] [(.ref a1)])) rfl (hb hby d_prog_124_method_4_code_24)
          refine Go.step st7 ?_
          show Go FrameEnd p e below s 0 0 (Q1 Z a1 p1 en1 en2 en3 h0) (T7.setTop (mkF m 27 #[.val (.ref a1), .val (.int p1)] [(.ref en2), (.ref a1)]))
          by_cases h5 : a1 = en2
          · skip
            refine Go.step (fun _ k => Jvm.RoadKit.acmp (g := (mkF m 27 #[.val (.ref a1), .val (.int p1)] [(.ref en2), (.ref a1)])) X7 hx rfl rfl rfl (pc0 := 27) (pc' := 37) (same := true) rfl (hb hby d_prog_124_method_4_code_27) rfl (decide_eq_true (congrArg Value.ref h5)) (by decide) (by decide) k) ?_
            show Go FrameEnd p e below s 0 0 (Q1 Z a1 p1 en1 en2 en3 h0) (T7.setTop (mkF m 37 #[.val (.ref a1), .val (.int p1)] []))
            refine Go.step (fun _ k => XS.iconst X7.here hx rfl (hb hby d_prog_124_method_4_code_37) k) ?_
            show Go FrameEnd p e below s 0 0 (Q1 Z a1 p1 en1 en2 en3 h0) (T7.setTop (mkF m 38 #[.val (.ref a1), .val (.int p1)] [(.int (1 : Int32))]))
            refine Go.step (fun _ k => XS.goto X7.here hx rfl (pc0 := 38) (pc' := 42) rfl (hb hby d_prog_124_method_4_code_38) (by decide) (by decide) k) ?_
            show Go FrameEnd p e below s 0 0 (Q1 Z a1 p1 en1 en2 en3 h0) (T7.setTop (mkF m 42 #[.val (.ref a1), .val (.int p1)] [(.int (1 : Int32))]))
            refine Go.retN X7 hx (t := .boolean) Bd.returns (by simp) (by decide) (hb hby d_prog_124_method_4_code_42) (BodyLoose.notSynchronized Bd) e7 (by decide) (by decide) ?_
            exact ⟨by first | contradiction | simp only [allF, eq_false h1, eq_false h2, eq_true h3, eq_false h4, eq_true h5, true_or, or_true, false_or, or_false, or_self, true_and, and_true, false_and, and_false, and_self, not_true_eq_false, not_false_eq_true, if_true, if_false], rfl, rfl⟩
          · skip
            refine Go.step (fun _ k => Jvm.RoadKit.acmp (g := (mkF m 27 #[.val (.ref a1), .val (.int p1)] [(.ref en2), (.ref a1)])) X7 hx rfl rfl rfl (pc0 := 27) (pc' := 30) (same := false) rfl (hb hby d_prog_124_method_4_code_27) rfl (decide_eq_false fun q => h5 (Value.ref.inj q)) (by decide) (by decide) k) ?_
            show Go FrameEnd p e below s 0 0 (Q1 Z a1 p1 en1 en2 en3 h0) (T7.setTop (mkF m 30 #[.val (.ref a1), .val (.int p1)] []))
            refine Go.step (fun _ k => XS.aloadN X7.here hx rfl (hb hby d_prog_124_method_4_code_30) rfl rfl k) ?_
            show Go FrameEnd p e below s 0 0 (Q1 Z a1 p1 en1 en2 en3 h0) (T7.setTop (mkF m 31 #[.val (.ref a1), .val (.int p1)] [(.ref a1)]))
            obtain ⟨T8, X8, e8, st8⟩ := getS2 X7 hx hZ hown (host := "") (Or.inl (hw _ (List.mem_of_getElem? (i := 11) rfl))) Via.refl e7 S_ONE_OR_MORE (g := (mkF m 31 #[.val (.ref a1), .val (.int p1)] [(.ref a1)])) rfl (hb hby d_prog_124_method_4_code_31)
            refine Go.step st8 ?_
            show Go FrameEnd p e below s 0 0 (Q1 Z a1 p1 en1 en2 en3 h0) (T8.setTop (mkF m 34 #[.val (.ref a1), .val (.int p1)] [(.ref en3), (.ref a1)]))
            by_cases h6 : a1 = en3
            · skip
              refine Go.step (fun _ k => Jvm.RoadKit.acmp (g := (mkF m 34 #[.val (.ref a1), .val (.int p1)] [(.ref en3), (.ref a1)])) X8 hx rfl rfl rfl (pc0 := 34) (pc' := 37) (same := true) rfl (hb hby d_prog_124_method_4_code_34) rfl (decide_eq_true (congrArg Value.ref h6)) (by decide) (by decide) k) ?_
              show Go FrameEnd p e below s 0 0 (Q1 Z a1 p1 en1 en2 en3 h0) (T8.setTop (mkF m 37 #[.val (.ref a1), .val (.int p1)] []))
              refine Go.step (fun _ k => XS.iconst X8.here hx rfl (hb hby d_prog_124_method_4_code_37) k) ?_
              show Go FrameEnd p e below s 0 0 (Q1 Z a1 p1 en1 en2 en3 h0) (T8.setTop (mkF m 38 #[.val (.ref a1), .val (.int p1)] [(.int (1 : Int32))]))
              refine Go.step (fun _ k => XS.goto X8.here hx rfl (pc0 := 38) (pc' := 42) rfl (hb hby d_prog_124_method_4_code_38) (by decide) (by decide) k) ?_
              show Go FrameEnd p e below s 0 0 (Q1 Z a1 p1 en1 en2 en3 h0) (T8.setTop (mkF m 42 #[.val (.ref a1), .val (.int p1)] [(.int (1 : Int32))]))
              refine Go.retN X8 hx (t := .boolean) Bd.returns (by simp) (by decide) (hb hby d_prog_124_method_4_code_42) (BodyLoose.notSynchronized Bd) e8 (by decide) (by decide) ?_
              exact ⟨by first | contradiction | simp only [allF, eq_false h1, eq_false h2, eq_true h3, eq_false h4, eq_false h5, eq_true h6, true_or, or_true, false_or, or_false, or_self, true_and, and_true, false_and, and_false, and_self, not_true_eq_false, not_false_eq_true, if_true, if_false], rfl, rfl⟩
            · skip
              refine Go.step (fun _ k => Jvm.RoadKit.acmp (g := (mkF m 34 #[.val (.ref a1), .val (.int p1)] [(.ref en3), (.ref a1)])) X8 hx rfl rfl rfl (pc0 := 34) (pc' := 41) (same := false) rfl (hb hby d_prog_124_method_4_code_34) rfl (decide_eq_false fun q => h6 (Value.ref.inj q)) (by decide) (by decide) k) ?_
              show Go FrameEnd p e below s 0 0 (Q1 Z a1 p1 en1 en2 en3 h0) (T8.setTop (mkF m 41 #[.val (.ref a1), .val (.int p1)] []))
              refine Go.step (fun _ k => XS.iconst X8.here hx rfl (hb hby d_prog_124_method_4_code_41) k) ?_
              show Go FrameEnd p e below s 0 0 (Q1 Z a1 p1 en1 en2 en3 h0) (T8.setTop (mkF m 42 #[.val (.ref a1), .val (.int p1)] [(.int (0 : Int32))]))
              refine Go.retN X8 hx (t := .boolean) Bd.returns (by simp) (by decide) (hb hby d_prog_124_method_4_code_42) (BodyLoose.notSynchronized Bd) e8 (by decide) (by decide) ?_
              exact ⟨by first | contradiction | simp only [allF, eq_false h1, eq_false h2, eq_true h3, eq_false h4, eq_false h5, eq_false h6, true_or, or_true, false_or, or_false, or_self, true_and, and_true, false_and, and_false, and_self, not_true_eq_false, not_false_eq_true, if_true, if_false], rfl, rfl⟩
      · skip
        refine Go.step (fun _ k => Jvm.RoadKit.acmp (g := (mkF m 15 #[.val (.ref a1), .val (.int p1)] [(.ref en2), (.ref a1)])) X6 hx rfl rfl rfl (pc0 := 15) (pc' := 41) (same := false) rfl (hb hby d_prog_124_method_4_code_15) rfl (decide_eq_false fun q => h3 (Value.ref.inj q)) (by decide) (by decide) k) ?_
        show Go FrameEnd p e below s 0 0 (Q1 Z a1 p1 en1 en2 en3 h0) (T6.setTop (mkF m 41 #[.val (.ref a1), .val (.int p1)] []))
        refine Go.step (fun _ k => XS.iconst X6.here hx rfl (hb hby d_prog_124_method_4_code_41) k) ?_
        show Go FrameEnd p e below s 0 0 (Q1 Z a1 p1 en1 en2 en3 h0) (T6.setTop (mkF m 42 #[.val (.ref a1), .val (.int p1)] [(.int (0 : Int32))]))
        refine Go.retN X6 hx (t := .boolean) Bd.returns (by simp) (by decide) (hb hby d_prog_124_method_4_code_42) (BodyLoose.notSynchronized Bd) e6 (by decide) (by decide) ?_
        exact ⟨by first | contradiction | simp only [allF, eq_false h1, eq_false h2, eq_false h3, true_or, or_true, false_or, or_false, or_self, true_and, and_true, false_and, and_false, and_self, not_true_eq_false, not_false_eq_true, if_true, if_false], rfl, rfl⟩
def Q0 (Z : State) (p1 : Int32) (p2 : Int32) (p3 : Int32) (en0 : Addr) (en1 : Addr) (en2 : Addr) (en3 : Addr) (h0 : Heap) (n0 : Nat) (v : Option Value) (h : Heap) (L : List Loc) : Prop := v = some (.int 1) ∧ Fr n0 L
theorem ef_0 (m : MethodId) (p1 : Int32) (p2 : Int32) (p3 : Int32) : entryFrame m #[(.int p1), (.int p2), (.int p3)] maxLocals = mkF m 0 #[.val (.int p1), .val (.int p2), .val (.int p3), .unset, .unset, .unset, .unset, .unset, .unset] [] := by first | (simp [entryFrame, mkF, argsToLocals, Value.category, maxLocals]; done) | rfl
set_option maxRecDepth 65536 in
set_option maxHeartbeats 40000000 in
theorem rm0 (l : Launch) (Z : State) (a0 : Array Value) (hw : ∀ d ∈ tables_1, d.before a0 Z = true) (ws : List Jvm.Cond) (p1 : Int32) (p2 : Int32) (p3 : Int32) (en0 : Addr) (en1 : Addr) (en2 : Addr) (en3 : Addr) (h0 : Heap) (n0 : Nat) (Z0 : n0 ≤ h0.size) (S_EXACTLY_ONE : Sta Z h0 "com/example/loomward/loomward/xpath/SequenceType$Occurrence" "EXACTLY_ONE" "Lcom/example/loomward/loomward/xpath/SequenceType$Occurrence;" (.ref en0)) (S_ZERO_OR_ONE : Sta Z h0 "com/example/loomward/loomward/xpath/SequenceType$Occurrence" "ZERO_OR_ONE" "Lcom/example/loomward/loomward/xpath/SequenceType$Occurrence;" (.ref en1)) (S_ZERO_OR_MORE : Sta Z h0 "com/example/loomward/loomward/xpath/SequenceType$Occurrence" "ZERO_OR_MORE" "Lcom/example/loomward/loomward/xpath/SequenceType$Occurrence;" (.ref en2)) (S_ONE_OR_MORE : Sta Z h0 "com/example/loomward/loomward/xpath/SequenceType$Occurrence" "ONE_OR_MORE" "Lcom/example/loomward/loomward/xpath/SequenceType$Occurrence;" (.ref en3)) (E_en0 : Exa Z h0 en0 "com/example/loomward/loomward/xpath/SequenceType$Occurrence") (E_en1 : Exa Z h0 en1 "com/example/loomward/loomward/xpath/SequenceType$Occurrence") (E_en2 : Exa Z h0 en2 "com/example/loomward/loomward/xpath/SequenceType$Occurrence") (E_en3 : Exa Z h0 en3 "com/example/loomward/loomward/xpath/SequenceType$Occurrence") (ne0_1 : en0 ≠ en1) (ne0_2 : en0 ≠ en2) (ne0_3 : en0 ≠ en3) (ne1_2 : en1 ≠ en2) (ne1_3 : en1 ≠ en3) (ne2_3 : en2 ≠ en3) :
    MetFree l x (head1 (Jvm.Cond.code x code maxLocals ret :: ws) room_1) (fun a U => a = #[(.int p1), (.int p2), (.int p3)] ∧ Z.Warmed39 U.vm ∧ U.heap = h0) (fun _ _ _ _ _ => True) (fun _ U o U' => ∃ v L, o = .returned v ∧ (Q0 Z p1 p2 p3 en0 en1 en2 en3 h0 n0) v U'.heap L ∧ FrameEnd U o U' L 0 0) := by
  refine MetFree.of_bodySF (plainFor_of_name pn_com_example_loomward_loomward_xpath_OccurrenceAllowsPinLaw) hisR ?_
  intro p e s m args below meth c s₁ Bd hml0 hP hK
  obtain ⟨rfl, hZ, hh⟩ := hP
  have hx := Bd.exec
  have hby := Bd.bytes
  have hml : c.maxLocals = 9 := hml0
  have hown : s.vm.findClass "com/example/loomward/loomward/xpath/OccurrenceAllowsPinLaw" = some m.cls := findClass_of_methodNamed Bd.named
  have hnm := (name_of_methodNamed Bd.named Bd.method).1
  have X0 : Stand p l e room_1 s m #[(.int p1), (.int p2), (.int p3)] below meth c s₁ [] 0 0 := Stand.of_body Bd
  have e0 : s₁.heap = h0 := by rw [← hh, Bd.state]; rfl
  have N0 := Fr.nil n0
  show Go FrameEnd p e below s 0 0 (Q0 Z p1 p2 p3 en0 en1 en2 en3 h0 n0) _
  refine Go.step (fun _ k => castTop (ef_0 m p1 p2 p3) k) ?_
  show Go FrameEnd p e below s 0 0 (Q0 Z p1 p2 p3 en0 en1 en2 en3 h0 n0) (s₁.setTop (mkF m 0 #[.val (.int p1), .val (.int p2), .val (.int p3), .unset, .unset, .unset, .unset, .unset, .unset] []))
  refine Go.step (fun _ k => XS.iloadN X0.here hx rfl (hb hby at_0) rfl k) ?_
  show Go FrameEnd p e below s 0 0 (Q0 Z p1 p2 p3 en0 en1 en2 en3 h0 n0) (s₁.setTop (mkF m 1 #[.val (.int p1), .val (.int p2), .val (.int p3), .unset, .unset, .unset, .unset, .unset, .unset] [(.int p1)]))
  refine Go.step (fun _ k => XS.iconst X0.here hx rfl (hb hby at_1) k) ?_
  show Go FrameEnd p e below s 0 0 (Q0 Z p1 p2 p3 en0 en1 en2 en3 h0 n0) (s₁.setTop (mkF m 2 #[.val (.int p1), .val (.int p2), .val (.int p3), .unset, .unset, .unset, .unset, .unset, .unset] [(.int (3 : Int32)), (.int p1)]))
  refine Go.step (fun _ k => XS.iand X0.here hx rfl (hb hby at_2) rfl k) ?_
  show Go FrameEnd p e below s 0 0 (Q0 Z p1 p2 p3 en0 en1 en2 en3 h0 n0) (s₁.setTop (mkF m 3 #[.val (.int p1), .val (.int p2), .val (.int p3), .unset, .unset, .unset, .unset, .unset, .unset] [(.int (p1 &&& (3 : Int32)))]))
  refine Go.step (fun _ k => XS.istoreN X0.here hx rfl (hb hby at_3) rfl (l' := #[.val (.int p1), .val (.int p2), .val (.int p3), .val (.int (p1 &&& (3 : Int32))), .unset, .unset, .unset, .unset, .unset]) rfl k) ?_
  show Go FrameEnd p e below s 0 0 (Q0 Z p1 p2 p3 en0 en1 en2 en3 h0 n0) (s₁.setTop (mkF m 4 #[.val (.int p1), .val (.int p2), .val (.int p3), .val (.int (p1 &&& (3 : Int32))), .unset, .unset, .unset, .unset, .unset] []))
  refine Go.step (fun _ k => XS.iloadN X0.here hx rfl (hb hby at_4) rfl k) ?_
  show Go FrameEnd p e below s 0 0 (Q0 Z p1 p2 p3 en0 en1 en2 en3 h0 n0) (s₁.setTop (mkF m 5 #[.val (.int p1), .val (.int p2), .val (.int p3), .val (.int (p1 &&& (3 : Int32))), .unset, .unset, .unset, .unset, .unset] [(.int (p1 &&& (3 : Int32)))]))
  by_cases hc5 : (p1 &&& (3 : Int32)) = (0 : Int32)
  · skip
    refine Go.step (fun _ k => XS.ifNo X0.here hx rfl (hb hby at_5) rfl ((if0 _ _).trans (teq hc5).2) k) ?_
    show Go FrameEnd p e below s 0 0 (Q0 Z p1 p2 p3 en0 en1 en2 en3 h0 n0) (s₁.setTop (mkF m 8 #[.val (.int p1), .val (.int p2), .val (.int p3), .val (.int (p1 &&& (3 : Int32))), .unset, .unset, .unset, .unset, .unset] []))
    obtain ⟨T1, X1, e1, st1⟩ := getS2 X0 hx hZ hown (host := "") (Or.inl (hw _ (List.mem_of_getElem? (i := 0) rfl))) Via.refl e0 S_EXACTLY_ONE (g := (mkF m 8 #[.val (.int p1), .val (.int p2), .val (.int p3), .val (.int (p1 &&& (3 : Int32))), .unset, .unset, .unset, .unset, .unset] [])) rfl (hb hby at_8)
    refine Go.step st1 ?_
    show Go FrameEnd p e below s 0 0 (Q0 Z p1 p2 p3 en0 en1 en2 en3 h0 n0) (T1.setTop (mkF m 11 #[.val (.int p1), .val (.int p2), .val (.int p3), .val (.int (p1 &&& (3 : Int32))), .unset, .unset, .unset, .unset, .unset] [(.ref en0)]))
    refine Go.step (fun _ k => XS.astore X1.here hx rfl (hb hby at_11) rfl rfl (l' := #[.val (.int p1), .val (.int p2), .val (.int p3), .val (.int (p1 &&& (3 : Int32))), .val (.ref en0), .unset, .unset, .unset, .unset]) rfl k) ?_
    show Go FrameEnd p e below s 0 0 (Q0 Z p1 p2 p3 en0 en1 en2 en3 h0 n0) (T1.setTop (mkF m 13 #[.val (.int p1), .val (.int p2), .val (.int p3), .val (.int (p1 &&& (3 : Int32))), .val (.ref en0), .unset, .unset, .unset, .unset] []))
    refine Go.step (fun _ k => XS.iconst X1.here hx rfl (hb hby at_13) k) ?_
    show Go FrameEnd p e below s 0 0 (Q0 Z p1 p2 p3 en0 en1 en2 en3 h0 n0) (T1.setTop (mkF m 14 #[.val (.int p1), .val (.int p2), .val (.int p3), .val (.int (p1 &&& (3 : Int32))), .val (.ref en0), .unset, .unset, .unset, .unset] [(.int (1 : Int32))]))
    refine Go.step (fun _ k => XS.istore X1.here hx rfl (hb hby at_14) rfl (l' := #[.val (.int p1), .val (.int p2), .val (.int p3), .val (.int (p1 &&& (3 : Int32))), .val (.ref en0), .val (.int (1 : Int32)), .unset, .unset, .unset]) rfl k) ?_
    show Go FrameEnd p e below s 0 0 (Q0 Z p1 p2 p3 en0 en1 en2 en3 h0 n0) (T1.setTop (mkF m 16 #[.val (.int p1), .val (.int p2), .val (.int p3), .val (.int (p1 &&& (3 : Int32))), .val (.ref en0), .val (.int (1 : Int32)), .unset, .unset, .unset] []))
    refine Go.step (fun _ k => XS.iconst X1.here hx rfl (hb hby at_16) k) ?_
    show Go FrameEnd p e below s 0 0 (Q0 Z p1 p2 p3 en0 en1 en2 en3 h0 n0) (T1.setTop (mkF m 17 #[.val (.int p1), .val (.int p2), .val (.int p3), .val (.int (p1 &&& (3 : Int32))), .val (.ref en0), .val (.int (1 : Int32)), .unset, .unset, .unset] [(.int (0 : Int32))]))
    refine Go.step (fun _ k => XS.istore X1.here hx rfl (hb hby at_17) rfl (l' := #[.val (.int p1), .val (.int p2), .val (.int p3), .val (.int (p1 &&& (3 : Int32))), .val (.ref en0), .val (.int (1 : Int32)), .val (.int (0 : Int32)), .unset, .unset]) rfl k) ?_
    show Go FrameEnd p e below s 0 0 (Q0 Z p1 p2 p3 en0 en1 en2 en3 h0 n0) (T1.setTop (mkF m 19 #[.val (.int p1), .val (.int p2), .val (.int p3), .val (.int (p1 &&& (3 : Int32))), .val (.ref en0), .val (.int (1 : Int32)), .val (.int (0 : Int32)), .unset, .unset] []))
    refine Go.step (fun _ k => XS.goto X1.here hx rfl (pc0 := 19) (pc' := 71) rfl (hb hby at_19) (by decide) (by decide) k) ?_
    show Go FrameEnd p e below s 0 0 (Q0 Z p1 p2 p3 en0 en1 en2 en3 h0 n0) (T1.setTop (mkF m 71 #[.val (.int p1), .val (.int p2), .val (.int p3), .val (.int (p1 &&& (3 : Int32))), .val (.ref en0), .val (.int (1 : Int32)), .val (.int (0 : Int32)), .unset, .unset] []))
    refine Go.step (fun _ k => XS.iloadN X1.here hx rfl (hb hby at_71) rfl k) ?_
    show Go FrameEnd p e below s 0 0 (Q0 Z p1 p2 p3 en0 en1 en2 en3 h0 n0) (T1.setTop (mkF m 72 #[.val (.int p1), .val (.int p2), .val (.int p3), .val (.int (p1 &&& (3 : Int32))), .val (.ref en0), .val (.int (1 : Int32)), .val (.int (0 : Int32)), .unset, .unset] [(.int p3)]))
    refine Go.step (fun _ k => XS.iconst X1.here hx rfl (hb hby at_72) k) ?_
    show Go FrameEnd p e below s 0 0 (Q0 Z p1 p2 p3 en0 en1 en2 en3 h0 n0) (T1.setTop (mkF m 73 #[.val (.int p1), .val (.int p2), .val (.int p3), .val (.int (p1 &&& (3 : Int32))), .val (.ref en0), .val (.int (1 : Int32)), .val (.int (0 : Int32)), .unset, .unset] [(.int (1 : Int32)), (.int p3)]))
    refine Go.step (fun _ k => XS.iand X1.here hx rfl (hb hby at_73) rfl k) ?_
    show Go FrameEnd p e below s 0 0 (Q0 Z p1 p2 p3 en0 en1 en2 en3 h0 n0) (T1.setTop (mkF m 74 #[.val (.int p1), .val (.int p2), .val (.int p3), .val (.int (p1 &&& (3 : Int32))), .val (.ref en0), .val (.int (1 : Int32)), .val (.int (0 : Int32)), .unset, .unset] [(.int (p3 &&& (1 : Int32)))]))
    have J87_2 : ∀ (n : Int32), (¬ n < 0) → Go FrameEnd p e below s 0 0 (Q0 Z p1 p2 p3 en0 en1 en2 en3 h0 n0) (T1.setTop (mkF m 87 #[.val (.int p1), .val (.int p2), .val (.int p3), .val (.int (p1 &&& (3 : Int32))), .val (.ref en0), .val (.int (1 : Int32)), .val (.int (0 : Int32)), .unset, .unset] [(.int n)])) := by
      intro n hn
      show Go FrameEnd p e below s 0 0 (Q0 Z p1 p2 p3 en0 en1 en2 en3 h0 n0) (T1.setTop (mkF m 87 #[.val (.int p1), .val (.int p2), .val (.int p3), .val (.int (p1 &&& (3 : Int32))), .val (.ref en0), .val (.int (1 : Int32)), .val (.int (0 : Int32)), .unset, .unset] [(.int n)]))
      refine Go.step (fun _ k => XS.istore X1.here hx rfl (hb hby at_87) rfl (l' := #[.val (.int p1), .val (.int p2), .val (.int p3), .val (.int (p1 &&& (3 : Int32))), .val (.ref en0), .val (.int (1 : Int32)), .val (.int (0 : Int32)), .val (.int n), .unset]) rfl k) ?_
      show Go FrameEnd p e below s 0 0 (Q0 Z p1 p2 p3 en0 en1 en2 en3 h0 n0) (T1.setTop (mkF m 89 #[.val (.int p1), .val (.int p2), .val (.int p3), .val (.int (p1 &&& (3 : Int32))), .val (.ref en0), .val (.int (1 : Int32)), .val (.int (0 : Int32)), .val (.int n), .unset] []))
      refine Go.step (fun _ k => XS.iload X1.here hx rfl (hb hby at_89) rfl k) ?_
      show Go FrameEnd p e below s 0 0 (Q0 Z p1 p2 p3 en0 en1 en2 en3 h0 n0) (T1.setTop (mkF m 91 #[.val (.int p1), .val (.int p2), .val (.int p3), .val (.int (p1 &&& (3 : Int32))), .val (.ref en0), .val (.int (1 : Int32)), .val (.int (0 : Int32)), .val (.int n), .unset] [(.int n)]))
      refine Go.step (fun _ k => XS.iload X1.here hx rfl (hb hby at_91) rfl k) ?_
      show Go FrameEnd p e below s 0 0 (Q0 Z p1 p2 p3 en0 en1 en2 en3 h0 n0) (T1.setTop (mkF m 93 #[.val (.int p1), .val (.int p2), .val (.int p3), .val (.int (p1 &&& (3 : Int32))), .val (.ref en0), .val (.int (1 : Int32)), .val (.int (0 : Int32)), .val (.int n), .unset] [(.int (1 : Int32)), (.int n)]))
      have J112_3 : ∀ (x : Int32), (allF en0 en1 en2 en3 n = x) → Go FrameEnd p e below s 0 0 (Q0 Z p1 p2 p3 en0 en1 en2 en3 h0 n0) (T1.setTop (mkF m 112 #[.val (.int p1), .val (.int p2), .val (.int p3), .val (.int (p1 &&& (3 : Int32))), .val (.ref en0), .val (.int (1 : Int32)), .val (.int (0 : Int32)), .val (.int n), .unset] [(.int x)])) := by
        intro x hx112
        show Go FrameEnd p e below s 0 0 (Q0 Z p1 p2 p3 en0 en1 en2 en3 h0 n0) (T1.setTop (mkF m 112 #[.val (.int p1), .val (.int p2), .val (.int p3), .val (.int (p1 &&& (3 : Int32))), .val (.ref en0), .val (.int (1 : Int32)), .val (.int (0 : Int32)), .val (.int n), .unset] [(.int x)]))
        refine Go.step (fun _ k => XS.istore X1.here hx rfl (hb hby at_112) rfl (l' := #[.val (.int p1), .val (.int p2), .val (.int p3), .val (.int (p1 &&& (3 : Int32))), .val (.ref en0), .val (.int (1 : Int32)), .val (.int (0 : Int32)), .val (.int n), .val (.int x)]) rfl k) ?_
        show Go FrameEnd p e below s 0 0 (Q0 Z p1 p2 p3 en0 en1 en2 en3 h0 n0) (T1.setTop (mkF m 114 #[.val (.int p1), .val (.int p2), .val (.int p3), .val (.int (p1 &&& (3 : Int32))), .val (.ref en0), .val (.int (1 : Int32)), .val (.int (0 : Int32)), .val (.int n), .val (.int x)] []))
        refine Go.step (fun _ k => XS.aload X1.here hx rfl (hb hby at_114) rfl rfl k) ?_
        show Go FrameEnd p e below s 0 0 (Q0 Z p1 p2 p3 en0 en1 en2 en3 h0 n0) (T1.setTop (mkF m 116 #[.val (.int p1), .val (.int p2), .val (.int p3), .val (.int (p1 &&& (3 : Int32))), .val (.ref en0), .val (.int (1 : Int32)), .val (.int (0 : Int32)), .val (.int n), .val (.int x)] [(.ref en0)]))
        refine Go.step (fun _ k => XS.iload X1.here hx rfl (hb hby at_116) rfl k) ?_
        show Go FrameEnd p e below s 0 0 (Q0 Z p1 p2 p3 en0 en1 en2 en3 h0 n0) (T1.setTop (mkF m 118 #[.val (.int p1), .val (.int p2), .val (.int p3), .val (.int (p1 &&& (3 : Int32))), .val (.ref en0), .val (.int (1 : Int32)), .val (.int (0 : Int32)), .val (.int n), .val (.int x)] [(.int n), (.ref en0)]))
        obtain ⟨cq4, kq4, q4a, q4b, q4c⟩ := isOf hZ e1 E_en0
        obtain ⟨_, _, ⟨T4, L4, k4, n4⟩, -, X4, ⟨Lc4, hQ4, l4, y4, z4⟩, st4⟩ := X1.virtualBack hx (y := (⟨"com/example/loomward/loomward/xpath/SequenceType$Occurrence", "allows", "(I)Z"⟩ : MethodName)) (z := (⟨"com/example/loomward/loomward/xpath/SequenceType$Occurrence", "allows", "(I)Z"⟩ : MethodName)) hown (mvT hZ (hw _ (List.mem_of_getElem? (i := 4) rfl))) (mvT hZ (hw _ (List.mem_of_getElem? (i := 5) rfl))) (notFace_of_selects (args := #[]) (mvT hZ (hw _ (List.mem_of_getElem? (i := 7) rfl)))) (mvT hZ (hw _ (List.mem_of_getElem? (i := 7) rfl))) (mvT hZ (hw _ (List.mem_of_getElem? (i := 6) rfl))) (by decide) (backOf (W := 0) (rm1 l Z a0 hw [] en0 n en1 en2 en3 h0 S_ZERO_OR_ONE S_ZERO_OR_MORE S_ONE_OR_MORE) hZ (hw _ (List.mem_of_getElem? (i := 8) rfl)) (hw _ (List.mem_of_getElem? (i := 1) rfl)) (by decide) (by decide)) q4a q4c (g := (mkF m 118 #[.val (.int p1), .val (.int p2), .val (.int p3), .val (.int (p1 &&& (3 : Int32))), .val (.ref en0), .val (.int (1 : Int32)), .val (.int (0 : Int32)), .val (.int n), .val (.int x)] [(.int n), (.ref en0)])) rfl (by rw [hml]; rfl) (Steps.refl _) (argsL := [(.int n)]) (rest := []) (lenOf pd__I_Z rfl) rfl (by show 2 * 0 + _ ≤ _; exact Nat.le_of_eq rfl) (hb hby at_118) (fun _ _ => ⟨rfl, e1, (by decide : 0 + 0 ≤ _), (by decide : 0 + 0 ≤ _)⟩)
        dsimp only [Pt.U, Pt.locs, Pt.cells, Pt.slots] at X4 l4 y4 z4 st4 hQ4
        subst l4 y4 z4
        obtain ⟨rfl, rfl, e4⟩ := hQ4
        have N4 := Fr.app N0 (Fr.nil n0)
        refine Go.hop st4 ?_
        show Go FrameEnd p e below s 0 0 (Q0 Z p1 p2 p3 en0 en1 en2 en3 h0 n0) (T4.setTop (mkF m 121 #[.val (.int p1), .val (.int p2), .val (.int p3), .val (.int (p1 &&& (3 : Int32))), .val (.ref en0), .val (.int (1 : Int32)), .val (.int (0 : Int32)), .val (.int n), .val (.int x)] [(.int (allF en0 en1 en2 en3 n))]))
        refine Go.step (fun _ k => XS.iload X4.here hx rfl (hb hby at_121) rfl k) ?_
        show Go FrameEnd p e below s 0 0 (Q0 Z p1 p2 p3 en0 en1 en2 en3 h0 n0) (T4.setTop (mkF m 123 #[.val (.int p1), .val (.int p2), .val (.int p3), .val (.int (p1 &&& (3 : Int32))), .val (.ref en0), .val (.int (1 : Int32)), .val (.int (0 : Int32)), .val (.int n), .val (.int x)] [(.int x), (.int (allF en0 en1 en2 en3 n))]))
        refine Go.step (fun _ k => XS.icmpNo X4.here hx rfl (hb hby at_123) rfl (teq hx112).2 k) ?_
        show Go FrameEnd p e below s 0 0 (Q0 Z p1 p2 p3 en0 en1 en2 en3 h0 n0) (T4.setTop (mkF m 126 #[.val (.int p1), .val (.int p2), .val (.int p3), .val (.int (p1 &&& (3 : Int32))), .val (.ref en0), .val (.int (1 : Int32)), .val (.int (0 : Int32)), .val (.int n), .val (.int x)] []))
        refine Go.step (fun _ k => XS.iconst X4.here hx rfl (hb hby at_126) k) ?_
        show Go FrameEnd p e below s 0 0 (Q0 Z p1 p2 p3 en0 en1 en2 en3 h0 n0) (T4.setTop (mkF m 127 #[.val (.int p1), .val (.int p2), .val (.int p3), .val (.int (p1 &&& (3 : Int32))), .val (.ref en0), .val (.int (1 : Int32)), .val (.int (0 : Int32)), .val (.int n), .val (.int x)] [(.int (1 : Int32))]))
        refine Go.step (fun _ k => XS.goto X4.here hx rfl (pc0 := 127) (pc' := 131) rfl (hb hby at_127) (by decide) (by decide) k) ?_
        show Go FrameEnd p e below s 0 0 (Q0 Z p1 p2 p3 en0 en1 en2 en3 h0 n0) (T4.setTop (mkF m 131 #[.val (.int p1), .val (.int p2), .val (.int p3), .val (.int (p1 &&& (3 : Int32))), .val (.ref en0), .val (.int (1 : Int32)), .val (.int (0 : Int32)), .val (.int n), .val (.int x)] [(.int (1 : Int32))]))
        refine Go.retN X4 hx (t := .boolean) Bd.returns (by simp) (by decide) (hb hby at_131) (BodyLoose.notSynchronized Bd) e4 (by decide) (by decide) ?_
        exact ⟨rfl, N4⟩
      by_cases hc93 : n < (1 : Int32)
      · skip
        refine Go.step (fun _ k => XS.icmpYes X1.here hx rfl (pc0 := 93) (pc' := 111) rfl (hb hby at_93) rfl (tlt hc93).1 (by decide) (by decide) k) ?_
        show Go FrameEnd p e below s 0 0 (Q0 Z p1 p2 p3 en0 en1 en2 en3 h0 n0) (T1.setTop (mkF m 111 #[.val (.int p1), .val (.int p2), .val (.int p3), .val (.int (p1 &&& (3 : Int32))), .val (.ref en0), .val (.int (1 : Int32)), .val (.int (0 : Int32)), .val (.int n), .unset] []))
        refine Go.step (fun _ k => XS.iconst X1.here hx rfl (hb hby at_111) k) ?_
        show Go FrameEnd p e below s 0 0 (Q0 Z p1 p2 p3 en0 en1 en2 en3 h0 n0) (T1.setTop (mkF m 112 #[.val (.int p1), .val (.int p2), .val (.int p3), .val (.int (p1 &&& (3 : Int32))), .val (.ref en0), .val (.int (1 : Int32)), .val (.int (0 : Int32)), .val (.int n), .unset] [(.int (0 : Int32))]))
        exact J112_3  _ (by rw [(al0 ne0_1 ne0_2 ne0_3 hn)]; (first | contradiction | simp only [eq_self, eq_true hc5, eq_true hc93, true_or, or_true, false_or, or_false, or_self, true_and, and_true, false_and, and_false, and_self, not_true_eq_false, not_false_eq_true, if_true, if_false]))
      · skip
        refine Go.step (fun _ k => XS.icmpNo X1.here hx rfl (hb hby at_93) rfl (flt hc93).1 k) ?_
        show Go FrameEnd p e below s 0 0 (Q0 Z p1 p2 p3 en0 en1 en2 en3 h0 n0) (T1.setTop (mkF m 96 #[.val (.int p1), .val (.int p2), .val (.int p3), .val (.int (p1 &&& (3 : Int32))), .val (.ref en0), .val (.int (1 : Int32)), .val (.int (0 : Int32)), .val (.int n), .unset] []))
        refine Go.step (fun _ k => XS.iload X1.here hx rfl (hb hby at_96) rfl k) ?_
        show Go FrameEnd p e below s 0 0 (Q0 Z p1 p2 p3 en0 en1 en2 en3 h0 n0) (T1.setTop (mkF m 98 #[.val (.int p1), .val (.int p2), .val (.int p3), .val (.int (p1 &&& (3 : Int32))), .val (.ref en0), .val (.int (1 : Int32)), .val (.int (0 : Int32)), .val (.int n), .unset] [(.int (0 : Int32))]))
        refine Go.step (fun _ k => XS.ifNo X1.here hx rfl (hb hby at_98) rfl ((if0 _ _).trans (teq rfl).2) k) ?_
        show Go FrameEnd p e below s 0 0 (Q0 Z p1 p2 p3 en0 en1 en2 en3 h0 n0) (T1.setTop (mkF m 101 #[.val (.int p1), .val (.int p2), .val (.int p3), .val (.int (p1 &&& (3 : Int32))), .val (.ref en0), .val (.int (1 : Int32)), .val (.int (0 : Int32)), .val (.int n), .unset] []))
        refine Go.step (fun _ k => XS.iload X1.here hx rfl (hb hby at_101) rfl k) ?_
        show Go FrameEnd p e below s 0 0 (Q0 Z p1 p2 p3 en0 en1 en2 en3 h0 n0) (T1.setTop (mkF m 103 #[.val (.int p1), .val (.int p2), .val (.int p3), .val (.int (p1 &&& (3 : Int32))), .val (.ref en0), .val (.int (1 : Int32)), .val (.int (0 : Int32)), .val (.int n), .unset] [(.int n)]))
        refine Go.step (fun _ k => XS.iconst X1.here hx rfl (hb hby at_103) k) ?_
        show Go FrameEnd p e below s 0 0 (Q0 Z p1 p2 p3 en0 en1 en2 en3 h0 n0) (T1.setTop (mkF m 104 #[.val (.int p1), .val (.int p2), .val (.int p3), .val (.int (p1 &&& (3 : Int32))), .val (.ref en0), .val (.int (1 : Int32)), .val (.int (0 : Int32)), .val (.int n), .unset] [(.int (1 : Int32)), (.int n)]))
        by_cases hc104 : (1 : Int32) < n
        · skip
          refine Go.step (fun _ k => XS.icmpYes X1.here hx rfl (pc0 := 104) (pc' := 111) rfl (hb hby at_104) rfl (tlt hc104).2.2.1 (by decide) (by decide) k) ?_
          show Go FrameEnd p e below s 0 0 (Q0 Z p1 p2 p3 en0 en1 en2 en3 h0 n0) (T1.setTop (mkF m 111 #[.val (.int p1), .val (.int p2), .val (.int p3), .val (.int (p1 &&& (3 : Int32))), .val (.ref en0), .val (.int (1 : Int32)), .val (.int (0 : Int32)), .val (.int n), .unset] []))
          refine Go.step (fun _ k => XS.iconst X1.here hx rfl (hb hby at_111) k) ?_
          show Go FrameEnd p e below s 0 0 (Q0 Z p1 p2 p3 en0 en1 en2 en3 h0 n0) (T1.setTop (mkF m 112 #[.val (.int p1), .val (.int p2), .val (.int p3), .val (.int (p1 &&& (3 : Int32))), .val (.ref en0), .val (.int (1 : Int32)), .val (.int (0 : Int32)), .val (.int n), .unset] [(.int (0 : Int32))]))
          exact J112_3  _ (by rw [(al0 ne0_1 ne0_2 ne0_3 hn)]; (first | contradiction | simp only [eq_self, eq_true hc5, eq_false hc93, eq_true hc104, true_or, or_true, false_or, or_false, or_self, true_and, and_true, false_and, and_false, and_self, not_true_eq_false, not_false_eq_true, if_true, if_false]))
        · skip
          refine Go.step (fun _ k => XS.icmpNo X1.here hx rfl (hb hby at_104) rfl (flt hc104).2.2.1 k) ?_
          show Go FrameEnd p e below s 0 0 (Q0 Z p1 p2 p3 en0 en1 en2 en3 h0 n0) (T1.setTop (mkF m 107 #[.val (.int p1), .val (.int p2), .val (.int p3), .val (.int (p1 &&& (3 : Int32))), .val (.ref en0), .val (.int (1 : Int32)), .val (.int (0 : Int32)), .val (.int n), .unset] []))
          refine Go.step (fun _ k => XS.iconst X1.here hx rfl (hb hby at_107) k) ?_
          show Go FrameEnd p e below s 0 0 (Q0 Z p1 p2 p3 en0 en1 en2 en3 h0 n0) (T1.setTop (mkF m 108 #[.val (.int p1), .val (.int p2), .val (.int p3), .val (.int (p1 &&& (3 : Int32))), .val (.ref en0), .val (.int (1 : Int32)), .val (.int (0 : Int32)), .val (.int n), .unset] [(.int (1 : Int32))]))
          refine Go.step (fun _ k => XS.goto X1.here hx rfl (pc0 := 108) (pc' := 112) rfl (hb hby at_108) (by decide) (by decide) k) ?_
          show Go FrameEnd p e below s 0 0 (Q0 Z p1 p2 p3 en0 en1 en2 en3 h0 n0) (T1.setTop (mkF m 112 #[.val (.int p1), .val (.int p2), .val (.int p3), .val (.int (p1 &&& (3 : Int32))), .val (.ref en0), .val (.int (1 : Int32)), .val (.int (0 : Int32)), .val (.int n), .unset] [(.int (1 : Int32))]))
          exact J112_3  _ (by rw [(al0 ne0_1 ne0_2 ne0_3 hn)]; (first | contradiction | simp only [eq_self, eq_true hc5, eq_false hc93, eq_false hc104, true_or, or_true, false_or, or_false, or_self, true_and, and_true, false_and, and_false, and_self, not_true_eq_false, not_false_eq_true, if_true, if_false]))
    by_cases hc74 : (p3 &&& (1 : Int32)) = (0 : Int32)
    · skip
      refine Go.step (fun _ k => XS.ifYes X1.here hx rfl (pc0 := 74) (pc' := 83) rfl (hb hby at_74) rfl ((if0 _ _).trans (teq hc74).1) (by decide) (by decide) k) ?_
      show Go FrameEnd p e below s 0 0 (Q0 Z p1 p2 p3 en0 en1 en2 en3 h0 n0) (T1.setTop (mkF m 83 #[.val (.int p1), .val (.int p2), .val (.int p3), .val (.int (p1 &&& (3 : Int32))), .val (.ref en0), .val (.int (1 : Int32)), .val (.int (0 : Int32)), .unset, .unset] []))
      refine Go.step (fun _ k => XS.iloadN X1.here hx rfl (hb hby at_83) rfl k) ?_
      show Go FrameEnd p e below s 0 0 (Q0 Z p1 p2 p3 en0 en1 en2 en3 h0 n0) (T1.setTop (mkF m 84 #[.val (.int p1), .val (.int p2), .val (.int p3), .val (.int (p1 &&& (3 : Int32))), .val (.ref en0), .val (.int (1 : Int32)), .val (.int (0 : Int32)), .unset, .unset] [(.int p2)]))
      refine Go.step (X1.ldcInt hx hown (mvT hZ (hw _ (List.mem_of_getElem? (i := 3) rfl))) (g := (mkF m 84 #[.val (.int p1), .val (.int p2), .val (.int p3), .val (.int (p1 &&& (3 : Int32))), .val (.ref en0), .val (.int (1 : Int32)), .val (.int (0 : Int32)), .unset, .unset] [(.int p2)])) rfl (hb hby at_84)) ?_
      show Go FrameEnd p e below s 0 0 (Q0 Z p1 p2 p3 en0 en1 en2 en3 h0 n0) (T1.setTop (mkF m 86 #[.val (.int p1), .val (.int p2), .val (.int p3), .val (.int (p1 &&& (3 : Int32))), .val (.ref en0), .val (.int (1 : Int32)), .val (.int (0 : Int32)), .unset, .unset] [(.int (2147483647 : Int32)), (.int p2)]))
      refine Go.step (fun _ k => XS.iand X1.here hx rfl (hb hby at_86) rfl k) ?_
      show Go FrameEnd p e below s 0 0 (Q0 Z p1 p2 p3 en0 en1 en2 en3 h0 n0) (T1.setTop (mkF m 87 #[.val (.int p1), .val (.int p2), .val (.int p3), .val (.int (p1 &&& (3 : Int32))), .val (.ref en0), .val (.int (1 : Int32)), .val (.int (0 : Int32)), .unset, .unset] [(.int (p2 &&& (2147483647 : Int32)))]))
      exact J87_2  _ (own_mx _)
    · skip
      refine Go.step (fun _ k => XS.ifNo X1.here hx rfl (hb hby at_74) rfl ((if0 _ _).trans (feq hc74).1) k) ?_
      show Go FrameEnd p e below s 0 0 (Q0 Z p1 p2 p3 en0 en1 en2 en3 h0 n0) (T1.setTop (mkF m 77 #[.val (.int p1), .val (.int p2), .val (.int p3), .val (.int (p1 &&& (3 : Int32))), .val (.ref en0), .val (.int (1 : Int32)), .val (.int (0 : Int32)), .unset, .unset] []))
      refine Go.step (fun _ k => XS.iloadN X1.here hx rfl (hb hby at_77) rfl k) ?_
      show Go FrameEnd p e below s 0 0 (Q0 Z p1 p2 p3 en0 en1 en2 en3 h0 n0) (T1.setTop (mkF m 78 #[.val (.int p1), .val (.int p2), .val (.int p3), .val (.int (p1 &&& (3 : Int32))), .val (.ref en0), .val (.int (1 : Int32)), .val (.int (0 : Int32)), .unset, .unset] [(.int p2)]))
      refine Go.step (fun _ k => XS.iconst X1.here hx rfl (hb hby at_78) k) ?_
      show Go FrameEnd p e below s 0 0 (Q0 Z p1 p2 p3 en0 en1 en2 en3 h0 n0) (T1.setTop (mkF m 79 #[.val (.int p1), .val (.int p2), .val (.int p3), .val (.int (p1 &&& (3 : Int32))), .val (.ref en0), .val (.int (1 : Int32)), .val (.int (0 : Int32)), .unset, .unset] [(.int (3 : Int32)), (.int p2)]))
      refine Go.step (fun _ k => XS.iand X1.here hx rfl (hb hby at_79) rfl k) ?_
      show Go FrameEnd p e below s 0 0 (Q0 Z p1 p2 p3 en0 en1 en2 en3 h0 n0) (T1.setTop (mkF m 80 #[.val (.int p1), .val (.int p2), .val (.int p3), .val (.int (p1 &&& (3 : Int32))), .val (.ref en0), .val (.int (1 : Int32)), .val (.int (0 : Int32)), .unset, .unset] [(.int (p2 &&& (3 : Int32)))]))
      refine Go.step (fun _ k => XS.goto X1.here hx rfl (pc0 := 80) (pc' := 87) rfl (hb hby at_80) (by decide) (by decide) k) ?_
      show Go FrameEnd p e below s 0 0 (Q0 Z p1 p2 p3 en0 en1 en2 en3 h0 n0) (T1.setTop (mkF m 87 #[.val (.int p1), .val (.int p2), .val (.int p3), .val (.int (p1 &&& (3 : Int32))), .val (.ref en0), .val (.int (1 : Int32)), .val (.int (0 : Int32)), .unset, .unset] [(.int (p2 &&& (3 : Int32)))]))
      exact J87_2  _ (own_m3 _)
  · skip
    refine Go.step (fun _ k => XS.ifYes X0.here hx rfl (pc0 := 5) (pc' := 22) rfl (hb hby at_5) rfl ((if0 _ _).trans (feq hc5).2) (by decide) (by decide) k) ?_
    show Go FrameEnd p e below s 0 0 (Q0 Z p1 p2 p3 en0 en1 en2 en3 h0 n0) (s₁.setTop (mkF m 22 #[.val (.int p1), .val (.int p2), .val (.int p3), .val (.int (p1 &&& (3 : Int32))), .unset, .unset, .unset, .unset, .unset] []))
    refine Go.step (fun _ k => XS.iloadN X0.here hx rfl (hb hby at_22) rfl k) ?_
    show Go FrameEnd p e below s 0 0 (Q0 Z p1 p2 p3 en0 en1 en2 en3 h0 n0) (s₁.setTop (mkF m 23 #[.val (.int p1), .val (.int p2), .val (.int p3), .val (.int (p1 &&& (3 : Int32))), .unset, .unset, .unset, .unset, .unset] [(.int (p1 &&& (3 : Int32)))]))
    refine Go.step (fun _ k => XS.iconst X0.here hx rfl (hb hby at_23) k) ?_
    show Go FrameEnd p e below s 0 0 (Q0 Z p1 p2 p3 en0 en1 en2 en3 h0 n0) (s₁.setTop (mkF m 24 #[.val (.int p1), .val (.int p2), .val (.int p3), .val (.int (p1 &&& (3 : Int32))), .unset, .unset, .unset, .unset, .unset] [(.int (1 : Int32)), (.int (p1 &&& (3 : Int32)))]))
    by_cases hc24 : (p1 &&& (3 : Int32)) = (1 : Int32)
    · skip
      refine Go.step (fun _ k => XS.icmpNo X0.here hx rfl (hb hby at_24) rfl (teq hc24).2 k) ?_
      show Go FrameEnd p e below s 0 0 (Q0 Z p1 p2 p3 en0 en1 en2 en3 h0 n0) (s₁.setTop (mkF m 27 #[.val (.int p1), .val (.int p2), .val (.int p3), .val (.int (p1 &&& (3 : Int32))), .unset, .unset, .unset, .unset, .unset] []))
      obtain ⟨T5, X5, e5, st5⟩ := getS2 X0 hx hZ hown (host := "") (Or.inl (hw _ (List.mem_of_getElem? (i := 13) rfl))) Via.refl e0 S_ZERO_OR_ONE (g := (mkF m 27 #[.val (.int p1), .val (.int p2), .val (.int p3), .val (.int (p1 &&& (3 : Int32))), .unset, .unset, .unset, .unset, .unset] [])) rfl (hb hby at_27)
      refine Go.step st5 ?_
      show Go FrameEnd p e below s 0 0 (Q0 Z p1 p2 p3 en0 en1 en2 en3 h0 n0) (T5.setTop (mkF m 30 #[.val (.int p1), .val (.int p2), .val (.int p3), .val (.int (p1 &&& (3 : Int32))), .unset, .unset, .unset, .unset, .unset] [(.ref en1)]))
      refine Go.step (fun _ k => XS.astore X5.here hx rfl (hb hby at_30) rfl rfl (l' := #[.val (.int p1), .val (.int p2), .val (.int p3), .val (.int (p1 &&& (3 : Int32))), .val (.ref en1), .unset, .unset, .unset, .unset]) rfl k) ?_
      show Go FrameEnd p e below s 0 0 (Q0 Z p1 p2 p3 en0 en1 en2 en3 h0 n0) (T5.setTop (mkF m 32 #[.val (.int p1), .val (.int p2), .val (.int p3), .val (.int (p1 &&& (3 : Int32))), .val (.ref en1), .unset, .unset, .unset, .unset] []))
      refine Go.step (fun _ k => XS.iconst X5.here hx rfl (hb hby at_32) k) ?_
      show Go FrameEnd p e below s 0 0 (Q0 Z p1 p2 p3 en0 en1 en2 en3 h0 n0) (T5.setTop (mkF m 33 #[.val (.int p1), .val (.int p2), .val (.int p3), .val (.int (p1 &&& (3 : Int32))), .val (.ref en1), .unset, .unset, .unset, .unset] [(.int (0 : Int32))]))
      refine Go.step (fun _ k => XS.istore X5.here hx rfl (hb hby at_33) rfl (l' := #[.val (.int p1), .val (.int p2), .val (.int p3), .val (.int (p1 &&& (3 : Int32))), .val (.ref en1), .val (.int (0 : Int32)), .unset, .unset, .unset]) rfl k) ?_
      show Go FrameEnd p e below s 0 0 (Q0 Z p1 p2 p3 en0 en1 en2 en3 h0 n0) (T5.setTop (mkF m 35 #[.val (.int p1), .val (.int p2), .val (.int p3), .val (.int (p1 &&& (3 : Int32))), .val (.ref en1), .val (.int (0 : Int32)), .unset, .unset, .unset] []))
      refine Go.step (fun _ k => XS.iconst X5.here hx rfl (hb hby at_35) k) ?_
      show Go FrameEnd p e below s 0 0 (Q0 Z p1 p2 p3 en0 en1 en2 en3 h0 n0) (T5.setTop (mkF m 36 #[.val (.int p1), .val (.int p2), .val (.int p3), .val (.int (p1 &&& (3 : Int32))), .val (.ref en1), .val (.int (0 : Int32)), .unset, .unset, .unset] [(.int (0 : Int32))]))
      refine Go.step (fun _ k => XS.istore X5.here hx rfl (hb hby at_36) rfl (l' := #[.val (.int p1), .val (.int p2), .val (.int p3), .val (.int (p1 &&& (3 : Int32))), .val (.ref en1), .val (.int (0 : Int32)), .val (.int (0 : Int32)), .unset, .unset]) rfl k) ?_
      show Go FrameEnd p e below s 0 0 (Q0 Z p1 p2 p3 en0 en1 en2 en3 h0 n0) (T5.setTop (mkF m 38 #[.val (.int p1), .val (.int p2), .val (.int p3), .val (.int (p1 &&& (3 : Int32))), .val (.ref en1), .val (.int (0 : Int32)), .val (.int (0 : Int32)), .unset, .unset] []))
      refine Go.step (fun _ k => XS.goto X5.here hx rfl (pc0 := 38) (pc' := 71) rfl (hb hby at_38) (by decide) (by decide) k) ?_
      show Go FrameEnd p e below s 0 0 (Q0 Z p1 p2 p3 en0 en1 en2 en3 h0 n0) (T5.setTop (mkF m 71 #[.val (.int p1), .val (.int p2), .val (.int p3), .val (.int (p1 &&& (3 : Int32))), .val (.ref en1), .val (.int (0 : Int32)), .val (.int (0 : Int32)), .unset, .unset] []))
      refine Go.step (fun _ k => XS.iloadN X5.here hx rfl (hb hby at_71) rfl k) ?_
      show Go FrameEnd p e below s 0 0 (Q0 Z p1 p2 p3 en0 en1 en2 en3 h0 n0) (T5.setTop (mkF m 72 #[.val (.int p1), .val (.int p2), .val (.int p3), .val (.int (p1 &&& (3 : Int32))), .val (.ref en1), .val (.int (0 : Int32)), .val (.int (0 : Int32)), .unset, .unset] [(.int p3)]))
      refine Go.step (fun _ k => XS.iconst X5.here hx rfl (hb hby at_72) k) ?_
      show Go FrameEnd p e below s 0 0 (Q0 Z p1 p2 p3 en0 en1 en2 en3 h0 n0) (T5.setTop (mkF m 73 #[.val (.int p1), .val (.int p2), .val (.int p3), .val (.int (p1 &&& (3 : Int32))), .val (.ref en1), .val (.int (0 : Int32)), .val (.int (0 : Int32)), .unset, .unset] [(.int (1 : Int32)), (.int p3)]))
      refine Go.step (fun _ k => XS.iand X5.here hx rfl (hb hby at_73) rfl k) ?_
      show Go FrameEnd p e below s 0 0 (Q0 Z p1 p2 p3 en0 en1 en2 en3 h0 n0) (T5.setTop (mkF m 74 #[.val (.int p1), .val (.int p2), .val (.int p3), .val (.int (p1 &&& (3 : Int32))), .val (.ref en1), .val (.int (0 : Int32)), .val (.int (0 : Int32)), .unset, .unset] [(.int (p3 &&& (1 : Int32)))]))
      have J87_6 : ∀ (n : Int32), (¬ n < 0) → Go FrameEnd p e below s 0 0 (Q0 Z p1 p2 p3 en0 en1 en2 en3 h0 n0) (T5.setTop (mkF m 87 #[.val (.int p1), .val (.int p2), .val (.int p3), .val (.int (p1 &&& (3 : Int32))), .val (.ref en1), .val (.int (0 : Int32)), .val (.int (0 : Int32)), .unset, .unset] [(.int n)])) := by
        intro n hn
        show Go FrameEnd p e below s 0 0 (Q0 Z p1 p2 p3 en0 en1 en2 en3 h0 n0) (T5.setTop (mkF m 87 #[.val (.int p1), .val (.int p2), .val (.int p3), .val (.int (p1 &&& (3 : Int32))), .val (.ref en1), .val (.int (0 : Int32)), .val (.int (0 : Int32)), .unset, .unset] [(.int n)]))
        refine Go.step (fun _ k => XS.istore X5.here hx rfl (hb hby at_87) rfl (l' := #[.val (.int p1), .val (.int p2), .val (.int p3), .val (.int (p1 &&& (3 : Int32))), .val (.ref en1), .val (.int (0 : Int32)), .val (.int (0 : Int32)), .val (.int n), .unset]) rfl k) ?_
        show Go FrameEnd p e below s 0 0 (Q0 Z p1 p2 p3 en0 en1 en2 en3 h0 n0) (T5.setTop (mkF m 89 #[.val (.int p1), .val (.int p2), .val (.int p3), .val (.int (p1 &&& (3 : Int32))), .val (.ref en1), .val (.int (0 : Int32)), .val (.int (0 : Int32)), .val (.int n), .unset] []))
        refine Go.step (fun _ k => XS.iload X5.here hx rfl (hb hby at_89) rfl k) ?_
        show Go FrameEnd p e below s 0 0 (Q0 Z p1 p2 p3 en0 en1 en2 en3 h0 n0) (T5.setTop (mkF m 91 #[.val (.int p1), .val (.int p2), .val (.int p3), .val (.int (p1 &&& (3 : Int32))), .val (.ref en1), .val (.int (0 : Int32)), .val (.int (0 : Int32)), .val (.int n), .unset] [(.int n)]))
        refine Go.step (fun _ k => XS.iload X5.here hx rfl (hb hby at_91) rfl k) ?_
        show Go FrameEnd p e below s 0 0 (Q0 Z p1 p2 p3 en0 en1 en2 en3 h0 n0) (T5.setTop (mkF m 93 #[.val (.int p1), .val (.int p2), .val (.int p3), .val (.int (p1 &&& (3 : Int32))), .val (.ref en1), .val (.int (0 : Int32)), .val (.int (0 : Int32)), .val (.int n), .unset] [(.int (0 : Int32)), (.int n)]))
        have J112_7 : ∀ (x : Int32), (allF en1 en1 en2 en3 n = x) → Go FrameEnd p e below s 0 0 (Q0 Z p1 p2 p3 en0 en1 en2 en3 h0 n0) (T5.setTop (mkF m 112 #[.val (.int p1), .val (.int p2), .val (.int p3), .val (.int (p1 &&& (3 : Int32))), .val (.ref en1), .val (.int (0 : Int32)), .val (.int (0 : Int32)), .val (.int n), .unset] [(.int x)])) := by
          intro x hx112
          show Go FrameEnd p e below s 0 0 (Q0 Z p1 p2 p3 en0 en1 en2 en3 h0 n0) (T5.setTop (mkF m 112 #[.val (.int p1), .val (.int p2), .val (.int p3), .val (.int (p1 &&& (3 : Int32))), .val (.ref en1), .val (.int (0 : Int32)), .val (.int (0 : Int32)), .val (.int n), .unset] [(.int x)]))
          refine Go.step (fun _ k => XS.istore X5.here hx rfl (hb hby at_112) rfl (l' := #[.val (.int p1), .val (.int p2), .val (.int p3), .val (.int (p1 &&& (3 : Int32))), .val (.ref en1), .val (.int (0 : Int32)), .val (.int (0 : Int32)), .val (.int n), .val (.int x)]) rfl k) ?_
          show Go FrameEnd p e below s 0 0 (Q0 Z p1 p2 p3 en0 en1 en2 en3 h0 n0) (T5.setTop (mkF m 114 #[.val (.int p1), .val (.int p2), .val (.int p3), .val (.int (p1 &&& (3 : Int32))), .val (.ref en1), .val (.int (0 : Int32)), .val (.int (0 : Int32)), .val (.int n), .val (.int x)] []))
          refine Go.step (fun _ k => XS.aload X5.here hx rfl (hb hby at_114) rfl rfl k) ?_
          show Go FrameEnd p e below s 0 0 (Q0 Z p1 p2 p3 en0 en1 en2 en3 h0 n0) (T5.setTop (mkF m 116 #[.val (.int p1), .val (.int p2), .val (.int p3), .val (.int (p1 &&& (3 : Int32))), .val (.ref en1), .val (.int (0 : Int32)), .val (.int (0 : Int32)), .val (.int n), .val (.int x)] [(.ref en1)]))
          refine Go.step (fun _ k => XS.iload X5.here hx rfl (hb hby at_116) rfl k) ?_
          show Go FrameEnd p e below s 0 0 (Q0 Z p1 p2 p3 en0 en1 en2 en3 h0 n0) (T5.setTop (mkF m 118 #[.val (.int p1), .val (.int p2), .val (.int p3), .val (.int (p1 &&& (3 : Int32))), .val (.ref en1), .val (.int (0 : Int32)), .val (.int (0 : Int32)), .val (.int n), .val (.int x)] [(.int n), (.ref en1)]))
          obtain ⟨cq8, kq8, q8a, q8b, q8c⟩ := isOf hZ e5 E_en1
          obtain ⟨_, _, ⟨T8, L8, k8, n8⟩, -, X8, ⟨Lc8, hQ8, l8, y8, z8⟩, st8⟩ := X5.virtualBack hx (y := (⟨"com/example/loomward/loomward/xpath/SequenceType$Occurrence", "allows", "(I)Z"⟩ : MethodName)) (z := (⟨"com/example/loomward/loomward/xpath/SequenceType$Occurrence", "allows", "(I)Z"⟩ : MethodName)) hown (mvT hZ (hw _ (List.mem_of_getElem? (i := 4) rfl))) (mvT hZ (hw _ (List.mem_of_getElem? (i := 5) rfl))) (notFace_of_selects (args := #[]) (mvT hZ (hw _ (List.mem_of_getElem? (i := 7) rfl)))) (mvT hZ (hw _ (List.mem_of_getElem? (i := 7) rfl))) (mvT hZ (hw _ (List.mem_of_getElem? (i := 6) rfl))) (by decide) (backOf (W := 0) (rm1 l Z a0 hw [] en1 n en1 en2 en3 h0 S_ZERO_OR_ONE S_ZERO_OR_MORE S_ONE_OR_MORE) hZ (hw _ (List.mem_of_getElem? (i := 8) rfl)) (hw _ (List.mem_of_getElem? (i := 1) rfl)) (by decide) (by decide)) q8a q8c (g := (mkF m 118 #[.val (.int p1), .val (.int p2), .val (.int p3), .val (.int (p1 &&& (3 : Int32))), .val (.ref en1), .val (.int (0 : Int32)), .val (.int (0 : Int32)), .val (.int n), .val (.int x)] [(.int n), (.ref en1)])) rfl (by rw [hml]; rfl) (Steps.refl _) (argsL := [(.int n)]) (rest := []) (lenOf pd__I_Z rfl) rfl (by show 2 * 0 + _ ≤ _; exact Nat.le_of_eq rfl) (hb hby at_118) (fun _ _ => ⟨rfl, e5, (by decide : 0 + 0 ≤ _), (by decide : 0 + 0 ≤ _)⟩)
          dsimp only [Pt.U, Pt.locs, Pt.cells, Pt.slots] at X8 l8 y8 z8 st8 hQ8
          subst l8 y8 z8
          obtain ⟨rfl, rfl, e8⟩ := hQ8
          have N8 := Fr.app N0 (Fr.nil n0)
          refine Go.hop st8 ?_
          show Go FrameEnd p e below s 0 0 (Q0 Z p1 p2 p3 en0 en1 en2 en3 h0 n0) (T8.setTop (mkF m 121 #[.val (.int p1), .val (.int p2), .val (.int p3), .val (.int (p1 &&& (3 : Int32))), .val (.ref en1), .val (.int (0 : Int32)), .val (.int (0 : Int32)), .val (.int n), .val (.int x)] [(.int (allF en1 en1 en2 en3 n))]))
          refine Go.step (fun _ k => XS.iload X8.here hx rfl (hb hby at_121) rfl k) ?_
          show Go FrameEnd p e below s 0 0 (Q0 Z p1 p2 p3 en0 en1 en2 en3 h0 n0) (T8.setTop (mkF m 123 #[.val (.int p1), .val (.int p2), .val (.int p3), .val (.int (p1 &&& (3 : Int32))), .val (.ref en1), .val (.int (0 : Int32)), .val (.int (0 : Int32)), .val (.int n), .val (.int x)] [(.int x), (.int (allF en1 en1 en2 en3 n))]))
          refine Go.step (fun _ k => XS.icmpNo X8.here hx rfl (hb hby at_123) rfl (teq hx112).2 k) ?_
          show Go FrameEnd p e below s 0 0 (Q0 Z p1 p2 p3 en0 en1 en2 en3 h0 n0) (T8.setTop (mkF m 126 #[.val (.int p1), .val (.int p2), .val (.int p3), .val (.int (p1 &&& (3 : Int32))), .val (.ref en1), .val (.int (0 : Int32)), .val (.int (0 : Int32)), .val (.int n), .val (.int x)] []))
          refine Go.step (fun _ k => XS.iconst X8.here hx rfl (hb hby at_126) k) ?_
          show Go FrameEnd p e below s 0 0 (Q0 Z p1 p2 p3 en0 en1 en2 en3 h0 n0) (T8.setTop (mkF m 127 #[.val (.int p1), .val (.int p2), .val (.int p3), .val (.int (p1 &&& (3 : Int32))), .val (.ref en1), .val (.int (0 : Int32)), .val (.int (0 : Int32)), .val (.int n), .val (.int x)] [(.int (1 : Int32))]))
          refine Go.step (fun _ k => XS.goto X8.here hx rfl (pc0 := 127) (pc' := 131) rfl (hb hby at_127) (by decide) (by decide) k) ?_
          show Go FrameEnd p e below s 0 0 (Q0 Z p1 p2 p3 en0 en1 en2 en3 h0 n0) (T8.setTop (mkF m 131 #[.val (.int p1), .val (.int p2), .val (.int p3), .val (.int (p1 &&& (3 : Int32))), .val (.ref en1), .val (.int (0 : Int32)), .val (.int (0 : Int32)), .val (.int n), .val (.int x)] [(.int (1 : Int32))]))
          refine Go.retN X8 hx (t := .boolean) Bd.returns (by simp) (by decide) (hb hby at_131) (BodyLoose.notSynchronized Bd) e8 (by decide) (by decide) ?_
          exact ⟨rfl, N8⟩
        by_cases hc93 : n < (0 : Int32)
        · skip
          refine Go.step (fun _ k => XS.icmpYes X5.here hx rfl (pc0 := 93) (pc' := 111) rfl (hb hby at_93) rfl (tlt hc93).1 (by decide) (by decide) k) ?_
          show Go FrameEnd p e below s 0 0 (Q0 Z p1 p2 p3 en0 en1 en2 en3 h0 n0) (T5.setTop (mkF m 111 #[.val (.int p1), .val (.int p2), .val (.int p3), .val (.int (p1 &&& (3 : Int32))), .val (.ref en1), .val (.int (0 : Int32)), .val (.int (0 : Int32)), .val (.int n), .unset] []))
          refine Go.step (fun _ k => XS.iconst X5.here hx rfl (hb hby at_111) k) ?_
          show Go FrameEnd p e below s 0 0 (Q0 Z p1 p2 p3 en0 en1 en2 en3 h0 n0) (T5.setTop (mkF m 112 #[.val (.int p1), .val (.int p2), .val (.int p3), .val (.int (p1 &&& (3 : Int32))), .val (.ref en1), .val (.int (0 : Int32)), .val (.int (0 : Int32)), .val (.int n), .unset] [(.int (0 : Int32))]))
          exact J112_7  _ (by rw [(al1 ne1_2 ne1_3 hn)]; (first | contradiction | simp only [eq_self, eq_false hc5, eq_true hc24, eq_true hc93, true_or, or_true, false_or, or_false, or_self, true_and, and_true, false_and, and_false, and_self, not_true_eq_false, not_false_eq_true, if_true, if_false]))
        · skip
          refine Go.step (fun _ k => XS.icmpNo X5.here hx rfl (hb hby at_93) rfl (flt hc93).1 k) ?_
          show Go FrameEnd p e below s 0 0 (Q0 Z p1 p2 p3 en0 en1 en2 en3 h0 n0) (T5.setTop (mkF m 96 #[.val (.int p1), .val (.int p2), .val (.int p3), .val (.int (p1 &&& (3 : Int32))), .val (.ref en1), .val (.int (0 : Int32)), .val (.int (0 : Int32)), .val (.int n), .unset] []))
          refine Go.step (fun _ k => XS.iload X5.here hx rfl (hb hby at_96) rfl k) ?_
          show Go FrameEnd p e below s 0 0 (Q0 Z p1 p2 p3 en0 en1 en2 en3 h0 n0) (T5.setTop (mkF m 98 #[.val (.int p1), .val (.int p2), .val (.int p3), .val (.int (p1 &&& (3 : Int32))), .val (.ref en1), .val (.int (0 : Int32)), .val (.int (0 : Int32)), .val (.int n), .unset] [(.int (0 : Int32))]))
          refine Go.step (fun _ k => XS.ifNo X5.here hx rfl (hb hby at_98) rfl ((if0 _ _).trans (teq rfl).2) k) ?_
          show Go FrameEnd p e below s 0 0 (Q0 Z p1 p2 p3 en0 en1 en2 en3 h0 n0) (T5.setTop (mkF m 101 #[.val (.int p1), .val (.int p2), .val (.int p3), .val (.int (p1 &&& (3 : Int32))), .val (.ref en1), .val (.int (0 : Int32)), .val (.int (0 : Int32)), .val (.int n), .unset] []))
          refine Go.step (fun _ k => XS.iload X5.here hx rfl (hb hby at_101) rfl k) ?_
          show Go FrameEnd p e below s 0 0 (Q0 Z p1 p2 p3 en0 en1 en2 en3 h0 n0) (T5.setTop (mkF m 103 #[.val (.int p1), .val (.int p2), .val (.int p3), .val (.int (p1 &&& (3 : Int32))), .val (.ref en1), .val (.int (0 : Int32)), .val (.int (0 : Int32)), .val (.int n), .unset] [(.int n)]))
          refine Go.step (fun _ k => XS.iconst X5.here hx rfl (hb hby at_103) k) ?_
          show Go FrameEnd p e below s 0 0 (Q0 Z p1 p2 p3 en0 en1 en2 en3 h0 n0) (T5.setTop (mkF m 104 #[.val (.int p1), .val (.int p2), .val (.int p3), .val (.int (p1 &&& (3 : Int32))), .val (.ref en1), .val (.int (0 : Int32)), .val (.int (0 : Int32)), .val (.int n), .unset] [(.int (1 : Int32)), (.int n)]))
          by_cases hc104 : (1 : Int32) < n
          · skip
            refine Go.step (fun _ k => XS.icmpYes X5.here hx rfl (pc0 := 104) (pc' := 111) rfl (hb hby at_104) rfl (tlt hc104).2.2.1 (by decide) (by decide) k) ?_
            show Go FrameEnd p e below s 0 0 (Q0 Z p1 p2 p3 en0 en1 en2 en3 h0 n0) (T5.setTop (mkF m 111 #[.val (.int p1), .val (.int p2), .val (.int p3), .val (.int (p1 &&& (3 : Int32))), .val (.ref en1), .val (.int (0 : Int32)), .val (.int (0 : Int32)), .val (.int n), .unset] []))
            refine Go.step (fun _ k => XS.iconst X5.here hx rfl (hb hby at_111) k) ?_
            show Go FrameEnd p e below s 0 0 (Q0 Z p1 p2 p3 en0 en1 en2 en3 h0 n0) (T5.setTop (mkF m 112 #[.val (.int p1), .val (.int p2), .val (.int p3), .val (.int (p1 &&& (3 : Int32))), .val (.ref en1), .val (.int (0 : Int32)), .val (.int (0 : Int32)), .val (.int n), .unset] [(.int (0 : Int32))]))
            exact J112_7  _ (by rw [(al1 ne1_2 ne1_3 hn)]; (first | contradiction | simp only [eq_self, eq_false hc5, eq_true hc24, eq_false hc93, eq_true hc104, true_or, or_true, false_or, or_false, or_self, true_and, and_true, false_and, and_false, and_self, not_true_eq_false, not_false_eq_true, if_true, if_false]))
          · skip
            refine Go.step (fun _ k => XS.icmpNo X5.here hx rfl (hb hby at_104) rfl (flt hc104).2.2.1 k) ?_
            show Go FrameEnd p e below s 0 0 (Q0 Z p1 p2 p3 en0 en1 en2 en3 h0 n0) (T5.setTop (mkF m 107 #[.val (.int p1), .val (.int p2), .val (.int p3), .val (.int (p1 &&& (3 : Int32))), .val (.ref en1), .val (.int (0 : Int32)), .val (.int (0 : Int32)), .val (.int n), .unset] []))
            refine Go.step (fun _ k => XS.iconst X5.here hx rfl (hb hby at_107) k) ?_
            show Go FrameEnd p e below s 0 0 (Q0 Z p1 p2 p3 en0 en1 en2 en3 h0 n0) (T5.setTop (mkF m 108 #[.val (.int p1), .val (.int p2), .val (.int p3), .val (.int (p1 &&& (3 : Int32))), .val (.ref en1), .val (.int (0 : Int32)), .val (.int (0 : Int32)), .val (.int n), .unset] [(.int (1 : Int32))]))
            refine Go.step (fun _ k => XS.goto X5.here hx rfl (pc0 := 108) (pc' := 112) rfl (hb hby at_108) (by decide) (by decide) k) ?_
            show Go FrameEnd p e below s 0 0 (Q0 Z p1 p2 p3 en0 en1 en2 en3 h0 n0) (T5.setTop (mkF m 112 #[.val (.int p1), .val (.int p2), .val (.int p3), .val (.int (p1 &&& (3 : Int32))), .val (.ref en1), .val (.int (0 : Int32)), .val (.int (0 : Int32)), .val (.int n), .unset] [(.int (1 : Int32))]))
            exact J112_7  _ (by rw [(al1 ne1_2 ne1_3 hn)]; (first | contradiction | simp only [eq_self, eq_false hc5, eq_true hc24, eq_false hc93, eq_false hc104, true_or, or_true, false_or, or_false, or_self, true_and, and_true, false_and, and_false, and_self, not_true_eq_false, not_false_eq_true, if_true, if_false]))
      by_cases hc74 : (p3 &&& (1 : Int32)) = (0 : Int32)
      · skip
        refine Go.step (fun _ k => XS.ifYes X5.here hx rfl (pc0 := 74) (pc' := 83) rfl (hb hby at_74) rfl ((if0 _ _).trans (teq hc74).1) (by decide) (by decide) k) ?_
        show Go FrameEnd p e below s 0 0 (Q0 Z p1 p2 p3 en0 en1 en2 en3 h0 n0) (T5.setTop (mkF m 83 #[.val (.int p1), .val (.int p2), .val (.int p3), .val (.int (p1 &&& (3 : Int32))), .val (.ref en1), .val (.int (0 : Int32)), .val (.int (0 : Int32)), .unset, .unset] []))
        refine Go.step (fun _ k => XS.iloadN X5.here hx rfl (hb hby at_83) rfl k) ?_
        show Go FrameEnd p e below s 0 0 (Q0 Z p1 p2 p3 en0 en1 en2 en3 h0 n0) (T5.setTop (mkF m 84 #[.val (.int p1), .val (.int p2), .val (.int p3), .val (.int (p1 &&& (3 : Int32))), .val (.ref en1), .val (.int (0 : Int32)), .val (.int (0 : Int32)), .unset, .unset] [(.int p2)]))
        refine Go.step (X5.ldcInt hx hown (mvT hZ (hw _ (List.mem_of_getElem? (i := 3) rfl))) (g := (mkF m 84 #[.val (.int p1), .val (.int p2), .val (.int p3), .val (.int (p1 &&& (3 : Int32))), .val (.ref en1), .val (.int (0 : Int32)), .val (.int (0 : Int32)), .unset, .unset] [(.int p2)])) rfl (hb hby at_84)) ?_
        show Go FrameEnd p e below s 0 0 (Q0 Z p1 p2 p3 en0 en1 en2 en3 h0 n0) (T5.setTop (mkF m 86 #[.val (.int p1), .val (.int p2), .val (.int p3), .val (.int (p1 &&& (3 : Int32))), .val (.ref en1), .val (.int (0 : Int32)), .val (.int (0 : Int32)), .unset, .unset] [(.int (2147483647 : Int32)), (.int p2)]))
        refine Go.step (fun _ k => XS.iand X5.here hx rfl (hb hby at_86) rfl k) ?_
        show Go FrameEnd p e below s 0 0 (Q0 Z p1 p2 p3 en0 en1 en2 en3 h0 n0) (T5.setTop (mkF m 87 #[.val (.int p1), .val (.int p2), .val (.int p3), .val (.int (p1 &&& (3 : Int32))), .val (.ref en1), .val (.int (0 : Int32)), .val (.int (0 : Int32)), .unset, .unset] [(.int (p2 &&& (2147483647 : Int32)))]))
        exact J87_6  _ (own_mx _)
      · skip
        refine Go.step (fun _ k => XS.ifNo X5.here hx rfl (hb hby at_74) rfl ((if0 _ _).trans (feq hc74).1) k) ?_
        show Go FrameEnd p e below s 0 0 (Q0 Z p1 p2 p3 en0 en1 en2 en3 h0 n0) (T5.setTop (mkF m 77 #[.val (.int p1), .val (.int p2), .val (.int p3), .val (.int (p1 &&& (3 : Int32))), .val (.ref en1), .val (.int (0 : Int32)), .val (.int (0 : Int32)), .unset, .unset] []))
        refine Go.step (fun _ k => XS.iloadN X5.here hx rfl (hb hby at_77) rfl k) ?_
        show Go FrameEnd p e below s 0 0 (Q0 Z p1 p2 p3 en0 en1 en2 en3 h0 n0) (T5.setTop (mkF m 78 #[.val (.int p1), .val (.int p2), .val (.int p3), .val (.int (p1 &&& (3 : Int32))), .val (.ref en1), .val (.int (0 : Int32)), .val (.int (0 : Int32)), .unset, .unset] [(.int p2)]))
        refine Go.step (fun _ k => XS.iconst X5.here hx rfl (hb hby at_78) k) ?_
        show Go FrameEnd p e below s 0 0 (Q0 Z p1 p2 p3 en0 en1 en2 en3 h0 n0) (T5.setTop (mkF m 79 #[.val (.int p1), .val (.int p2), .val (.int p3), .val (.int (p1 &&& (3 : Int32))), .val (.ref en1), .val (.int (0 : Int32)), .val (.int (0 : Int32)), .unset, .unset] [(.int (3 : Int32)), (.int p2)]))
        refine Go.step (fun _ k => XS.iand X5.here hx rfl (hb hby at_79) rfl k) ?_
        show Go FrameEnd p e below s 0 0 (Q0 Z p1 p2 p3 en0 en1 en2 en3 h0 n0) (T5.setTop (mkF m 80 #[.val (.int p1), .val (.int p2), .val (.int p3), .val (.int (p1 &&& (3 : Int32))), .val (.ref en1), .val (.int (0 : Int32)), .val (.int (0 : Int32)), .unset, .unset] [(.int (p2 &&& (3 : Int32)))]))
        refine Go.step (fun _ k => XS.goto X5.here hx rfl (pc0 := 80) (pc' := 87) rfl (hb hby at_80) (by decide) (by decide) k) ?_
        show Go FrameEnd p e below s 0 0 (Q0 Z p1 p2 p3 en0 en1 en2 en3 h0 n0) (T5.setTop (mkF m 87 #[.val (.int p1), .val (.int p2), .val (.int p3), .val (.int (p1 &&& (3 : Int32))), .val (.ref en1), .val (.int (0 : Int32)), .val (.int (0 : Int32)), .unset, .unset] [(.int (p2 &&& (3 : Int32)))]))
        exact J87_6  _ (own_m3 _)
    · skip
      refine Go.step (fun _ k => XS.icmpYes X0.here hx rfl (pc0 := 24) (pc' := 41) rfl (hb hby at_24) rfl (feq hc24).2 (by decide) (by decide) k) ?_
      show Go FrameEnd p e below s 0 0 (Q0 Z p1 p2 p3 en0 en1 en2 en3 h0 n0) (s₁.setTop (mkF m 41 #[.val (.int p1), .val (.int p2), .val (.int p3), .val (.int (p1 &&& (3 : Int32))), .unset, .unset, .unset, .unset, .unset] []))
      refine Go.step (fun _ k => XS.iloadN X0.here hx rfl (hb hby at_41) rfl k) ?_
      show Go FrameEnd p e below s 0 0 (Q0 Z p1 p2 p3 en0 en1 en2 en3 h0 n0) (s₁.setTop (mkF m 42 #[.val (.int p1), .val (.int p2), .val (.int p3), .val (.int (p1 &&& (3 : Int32))), .unset, .unset, .unset, .unset, .unset] [(.int (p1 &&& (3 : Int32)))]))
      refine Go.step (fun _ k => XS.iconst X0.here hx rfl (hb hby at_42) k) ?_
      show Go FrameEnd p e below s 0 0 (Q0 Z p1 p2 p3 en0 en1 en2 en3 h0 n0) (s₁.setTop (mkF m 43 #[.val (.int p1), .val (.int p2), .val (.int p3), .val (.int (p1 &&& (3 : Int32))), .unset, .unset, .unset, .unset, .unset] [(.int (2 : Int32)), (.int (p1 &&& (3 : Int32)))]))
      by_cases hc43 : (p1 &&& (3 : Int32)) = (2 : Int32)
      · skip
        refine Go.step (fun _ k => XS.icmpNo X0.here hx rfl (hb hby at_43) rfl (teq hc43).2 k) ?_
        show Go FrameEnd p e below s 0 0 (Q0 Z p1 p2 p3 en0 en1 en2 en3 h0 n0) (s₁.setTop (mkF m 46 #[.val (.int p1), .val (.int p2), .val (.int p3), .val (.int (p1 &&& (3 : Int32))), .unset, .unset, .unset, .unset, .unset] []))
        obtain ⟨T9, X9, e9, st9⟩ := getS2 X0 hx hZ hown (host := "") (Or.inl (hw _ (List.mem_of_getElem? (i := 17) rfl))) Via.refl e0 S_ZERO_OR_MORE (g := (mkF m 46 #[.val (.int p1), .val (.int p2), .val (.int p3), .val (.int (p1 &&& (3 : Int32))), .unset, .unset, .unset, .unset, .unset] [])) rfl (hb hby at_46)
        refine Go.step st9 ?_
        show Go FrameEnd p e below s 0 0 (Q0 Z p1 p2 p3 en0 en1 en2 en3 h0 n0) (T9.setTop (mkF m 49 #[.val (.int p1), .val (.int p2), .val (.int p3), .val (.int (p1 &&& (3 : Int32))), .unset, .unset, .unset, .unset, .unset] [(.ref en2)]))
        refine Go.step (fun _ k => XS.astore X9.here hx rfl (hb hby at_49) rfl rfl (l' := #[.val (.int p1), .val (.int p2), .val (.int p3), .val (.int (p1 &&& (3 : Int32))), .val (.ref en2), .unset, .unset, .unset, .unset]) rfl k) ?_
        show Go FrameEnd p e below s 0 0 (Q0 Z p1 p2 p3 en0 en1 en2 en3 h0 n0) (T9.setTop (mkF m 51 #[.val (.int p1), .val (.int p2), .val (.int p3), .val (.int (p1 &&& (3 : Int32))), .val (.ref en2), .unset, .unset, .unset, .unset] []))
        refine Go.step (fun _ k => XS.iconst X9.here hx rfl (hb hby at_51) k) ?_
        show Go FrameEnd p e below s 0 0 (Q0 Z p1 p2 p3 en0 en1 en2 en3 h0 n0) (T9.setTop (mkF m 52 #[.val (.int p1), .val (.int p2), .val (.int p3), .val (.int (p1 &&& (3 : Int32))), .val (.ref en2), .unset, .unset, .unset, .unset] [(.int (0 : Int32))]))
        refine Go.step (fun _ k => XS.istore X9.here hx rfl (hb hby at_52) rfl (l' := #[.val (.int p1), .val (.int p2), .val (.int p3), .val (.int (p1 &&& (3 : Int32))), .val (.ref en2), .val (.int (0 : Int32)), .unset, .unset, .unset]) rfl k) ?_
        show Go FrameEnd p e below s 0 0 (Q0 Z p1 p2 p3 en0 en1 en2 en3 h0 n0) (T9.setTop (mkF m 54 #[.val (.int p1), .val (.int p2), .val (.int p3), .val (.int (p1 &&& (3 : Int32))), .val (.ref en2), .val (.int (0 : Int32)), .unset, .unset, .unset] []))
        refine Go.step (fun _ k => XS.iconst X9.here hx rfl (hb hby at_54) k) ?_
        show Go FrameEnd p e below s 0 0 (Q0 Z p1 p2 p3 en0 en1 en2 en3 h0 n0) (T9.setTop (mkF m 55 #[.val (.int p1), .val (.int p2), .val (.int p3), .val (.int (p1 &&& (3 : Int32))), .val (.ref en2), .val (.int (0 : Int32)), .unset, .unset, .unset] [(.int (1 : Int32))]))
        refine Go.step (fun _ k => XS.istore X9.here hx rfl (hb hby at_55) rfl (l' := #[.val (.int p1), .val (.int p2), .val (.int p3), .val (.int (p1 &&& (3 : Int32))), .val (.ref en2), .val (.int (0 : Int32)), .val (.int (1 : Int32)), .unset, .unset]) rfl k) ?_
        show Go FrameEnd p e below s 0 0 (Q0 Z p1 p2 p3 en0 en1 en2 en3 h0 n0) (T9.setTop (mkF m 57 #[.val (.int p1), .val (.int p2), .val (.int p3), .val (.int (p1 &&& (3 : Int32))), .val (.ref en2), .val (.int (0 : Int32)), .val (.int (1 : Int32)), .unset, .unset] []))
        refine Go.step (fun _ k => XS.goto X9.here hx rfl (pc0 := 57) (pc' := 71) rfl (hb hby at_57) (by decide) (by decide) k) ?_
        show Go FrameEnd p e below s 0 0 (Q0 Z p1 p2 p3 en0 en1 en2 en3 h0 n0) (T9.setTop (mkF m 71 #[.val (.int p1), .val (.int p2), .val (.int p3), .val (.int (p1 &&& (3 : Int32))), .val (.ref en2), .val (.int (0 : Int32)), .val (.int (1 : Int32)), .unset, .unset] []))
        refine Go.step (fun _ k => XS.iloadN X9.here hx rfl (hb hby at_71) rfl k) ?_
        show Go FrameEnd p e below s 0 0 (Q0 Z p1 p2 p3 en0 en1 en2 en3 h0 n0) (T9.setTop (mkF m 72 #[.val (.int p1), .val (.int p2), .val (.int p3), .val (.int (p1 &&& (3 : Int32))), .val (.ref en2), .val (.int (0 : Int32)), .val (.int (1 : Int32)), .unset, .unset] [(.int p3)]))
        refine Go.step (fun _ k => XS.iconst X9.here hx rfl (hb hby at_72) k) ?_
        show Go FrameEnd p e below s 0 0 (Q0 Z p1 p2 p3 en0 en1 en2 en3 h0 n0) (T9.setTop (mkF m 73 #[.val (.int p1), .val (.int p2), .val (.int p3), .val (.int (p1 &&& (3 : Int32))), .val (.ref en2), .val (.int (0 : Int32)), .val (.int (1 : Int32)), .unset, .unset] [(.int (1 : Int32)), (.int p3)]))
        refine Go.step (fun _ k => XS.iand X9.here hx rfl (hb hby at_73) rfl k) ?_
        show Go FrameEnd p e below s 0 0 (Q0 Z p1 p2 p3 en0 en1 en2 en3 h0 n0) (T9.setTop (mkF m 74 #[.val (.int p1), .val (.int p2), .val (.int p3), .val (.int (p1 &&& (3 : Int32))), .val (.ref en2), .val (.int (0 : Int32)), .val (.int (1 : Int32)), .unset, .unset] [(.int (p3 &&& (1 : Int32)))]))
        have J87_10 : ∀ (n : Int32), (¬ n < 0) → Go FrameEnd p e below s 0 0 (Q0 Z p1 p2 p3 en0 en1 en2 en3 h0 n0) (T9.setTop (mkF m 87 #[.val (.int p1), .val (.int p2), .val (.int p3), .val (.int (p1 &&& (3 : Int32))), .val (.ref en2), .val (.int (0 : Int32)), .val (.int (1 : Int32)), .unset, .unset] [(.int n)])) := by
          intro n hn
          show Go FrameEnd p e below s 0 0 (Q0 Z p1 p2 p3 en0 en1 en2 en3 h0 n0) (T9.setTop (mkF m 87 #[.val (.int p1), .val (.int p2), .val (.int p3), .val (.int (p1 &&& (3 : Int32))), .val (.ref en2), .val (.int (0 : Int32)), .val (.int (1 : Int32)), .unset, .unset] [(.int n)]))
          refine Go.step (fun _ k => XS.istore X9.here hx rfl (hb hby at_87) rfl (l' := #[.val (.int p1), .val (.int p2), .val (.int p3), .val (.int (p1 &&& (3 : Int32))), .val (.ref en2), .val (.int (0 : Int32)), .val (.int (1 : Int32)), .val (.int n), .unset]) rfl k) ?_
          show Go FrameEnd p e below s 0 0 (Q0 Z p1 p2 p3 en0 en1 en2 en3 h0 n0) (T9.setTop (mkF m 89 #[.val (.int p1), .val (.int p2), .val (.int p3), .val (.int (p1 &&& (3 : Int32))), .val (.ref en2), .val (.int (0 : Int32)), .val (.int (1 : Int32)), .val (.int n), .unset] []))
          refine Go.step (fun _ k => XS.iload X9.here hx rfl (hb hby at_89) rfl k) ?_
          show Go FrameEnd p e below s 0 0 (Q0 Z p1 p2 p3 en0 en1 en2 en3 h0 n0) (T9.setTop (mkF m 91 #[.val (.int p1), .val (.int p2), .val (.int p3), .val (.int (p1 &&& (3 : Int32))), .val (.ref en2), .val (.int (0 : Int32)), .val (.int (1 : Int32)), .val (.int n), .unset] [(.int n)]))
          refine Go.step (fun _ k => XS.iload X9.here hx rfl (hb hby at_91) rfl k) ?_
          show Go FrameEnd p e below s 0 0 (Q0 Z p1 p2 p3 en0 en1 en2 en3 h0 n0) (T9.setTop (mkF m 93 #[.val (.int p1), .val (.int p2), .val (.int p3), .val (.int (p1 &&& (3 : Int32))), .val (.ref en2), .val (.int (0 : Int32)), .val (.int (1 : Int32)), .val (.int n), .unset] [(.int (0 : Int32)), (.int n)]))
          have J112_11 : ∀ (x : Int32), (allF en2 en1 en2 en3 n = x) → Go FrameEnd p e below s 0 0 (Q0 Z p1 p2 p3 en0 en1 en2 en3 h0 n0) (T9.setTop (mkF m 112 #[.val (.int p1), .val (.int p2), .val (.int p3), .val (.int (p1 &&& (3 : Int32))), .val (.ref en2), .val (.int (0 : Int32)), .val (.int (1 : Int32)), .val (.int n), .unset] [(.int x)])) := by
            intro x hx112
            show Go FrameEnd p e below s 0 0 (Q0 Z p1 p2 p3 en0 en1 en2 en3 h0 n0) (T9.setTop (mkF m 112 #[.val (.int p1), .val (.int p2), .val (.int p3), .val (.int (p1 &&& (3 : Int32))), .val (.ref en2), .val (.int (0 : Int32)), .val (.int (1 : Int32)), .val (.int n), .unset] [(.int x)]))
            refine Go.step (fun _ k => XS.istore X9.here hx rfl (hb hby at_112) rfl (l' := #[.val (.int p1), .val (.int p2), .val (.int p3), .val (.int (p1 &&& (3 : Int32))), .val (.ref en2), .val (.int (0 : Int32)), .val (.int (1 : Int32)), .val (.int n), .val (.int x)]) rfl k) ?_
            show Go FrameEnd p e below s 0 0 (Q0 Z p1 p2 p3 en0 en1 en2 en3 h0 n0) (T9.setTop (mkF m 114 #[.val (.int p1), .val (.int p2), .val (.int p3), .val (.int (p1 &&& (3 : Int32))), .val (.ref en2), .val (.int (0 : Int32)), .val (.int (1 : Int32)), .val (.int n), .val (.int x)] []))
            refine Go.step (fun _ k => XS.aload X9.here hx rfl (hb hby at_114) rfl rfl k) ?_
            show Go FrameEnd p e below s 0 0 (Q0 Z p1 p2 p3 en0 en1 en2 en3 h0 n0) (T9.setTop (mkF m 116 #[.val (.int p1), .val (.int p2), .val (.int p3), .val (.int (p1 &&& (3 : Int32))), .val (.ref en2), .val (.int (0 : Int32)), .val (.int (1 : Int32)), .val (.int n), .val (.int x)] [(.ref en2)]))
            refine Go.step (fun _ k => XS.iload X9.here hx rfl (hb hby at_116) rfl k) ?_
            show Go FrameEnd p e below s 0 0 (Q0 Z p1 p2 p3 en0 en1 en2 en3 h0 n0) (T9.setTop (mkF m 118 #[.val (.int p1), .val (.int p2), .val (.int p3), .val (.int (p1 &&& (3 : Int32))), .val (.ref en2), .val (.int (0 : Int32)), .val (.int (1 : Int32)), .val (.int n), .val (.int x)] [(.int n), (.ref en2)]))
            obtain ⟨cq12, kq12, q12a, q12b, q12c⟩ := isOf hZ e9 E_en2
            obtain ⟨_, _, ⟨T12, L12, k12, n12⟩, -, X12, ⟨Lc12, hQ12, l12, y12, z12⟩, st12⟩ := X9.virtualBack hx (y := (⟨"com/example/loomward/loomward/xpath/SequenceType$Occurrence", "allows", "(I)Z"⟩ : MethodName)) (z := (⟨"com/example/loomward/loomward/xpath/SequenceType$Occurrence", "allows", "(I)Z"⟩ : MethodName)) hown (mvT hZ (hw _ (List.mem_of_getElem? (i := 4) rfl))) (mvT hZ (hw _ (List.mem_of_getElem? (i := 5) rfl))) (notFace_of_selects (args := #[]) (mvT hZ (hw _ (List.mem_of_getElem? (i := 7) rfl)))) (mvT hZ (hw _ (List.mem_of_getElem? (i := 7) rfl))) (mvT hZ (hw _ (List.mem_of_getElem? (i := 6) rfl))) (by decide) (backOf (W := 0) (rm1 l Z a0 hw [] en2 n en1 en2 en3 h0 S_ZERO_OR_ONE S_ZERO_OR_MORE S_ONE_OR_MORE) hZ (hw _ (List.mem_of_getElem? (i := 8) rfl)) (hw _ (List.mem_of_getElem? (i := 1) rfl)) (by decide) (by decide)) q12a q12c (g := (mkF m 118 #[.val (.int p1), .val (.int p2), .val (.int p3), .val (.int (p1 &&& (3 : Int32))), .val (.ref en2), .val (.int (0 : Int32)), .val (.int (1 : Int32)), .val (.int n), .val (.int x)] [(.int n), (.ref en2)])) rfl (by rw [hml]; rfl) (Steps.refl _) (argsL := [(.int n)]) (rest := []) (lenOf pd__I_Z rfl) rfl (by show 2 * 0 + _ ≤ _; exact Nat.le_of_eq rfl) (hb hby at_118) (fun _ _ => ⟨rfl, e9, (by decide : 0 + 0 ≤ _), (by decide : 0 + 0 ≤ _)⟩)
            dsimp only [Pt.U, Pt.locs, Pt.cells, Pt.slots] at X12 l12 y12 z12 st12 hQ12
            subst l12 y12 z12
            obtain ⟨rfl, rfl, e12⟩ := hQ12
            have N12 := Fr.app N0 (Fr.nil n0)
            refine Go.hop st12 ?_
            show Go FrameEnd p e below s 0 0 (Q0 Z p1 p2 p3 en0 en1 en2 en3 h0 n0) (T12.setTop (mkF m 121 #[.val (.int p1), .val (.int p2), .val (.int p3), .val (.int (p1 &&& (3 : Int32))), .val (.ref en2), .val (.int (0 : Int32)), .val (.int (1 : Int32)), .val (.int n), .val (.int x)] [(.int (allF en2 en1 en2 en3 n))]))
            refine Go.step (fun _ k => XS.iload X12.here hx rfl (hb hby at_121) rfl k) ?_
            show Go FrameEnd p e below s 0 0 (Q0 Z p1 p2 p3 en0 en1 en2 en3 h0 n0) (T12.setTop (mkF m 123 #[.val (.int p1), .val (.int p2), .val (.int p3), .val (.int (p1 &&& (3 : Int32))), .val (.ref en2), .val (.int (0 : Int32)), .val (.int (1 : Int32)), .val (.int n), .val (.int x)] [(.int x), (.int (allF en2 en1 en2 en3 n))]))
            refine Go.step (fun _ k => XS.icmpNo X12.here hx rfl (hb hby at_123) rfl (teq hx112).2 k) ?_
            show Go FrameEnd p e below s 0 0 (Q0 Z p1 p2 p3 en0 en1 en2 en3 h0 n0) (T12.setTop (mkF m 126 #[.val (.int p1), .val (.int p2), .val (.int p3), .val (.int (p1 &&& (3 : Int32))), .val (.ref en2), .val (.int (0 : Int32)), .val (.int (1 : Int32)), .val (.int n), .val (.int x)] []))
            refine Go.step (fun _ k => XS.iconst X12.here hx rfl (hb hby at_126) k) ?_
            show Go FrameEnd p e below s 0 0 (Q0 Z p1 p2 p3 en0 en1 en2 en3 h0 n0) (T12.setTop (mkF m 127 #[.val (.int p1), .val (.int p2), .val (.int p3), .val (.int (p1 &&& (3 : Int32))), .val (.ref en2), .val (.int (0 : Int32)), .val (.int (1 : Int32)), .val (.int n), .val (.int x)] [(.int (1 : Int32))]))
            refine Go.step (fun _ k => XS.goto X12.here hx rfl (pc0 := 127) (pc' := 131) rfl (hb hby at_127) (by decide) (by decide) k) ?_
            show Go FrameEnd p e below s 0 0 (Q0 Z p1 p2 p3 en0 en1 en2 en3 h0 n0) (T12.setTop (mkF m 131 #[.val (.int p1), .val (.int p2), .val (.int p3), .val (.int (p1 &&& (3 : Int32))), .val (.ref en2), .val (.int (0 : Int32)), .val (.int (1 : Int32)), .val (.int n), .val (.int x)] [(.int (1 : Int32))]))
            refine Go.retN X12 hx (t := .boolean) Bd.returns (by simp) (by decide) (hb hby at_131) (BodyLoose.notSynchronized Bd) e12 (by decide) (by decide) ?_
            exact ⟨rfl, N12⟩
          by_cases hc93 : n < (0 : Int32)
          · skip
            refine Go.step (fun _ k => XS.icmpYes X9.here hx rfl (pc0 := 93) (pc' := 111) rfl (hb hby at_93) rfl (tlt hc93).1 (by decide) (by decide) k) ?_
            show Go FrameEnd p e below s 0 0 (Q0 Z p1 p2 p3 en0 en1 en2 en3 h0 n0) (T9.setTop (mkF m 111 #[.val (.int p1), .val (.int p2), .val (.int p3), .val (.int (p1 &&& (3 : Int32))), .val (.ref en2), .val (.int (0 : Int32)), .val (.int (1 : Int32)), .val (.int n), .unset] []))
            refine Go.step (fun _ k => XS.iconst X9.here hx rfl (hb hby at_111) k) ?_
            show Go FrameEnd p e below s 0 0 (Q0 Z p1 p2 p3 en0 en1 en2 en3 h0 n0) (T9.setTop (mkF m 112 #[.val (.int p1), .val (.int p2), .val (.int p3), .val (.int (p1 &&& (3 : Int32))), .val (.ref en2), .val (.int (0 : Int32)), .val (.int (1 : Int32)), .val (.int n), .unset] [(.int (0 : Int32))]))
            exact J112_11  _ (by rw [(al2 hn)]; (first | contradiction | simp only [eq_self, eq_false hc5, eq_false hc24, eq_true hc43, eq_true hc93, true_or, or_true, false_or, or_false, or_self, true_and, and_true, false_and, and_false, and_self, not_true_eq_false, not_false_eq_true, if_true, if_false]))
          · skip
            refine Go.step (fun _ k => XS.icmpNo X9.here hx rfl (hb hby at_93) rfl (flt hc93).1 k) ?_
            show Go FrameEnd p e below s 0 0 (Q0 Z p1 p2 p3 en0 en1 en2 en3 h0 n0) (T9.setTop (mkF m 96 #[.val (.int p1), .val (.int p2), .val (.int p3), .val (.int (p1 &&& (3 : Int32))), .val (.ref en2), .val (.int (0 : Int32)), .val (.int (1 : Int32)), .val (.int n), .unset] []))
            refine Go.step (fun _ k => XS.iload X9.here hx rfl (hb hby at_96) rfl k) ?_
            show Go FrameEnd p e below s 0 0 (Q0 Z p1 p2 p3 en0 en1 en2 en3 h0 n0) (T9.setTop (mkF m 98 #[.val (.int p1), .val (.int p2), .val (.int p3), .val (.int (p1 &&& (3 : Int32))), .val (.ref en2), .val (.int (0 : Int32)), .val (.int (1 : Int32)), .val (.int n), .unset] [(.int (1 : Int32))]))
            refine Go.step (fun _ k => XS.ifYes X9.here hx rfl (pc0 := 98) (pc' := 107) rfl (hb hby at_98) rfl ((if0 _ _).trans (feq (by decide)).2) (by decide) (by decide) k) ?_
            show Go FrameEnd p e below s 0 0 (Q0 Z p1 p2 p3 en0 en1 en2 en3 h0 n0) (T9.setTop (mkF m 107 #[.val (.int p1), .val (.int p2), .val (.int p3), .val (.int (p1 &&& (3 : Int32))), .val (.ref en2), .val (.int (0 : Int32)), .val (.int (1 : Int32)), .val (.int n), .unset] []))
            refine Go.step (fun _ k => XS.iconst X9.here hx rfl (hb hby at_107) k) ?_
            show Go FrameEnd p e below s 0 0 (Q0 Z p1 p2 p3 en0 en1 en2 en3 h0 n0) (T9.setTop (mkF m 108 #[.val (.int p1), .val (.int p2), .val (.int p3), .val (.int (p1 &&& (3 : Int32))), .val (.ref en2), .val (.int (0 : Int32)), .val (.int (1 : Int32)), .val (.int n), .unset] [(.int (1 : Int32))]))
            refine Go.step (fun _ k => XS.goto X9.here hx rfl (pc0 := 108) (pc' := 112) rfl (hb hby at_108) (by decide) (by decide) k) ?_
            show Go FrameEnd p e below s 0 0 (Q0 Z p1 p2 p3 en0 en1 en2 en3 h0 n0) (T9.setTop (mkF m 112 #[.val (.int p1), .val (.int p2), .val (.int p3), .val (.int (p1 &&& (3 : Int32))), .val (.ref en2), .val (.int (0 : Int32)), .val (.int (1 : Int32)), .val (.int n), .unset] [(.int (1 : Int32))]))
            exact J112_11  _ (by rw [(al2 hn)]; (first | contradiction | simp only [eq_self, eq_false hc5, eq_false hc24, eq_true hc43, eq_false hc93, true_or, or_true, false_or, or_false, or_self, true_and, and_true, false_and, and_false, and_self, not_true_eq_false, not_false_eq_true, if_true, if_false]))
        by_cases hc74 : (p3 &&& (1 : Int32)) = (0 : Int32)
        · skip
          refine Go.step (fun _ k => XS.ifYes X9.here hx rfl (pc0 := 74) (pc' := 83) rfl (hb hby at_74) rfl ((if0 _ _).trans (teq hc74).1) (by decide) (by decide) k) ?_
          show Go FrameEnd p e below s 0 0 (Q0 Z p1 p2 p3 en0 en1 en2 en3 h0 n0) (T9.setTop (mkF m 83 #[.val (.int p1), .val (.int p2), .val (.int p3), .val (.int (p1 &&& (3 : Int32))), .val (.ref en2), .val (.int (0 : Int32)), .val (.int (1 : Int32)), .unset, .unset] []))
          refine Go.step (fun _ k => XS.iloadN X9.here hx rfl (hb hby at_83) rfl k) ?_
          show Go FrameEnd p e below s 0 0 (Q0 Z p1 p2 p3 en0 en1 en2 en3 h0 n0) (T9.setTop (mkF m 84 #[.val (.int p1), .val (.int p2), .val (.int p3), .val (.int (p1 &&& (3 : Int32))), .val (.ref en2), .val (.int (0 : Int32)), .val (.int (1 : Int32)), .unset, .unset] [(.int p2)]))
          refine Go.step (X9.ldcInt hx hown (mvT hZ (hw _ (List.mem_of_getElem? (i := 3) rfl))) (g := (mkF m 84 #[.val (.int p1), .val (.int p2), .val (.int p3), .val (.int (p1 &&& (3 : Int32))), .val (.ref en2), .val (.int (0 : Int32)), .val (.int (1 : Int32)), .unset, .unset] [(.int p2)])) rfl (hb hby at_84)) ?_
          show Go FrameEnd p e below s 0 0 (Q0 Z p1 p2 p3 en0 en1 en2 en3 h0 n0) (T9.setTop (mkF m 86 #[.val (.int p1), .val (.int p2), .val (.int p3), .val (.int (p1 &&& (3 : Int32))), .val (.ref en2), .val (.int (0 : Int32)), .val (.int (1 : Int32)), .unset, .unset] [(.int (2147483647 : Int32)), (.int p2)]))
          refine Go.step (fun _ k => XS.iand X9.here hx rfl (hb hby at_86) rfl k) ?_
          show Go FrameEnd p e below s 0 0 (Q0 Z p1 p2 p3 en0 en1 en2 en3 h0 n0) (T9.setTop (mkF m 87 #[.val (.int p1), .val (.int p2), .val (.int p3), .val (.int (p1 &&& (3 : Int32))), .val (.ref en2), .val (.int (0 : Int32)), .val (.int (1 : Int32)), .unset, .unset] [(.int (p2 &&& (2147483647 : Int32)))]))
          exact J87_10  _ (own_mx _)
        · skip
          refine Go.step (fun _ k => XS.ifNo X9.here hx rfl (hb hby at_74) rfl ((if0 _ _).trans (feq hc74).1) k) ?_
          show Go FrameEnd p e below s 0 0 (Q0 Z p1 p2 p3 en0 en1 en2 en3 h0 n0) (T9.setTop (mkF m 77 #[.val (.int p1), .val (.int p2), .val (.int p3), .val (.int (p1 &&& (3 : Int32))), .val (.ref en2), .val (.int (0 : Int32)), .val (.int (1 : Int32)), .unset, .unset] []))
          refine Go.step (fun _ k => XS.iloadN X9.here hx rfl (hb hby at_77) rfl k) ?_
          show Go FrameEnd p e below s 0 0 (Q0 Z p1 p2 p3 en0 en1 en2 en3 h0 n0) (T9.setTop (mkF m 78 #[.val (.int p1), .val (.int p2), .val (.int p3), .val (.int (p1 &&& (3 : Int32))), .val (.ref en2), .val (.int (0 : Int32)), .val (.int (1 : Int32)), .unset, .unset] [(.int p2)]))
          refine Go.step (fun _ k => XS.iconst X9.here hx rfl (hb hby at_78) k) ?_
          show Go FrameEnd p e below s 0 0 (Q0 Z p1 p2 p3 en0 en1 en2 en3 h0 n0) (T9.setTop (mkF m 79 #[.val (.int p1), .val (.int p2), .val (.int p3), .val (.int (p1 &&& (3 : Int32))), .val (.ref en2), .val (.int (0 : Int32)), .val (.int (1 : Int32)), .unset, .unset] [(.int (3 : Int32)), (.int p2)]))
          refine Go.step (fun _ k => XS.iand X9.here hx rfl (hb hby at_79) rfl k) ?_
          show Go FrameEnd p e below s 0 0 (Q0 Z p1 p2 p3 en0 en1 en2 en3 h0 n0) (T9.setTop (mkF m 80 #[.val (.int p1), .val (.int p2), .val (.int p3), .val (.int (p1 &&& (3 : Int32))), .val (.ref en2), .val (.int (0 : Int32)), .val (.int (1 : Int32)), .unset, .unset] [(.int (p2 &&& (3 : Int32)))]))
          refine Go.step (fun _ k => XS.goto X9.here hx rfl (pc0 := 80) (pc' := 87) rfl (hb hby at_80) (by decide) (by decide) k) ?_
          show Go FrameEnd p e below s 0 0 (Q0 Z p1 p2 p3 en0 en1 en2 en3 h0 n0) (T9.setTop (mkF m 87 #[.val (.int p1), .val (.int p2), .val (.int p3), .val (.int (p1 &&& (3 : Int32))), .val (.ref en2), .val (.int (0 : Int32)), .val (.int (1 : Int32)), .unset, .unset] [(.int (p2 &&& (3 : Int32)))]))
          exact J87_10  _ (own_m3 _)
      · skip
        refine Go.step (fun _ k => XS.icmpYes X0.here hx rfl (pc0 := 43) (pc' := 60) rfl (hb hby at_43) rfl (feq hc43).2 (by decide) (by decide) k) ?_
        show Go FrameEnd p e below s 0 0 (Q0 Z p1 p2 p3 en0 en1 en2 en3 h0 n0) (s₁.setTop (mkF m 60 #[.val (.int p1), .val (.int p2), .val (.int p3), .val (.int (p1 &&& (3 : Int32))), .unset, .unset, .unset, .unset, .unset] []))
        obtain ⟨T13, X13, e13, st13⟩ := getS2 X0 hx hZ hown (host := "") (Or.inl (hw _ (List.mem_of_getElem? (i := 16) rfl))) Via.refl e0 S_ONE_OR_MORE (g := (mkF m 60 #[.val (.int p1), .val (.int p2), .val (.int p3), .val (.int (p1 &&& (3 : Int32))), .unset, .unset, .unset, .unset, .unset] [])) rfl (hb hby at_60)
        refine Go.step st13 ?_
        show Go FrameEnd p e below s 0 0 (Q0 Z p1 p2 p3 en0 en1 en2 en3 h0 n0) (T13.setTop (mkF m 63 #[.val (.int p1), .val (.int p2), .val (.int p3), .val (.int (p1 &&& (3 : Int32))), .unset, .unset, .unset, .unset, .unset] [(.ref en3)]))
        refine Go.step (fun _ k => XS.astore X13.here hx rfl (hb hby at_63) rfl rfl (l' := #[.val (.int p1), .val (.int p2), .val (.int p3), .val (.int (p1 &&& (3 : Int32))), .val (.ref en3), .unset, .unset, .unset, .unset]) rfl k) ?_
        show Go FrameEnd p e below s 0 0 (Q0 Z p1 p2 p3 en0 en1 en2 en3 h0 n0) (T13.setTop (mkF m 65 #[.val (.int p1), .val (.int p2), .val (.int p3), .val (.int (p1 &&& (3 : Int32))), .val (.ref en3), .unset, .unset, .unset, .unset] []))
        refine Go.step (fun _ k => XS.iconst X13.here hx rfl (hb hby at_65) k) ?_
        show Go FrameEnd p e below s 0 0 (Q0 Z p1 p2 p3 en0 en1 en2 en3 h0 n0) (T13.setTop (mkF m 66 #[.val (.int p1), .val (.int p2), .val (.int p3), .val (.int (p1 &&& (3 : Int32))), .val (.ref en3), .unset, .unset, .unset, .unset] [(.int (1 : Int32))]))
        refine Go.step (fun _ k => XS.istore X13.here hx rfl (hb hby at_66) rfl (l' := #[.val (.int p1), .val (.int p2), .val (.int p3), .val (.int (p1 &&& (3 : Int32))), .val (.ref en3), .val (.int (1 : Int32)), .unset, .unset, .unset]) rfl k) ?_
        show Go FrameEnd p e below s 0 0 (Q0 Z p1 p2 p3 en0 en1 en2 en3 h0 n0) (T13.setTop (mkF m 68 #[.val (.int p1), .val (.int p2), .val (.int p3), .val (.int (p1 &&& (3 : Int32))), .val (.ref en3), .val (.int (1 : Int32)), .unset, .unset, .unset] []))
        refine Go.step (fun _ k => XS.iconst X13.here hx rfl (hb hby at_68) k) ?_
        show Go FrameEnd p e below s 0 0 (Q0 Z p1 p2 p3 en0 en1 en2 en3 h0 n0) (T13.setTop (mkF m 69 #[.val (.int p1), .val (.int p2), .val (.int p3), .val (.int (p1 &&& (3 : Int32))), .val (.ref en3), .val (.int (1 : Int32)), .unset, .unset, .unset] [(.int (1 : Int32))]))
        refine Go.step (fun _ k => XS.istore X13.here hx rfl (hb hby at_69) rfl (l' := #[.val (.int p1), .val (.int p2), .val (.int p3), .val (.int (p1 &&& (3 : Int32))), .val (.ref en3), .val (.int (1 : Int32)), .val (.int (1 : Int32)), .unset, .unset]) rfl k) ?_
        show Go FrameEnd p e below s 0 0 (Q0 Z p1 p2 p3 en0 en1 en2 en3 h0 n0) (T13.setTop (mkF m 71 #[.val (.int p1), .val (.int p2), .val (.int p3), .val (.int (p1 &&& (3 : Int32))), .val (.ref en3), .val (.int (1 : Int32)), .val (.int (1 : Int32)), .unset, .unset] []))
        refine Go.step (fun _ k => XS.iloadN X13.here hx rfl (hb hby at_71) rfl k) ?_
        show Go FrameEnd p e below s 0 0 (Q0 Z p1 p2 p3 en0 en1 en2 en3 h0 n0) (T13.setTop (mkF m 72 #[.val (.int p1), .val (.int p2), .val (.int p3), .val (.int (p1 &&& (3 : Int32))), .val (.ref en3), .val (.int (1 : Int32)), .val (.int (1 : Int32)), .unset, .unset] [(.int p3)]))
        refine Go.step (fun _ k => XS.iconst X13.here hx rfl (hb hby at_72) k) ?_
        show Go FrameEnd p e below s 0 0 (Q0 Z p1 p2 p3 en0 en1 en2 en3 h0 n0) (T13.setTop (mkF m 73 #[.val (.int p1), .val (.int p2), .val (.int p3), .val (.int (p1 &&& (3 : Int32))), .val (.ref en3), .val (.int (1 : Int32)), .val (.int (1 : Int32)), .unset, .unset] [(.int (1 : Int32)), (.int p3)]))
        refine Go.step (fun _ k => XS.iand X13.here hx rfl (hb hby at_73) rfl k) ?_
        show Go FrameEnd p e below s 0 0 (Q0 Z p1 p2 p3 en0 en1 en2 en3 h0 n0) (T13.setTop (mkF m 74 #[.val (.int p1), .val (.int p2), .val (.int p3), .val (.int (p1 &&& (3 : Int32))), .val (.ref en3), .val (.int (1 : Int32)), .val (.int (1 : Int32)), .unset, .unset] [(.int (p3 &&& (1 : Int32)))]))
        have J87_14 : ∀ (n : Int32), (¬ n < 0) → Go FrameEnd p e below s 0 0 (Q0 Z p1 p2 p3 en0 en1 en2 en3 h0 n0) (T13.setTop (mkF m 87 #[.val (.int p1), .val (.int p2), .val (.int p3), .val (.int (p1 &&& (3 : Int32))), .val (.ref en3), .val (.int (1 : Int32)), .val (.int (1 : Int32)), .unset, .unset] [(.int n)])) := by
          intro n hn
          show Go FrameEnd p e below s 0 0 (Q0 Z p1 p2 p3 en0 en1 en2 en3 h0 n0) (T13.setTop (mkF m 87 #[.val (.int p1), .val (.int p2), .val (.int p3), .val (.int (p1 &&& (3 : Int32))), .val (.ref en3), .val (.int (1 : Int32)), .val (.int (1 : Int32)), .unset, .unset] [(.int n)]))
          refine Go.step (fun _ k => XS.istore X13.here hx rfl (hb hby at_87) rfl (l' := #[.val (.int p1), .val (.int p2), .val (.int p3), .val (.int (p1 &&& (3 : Int32))), .val (.ref en3), .val (.int (1 : Int32)), .val (.int (1 : Int32)), .val (.int n), .unset]) rfl k) ?_
          show Go FrameEnd p e below s 0 0 (Q0 Z p1 p2 p3 en0 en1 en2 en3 h0 n0) (T13.setTop (mkF m 89 #[.val (.int p1), .val (.int p2), .val (.int p3), .val (.int (p1 &&& (3 : Int32))), .val (.ref en3), .val (.int (1 : Int32)), .val (.int (1 : Int32)), .val (.int n), .unset] []))
          refine Go.step (fun _ k => XS.iload X13.here hx rfl (hb hby at_89) rfl k) ?_
          show Go FrameEnd p e below s 0 0 (Q0 Z p1 p2 p3 en0 en1 en2 en3 h0 n0) (T13.setTop (mkF m 91 #[.val (.int p1), .val (.int p2), .val (.int p3), .val (.int (p1 &&& (3 : Int32))), .val (.ref en3), .val (.int (1 : Int32)), .val (.int (1 : Int32)), .val (.int n), .unset] [(.int n)]))
          refine Go.step (fun _ k => XS.iload X13.here hx rfl (hb hby at_91) rfl k) ?_
          show Go FrameEnd p e below s 0 0 (Q0 Z p1 p2 p3 en0 en1 en2 en3 h0 n0) (T13.setTop (mkF m 93 #[.val (.int p1), .val (.int p2), .val (.int p3), .val (.int (p1 &&& (3 : Int32))), .val (.ref en3), .val (.int (1 : Int32)), .val (.int (1 : Int32)), .val (.int n), .unset] [(.int (1 : Int32)), (.int n)]))
          have J112_15 : ∀ (x : Int32), (allF en3 en1 en2 en3 n = x) → Go FrameEnd p e below s 0 0 (Q0 Z p1 p2 p3 en0 en1 en2 en3 h0 n0) (T13.setTop (mkF m 112 #[.val (.int p1), .val (.int p2), .val (.int p3), .val (.int (p1 &&& (3 : Int32))), .val (.ref en3), .val (.int (1 : Int32)), .val (.int (1 : Int32)), .val (.int n), .unset] [(.int x)])) := by
            intro x hx112
            show Go FrameEnd p e below s 0 0 (Q0 Z p1 p2 p3 en0 en1 en2 en3 h0 n0) (T13.setTop (mkF m 112 #[.val (.int p1), .val (.int p2), .val (.int p3), .val (.int (p1 &&& (3 : Int32))), .val (.ref en3), .val (.int (1 : Int32)), .val (.int (1 : Int32)), .val (.int n), .unset] [(.int x)]))
            refine Go.step (fun _ k => XS.istore X13.here hx rfl (hb hby at_112) rfl (l' := #[.val (.int p1), .val (.int p2), .val (.int p3), .val (.int (p1 &&& (3 : Int32))), .val (.ref en3), .val (.int (1 : Int32)), .val (.int (1 : Int32)), .val (.int n), .val (.int x)]) rfl k) ?_
            show Go FrameEnd p e below s 0 0 (Q0 Z p1 p2 p3 en0 en1 en2 en3 h0 n0) (T13.setTop (mkF m 114 #[.val (.int p1), .val (.int p2), .val (.int p3), .val (.int (p1 &&& (3 : Int32))), .val (.ref en3), .val (.int (1 : Int32)), .val (.int (1 : Int32)), .val (.int n), .val (.int x)] []))
            refine Go.step (fun _ k => XS.aload X13.here hx rfl (hb hby at_114) rfl rfl k) ?_
            show Go FrameEnd p e below s 0 0 (Q0 Z p1 p2 p3 en0 en1 en2 en3 h0 n0) (T13.setTop (mkF m 116 #[.val (.int p1), .val (.int p2), .val (.int p3), .val (.int (p1 &&& (3 : Int32))), .val (.ref en3), .val (.int (1 : Int32)), .val (.int (1 : Int32)), .val (.int n), .val (.int x)] [(.ref en3)]))
            refine Go.step (fun _ k => XS.iload X13.here hx rfl (hb hby at_116) rfl k) ?_
            show Go FrameEnd p e below s 0 0 (Q0 Z p1 p2 p3 en0 en1 en2 en3 h0 n0) (T13.setTop (mkF m 118 #[.val (.int p1), .val (.int p2), .val (.int p3), .val (.int (p1 &&& (3 : Int32))), .val (.ref en3), .val (.int (1 : Int32)), .val (.int (1 : Int32)), .val (.int n), .val (.int x)] [(.int n), (.ref en3)]))
            obtain ⟨cq16, kq16, q16a, q16b, q16c⟩ := isOf hZ e13 E_en3
            obtain ⟨_, _, ⟨T16, L16, k16, n16⟩, -, X16, ⟨Lc16, hQ16, l16, y16, z16⟩, st16⟩ := X13.virtualBack hx (y := (⟨"com/example/loomward/loomward/xpath/SequenceType$Occurrence", "allows", "(I)Z"⟩ : MethodName)) (z := (⟨"com/example/loomward/loomward/xpath/SequenceType$Occurrence", "allows", "(I)Z"⟩ : MethodName)) hown (mvT hZ (hw _ (List.mem_of_getElem? (i := 4) rfl))) (mvT hZ (hw _ (List.mem_of_getElem? (i := 5) rfl))) (notFace_of_selects (args := #[]) (mvT hZ (hw _ (List.mem_of_getElem? (i := 7) rfl)))) (mvT hZ (hw _ (List.mem_of_getElem? (i := 7) rfl))) (mvT hZ (hw _ (List.mem_of_getElem? (i := 6) rfl))) (by decide) (backOf (W := 0) (rm1 l Z a0 hw [] en3 n en1 en2 en3 h0 S_ZERO_OR_ONE S_ZERO_OR_MORE S_ONE_OR_MORE) hZ (hw _ (List.mem_of_getElem? (i := 8) rfl)) (hw _ (List.mem_of_getElem? (i := 1) rfl)) (by decide) (by decide)) q16a q16c (g := (mkF m 118 #[.val (.int p1), .val (.int p2), .val (.int p3), .val (.int (p1 &&& (3 : Int32))), .val (.ref en3), .val (.int (1 : Int32)), .val (.int (1 : Int32)), .val (.int n), .val (.int x)] [(.int n), (.ref en3)])) rfl (by rw [hml]; rfl) (Steps.refl _) (argsL := [(.int n)]) (rest := []) (lenOf pd__I_Z rfl) rfl (by show 2 * 0 + _ ≤ _; exact Nat.le_of_eq rfl) (hb hby at_118) (fun _ _ => ⟨rfl, e13, (by decide : 0 + 0 ≤ _), (by decide : 0 + 0 ≤ _)⟩)
            dsimp only [Pt.U, Pt.locs, Pt.cells, Pt.slots] at X16 l16 y16 z16 st16 hQ16
            subst l16 y16 z16
            obtain ⟨rfl, rfl, e16⟩ := hQ16
            have N16 := Fr.app N0 (Fr.nil n0)
            refine Go.hop st16 ?_
            show Go FrameEnd p e below s 0 0 (Q0 Z p1 p2 p3 en0 en1 en2 en3 h0 n0) (T16.setTop (mkF m 121 #[.val (.int p1), .val (.int p2), .val (.int p3), .val (.int (p1 &&& (3 : Int32))), .val (.ref en3), .val (.int (1 : Int32)), .val (.int (1 : Int32)), .val (.int n), .val (.int x)] [(.int (allF en3 en1 en2 en3 n))]))
            refine Go.step (fun _ k => XS.iload X16.here hx rfl (hb hby at_121) rfl k) ?_
            show Go FrameEnd p e below s 0 0 (Q0 Z p1 p2 p3 en0 en1 en2 en3 h0 n0) (T16.setTop (mkF m 123 #[.val (.int p1), .val (.int p2), .val (.int p3), .val (.int (p1 &&& (3 : Int32))), .val (.ref en3), .val (.int (1 : Int32)), .val (.int (1 : Int32)), .val (.int n), .val (.int x)] [(.int x), (.int (allF en3 en1 en2 en3 n))]))
            refine Go.step (fun _ k => XS.icmpNo X16.here hx rfl (hb hby at_123) rfl (teq hx112).2 k) ?_
            show Go FrameEnd p e below s 0 0 (Q0 Z p1 p2 p3 en0 en1 en2 en3 h0 n0) (T16.setTop (mkF m 126 #[.val (.int p1), .val (.int p2), .val (.int p3), .val (.int (p1 &&& (3 : Int32))), .val (.ref en3), .val (.int (1 : Int32)), .val (.int (1 : Int32)), .val (.int n), .val (.int x)] []))
            refine Go.step (fun _ k => XS.iconst X16.here hx rfl (hb hby at_126) k) ?_
            show Go FrameEnd p e below s 0 0 (Q0 Z p1 p2 p3 en0 en1 en2 en3 h0 n0) (T16.setTop (mkF m 127 #[.val (.int p1), .val (.int p2), .val (.int p3), .val (.int (p1 &&& (3 : Int32))), .val (.ref en3), .val (.int (1 : Int32)), .val (.int (1 : Int32)), .val (.int n), .val (.int x)] [(.int (1 : Int32))]))
            refine Go.step (fun _ k => XS.goto X16.here hx rfl (pc0 := 127) (pc' := 131) rfl (hb hby at_127) (by decide) (by decide) k) ?_
            show Go FrameEnd p e below s 0 0 (Q0 Z p1 p2 p3 en0 en1 en2 en3 h0 n0) (T16.setTop (mkF m 131 #[.val (.int p1), .val (.int p2), .val (.int p3), .val (.int (p1 &&& (3 : Int32))), .val (.ref en3), .val (.int (1 : Int32)), .val (.int (1 : Int32)), .val (.int n), .val (.int x)] [(.int (1 : Int32))]))
            refine Go.retN X16 hx (t := .boolean) Bd.returns (by simp) (by decide) (hb hby at_131) (BodyLoose.notSynchronized Bd) e16 (by decide) (by decide) ?_
            exact ⟨rfl, N16⟩
          by_cases hc93 : n < (1 : Int32)
          · skip
            refine Go.step (fun _ k => XS.icmpYes X13.here hx rfl (pc0 := 93) (pc' := 111) rfl (hb hby at_93) rfl (tlt hc93).1 (by decide) (by decide) k) ?_
            show Go FrameEnd p e below s 0 0 (Q0 Z p1 p2 p3 en0 en1 en2 en3 h0 n0) (T13.setTop (mkF m 111 #[.val (.int p1), .val (.int p2), .val (.int p3), .val (.int (p1 &&& (3 : Int32))), .val (.ref en3), .val (.int (1 : Int32)), .val (.int (1 : Int32)), .val (.int n), .unset] []))
            refine Go.step (fun _ k => XS.iconst X13.here hx rfl (hb hby at_111) k) ?_
            show Go FrameEnd p e below s 0 0 (Q0 Z p1 p2 p3 en0 en1 en2 en3 h0 n0) (T13.setTop (mkF m 112 #[.val (.int p1), .val (.int p2), .val (.int p3), .val (.int (p1 &&& (3 : Int32))), .val (.ref en3), .val (.int (1 : Int32)), .val (.int (1 : Int32)), .val (.int n), .unset] [(.int (0 : Int32))]))
            exact J112_15  _ (by rw [(al3 (Ne.symm ne1_3) (Ne.symm ne2_3) hn)]; (first | contradiction | simp only [eq_self, eq_false hc5, eq_false hc24, eq_false hc43, eq_true hc93, true_or, or_true, false_or, or_false, or_self, true_and, and_true, false_and, and_false, and_self, not_true_eq_false, not_false_eq_true, if_true, if_false]))
          · skip
            refine Go.step (fun _ k => XS.icmpNo X13.here hx rfl (hb hby at_93) rfl (flt hc93).1 k) ?_
            show Go FrameEnd p e below s 0 0 (Q0 Z p1 p2 p3 en0 en1 en2 en3 h0 n0) (T13.setTop (mkF m 96 #[.val (.int p1), .val (.int p2), .val (.int p3), .val (.int (p1 &&& (3 : Int32))), .val (.ref en3), .val (.int (1 : Int32)), .val (.int (1 : Int32)), .val (.int n), .unset] []))
            refine Go.step (fun _ k => XS.iload X13.here hx rfl (hb hby at_96) rfl k) ?_
            show Go FrameEnd p e below s 0 0 (Q0 Z p1 p2 p3 en0 en1 en2 en3 h0 n0) (T13.setTop (mkF m 98 #[.val (.int p1), .val (.int p2), .val (.int p3), .val (.int (p1 &&& (3 : Int32))), .val (.ref en3), .val (.int (1 : Int32)), .val (.int (1 : Int32)), .val (.int n), .unset] [(.int (1 : Int32))]))
            refine Go.step (fun _ k => XS.ifYes X13.here hx rfl (pc0 := 98) (pc' := 107) rfl (hb hby at_98) rfl ((if0 _ _).trans (feq (by decide)).2) (by decide) (by decide) k) ?_
            show Go FrameEnd p e below s 0 0 (Q0 Z p1 p2 p3 en0 en1 en2 en3 h0 n0) (T13.setTop (mkF m 107 #[.val (.int p1), .val (.int p2), .val (.int p3), .val (.int (p1 &&& (3 : Int32))), .val (.ref en3), .val (.int (1 : Int32)), .val (.int (1 : Int32)), .val (.int n), .unset] []))
            refine Go.step (fun _ k => XS.iconst X13.here hx rfl (hb hby at_107) k) ?_
            show Go FrameEnd p e below s 0 0 (Q0 Z p1 p2 p3 en0 en1 en2 en3 h0 n0) (T13.setTop (mkF m 108 #[.val (.int p1), .val (.int p2), .val (.int p3), .val (.int (p1 &&& (3 : Int32))), .val (.ref en3), .val (.int (1 : Int32)), .val (.int (1 : Int32)), .val (.int n), .unset] [(.int (1 : Int32))]))
            refine Go.step (fun _ k => XS.goto X13.here hx rfl (pc0 := 108) (pc' := 112) rfl (hb hby at_108) (by decide) (by decide) k) ?_
            show Go FrameEnd p e below s 0 0 (Q0 Z p1 p2 p3 en0 en1 en2 en3 h0 n0) (T13.setTop (mkF m 112 #[.val (.int p1), .val (.int p2), .val (.int p3), .val (.int (p1 &&& (3 : Int32))), .val (.ref en3), .val (.int (1 : Int32)), .val (.int (1 : Int32)), .val (.int n), .unset] [(.int (1 : Int32))]))
            exact J112_15  _ (by rw [(al3 (Ne.symm ne1_3) (Ne.symm ne2_3) hn)]; (first | contradiction | simp only [eq_self, eq_false hc5, eq_false hc24, eq_false hc43, eq_false hc93, true_or, or_true, false_or, or_false, or_self, true_and, and_true, false_and, and_false, and_self, not_true_eq_false, not_false_eq_true, if_true, if_false]))
        by_cases hc74 : (p3 &&& (1 : Int32)) = (0 : Int32)
        · skip
          refine Go.step (fun _ k => XS.ifYes X13.here hx rfl (pc0 := 74) (pc' := 83) rfl (hb hby at_74) rfl ((if0 _ _).trans (teq hc74).1) (by decide) (by decide) k) ?_
          show Go FrameEnd p e below s 0 0 (Q0 Z p1 p2 p3 en0 en1 en2 en3 h0 n0) (T13.setTop (mkF m 83 #[.val (.int p1), .val (.int p2), .val (.int p3), .val (.int (p1 &&& (3 : Int32))), .val (.ref en3), .val (.int (1 : Int32)), .val (.int (1 : Int32)), .unset, .unset] []))
          refine Go.step (fun _ k => XS.iloadN X13.here hx rfl (hb hby at_83) rfl k) ?_
          show Go FrameEnd p e below s 0 0 (Q0 Z p1 p2 p3 en0 en1 en2 en3 h0 n0) (T13.setTop (mkF m 84 #[.val (.int p1), .val (.int p2), .val (.int p3), .val (.int (p1 &&& (3 : Int32))), .val (.ref en3), .val (.int (1 : Int32)), .val (.int (1 : Int32)), .unset, .unset] [(.int p2)]))
          refine Go.step (X13.ldcInt hx hown (mvT hZ (hw _ (List.mem_of_getElem? (i := 3) rfl))) (g := (mkF m 84 #[.val (.int p1), .val (.int p2), .val (.int p3), .val (.int (p1 &&& (3 : Int32))), .val (.ref en3), .val (.int (1 : Int32)), .val (.int (1 : Int32)), .unset, .unset] [(.int p2)])) rfl (hb hby at_84)) ?_
          show Go FrameEnd p e below s 0 0 (Q0 Z p1 p2 p3 en0 en1 en2 en3 h0 n0) (T13.setTop (mkF m 86 #[.val (.int p1), .val (.int p2), .val (.int p3), .val (.int (p1 &&& (3 : Int32))), .val (.ref en3), .val (.int (1 : Int32)), .val (.int (1 : Int32)), .unset, .unset] [(.int (2147483647 : Int32)), (.int p2)]))
          refine Go.step (fun _ k => XS.iand X13.here hx rfl (hb hby at_86) rfl k) ?_
          show Go FrameEnd p e below s 0 0 (Q0 Z p1 p2 p3 en0 en1 en2 en3 h0 n0) (T13.setTop (mkF m 87 #[.val (.int p1), .val (.int p2), .val (.int p3), .val (.int (p1 &&& (3 : Int32))), .val (.ref en3), .val (.int (1 : Int32)), .val (.int (1 : Int32)), .unset, .unset] [(.int (p2 &&& (2147483647 : Int32)))]))
          exact J87_14  _ (own_mx _)
        · skip
          refine Go.step (fun _ k => XS.ifNo X13.here hx rfl (hb hby at_74) rfl ((if0 _ _).trans (feq hc74).1) k) ?_
          show Go FrameEnd p e below s 0 0 (Q0 Z p1 p2 p3 en0 en1 en2 en3 h0 n0) (T13.setTop (mkF m 77 #[.val (.int p1), .val (.int p2), .val (.int p3), .val (.int (p1 &&& (3 : Int32))), .val (.ref en3), .val (.int (1 : Int32)), .val (.int (1 : Int32)), .unset, .unset] []))
          refine Go.step (fun _ k => XS.iloadN X13.here hx rfl (hb hby at_77) rfl k) ?_
          show Go FrameEnd p e below s 0 0 (Q0 Z p1 p2 p3 en0 en1 en2 en3 h0 n0) (T13.setTop (mkF m 78 #[.val (.int p1), .val (.int p2), .val (.int p3), .val (.int (p1 &&& (3 : Int32))), .val (.ref en3), .val (.int (1 : Int32)), .val (.int (1 : Int32)), .unset, .unset] [(.int p2)]))
          refine Go.step (fun _ k => XS.iconst X13.here hx rfl (hb hby at_78) k) ?_
          show Go FrameEnd p e below s 0 0 (Q0 Z p1 p2 p3 en0 en1 en2 en3 h0 n0) (T13.setTop (mkF m 79 #[.val (.int p1), .val (.int p2), .val (.int p3), .val (.int (p1 &&& (3 : Int32))), .val (.ref en3), .val (.int (1 : Int32)), .val (.int (1 : Int32)), .unset, .unset] [(.int (3 : Int32)), (.int p2)]))
          refine Go.step (fun _ k => XS.iand X13.here hx rfl (hb hby at_79) rfl k) ?_
          show Go FrameEnd p e below s 0 0 (Q0 Z p1 p2 p3 en0 en1 en2 en3 h0 n0) (T13.setTop (mkF m 80 #[.val (.int p1), .val (.int p2), .val (.int p3), .val (.int (p1 &&& (3 : Int32))), .val (.ref en3), .val (.int (1 : Int32)), .val (.int (1 : Int32)), .unset, .unset] [(.int (p2 &&& (3 : Int32)))]))
          refine Go.step (fun _ k => XS.goto X13.here hx rfl (pc0 := 80) (pc' := 87) rfl (hb hby at_80) (by decide) (by decide) k) ?_
          show Go FrameEnd p e below s 0 0 (Q0 Z p1 p2 p3 en0 en1 en2 en3 h0 n0) (T13.setTop (mkF m 87 #[.val (.int p1), .val (.int p2), .val (.int p3), .val (.int (p1 &&& (3 : Int32))), .val (.ref en3), .val (.int (1 : Int32)), .val (.int (1 : Int32)), .unset, .unset] [(.int (p2 &&& (3 : Int32)))]))
          exact J87_14  _ (own_m3 _)
set_option maxRecDepth 65536 in
set_option maxHeartbeats 40000000 in
theorem comes_1 {Post : Tables → Env → Array Value → State → Outcome → State → Prop} (hpost : ∀ tb e args s v u, (limb_1_1.after args s (.returned v) u = true ∧ limb_1_2.after args s (.returned v) u = true ∧ True) → FrameEnd s (.returned v) u (Jvm.fieldLocs frame_1_writes args s ++ Jvm.arrayLocs frame_1_arrays args s ++ Jvm.staticLocs frame_1_statics s) 0 0 → Post tb e args s (.returned v) u) :
    ArmFor flags0 classFile x code maxLocals ret World_1 tables_1 room_1 Calls_1 rest_1 Pre_1 Post := by
  intro l hfl _ _ p e ha hc hk s m args below hf hA hF happ hP
  obtain ⟨hcalls, hrest, hpre⟩ := hP
  obtain ⟨-, -, -, hnamed, -, -, -, hat⟩ := (Spec.applies_iff hf).mp happ
  obtain ⟨hg, hn⟩ := and_e (Cond.before_iff.mp (show (Jvm.Cond.and given_1 narrow_1).before args s = true from hpre))
  obtain ⟨h1, h2⟩ := and_e hg
  obtain ⟨w0, w1, w2, rfl⟩ : ∃ w0 w1 w2 : Value, args = #[w0, w1, w2] := by
    have hs : args.size = 3 := by simpa [Cond.value, given_1] using h1
    obtain ⟨L⟩ := args
    match L, hs with
    | [w0, w1, w2], _ => exact ⟨w0, w1, w2, rfl⟩
  have hw := fun d (hd : d ∈ tables_1) => atoms_spec (ws := Jvm.Cond.code x code maxLocals ret :: tables_1) hat d (List.mem_cons_of_mem _ hd)
  have hfit : Fit s := fun {y c} hc i hi => by
    obtain ⟨ha, rfl⟩ := Array.getElem?_eq_some_iff.mp hc
    have q := List.all_eq_true.mp ((Array.all_eq_true_iff_forall_mem.mp hF) _ (Array.getElem_mem ha)) i (List.mem_range.mpr hi)
    simpa [Array.getElem?_eq_getElem hi] using q
  obtain ⟨c0, r0⟩ := and_e h2
  obtain ⟨i0, q0⟩ := is_v c0
  obtain rfl : w0 = (.int i0) := Option.some.inj q0
  obtain ⟨c1, r1⟩ := and_e r0
  obtain ⟨i1, q1⟩ := is_v c1
  obtain rfl : w1 = (.int i1) := Option.some.inj q1
  obtain ⟨i2, q2⟩ := is_v r1
  obtain rfl : w2 = (.int i2) := Option.some.inj q2
  obtain ⟨k0, m0⟩ := and_e hn
  obtain ⟨k1, m1⟩ := and_e m0
  obtain ⟨k2, m2⟩ := and_e m1
  obtain ⟨k3, m3⟩ := and_e m2
  obtain ⟨k4, m4⟩ := and_e m3
  obtain ⟨k5, m5⟩ := and_e m4
  obtain ⟨k6, m6⟩ := and_e m5
  obtain ⟨en0, t0, E0, F0⟩ := own_enum k0 k2
  have S0 := Sta.start t0 (Or.inr ⟨(hw _ (List.mem_of_getElem? (i := 1) rfl)), (hw _ (List.mem_of_getElem? (i := 2) rfl))⟩)
  obtain ⟨en1, t1, E1, F1⟩ := own_enum k6 m6
  have S1 := Sta.start t1 (Or.inr ⟨(hw _ (List.mem_of_getElem? (i := 1) rfl)), (hw _ (List.mem_of_getElem? (i := 14) rfl))⟩)
  obtain ⟨en2, t2, E2, F2⟩ := own_enum k1 k3
  have S2 := Sta.start t2 (Or.inr ⟨(hw _ (List.mem_of_getElem? (i := 1) rfl)), (hw _ (List.mem_of_getElem? (i := 10) rfl))⟩)
  obtain ⟨en3, t3, E3, F3⟩ := own_enum k4 k5
  have S3 := Sta.start t3 (Or.inr ⟨(hw _ (List.mem_of_getElem? (i := 1) rfl)), (hw _ (List.mem_of_getElem? (i := 12) rfl))⟩)
  obtain ⟨n, o, h1, h2, h3, _, L, rfl, ⟨rfl, N⟩, hq⟩ := rm0 l s _ hw tables_1 i0 i1 i2 en0 en1 en2 en3 s.heap s.heap.size (Nat.le_refl _) S0 S1 S2 S3 E0 E1 E2 E3 (Fld.ne F0 F1 (by decide)) (Fld.ne F0 F2 (by decide)) (Fld.ne F0 F3 (by decide)) (Fld.ne F1 F2 (by decide)) (Fld.ne F1 F3 (by decide)) (Fld.ne F2 F3 (by decide)) p e ha hc hk s m _ below hf ((Spec.applies_iff_loose hf).mp happ).1 ⟨rfl, State.Warmed39.refl s, rfl⟩ trivial
  refine ⟨n, _, h1, h2, h3, hpost _ _ _ _ _ _ ⟨Cond.after_iff.mpr rfl, Cond.after_iff.mpr (eq_i res_at (Term.int_eval (1)) rfl), trivial⟩ ⟨hq.1, hq.2.1, (hq.2.2.sift fun y hy => Or.inr (N y hy)).mono (by decide) (by decide)⟩⟩
theorem main_1_1 : Claimed_1_1 := comes_1 fun _ _ _ _ _ _ h hF => ⟨h.1, hF⟩
theorem main_1_2 : Claimed_1_2 := comes_1 fun _ _ _ _ _ _ h hF => ⟨h.2.1, hF⟩
end Jvm.Pilot.@@N@@
namespace Jvm.Pilot.@@N@@
open Jvm Jvm.ClassFile Sem Op Lib Jvm.Free Jvm.Stand Jvm.Pilot.@@N@@.Jvm.D
/-! MADE BY PROGRAM (witnessworld.py) out of the Statement's table words and the real class files: 12 classes; the members and pool entries that the words name. The judged class is class 1, her method 1. -/
namespace start1
open Jvm.ClassFile
def u (s : String) : CpInfo := .utf8 (stringToUtf16 s)
/-- a pool by its gaps: so many unusable entries, then the entry; so many at the end -/
def gap : Nat → List CpInfo → List CpInfo
  | 0, r => r
  | n + 1, r => .unusable :: gap n r
def poolList (es : List (Nat × CpInfo)) (last : Nat) : List CpInfo := es.foldr (fun e r => gap e.1 (e.2 :: r)) (gap last [])
def pool (es : List (Nat × CpInfo)) (last : Nat) : Array CpInfo := ⟨poolList es last⟩
def fileOf (pool : Array CpInfo) (this : Nat) (attrs : Array Attribute := #[]) (ms : Array MethodInfo := #[]) (fl : Nat := 33) (sup : Nat := 0) (ifs : Array Nat := #[]) (fds : Array FieldInfo := #[]) : ClassFile where
  minorVersion := 0
  majorVersion := 65
  constantPool := pool
  accessFlags := fl
  thisClass := this
  superClass := sup
  interfaces := ifs
  fields := fds
  methods := ms
  attributes := attrs
def plain (name : String) (sup : Option ClassId) : Class where
  name := name
  kind := .ordinary
  loader := none
  accessFlags := 33
  super := sup
  interfaces := #[]
  cf := none
  fields := #[]
  methods := #[]
  instanceTypes := #[]
  staticTypes := #[]
  resolved := #[]
  callSites := []
  init := .initialized
  statics := none
  mirror := none

def pool0 : Array CpInfo := pool [(5, u "<init>"), (0, u "()V"), (1, .class_ 10), (1, u "java/lang/Object")] 113

def k0m0 : Method := { name := "<init>", desc := "()V", sig := { parameters := [], returnType := none }, accessFlags := 1, code := none }
/-- java/lang/Object -/
def k0 : Class := { plain "java/lang/Object" none with
  accessFlags := 33
  interfaces := #[]
  cf := some (fileOf pool0 8 #[] #[{ accessFlags := 1, nameIndex := 5, descriptorIndex := 6, attributes := #[] }] 33 0 #[] #[])
  fields := #[]
  methods := #[k0m0]
  instanceTypes := #[]
  staticTypes := #[]
  resolved := Array.replicate 124 none
  statics := none }

def pool1 : Array CpInfo := pool [(2, .class_ 4), (1, u "java/lang/Object"), (0, u "<init>"), (0, u "()V"), (0, .fieldref 8 9), (0, .class_ 10), (0, .nameAndType 11 12), (0, u "com/example/loomward/loomward/xpath/SequenceType$Occurrence"), (0, u "EXACTLY_ONE"), (0, u "Lcom/example/loomward/loomward/xpath/SequenceType$Occurrence;"), (0, .fieldref 8 14), (0, .nameAndType 15 12), (0, u "ZERO_OR_ONE"), (0, .fieldref 8 17), (0, .nameAndType 18 12), (0, u "ZERO_OR_MORE"), (0, .fieldref 8 20), (0, .nameAndType 21 12), (0, u "ONE_OR_MORE"), (0, .integer 2147483647), (0, .methodref 8 24), (0, .nameAndType 25 26), (0, u "allows"), (0, u "(I)Z"), (0, .class_ 28), (0, u "com/example/loomward/loomward/xpath/OccurrenceAllowsPinLaw"), (2, u "law"), (0, u "(III)Z")] 7

def k1m0 : Method := { name := "<init>", desc := "()V", sig := { parameters := [], returnType := none }, accessFlags := 1, code := none }
def k1c1 : Code := { maxStack := 2, maxLocals := 9, code := code, exceptionTable := #[], attributes := #[] }
def k1m1 : Method := { name := "law", desc := "(III)Z", sig := { parameters := [.int, .int, .int], returnType := some .boolean }, accessFlags := 9, code := some k1c1 }
/-- com/example/loomward/loomward/xpath/OccurrenceAllowsPinLaw -/
def k1 : Class := { plain "com/example/loomward/loomward/xpath/OccurrenceAllowsPinLaw" (some 0) with
  accessFlags := 49
  interfaces := #[]
  cf := some (fileOf pool1 27 #[] #[{ accessFlags := 1, nameIndex := 5, descriptorIndex := 6, attributes := #[] }, { accessFlags := 9, nameIndex := 31, descriptorIndex := 32, attributes := #[] }] 49 2 #[] #[])
  fields := #[]
  methods := #[k1m0, k1m1]
  instanceTypes := #[]
  staticTypes := #[]
  resolved := Array.replicate 40 none
  statics := none }

def pool2 : Array CpInfo := pool [(1, .class_ 2), (0, u "java/lang/constant/Constable"), (0, .class_ 4), (0, u "java/lang/Object")] 6

/-- java/lang/constant/Constable -/
def k2 : Class := { plain "java/lang/constant/Constable" (some 0) with
  accessFlags := 1537
  interfaces := #[]
  cf := some (fileOf pool2 1 #[] #[] 1537 3 #[] #[])
  fields := #[]
  methods := #[]
  instanceTypes := #[]
  staticTypes := #[]
  resolved := Array.replicate 11 none
  statics := none }

def pool3 : Array CpInfo := pool [(1, .class_ 2), (0, u "java/lang/Comparable"), (0, .class_ 4), (0, u "java/lang/Object")] 7

/-- java/lang/Comparable -/
def k3 : Class := { plain "java/lang/Comparable" (some 0) with
  accessFlags := 1537
  interfaces := #[]
  cf := some (fileOf pool3 1 #[] #[] 1537 3 #[] #[])
  fields := #[]
  methods := #[]
  instanceTypes := #[]
  staticTypes := #[]
  resolved := Array.replicate 12 none
  statics := none }

def pool4 : Array CpInfo := pool [(1, .class_ 2), (0, u "java/io/Serializable"), (0, .class_ 4), (0, u "java/lang/Object")] 2

/-- java/io/Serializable -/
def k4 : Class := { plain "java/io/Serializable" (some 0) with
  accessFlags := 1537
  interfaces := #[]
  cf := some (fileOf pool4 1 #[] #[] 1537 3 #[] #[])
  fields := #[]
  methods := #[]
  instanceTypes := #[]
  staticTypes := #[]
  resolved := Array.replicate 7 none
  statics := none }

def pool5 : Array CpInfo := pool [(2, .class_ 4), (1, u "java/lang/Enum"), (0, u "name"), (0, u "Ljava/lang/String;"), (2, u "ordinal"), (0, u "I"), (1, .class_ 14), (1, u "java/lang/Object"), (4, u "hash"), (86, .class_ 108), (1, u "java/lang/Enum$EnumDesc"), (2, .class_ 112), (0, u "java/lang/constant/Constable"), (0, .class_ 114), (0, u "java/lang/Comparable"), (0, .class_ 116), (0, u "java/io/Serializable")] 87

/-- java/lang/Enum -/
def k5 : Class := { plain "java/lang/Enum" (some 0) with
  accessFlags := 1057
  interfaces := #[2, 3, 4]
  cf := some (fileOf pool5 2 #[.nestMembers #[106]] #[] 1057 12 #[111, 113, 115] #[{ accessFlags := 18, nameIndex := 5, descriptorIndex := 6, attributes := #[] }, { accessFlags := 18, nameIndex := 9, descriptorIndex := 10, attributes := #[] }, { accessFlags := 2, nameIndex := 19, descriptorIndex := 10, attributes := #[] }])
  fields := #[{ name := "name", type := (.object "java/lang/String"), accessFlags := 18, slot := 0, constantValue := 0 }, { name := "ordinal", type := .int, accessFlags := 18, slot := 1, constantValue := 0 }, { name := "hash", type := .int, accessFlags := 2, slot := 2, constantValue := 0 }]
  methods := #[]
  instanceTypes := #[(.object "java/lang/String"), .int, .int]
  staticTypes := #[]
  resolved := Array.replicate 204 none
  statics := none }

def pool6 : Array CpInfo := pool [(1, .class_ 2), (0, u "com/example/loomward/loomward/xpath/SequenceType$Occurrence"), (2, u "EXACTLY_ONE"), (0, u "Lcom/example/loomward/loomward/xpath/SequenceType$Occurrence;"), (0, .fieldref 1 8), (0, .nameAndType 9 6), (0, u "ZERO_OR_ONE"), (0, .fieldref 1 11), (0, .nameAndType 12 6), (0, u "ZERO_OR_MORE"), (0, .fieldref 1 14), (0, .nameAndType 15 6), (0, u "ONE_OR_MORE"), (2, u "$VALUES"), (0, u "[Lcom/example/loomward/loomward/xpath/SequenceType$Occurrence;"), (6, .class_ 28), (1, u "java/lang/Enum"), (8, u "indicator"), (0, u "Ljava/lang/String;"), (26, u "allows"), (0, u "(I)Z"), (9, .class_ 77), (0, u "com/example/loomward/loomward/xpath/SequenceType")] 2

def k6c0 : Code := { maxStack := 2, maxLocals := 2, code := prog_124_method_4_code, exceptionTable := #[], attributes := #[] }
def k6m0 : Method := { name := "allows", desc := "(I)Z", sig := { parameters := [.int], returnType := some .boolean }, accessFlags := 0, code := some k6c0 }
/-- com/example/loomward/loomward/xpath/SequenceType$Occurrence -/
def k6 : Class := { plain "com/example/loomward/loomward/xpath/SequenceType$Occurrence" (some 5) with
  accessFlags := 16433
  interfaces := #[]
  cf := some (fileOf pool6 1 #[.nestHost 76] #[{ accessFlags := 0, nameIndex := 65, descriptorIndex := 66, attributes := #[] }] 16433 26 #[] #[{ accessFlags := 16409, nameIndex := 5, descriptorIndex := 6, attributes := #[] }, { accessFlags := 16409, nameIndex := 9, descriptorIndex := 6, attributes := #[] }, { accessFlags := 16409, nameIndex := 12, descriptorIndex := 6, attributes := #[] }, { accessFlags := 16409, nameIndex := 15, descriptorIndex := 6, attributes := #[] }, { accessFlags := 18, nameIndex := 37, descriptorIndex := 38, attributes := #[] }, { accessFlags := 4122, nameIndex := 18, descriptorIndex := 19, attributes := #[] }])
  fields := #[{ name := "EXACTLY_ONE", type := (.object "com/example/loomward/loomward/xpath/SequenceType$Occurrence"), accessFlags := 16409, slot := 0, constantValue := 0 }, { name := "ZERO_OR_ONE", type := (.object "com/example/loomward/loomward/xpath/SequenceType$Occurrence"), accessFlags := 16409, slot := 1, constantValue := 0 }, { name := "ZERO_OR_MORE", type := (.object "com/example/loomward/loomward/xpath/SequenceType$Occurrence"), accessFlags := 16409, slot := 2, constantValue := 0 }, { name := "ONE_OR_MORE", type := (.object "com/example/loomward/loomward/xpath/SequenceType$Occurrence"), accessFlags := 16409, slot := 3, constantValue := 0 }, { name := "indicator", type := (.object "java/lang/String"), accessFlags := 18, slot := 3, constantValue := 0 }, { name := "$VALUES", type := (.array (.object "com/example/loomward/loomward/xpath/SequenceType$Occurrence")), accessFlags := 4122, slot := 4, constantValue := 0 }]
  methods := #[k6m0]
  instanceTypes := #[(.object "java/lang/String"), .int, .int, (.object "java/lang/String")]
  staticTypes := #[(.object "com/example/loomward/loomward/xpath/SequenceType$Occurrence"), (.object "com/example/loomward/loomward/xpath/SequenceType$Occurrence"), (.object "com/example/loomward/loomward/xpath/SequenceType$Occurrence"), (.object "com/example/loomward/loomward/xpath/SequenceType$Occurrence"), (.array (.object "com/example/loomward/loomward/xpath/SequenceType$Occurrence"))]
  resolved := Array.replicate 80 none
  statics := some 0 }

def pool7 : Array CpInfo := pool [(1, u "java/lang/Cloneable"), (0, .class_ 1), (0, u "java/lang/Object"), (0, .class_ 3)] 3

/-- java/lang/Cloneable -/
def k7 : Class := { plain "java/lang/Cloneable" (some 0) with
  accessFlags := 1537
  interfaces := #[]
  cf := some (fileOf pool7 2 #[] #[] 1537 4 #[] #[])
  fields := #[]
  methods := #[]
  instanceTypes := #[]
  staticTypes := #[]
  resolved := Array.replicate 8 none
  statics := none }

/-- the primitive byte -/
def k8 : Class := { plain "byte" none with kind := .primitive 'B', accessFlags := 0x411 }
/-- [B -/
def k9 : Class := { plain "[B" (some 0) with kind := .array 8 .byte, interfaces := #[7, 4], accessFlags := 1041 }

/-- the primitive int -/
def k10 : Class := { plain "int" none with kind := .primitive 'I', accessFlags := 0x411 }
/-- [I -/
def k11 : Class := { plain "[I" (some 0) with kind := .array 10 .int, interfaces := #[7, 4], accessFlags := 1041 }

def heap : Heap := #[{ cls := 6, slots := #[.ref 1, .ref 2, .ref 3, .ref 4, .null], vm := .statics 6 },
  { cls := 6, slots := #[.null, .int 0, .int 0, .null], vm := .none },
  { cls := 6, slots := #[.null, .int 1, .int 0, .null], vm := .none },
  { cls := 6, slots := #[.null, .int 2, .int 0, .null], vm := .none },
  { cls := 6, slots := #[.null, .int 3, .int 0, .null], vm := .none }]
def classes : Array Class := #[k0, k1, k2, k3, k4, k5, k6, k7, k8, k9, k10, k11]
def interned : List (Array UInt16 × Addr) := []
def slotsUsed : Nat := 21
def theMethod : MethodId := ⟨1, 1⟩
def args0 : Array Value := #[.int 5, .int 6, .int 7]
def aboutOver (below : List Frame) : State where
  vm := { classes := classes, interned := interned.toArray }
  heap := heap
  slotsUsed := slotsUsed
  threads := #[{ frames := .invoking theMethod args0 :: below }]
def below0 : List Frame := [.native { method := ⟨0, 0⟩, args := #[] }]
def about1 : State := aboutOver below0
def p0 : Program := .bare "" "" ""
def e0 : Env := launch0.env 0 0 0
theorem w_frames : about1.frames = Frame.invoking theMethod args0 :: below0 := rfl
set_option maxRecDepth 65536 in
theorem w_args : argsFit about1.vm theMethod args0 = true := by decide +kernel
set_option maxRecDepth 65536 in
theorem w_heap : heapFits about1 = true := by decide +kernel
set_option maxRecDepth 65536 in
theorem w_runnable : about1.curStatus? = some .runnable := by decide +kernel
set_option maxRecDepth 65536 in
theorem w_alone : about1.alone = true := by decide +kernel
set_option maxRecDepth 65536 in
theorem w_named : about1.methodNamed? x = some theMethod := by decide +kernel
set_option maxRecDepth 65536 in
theorem w_hears : about1.hears theMethod below0 = true := by decide +kernel
set_option maxRecDepth 65536 in
theorem w_ripe : about1.ripe theMethod args0 below0 = true := by decide +kernel
theorem w_running : about1.status = .running := rfl
set_option maxRecDepth 65536 in
theorem w_room : about1.hasRoom e0.platform room_1 = true :=
  launch0.hasRoom_least _ room_1 (by decide +kernel) (by decide +kernel) (by decide +kernel) (by decide +kernel) (by decide +kernel) (by decide +kernel)
theorem allAtoms_all (ts : List Jvm.Cond) (a : Array Jvm.Value) (st : Jvm.State) : (allAtoms ts).before a st = ts.all (fun c => c.before a st) := by
  induction ts with
  | nil => rfl
  | cons c t ih =>
    show (Jvm.Cond.and c (allAtoms t)).before a st = _
    rw [Jvm.Cond.before_and, ih, List.all_cons]
def words1 : List Jvm.Cond := Jvm.Cond.code x code maxLocals ret :: tables_1
/-- a 'code' word, met by the world's own term for the bytes: nothing is compared byte by byte -/
theorem code_word {y : MethodName} {bytes : ByteArray} {mx : Nat} {rt : Option FieldType} {a : Array Value} {s : State} {m : MethodId} {meth : Method} {c : Code} (h1 : s.methodNamed? y = some m) (h2 : s.vm.method? m = some meth) (h3 : meth.code = some c) (h4 : c.code = bytes)
    (h5 : (c.maxLocals == mx && c.exceptionTable.isEmpty && decide (c.maxStack ≤ mostOperands) && decide (meth.sig.returnType = rt) && !meth.locks && decide (parseMethodDescriptor y.desc = some meth.sig)) = true) : (Jvm.Cond.code y bytes mx rt).before a s = true := by
  simp only [Bool.and_eq_true, beq_iff_eq, Bool.not_eq_true', decide_eq_true_eq] at h5
  obtain ⟨⟨⟨⟨⟨g1, g2⟩, g3⟩, g4⟩, g5⟩, g6⟩ := h5
  simp [Cond.before, Cond.holds, Cond.value, h1, h2, h3, h4, g1, g2, g3, g4, g5, g6]
def isCode : Jvm.Cond → Bool
  | .code _ _ _ _ => true
  | _ => false
theorem all_split {L : List Jvm.Cond} {P : Jvm.Cond → Bool} (h1 : L.all (fun c => isCode c || P c) = true) (h2 : ∀ c ∈ L.filter isCode, P c = true) : L.all P = true := by
  refine List.all_eq_true.mpr fun c hc => ?_
  have h := List.all_eq_true.mp h1 c hc
  rcases Bool.eq_false_or_eq_true (isCode c) with hi | hi
  · exact h2 c (List.mem_filter.mpr ⟨hc, hi⟩)
  · simpa [hi] using h
set_option maxRecDepth 65536 in
theorem w_c0 : (Jvm.Cond.code x code maxLocals ret).before args0 about1 = true := code_word (m := ⟨1, 1⟩) (meth := k1m1) (c := k1c1) (by decide +kernel) rfl rfl rfl (by decide +kernel)
set_option maxRecDepth 65536 in
theorem w_c1 : (Jvm.Cond.code ({ cls := "com/example/loomward/loomward/xpath/SequenceType$Occurrence", name := "allows", desc := "(I)Z" } : Jvm.MethodName) prog_124_method_4_code (2 : Nat) (Option.some Jvm.ClassFile.FieldType.boolean)).before args0 about1 = true := code_word (m := ⟨6, 0⟩) (meth := k6m0) (c := k6c0) (by decide +kernel) rfl rfl rfl (by decide +kernel)
def codes1 : List Jvm.Cond := [Jvm.Cond.code x code maxLocals ret, Jvm.Cond.code ({ cls := "com/example/loomward/loomward/xpath/SequenceType$Occurrence", name := "allows", desc := "(I)Z" } : Jvm.MethodName) prog_124_method_4_code (2 : Nat) (Option.some Jvm.ClassFile.FieldType.boolean)]
set_option maxRecDepth 65536 in
theorem codes_eq : words1.filter isCode = codes1 := rfl
theorem w_codes : ∀ c ∈ words1.filter isCode, c.before args0 about1 = true := by
  rw [codes_eq]
  intro c hc
  simp only [codes1, List.mem_cons, List.not_mem_nil, or_false] at hc
  rcases hc with rfl | rfl
  · exact w_c0
  · exact w_c1
set_option maxRecDepth 65536 in
theorem w_t1 : words1.all (fun c => isCode c || c.before args0 about1) = true := by decide +kernel
theorem w_tables : (allAtoms (Jvm.Cond.code x code maxLocals ret :: tables_1)).before args0 about1 = true := by
  rw [allAtoms_all]
  show words1.all (fun c => c.before args0 about1) = true
  refine all_split ?_ w_codes
  rw [w_t1]
set_option maxRecDepth 65536 in
theorem w_case : (Jvm.Cond.and given_1 narrow_1).before args0 about1 = true := by decide +kernel
theorem w_applies : (headSpec (Jvm.Cond.code x code maxLocals ret :: tables_1) room_1).applies x e0.platform about1 = true :=
  (Spec.applies_iff w_frames).mpr ⟨w_running, w_runnable, w_alone, w_named, w_hears, w_ripe, w_room, w_tables⟩
theorem atStart : AtStart classFile x code maxLocals ret World_1 tables_1 room_1 Calls_1 rest_1 Pre_1 launch0 p0 e0 about1 theMethod args0 below0 :=
  ⟨lists_1, trivial, launch0.admits_env _ _ _, launch0.least_env, fairChoices_fair.cas, fairChoices_fair.clock, w_frames, w_args, w_heap, w_applies, trivial, trivial, w_case⟩
end start1
theorem witness_1 : WitnessClaimed_1 := ⟨start1.p0, start1.e0, start1.about1, start1.theMethod, start1.args0, start1.below0, start1.atStart⟩
end Jvm.Pilot.@@N@@
